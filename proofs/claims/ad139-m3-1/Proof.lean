import JvmDerived
import JvmDerived.Pilot.@@N@@Statement
import JvmDerived.Pilot.@@N@@Code
set_option linter.unusedVariables false
set_option linter.unusedSimpArgs false
namespace Jvm.RoadKit
open Sem ClassFile Op Lib Jvm.Stand Jvm.Free Jvm.LawKit
section New
variable {p : Program} {l : Launch} {e : Env} {R : Room} {s : State} {m : MethodId} {args : Array Value} {below : List Frame} {meth : Method} {c : Code} {T : State} {locs : List Loc} {cells slots : Nat}
theorem retI (X : Stand p l e R s m args below meth c T locs cells slots) (hx : p.tables.exec = Jvm.exec) {pc : Nat} {Ls : Array Slot} {z : Int32} {rest : List Value} (hret : meth.sig.returnType = some .int) (hd : decode c.code pc = .ok (.ireturn, 1)) {fs : List Frame}
    (hl : ∀ (f : JFrame) (acts : List Action), f.method = m → f.locked = none → f.entered = [] → (doReturn e (T.setTop f) acts (some (.int z))).1 = T.setFrames fs) : Steps p.tables e below (T.setTop (mkF m pc Ls (.int z :: rest))) (T.setFrames fs) := by
  have hm' : T.vm.method? m = some meth := X.method'
  have hn : narrow .int (.int z) = .int z := rfl
  show Steps p.tables e below (T.setTop { method := m, pc := pc, locals := Ls, stack := _ :: rest, locked := none }) _
  jvm_step X.here [X.here.top, hx, hd, hm', hret, hn]
  first | (intro acts; rw [hl _ acts rfl rfl rfl]) | rw [hl _ _ rfl rfl rfl]
  exact Steps.refl _
theorem retJ (X : Stand p l e R s m args below meth c T locs cells slots) (hx : p.tables.exec = Jvm.exec) {pc : Nat} {Ls : Array Slot} {z : Int64} {rest : List Value} (hret : meth.sig.returnType = some .long) (hd : decode c.code pc = .ok (.lreturn, 1)) {fs : List Frame}
    (hl : ∀ (f : JFrame) (acts : List Action), f.method = m → f.locked = none → f.entered = [] → (doReturn e (T.setTop f) acts (some (.long z))).1 = T.setFrames fs) : Steps p.tables e below (T.setTop (mkF m pc Ls (.long z :: rest))) (T.setFrames fs) := by
  have hm' : T.vm.method? m = some meth := X.method'
  show Steps p.tables e below (T.setTop { method := m, pc := pc, locals := Ls, stack := _ :: rest, locked := none }) _
  jvm_step X.here [X.here.top, hx, hd, hm', hret]
  first | (intro acts; rw [hl _ acts rfl rfl rfl]) | rw [hl _ _ rfl rfl rfl]
  exact Steps.refl _
theorem retR (X : Stand p l e R s m args below meth c T locs cells slots) (hx : p.tables.exec = Jvm.exec) {pc : Nat} {Ls : Array Slot} {z : Addr} {t : FieldType} {rest : List Value} (hret : meth.sig.returnType = some t) (ht : t.isReference = true) (hd : decode c.code pc = .ok (.areturn, 1)) {fs : List Frame}
    (hl : ∀ (f : JFrame) (acts : List Action), f.method = m → f.locked = none → f.entered = [] → (doReturn e (T.setTop f) acts (some (.ref z))).1 = T.setFrames fs) : Steps p.tables e below (T.setTop (mkF m pc Ls (.ref z :: rest))) (T.setFrames fs) := by
  have hm' : T.vm.method? m = some meth := X.method'
  show Steps p.tables e below (T.setTop { method := m, pc := pc, locals := Ls, stack := _ :: rest, locked := none }) _
  jvm_step X.here [X.here.top, hx, hd, hm', hret, Value.isRef, ht]
  first | (intro acts; rw [hl _ acts rfl rfl rfl]) | rw [hl _ _ rfl rfl rfl]
  exact Steps.refl _
end New
end Jvm.RoadKit
namespace Jvm.Pilot.@@N@@
open Jvm Jvm.ClassFile Sem Op Lib Jvm.Free Jvm.Stand Jvm.LawKit Jvm.RoadKit Bundle Jvm.Pilot.@@N@@.Jvm.D
/-- from the frame g, where T stands, the body comes to its end, and its end is as QQ says -/
def own_End (p : Program) (e : Env) (below : List Frame) (s : State) (QQ : Option Value → Heap → List Loc → Prop) (rc rs : Nat) (T : State) (g : JFrame) : Prop :=
  ∃ s₂ o, Steps p.tables e below (T.setTop g) s₂ ∧ s₂.status = .running ∧ Ended s₂ below o ∧ ∃ v L, o = .returned v ∧ QQ v s₂.heap L ∧ FrameEnd s o s₂ L rc rs
section Own
variable {p : Program} {l : Launch} {e : Env} {R : Room} {s : State} {m : MethodId} {args : Array Value} {below : List Frame} {meth : Method} {c : Code} {T T' : State} {locs : List Loc} {cells slots : Nat} {QQ : Option Value → Heap → List Loc → Prop} {rc rs : Nat}
theorem own_End.go {g g' : JFrame} (st : ∀ t, Steps p.tables e below (T'.setTop g') t → Steps p.tables e below (T.setTop g) t) (h : own_End p e below s QQ rc rs T' g') : own_End p e below s QQ rc rs T g := by
  obtain ⟨s2, o, a, b⟩ := h
  exact ⟨s2, o, st _ a, b⟩
theorem own_leafI (X : Stand p l e R s m args below meth c T locs cells slots) (hx : p.tables.exec = Jvm.exec) (hk : meth.locks = false) {pc : Nat} {Ls : Array Slot} {z : Int32} {rest : List Value} (hret : meth.sig.returnType = some .int) (hd : decode c.code pc = .ok (.ireturn, 1)) (hq : QQ (some (.int z)) T.heap locs) (h1 : cells ≤ rc) (h2 : slots ≤ rs) : own_End p e below s QQ rc rs T (mkF m pc Ls (.int z :: rest)) := by
  obtain ⟨fs, hr, hrun, hended, hW, hsame⟩ := X.leave (v := some (.int z)) (fun h => by rw [hret] at h; cases h) hk
  exact ⟨_, _, retI X hx hret hd hr, hrun, hended, _, _, rfl, hq, ⟨_, rfl⟩, hW, hsame.mono h1 h2⟩
theorem own_leafN (X : Stand p l e R s m args below meth c T locs cells slots) (hx : p.tables.exec = Jvm.exec) (hk : meth.locks = false) {pc : Nat} {Ls : Array Slot} {z : Int32} {t : FieldType} {rest : List Value} (hret : meth.sig.returnType = some t) (ht : t = .boolean ∨ t = .byte ∨ t = .char ∨ t = .short) (hd : decode c.code pc = .ok (.ireturn, 1)) (hq : QQ (some (.int (nar t z))) T.heap locs) (h1 : cells ≤ rc) (h2 : slots ≤ rs) : own_End p e below s QQ rc rs T (mkF m pc Ls (.int z :: rest)) := by
  obtain ⟨fs, hr, hrun, hended, hW, hsame⟩ := X.leave (v := some (.int (nar t z))) (fun h => by rw [hret] at h; cases h) hk
  exact ⟨_, _, retN X hx hret ht hd hr, hrun, hended, _, _, rfl, hq, ⟨_, rfl⟩, hW, hsame.mono h1 h2⟩
theorem own_leafJ (X : Stand p l e R s m args below meth c T locs cells slots) (hx : p.tables.exec = Jvm.exec) (hk : meth.locks = false) {pc : Nat} {Ls : Array Slot} {z : Int64} {rest : List Value} (hret : meth.sig.returnType = some .long) (hd : decode c.code pc = .ok (.lreturn, 1)) (hq : QQ (some (.long z)) T.heap locs) (h1 : cells ≤ rc) (h2 : slots ≤ rs) : own_End p e below s QQ rc rs T (mkF m pc Ls (.long z :: rest)) := by
  obtain ⟨fs, hr, hrun, hended, hW, hsame⟩ := X.leave (v := some (.long z)) (fun h => by rw [hret] at h; cases h) hk
  exact ⟨_, _, retJ X hx hret hd hr, hrun, hended, _, _, rfl, hq, ⟨_, rfl⟩, hW, hsame.mono h1 h2⟩
theorem own_leafR (X : Stand p l e R s m args below meth c T locs cells slots) (hx : p.tables.exec = Jvm.exec) (hk : meth.locks = false) {pc : Nat} {Ls : Array Slot} {z : Addr} {t : FieldType} {rest : List Value} (hret : meth.sig.returnType = some t) (ht : t.isReference = true) (hd : decode c.code pc = .ok (.areturn, 1)) (hq : QQ (some (.ref z)) T.heap locs) (h1 : cells ≤ rc) (h2 : slots ≤ rs) : own_End p e below s QQ rc rs T (mkF m pc Ls (.ref z :: rest)) := by
  obtain ⟨fs, hr, hrun, hended, hW, hsame⟩ := X.leave (v := some (.ref z)) (fun h => by rw [hret] at h; cases h) hk
  exact ⟨_, _, retR X hx hret ht hd hr, hrun, hended, _, _, rfl, hq, ⟨_, rfl⟩, hW, hsame.mono h1 h2⟩
theorem own_leafV (X : Stand p l e R s m args below meth c T locs cells slots) (hx : p.tables.exec = Jvm.exec) (hk : meth.locks = false) {pc : Nat} {Ls : Array Slot} (hret : meth.sig.returnType = none) (hd : decode c.code pc = .ok (.return_, 1)) (hq : QQ none T.heap locs) (h1 : cells ≤ rc) (h2 : slots ≤ rs) : own_End p e below s QQ rc rs T (mkF m pc Ls []) := by
  obtain ⟨fs, hr, hrun, hended, hW, hsame⟩ := X.leave (v := none) (fun _ => rfl) hk
  exact ⟨_, _, X.returnOut hx hret hd hr, hrun, hended, _, _, rfl, hq, ⟨_, rfl⟩, hW, hsame.mono h1 h2⟩
end Own
theorem own_nb0 : nar .boolean (0 : Int32) = 0 := by decide
theorem own_nb1 : nar .boolean (1 : Int32) = 1 := by decide
theorem own_oneif {P : Prop} [Decidable P] {x y : Slot} (hx : One x) (hy : One y) : One (if P then x else y) := by split <;> assumption

theorem own_pd0 : parseMethodDescriptor "(I)Z" = some ⟨[.int], some .boolean⟩ := by decide +kernel
theorem own_d1_0 : decode method_2_code 0 = .ok (.iload_n 0, 1) := by decide +kernel
theorem own_d1_1 : decode method_2_code 1 = .ok (.i2l, 1) := by decide +kernel
theorem own_d1_2 : decode method_2_code 2 = .ok (.ldc2_w 7, 3) := by decide +kernel
theorem own_d1_5 : decode method_2_code 5 = .ok (.lsub, 1) := by decide +kernel
theorem own_d1_6 : decode method_2_code 6 = .ok (.lstore_n 1, 1) := by decide +kernel
theorem own_d1_7 : decode method_2_code 7 = .ok (.lload_n 1, 1) := by decide +kernel
theorem own_d1_8 : decode method_2_code 8 = .ok (.lconst 0, 1) := by decide +kernel
theorem own_d1_9 : decode method_2_code 9 = .ok (.lcmp, 1) := by decide +kernel
theorem own_d1_10 : decode method_2_code 10 = .ok (.ifCond .lt 15, 3) := by decide +kernel
theorem own_d1_13 : decode method_2_code 13 = .ok (.lload_n 1, 1) := by decide +kernel
theorem own_d1_14 : decode method_2_code 14 = .ok (.ldc2_w 9, 3) := by decide +kernel
theorem own_d1_17 : decode method_2_code 17 = .ok (.lcmp, 1) := by decide +kernel
theorem own_d1_18 : decode method_2_code 18 = .ok (.ifCond .ge 7, 3) := by decide +kernel
theorem own_d1_21 : decode method_2_code 21 = .ok (.iconst 1, 1) := by decide +kernel
theorem own_d1_22 : decode method_2_code 22 = .ok (.goto 4, 3) := by decide +kernel
theorem own_d1_25 : decode method_2_code 25 = .ok (.iconst 0, 1) := by decide +kernel
theorem own_d1_26 : decode method_2_code 26 = .ok (.ireturn, 1) := by decide +kernel
theorem own_pn1 : plainName "com/example/kazalo/kazalo/records/RecordTagCharacterPinLaw" = true := by first | (simp [plainName, overriddenIn]; done) | decide +kernel
theorem own_ef1 (m : MethodId) (p0 : Int32) : entryFrame m #[(.int p0)] 3 = mkF m 0 #[.val (.int p0), .unset, .unset] [] := by first | (simp [entryFrame, mkF, argsToLocals, Value.category]; done) | rfl
abbrev own_R1 : Room := { frames := 0, cells := 0, slots := 0, locals := 0 }
def own_F1 (p0 : Int32) : Int32 :=
  let v1 : Int64 := ((p0.toInt64) - (48 : Int64))
  if v1 < (0 : Int64) then
    (0 : Int32)
  else
    if v1 < (10 : Int64) then
      (1 : Int32)
    else
      (0 : Int32)
def own_Q1 (p0 : Int32) (h0 : Heap) (v : Option Value) (h : Heap) (L : List Loc) : Prop :=  v = some (.int (own_F1 p0)) ∧ L = [] ∧ h = h0
set_option maxRecDepth 65536 in
set_option maxHeartbeats 40000000 in
theorem own_rm1 (l : Launch) (Z : State) (a0 : Array Value) (hw : ∀ d ∈ tables_1, d.before a0 Z = true) (ws : List Jvm.Cond) (p0 : Int32) (h0 : Heap) :
    MetFree l (⟨"com/example/kazalo/kazalo/records/RecordTagCharacterPinLaw", "isAsciiDigit", "(I)Z"⟩ : MethodName) (head1 (Jvm.Cond.code (⟨"com/example/kazalo/kazalo/records/RecordTagCharacterPinLaw", "isAsciiDigit", "(I)Z"⟩ : MethodName) method_2_code 3 (some .boolean) :: ws) own_R1) (fun a U => a = #[(.int p0)] ∧ Z.Warmed39 U.vm ∧ U.heap = h0) (fun _ _ _ _ _ => True) (fun _ U o U' => ∃ v L, o = .returned v ∧ own_Q1 p0 h0 v U'.heap L ∧ FrameEnd U o U' L own_R1.cells own_R1.slots) := by
  refine MetFree.of_bodySF (plainFor_of_name own_pn1) hisR ?_
  intro p e s m args below meth c s₁ Bd hml0 hP hK
  obtain ⟨rfl, hZ, hh⟩ := hP
  have hx := Bd.exec
  have hby := Bd.bytes
  have hml : c.maxLocals = 3 := hml0
  have hown : s.vm.findClass "com/example/kazalo/kazalo/records/RecordTagCharacterPinLaw" = some m.cls := findClass_of_methodNamed Bd.named
  have hnm := (name_of_methodNamed Bd.named Bd.method).1
  have X0 : Stand p l e own_R1 s m #[(.int p0)] below meth c s₁ [] 0 0 := Stand.of_body Bd
  have e0 : s₁.heap = h0 := by rw [← hh, Bd.state]; rfl
  show own_End p e below s (fun v h L => v = some (.int (own_F1 p0)) ∧ L = [] ∧ h = h0) own_R1.cells own_R1.slots s₁ (entryFrame m #[(.int p0)] 3)
  refine own_End.go (fun t k => castTop (own_ef1 m p0) k) ?_
  show own_End p e below s _ _ _ s₁ (mkF m 0 #[.val (.int p0), .unset, .unset] [])
  obtain ⟨v1, hv1⟩ : ∃ z : Int64, z = ((p0.toInt64) - (48 : Int64)) := ⟨_, rfl⟩
  have st2 : ∀ t, Steps p.tables e below (s₁.setTop (mkF m 7 #[.val (.int p0), .val (.long v1), .second] [])) t → Steps p.tables e below (s₁.setTop (mkF m 0 #[.val (.int p0), .unset, .unset] [])) t := by
    rw [hv1]
    intro t k
    show Steps p.tables e below (s₁.setTop (mkF m 0 #[.val (.int p0), .unset, .unset] [])) _
    refine XS.iloadN X0.here hx rfl (hb hby own_d1_0) rfl ?_
    show Steps p.tables e below (s₁.setTop (mkF m 1 #[.val (.int p0), .unset, .unset] [(.int p0)])) _
    refine XS.i2l X0.here hx rfl (hb hby own_d1_1) rfl ?_
    show Steps p.tables e below (s₁.setTop (mkF m 2 #[.val (.int p0), .unset, .unset] [(.long (p0.toInt64))])) _
    refine X0.ldc2Long hx hown (mvT hZ (hw _ (List.mem_of_getElem? (i := 4) rfl))) (g := (mkF m 2 #[.val (.int p0), .unset, .unset] [(.long (p0.toInt64))])) rfl (hb hby own_d1_2) _ ?_
    show Steps p.tables e below (s₁.setTop (mkF m 5 #[.val (.int p0), .unset, .unset] [(.long (48 : Int64)), (.long (p0.toInt64))])) _
    refine XS.lsub X0.here hx rfl (hb hby own_d1_5) rfl ?_
    show Steps p.tables e below (s₁.setTop (mkF m 6 #[.val (.int p0), .unset, .unset] [(.long ((p0.toInt64) - (48 : Int64)))])) _
    refine XS.lstoreN X0.here hx rfl (hb hby own_d1_6) rfl (l' := #[.val (.int p0), .val (.long ((p0.toInt64) - (48 : Int64))), .second]) rfl ?_
    exact k
  have st3 : ∀ t, Steps p.tables e below (s₁.setTop (mkF m 10 #[.val (.int p0), .val (.long v1), .second] [(.int (lcmpW v1 (0 : Int64)))])) t → Steps p.tables e below (s₁.setTop (mkF m 7 #[.val (.int p0), .val (.long v1), .second] [])) t := by
    intro t k
    show Steps p.tables e below (s₁.setTop (mkF m 7 #[.val (.int p0), .val (.long v1), .second] [])) _
    refine XS.lloadN X0.here hx rfl (hb hby own_d1_7) rfl ?_
    show Steps p.tables e below (s₁.setTop (mkF m 8 #[.val (.int p0), .val (.long v1), .second] [(.long v1)])) _
    refine XS.lconst X0.here hx rfl (hb hby own_d1_8) ?_
    show Steps p.tables e below (s₁.setTop (mkF m 9 #[.val (.int p0), .val (.long v1), .second] [(.long (0 : Int64)), (.long v1)])) _
    refine XS.lcmp X0.here hx rfl (hb hby own_d1_9) rfl ?_
    exact k
  refine own_End.go (fun t k => st2 _ (st3 _ k)) ?_
  by_cases hc10_4 : v1 < (0 : Int64)
  · have st5 : ∀ t, Steps p.tables e below (s₁.setTop (mkF m 26 #[.val (.int p0), .val (.long v1), .second] [(.int (0 : Int32))])) t → Steps p.tables e below (s₁.setTop (mkF m 10 #[.val (.int p0), .val (.long v1), .second] [(.int (lcmpW v1 (0 : Int64)))])) t := by
      intro t k
      show Steps p.tables e below (s₁.setTop (mkF m 10 #[.val (.int p0), .val (.long v1), .second] [(.int (lcmpW v1 (0 : Int64)))])) _
      refine XS.ifYes X0.here hx rfl (pc0 := 10) (pc' := 25) rfl (hb hby own_d1_10) rfl ((if0 _ _).trans (tlt ((lw_lt v1 (0 : Int64)).mpr hc10_4)).1) (by decide) (by decide) ?_
      show Steps p.tables e below (s₁.setTop (mkF m 25 #[.val (.int p0), .val (.long v1), .second] [])) _
      refine XS.iconst X0.here hx rfl (hb hby own_d1_25) ?_
      exact k
    refine own_End.go (fun t k => st5 _ k) ?_
    exact own_leafN X0 hx Bd.notSynchronized (t := .boolean) Bd.returns (by simp) (hb hby own_d1_26) ⟨congrArg (fun z => some (Value.int z)) (by
        subst hv1; simp only [own_F1, own_nb0, own_nb1, if_pos hc10_4]), rfl, e0⟩ (by decide) (by decide)
  · have st6 : ∀ t, Steps p.tables e below (s₁.setTop (mkF m 18 #[.val (.int p0), .val (.long v1), .second] [(.int (lcmpW v1 (10 : Int64)))])) t → Steps p.tables e below (s₁.setTop (mkF m 10 #[.val (.int p0), .val (.long v1), .second] [(.int (lcmpW v1 (0 : Int64)))])) t := by
      intro t k
      show Steps p.tables e below (s₁.setTop (mkF m 10 #[.val (.int p0), .val (.long v1), .second] [(.int (lcmpW v1 (0 : Int64)))])) _
      refine XS.ifNo X0.here hx rfl (hb hby own_d1_10) rfl ((if0 _ _).trans (flt (mt (lw_lt v1 (0 : Int64)).mp hc10_4)).1) ?_
      show Steps p.tables e below (s₁.setTop (mkF m 13 #[.val (.int p0), .val (.long v1), .second] [])) _
      refine XS.lloadN X0.here hx rfl (hb hby own_d1_13) rfl ?_
      show Steps p.tables e below (s₁.setTop (mkF m 14 #[.val (.int p0), .val (.long v1), .second] [(.long v1)])) _
      refine X0.ldc2Long hx hown (mvT hZ (hw _ (List.mem_of_getElem? (i := 12) rfl))) (g := (mkF m 14 #[.val (.int p0), .val (.long v1), .second] [(.long v1)])) rfl (hb hby own_d1_14) _ ?_
      show Steps p.tables e below (s₁.setTop (mkF m 17 #[.val (.int p0), .val (.long v1), .second] [(.long (10 : Int64)), (.long v1)])) _
      refine XS.lcmp X0.here hx rfl (hb hby own_d1_17) rfl ?_
      exact k
    refine own_End.go (fun t k => st6 _ k) ?_
    by_cases hc18_7 : v1 < (10 : Int64)
    · have st8 : ∀ t, Steps p.tables e below (s₁.setTop (mkF m 26 #[.val (.int p0), .val (.long v1), .second] [(.int (1 : Int32))])) t → Steps p.tables e below (s₁.setTop (mkF m 18 #[.val (.int p0), .val (.long v1), .second] [(.int (lcmpW v1 (10 : Int64)))])) t := by
        intro t k
        show Steps p.tables e below (s₁.setTop (mkF m 18 #[.val (.int p0), .val (.long v1), .second] [(.int (lcmpW v1 (10 : Int64)))])) _
        refine XS.ifNo X0.here hx rfl (hb hby own_d1_18) rfl ((if0 _ _).trans (tlt ((lw_lt v1 (10 : Int64)).mpr hc18_7)).2.1) ?_
        show Steps p.tables e below (s₁.setTop (mkF m 21 #[.val (.int p0), .val (.long v1), .second] [])) _
        refine XS.iconst X0.here hx rfl (hb hby own_d1_21) ?_
        show Steps p.tables e below (s₁.setTop (mkF m 22 #[.val (.int p0), .val (.long v1), .second] [(.int (1 : Int32))])) _
        refine XS.goto X0.here hx rfl (pc0 := 22) (pc' := 26) rfl (hb hby own_d1_22) (by decide) (by decide) ?_
        exact k
      refine own_End.go (fun t k => st8 _ k) ?_
      exact own_leafN X0 hx Bd.notSynchronized (t := .boolean) Bd.returns (by simp) (hb hby own_d1_26) ⟨congrArg (fun z => some (Value.int z)) (by
          subst hv1; simp only [own_F1, own_nb0, own_nb1, if_neg hc10_4, if_pos hc18_7]), rfl, e0⟩ (by decide) (by decide)
    · have st9 : ∀ t, Steps p.tables e below (s₁.setTop (mkF m 26 #[.val (.int p0), .val (.long v1), .second] [(.int (0 : Int32))])) t → Steps p.tables e below (s₁.setTop (mkF m 18 #[.val (.int p0), .val (.long v1), .second] [(.int (lcmpW v1 (10 : Int64)))])) t := by
        intro t k
        show Steps p.tables e below (s₁.setTop (mkF m 18 #[.val (.int p0), .val (.long v1), .second] [(.int (lcmpW v1 (10 : Int64)))])) _
        refine XS.ifYes X0.here hx rfl (pc0 := 18) (pc' := 25) rfl (hb hby own_d1_18) rfl ((if0 _ _).trans (flt (mt (lw_lt v1 (10 : Int64)).mp hc18_7)).2.1) (by decide) (by decide) ?_
        show Steps p.tables e below (s₁.setTop (mkF m 25 #[.val (.int p0), .val (.long v1), .second] [])) _
        refine XS.iconst X0.here hx rfl (hb hby own_d1_25) ?_
        exact k
      refine own_End.go (fun t k => st9 _ k) ?_
      exact own_leafN X0 hx Bd.notSynchronized (t := .boolean) Bd.returns (by simp) (hb hby own_d1_26) ⟨congrArg (fun z => some (Value.int z)) (by
          subst hv1; simp only [own_F1, own_nb0, own_nb1, if_neg hc10_4, if_neg hc18_7]), rfl, e0⟩ (by decide) (by decide)
theorem own_d2_0 : decode method_3_code 0 = .ok (.iload_n 0, 1) := by decide +kernel
theorem own_d2_1 : decode method_3_code 1 = .ok (.bipush 32, 2) := by decide +kernel
theorem own_d2_3 : decode method_3_code 3 = .ok (.ior, 1) := by decide +kernel
theorem own_d2_4 : decode method_3_code 4 = .ok (.istore_n 1, 1) := by decide +kernel
theorem own_d2_5 : decode method_3_code 5 = .ok (.iload_n 1, 1) := by decide +kernel
theorem own_d2_6 : decode method_3_code 6 = .ok (.bipush 97, 2) := by decide +kernel
theorem own_d2_8 : decode method_3_code 8 = .ok (.if_icmp .lt 13, 3) := by decide +kernel
theorem own_d2_11 : decode method_3_code 11 = .ok (.iload_n 1, 1) := by decide +kernel
theorem own_d2_12 : decode method_3_code 12 = .ok (.bipush 122, 2) := by decide +kernel
theorem own_d2_14 : decode method_3_code 14 = .ok (.if_icmp .gt 7, 3) := by decide +kernel
theorem own_d2_17 : decode method_3_code 17 = .ok (.iconst 1, 1) := by decide +kernel
theorem own_d2_18 : decode method_3_code 18 = .ok (.goto 4, 3) := by decide +kernel
theorem own_d2_21 : decode method_3_code 21 = .ok (.iconst 0, 1) := by decide +kernel
theorem own_d2_22 : decode method_3_code 22 = .ok (.ireturn, 1) := by decide +kernel
theorem own_pn2 : plainName "com/example/kazalo/kazalo/records/RecordTagCharacterPinLaw" = true := by first | (simp [plainName, overriddenIn]; done) | decide +kernel
theorem own_ef2 (m : MethodId) (p0 : Int32) : entryFrame m #[(.int p0)] 2 = mkF m 0 #[.val (.int p0), .unset] [] := by first | (simp [entryFrame, mkF, argsToLocals, Value.category]; done) | rfl
abbrev own_R2 : Room := { frames := 0, cells := 0, slots := 0, locals := 0 }
def own_F2 (p0 : Int32) : Int32 :=
  let v1 : Int32 := (p0 ||| (32 : Int32))
  if v1 < (97 : Int32) then
    (0 : Int32)
  else
    if (122 : Int32) < v1 then
      (0 : Int32)
    else
      (1 : Int32)
def own_Q2 (p0 : Int32) (h0 : Heap) (v : Option Value) (h : Heap) (L : List Loc) : Prop :=  v = some (.int (own_F2 p0)) ∧ L = [] ∧ h = h0
set_option maxRecDepth 65536 in
set_option maxHeartbeats 40000000 in
theorem own_rm2 (l : Launch) (Z : State) (a0 : Array Value) (hw : ∀ d ∈ tables_1, d.before a0 Z = true) (ws : List Jvm.Cond) (p0 : Int32) (h0 : Heap) :
    MetFree l (⟨"com/example/kazalo/kazalo/records/RecordTagCharacterPinLaw", "isAsciiLetter", "(I)Z"⟩ : MethodName) (head1 (Jvm.Cond.code (⟨"com/example/kazalo/kazalo/records/RecordTagCharacterPinLaw", "isAsciiLetter", "(I)Z"⟩ : MethodName) method_3_code 2 (some .boolean) :: ws) own_R2) (fun a U => a = #[(.int p0)] ∧ Z.Warmed39 U.vm ∧ U.heap = h0) (fun _ _ _ _ _ => True) (fun _ U o U' => ∃ v L, o = .returned v ∧ own_Q2 p0 h0 v U'.heap L ∧ FrameEnd U o U' L own_R2.cells own_R2.slots) := by
  refine MetFree.of_bodySF (plainFor_of_name own_pn2) hisR ?_
  intro p e s m args below meth c s₁ Bd hml0 hP hK
  obtain ⟨rfl, hZ, hh⟩ := hP
  have hx := Bd.exec
  have hby := Bd.bytes
  have hml : c.maxLocals = 2 := hml0
  have hown : s.vm.findClass "com/example/kazalo/kazalo/records/RecordTagCharacterPinLaw" = some m.cls := findClass_of_methodNamed Bd.named
  have hnm := (name_of_methodNamed Bd.named Bd.method).1
  have X0 : Stand p l e own_R2 s m #[(.int p0)] below meth c s₁ [] 0 0 := Stand.of_body Bd
  have e0 : s₁.heap = h0 := by rw [← hh, Bd.state]; rfl
  show own_End p e below s (fun v h L => v = some (.int (own_F2 p0)) ∧ L = [] ∧ h = h0) own_R2.cells own_R2.slots s₁ (entryFrame m #[(.int p0)] 2)
  refine own_End.go (fun t k => castTop (own_ef2 m p0) k) ?_
  show own_End p e below s _ _ _ s₁ (mkF m 0 #[.val (.int p0), .unset] [])
  obtain ⟨v1, hv1⟩ : ∃ z : Int32, z = (p0 ||| (32 : Int32)) := ⟨_, rfl⟩
  have st2 : ∀ t, Steps p.tables e below (s₁.setTop (mkF m 5 #[.val (.int p0), .val (.int v1)] [])) t → Steps p.tables e below (s₁.setTop (mkF m 0 #[.val (.int p0), .unset] [])) t := by
    rw [hv1]
    intro t k
    show Steps p.tables e below (s₁.setTop (mkF m 0 #[.val (.int p0), .unset] [])) _
    refine XS.iloadN X0.here hx rfl (hb hby own_d2_0) rfl ?_
    show Steps p.tables e below (s₁.setTop (mkF m 1 #[.val (.int p0), .unset] [(.int p0)])) _
    refine XS.bipush X0.here hx rfl (hb hby own_d2_1) ?_
    show Steps p.tables e below (s₁.setTop (mkF m 3 #[.val (.int p0), .unset] [(.int (32 : Int32)), (.int p0)])) _
    refine XS.ior X0.here hx rfl (hb hby own_d2_3) rfl ?_
    show Steps p.tables e below (s₁.setTop (mkF m 4 #[.val (.int p0), .unset] [(.int (p0 ||| (32 : Int32)))])) _
    refine XS.istoreN X0.here hx rfl (hb hby own_d2_4) rfl (l' := #[.val (.int p0), .val (.int (p0 ||| (32 : Int32)))]) rfl ?_
    exact k
  have st3 : ∀ t, Steps p.tables e below (s₁.setTop (mkF m 8 #[.val (.int p0), .val (.int v1)] [(.int (97 : Int32)), (.int v1)])) t → Steps p.tables e below (s₁.setTop (mkF m 5 #[.val (.int p0), .val (.int v1)] [])) t := by
    intro t k
    show Steps p.tables e below (s₁.setTop (mkF m 5 #[.val (.int p0), .val (.int v1)] [])) _
    refine XS.iloadN X0.here hx rfl (hb hby own_d2_5) rfl ?_
    show Steps p.tables e below (s₁.setTop (mkF m 6 #[.val (.int p0), .val (.int v1)] [(.int v1)])) _
    refine XS.bipush X0.here hx rfl (hb hby own_d2_6) ?_
    exact k
  refine own_End.go (fun t k => st2 _ (st3 _ k)) ?_
  by_cases hc8_4 : v1 < (97 : Int32)
  · have st5 : ∀ t, Steps p.tables e below (s₁.setTop (mkF m 22 #[.val (.int p0), .val (.int v1)] [(.int (0 : Int32))])) t → Steps p.tables e below (s₁.setTop (mkF m 8 #[.val (.int p0), .val (.int v1)] [(.int (97 : Int32)), (.int v1)])) t := by
      intro t k
      show Steps p.tables e below (s₁.setTop (mkF m 8 #[.val (.int p0), .val (.int v1)] [(.int (97 : Int32)), (.int v1)])) _
      refine XS.icmpYes X0.here hx rfl (pc0 := 8) (pc' := 21) rfl (hb hby own_d2_8) rfl (tlt hc8_4).1 (by decide) (by decide) ?_
      show Steps p.tables e below (s₁.setTop (mkF m 21 #[.val (.int p0), .val (.int v1)] [])) _
      refine XS.iconst X0.here hx rfl (hb hby own_d2_21) ?_
      exact k
    refine own_End.go (fun t k => st5 _ k) ?_
    exact own_leafN X0 hx Bd.notSynchronized (t := .boolean) Bd.returns (by simp) (hb hby own_d2_22) ⟨congrArg (fun z => some (Value.int z)) (by
        subst hv1; simp only [own_F2, own_nb0, own_nb1, if_pos hc8_4]), rfl, e0⟩ (by decide) (by decide)
  · have st6 : ∀ t, Steps p.tables e below (s₁.setTop (mkF m 14 #[.val (.int p0), .val (.int v1)] [(.int (122 : Int32)), (.int v1)])) t → Steps p.tables e below (s₁.setTop (mkF m 8 #[.val (.int p0), .val (.int v1)] [(.int (97 : Int32)), (.int v1)])) t := by
      intro t k
      show Steps p.tables e below (s₁.setTop (mkF m 8 #[.val (.int p0), .val (.int v1)] [(.int (97 : Int32)), (.int v1)])) _
      refine XS.icmpNo X0.here hx rfl (hb hby own_d2_8) rfl (flt hc8_4).1 ?_
      show Steps p.tables e below (s₁.setTop (mkF m 11 #[.val (.int p0), .val (.int v1)] [])) _
      refine XS.iloadN X0.here hx rfl (hb hby own_d2_11) rfl ?_
      show Steps p.tables e below (s₁.setTop (mkF m 12 #[.val (.int p0), .val (.int v1)] [(.int v1)])) _
      refine XS.bipush X0.here hx rfl (hb hby own_d2_12) ?_
      exact k
    refine own_End.go (fun t k => st6 _ k) ?_
    by_cases hc14_7 : (122 : Int32) < v1
    · have st8 : ∀ t, Steps p.tables e below (s₁.setTop (mkF m 22 #[.val (.int p0), .val (.int v1)] [(.int (0 : Int32))])) t → Steps p.tables e below (s₁.setTop (mkF m 14 #[.val (.int p0), .val (.int v1)] [(.int (122 : Int32)), (.int v1)])) t := by
        intro t k
        show Steps p.tables e below (s₁.setTop (mkF m 14 #[.val (.int p0), .val (.int v1)] [(.int (122 : Int32)), (.int v1)])) _
        refine XS.icmpYes X0.here hx rfl (pc0 := 14) (pc' := 21) rfl (hb hby own_d2_14) rfl (tlt hc14_7).2.2.1 (by decide) (by decide) ?_
        show Steps p.tables e below (s₁.setTop (mkF m 21 #[.val (.int p0), .val (.int v1)] [])) _
        refine XS.iconst X0.here hx rfl (hb hby own_d2_21) ?_
        exact k
      refine own_End.go (fun t k => st8 _ k) ?_
      exact own_leafN X0 hx Bd.notSynchronized (t := .boolean) Bd.returns (by simp) (hb hby own_d2_22) ⟨congrArg (fun z => some (Value.int z)) (by
          subst hv1; simp only [own_F2, own_nb0, own_nb1, if_neg hc8_4, if_pos hc14_7]), rfl, e0⟩ (by decide) (by decide)
    · have st9 : ∀ t, Steps p.tables e below (s₁.setTop (mkF m 22 #[.val (.int p0), .val (.int v1)] [(.int (1 : Int32))])) t → Steps p.tables e below (s₁.setTop (mkF m 14 #[.val (.int p0), .val (.int v1)] [(.int (122 : Int32)), (.int v1)])) t := by
        intro t k
        show Steps p.tables e below (s₁.setTop (mkF m 14 #[.val (.int p0), .val (.int v1)] [(.int (122 : Int32)), (.int v1)])) _
        refine XS.icmpNo X0.here hx rfl (hb hby own_d2_14) rfl (flt hc14_7).2.2.1 ?_
        show Steps p.tables e below (s₁.setTop (mkF m 17 #[.val (.int p0), .val (.int v1)] [])) _
        refine XS.iconst X0.here hx rfl (hb hby own_d2_17) ?_
        show Steps p.tables e below (s₁.setTop (mkF m 18 #[.val (.int p0), .val (.int v1)] [(.int (1 : Int32))])) _
        refine XS.goto X0.here hx rfl (pc0 := 18) (pc' := 22) rfl (hb hby own_d2_18) (by decide) (by decide) ?_
        exact k
      refine own_End.go (fun t k => st9 _ k) ?_
      exact own_leafN X0 hx Bd.notSynchronized (t := .boolean) Bd.returns (by simp) (hb hby own_d2_22) ⟨congrArg (fun z => some (Value.int z)) (by
          subst hv1; simp only [own_F2, own_nb0, own_nb1, if_neg hc8_4, if_neg hc14_7]), rfl, e0⟩ (by decide) (by decide)
theorem own_d3_0 : decode prog_68_method_24_code 0 = .ok (.iload_n 0, 1) := by decide +kernel
theorem own_d3_1 : decode prog_68_method_24_code 1 = .ok (.bipush 48, 2) := by decide +kernel
theorem own_d3_3 : decode prog_68_method_24_code 3 = .ok (.if_icmp .lt 9, 3) := by decide +kernel
theorem own_d3_6 : decode prog_68_method_24_code 6 = .ok (.iload_n 0, 1) := by decide +kernel
theorem own_d3_7 : decode prog_68_method_24_code 7 = .ok (.bipush 57, 2) := by decide +kernel
theorem own_d3_9 : decode prog_68_method_24_code 9 = .ok (.if_icmp .le 27, 3) := by decide +kernel
theorem own_d3_12 : decode prog_68_method_24_code 12 = .ok (.iload_n 0, 1) := by decide +kernel
theorem own_d3_13 : decode prog_68_method_24_code 13 = .ok (.bipush 65, 2) := by decide +kernel
theorem own_d3_15 : decode prog_68_method_24_code 15 = .ok (.if_icmp .lt 9, 3) := by decide +kernel
theorem own_d3_18 : decode prog_68_method_24_code 18 = .ok (.iload_n 0, 1) := by decide +kernel
theorem own_d3_19 : decode prog_68_method_24_code 19 = .ok (.bipush 90, 2) := by decide +kernel
theorem own_d3_21 : decode prog_68_method_24_code 21 = .ok (.if_icmp .le 15, 3) := by decide +kernel
theorem own_d3_24 : decode prog_68_method_24_code 24 = .ok (.iload_n 0, 1) := by decide +kernel
theorem own_d3_25 : decode prog_68_method_24_code 25 = .ok (.bipush 97, 2) := by decide +kernel
theorem own_d3_27 : decode prog_68_method_24_code 27 = .ok (.if_icmp .lt 13, 3) := by decide +kernel
theorem own_d3_30 : decode prog_68_method_24_code 30 = .ok (.iload_n 0, 1) := by decide +kernel
theorem own_d3_31 : decode prog_68_method_24_code 31 = .ok (.bipush 122, 2) := by decide +kernel
theorem own_d3_33 : decode prog_68_method_24_code 33 = .ok (.if_icmp .gt 7, 3) := by decide +kernel
theorem own_d3_36 : decode prog_68_method_24_code 36 = .ok (.iconst 1, 1) := by decide +kernel
theorem own_d3_37 : decode prog_68_method_24_code 37 = .ok (.goto 4, 3) := by decide +kernel
theorem own_d3_40 : decode prog_68_method_24_code 40 = .ok (.iconst 0, 1) := by decide +kernel
theorem own_d3_41 : decode prog_68_method_24_code 41 = .ok (.ireturn, 1) := by decide +kernel
theorem own_pn3 : plainName "com/example/kazalo/kazalo/records/Record" = true := by first | (simp [plainName, overriddenIn]; done) | decide +kernel
theorem own_ef3 (m : MethodId) (p0 : Int32) : entryFrame m #[(.int p0)] 1 = mkF m 0 #[.val (.int p0)] [] := by first | (simp [entryFrame, mkF, argsToLocals, Value.category]; done) | rfl
abbrev own_R3 : Room := { frames := 0, cells := 0, slots := 0, locals := 0 }
def own_F3 (p0 : Int32) : Int32 :=
  if p0 < (48 : Int32) then
    if p0 < (65 : Int32) then
      if p0 < (97 : Int32) then
        (0 : Int32)
      else
        if (122 : Int32) < p0 then
          (0 : Int32)
        else
          (1 : Int32)
    else
      if (90 : Int32) < p0 then
        if p0 < (97 : Int32) then
          (0 : Int32)
        else
          if (122 : Int32) < p0 then
            (0 : Int32)
          else
            (1 : Int32)
      else
        (1 : Int32)
  else
    if (57 : Int32) < p0 then
      if p0 < (65 : Int32) then
        if p0 < (97 : Int32) then
          (0 : Int32)
        else
          if (122 : Int32) < p0 then
            (0 : Int32)
          else
            (1 : Int32)
      else
        if (90 : Int32) < p0 then
          if p0 < (97 : Int32) then
            (0 : Int32)
          else
            if (122 : Int32) < p0 then
              (0 : Int32)
            else
              (1 : Int32)
        else
          (1 : Int32)
    else
      (1 : Int32)
def own_Q3 (p0 : Int32) (h0 : Heap) (v : Option Value) (h : Heap) (L : List Loc) : Prop :=  v = some (.int (own_F3 p0)) ∧ L = [] ∧ h = h0
set_option maxRecDepth 65536 in
set_option maxHeartbeats 40000000 in
theorem own_rm3 (l : Launch) (Z : State) (a0 : Array Value) (hw : ∀ d ∈ tables_1, d.before a0 Z = true) (ws : List Jvm.Cond) (p0 : Int32) (h0 : Heap) :
    MetFree l (⟨"com/example/kazalo/kazalo/records/Record", "tagCharacter", "(I)Z"⟩ : MethodName) (head1 (Jvm.Cond.code (⟨"com/example/kazalo/kazalo/records/Record", "tagCharacter", "(I)Z"⟩ : MethodName) prog_68_method_24_code 1 (some .boolean) :: ws) own_R3) (fun a U => a = #[(.int p0)] ∧ Z.Warmed39 U.vm ∧ U.heap = h0) (fun _ _ _ _ _ => True) (fun _ U o U' => ∃ v L, o = .returned v ∧ own_Q3 p0 h0 v U'.heap L ∧ FrameEnd U o U' L own_R3.cells own_R3.slots) := by
  refine MetFree.of_bodySF (plainFor_of_name own_pn3) hisR ?_
  intro p e s m args below meth c s₁ Bd hml0 hP hK
  obtain ⟨rfl, hZ, hh⟩ := hP
  have hx := Bd.exec
  have hby := Bd.bytes
  have hml : c.maxLocals = 1 := hml0
  have hown : s.vm.findClass "com/example/kazalo/kazalo/records/Record" = some m.cls := findClass_of_methodNamed Bd.named
  have hnm := (name_of_methodNamed Bd.named Bd.method).1
  have X0 : Stand p l e own_R3 s m #[(.int p0)] below meth c s₁ [] 0 0 := Stand.of_body Bd
  have e0 : s₁.heap = h0 := by rw [← hh, Bd.state]; rfl
  show own_End p e below s (fun v h L => v = some (.int (own_F3 p0)) ∧ L = [] ∧ h = h0) own_R3.cells own_R3.slots s₁ (entryFrame m #[(.int p0)] 1)
  refine own_End.go (fun t k => castTop (own_ef3 m p0) k) ?_
  show own_End p e below s _ _ _ s₁ (mkF m 0 #[.val (.int p0)] [])
  have st1 : ∀ t, Steps p.tables e below (s₁.setTop (mkF m 3 #[.val (.int p0)] [(.int (48 : Int32)), (.int p0)])) t → Steps p.tables e below (s₁.setTop (mkF m 0 #[.val (.int p0)] [])) t := by
    intro t k
    show Steps p.tables e below (s₁.setTop (mkF m 0 #[.val (.int p0)] [])) _
    refine XS.iloadN X0.here hx rfl (hb hby own_d3_0) rfl ?_
    show Steps p.tables e below (s₁.setTop (mkF m 1 #[.val (.int p0)] [(.int p0)])) _
    refine XS.bipush X0.here hx rfl (hb hby own_d3_1) ?_
    exact k
  refine own_End.go (fun t k => st1 _ k) ?_
  by_cases hc3_2 : p0 < (48 : Int32)
  · have st3 : ∀ t, Steps p.tables e below (s₁.setTop (mkF m 15 #[.val (.int p0)] [(.int (65 : Int32)), (.int p0)])) t → Steps p.tables e below (s₁.setTop (mkF m 3 #[.val (.int p0)] [(.int (48 : Int32)), (.int p0)])) t := by
      intro t k
      show Steps p.tables e below (s₁.setTop (mkF m 3 #[.val (.int p0)] [(.int (48 : Int32)), (.int p0)])) _
      refine XS.icmpYes X0.here hx rfl (pc0 := 3) (pc' := 12) rfl (hb hby own_d3_3) rfl (tlt hc3_2).1 (by decide) (by decide) ?_
      show Steps p.tables e below (s₁.setTop (mkF m 12 #[.val (.int p0)] [])) _
      refine XS.iloadN X0.here hx rfl (hb hby own_d3_12) rfl ?_
      show Steps p.tables e below (s₁.setTop (mkF m 13 #[.val (.int p0)] [(.int p0)])) _
      refine XS.bipush X0.here hx rfl (hb hby own_d3_13) ?_
      exact k
    refine own_End.go (fun t k => st3 _ k) ?_
    by_cases hc15_4 : p0 < (65 : Int32)
    · have st5 : ∀ t, Steps p.tables e below (s₁.setTop (mkF m 27 #[.val (.int p0)] [(.int (97 : Int32)), (.int p0)])) t → Steps p.tables e below (s₁.setTop (mkF m 15 #[.val (.int p0)] [(.int (65 : Int32)), (.int p0)])) t := by
        intro t k
        show Steps p.tables e below (s₁.setTop (mkF m 15 #[.val (.int p0)] [(.int (65 : Int32)), (.int p0)])) _
        refine XS.icmpYes X0.here hx rfl (pc0 := 15) (pc' := 24) rfl (hb hby own_d3_15) rfl (tlt hc15_4).1 (by decide) (by decide) ?_
        show Steps p.tables e below (s₁.setTop (mkF m 24 #[.val (.int p0)] [])) _
        refine XS.iloadN X0.here hx rfl (hb hby own_d3_24) rfl ?_
        show Steps p.tables e below (s₁.setTop (mkF m 25 #[.val (.int p0)] [(.int p0)])) _
        refine XS.bipush X0.here hx rfl (hb hby own_d3_25) ?_
        exact k
      refine own_End.go (fun t k => st5 _ k) ?_
      by_cases hc27_6 : p0 < (97 : Int32)
      · have st7 : ∀ t, Steps p.tables e below (s₁.setTop (mkF m 41 #[.val (.int p0)] [(.int (0 : Int32))])) t → Steps p.tables e below (s₁.setTop (mkF m 27 #[.val (.int p0)] [(.int (97 : Int32)), (.int p0)])) t := by
          intro t k
          show Steps p.tables e below (s₁.setTop (mkF m 27 #[.val (.int p0)] [(.int (97 : Int32)), (.int p0)])) _
          refine XS.icmpYes X0.here hx rfl (pc0 := 27) (pc' := 40) rfl (hb hby own_d3_27) rfl (tlt hc27_6).1 (by decide) (by decide) ?_
          show Steps p.tables e below (s₁.setTop (mkF m 40 #[.val (.int p0)] [])) _
          refine XS.iconst X0.here hx rfl (hb hby own_d3_40) ?_
          exact k
        refine own_End.go (fun t k => st7 _ k) ?_
        exact own_leafN X0 hx Bd.notSynchronized (t := .boolean) Bd.returns (by simp) (hb hby own_d3_41) ⟨congrArg (fun z => some (Value.int z)) (by
            simp only [own_F3, own_nb0, own_nb1, if_pos hc3_2, if_pos hc15_4, if_pos hc27_6]), rfl, e0⟩ (by decide) (by decide)
      · have st8 : ∀ t, Steps p.tables e below (s₁.setTop (mkF m 33 #[.val (.int p0)] [(.int (122 : Int32)), (.int p0)])) t → Steps p.tables e below (s₁.setTop (mkF m 27 #[.val (.int p0)] [(.int (97 : Int32)), (.int p0)])) t := by
          intro t k
          show Steps p.tables e below (s₁.setTop (mkF m 27 #[.val (.int p0)] [(.int (97 : Int32)), (.int p0)])) _
          refine XS.icmpNo X0.here hx rfl (hb hby own_d3_27) rfl (flt hc27_6).1 ?_
          show Steps p.tables e below (s₁.setTop (mkF m 30 #[.val (.int p0)] [])) _
          refine XS.iloadN X0.here hx rfl (hb hby own_d3_30) rfl ?_
          show Steps p.tables e below (s₁.setTop (mkF m 31 #[.val (.int p0)] [(.int p0)])) _
          refine XS.bipush X0.here hx rfl (hb hby own_d3_31) ?_
          exact k
        refine own_End.go (fun t k => st8 _ k) ?_
        by_cases hc33_9 : (122 : Int32) < p0
        · have st10 : ∀ t, Steps p.tables e below (s₁.setTop (mkF m 41 #[.val (.int p0)] [(.int (0 : Int32))])) t → Steps p.tables e below (s₁.setTop (mkF m 33 #[.val (.int p0)] [(.int (122 : Int32)), (.int p0)])) t := by
            intro t k
            show Steps p.tables e below (s₁.setTop (mkF m 33 #[.val (.int p0)] [(.int (122 : Int32)), (.int p0)])) _
            refine XS.icmpYes X0.here hx rfl (pc0 := 33) (pc' := 40) rfl (hb hby own_d3_33) rfl (tlt hc33_9).2.2.1 (by decide) (by decide) ?_
            show Steps p.tables e below (s₁.setTop (mkF m 40 #[.val (.int p0)] [])) _
            refine XS.iconst X0.here hx rfl (hb hby own_d3_40) ?_
            exact k
          refine own_End.go (fun t k => st10 _ k) ?_
          exact own_leafN X0 hx Bd.notSynchronized (t := .boolean) Bd.returns (by simp) (hb hby own_d3_41) ⟨congrArg (fun z => some (Value.int z)) (by
              simp only [own_F3, own_nb0, own_nb1, if_pos hc3_2, if_pos hc15_4, if_neg hc27_6, if_pos hc33_9]), rfl, e0⟩ (by decide) (by decide)
        · have st11 : ∀ t, Steps p.tables e below (s₁.setTop (mkF m 41 #[.val (.int p0)] [(.int (1 : Int32))])) t → Steps p.tables e below (s₁.setTop (mkF m 33 #[.val (.int p0)] [(.int (122 : Int32)), (.int p0)])) t := by
            intro t k
            show Steps p.tables e below (s₁.setTop (mkF m 33 #[.val (.int p0)] [(.int (122 : Int32)), (.int p0)])) _
            refine XS.icmpNo X0.here hx rfl (hb hby own_d3_33) rfl (flt hc33_9).2.2.1 ?_
            show Steps p.tables e below (s₁.setTop (mkF m 36 #[.val (.int p0)] [])) _
            refine XS.iconst X0.here hx rfl (hb hby own_d3_36) ?_
            show Steps p.tables e below (s₁.setTop (mkF m 37 #[.val (.int p0)] [(.int (1 : Int32))])) _
            refine XS.goto X0.here hx rfl (pc0 := 37) (pc' := 41) rfl (hb hby own_d3_37) (by decide) (by decide) ?_
            exact k
          refine own_End.go (fun t k => st11 _ k) ?_
          exact own_leafN X0 hx Bd.notSynchronized (t := .boolean) Bd.returns (by simp) (hb hby own_d3_41) ⟨congrArg (fun z => some (Value.int z)) (by
              simp only [own_F3, own_nb0, own_nb1, if_pos hc3_2, if_pos hc15_4, if_neg hc27_6, if_neg hc33_9]), rfl, e0⟩ (by decide) (by decide)
    · have st12 : ∀ t, Steps p.tables e below (s₁.setTop (mkF m 21 #[.val (.int p0)] [(.int (90 : Int32)), (.int p0)])) t → Steps p.tables e below (s₁.setTop (mkF m 15 #[.val (.int p0)] [(.int (65 : Int32)), (.int p0)])) t := by
        intro t k
        show Steps p.tables e below (s₁.setTop (mkF m 15 #[.val (.int p0)] [(.int (65 : Int32)), (.int p0)])) _
        refine XS.icmpNo X0.here hx rfl (hb hby own_d3_15) rfl (flt hc15_4).1 ?_
        show Steps p.tables e below (s₁.setTop (mkF m 18 #[.val (.int p0)] [])) _
        refine XS.iloadN X0.here hx rfl (hb hby own_d3_18) rfl ?_
        show Steps p.tables e below (s₁.setTop (mkF m 19 #[.val (.int p0)] [(.int p0)])) _
        refine XS.bipush X0.here hx rfl (hb hby own_d3_19) ?_
        exact k
      refine own_End.go (fun t k => st12 _ k) ?_
      by_cases hc21_13 : (90 : Int32) < p0
      · have st14 : ∀ t, Steps p.tables e below (s₁.setTop (mkF m 27 #[.val (.int p0)] [(.int (97 : Int32)), (.int p0)])) t → Steps p.tables e below (s₁.setTop (mkF m 21 #[.val (.int p0)] [(.int (90 : Int32)), (.int p0)])) t := by
          intro t k
          show Steps p.tables e below (s₁.setTop (mkF m 21 #[.val (.int p0)] [(.int (90 : Int32)), (.int p0)])) _
          refine XS.icmpNo X0.here hx rfl (hb hby own_d3_21) rfl (tlt hc21_13).2.2.2 ?_
          show Steps p.tables e below (s₁.setTop (mkF m 24 #[.val (.int p0)] [])) _
          refine XS.iloadN X0.here hx rfl (hb hby own_d3_24) rfl ?_
          show Steps p.tables e below (s₁.setTop (mkF m 25 #[.val (.int p0)] [(.int p0)])) _
          refine XS.bipush X0.here hx rfl (hb hby own_d3_25) ?_
          exact k
        refine own_End.go (fun t k => st14 _ k) ?_
        by_cases hc27_15 : p0 < (97 : Int32)
        · have st16 : ∀ t, Steps p.tables e below (s₁.setTop (mkF m 41 #[.val (.int p0)] [(.int (0 : Int32))])) t → Steps p.tables e below (s₁.setTop (mkF m 27 #[.val (.int p0)] [(.int (97 : Int32)), (.int p0)])) t := by
            intro t k
            show Steps p.tables e below (s₁.setTop (mkF m 27 #[.val (.int p0)] [(.int (97 : Int32)), (.int p0)])) _
            refine XS.icmpYes X0.here hx rfl (pc0 := 27) (pc' := 40) rfl (hb hby own_d3_27) rfl (tlt hc27_15).1 (by decide) (by decide) ?_
            show Steps p.tables e below (s₁.setTop (mkF m 40 #[.val (.int p0)] [])) _
            refine XS.iconst X0.here hx rfl (hb hby own_d3_40) ?_
            exact k
          refine own_End.go (fun t k => st16 _ k) ?_
          exact own_leafN X0 hx Bd.notSynchronized (t := .boolean) Bd.returns (by simp) (hb hby own_d3_41) ⟨congrArg (fun z => some (Value.int z)) (by
              simp only [own_F3, own_nb0, own_nb1, if_pos hc3_2, if_neg hc15_4, if_pos hc21_13, if_pos hc27_15]), rfl, e0⟩ (by decide) (by decide)
        · have st17 : ∀ t, Steps p.tables e below (s₁.setTop (mkF m 33 #[.val (.int p0)] [(.int (122 : Int32)), (.int p0)])) t → Steps p.tables e below (s₁.setTop (mkF m 27 #[.val (.int p0)] [(.int (97 : Int32)), (.int p0)])) t := by
            intro t k
            show Steps p.tables e below (s₁.setTop (mkF m 27 #[.val (.int p0)] [(.int (97 : Int32)), (.int p0)])) _
            refine XS.icmpNo X0.here hx rfl (hb hby own_d3_27) rfl (flt hc27_15).1 ?_
            show Steps p.tables e below (s₁.setTop (mkF m 30 #[.val (.int p0)] [])) _
            refine XS.iloadN X0.here hx rfl (hb hby own_d3_30) rfl ?_
            show Steps p.tables e below (s₁.setTop (mkF m 31 #[.val (.int p0)] [(.int p0)])) _
            refine XS.bipush X0.here hx rfl (hb hby own_d3_31) ?_
            exact k
          refine own_End.go (fun t k => st17 _ k) ?_
          by_cases hc33_18 : (122 : Int32) < p0
          · have st19 : ∀ t, Steps p.tables e below (s₁.setTop (mkF m 41 #[.val (.int p0)] [(.int (0 : Int32))])) t → Steps p.tables e below (s₁.setTop (mkF m 33 #[.val (.int p0)] [(.int (122 : Int32)), (.int p0)])) t := by
              intro t k
              show Steps p.tables e below (s₁.setTop (mkF m 33 #[.val (.int p0)] [(.int (122 : Int32)), (.int p0)])) _
              refine XS.icmpYes X0.here hx rfl (pc0 := 33) (pc' := 40) rfl (hb hby own_d3_33) rfl (tlt hc33_18).2.2.1 (by decide) (by decide) ?_
              show Steps p.tables e below (s₁.setTop (mkF m 40 #[.val (.int p0)] [])) _
              refine XS.iconst X0.here hx rfl (hb hby own_d3_40) ?_
              exact k
            refine own_End.go (fun t k => st19 _ k) ?_
            exact own_leafN X0 hx Bd.notSynchronized (t := .boolean) Bd.returns (by simp) (hb hby own_d3_41) ⟨congrArg (fun z => some (Value.int z)) (by
                simp only [own_F3, own_nb0, own_nb1, if_pos hc3_2, if_neg hc15_4, if_pos hc21_13, if_neg hc27_15, if_pos hc33_18]), rfl, e0⟩ (by decide) (by decide)
          · have st20 : ∀ t, Steps p.tables e below (s₁.setTop (mkF m 41 #[.val (.int p0)] [(.int (1 : Int32))])) t → Steps p.tables e below (s₁.setTop (mkF m 33 #[.val (.int p0)] [(.int (122 : Int32)), (.int p0)])) t := by
              intro t k
              show Steps p.tables e below (s₁.setTop (mkF m 33 #[.val (.int p0)] [(.int (122 : Int32)), (.int p0)])) _
              refine XS.icmpNo X0.here hx rfl (hb hby own_d3_33) rfl (flt hc33_18).2.2.1 ?_
              show Steps p.tables e below (s₁.setTop (mkF m 36 #[.val (.int p0)] [])) _
              refine XS.iconst X0.here hx rfl (hb hby own_d3_36) ?_
              show Steps p.tables e below (s₁.setTop (mkF m 37 #[.val (.int p0)] [(.int (1 : Int32))])) _
              refine XS.goto X0.here hx rfl (pc0 := 37) (pc' := 41) rfl (hb hby own_d3_37) (by decide) (by decide) ?_
              exact k
            refine own_End.go (fun t k => st20 _ k) ?_
            exact own_leafN X0 hx Bd.notSynchronized (t := .boolean) Bd.returns (by simp) (hb hby own_d3_41) ⟨congrArg (fun z => some (Value.int z)) (by
                simp only [own_F3, own_nb0, own_nb1, if_pos hc3_2, if_neg hc15_4, if_pos hc21_13, if_neg hc27_15, if_neg hc33_18]), rfl, e0⟩ (by decide) (by decide)
      · have st21 : ∀ t, Steps p.tables e below (s₁.setTop (mkF m 41 #[.val (.int p0)] [(.int (1 : Int32))])) t → Steps p.tables e below (s₁.setTop (mkF m 21 #[.val (.int p0)] [(.int (90 : Int32)), (.int p0)])) t := by
          intro t k
          show Steps p.tables e below (s₁.setTop (mkF m 21 #[.val (.int p0)] [(.int (90 : Int32)), (.int p0)])) _
          refine XS.icmpYes X0.here hx rfl (pc0 := 21) (pc' := 36) rfl (hb hby own_d3_21) rfl (flt hc21_13).2.2.2 (by decide) (by decide) ?_
          show Steps p.tables e below (s₁.setTop (mkF m 36 #[.val (.int p0)] [])) _
          refine XS.iconst X0.here hx rfl (hb hby own_d3_36) ?_
          show Steps p.tables e below (s₁.setTop (mkF m 37 #[.val (.int p0)] [(.int (1 : Int32))])) _
          refine XS.goto X0.here hx rfl (pc0 := 37) (pc' := 41) rfl (hb hby own_d3_37) (by decide) (by decide) ?_
          exact k
        refine own_End.go (fun t k => st21 _ k) ?_
        exact own_leafN X0 hx Bd.notSynchronized (t := .boolean) Bd.returns (by simp) (hb hby own_d3_41) ⟨congrArg (fun z => some (Value.int z)) (by
            simp only [own_F3, own_nb0, own_nb1, if_pos hc3_2, if_neg hc15_4, if_neg hc21_13]), rfl, e0⟩ (by decide) (by decide)
  · have st22 : ∀ t, Steps p.tables e below (s₁.setTop (mkF m 9 #[.val (.int p0)] [(.int (57 : Int32)), (.int p0)])) t → Steps p.tables e below (s₁.setTop (mkF m 3 #[.val (.int p0)] [(.int (48 : Int32)), (.int p0)])) t := by
      intro t k
      show Steps p.tables e below (s₁.setTop (mkF m 3 #[.val (.int p0)] [(.int (48 : Int32)), (.int p0)])) _
      refine XS.icmpNo X0.here hx rfl (hb hby own_d3_3) rfl (flt hc3_2).1 ?_
      show Steps p.tables e below (s₁.setTop (mkF m 6 #[.val (.int p0)] [])) _
      refine XS.iloadN X0.here hx rfl (hb hby own_d3_6) rfl ?_
      show Steps p.tables e below (s₁.setTop (mkF m 7 #[.val (.int p0)] [(.int p0)])) _
      refine XS.bipush X0.here hx rfl (hb hby own_d3_7) ?_
      exact k
    refine own_End.go (fun t k => st22 _ k) ?_
    by_cases hc9_23 : (57 : Int32) < p0
    · have st24 : ∀ t, Steps p.tables e below (s₁.setTop (mkF m 15 #[.val (.int p0)] [(.int (65 : Int32)), (.int p0)])) t → Steps p.tables e below (s₁.setTop (mkF m 9 #[.val (.int p0)] [(.int (57 : Int32)), (.int p0)])) t := by
        intro t k
        show Steps p.tables e below (s₁.setTop (mkF m 9 #[.val (.int p0)] [(.int (57 : Int32)), (.int p0)])) _
        refine XS.icmpNo X0.here hx rfl (hb hby own_d3_9) rfl (tlt hc9_23).2.2.2 ?_
        show Steps p.tables e below (s₁.setTop (mkF m 12 #[.val (.int p0)] [])) _
        refine XS.iloadN X0.here hx rfl (hb hby own_d3_12) rfl ?_
        show Steps p.tables e below (s₁.setTop (mkF m 13 #[.val (.int p0)] [(.int p0)])) _
        refine XS.bipush X0.here hx rfl (hb hby own_d3_13) ?_
        exact k
      refine own_End.go (fun t k => st24 _ k) ?_
      by_cases hc15_25 : p0 < (65 : Int32)
      · have st26 : ∀ t, Steps p.tables e below (s₁.setTop (mkF m 27 #[.val (.int p0)] [(.int (97 : Int32)), (.int p0)])) t → Steps p.tables e below (s₁.setTop (mkF m 15 #[.val (.int p0)] [(.int (65 : Int32)), (.int p0)])) t := by
          intro t k
          show Steps p.tables e below (s₁.setTop (mkF m 15 #[.val (.int p0)] [(.int (65 : Int32)), (.int p0)])) _
          refine XS.icmpYes X0.here hx rfl (pc0 := 15) (pc' := 24) rfl (hb hby own_d3_15) rfl (tlt hc15_25).1 (by decide) (by decide) ?_
          show Steps p.tables e below (s₁.setTop (mkF m 24 #[.val (.int p0)] [])) _
          refine XS.iloadN X0.here hx rfl (hb hby own_d3_24) rfl ?_
          show Steps p.tables e below (s₁.setTop (mkF m 25 #[.val (.int p0)] [(.int p0)])) _
          refine XS.bipush X0.here hx rfl (hb hby own_d3_25) ?_
          exact k
        refine own_End.go (fun t k => st26 _ k) ?_
        by_cases hc27_27 : p0 < (97 : Int32)
        · have st28 : ∀ t, Steps p.tables e below (s₁.setTop (mkF m 41 #[.val (.int p0)] [(.int (0 : Int32))])) t → Steps p.tables e below (s₁.setTop (mkF m 27 #[.val (.int p0)] [(.int (97 : Int32)), (.int p0)])) t := by
            intro t k
            show Steps p.tables e below (s₁.setTop (mkF m 27 #[.val (.int p0)] [(.int (97 : Int32)), (.int p0)])) _
            refine XS.icmpYes X0.here hx rfl (pc0 := 27) (pc' := 40) rfl (hb hby own_d3_27) rfl (tlt hc27_27).1 (by decide) (by decide) ?_
            show Steps p.tables e below (s₁.setTop (mkF m 40 #[.val (.int p0)] [])) _
            refine XS.iconst X0.here hx rfl (hb hby own_d3_40) ?_
            exact k
          refine own_End.go (fun t k => st28 _ k) ?_
          exact own_leafN X0 hx Bd.notSynchronized (t := .boolean) Bd.returns (by simp) (hb hby own_d3_41) ⟨congrArg (fun z => some (Value.int z)) (by
              simp only [own_F3, own_nb0, own_nb1, if_neg hc3_2, if_pos hc9_23, if_pos hc15_25, if_pos hc27_27]), rfl, e0⟩ (by decide) (by decide)
        · have st29 : ∀ t, Steps p.tables e below (s₁.setTop (mkF m 33 #[.val (.int p0)] [(.int (122 : Int32)), (.int p0)])) t → Steps p.tables e below (s₁.setTop (mkF m 27 #[.val (.int p0)] [(.int (97 : Int32)), (.int p0)])) t := by
            intro t k
            show Steps p.tables e below (s₁.setTop (mkF m 27 #[.val (.int p0)] [(.int (97 : Int32)), (.int p0)])) _
            refine XS.icmpNo X0.here hx rfl (hb hby own_d3_27) rfl (flt hc27_27).1 ?_
            show Steps p.tables e below (s₁.setTop (mkF m 30 #[.val (.int p0)] [])) _
            refine XS.iloadN X0.here hx rfl (hb hby own_d3_30) rfl ?_
            show Steps p.tables e below (s₁.setTop (mkF m 31 #[.val (.int p0)] [(.int p0)])) _
            refine XS.bipush X0.here hx rfl (hb hby own_d3_31) ?_
            exact k
          refine own_End.go (fun t k => st29 _ k) ?_
          by_cases hc33_30 : (122 : Int32) < p0
          · have st31 : ∀ t, Steps p.tables e below (s₁.setTop (mkF m 41 #[.val (.int p0)] [(.int (0 : Int32))])) t → Steps p.tables e below (s₁.setTop (mkF m 33 #[.val (.int p0)] [(.int (122 : Int32)), (.int p0)])) t := by
              intro t k
              show Steps p.tables e below (s₁.setTop (mkF m 33 #[.val (.int p0)] [(.int (122 : Int32)), (.int p0)])) _
              refine XS.icmpYes X0.here hx rfl (pc0 := 33) (pc' := 40) rfl (hb hby own_d3_33) rfl (tlt hc33_30).2.2.1 (by decide) (by decide) ?_
              show Steps p.tables e below (s₁.setTop (mkF m 40 #[.val (.int p0)] [])) _
              refine XS.iconst X0.here hx rfl (hb hby own_d3_40) ?_
              exact k
            refine own_End.go (fun t k => st31 _ k) ?_
            exact own_leafN X0 hx Bd.notSynchronized (t := .boolean) Bd.returns (by simp) (hb hby own_d3_41) ⟨congrArg (fun z => some (Value.int z)) (by
                simp only [own_F3, own_nb0, own_nb1, if_neg hc3_2, if_pos hc9_23, if_pos hc15_25, if_neg hc27_27, if_pos hc33_30]), rfl, e0⟩ (by decide) (by decide)
          · have st32 : ∀ t, Steps p.tables e below (s₁.setTop (mkF m 41 #[.val (.int p0)] [(.int (1 : Int32))])) t → Steps p.tables e below (s₁.setTop (mkF m 33 #[.val (.int p0)] [(.int (122 : Int32)), (.int p0)])) t := by
              intro t k
              show Steps p.tables e below (s₁.setTop (mkF m 33 #[.val (.int p0)] [(.int (122 : Int32)), (.int p0)])) _
              refine XS.icmpNo X0.here hx rfl (hb hby own_d3_33) rfl (flt hc33_30).2.2.1 ?_
              show Steps p.tables e below (s₁.setTop (mkF m 36 #[.val (.int p0)] [])) _
              refine XS.iconst X0.here hx rfl (hb hby own_d3_36) ?_
              show Steps p.tables e below (s₁.setTop (mkF m 37 #[.val (.int p0)] [(.int (1 : Int32))])) _
              refine XS.goto X0.here hx rfl (pc0 := 37) (pc' := 41) rfl (hb hby own_d3_37) (by decide) (by decide) ?_
              exact k
            refine own_End.go (fun t k => st32 _ k) ?_
            exact own_leafN X0 hx Bd.notSynchronized (t := .boolean) Bd.returns (by simp) (hb hby own_d3_41) ⟨congrArg (fun z => some (Value.int z)) (by
                simp only [own_F3, own_nb0, own_nb1, if_neg hc3_2, if_pos hc9_23, if_pos hc15_25, if_neg hc27_27, if_neg hc33_30]), rfl, e0⟩ (by decide) (by decide)
      · have st33 : ∀ t, Steps p.tables e below (s₁.setTop (mkF m 21 #[.val (.int p0)] [(.int (90 : Int32)), (.int p0)])) t → Steps p.tables e below (s₁.setTop (mkF m 15 #[.val (.int p0)] [(.int (65 : Int32)), (.int p0)])) t := by
          intro t k
          show Steps p.tables e below (s₁.setTop (mkF m 15 #[.val (.int p0)] [(.int (65 : Int32)), (.int p0)])) _
          refine XS.icmpNo X0.here hx rfl (hb hby own_d3_15) rfl (flt hc15_25).1 ?_
          show Steps p.tables e below (s₁.setTop (mkF m 18 #[.val (.int p0)] [])) _
          refine XS.iloadN X0.here hx rfl (hb hby own_d3_18) rfl ?_
          show Steps p.tables e below (s₁.setTop (mkF m 19 #[.val (.int p0)] [(.int p0)])) _
          refine XS.bipush X0.here hx rfl (hb hby own_d3_19) ?_
          exact k
        refine own_End.go (fun t k => st33 _ k) ?_
        by_cases hc21_34 : (90 : Int32) < p0
        · have st35 : ∀ t, Steps p.tables e below (s₁.setTop (mkF m 27 #[.val (.int p0)] [(.int (97 : Int32)), (.int p0)])) t → Steps p.tables e below (s₁.setTop (mkF m 21 #[.val (.int p0)] [(.int (90 : Int32)), (.int p0)])) t := by
            intro t k
            show Steps p.tables e below (s₁.setTop (mkF m 21 #[.val (.int p0)] [(.int (90 : Int32)), (.int p0)])) _
            refine XS.icmpNo X0.here hx rfl (hb hby own_d3_21) rfl (tlt hc21_34).2.2.2 ?_
            show Steps p.tables e below (s₁.setTop (mkF m 24 #[.val (.int p0)] [])) _
            refine XS.iloadN X0.here hx rfl (hb hby own_d3_24) rfl ?_
            show Steps p.tables e below (s₁.setTop (mkF m 25 #[.val (.int p0)] [(.int p0)])) _
            refine XS.bipush X0.here hx rfl (hb hby own_d3_25) ?_
            exact k
          refine own_End.go (fun t k => st35 _ k) ?_
          by_cases hc27_36 : p0 < (97 : Int32)
          · have st37 : ∀ t, Steps p.tables e below (s₁.setTop (mkF m 41 #[.val (.int p0)] [(.int (0 : Int32))])) t → Steps p.tables e below (s₁.setTop (mkF m 27 #[.val (.int p0)] [(.int (97 : Int32)), (.int p0)])) t := by
              intro t k
              show Steps p.tables e below (s₁.setTop (mkF m 27 #[.val (.int p0)] [(.int (97 : Int32)), (.int p0)])) _
              refine XS.icmpYes X0.here hx rfl (pc0 := 27) (pc' := 40) rfl (hb hby own_d3_27) rfl (tlt hc27_36).1 (by decide) (by decide) ?_
              show Steps p.tables e below (s₁.setTop (mkF m 40 #[.val (.int p0)] [])) _
              refine XS.iconst X0.here hx rfl (hb hby own_d3_40) ?_
              exact k
            refine own_End.go (fun t k => st37 _ k) ?_
            exact own_leafN X0 hx Bd.notSynchronized (t := .boolean) Bd.returns (by simp) (hb hby own_d3_41) ⟨congrArg (fun z => some (Value.int z)) (by
                simp only [own_F3, own_nb0, own_nb1, if_neg hc3_2, if_pos hc9_23, if_neg hc15_25, if_pos hc21_34, if_pos hc27_36]), rfl, e0⟩ (by decide) (by decide)
          · have st38 : ∀ t, Steps p.tables e below (s₁.setTop (mkF m 33 #[.val (.int p0)] [(.int (122 : Int32)), (.int p0)])) t → Steps p.tables e below (s₁.setTop (mkF m 27 #[.val (.int p0)] [(.int (97 : Int32)), (.int p0)])) t := by
              intro t k
              show Steps p.tables e below (s₁.setTop (mkF m 27 #[.val (.int p0)] [(.int (97 : Int32)), (.int p0)])) _
              refine XS.icmpNo X0.here hx rfl (hb hby own_d3_27) rfl (flt hc27_36).1 ?_
              show Steps p.tables e below (s₁.setTop (mkF m 30 #[.val (.int p0)] [])) _
              refine XS.iloadN X0.here hx rfl (hb hby own_d3_30) rfl ?_
              show Steps p.tables e below (s₁.setTop (mkF m 31 #[.val (.int p0)] [(.int p0)])) _
              refine XS.bipush X0.here hx rfl (hb hby own_d3_31) ?_
              exact k
            refine own_End.go (fun t k => st38 _ k) ?_
            by_cases hc33_39 : (122 : Int32) < p0
            · have st40 : ∀ t, Steps p.tables e below (s₁.setTop (mkF m 41 #[.val (.int p0)] [(.int (0 : Int32))])) t → Steps p.tables e below (s₁.setTop (mkF m 33 #[.val (.int p0)] [(.int (122 : Int32)), (.int p0)])) t := by
                intro t k
                show Steps p.tables e below (s₁.setTop (mkF m 33 #[.val (.int p0)] [(.int (122 : Int32)), (.int p0)])) _
                refine XS.icmpYes X0.here hx rfl (pc0 := 33) (pc' := 40) rfl (hb hby own_d3_33) rfl (tlt hc33_39).2.2.1 (by decide) (by decide) ?_
                show Steps p.tables e below (s₁.setTop (mkF m 40 #[.val (.int p0)] [])) _
                refine XS.iconst X0.here hx rfl (hb hby own_d3_40) ?_
                exact k
              refine own_End.go (fun t k => st40 _ k) ?_
              exact own_leafN X0 hx Bd.notSynchronized (t := .boolean) Bd.returns (by simp) (hb hby own_d3_41) ⟨congrArg (fun z => some (Value.int z)) (by
                  simp only [own_F3, own_nb0, own_nb1, if_neg hc3_2, if_pos hc9_23, if_neg hc15_25, if_pos hc21_34, if_neg hc27_36, if_pos hc33_39]), rfl, e0⟩ (by decide) (by decide)
            · have st41 : ∀ t, Steps p.tables e below (s₁.setTop (mkF m 41 #[.val (.int p0)] [(.int (1 : Int32))])) t → Steps p.tables e below (s₁.setTop (mkF m 33 #[.val (.int p0)] [(.int (122 : Int32)), (.int p0)])) t := by
                intro t k
                show Steps p.tables e below (s₁.setTop (mkF m 33 #[.val (.int p0)] [(.int (122 : Int32)), (.int p0)])) _
                refine XS.icmpNo X0.here hx rfl (hb hby own_d3_33) rfl (flt hc33_39).2.2.1 ?_
                show Steps p.tables e below (s₁.setTop (mkF m 36 #[.val (.int p0)] [])) _
                refine XS.iconst X0.here hx rfl (hb hby own_d3_36) ?_
                show Steps p.tables e below (s₁.setTop (mkF m 37 #[.val (.int p0)] [(.int (1 : Int32))])) _
                refine XS.goto X0.here hx rfl (pc0 := 37) (pc' := 41) rfl (hb hby own_d3_37) (by decide) (by decide) ?_
                exact k
              refine own_End.go (fun t k => st41 _ k) ?_
              exact own_leafN X0 hx Bd.notSynchronized (t := .boolean) Bd.returns (by simp) (hb hby own_d3_41) ⟨congrArg (fun z => some (Value.int z)) (by
                  simp only [own_F3, own_nb0, own_nb1, if_neg hc3_2, if_pos hc9_23, if_neg hc15_25, if_pos hc21_34, if_neg hc27_36, if_neg hc33_39]), rfl, e0⟩ (by decide) (by decide)
        · have st42 : ∀ t, Steps p.tables e below (s₁.setTop (mkF m 41 #[.val (.int p0)] [(.int (1 : Int32))])) t → Steps p.tables e below (s₁.setTop (mkF m 21 #[.val (.int p0)] [(.int (90 : Int32)), (.int p0)])) t := by
            intro t k
            show Steps p.tables e below (s₁.setTop (mkF m 21 #[.val (.int p0)] [(.int (90 : Int32)), (.int p0)])) _
            refine XS.icmpYes X0.here hx rfl (pc0 := 21) (pc' := 36) rfl (hb hby own_d3_21) rfl (flt hc21_34).2.2.2 (by decide) (by decide) ?_
            show Steps p.tables e below (s₁.setTop (mkF m 36 #[.val (.int p0)] [])) _
            refine XS.iconst X0.here hx rfl (hb hby own_d3_36) ?_
            show Steps p.tables e below (s₁.setTop (mkF m 37 #[.val (.int p0)] [(.int (1 : Int32))])) _
            refine XS.goto X0.here hx rfl (pc0 := 37) (pc' := 41) rfl (hb hby own_d3_37) (by decide) (by decide) ?_
            exact k
          refine own_End.go (fun t k => st42 _ k) ?_
          exact own_leafN X0 hx Bd.notSynchronized (t := .boolean) Bd.returns (by simp) (hb hby own_d3_41) ⟨congrArg (fun z => some (Value.int z)) (by
              simp only [own_F3, own_nb0, own_nb1, if_neg hc3_2, if_pos hc9_23, if_neg hc15_25, if_neg hc21_34]), rfl, e0⟩ (by decide) (by decide)
    · have st43 : ∀ t, Steps p.tables e below (s₁.setTop (mkF m 41 #[.val (.int p0)] [(.int (1 : Int32))])) t → Steps p.tables e below (s₁.setTop (mkF m 9 #[.val (.int p0)] [(.int (57 : Int32)), (.int p0)])) t := by
        intro t k
        show Steps p.tables e below (s₁.setTop (mkF m 9 #[.val (.int p0)] [(.int (57 : Int32)), (.int p0)])) _
        refine XS.icmpYes X0.here hx rfl (pc0 := 9) (pc' := 36) rfl (hb hby own_d3_9) rfl (flt hc9_23).2.2.2 (by decide) (by decide) ?_
        show Steps p.tables e below (s₁.setTop (mkF m 36 #[.val (.int p0)] [])) _
        refine XS.iconst X0.here hx rfl (hb hby own_d3_36) ?_
        show Steps p.tables e below (s₁.setTop (mkF m 37 #[.val (.int p0)] [(.int (1 : Int32))])) _
        refine XS.goto X0.here hx rfl (pc0 := 37) (pc' := 41) rfl (hb hby own_d3_37) (by decide) (by decide) ?_
        exact k
      refine own_End.go (fun t k => st43 _ k) ?_
      exact own_leafN X0 hx Bd.notSynchronized (t := .boolean) Bd.returns (by simp) (hb hby own_d3_41) ⟨congrArg (fun z => some (Value.int z)) (by
          simp only [own_F3, own_nb0, own_nb1, if_neg hc3_2, if_neg hc9_23]), rfl, e0⟩ (by decide) (by decide)
theorem own_pn0 : plainName "com/example/kazalo/kazalo/records/RecordTagCharacterPinLaw" = true := by first | (simp [plainName, overriddenIn]; done) | decide +kernel
theorem own_ef0 (m : MethodId) (p0 : Int32) : entryFrame m #[(.int p0)] maxLocals = mkF m 0 #[.val (.int p0), .unset] [] := by first | (simp [entryFrame, mkF, argsToLocals, Value.category, maxLocals]; done) | rfl
def own_F0 (p0 : Int32) : Int32 :=
  let v3 : Int32 := (own_F1 p0)
  let v12 : Int32 := (if v3 = (0 : Int32) then (if (own_F2 p0) = (0 : Int32) then (0 : Int32) else (1 : Int32)) else (1 : Int32))
  let v16 : Int32 := (own_F3 p0)
  if v16 = v12 then
    (1 : Int32)
  else
    (0 : Int32)
def own_Q0 (p0 : Int32) (h0 : Heap) (n0 : Nat) (v : Option Value) (h : Heap) (L : List Loc) : Prop :=  v = some (.int (own_F0 p0)) ∧ Fr n0 L
set_option maxRecDepth 65536 in
set_option maxHeartbeats 40000000 in
theorem own_rm0 (l : Launch) (Z : State) (a0 : Array Value) (hw : ∀ d ∈ tables_1, d.before a0 Z = true) (ws : List Jvm.Cond) (p0 : Int32) (h0 : Heap) (n0 : Nat) (Z0 : n0 ≤ h0.size) :
    MetFree l x (head1 (Jvm.Cond.code x code maxLocals ret :: ws) room_1) (fun a U => a = #[(.int p0)] ∧ Z.Warmed39 U.vm ∧ U.heap = h0) (fun _ _ _ _ _ => True) (fun _ U o U' => ∃ v L, o = .returned v ∧ own_Q0 p0 h0 n0 v U'.heap L ∧ FrameEnd U o U' L room_1.cells room_1.slots) := by
  refine MetFree.of_bodySF (plainFor_of_name own_pn0) hisR ?_
  intro p e s m args below meth c s₁ Bd hml0 hP hK
  obtain ⟨rfl, hZ, hh⟩ := hP
  have hx := Bd.exec
  have hby := Bd.bytes
  have hml : c.maxLocals = 2 := hml0
  have hown : s.vm.findClass "com/example/kazalo/kazalo/records/RecordTagCharacterPinLaw" = some m.cls := findClass_of_methodNamed Bd.named
  have hnm := (name_of_methodNamed Bd.named Bd.method).1
  have X0 : Stand p l e room_1 s m #[(.int p0)] below meth c s₁ [] 0 0 := Stand.of_body Bd
  have e0 : s₁.heap = h0 := by rw [← hh, Bd.state]; rfl
  show own_End p e below s (fun v h L => v = some (.int (own_F0 p0)) ∧ Fr n0 L) room_1.cells room_1.slots s₁ (entryFrame m #[(.int p0)] maxLocals)
  refine own_End.go (fun t k => castTop (own_ef0 m p0) k) ?_
  show own_End p e below s _ _ _ s₁ (mkF m 0 #[.val (.int p0), .unset] [])
  have st1 : ∀ t, Steps p.tables e below (s₁.setTop (mkF m 1 #[.val (.int p0), .unset] [(.int p0)])) t → Steps p.tables e below (s₁.setTop (mkF m 0 #[.val (.int p0), .unset] [])) t := by
    intro t k
    show Steps p.tables e below (s₁.setTop (mkF m 0 #[.val (.int p0), .unset] [])) _
    refine XS.iloadN X0.here hx rfl (hb hby at_0) rfl ?_
    exact k
  obtain ⟨_, _, ⟨T2, L2, k2, n2⟩, -, X2, ⟨Lc2, hQ2, l2, y2, z2⟩, st2⟩ := Jvm.LawKit.callS X0 hx (y := (⟨"com/example/kazalo/kazalo/records/RecordTagCharacterPinLaw", "isAsciiDigit", "(I)Z"⟩ : MethodName)) hown (mvT hZ (hw _ (List.mem_of_getElem? (i := 0) rfl))) (mvT hZ (hw _ (List.mem_of_getElem? (i := 1) rfl))) (mvT hZ (hw _ (List.mem_of_getElem? (i := 2) rfl))) (mvT hZ (hw _ (List.mem_of_getElem? (i := 3) rfl))) (by decide) (backOf (W := 0) (own_rm1 l Z a0 hw [] p0 h0) hZ (hw _ (List.mem_of_getElem? (i := 3) rfl)) (hw _ (List.mem_of_getElem? (i := 2) rfl)) (by decide) (by decide)) (g := (mkF m 1 #[.val (.int p0), .unset] [(.int p0)])) rfl (by rw [hml]; rfl) (argsL := [(.int p0)]) (rest := []) (lenOf own_pd0 rfl) rfl (by show 2 * 0 + _ ≤ _; exact Nat.le_of_eq rfl) (hb hby at_1) (fun _ _ => ⟨rfl, e0, (by decide : 0 + 0 ≤ _), (by decide : 0 + 0 ≤ _)⟩)
  dsimp only [Pt.U, Pt.locs, Pt.cells, Pt.slots] at X2 l2 y2 z2 st2 hQ2
  subst l2 y2 z2
  obtain ⟨rfl, rfl, e2⟩ := hQ2
  have X2' : Stand p l e room_1 s m #[(.int p0)] below meth c T2 [] 0 0 := by first | exact X2 | (rw [List.append_nil] at X2; exact X2)
  obtain ⟨v3, hv3⟩ : ∃ z : Int32, z = (own_F1 p0) := ⟨_, rfl⟩
  rw [← hv3] at st2
  obtain ⟨v12, hv12⟩ : ∃ z : Int32, z = (if v3 = (0 : Int32) then (if (own_F2 p0) = (0 : Int32) then (0 : Int32) else (1 : Int32)) else (1 : Int32)) := ⟨_, rfl⟩
  obtain ⟨T13, X13, e13, st13⟩ : ∃ T' : State, Stand p l e room_1 s m #[(.int p0)] below meth c T' [] 0 0 ∧ T'.heap = h0 ∧ ∀ t, Steps p.tables e below (T'.setTop (mkF m 19 #[.val (.int p0), .unset] [(.int v12)])) t → Steps p.tables e below (T2.setTop (mkF m 4 #[.val (.int p0), .unset] [(.int v3)])) t := by
    rw [hv12]
    by_cases hc4_4 : v3 = (0 : Int32)
    · simp only [if_pos hc4_4]
      have st5 : ∀ t, Steps p.tables e below (T2.setTop (mkF m 8 #[.val (.int p0), .unset] [(.int p0)])) t → Steps p.tables e below (T2.setTop (mkF m 4 #[.val (.int p0), .unset] [(.int v3)])) t := by
        intro t k
        show Steps p.tables e below (T2.setTop (mkF m 4 #[.val (.int p0), .unset] [(.int v3)])) _
        refine XS.ifNo X2'.here hx rfl (hb hby at_4) rfl ((if0 _ _).trans (teq hc4_4).2) ?_
        show Steps p.tables e below (T2.setTop (mkF m 7 #[.val (.int p0), .unset] [])) _
        refine XS.iloadN X2'.here hx rfl (hb hby at_7) rfl ?_
        exact k
      obtain ⟨_, _, ⟨T6, L6, k6, n6⟩, -, X6, ⟨Lc6, hQ6, l6, y6, z6⟩, st6⟩ := Jvm.LawKit.callS X2' hx (y := (⟨"com/example/kazalo/kazalo/records/RecordTagCharacterPinLaw", "isAsciiLetter", "(I)Z"⟩ : MethodName)) hown (mvT hZ (hw _ (List.mem_of_getElem? (i := 5) rfl))) (mvT hZ (hw _ (List.mem_of_getElem? (i := 6) rfl))) (mvT hZ (hw _ (List.mem_of_getElem? (i := 2) rfl))) (mvT hZ (hw _ (List.mem_of_getElem? (i := 7) rfl))) (by decide) (backOf (W := 0) (own_rm2 l Z a0 hw [] p0 h0) hZ (hw _ (List.mem_of_getElem? (i := 7) rfl)) (hw _ (List.mem_of_getElem? (i := 2) rfl)) (by decide) (by decide)) (g := (mkF m 8 #[.val (.int p0), .unset] [(.int p0)])) rfl (by rw [hml]; rfl) (argsL := [(.int p0)]) (rest := []) (lenOf own_pd0 rfl) rfl (by show 2 * 0 + _ ≤ _; exact Nat.le_of_eq rfl) (hb hby at_8) (fun _ _ => ⟨rfl, e2, (by decide : 0 + 0 ≤ _), (by decide : 0 + 0 ≤ _)⟩)
      dsimp only [Pt.U, Pt.locs, Pt.cells, Pt.slots] at X6 l6 y6 z6 st6 hQ6
      subst l6 y6 z6
      obtain ⟨rfl, rfl, e6⟩ := hQ6
      have X6' : Stand p l e room_1 s m #[(.int p0)] below meth c T6 [] 0 0 := by first | exact X6 | (rw [List.append_nil] at X6; exact X6)
      have st10 : ∀ t, Steps p.tables e below (T6.setTop (mkF m 19 #[.val (.int p0), .unset] [(.int (if (own_F2 p0) = (0 : Int32) then (0 : Int32) else (1 : Int32)))])) t → Steps p.tables e below (T6.setTop (mkF m 11 #[.val (.int p0), .unset] [(.int (own_F2 p0))])) t := by
        by_cases hc11_7 : (own_F2 p0) = (0 : Int32)
        · simp only [if_pos hc11_7]
          have st8 : ∀ t, Steps p.tables e below (T6.setTop (mkF m 19 #[.val (.int p0), .unset] [(.int (0 : Int32))])) t → Steps p.tables e below (T6.setTop (mkF m 11 #[.val (.int p0), .unset] [(.int (own_F2 p0))])) t := by
            intro t k
            show Steps p.tables e below (T6.setTop (mkF m 11 #[.val (.int p0), .unset] [(.int (own_F2 p0))])) _
            refine XS.ifYes X6'.here hx rfl (pc0 := 11) (pc' := 18) rfl (hb hby at_11) rfl ((if0 _ _).trans (teq hc11_7).1) (by decide) (by decide) ?_
            show Steps p.tables e below (T6.setTop (mkF m 18 #[.val (.int p0), .unset] [])) _
            refine XS.iconst X6'.here hx rfl (hb hby at_18) ?_
            exact k
          exact fun t k => st8 _ k
        · simp only [if_neg hc11_7]
          have st9 : ∀ t, Steps p.tables e below (T6.setTop (mkF m 19 #[.val (.int p0), .unset] [(.int (1 : Int32))])) t → Steps p.tables e below (T6.setTop (mkF m 11 #[.val (.int p0), .unset] [(.int (own_F2 p0))])) t := by
            intro t k
            show Steps p.tables e below (T6.setTop (mkF m 11 #[.val (.int p0), .unset] [(.int (own_F2 p0))])) _
            refine XS.ifNo X6'.here hx rfl (hb hby at_11) rfl ((if0 _ _).trans (feq hc11_7).1) ?_
            show Steps p.tables e below (T6.setTop (mkF m 14 #[.val (.int p0), .unset] [])) _
            refine XS.iconst X6'.here hx rfl (hb hby at_14) ?_
            show Steps p.tables e below (T6.setTop (mkF m 15 #[.val (.int p0), .unset] [(.int (1 : Int32))])) _
            refine XS.goto X6'.here hx rfl (pc0 := 15) (pc' := 19) rfl (hb hby at_15) (by decide) (by decide) ?_
            exact k
          exact fun t k => st9 _ k
      exact ⟨T6, X6', e6, fun t k => st5 _ (st6 _ (st10 _ k))⟩
    · simp only [if_neg hc4_4]
      have st11 : ∀ t, Steps p.tables e below (T2.setTop (mkF m 19 #[.val (.int p0), .unset] [(.int (1 : Int32))])) t → Steps p.tables e below (T2.setTop (mkF m 4 #[.val (.int p0), .unset] [(.int v3)])) t := by
        intro t k
        show Steps p.tables e below (T2.setTop (mkF m 4 #[.val (.int p0), .unset] [(.int v3)])) _
        refine XS.ifYes X2'.here hx rfl (pc0 := 4) (pc' := 14) rfl (hb hby at_4) rfl ((if0 _ _).trans (feq hc4_4).2) (by decide) (by decide) ?_
        show Steps p.tables e below (T2.setTop (mkF m 14 #[.val (.int p0), .unset] [])) _
        refine XS.iconst X2'.here hx rfl (hb hby at_14) ?_
        show Steps p.tables e below (T2.setTop (mkF m 15 #[.val (.int p0), .unset] [(.int (1 : Int32))])) _
        refine XS.goto X2'.here hx rfl (pc0 := 15) (pc' := 19) rfl (hb hby at_15) (by decide) (by decide) ?_
        exact k
      exact ⟨T2, X2', e2, fun t k => st11 _ k⟩
  have st14 : ∀ t, Steps p.tables e below (T13.setTop (mkF m 21 #[.val (.int p0), .val (.int v12)] [(.int p0)])) t → Steps p.tables e below (T13.setTop (mkF m 19 #[.val (.int p0), .unset] [(.int v12)])) t := by
    intro t k
    show Steps p.tables e below (T13.setTop (mkF m 19 #[.val (.int p0), .unset] [(.int v12)])) _
    refine XS.istoreN X13.here hx rfl (hb hby at_19) rfl (l' := #[.val (.int p0), .val (.int v12)]) rfl ?_
    show Steps p.tables e below (T13.setTop (mkF m 20 #[.val (.int p0), .val (.int v12)] [])) _
    refine XS.iloadN X13.here hx rfl (hb hby at_20) rfl ?_
    exact k
  obtain ⟨_, _, ⟨T15, L15, k15, n15⟩, -, X15, ⟨Lc15, hQ15, l15, y15, z15⟩, st15⟩ := Jvm.LawKit.callS X13 hx (y := (⟨"com/example/kazalo/kazalo/records/Record", "tagCharacter", "(I)Z"⟩ : MethodName)) hown (mvT hZ (hw _ (List.mem_of_getElem? (i := 8) rfl))) (mvT hZ (hw _ (List.mem_of_getElem? (i := 9) rfl))) (mvT hZ (hw _ (List.mem_of_getElem? (i := 10) rfl))) (mvT hZ (hw _ (List.mem_of_getElem? (i := 11) rfl))) (by decide) (backOf (W := 0) (own_rm3 l Z a0 hw [] p0 h0) hZ (hw _ (List.mem_of_getElem? (i := 11) rfl)) (hw _ (List.mem_of_getElem? (i := 10) rfl)) (by decide) (by decide)) (g := (mkF m 21 #[.val (.int p0), .val (.int v12)] [(.int p0)])) rfl (by rw [hml]; rfl) (argsL := [(.int p0)]) (rest := []) (lenOf own_pd0 rfl) rfl (by show 2 * 0 + _ ≤ _; exact Nat.le_of_eq rfl) (hb hby at_21) (fun _ _ => ⟨rfl, e13, (by decide : 0 + 0 ≤ _), (by decide : 0 + 0 ≤ _)⟩)
  dsimp only [Pt.U, Pt.locs, Pt.cells, Pt.slots] at X15 l15 y15 z15 st15 hQ15
  subst l15 y15 z15
  obtain ⟨rfl, rfl, e15⟩ := hQ15
  have X15' : Stand p l e room_1 s m #[(.int p0)] below meth c T15 [] 0 0 := by first | exact X15 | (rw [List.append_nil] at X15; exact X15)
  obtain ⟨v16, hv16⟩ : ∃ z : Int32, z = (own_F3 p0) := ⟨_, rfl⟩
  rw [← hv16] at st15
  have st17 : ∀ t, Steps p.tables e below (T15.setTop (mkF m 25 #[.val (.int p0), .val (.int v12)] [(.int v12), (.int v16)])) t → Steps p.tables e below (T15.setTop (mkF m 24 #[.val (.int p0), .val (.int v12)] [(.int v16)])) t := by
    intro t k
    show Steps p.tables e below (T15.setTop (mkF m 24 #[.val (.int p0), .val (.int v12)] [(.int v16)])) _
    refine XS.iloadN X15'.here hx rfl (hb hby at_24) rfl ?_
    exact k
  refine own_End.go (fun t k => st1 _ (st2 _ (st13 _ (st14 _ (st15 _ (st17 _ k)))))) ?_
  by_cases hc25_18 : v16 = v12
  · have st19 : ∀ t, Steps p.tables e below (T15.setTop (mkF m 33 #[.val (.int p0), .val (.int v12)] [(.int (1 : Int32))])) t → Steps p.tables e below (T15.setTop (mkF m 25 #[.val (.int p0), .val (.int v12)] [(.int v12), (.int v16)])) t := by
      intro t k
      show Steps p.tables e below (T15.setTop (mkF m 25 #[.val (.int p0), .val (.int v12)] [(.int v12), (.int v16)])) _
      refine XS.icmpNo X15'.here hx rfl (hb hby at_25) rfl (teq hc25_18).2 ?_
      show Steps p.tables e below (T15.setTop (mkF m 28 #[.val (.int p0), .val (.int v12)] [])) _
      refine XS.iconst X15'.here hx rfl (hb hby at_28) ?_
      show Steps p.tables e below (T15.setTop (mkF m 29 #[.val (.int p0), .val (.int v12)] [(.int (1 : Int32))])) _
      refine XS.goto X15'.here hx rfl (pc0 := 29) (pc' := 33) rfl (hb hby at_29) (by decide) (by decide) ?_
      exact k
    refine own_End.go (fun t k => st19 _ k) ?_
    exact own_leafN X15' hx Bd.notSynchronized (t := .boolean) Bd.returns (by simp) (hb hby at_33) ⟨congrArg (fun z => some (Value.int z)) (by
        subst hv3 hv12 hv16; simp only [own_F0, own_nb0, own_nb1, if_pos hc25_18]), Fr.nil n0⟩ (by decide) (by decide)
  · have st20 : ∀ t, Steps p.tables e below (T15.setTop (mkF m 33 #[.val (.int p0), .val (.int v12)] [(.int (0 : Int32))])) t → Steps p.tables e below (T15.setTop (mkF m 25 #[.val (.int p0), .val (.int v12)] [(.int v12), (.int v16)])) t := by
      intro t k
      show Steps p.tables e below (T15.setTop (mkF m 25 #[.val (.int p0), .val (.int v12)] [(.int v12), (.int v16)])) _
      refine XS.icmpYes X15'.here hx rfl (pc0 := 25) (pc' := 32) rfl (hb hby at_25) rfl (feq hc25_18).2 (by decide) (by decide) ?_
      show Steps p.tables e below (T15.setTop (mkF m 32 #[.val (.int p0), .val (.int v12)] [])) _
      refine XS.iconst X15'.here hx rfl (hb hby at_32) ?_
      exact k
    refine own_End.go (fun t k => st20 _ k) ?_
    exact own_leafN X15' hx Bd.notSynchronized (t := .boolean) Bd.returns (by simp) (hb hby at_33) ⟨congrArg (fun z => some (Value.int z)) (by
        subst hv3 hv12 hv16; simp only [own_F0, own_nb0, own_nb1, if_neg hc25_18]), Fr.nil n0⟩ (by decide) (by decide)
set_option maxRecDepth 65536 in
theorem own_small : ∀ n : Fin 128, own_F0 (Int32.ofNat n.val) = 1 := by decide +kernel
theorem own_plain (c : Int32) : own_F0 c = 1 := by
  have y0 : (0 : Int64).toInt = 0 := by decide
  have y10 : (10 : Int64).toInt = 10 := by decide
  have y48 : (48 : Int64).toInt = 48 := by decide
  have z0 : (0 : Int32).toInt = 0 := by decide
  have z32 : (32 : Int32).toInt = 32 := by decide
  have z48 : (48 : Int32).toInt = 48 := by decide
  have z57 : (57 : Int32).toInt = 57 := by decide
  have z65 : (65 : Int32).toInt = 65 := by decide
  have z90 : (90 : Int32).toInt = 90 := by decide
  have z97 : (97 : Int32).toInt = 97 := by decide
  have z122 : (122 : Int32).toInt = 122 := by decide
  have i1 : c.toInt64.toInt = c.toInt := c_i2l c
  have s1 := c_lsub c.toInt64 48
  have r1 := rng32 c
  have r2 := rng64 (c.toInt64 - 48)
  have o1 := c_or0 c 32
  have o2 := (c_orS c 32).2.1
  by_cases hs : 0 ≤ c.toInt ∧ c.toInt < 128
  · have := own_small ⟨c.toInt.toNat, by omega⟩
    have e : Int32.ofNat c.toInt.toNat = c := by
      rw [← Int32.toInt_inj, Int32.toInt_ofNat_of_lt (by omega)]
      omega
    rw [← e]; exact this
  · have k1 : own_F1 c = 0 := by
      unfold own_F1
      simp only []
      split
      · rfl
      · split
        · rename_i h1 h2
          rw [Int64.lt_iff_toInt_lt] at h1 h2
          omega
        · rfl
    have k2 : own_F2 c = 0 := by
      unfold own_F2
      simp only []
      split
      · rfl
      · split
        · rfl
        · rename_i h1 h2
          rw [Int32.lt_iff_toInt_lt] at h1 h2
          omega
    have k3 : own_F3 c = 0 := by
      unfold own_F3
      repeat' split
      all_goals first | rfl | (simp only [Int32.lt_iff_toInt_lt] at *; omega)
    simp only [own_F0, k1, k2, k3, if_true]

set_option maxRecDepth 65536 in
set_option maxHeartbeats 40000000 in
theorem comes_1 {Post : Tables → Env → Array Value → State → Outcome → State → Prop} (hpost : ∀ tb e args s v u, (limb_1_1.after args s (.returned v) u = true ∧ limb_1_2.after args s (.returned v) u = true ∧ True) → FrameEnd s (.returned v) u (Jvm.fieldLocs frame_1_writes args s ++ Jvm.arrayLocs frame_1_arrays args s ++ Jvm.staticLocs frame_1_statics s) 0 0 → Post tb e args s (.returned v) u) :
    ArmFor flags0 classFile x code maxLocals ret World_1 tables_1 room_1 Calls_1 rest_1 Pre_1 Post := by
  intro l hfl _ _ p e ha hc hk s m args below hf hA hF happ hP
  obtain ⟨hcalls, hrest, hpre⟩ := hP
  obtain ⟨-, -, -, hnamed, -, -, -, hat⟩ := (Spec.applies_iff hf).mp happ
  obtain ⟨hg, hn⟩ := and_e (Cond.before_iff.mp (show (Jvm.Cond.and given_1 narrow_1).before args s = true from hpre))
  obtain ⟨g1, g2⟩ := and_e hg
  obtain ⟨w0, rfl⟩ : ∃ w0 : Value, args = #[w0] := by
    have hs : args.size = 1 := by simpa [Cond.value, given_1] using g1
    obtain ⟨L⟩ := args
    match L, hs with
    | [w0], _ => exact ⟨w0, rfl⟩
  have hw := fun d (hd : d ∈ tables_1) => atoms_spec (ws := Jvm.Cond.code x code maxLocals ret :: tables_1) hat d (List.mem_cons_of_mem _ hd)
  obtain ⟨i0, ei0⟩ := is_v g2
  obtain rfl : w0 = (.int i0) := Option.some.inj ei0
  obtain ⟨n, o, h1, h2, h3, _, L, rfl, ⟨hv, N⟩, hq⟩ := own_rm0 l s _ hw tables_1 i0 s.heap s.heap.size (Nat.le_refl _) p e ha hc hk s m _ below hf ((Spec.applies_iff_loose hf).mp happ).1 ⟨rfl, State.Warmed39.refl s, rfl⟩ trivial
  rw [own_plain i0] at hv
  subst hv
  refine ⟨n, _, h1, h2, h3, hpost _ _ _ _ _ _ ⟨Cond.after_iff.mpr rfl, Cond.after_iff.mpr (eq_i res_at (Term.int_eval (1)) rfl), trivial⟩ ⟨hq.1, hq.2.1, (hq.2.2.sift fun y hy => Or.inr (N y hy)).mono (by decide) (by decide)⟩⟩
theorem main_1_1 : Claimed_1_1 := comes_1 fun _ _ _ _ _ _ h hF => ⟨h.1, hF⟩
theorem main_1_2 : Claimed_1_2 := comes_1 fun _ _ _ _ _ _ h hF => ⟨h.2.1, hF⟩
end Jvm.Pilot.@@N@@
namespace Jvm.Pilot.@@N@@
open Jvm Jvm.ClassFile Sem Op Lib Jvm.Free Jvm.Stand Jvm.Pilot.@@N@@.Jvm.D
/-! MADE BY PROGRAM (witnessworld.py) out of the Statement's table words and the real class files: 9 classes; the members and pool entries that the words name. The judged class is class 1, her method 3. -/
namespace start1
open Jvm.ClassFile
def u (s : String) : CpInfo := .utf8 (stringToUtf16 s)
/-- a pool by its gaps: so many unusable entries, then the entry; so many at the end -/
def gap : Nat → List CpInfo → List CpInfo
  | 0, r => r
  | n + 1, r => .unusable :: gap n r
def poolList (es : List (Nat × CpInfo)) (last : Nat) : List CpInfo := es.foldr (fun e r => gap e.1 (e.2 :: r)) (gap last [])
def pool (es : List (Nat × CpInfo)) (last : Nat) : Array CpInfo := ⟨poolList es last⟩
def fileOf (pool : Array CpInfo) (this : Nat) (attrs : Array Attribute := #[]) (ms : Array MethodInfo := #[]) (fl : Nat := 33) (sup : Nat := 0) (ifs : Array Nat := #[]) (fds : Array FieldInfo := #[]) : ClassFile where
  minorVersion := 0
  majorVersion := 65
  constantPool := pool
  accessFlags := fl
  thisClass := this
  superClass := sup
  interfaces := ifs
  fields := fds
  methods := ms
  attributes := attrs
def plain (name : String) (sup : Option ClassId) : Class where
  name := name
  kind := .ordinary
  loader := none
  accessFlags := 33
  super := sup
  interfaces := #[]
  cf := none
  fields := #[]
  methods := #[]
  instanceTypes := #[]
  staticTypes := #[]
  resolved := #[]
  callSites := []
  init := .initialized
  statics := none
  mirror := none

def pool0 : Array CpInfo := pool [(5, u "<init>"), (0, u "()V"), (1, .class_ 10), (1, u "java/lang/Object")] 113

def k0m0 : Method := { name := "<init>", desc := "()V", sig := { parameters := [], returnType := none }, accessFlags := 1, code := none }
/-- java/lang/Object -/
def k0 : Class := { plain "java/lang/Object" none with
  accessFlags := 33
  interfaces := #[]
  cf := some (fileOf pool0 8 #[] #[{ accessFlags := 1, nameIndex := 5, descriptorIndex := 6, attributes := #[] }] 33 0 #[] #[])
  fields := #[]
  methods := #[k0m0]
  instanceTypes := #[]
  staticTypes := #[]
  resolved := Array.replicate 124 none
  statics := none }

def pool1 : Array CpInfo := pool [(2, .class_ 4), (1, u "java/lang/Object"), (0, u "<init>"), (0, u "()V"), (0, .long 48), (1, .long 10), (1, .methodref 12 13), (0, .class_ 14), (0, .nameAndType 15 16), (0, u "com/example/kazalo/kazalo/records/RecordTagCharacterPinLaw"), (0, u "isAsciiDigit"), (0, u "(I)Z"), (0, .methodref 12 18), (0, .nameAndType 19 16), (0, u "isAsciiLetter"), (0, .methodref 21 22), (0, .class_ 23), (0, .nameAndType 24 16), (0, u "com/example/kazalo/kazalo/records/Record"), (0, u "tagCharacter"), (3, u "law")] 2

def k1m0 : Method := { name := "<init>", desc := "()V", sig := { parameters := [], returnType := none }, accessFlags := 2, code := none }
def k1c1 : Code := { maxStack := 4, maxLocals := 3, code := method_2_code, exceptionTable := #[], attributes := #[] }
def k1m1 : Method := { name := "isAsciiDigit", desc := "(I)Z", sig := { parameters := [.int], returnType := some .boolean }, accessFlags := 10, code := some k1c1 }
def k1c2 : Code := { maxStack := 2, maxLocals := 2, code := method_3_code, exceptionTable := #[], attributes := #[] }
def k1m2 : Method := { name := "isAsciiLetter", desc := "(I)Z", sig := { parameters := [.int], returnType := some .boolean }, accessFlags := 10, code := some k1c2 }
def k1c3 : Code := { maxStack := 2, maxLocals := 2, code := code, exceptionTable := #[], attributes := #[] }
def k1m3 : Method := { name := "law", desc := "(I)Z", sig := { parameters := [.int], returnType := some .boolean }, accessFlags := 9, code := some k1c3 }
/-- com/example/kazalo/kazalo/records/RecordTagCharacterPinLaw -/
def k1 : Class := { plain "com/example/kazalo/kazalo/records/RecordTagCharacterPinLaw" (some 0) with
  accessFlags := 49
  interfaces := #[]
  cf := some (fileOf pool1 12 #[] #[{ accessFlags := 2, nameIndex := 5, descriptorIndex := 6, attributes := #[] }, { accessFlags := 10, nameIndex := 15, descriptorIndex := 16, attributes := #[] }, { accessFlags := 10, nameIndex := 19, descriptorIndex := 16, attributes := #[] }, { accessFlags := 9, nameIndex := 28, descriptorIndex := 16, attributes := #[] }] 49 2 #[] #[])
  fields := #[]
  methods := #[k1m0, k1m1, k1m2, k1m3]
  instanceTypes := #[]
  staticTypes := #[]
  resolved := Array.replicate 31 none
  statics := none }

def pool2 : Array CpInfo := pool [(2, .class_ 4), (1, u "java/lang/Object"), (0, u "<init>"), (0, u "()V"), (1, .class_ 10), (1, u "com/example/kazalo/kazalo/records/Record"), (29, u "bytes"), (0, u "[B"), (2, u "offset"), (0, u "I"), (2, u "length"), (2, u "base"), (2, u "controlFields"), (0, u "[Z"), (118, .class_ 175), (0, u "com/example/kazalo/kazalo/records/Record$Entry"), (79, u "(I)Z"), (95, u "LEADER_LENGTH"), (2, u "RECORD_LENGTH_DIGITS"), (1, u "RECORD_TERMINATOR"), (0, u "B"), (1, u "FIELD_TERMINATOR"), (1, u "BASE_ADDRESS"), (1, u "BASE_ADDRESS_DIGITS"), (0, u "ENTRY_LENGTH"), (0, u "TAG_LENGTH"), (1, u "LENGTH_DIGITS"), (1, u "START_DIGITS"), (0, u "ID_TAG"), (0, u "Ljava/lang/String;"), (0, u "CONTROL_TAG_START"), (20, u "tagCharacter")] 72

def k2m0 : Method := { name := "<init>", desc := "()V", sig := { parameters := [], returnType := none }, accessFlags := 0, code := none }
def k2c1 : Code := { maxStack := 2, maxLocals := 1, code := prog_68_method_24_code, exceptionTable := #[], attributes := #[] }
def k2m1 : Method := { name := "tagCharacter", desc := "(I)Z", sig := { parameters := [.int], returnType := some .boolean }, accessFlags := 8, code := some k2c1 }
/-- com/example/kazalo/kazalo/records/Record -/
def k2 : Class := { plain "com/example/kazalo/kazalo/records/Record" (some 0) with
  accessFlags := 49
  interfaces := #[]
  cf := some (fileOf pool2 8 #[.nestMembers #[174]] #[{ accessFlags := 0, nameIndex := 5, descriptorIndex := 6, attributes := #[] }, { accessFlags := 8, nameIndex := 393, descriptorIndex := 255, attributes := #[] }] 49 2 #[] #[{ accessFlags := 24, nameIndex := 351, descriptorIndex := 45, attributes := #[] }, { accessFlags := 24, nameIndex := 354, descriptorIndex := 45, attributes := #[] }, { accessFlags := 24, nameIndex := 356, descriptorIndex := 357, attributes := #[] }, { accessFlags := 24, nameIndex := 359, descriptorIndex := 357, attributes := #[] }, { accessFlags := 24, nameIndex := 361, descriptorIndex := 45, attributes := #[] }, { accessFlags := 24, nameIndex := 363, descriptorIndex := 45, attributes := #[] }, { accessFlags := 24, nameIndex := 364, descriptorIndex := 45, attributes := #[] }, { accessFlags := 24, nameIndex := 365, descriptorIndex := 45, attributes := #[] }, { accessFlags := 24, nameIndex := 367, descriptorIndex := 45, attributes := #[] }, { accessFlags := 24, nameIndex := 369, descriptorIndex := 45, attributes := #[] }, { accessFlags := 26, nameIndex := 370, descriptorIndex := 371, attributes := #[] }, { accessFlags := 26, nameIndex := 372, descriptorIndex := 371, attributes := #[] }, { accessFlags := 2, nameIndex := 40, descriptorIndex := 41, attributes := #[] }, { accessFlags := 2, nameIndex := 44, descriptorIndex := 45, attributes := #[] }, { accessFlags := 2, nameIndex := 48, descriptorIndex := 45, attributes := #[] }, { accessFlags := 2, nameIndex := 51, descriptorIndex := 45, attributes := #[] }, { accessFlags := 2, nameIndex := 54, descriptorIndex := 55, attributes := #[] }])
  fields := #[{ name := "LEADER_LENGTH", type := .int, accessFlags := 24, slot := 0, constantValue := 0 }, { name := "RECORD_LENGTH_DIGITS", type := .int, accessFlags := 24, slot := 1, constantValue := 0 }, { name := "RECORD_TERMINATOR", type := .byte, accessFlags := 24, slot := 2, constantValue := 0 }, { name := "FIELD_TERMINATOR", type := .byte, accessFlags := 24, slot := 3, constantValue := 0 }, { name := "BASE_ADDRESS", type := .int, accessFlags := 24, slot := 4, constantValue := 0 }, { name := "BASE_ADDRESS_DIGITS", type := .int, accessFlags := 24, slot := 5, constantValue := 0 }, { name := "ENTRY_LENGTH", type := .int, accessFlags := 24, slot := 6, constantValue := 0 }, { name := "TAG_LENGTH", type := .int, accessFlags := 24, slot := 7, constantValue := 0 }, { name := "LENGTH_DIGITS", type := .int, accessFlags := 24, slot := 8, constantValue := 0 }, { name := "START_DIGITS", type := .int, accessFlags := 24, slot := 9, constantValue := 0 }, { name := "ID_TAG", type := (.object "java/lang/String"), accessFlags := 26, slot := 10, constantValue := 0 }, { name := "CONTROL_TAG_START", type := (.object "java/lang/String"), accessFlags := 26, slot := 11, constantValue := 0 }, { name := "bytes", type := (.array .byte), accessFlags := 2, slot := 0, constantValue := 0 }, { name := "offset", type := .int, accessFlags := 2, slot := 1, constantValue := 0 }, { name := "length", type := .int, accessFlags := 2, slot := 2, constantValue := 0 }, { name := "base", type := .int, accessFlags := 2, slot := 3, constantValue := 0 }, { name := "controlFields", type := (.array .boolean), accessFlags := 2, slot := 4, constantValue := 0 }]
  methods := #[k2m0, k2m1]
  instanceTypes := #[(.array .byte), .int, .int, .int, (.array .boolean)]
  staticTypes := #[.int, .int, .byte, .byte, .int, .int, .int, .int, .int, .int, (.object "java/lang/String"), (.object "java/lang/String")]
  resolved := Array.replicate 466 none
  statics := none }

def pool3 : Array CpInfo := pool [(1, u "java/lang/Cloneable"), (0, .class_ 1), (0, u "java/lang/Object"), (0, .class_ 3)] 3

/-- java/lang/Cloneable -/
def k3 : Class := { plain "java/lang/Cloneable" (some 0) with
  accessFlags := 1537
  interfaces := #[]
  cf := some (fileOf pool3 2 #[] #[] 1537 4 #[] #[])
  fields := #[]
  methods := #[]
  instanceTypes := #[]
  staticTypes := #[]
  resolved := Array.replicate 8 none
  statics := none }

def pool4 : Array CpInfo := pool [(1, u "java/io/Serializable"), (0, .class_ 1), (0, u "java/lang/Object"), (0, .class_ 3)] 3

/-- java/io/Serializable -/
def k4 : Class := { plain "java/io/Serializable" (some 0) with
  accessFlags := 1537
  interfaces := #[]
  cf := some (fileOf pool4 2 #[] #[] 1537 4 #[] #[])
  fields := #[]
  methods := #[]
  instanceTypes := #[]
  staticTypes := #[]
  resolved := Array.replicate 8 none
  statics := none }

/-- the primitive byte -/
def k5 : Class := { plain "byte" none with kind := .primitive 'B', accessFlags := 0x411 }
/-- [B -/
def k6 : Class := { plain "[B" (some 0) with kind := .array 5 .byte, interfaces := #[3, 4], accessFlags := 1041 }

/-- the primitive int -/
def k7 : Class := { plain "int" none with kind := .primitive 'I', accessFlags := 0x411 }
/-- [I -/
def k8 : Class := { plain "[I" (some 0) with kind := .array 7 .int, interfaces := #[3, 4], accessFlags := 1041 }

def heap : Heap := #[]
def classes : Array Class := #[k0, k1, k2, k3, k4, k5, k6, k7, k8]
def interned : List (Array UInt16 × Addr) := []
def slotsUsed : Nat := 0
def theMethod : MethodId := ⟨1, 3⟩
def args0 : Array Value := #[.int 5]
def aboutOver (below : List Frame) : State where
  vm := { classes := classes, interned := interned.toArray }
  heap := heap
  slotsUsed := slotsUsed
  threads := #[{ frames := .invoking theMethod args0 :: below }]
def below0 : List Frame := [.native { method := ⟨0, 0⟩, args := #[] }]
def about1 : State := aboutOver below0
def p0 : Program := .bare "" "" ""
def e0 : Env := launch0.env 0 0 0
theorem w_frames : about1.frames = Frame.invoking theMethod args0 :: below0 := rfl
set_option maxRecDepth 65536 in
theorem w_args : argsFit about1.vm theMethod args0 = true := by decide +kernel
set_option maxRecDepth 65536 in
theorem w_heap : heapFits about1 = true := by decide +kernel
set_option maxRecDepth 65536 in
theorem w_runnable : about1.curStatus? = some .runnable := by decide +kernel
set_option maxRecDepth 65536 in
theorem w_alone : about1.alone = true := by decide +kernel
set_option maxRecDepth 65536 in
theorem w_named : about1.methodNamed? x = some theMethod := by decide +kernel
set_option maxRecDepth 65536 in
theorem w_hears : about1.hears theMethod below0 = true := by decide +kernel
set_option maxRecDepth 65536 in
theorem w_ripe : about1.ripe theMethod args0 below0 = true := by decide +kernel
theorem w_running : about1.status = .running := rfl
set_option maxRecDepth 65536 in
theorem w_room : about1.hasRoom e0.platform room_1 = true :=
  launch0.hasRoom_least _ room_1 (by decide +kernel) (by decide +kernel) (by decide +kernel) (by decide +kernel) (by decide +kernel) (by decide +kernel)
theorem allAtoms_all (ts : List Jvm.Cond) (a : Array Jvm.Value) (st : Jvm.State) : (allAtoms ts).before a st = ts.all (fun c => c.before a st) := by
  induction ts with
  | nil => rfl
  | cons c t ih =>
    show (Jvm.Cond.and c (allAtoms t)).before a st = _
    rw [Jvm.Cond.before_and, ih, List.all_cons]
def words1 : List Jvm.Cond := Jvm.Cond.code x code maxLocals ret :: tables_1
/-- a 'code' word, met by the world's own term for the bytes: nothing is compared byte by byte -/
theorem code_word {y : MethodName} {bytes : ByteArray} {mx : Nat} {rt : Option FieldType} {a : Array Value} {s : State} {m : MethodId} {meth : Method} {c : Code} (h1 : s.methodNamed? y = some m) (h2 : s.vm.method? m = some meth) (h3 : meth.code = some c) (h4 : c.code = bytes)
    (h5 : (c.maxLocals == mx && c.exceptionTable.isEmpty && decide (c.maxStack ≤ mostOperands) && decide (meth.sig.returnType = rt) && !meth.locks && decide (parseMethodDescriptor y.desc = some meth.sig)) = true) : (Jvm.Cond.code y bytes mx rt).before a s = true := by
  simp only [Bool.and_eq_true, beq_iff_eq, Bool.not_eq_true', decide_eq_true_eq] at h5
  obtain ⟨⟨⟨⟨⟨g1, g2⟩, g3⟩, g4⟩, g5⟩, g6⟩ := h5
  simp [Cond.before, Cond.holds, Cond.value, h1, h2, h3, h4, g1, g2, g3, g4, g5, g6]
def isCode : Jvm.Cond → Bool
  | .code _ _ _ _ => true
  | _ => false
theorem all_split {L : List Jvm.Cond} {P : Jvm.Cond → Bool} (h1 : L.all (fun c => isCode c || P c) = true) (h2 : ∀ c ∈ L.filter isCode, P c = true) : L.all P = true := by
  refine List.all_eq_true.mpr fun c hc => ?_
  have h := List.all_eq_true.mp h1 c hc
  rcases Bool.eq_false_or_eq_true (isCode c) with hi | hi
  · exact h2 c (List.mem_filter.mpr ⟨hc, hi⟩)
  · simpa [hi] using h
set_option maxRecDepth 65536 in
theorem w_c0 : (Jvm.Cond.code x code maxLocals ret).before args0 about1 = true := code_word (m := ⟨1, 3⟩) (meth := k1m3) (c := k1c3) (by decide +kernel) rfl rfl rfl (by decide +kernel)
set_option maxRecDepth 65536 in
theorem w_c1 : (Jvm.Cond.code ({ cls := "com/example/kazalo/kazalo/records/RecordTagCharacterPinLaw", name := "isAsciiDigit", desc := "(I)Z" } : Jvm.MethodName) method_2_code (3 : Nat) (Option.some Jvm.ClassFile.FieldType.boolean)).before args0 about1 = true := code_word (m := ⟨1, 1⟩) (meth := k1m1) (c := k1c1) (by decide +kernel) rfl rfl rfl (by decide +kernel)
set_option maxRecDepth 65536 in
theorem w_c2 : (Jvm.Cond.code ({ cls := "com/example/kazalo/kazalo/records/RecordTagCharacterPinLaw", name := "isAsciiLetter", desc := "(I)Z" } : Jvm.MethodName) method_3_code (2 : Nat) (Option.some Jvm.ClassFile.FieldType.boolean)).before args0 about1 = true := code_word (m := ⟨1, 2⟩) (meth := k1m2) (c := k1c2) (by decide +kernel) rfl rfl rfl (by decide +kernel)
set_option maxRecDepth 65536 in
theorem w_c3 : (Jvm.Cond.code ({ cls := "com/example/kazalo/kazalo/records/Record", name := "tagCharacter", desc := "(I)Z" } : Jvm.MethodName) prog_68_method_24_code (1 : Nat) (Option.some Jvm.ClassFile.FieldType.boolean)).before args0 about1 = true := code_word (m := ⟨2, 1⟩) (meth := k2m1) (c := k2c1) (by decide +kernel) rfl rfl rfl (by decide +kernel)
def codes1 : List Jvm.Cond := [Jvm.Cond.code x code maxLocals ret, Jvm.Cond.code ({ cls := "com/example/kazalo/kazalo/records/RecordTagCharacterPinLaw", name := "isAsciiDigit", desc := "(I)Z" } : Jvm.MethodName) method_2_code (3 : Nat) (Option.some Jvm.ClassFile.FieldType.boolean), Jvm.Cond.code ({ cls := "com/example/kazalo/kazalo/records/RecordTagCharacterPinLaw", name := "isAsciiLetter", desc := "(I)Z" } : Jvm.MethodName) method_3_code (2 : Nat) (Option.some Jvm.ClassFile.FieldType.boolean), Jvm.Cond.code ({ cls := "com/example/kazalo/kazalo/records/Record", name := "tagCharacter", desc := "(I)Z" } : Jvm.MethodName) prog_68_method_24_code (1 : Nat) (Option.some Jvm.ClassFile.FieldType.boolean)]
set_option maxRecDepth 65536 in
theorem codes_eq : words1.filter isCode = codes1 := rfl
theorem w_codes : ∀ c ∈ words1.filter isCode, c.before args0 about1 = true := by
  rw [codes_eq]
  intro c hc
  simp only [codes1, List.mem_cons, List.not_mem_nil, or_false] at hc
  rcases hc with rfl | rfl | rfl | rfl
  · exact w_c0
  · exact w_c1
  · exact w_c2
  · exact w_c3
set_option maxRecDepth 65536 in
theorem w_t1 : words1.all (fun c => isCode c || c.before args0 about1) = true := by decide +kernel
theorem w_tables : (allAtoms (Jvm.Cond.code x code maxLocals ret :: tables_1)).before args0 about1 = true := by
  rw [allAtoms_all]
  show words1.all (fun c => c.before args0 about1) = true
  refine all_split ?_ w_codes
  rw [w_t1]
set_option maxRecDepth 65536 in
theorem w_case : (Jvm.Cond.and given_1 narrow_1).before args0 about1 = true := by decide +kernel
theorem w_applies : (headSpec (Jvm.Cond.code x code maxLocals ret :: tables_1) room_1).applies x e0.platform about1 = true :=
  (Spec.applies_iff w_frames).mpr ⟨w_running, w_runnable, w_alone, w_named, w_hears, w_ripe, w_room, w_tables⟩
theorem atStart : AtStart classFile x code maxLocals ret World_1 tables_1 room_1 Calls_1 rest_1 Pre_1 launch0 p0 e0 about1 theMethod args0 below0 :=
  ⟨lists_1, trivial, launch0.admits_env _ _ _, launch0.least_env, fairChoices_fair.cas, fairChoices_fair.clock, w_frames, w_args, w_heap, w_applies, trivial, trivial, w_case⟩
end start1
theorem witness_1 : WitnessClaimed_1 := ⟨start1.p0, start1.e0, start1.about1, start1.theMethod, start1.args0, start1.below0, start1.atStart⟩
end Jvm.Pilot.@@N@@
