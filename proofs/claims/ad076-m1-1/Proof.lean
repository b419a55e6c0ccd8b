import JvmDerived
import JvmDerived.Pilot.@@N@@Statement
import JvmDerived.Pilot.@@N@@Code
set_option linter.unusedVariables false
set_option linter.unusedSimpArgs false
namespace Jvm.RoadKit
open Sem ClassFile Op Lib Jvm.Stand Jvm.Free Jvm.LawKit
section New
variable {p : Program} {l : Launch} {e : Env} {R : Room} {s : State} {m : MethodId} {args : Array Value} {below : List Frame} {meth : Method} {c : Code} {T : State} {locs : List Loc} {cells slots : Nat}
theorem retI (X : Stand p l e R s m args below meth c T locs cells slots) (hx : p.tables.exec = Jvm.exec) {pc : Nat} {Ls : Array Slot} {z : Int32} {rest : List Value} (hret : meth.sig.returnType = some .int) (hd : decode c.code pc = .ok (.ireturn, 1)) {fs : List Frame}
    (hl : ∀ (f : JFrame) (acts : List Action), f.method = m → f.locked = none → f.entered = [] → (doReturn e (T.setTop f) acts (some (.int z))).1 = T.setFrames fs) : Steps p.tables e below (T.setTop (mkF m pc Ls (.int z :: rest))) (T.setFrames fs) := by
  have hm' : T.vm.method? m = some meth := X.method'
  have hn : narrow .int (.int z) = .int z := rfl
  show Steps p.tables e below (T.setTop { method := m, pc := pc, locals := Ls, stack := _ :: rest, locked := none }) _
  jvm_step X.here [X.here.top, hx, hd, hm', hret, hn]
  first | (intro acts; rw [hl _ acts rfl rfl rfl]) | rw [hl _ _ rfl rfl rfl]
  exact Steps.refl _
theorem retJ (X : Stand p l e R s m args below meth c T locs cells slots) (hx : p.tables.exec = Jvm.exec) {pc : Nat} {Ls : Array Slot} {z : Int64} {rest : List Value} (hret : meth.sig.returnType = some .long) (hd : decode c.code pc = .ok (.lreturn, 1)) {fs : List Frame}
    (hl : ∀ (f : JFrame) (acts : List Action), f.method = m → f.locked = none → f.entered = [] → (doReturn e (T.setTop f) acts (some (.long z))).1 = T.setFrames fs) : Steps p.tables e below (T.setTop (mkF m pc Ls (.long z :: rest))) (T.setFrames fs) := by
  have hm' : T.vm.method? m = some meth := X.method'
  show Steps p.tables e below (T.setTop { method := m, pc := pc, locals := Ls, stack := _ :: rest, locked := none }) _
  jvm_step X.here [X.here.top, hx, hd, hm', hret]
  first | (intro acts; rw [hl _ acts rfl rfl rfl]) | rw [hl _ _ rfl rfl rfl]
  exact Steps.refl _
theorem retR (X : Stand p l e R s m args below meth c T locs cells slots) (hx : p.tables.exec = Jvm.exec) {pc : Nat} {Ls : Array Slot} {z : Addr} {t : FieldType} {rest : List Value} (hret : meth.sig.returnType = some t) (ht : t.isReference = true) (hd : decode c.code pc = .ok (.areturn, 1)) {fs : List Frame}
    (hl : ∀ (f : JFrame) (acts : List Action), f.method = m → f.locked = none → f.entered = [] → (doReturn e (T.setTop f) acts (some (.ref z))).1 = T.setFrames fs) : Steps p.tables e below (T.setTop (mkF m pc Ls (.ref z :: rest))) (T.setFrames fs) := by
  have hm' : T.vm.method? m = some meth := X.method'
  show Steps p.tables e below (T.setTop { method := m, pc := pc, locals := Ls, stack := _ :: rest, locked := none }) _
  jvm_step X.here [X.here.top, hx, hd, hm', hret, Value.isRef, ht]
  first | (intro acts; rw [hl _ acts rfl rfl rfl]) | rw [hl _ _ rfl rfl rfl]
  exact Steps.refl _
end New
end Jvm.RoadKit
namespace Jvm.Pilot.@@N@@
open Jvm Jvm.ClassFile Sem Op Lib Jvm.Free Jvm.Stand Jvm.LawKit Jvm.RoadKit Bundle Jvm.Pilot.@@N@@.Jvm.D
/-- from the frame g, where T stands, the body comes to its end, and its end is as QQ says -/
def own_End (p : Program) (e : Env) (below : List Frame) (s : State) (QQ : Option Value → Heap → List Loc → Prop) (rc rs : Nat) (T : State) (g : JFrame) : Prop :=
  ∃ s₂ o, Steps p.tables e below (T.setTop g) s₂ ∧ s₂.status = .running ∧ Ended s₂ below o ∧ ∃ v L, o = .returned v ∧ QQ v s₂.heap L ∧ FrameEnd s o s₂ L rc rs
section Own
variable {p : Program} {l : Launch} {e : Env} {R : Room} {s : State} {m : MethodId} {args : Array Value} {below : List Frame} {meth : Method} {c : Code} {T T' : State} {locs : List Loc} {cells slots : Nat} {QQ : Option Value → Heap → List Loc → Prop} {rc rs : Nat}
theorem own_End.go {g g' : JFrame} (st : ∀ t, Steps p.tables e below (T'.setTop g') t → Steps p.tables e below (T.setTop g) t) (h : own_End p e below s QQ rc rs T' g') : own_End p e below s QQ rc rs T g := by
  obtain ⟨s2, o, a, b⟩ := h
  exact ⟨s2, o, st _ a, b⟩
theorem own_leafI (X : Stand p l e R s m args below meth c T locs cells slots) (hx : p.tables.exec = Jvm.exec) (hk : meth.locks = false) {pc : Nat} {Ls : Array Slot} {z : Int32} {rest : List Value} (hret : meth.sig.returnType = some .int) (hd : decode c.code pc = .ok (.ireturn, 1)) (hq : QQ (some (.int z)) T.heap locs) (h1 : cells ≤ rc) (h2 : slots ≤ rs) : own_End p e below s QQ rc rs T (mkF m pc Ls (.int z :: rest)) := by
  obtain ⟨fs, hr, hrun, hended, hW, hsame⟩ := X.leave (v := some (.int z)) (fun h => by rw [hret] at h; cases h) hk
  exact ⟨_, _, retI X hx hret hd hr, hrun, hended, _, _, rfl, hq, ⟨_, rfl⟩, hW, hsame.mono h1 h2⟩
theorem own_leafN (X : Stand p l e R s m args below meth c T locs cells slots) (hx : p.tables.exec = Jvm.exec) (hk : meth.locks = false) {pc : Nat} {Ls : Array Slot} {z : Int32} {t : FieldType} {rest : List Value} (hret : meth.sig.returnType = some t) (ht : t = .boolean ∨ t = .byte ∨ t = .char ∨ t = .short) (hd : decode c.code pc = .ok (.ireturn, 1)) (hq : QQ (some (.int (nar t z))) T.heap locs) (h1 : cells ≤ rc) (h2 : slots ≤ rs) : own_End p e below s QQ rc rs T (mkF m pc Ls (.int z :: rest)) := by
  obtain ⟨fs, hr, hrun, hended, hW, hsame⟩ := X.leave (v := some (.int (nar t z))) (fun h => by rw [hret] at h; cases h) hk
  exact ⟨_, _, retN X hx hret ht hd hr, hrun, hended, _, _, rfl, hq, ⟨_, rfl⟩, hW, hsame.mono h1 h2⟩
theorem own_leafJ (X : Stand p l e R s m args below meth c T locs cells slots) (hx : p.tables.exec = Jvm.exec) (hk : meth.locks = false) {pc : Nat} {Ls : Array Slot} {z : Int64} {rest : List Value} (hret : meth.sig.returnType = some .long) (hd : decode c.code pc = .ok (.lreturn, 1)) (hq : QQ (some (.long z)) T.heap locs) (h1 : cells ≤ rc) (h2 : slots ≤ rs) : own_End p e below s QQ rc rs T (mkF m pc Ls (.long z :: rest)) := by
  obtain ⟨fs, hr, hrun, hended, hW, hsame⟩ := X.leave (v := some (.long z)) (fun h => by rw [hret] at h; cases h) hk
  exact ⟨_, _, retJ X hx hret hd hr, hrun, hended, _, _, rfl, hq, ⟨_, rfl⟩, hW, hsame.mono h1 h2⟩
theorem own_leafR (X : Stand p l e R s m args below meth c T locs cells slots) (hx : p.tables.exec = Jvm.exec) (hk : meth.locks = false) {pc : Nat} {Ls : Array Slot} {z : Addr} {t : FieldType} {rest : List Value} (hret : meth.sig.returnType = some t) (ht : t.isReference = true) (hd : decode c.code pc = .ok (.areturn, 1)) (hq : QQ (some (.ref z)) T.heap locs) (h1 : cells ≤ rc) (h2 : slots ≤ rs) : own_End p e below s QQ rc rs T (mkF m pc Ls (.ref z :: rest)) := by
  obtain ⟨fs, hr, hrun, hended, hW, hsame⟩ := X.leave (v := some (.ref z)) (fun h => by rw [hret] at h; cases h) hk
  exact ⟨_, _, retR X hx hret ht hd hr, hrun, hended, _, _, rfl, hq, ⟨_, rfl⟩, hW, hsame.mono h1 h2⟩
theorem own_leafV (X : Stand p l e R s m args below meth c T locs cells slots) (hx : p.tables.exec = Jvm.exec) (hk : meth.locks = false) {pc : Nat} {Ls : Array Slot} (hret : meth.sig.returnType = none) (hd : decode c.code pc = .ok (.return_, 1)) (hq : QQ none T.heap locs) (h1 : cells ≤ rc) (h2 : slots ≤ rs) : own_End p e below s QQ rc rs T (mkF m pc Ls []) := by
  obtain ⟨fs, hr, hrun, hended, hW, hsame⟩ := X.leave (v := none) (fun _ => rfl) hk
  exact ⟨_, _, X.returnOut hx hret hd hr, hrun, hended, _, _, rfl, hq, ⟨_, rfl⟩, hW, hsame.mono h1 h2⟩
end Own
theorem own_nb0 : nar .boolean (0 : Int32) = 0 := by decide
theorem own_nb1 : nar .boolean (1 : Int32) = 1 := by decide
theorem own_oneif {P : Prop} [Decidable P] {x y : Slot} (hx : One x) (hy : One y) : One (if P then x else y) := by split <;> assumption

theorem own_pd0 : parseMethodDescriptor "(JJ)Z" = some ⟨[.long, .long], some .boolean⟩ := by decide +kernel
theorem own_d1_0 : decode prog_11_method_5_code 0 = .ok (.lload_n 2, 1) := by decide +kernel
theorem own_d1_1 : decode prog_11_method_5_code 1 = .ok (.ldc2_w 33, 3) := by decide +kernel
theorem own_d1_4 : decode prog_11_method_5_code 4 = .ok (.ldiv, 1) := by decide +kernel
theorem own_d1_5 : decode prog_11_method_5_code 5 = .ok (.lload_n 2, 1) := by decide +kernel
theorem own_d1_6 : decode prog_11_method_5_code 6 = .ok (.ldc2_w 33, 3) := by decide +kernel
theorem own_d1_9 : decode prog_11_method_5_code 9 = .ok (.lrem, 1) := by decide +kernel
theorem own_d1_10 : decode prog_11_method_5_code 10 = .ok (.lconst 0, 1) := by decide +kernel
theorem own_d1_11 : decode prog_11_method_5_code 11 = .ok (.lcmp, 1) := by decide +kernel
theorem own_d1_12 : decode prog_11_method_5_code 12 = .ok (.ifCond .ne 7, 3) := by decide +kernel
theorem own_d1_15 : decode prog_11_method_5_code 15 = .ok (.iconst 0, 1) := by decide +kernel
theorem own_d1_16 : decode prog_11_method_5_code 16 = .ok (.goto 4, 3) := by decide +kernel
theorem own_d1_19 : decode prog_11_method_5_code 19 = .ok (.iconst 1, 1) := by decide +kernel
theorem own_d1_20 : decode prog_11_method_5_code 20 = .ok (.i2l, 1) := by decide +kernel
theorem own_d1_21 : decode prog_11_method_5_code 21 = .ok (.ladd, 1) := by decide +kernel
theorem own_d1_22 : decode prog_11_method_5_code 22 = .ok (.lstore 4, 2) := by decide +kernel
theorem own_d1_24 : decode prog_11_method_5_code 24 = .ok (.lload_n 0, 1) := by decide +kernel
theorem own_d1_25 : decode prog_11_method_5_code 25 = .ok (.lconst 1, 1) := by decide +kernel
theorem own_d1_26 : decode prog_11_method_5_code 26 = .ok (.lsub, 1) := by decide +kernel
theorem own_d1_27 : decode prog_11_method_5_code 27 = .ok (.lload 4, 2) := by decide +kernel
theorem own_d1_29 : decode prog_11_method_5_code 29 = .ok (.lcmp, 1) := by decide +kernel
theorem own_d1_30 : decode prog_11_method_5_code 30 = .ok (.ifCond .lt 7, 3) := by decide +kernel
theorem own_d1_33 : decode prog_11_method_5_code 33 = .ok (.iconst 1, 1) := by decide +kernel
theorem own_d1_34 : decode prog_11_method_5_code 34 = .ok (.goto 4, 3) := by decide +kernel
theorem own_d1_37 : decode prog_11_method_5_code 37 = .ok (.iconst 0, 1) := by decide +kernel
theorem own_d1_38 : decode prog_11_method_5_code 38 = .ok (.ireturn, 1) := by decide +kernel
theorem own_pn1 : plainName "com/example/dibs/dibs/Quorum" = true := by first | (simp [plainName, overriddenIn]; done) | decide +kernel
theorem own_ef1 (m : MethodId) (q0 : Int64) (q1 : Int64) : entryFrame m #[(.long q0), (.long q1)] 6 = mkF m 0 #[.val (.long q0), .second, .val (.long q1), .second, .unset, .unset] [] := by first | (simp [entryFrame, mkF, argsToLocals, Value.category]; done) | rfl
abbrev own_R1 : Room := { frames := 0, cells := 0, slots := 0, locals := 0 }
def own_F1 (q0 : Int64) (q1 : Int64) : Int32 :=
  let v5 : Int32 := (if (q1 - (q1 / (1000 : Int64)) * (1000 : Int64)) = (0 : Int64) then (0 : Int32) else (1 : Int32))
  let v6 : Int64 := (q1 / (1000 : Int64))
  let v8 : Int64 := (v6 + (v5.toInt64))
  if (q0 - (1 : Int64)) < v8 then
    (0 : Int32)
  else
    (1 : Int32)
def own_Q1 (q0 : Int64) (q1 : Int64) (h0 : Heap) (vz : Option Value) (h : Heap) (Lz : List Loc) : Prop :=  vz = some (.int (own_F1 q0 q1)) ∧ Lz = [] ∧ h = h0
set_option maxRecDepth 65536 in
set_option maxHeartbeats 40000000 in
theorem own_rm1 (l : Launch) (Z : State) (a0 : Array Value) (hw : ∀ d ∈ tables_1, d.before a0 Z = true) (ws : List Jvm.Cond) (q0 : Int64) (q1 : Int64) (h0 : Heap) :
    MetFree l (⟨"com/example/dibs/dibs/Quorum", "upLongerThan", "(JJ)Z"⟩ : MethodName) (head1 (Jvm.Cond.code (⟨"com/example/dibs/dibs/Quorum", "upLongerThan", "(JJ)Z"⟩ : MethodName) prog_11_method_5_code 6 (some .boolean) :: ws) own_R1) (fun a U => a = #[(.long q0), (.long q1)] ∧ Z.Warmed39 U.vm ∧ U.heap = h0) (fun _ _ _ _ _ => True) (fun _ U o U' => ∃ vz Lz, o = .returned vz ∧ own_Q1 q0 q1 h0 vz U'.heap Lz ∧ FrameEnd U o U' Lz own_R1.cells own_R1.slots) := by
  refine MetFree.of_bodySF (plainFor_of_name own_pn1) hisR ?_
  intro p e s m args below meth c s₁ Bd hml0 hP hK
  obtain ⟨rfl, hZ, hh⟩ := hP
  have hx := Bd.exec
  have hby := Bd.bytes
  have hml : c.maxLocals = 6 := hml0
  have hown : s.vm.findClass "com/example/dibs/dibs/Quorum" = some m.cls := findClass_of_methodNamed Bd.named
  have hnm := (name_of_methodNamed Bd.named Bd.method).1
  have X0 : Stand p l e own_R1 s m #[(.long q0), (.long q1)] below meth c s₁ [] 0 0 := Stand.of_body Bd
  have e0 : s₁.heap = h0 := by rw [← hh, Bd.state]; rfl
  show own_End p e below s (fun vz h Lz => vz = some (.int (own_F1 q0 q1)) ∧ Lz = [] ∧ h = h0) own_R1.cells own_R1.slots s₁ (entryFrame m #[(.long q0), (.long q1)] 6)
  refine own_End.go (fun t k => castTop (own_ef1 m q0 q1) k) ?_
  show own_End p e below s _ _ _ s₁ (mkF m 0 #[.val (.long q0), .second, .val (.long q1), .second, .unset, .unset] [])
  have st1 : ∀ t, Steps p.tables e below (s₁.setTop (mkF m 12 #[.val (.long q0), .second, .val (.long q1), .second, .unset, .unset] [(.int (lcmpW (q1 - (q1 / (1000 : Int64)) * (1000 : Int64)) (0 : Int64))), (.long (q1 / (1000 : Int64)))])) t → Steps p.tables e below (s₁.setTop (mkF m 0 #[.val (.long q0), .second, .val (.long q1), .second, .unset, .unset] [])) t := by
    intro t k
    show Steps p.tables e below (s₁.setTop (mkF m 0 #[.val (.long q0), .second, .val (.long q1), .second, .unset, .unset] [])) _
    refine XS.lloadN X0.here hx rfl (hb hby own_d1_0) rfl ?_
    show Steps p.tables e below (s₁.setTop (mkF m 1 #[.val (.long q0), .second, .val (.long q1), .second, .unset, .unset] [(.long q1)])) _
    refine X0.ldc2Long hx hown (mvT hZ (hw _ (List.mem_of_getElem? (i := 8) rfl))) (g := (mkF m 1 #[.val (.long q0), .second, .val (.long q1), .second, .unset, .unset] [(.long q1)])) rfl (hb hby own_d1_1) _ ?_
    show Steps p.tables e below (s₁.setTop (mkF m 4 #[.val (.long q0), .second, .val (.long q1), .second, .unset, .unset] [(.long (1000 : Int64)), (.long q1)])) _
    refine XS.ldiv X0.here hx rfl (hb hby own_d1_4) rfl (by decide) ?_
    show Steps p.tables e below (s₁.setTop (mkF m 5 #[.val (.long q0), .second, .val (.long q1), .second, .unset, .unset] [(.long (q1 / (1000 : Int64)))])) _
    refine XS.lloadN X0.here hx rfl (hb hby own_d1_5) rfl ?_
    show Steps p.tables e below (s₁.setTop (mkF m 6 #[.val (.long q0), .second, .val (.long q1), .second, .unset, .unset] [(.long q1), (.long (q1 / (1000 : Int64)))])) _
    refine X0.ldc2Long hx hown (mvT hZ (hw _ (List.mem_of_getElem? (i := 8) rfl))) (g := (mkF m 6 #[.val (.long q0), .second, .val (.long q1), .second, .unset, .unset] [(.long q1), (.long (q1 / (1000 : Int64)))])) rfl (hb hby own_d1_6) _ ?_
    show Steps p.tables e below (s₁.setTop (mkF m 9 #[.val (.long q0), .second, .val (.long q1), .second, .unset, .unset] [(.long (1000 : Int64)), (.long q1), (.long (q1 / (1000 : Int64)))])) _
    refine XS.lrem X0.here hx rfl (hb hby own_d1_9) rfl (by decide) ?_
    show Steps p.tables e below (s₁.setTop (mkF m 10 #[.val (.long q0), .second, .val (.long q1), .second, .unset, .unset] [(.long (q1 - (q1 / (1000 : Int64)) * (1000 : Int64))), (.long (q1 / (1000 : Int64)))])) _
    refine XS.lconst X0.here hx rfl (hb hby own_d1_10) ?_
    show Steps p.tables e below (s₁.setTop (mkF m 11 #[.val (.long q0), .second, .val (.long q1), .second, .unset, .unset] [(.long (0 : Int64)), (.long (q1 - (q1 / (1000 : Int64)) * (1000 : Int64))), (.long (q1 / (1000 : Int64)))])) _
    refine XS.lcmp X0.here hx rfl (hb hby own_d1_11) rfl ?_
    exact k
  obtain ⟨v5, hv5⟩ : ∃ z : Int32, z = (if (q1 - (q1 / (1000 : Int64)) * (1000 : Int64)) = (0 : Int64) then (0 : Int32) else (1 : Int32)) := ⟨_, rfl⟩
  obtain ⟨v6, hv6⟩ : ∃ z : Int64, z = (q1 / (1000 : Int64)) := ⟨_, rfl⟩
  have st7 : ∀ t, Steps p.tables e below (s₁.setTop (mkF m 20 #[.val (.long q0), .second, .val (.long q1), .second, .unset, .unset] [(.int v5), (.long v6)])) t → Steps p.tables e below (s₁.setTop (mkF m 12 #[.val (.long q0), .second, .val (.long q1), .second, .unset, .unset] [(.int (lcmpW (q1 - (q1 / (1000 : Int64)) * (1000 : Int64)) (0 : Int64))), (.long (q1 / (1000 : Int64)))])) t := by
    rw [hv5]
    rw [hv6]
    by_cases hc12_2 : (q1 - (q1 / (1000 : Int64)) * (1000 : Int64)) = (0 : Int64)
    · repeat rw [if_pos hc12_2]
      have st3 : ∀ t, Steps p.tables e below (s₁.setTop (mkF m 20 #[.val (.long q0), .second, .val (.long q1), .second, .unset, .unset] [(.int (0 : Int32)), (.long (q1 / (1000 : Int64)))])) t → Steps p.tables e below (s₁.setTop (mkF m 12 #[.val (.long q0), .second, .val (.long q1), .second, .unset, .unset] [(.int (lcmpW (q1 - (q1 / (1000 : Int64)) * (1000 : Int64)) (0 : Int64))), (.long (q1 / (1000 : Int64)))])) t := by
        intro t k
        show Steps p.tables e below (s₁.setTop (mkF m 12 #[.val (.long q0), .second, .val (.long q1), .second, .unset, .unset] [(.int (lcmpW (q1 - (q1 / (1000 : Int64)) * (1000 : Int64)) (0 : Int64))), (.long (q1 / (1000 : Int64)))])) _
        refine XS.ifNo X0.here hx rfl (hb hby own_d1_12) rfl ((if0 _ _).trans (teq ((lw_eq (q1 - (q1 / (1000 : Int64)) * (1000 : Int64)) (0 : Int64)).mpr hc12_2)).2) ?_
        show Steps p.tables e below (s₁.setTop (mkF m 15 #[.val (.long q0), .second, .val (.long q1), .second, .unset, .unset] [(.long (q1 / (1000 : Int64)))])) _
        refine XS.iconst X0.here hx rfl (hb hby own_d1_15) ?_
        show Steps p.tables e below (s₁.setTop (mkF m 16 #[.val (.long q0), .second, .val (.long q1), .second, .unset, .unset] [(.int (0 : Int32)), (.long (q1 / (1000 : Int64)))])) _
        refine XS.goto X0.here hx rfl (pc0 := 16) (pc' := 20) rfl (hb hby own_d1_16) (by decide) (by decide) ?_
        exact k
      exact fun t k => st3 _ k
    · repeat rw [if_neg hc12_2]
      have st4 : ∀ t, Steps p.tables e below (s₁.setTop (mkF m 20 #[.val (.long q0), .second, .val (.long q1), .second, .unset, .unset] [(.int (1 : Int32)), (.long (q1 / (1000 : Int64)))])) t → Steps p.tables e below (s₁.setTop (mkF m 12 #[.val (.long q0), .second, .val (.long q1), .second, .unset, .unset] [(.int (lcmpW (q1 - (q1 / (1000 : Int64)) * (1000 : Int64)) (0 : Int64))), (.long (q1 / (1000 : Int64)))])) t := by
        intro t k
        show Steps p.tables e below (s₁.setTop (mkF m 12 #[.val (.long q0), .second, .val (.long q1), .second, .unset, .unset] [(.int (lcmpW (q1 - (q1 / (1000 : Int64)) * (1000 : Int64)) (0 : Int64))), (.long (q1 / (1000 : Int64)))])) _
        refine XS.ifYes X0.here hx rfl (pc0 := 12) (pc' := 19) rfl (hb hby own_d1_12) rfl ((if0 _ _).trans (feq (mt (lw_eq (q1 - (q1 / (1000 : Int64)) * (1000 : Int64)) (0 : Int64)).mp hc12_2)).2) (by decide) (by decide) ?_
        show Steps p.tables e below (s₁.setTop (mkF m 19 #[.val (.long q0), .second, .val (.long q1), .second, .unset, .unset] [(.long (q1 / (1000 : Int64)))])) _
        refine XS.iconst X0.here hx rfl (hb hby own_d1_19) ?_
        exact k
      exact fun t k => st4 _ k
  obtain ⟨v8, hv8⟩ : ∃ z : Int64, z = (v6 + (v5.toInt64)) := ⟨_, rfl⟩
  have st9 : ∀ t, Steps p.tables e below (s₁.setTop (mkF m 24 #[.val (.long q0), .second, .val (.long q1), .second, .val (.long v8), .second] [])) t → Steps p.tables e below (s₁.setTop (mkF m 20 #[.val (.long q0), .second, .val (.long q1), .second, .unset, .unset] [(.int v5), (.long v6)])) t := by
    rw [hv8]
    intro t k
    show Steps p.tables e below (s₁.setTop (mkF m 20 #[.val (.long q0), .second, .val (.long q1), .second, .unset, .unset] [(.int v5), (.long v6)])) _
    refine XS.i2l X0.here hx rfl (hb hby own_d1_20) rfl ?_
    show Steps p.tables e below (s₁.setTop (mkF m 21 #[.val (.long q0), .second, .val (.long q1), .second, .unset, .unset] [(.long (v5.toInt64)), (.long v6)])) _
    refine XS.ladd X0.here hx rfl (hb hby own_d1_21) rfl ?_
    show Steps p.tables e below (s₁.setTop (mkF m 22 #[.val (.long q0), .second, .val (.long q1), .second, .unset, .unset] [(.long (v6 + (v5.toInt64)))])) _
    refine XS.lstore X0.here hx rfl (hb hby own_d1_22) rfl (l' := #[.val (.long q0), .second, .val (.long q1), .second, .val (.long (v6 + (v5.toInt64))), .second]) rfl ?_
    exact k
  have st10 : ∀ t, Steps p.tables e below (s₁.setTop (mkF m 30 #[.val (.long q0), .second, .val (.long q1), .second, .val (.long v8), .second] [(.int (lcmpW (q0 - (1 : Int64)) v8))])) t → Steps p.tables e below (s₁.setTop (mkF m 24 #[.val (.long q0), .second, .val (.long q1), .second, .val (.long v8), .second] [])) t := by
    intro t k
    show Steps p.tables e below (s₁.setTop (mkF m 24 #[.val (.long q0), .second, .val (.long q1), .second, .val (.long v8), .second] [])) _
    refine XS.lloadN X0.here hx rfl (hb hby own_d1_24) rfl ?_
    show Steps p.tables e below (s₁.setTop (mkF m 25 #[.val (.long q0), .second, .val (.long q1), .second, .val (.long v8), .second] [(.long q0)])) _
    refine XS.lconst X0.here hx rfl (hb hby own_d1_25) ?_
    show Steps p.tables e below (s₁.setTop (mkF m 26 #[.val (.long q0), .second, .val (.long q1), .second, .val (.long v8), .second] [(.long (1 : Int64)), (.long q0)])) _
    refine XS.lsub X0.here hx rfl (hb hby own_d1_26) rfl ?_
    show Steps p.tables e below (s₁.setTop (mkF m 27 #[.val (.long q0), .second, .val (.long q1), .second, .val (.long v8), .second] [(.long (q0 - (1 : Int64)))])) _
    refine XS.lload X0.here hx rfl (hb hby own_d1_27) rfl ?_
    show Steps p.tables e below (s₁.setTop (mkF m 29 #[.val (.long q0), .second, .val (.long q1), .second, .val (.long v8), .second] [(.long v8), (.long (q0 - (1 : Int64)))])) _
    refine XS.lcmp X0.here hx rfl (hb hby own_d1_29) rfl ?_
    exact k
  refine own_End.go (fun t k => st1 _ (st7 _ (st9 _ (st10 _ k)))) ?_
  by_cases hc30_11 : (q0 - (1 : Int64)) < v8
  · have st12 : ∀ t, Steps p.tables e below (s₁.setTop (mkF m 38 #[.val (.long q0), .second, .val (.long q1), .second, .val (.long v8), .second] [(.int (0 : Int32))])) t → Steps p.tables e below (s₁.setTop (mkF m 30 #[.val (.long q0), .second, .val (.long q1), .second, .val (.long v8), .second] [(.int (lcmpW (q0 - (1 : Int64)) v8))])) t := by
      intro t k
      show Steps p.tables e below (s₁.setTop (mkF m 30 #[.val (.long q0), .second, .val (.long q1), .second, .val (.long v8), .second] [(.int (lcmpW (q0 - (1 : Int64)) v8))])) _
      refine XS.ifYes X0.here hx rfl (pc0 := 30) (pc' := 37) rfl (hb hby own_d1_30) rfl ((if0 _ _).trans (tlt ((lw_lt (q0 - (1 : Int64)) v8).mpr hc30_11)).1) (by decide) (by decide) ?_
      show Steps p.tables e below (s₁.setTop (mkF m 37 #[.val (.long q0), .second, .val (.long q1), .second, .val (.long v8), .second] [])) _
      refine XS.iconst X0.here hx rfl (hb hby own_d1_37) ?_
      exact k
    refine own_End.go (fun t k => st12 _ k) ?_
    exact own_leafN X0 hx Bd.notSynchronized (t := .boolean) Bd.returns (by simp) (hb hby own_d1_38) ⟨congrArg (fun z => some (Value.int z)) (by
        subst hv5 hv6 hv8; simp only [own_F1, own_nb0, own_nb1, if_pos hc30_11]), rfl, e0⟩ (by decide) (by decide)
  · have st13 : ∀ t, Steps p.tables e below (s₁.setTop (mkF m 38 #[.val (.long q0), .second, .val (.long q1), .second, .val (.long v8), .second] [(.int (1 : Int32))])) t → Steps p.tables e below (s₁.setTop (mkF m 30 #[.val (.long q0), .second, .val (.long q1), .second, .val (.long v8), .second] [(.int (lcmpW (q0 - (1 : Int64)) v8))])) t := by
      intro t k
      show Steps p.tables e below (s₁.setTop (mkF m 30 #[.val (.long q0), .second, .val (.long q1), .second, .val (.long v8), .second] [(.int (lcmpW (q0 - (1 : Int64)) v8))])) _
      refine XS.ifNo X0.here hx rfl (hb hby own_d1_30) rfl ((if0 _ _).trans (flt (mt (lw_lt (q0 - (1 : Int64)) v8).mp hc30_11)).1) ?_
      show Steps p.tables e below (s₁.setTop (mkF m 33 #[.val (.long q0), .second, .val (.long q1), .second, .val (.long v8), .second] [])) _
      refine XS.iconst X0.here hx rfl (hb hby own_d1_33) ?_
      show Steps p.tables e below (s₁.setTop (mkF m 34 #[.val (.long q0), .second, .val (.long q1), .second, .val (.long v8), .second] [(.int (1 : Int32))])) _
      refine XS.goto X0.here hx rfl (pc0 := 34) (pc' := 38) rfl (hb hby own_d1_34) (by decide) (by decide) ?_
      exact k
    refine own_End.go (fun t k => st13 _ k) ?_
    exact own_leafN X0 hx Bd.notSynchronized (t := .boolean) Bd.returns (by simp) (hb hby own_d1_38) ⟨congrArg (fun z => some (Value.int z)) (by
        subst hv5 hv6 hv8; simp only [own_F1, own_nb0, own_nb1, if_neg hc30_11]), rfl, e0⟩ (by decide) (by decide)
theorem own_pn0 : plainName "com/example/dibs/dibs/QuorumUpLongerThanPinLaw" = true := by first | (simp [plainName, overriddenIn]; done) | decide +kernel
theorem own_ef0 (m : MethodId) (q0 : Int64) (q1 : Int64) (p2 : Int32) : entryFrame m #[(.long q0), (.long q1), (.int p2)] maxLocals = mkF m 0 #[.val (.long q0), .second, .val (.long q1), .second, .val (.int p2), .unset, .unset, .unset, .unset, .unset, .unset, .unset, .unset, .unset, .unset, .unset, .unset, .unset] [] := by first | (simp [entryFrame, mkF, argsToLocals, Value.category, maxLocals]; done) | rfl
def own_F0 (q0 : Int64) (q1 : Int64) (p2 : Int32) : Int32 :=
  let v1 : Int64 := (q1 &&& (9223372036854775807 : Int64))
  let v3 : Int32 := (((p2.toUInt32 >>> ((2 : Int32) &&& 31).toUInt32).toInt32) &&& (3 : Int32))
  if v3 = (3 : Int32) then
    let v7 : Int32 := (p2 &&& (3 : Int32))
    let v13 : Int64 := (if v7 = (0 : Int32) then q0 else (((v1 / (1000 : Int64)) + ((v7 - (1 : Int32)).toInt64)) + (q0 &&& (1 : Int64))))
    if v13 = (-9223372036854775808 : Int64) then
      (1 : Int32)
    else
      let v18 : Int64 := (v13 - (1 : Int64))
      let v20 : Int64 := (v1 / (1000 : Int64))
      let v22 : Int64 := (v1 - (v1 / (1000 : Int64)) * (1000 : Int64))
      let v36 : Int32 := (if v20 < v18 then (1 : Int32) else (if v20 = v18 then (if v22 = (0 : Int64) then (1 : Int32) else (0 : Int32)) else (0 : Int32)))
      let v40 : Int32 := (own_F1 v13 v1)
      if v40 = v36 then
        (1 : Int32)
      else
        (0 : Int32)
  else
    let v45 : Int64 := ((q1 &&& (140737488355327 : Int64)) * (1000 : Int64))
    let v55 : Int64 := (if v3 = (0 : Int32) then (0 : Int64) else (if v3 = (1 : Int32) then (1 : Int64) else (999 : Int64)))
    let v57 : Int64 := (v45 + v55)
    let v59 : Int32 := (p2 &&& (3 : Int32))
    let v65 : Int64 := (if v59 = (0 : Int32) then q0 else (((v57 / (1000 : Int64)) + ((v59 - (1 : Int32)).toInt64)) + (q0 &&& (1 : Int64))))
    if v65 = (-9223372036854775808 : Int64) then
      (1 : Int32)
    else
      let v70 : Int64 := (v65 - (1 : Int64))
      let v72 : Int64 := (v57 / (1000 : Int64))
      let v74 : Int64 := (v57 - (v57 / (1000 : Int64)) * (1000 : Int64))
      let v88 : Int32 := (if v72 < v70 then (1 : Int32) else (if v72 = v70 then (if v74 = (0 : Int64) then (1 : Int32) else (0 : Int32)) else (0 : Int32)))
      let v92 : Int32 := (own_F1 v65 v57)
      if v92 = v88 then
        (1 : Int32)
      else
        (0 : Int32)
def own_Q0 (q0 : Int64) (q1 : Int64) (p2 : Int32) (h0 : Heap) (n0 : Nat) (vz : Option Value) (h : Heap) (Lz : List Loc) : Prop :=  vz = some (.int (own_F0 q0 q1 p2)) ∧ Fr n0 Lz
set_option maxRecDepth 65536 in
set_option maxHeartbeats 40000000 in
theorem own_rm0 (l : Launch) (Z : State) (a0 : Array Value) (hw : ∀ d ∈ tables_1, d.before a0 Z = true) (ws : List Jvm.Cond) (q0 : Int64) (q1 : Int64) (p2 : Int32) (h0 : Heap) (n0 : Nat) (Z0 : n0 ≤ h0.size) :
    MetFree l x (head1 (Jvm.Cond.code x code maxLocals ret :: ws) room_1) (fun a U => a = #[(.long q0), (.long q1), (.int p2)] ∧ Z.Warmed39 U.vm ∧ U.heap = h0) (fun _ _ _ _ _ => True) (fun _ U o U' => ∃ vz Lz, o = .returned vz ∧ own_Q0 q0 q1 p2 h0 n0 vz U'.heap Lz ∧ FrameEnd U o U' Lz room_1.cells room_1.slots) := by
  refine MetFree.of_bodySF (plainFor_of_name own_pn0) hisR ?_
  intro p e s m args below meth c s₁ Bd hml0 hP hK
  obtain ⟨rfl, hZ, hh⟩ := hP
  have hx := Bd.exec
  have hby := Bd.bytes
  have hml : c.maxLocals = 18 := hml0
  have hown : s.vm.findClass "com/example/dibs/dibs/QuorumUpLongerThanPinLaw" = some m.cls := findClass_of_methodNamed Bd.named
  have hnm := (name_of_methodNamed Bd.named Bd.method).1
  have X0 : Stand p l e room_1 s m #[(.long q0), (.long q1), (.int p2)] below meth c s₁ [] 0 0 := Stand.of_body Bd
  have e0 : s₁.heap = h0 := by rw [← hh, Bd.state]; rfl
  show own_End p e below s (fun vz h Lz => vz = some (.int (own_F0 q0 q1 p2)) ∧ Fr n0 Lz) room_1.cells room_1.slots s₁ (entryFrame m #[(.long q0), (.long q1), (.int p2)] maxLocals)
  refine own_End.go (fun t k => castTop (own_ef0 m q0 q1 p2) k) ?_
  show own_End p e below s _ _ _ s₁ (mkF m 0 #[.val (.long q0), .second, .val (.long q1), .second, .val (.int p2), .unset, .unset, .unset, .unset, .unset, .unset, .unset, .unset, .unset, .unset, .unset, .unset, .unset] [])
  obtain ⟨v1, hv1⟩ : ∃ z : Int64, z = (q1 &&& (9223372036854775807 : Int64)) := ⟨_, rfl⟩
  have st2 : ∀ t, Steps p.tables e below (s₁.setTop (mkF m 7 #[.val (.long q0), .second, .val (.long q1), .second, .val (.int p2), .val (.long v1), .second, .unset, .unset, .unset, .unset, .unset, .unset, .unset, .unset, .unset, .unset, .unset] [])) t → Steps p.tables e below (s₁.setTop (mkF m 0 #[.val (.long q0), .second, .val (.long q1), .second, .val (.int p2), .unset, .unset, .unset, .unset, .unset, .unset, .unset, .unset, .unset, .unset, .unset, .unset, .unset] [])) t := by
    rw [hv1]
    intro t k
    show Steps p.tables e below (s₁.setTop (mkF m 0 #[.val (.long q0), .second, .val (.long q1), .second, .val (.int p2), .unset, .unset, .unset, .unset, .unset, .unset, .unset, .unset, .unset, .unset, .unset, .unset, .unset] [])) _
    refine XS.lloadN X0.here hx rfl (hb hby at_0) rfl ?_
    show Steps p.tables e below (s₁.setTop (mkF m 1 #[.val (.long q0), .second, .val (.long q1), .second, .val (.int p2), .unset, .unset, .unset, .unset, .unset, .unset, .unset, .unset, .unset, .unset, .unset, .unset, .unset] [(.long q1)])) _
    refine X0.ldc2Long hx hown (mvT hZ (hw _ (List.mem_of_getElem? (i := 0) rfl))) (g := (mkF m 1 #[.val (.long q0), .second, .val (.long q1), .second, .val (.int p2), .unset, .unset, .unset, .unset, .unset, .unset, .unset, .unset, .unset, .unset, .unset, .unset, .unset] [(.long q1)])) rfl (hb hby at_1) _ ?_
    show Steps p.tables e below (s₁.setTop (mkF m 4 #[.val (.long q0), .second, .val (.long q1), .second, .val (.int p2), .unset, .unset, .unset, .unset, .unset, .unset, .unset, .unset, .unset, .unset, .unset, .unset, .unset] [(.long (9223372036854775807 : Int64)), (.long q1)])) _
    refine XS.land X0.here hx rfl (hb hby at_4) rfl ?_
    show Steps p.tables e below (s₁.setTop (mkF m 5 #[.val (.long q0), .second, .val (.long q1), .second, .val (.int p2), .unset, .unset, .unset, .unset, .unset, .unset, .unset, .unset, .unset, .unset, .unset, .unset, .unset] [(.long (q1 &&& (9223372036854775807 : Int64)))])) _
    refine XS.lstore X0.here hx rfl (hb hby at_5) rfl (l' := #[.val (.long q0), .second, .val (.long q1), .second, .val (.int p2), .val (.long (q1 &&& (9223372036854775807 : Int64))), .second, .unset, .unset, .unset, .unset, .unset, .unset, .unset, .unset, .unset, .unset, .unset]) rfl ?_
    exact k
  obtain ⟨v3, hv3⟩ : ∃ z : Int32, z = (((p2.toUInt32 >>> ((2 : Int32) &&& 31).toUInt32).toInt32) &&& (3 : Int32)) := ⟨_, rfl⟩
  have st4 : ∀ t, Steps p.tables e below (s₁.setTop (mkF m 15 #[.val (.long q0), .second, .val (.long q1), .second, .val (.int p2), .val (.long v1), .second, .val (.int v3), .unset, .unset, .unset, .unset, .unset, .unset, .unset, .unset, .unset, .unset] [])) t → Steps p.tables e below (s₁.setTop (mkF m 7 #[.val (.long q0), .second, .val (.long q1), .second, .val (.int p2), .val (.long v1), .second, .unset, .unset, .unset, .unset, .unset, .unset, .unset, .unset, .unset, .unset, .unset] [])) t := by
    rw [hv3]
    intro t k
    show Steps p.tables e below (s₁.setTop (mkF m 7 #[.val (.long q0), .second, .val (.long q1), .second, .val (.int p2), .val (.long v1), .second, .unset, .unset, .unset, .unset, .unset, .unset, .unset, .unset, .unset, .unset, .unset] [])) _
    refine XS.iload X0.here hx rfl (hb hby at_7) rfl ?_
    show Steps p.tables e below (s₁.setTop (mkF m 9 #[.val (.long q0), .second, .val (.long q1), .second, .val (.int p2), .val (.long v1), .second, .unset, .unset, .unset, .unset, .unset, .unset, .unset, .unset, .unset, .unset, .unset] [(.int p2)])) _
    refine XS.iconst X0.here hx rfl (hb hby at_9) ?_
    show Steps p.tables e below (s₁.setTop (mkF m 10 #[.val (.long q0), .second, .val (.long q1), .second, .val (.int p2), .val (.long v1), .second, .unset, .unset, .unset, .unset, .unset, .unset, .unset, .unset, .unset, .unset, .unset] [(.int (2 : Int32)), (.int p2)])) _
    refine XS.iushr X0.here hx rfl (hb hby at_10) rfl ?_
    show Steps p.tables e below (s₁.setTop (mkF m 11 #[.val (.long q0), .second, .val (.long q1), .second, .val (.int p2), .val (.long v1), .second, .unset, .unset, .unset, .unset, .unset, .unset, .unset, .unset, .unset, .unset, .unset] [(.int ((p2.toUInt32 >>> ((2 : Int32) &&& 31).toUInt32).toInt32))])) _
    refine XS.iconst X0.here hx rfl (hb hby at_11) ?_
    show Steps p.tables e below (s₁.setTop (mkF m 12 #[.val (.long q0), .second, .val (.long q1), .second, .val (.int p2), .val (.long v1), .second, .unset, .unset, .unset, .unset, .unset, .unset, .unset, .unset, .unset, .unset, .unset] [(.int (3 : Int32)), (.int ((p2.toUInt32 >>> ((2 : Int32) &&& 31).toUInt32).toInt32))])) _
    refine XS.iand X0.here hx rfl (hb hby at_12) rfl ?_
    show Steps p.tables e below (s₁.setTop (mkF m 13 #[.val (.long q0), .second, .val (.long q1), .second, .val (.int p2), .val (.long v1), .second, .unset, .unset, .unset, .unset, .unset, .unset, .unset, .unset, .unset, .unset, .unset] [(.int (((p2.toUInt32 >>> ((2 : Int32) &&& 31).toUInt32).toInt32) &&& (3 : Int32)))])) _
    refine XS.istore X0.here hx rfl (hb hby at_13) rfl (l' := #[.val (.long q0), .second, .val (.long q1), .second, .val (.int p2), .val (.long v1), .second, .val (.int (((p2.toUInt32 >>> ((2 : Int32) &&& 31).toUInt32).toInt32) &&& (3 : Int32))), .unset, .unset, .unset, .unset, .unset, .unset, .unset, .unset, .unset, .unset]) rfl ?_
    exact k
  have st5 : ∀ t, Steps p.tables e below (s₁.setTop (mkF m 18 #[.val (.long q0), .second, .val (.long q1), .second, .val (.int p2), .val (.long v1), .second, .val (.int v3), .unset, .unset, .unset, .unset, .unset, .unset, .unset, .unset, .unset, .unset] [(.int (3 : Int32)), (.int v3)])) t → Steps p.tables e below (s₁.setTop (mkF m 15 #[.val (.long q0), .second, .val (.long q1), .second, .val (.int p2), .val (.long v1), .second, .val (.int v3), .unset, .unset, .unset, .unset, .unset, .unset, .unset, .unset, .unset, .unset] [])) t := by
    intro t k
    show Steps p.tables e below (s₁.setTop (mkF m 15 #[.val (.long q0), .second, .val (.long q1), .second, .val (.int p2), .val (.long v1), .second, .val (.int v3), .unset, .unset, .unset, .unset, .unset, .unset, .unset, .unset, .unset, .unset] [])) _
    refine XS.iload X0.here hx rfl (hb hby at_15) rfl ?_
    show Steps p.tables e below (s₁.setTop (mkF m 17 #[.val (.long q0), .second, .val (.long q1), .second, .val (.int p2), .val (.long v1), .second, .val (.int v3), .unset, .unset, .unset, .unset, .unset, .unset, .unset, .unset, .unset, .unset] [(.int v3)])) _
    refine XS.iconst X0.here hx rfl (hb hby at_17) ?_
    exact k
  refine own_End.go (fun t k => st2 _ (st4 _ (st5 _ k))) ?_
  by_cases hc18_6 : v3 = (3 : Int32)
  · obtain ⟨v7, hv7⟩ : ∃ z : Int32, z = (p2 &&& (3 : Int32)) := ⟨_, rfl⟩
    have st8 : ∀ t, Steps p.tables e below (s₁.setTop (mkF m 69 #[.val (.long q0), .second, .val (.long q1), .second, .val (.int p2), .val (.long v1), .second, .val (.int v3), .unset, .unset, .val (.int v7), .unset, .unset, .unset, .unset, .unset, .unset, .unset] [])) t → Steps p.tables e below (s₁.setTop (mkF m 18 #[.val (.long q0), .second, .val (.long q1), .second, .val (.int p2), .val (.long v1), .second, .val (.int v3), .unset, .unset, .unset, .unset, .unset, .unset, .unset, .unset, .unset, .unset] [(.int (3 : Int32)), (.int v3)])) t := by
      rw [hv7]
      intro t k
      show Steps p.tables e below (s₁.setTop (mkF m 18 #[.val (.long q0), .second, .val (.long q1), .second, .val (.int p2), .val (.long v1), .second, .val (.int v3), .unset, .unset, .unset, .unset, .unset, .unset, .unset, .unset, .unset, .unset] [(.int (3 : Int32)), (.int v3)])) _
      refine XS.icmpYes X0.here hx rfl (pc0 := 18) (pc' := 63) rfl (hb hby at_18) rfl (teq hc18_6).1 (by decide) (by decide) ?_
      show Steps p.tables e below (s₁.setTop (mkF m 63 #[.val (.long q0), .second, .val (.long q1), .second, .val (.int p2), .val (.long v1), .second, .val (.int v3), .unset, .unset, .unset, .unset, .unset, .unset, .unset, .unset, .unset, .unset] [])) _
      refine XS.iload X0.here hx rfl (hb hby at_63) rfl ?_
      show Steps p.tables e below (s₁.setTop (mkF m 65 #[.val (.long q0), .second, .val (.long q1), .second, .val (.int p2), .val (.long v1), .second, .val (.int v3), .unset, .unset, .unset, .unset, .unset, .unset, .unset, .unset, .unset, .unset] [(.int p2)])) _
      refine XS.iconst X0.here hx rfl (hb hby at_65) ?_
      show Steps p.tables e below (s₁.setTop (mkF m 66 #[.val (.long q0), .second, .val (.long q1), .second, .val (.int p2), .val (.long v1), .second, .val (.int v3), .unset, .unset, .unset, .unset, .unset, .unset, .unset, .unset, .unset, .unset] [(.int (3 : Int32)), (.int p2)])) _
      refine XS.iand X0.here hx rfl (hb hby at_66) rfl ?_
      show Steps p.tables e below (s₁.setTop (mkF m 67 #[.val (.long q0), .second, .val (.long q1), .second, .val (.int p2), .val (.long v1), .second, .val (.int v3), .unset, .unset, .unset, .unset, .unset, .unset, .unset, .unset, .unset, .unset] [(.int (p2 &&& (3 : Int32)))])) _
      refine XS.istore X0.here hx rfl (hb hby at_67) rfl (l' := #[.val (.long q0), .second, .val (.long q1), .second, .val (.int p2), .val (.long v1), .second, .val (.int v3), .unset, .unset, .val (.int (p2 &&& (3 : Int32))), .unset, .unset, .unset, .unset, .unset, .unset, .unset]) rfl ?_
      exact k
    have st9 : ∀ t, Steps p.tables e below (s₁.setTop (mkF m 71 #[.val (.long q0), .second, .val (.long q1), .second, .val (.int p2), .val (.long v1), .second, .val (.int v3), .unset, .unset, .val (.int v7), .unset, .unset, .unset, .unset, .unset, .unset, .unset] [(.int v7)])) t → Steps p.tables e below (s₁.setTop (mkF m 69 #[.val (.long q0), .second, .val (.long q1), .second, .val (.int p2), .val (.long v1), .second, .val (.int v3), .unset, .unset, .val (.int v7), .unset, .unset, .unset, .unset, .unset, .unset, .unset] [])) t := by
      intro t k
      show Steps p.tables e below (s₁.setTop (mkF m 69 #[.val (.long q0), .second, .val (.long q1), .second, .val (.int p2), .val (.long v1), .second, .val (.int v3), .unset, .unset, .val (.int v7), .unset, .unset, .unset, .unset, .unset, .unset, .unset] [])) _
      refine XS.iload X0.here hx rfl (hb hby at_69) rfl ?_
      exact k
    obtain ⟨v13, hv13⟩ : ∃ z : Int64, z = (if v7 = (0 : Int32) then q0 else (((v1 / (1000 : Int64)) + ((v7 - (1 : Int32)).toInt64)) + (q0 &&& (1 : Int64)))) := ⟨_, rfl⟩
    have st14 : ∀ t, Steps p.tables e below (s₁.setTop (mkF m 98 #[.val (.long q0), .second, .val (.long q1), .second, .val (.int p2), .val (.long v1), .second, .val (.int v3), .val (.long v13), .second, .val (.int v7), .unset, .unset, .unset, .unset, .unset, .unset, .unset] [])) t → Steps p.tables e below (s₁.setTop (mkF m 71 #[.val (.long q0), .second, .val (.long q1), .second, .val (.int p2), .val (.long v1), .second, .val (.int v3), .unset, .unset, .val (.int v7), .unset, .unset, .unset, .unset, .unset, .unset, .unset] [(.int v7)])) t := by
      rw [hv13]
      by_cases hc71_10 : v7 = (0 : Int32)
      · repeat rw [if_pos hc71_10]
        have st11 : ∀ t, Steps p.tables e below (s₁.setTop (mkF m 98 #[.val (.long q0), .second, .val (.long q1), .second, .val (.int p2), .val (.long v1), .second, .val (.int v3), .val (.long q0), .second, .val (.int v7), .unset, .unset, .unset, .unset, .unset, .unset, .unset] [])) t → Steps p.tables e below (s₁.setTop (mkF m 71 #[.val (.long q0), .second, .val (.long q1), .second, .val (.int p2), .val (.long v1), .second, .val (.int v3), .unset, .unset, .val (.int v7), .unset, .unset, .unset, .unset, .unset, .unset, .unset] [(.int v7)])) t := by
          intro t k
          show Steps p.tables e below (s₁.setTop (mkF m 71 #[.val (.long q0), .second, .val (.long q1), .second, .val (.int p2), .val (.long v1), .second, .val (.int v3), .unset, .unset, .val (.int v7), .unset, .unset, .unset, .unset, .unset, .unset, .unset] [(.int v7)])) _
          refine XS.ifNo X0.here hx rfl (hb hby at_71) rfl ((if0 _ _).trans (teq hc71_10).2) ?_
          show Steps p.tables e below (s₁.setTop (mkF m 74 #[.val (.long q0), .second, .val (.long q1), .second, .val (.int p2), .val (.long v1), .second, .val (.int v3), .unset, .unset, .val (.int v7), .unset, .unset, .unset, .unset, .unset, .unset, .unset] [])) _
          refine XS.lloadN X0.here hx rfl (hb hby at_74) rfl ?_
          show Steps p.tables e below (s₁.setTop (mkF m 75 #[.val (.long q0), .second, .val (.long q1), .second, .val (.int p2), .val (.long v1), .second, .val (.int v3), .unset, .unset, .val (.int v7), .unset, .unset, .unset, .unset, .unset, .unset, .unset] [(.long q0)])) _
          refine XS.lstore X0.here hx rfl (hb hby at_75) rfl (l' := #[.val (.long q0), .second, .val (.long q1), .second, .val (.int p2), .val (.long v1), .second, .val (.int v3), .val (.long q0), .second, .val (.int v7), .unset, .unset, .unset, .unset, .unset, .unset, .unset]) rfl ?_
          show Steps p.tables e below (s₁.setTop (mkF m 77 #[.val (.long q0), .second, .val (.long q1), .second, .val (.int p2), .val (.long v1), .second, .val (.int v3), .val (.long q0), .second, .val (.int v7), .unset, .unset, .unset, .unset, .unset, .unset, .unset] [])) _
          refine XS.goto X0.here hx rfl (pc0 := 77) (pc' := 98) rfl (hb hby at_77) (by decide) (by decide) ?_
          exact k
        exact fun t k => st11 _ k
      · repeat rw [if_neg hc71_10]
        have st12 : ∀ t, Steps p.tables e below (s₁.setTop (mkF m 98 #[.val (.long q0), .second, .val (.long q1), .second, .val (.int p2), .val (.long v1), .second, .val (.int v3), .val (.long (((v1 / (1000 : Int64)) + ((v7 - (1 : Int32)).toInt64)) + (q0 &&& (1 : Int64)))), .second, .val (.int v7), .unset, .unset, .unset, .unset, .unset, .unset, .unset] [])) t → Steps p.tables e below (s₁.setTop (mkF m 71 #[.val (.long q0), .second, .val (.long q1), .second, .val (.int p2), .val (.long v1), .second, .val (.int v3), .unset, .unset, .val (.int v7), .unset, .unset, .unset, .unset, .unset, .unset, .unset] [(.int v7)])) t := by
          intro t k
          show Steps p.tables e below (s₁.setTop (mkF m 71 #[.val (.long q0), .second, .val (.long q1), .second, .val (.int p2), .val (.long v1), .second, .val (.int v3), .unset, .unset, .val (.int v7), .unset, .unset, .unset, .unset, .unset, .unset, .unset] [(.int v7)])) _
          refine XS.ifYes X0.here hx rfl (pc0 := 71) (pc' := 80) rfl (hb hby at_71) rfl ((if0 _ _).trans (feq hc71_10).2) (by decide) (by decide) ?_
          show Steps p.tables e below (s₁.setTop (mkF m 80 #[.val (.long q0), .second, .val (.long q1), .second, .val (.int p2), .val (.long v1), .second, .val (.int v3), .unset, .unset, .val (.int v7), .unset, .unset, .unset, .unset, .unset, .unset, .unset] [])) _
          refine XS.lload X0.here hx rfl (hb hby at_80) rfl ?_
          show Steps p.tables e below (s₁.setTop (mkF m 82 #[.val (.long q0), .second, .val (.long q1), .second, .val (.int p2), .val (.long v1), .second, .val (.int v3), .unset, .unset, .val (.int v7), .unset, .unset, .unset, .unset, .unset, .unset, .unset] [(.long v1)])) _
          refine X0.ldc2Long hx hown (mvT hZ (hw _ (List.mem_of_getElem? (i := 2) rfl))) (g := (mkF m 82 #[.val (.long q0), .second, .val (.long q1), .second, .val (.int p2), .val (.long v1), .second, .val (.int v3), .unset, .unset, .val (.int v7), .unset, .unset, .unset, .unset, .unset, .unset, .unset] [(.long v1)])) rfl (hb hby at_82) _ ?_
          show Steps p.tables e below (s₁.setTop (mkF m 85 #[.val (.long q0), .second, .val (.long q1), .second, .val (.int p2), .val (.long v1), .second, .val (.int v3), .unset, .unset, .val (.int v7), .unset, .unset, .unset, .unset, .unset, .unset, .unset] [(.long (1000 : Int64)), (.long v1)])) _
          refine XS.ldiv X0.here hx rfl (hb hby at_85) rfl (by decide) ?_
          show Steps p.tables e below (s₁.setTop (mkF m 86 #[.val (.long q0), .second, .val (.long q1), .second, .val (.int p2), .val (.long v1), .second, .val (.int v3), .unset, .unset, .val (.int v7), .unset, .unset, .unset, .unset, .unset, .unset, .unset] [(.long (v1 / (1000 : Int64)))])) _
          refine XS.iload X0.here hx rfl (hb hby at_86) rfl ?_
          show Steps p.tables e below (s₁.setTop (mkF m 88 #[.val (.long q0), .second, .val (.long q1), .second, .val (.int p2), .val (.long v1), .second, .val (.int v3), .unset, .unset, .val (.int v7), .unset, .unset, .unset, .unset, .unset, .unset, .unset] [(.int v7), (.long (v1 / (1000 : Int64)))])) _
          refine XS.iconst X0.here hx rfl (hb hby at_88) ?_
          show Steps p.tables e below (s₁.setTop (mkF m 89 #[.val (.long q0), .second, .val (.long q1), .second, .val (.int p2), .val (.long v1), .second, .val (.int v3), .unset, .unset, .val (.int v7), .unset, .unset, .unset, .unset, .unset, .unset, .unset] [(.int (1 : Int32)), (.int v7), (.long (v1 / (1000 : Int64)))])) _
          refine XS.isub X0.here hx rfl (hb hby at_89) rfl ?_
          show Steps p.tables e below (s₁.setTop (mkF m 90 #[.val (.long q0), .second, .val (.long q1), .second, .val (.int p2), .val (.long v1), .second, .val (.int v3), .unset, .unset, .val (.int v7), .unset, .unset, .unset, .unset, .unset, .unset, .unset] [(.int (v7 - (1 : Int32))), (.long (v1 / (1000 : Int64)))])) _
          refine XS.i2l X0.here hx rfl (hb hby at_90) rfl ?_
          show Steps p.tables e below (s₁.setTop (mkF m 91 #[.val (.long q0), .second, .val (.long q1), .second, .val (.int p2), .val (.long v1), .second, .val (.int v3), .unset, .unset, .val (.int v7), .unset, .unset, .unset, .unset, .unset, .unset, .unset] [(.long ((v7 - (1 : Int32)).toInt64)), (.long (v1 / (1000 : Int64)))])) _
          refine XS.ladd X0.here hx rfl (hb hby at_91) rfl ?_
          show Steps p.tables e below (s₁.setTop (mkF m 92 #[.val (.long q0), .second, .val (.long q1), .second, .val (.int p2), .val (.long v1), .second, .val (.int v3), .unset, .unset, .val (.int v7), .unset, .unset, .unset, .unset, .unset, .unset, .unset] [(.long ((v1 / (1000 : Int64)) + ((v7 - (1 : Int32)).toInt64)))])) _
          refine XS.lloadN X0.here hx rfl (hb hby at_92) rfl ?_
          show Steps p.tables e below (s₁.setTop (mkF m 93 #[.val (.long q0), .second, .val (.long q1), .second, .val (.int p2), .val (.long v1), .second, .val (.int v3), .unset, .unset, .val (.int v7), .unset, .unset, .unset, .unset, .unset, .unset, .unset] [(.long q0), (.long ((v1 / (1000 : Int64)) + ((v7 - (1 : Int32)).toInt64)))])) _
          refine XS.lconst X0.here hx rfl (hb hby at_93) ?_
          show Steps p.tables e below (s₁.setTop (mkF m 94 #[.val (.long q0), .second, .val (.long q1), .second, .val (.int p2), .val (.long v1), .second, .val (.int v3), .unset, .unset, .val (.int v7), .unset, .unset, .unset, .unset, .unset, .unset, .unset] [(.long (1 : Int64)), (.long q0), (.long ((v1 / (1000 : Int64)) + ((v7 - (1 : Int32)).toInt64)))])) _
          refine XS.land X0.here hx rfl (hb hby at_94) rfl ?_
          show Steps p.tables e below (s₁.setTop (mkF m 95 #[.val (.long q0), .second, .val (.long q1), .second, .val (.int p2), .val (.long v1), .second, .val (.int v3), .unset, .unset, .val (.int v7), .unset, .unset, .unset, .unset, .unset, .unset, .unset] [(.long (q0 &&& (1 : Int64))), (.long ((v1 / (1000 : Int64)) + ((v7 - (1 : Int32)).toInt64)))])) _
          refine XS.ladd X0.here hx rfl (hb hby at_95) rfl ?_
          show Steps p.tables e below (s₁.setTop (mkF m 96 #[.val (.long q0), .second, .val (.long q1), .second, .val (.int p2), .val (.long v1), .second, .val (.int v3), .unset, .unset, .val (.int v7), .unset, .unset, .unset, .unset, .unset, .unset, .unset] [(.long (((v1 / (1000 : Int64)) + ((v7 - (1 : Int32)).toInt64)) + (q0 &&& (1 : Int64))))])) _
          refine XS.lstore X0.here hx rfl (hb hby at_96) rfl (l' := #[.val (.long q0), .second, .val (.long q1), .second, .val (.int p2), .val (.long v1), .second, .val (.int v3), .val (.long (((v1 / (1000 : Int64)) + ((v7 - (1 : Int32)).toInt64)) + (q0 &&& (1 : Int64)))), .second, .val (.int v7), .unset, .unset, .unset, .unset, .unset, .unset, .unset]) rfl ?_
          exact k
        exact fun t k => st12 _ k
    have st15 : ∀ t, Steps p.tables e below (s₁.setTop (mkF m 104 #[.val (.long q0), .second, .val (.long q1), .second, .val (.int p2), .val (.long v1), .second, .val (.int v3), .val (.long v13), .second, .val (.int v7), .unset, .unset, .unset, .unset, .unset, .unset, .unset] [(.int (lcmpW v13 (-9223372036854775808 : Int64)))])) t → Steps p.tables e below (s₁.setTop (mkF m 98 #[.val (.long q0), .second, .val (.long q1), .second, .val (.int p2), .val (.long v1), .second, .val (.int v3), .val (.long v13), .second, .val (.int v7), .unset, .unset, .unset, .unset, .unset, .unset, .unset] [])) t := by
      intro t k
      show Steps p.tables e below (s₁.setTop (mkF m 98 #[.val (.long q0), .second, .val (.long q1), .second, .val (.int p2), .val (.long v1), .second, .val (.int v3), .val (.long v13), .second, .val (.int v7), .unset, .unset, .unset, .unset, .unset, .unset, .unset] [])) _
      refine XS.lload X0.here hx rfl (hb hby at_98) rfl ?_
      show Steps p.tables e below (s₁.setTop (mkF m 100 #[.val (.long q0), .second, .val (.long q1), .second, .val (.int p2), .val (.long v1), .second, .val (.int v3), .val (.long v13), .second, .val (.int v7), .unset, .unset, .unset, .unset, .unset, .unset, .unset] [(.long v13)])) _
      refine X0.ldc2Long hx hown (mvT hZ (hw _ (List.mem_of_getElem? (i := 3) rfl))) (g := (mkF m 100 #[.val (.long q0), .second, .val (.long q1), .second, .val (.int p2), .val (.long v1), .second, .val (.int v3), .val (.long v13), .second, .val (.int v7), .unset, .unset, .unset, .unset, .unset, .unset, .unset] [(.long v13)])) rfl (hb hby at_100) _ ?_
      show Steps p.tables e below (s₁.setTop (mkF m 103 #[.val (.long q0), .second, .val (.long q1), .second, .val (.int p2), .val (.long v1), .second, .val (.int v3), .val (.long v13), .second, .val (.int v7), .unset, .unset, .unset, .unset, .unset, .unset, .unset] [(.long (-9223372036854775808 : Int64)), (.long v13)])) _
      refine XS.lcmp X0.here hx rfl (hb hby at_103) rfl ?_
      exact k
    refine own_End.go (fun t k => st8 _ (st9 _ (st14 _ (st15 _ k)))) ?_
    by_cases hc104_16 : v13 = (-9223372036854775808 : Int64)
    · have st17 : ∀ t, Steps p.tables e below (s₁.setTop (mkF m 108 #[.val (.long q0), .second, .val (.long q1), .second, .val (.int p2), .val (.long v1), .second, .val (.int v3), .val (.long v13), .second, .val (.int v7), .unset, .unset, .unset, .unset, .unset, .unset, .unset] [(.int (1 : Int32))])) t → Steps p.tables e below (s₁.setTop (mkF m 104 #[.val (.long q0), .second, .val (.long q1), .second, .val (.int p2), .val (.long v1), .second, .val (.int v3), .val (.long v13), .second, .val (.int v7), .unset, .unset, .unset, .unset, .unset, .unset, .unset] [(.int (lcmpW v13 (-9223372036854775808 : Int64)))])) t := by
        intro t k
        show Steps p.tables e below (s₁.setTop (mkF m 104 #[.val (.long q0), .second, .val (.long q1), .second, .val (.int p2), .val (.long v1), .second, .val (.int v3), .val (.long v13), .second, .val (.int v7), .unset, .unset, .unset, .unset, .unset, .unset, .unset] [(.int (lcmpW v13 (-9223372036854775808 : Int64)))])) _
        refine XS.ifNo X0.here hx rfl (hb hby at_104) rfl ((if0 _ _).trans (teq ((lw_eq v13 (-9223372036854775808 : Int64)).mpr hc104_16)).2) ?_
        show Steps p.tables e below (s₁.setTop (mkF m 107 #[.val (.long q0), .second, .val (.long q1), .second, .val (.int p2), .val (.long v1), .second, .val (.int v3), .val (.long v13), .second, .val (.int v7), .unset, .unset, .unset, .unset, .unset, .unset, .unset] [])) _
        refine XS.iconst X0.here hx rfl (hb hby at_107) ?_
        exact k
      refine own_End.go (fun t k => st17 _ k) ?_
      exact own_leafN X0 hx Bd.notSynchronized (t := .boolean) Bd.returns (by simp) (hb hby at_108) ⟨congrArg (fun z => some (Value.int z)) (by
          subst hv1 hv3 hv7 hv13; simp only [own_F0, own_nb0, own_nb1, if_pos hc18_6, if_pos hc104_16]), Fr.nil n0⟩ (by decide) (by decide)
    · obtain ⟨v18, hv18⟩ : ∃ z : Int64, z = (v13 - (1 : Int64)) := ⟨_, rfl⟩
      have st19 : ∀ t, Steps p.tables e below (s₁.setTop (mkF m 115 #[.val (.long q0), .second, .val (.long q1), .second, .val (.int p2), .val (.long v1), .second, .val (.int v3), .val (.long v13), .second, .val (.int v7), .val (.long v18), .second, .unset, .unset, .unset, .unset, .unset] [])) t → Steps p.tables e below (s₁.setTop (mkF m 104 #[.val (.long q0), .second, .val (.long q1), .second, .val (.int p2), .val (.long v1), .second, .val (.int v3), .val (.long v13), .second, .val (.int v7), .unset, .unset, .unset, .unset, .unset, .unset, .unset] [(.int (lcmpW v13 (-9223372036854775808 : Int64)))])) t := by
        rw [hv18]
        intro t k
        show Steps p.tables e below (s₁.setTop (mkF m 104 #[.val (.long q0), .second, .val (.long q1), .second, .val (.int p2), .val (.long v1), .second, .val (.int v3), .val (.long v13), .second, .val (.int v7), .unset, .unset, .unset, .unset, .unset, .unset, .unset] [(.int (lcmpW v13 (-9223372036854775808 : Int64)))])) _
        refine XS.ifYes X0.here hx rfl (pc0 := 104) (pc' := 109) rfl (hb hby at_104) rfl ((if0 _ _).trans (feq (mt (lw_eq v13 (-9223372036854775808 : Int64)).mp hc104_16)).2) (by decide) (by decide) ?_
        show Steps p.tables e below (s₁.setTop (mkF m 109 #[.val (.long q0), .second, .val (.long q1), .second, .val (.int p2), .val (.long v1), .second, .val (.int v3), .val (.long v13), .second, .val (.int v7), .unset, .unset, .unset, .unset, .unset, .unset, .unset] [])) _
        refine XS.lload X0.here hx rfl (hb hby at_109) rfl ?_
        show Steps p.tables e below (s₁.setTop (mkF m 111 #[.val (.long q0), .second, .val (.long q1), .second, .val (.int p2), .val (.long v1), .second, .val (.int v3), .val (.long v13), .second, .val (.int v7), .unset, .unset, .unset, .unset, .unset, .unset, .unset] [(.long v13)])) _
        refine XS.lconst X0.here hx rfl (hb hby at_111) ?_
        show Steps p.tables e below (s₁.setTop (mkF m 112 #[.val (.long q0), .second, .val (.long q1), .second, .val (.int p2), .val (.long v1), .second, .val (.int v3), .val (.long v13), .second, .val (.int v7), .unset, .unset, .unset, .unset, .unset, .unset, .unset] [(.long (1 : Int64)), (.long v13)])) _
        refine XS.lsub X0.here hx rfl (hb hby at_112) rfl ?_
        show Steps p.tables e below (s₁.setTop (mkF m 113 #[.val (.long q0), .second, .val (.long q1), .second, .val (.int p2), .val (.long v1), .second, .val (.int v3), .val (.long v13), .second, .val (.int v7), .unset, .unset, .unset, .unset, .unset, .unset, .unset] [(.long (v13 - (1 : Int64)))])) _
        refine XS.lstore X0.here hx rfl (hb hby at_113) rfl (l' := #[.val (.long q0), .second, .val (.long q1), .second, .val (.int p2), .val (.long v1), .second, .val (.int v3), .val (.long v13), .second, .val (.int v7), .val (.long (v13 - (1 : Int64))), .second, .unset, .unset, .unset, .unset, .unset]) rfl ?_
        exact k
      obtain ⟨v20, hv20⟩ : ∃ z : Int64, z = (v1 / (1000 : Int64)) := ⟨_, rfl⟩
      have st21 : ∀ t, Steps p.tables e below (s₁.setTop (mkF m 123 #[.val (.long q0), .second, .val (.long q1), .second, .val (.int p2), .val (.long v1), .second, .val (.int v3), .val (.long v13), .second, .val (.int v7), .val (.long v18), .second, .val (.long v20), .second, .unset, .unset, .unset] [])) t → Steps p.tables e below (s₁.setTop (mkF m 115 #[.val (.long q0), .second, .val (.long q1), .second, .val (.int p2), .val (.long v1), .second, .val (.int v3), .val (.long v13), .second, .val (.int v7), .val (.long v18), .second, .unset, .unset, .unset, .unset, .unset] [])) t := by
        rw [hv20]
        intro t k
        show Steps p.tables e below (s₁.setTop (mkF m 115 #[.val (.long q0), .second, .val (.long q1), .second, .val (.int p2), .val (.long v1), .second, .val (.int v3), .val (.long v13), .second, .val (.int v7), .val (.long v18), .second, .unset, .unset, .unset, .unset, .unset] [])) _
        refine XS.lload X0.here hx rfl (hb hby at_115) rfl ?_
        show Steps p.tables e below (s₁.setTop (mkF m 117 #[.val (.long q0), .second, .val (.long q1), .second, .val (.int p2), .val (.long v1), .second, .val (.int v3), .val (.long v13), .second, .val (.int v7), .val (.long v18), .second, .unset, .unset, .unset, .unset, .unset] [(.long v1)])) _
        refine X0.ldc2Long hx hown (mvT hZ (hw _ (List.mem_of_getElem? (i := 2) rfl))) (g := (mkF m 117 #[.val (.long q0), .second, .val (.long q1), .second, .val (.int p2), .val (.long v1), .second, .val (.int v3), .val (.long v13), .second, .val (.int v7), .val (.long v18), .second, .unset, .unset, .unset, .unset, .unset] [(.long v1)])) rfl (hb hby at_117) _ ?_
        show Steps p.tables e below (s₁.setTop (mkF m 120 #[.val (.long q0), .second, .val (.long q1), .second, .val (.int p2), .val (.long v1), .second, .val (.int v3), .val (.long v13), .second, .val (.int v7), .val (.long v18), .second, .unset, .unset, .unset, .unset, .unset] [(.long (1000 : Int64)), (.long v1)])) _
        refine XS.ldiv X0.here hx rfl (hb hby at_120) rfl (by decide) ?_
        show Steps p.tables e below (s₁.setTop (mkF m 121 #[.val (.long q0), .second, .val (.long q1), .second, .val (.int p2), .val (.long v1), .second, .val (.int v3), .val (.long v13), .second, .val (.int v7), .val (.long v18), .second, .unset, .unset, .unset, .unset, .unset] [(.long (v1 / (1000 : Int64)))])) _
        refine XS.lstore X0.here hx rfl (hb hby at_121) rfl (l' := #[.val (.long q0), .second, .val (.long q1), .second, .val (.int p2), .val (.long v1), .second, .val (.int v3), .val (.long v13), .second, .val (.int v7), .val (.long v18), .second, .val (.long (v1 / (1000 : Int64))), .second, .unset, .unset, .unset]) rfl ?_
        exact k
      obtain ⟨v22, hv22⟩ : ∃ z : Int64, z = (v1 - (v1 / (1000 : Int64)) * (1000 : Int64)) := ⟨_, rfl⟩
      have st23 : ∀ t, Steps p.tables e below (s₁.setTop (mkF m 131 #[.val (.long q0), .second, .val (.long q1), .second, .val (.int p2), .val (.long v1), .second, .val (.int v3), .val (.long v13), .second, .val (.int v7), .val (.long v18), .second, .val (.long v20), .second, .val (.long v22), .second, .unset] [])) t → Steps p.tables e below (s₁.setTop (mkF m 123 #[.val (.long q0), .second, .val (.long q1), .second, .val (.int p2), .val (.long v1), .second, .val (.int v3), .val (.long v13), .second, .val (.int v7), .val (.long v18), .second, .val (.long v20), .second, .unset, .unset, .unset] [])) t := by
        rw [hv22]
        intro t k
        show Steps p.tables e below (s₁.setTop (mkF m 123 #[.val (.long q0), .second, .val (.long q1), .second, .val (.int p2), .val (.long v1), .second, .val (.int v3), .val (.long v13), .second, .val (.int v7), .val (.long v18), .second, .val (.long v20), .second, .unset, .unset, .unset] [])) _
        refine XS.lload X0.here hx rfl (hb hby at_123) rfl ?_
        show Steps p.tables e below (s₁.setTop (mkF m 125 #[.val (.long q0), .second, .val (.long q1), .second, .val (.int p2), .val (.long v1), .second, .val (.int v3), .val (.long v13), .second, .val (.int v7), .val (.long v18), .second, .val (.long v20), .second, .unset, .unset, .unset] [(.long v1)])) _
        refine X0.ldc2Long hx hown (mvT hZ (hw _ (List.mem_of_getElem? (i := 2) rfl))) (g := (mkF m 125 #[.val (.long q0), .second, .val (.long q1), .second, .val (.int p2), .val (.long v1), .second, .val (.int v3), .val (.long v13), .second, .val (.int v7), .val (.long v18), .second, .val (.long v20), .second, .unset, .unset, .unset] [(.long v1)])) rfl (hb hby at_125) _ ?_
        show Steps p.tables e below (s₁.setTop (mkF m 128 #[.val (.long q0), .second, .val (.long q1), .second, .val (.int p2), .val (.long v1), .second, .val (.int v3), .val (.long v13), .second, .val (.int v7), .val (.long v18), .second, .val (.long v20), .second, .unset, .unset, .unset] [(.long (1000 : Int64)), (.long v1)])) _
        refine XS.lrem X0.here hx rfl (hb hby at_128) rfl (by decide) ?_
        show Steps p.tables e below (s₁.setTop (mkF m 129 #[.val (.long q0), .second, .val (.long q1), .second, .val (.int p2), .val (.long v1), .second, .val (.int v3), .val (.long v13), .second, .val (.int v7), .val (.long v18), .second, .val (.long v20), .second, .unset, .unset, .unset] [(.long (v1 - (v1 / (1000 : Int64)) * (1000 : Int64)))])) _
        refine XS.lstore X0.here hx rfl (hb hby at_129) rfl (l' := #[.val (.long q0), .second, .val (.long q1), .second, .val (.int p2), .val (.long v1), .second, .val (.int v3), .val (.long v13), .second, .val (.int v7), .val (.long v18), .second, .val (.long v20), .second, .val (.long (v1 - (v1 / (1000 : Int64)) * (1000 : Int64))), .second, .unset]) rfl ?_
        exact k
      have st24 : ∀ t, Steps p.tables e below (s₁.setTop (mkF m 136 #[.val (.long q0), .second, .val (.long q1), .second, .val (.int p2), .val (.long v1), .second, .val (.int v3), .val (.long v13), .second, .val (.int v7), .val (.long v18), .second, .val (.long v20), .second, .val (.long v22), .second, .unset] [(.int (lcmpW v20 v18))])) t → Steps p.tables e below (s₁.setTop (mkF m 131 #[.val (.long q0), .second, .val (.long q1), .second, .val (.int p2), .val (.long v1), .second, .val (.int v3), .val (.long v13), .second, .val (.int v7), .val (.long v18), .second, .val (.long v20), .second, .val (.long v22), .second, .unset] [])) t := by
        intro t k
        show Steps p.tables e below (s₁.setTop (mkF m 131 #[.val (.long q0), .second, .val (.long q1), .second, .val (.int p2), .val (.long v1), .second, .val (.int v3), .val (.long v13), .second, .val (.int v7), .val (.long v18), .second, .val (.long v20), .second, .val (.long v22), .second, .unset] [])) _
        refine XS.lload X0.here hx rfl (hb hby at_131) rfl ?_
        show Steps p.tables e below (s₁.setTop (mkF m 133 #[.val (.long q0), .second, .val (.long q1), .second, .val (.int p2), .val (.long v1), .second, .val (.int v3), .val (.long v13), .second, .val (.int v7), .val (.long v18), .second, .val (.long v20), .second, .val (.long v22), .second, .unset] [(.long v20)])) _
        refine XS.lload X0.here hx rfl (hb hby at_133) rfl ?_
        show Steps p.tables e below (s₁.setTop (mkF m 135 #[.val (.long q0), .second, .val (.long q1), .second, .val (.int p2), .val (.long v1), .second, .val (.int v3), .val (.long v13), .second, .val (.int v7), .val (.long v18), .second, .val (.long v20), .second, .val (.long v22), .second, .unset] [(.long v18), (.long v20)])) _
        refine XS.lcmp X0.here hx rfl (hb hby at_135) rfl ?_
        exact k
      obtain ⟨v36, hv36⟩ : ∃ z : Int32, z = (if v20 < v18 then (1 : Int32) else (if v20 = v18 then (if v22 = (0 : Int64) then (1 : Int32) else (0 : Int32)) else (0 : Int32))) := ⟨_, rfl⟩
      have st37 : ∀ t, Steps p.tables e below (s₁.setTop (mkF m 159 #[.val (.long q0), .second, .val (.long q1), .second, .val (.int p2), .val (.long v1), .second, .val (.int v3), .val (.long v13), .second, .val (.int v7), .val (.long v18), .second, .val (.long v20), .second, .val (.long v22), .second, .unset] [(.int v36)])) t → Steps p.tables e below (s₁.setTop (mkF m 136 #[.val (.long q0), .second, .val (.long q1), .second, .val (.int p2), .val (.long v1), .second, .val (.int v3), .val (.long v13), .second, .val (.int v7), .val (.long v18), .second, .val (.long v20), .second, .val (.long v22), .second, .unset] [(.int (lcmpW v20 v18))])) t := by
        rw [hv36]
        by_cases hc136_25 : v20 < v18
        · repeat rw [if_pos hc136_25]
          have st26 : ∀ t, Steps p.tables e below (s₁.setTop (mkF m 159 #[.val (.long q0), .second, .val (.long q1), .second, .val (.int p2), .val (.long v1), .second, .val (.int v3), .val (.long v13), .second, .val (.int v7), .val (.long v18), .second, .val (.long v20), .second, .val (.long v22), .second, .unset] [(.int (1 : Int32))])) t → Steps p.tables e below (s₁.setTop (mkF m 136 #[.val (.long q0), .second, .val (.long q1), .second, .val (.int p2), .val (.long v1), .second, .val (.int v3), .val (.long v13), .second, .val (.int v7), .val (.long v18), .second, .val (.long v20), .second, .val (.long v22), .second, .unset] [(.int (lcmpW v20 v18))])) t := by
            intro t k
            show Steps p.tables e below (s₁.setTop (mkF m 136 #[.val (.long q0), .second, .val (.long q1), .second, .val (.int p2), .val (.long v1), .second, .val (.int v3), .val (.long v13), .second, .val (.int v7), .val (.long v18), .second, .val (.long v20), .second, .val (.long v22), .second, .unset] [(.int (lcmpW v20 v18))])) _
            refine XS.ifYes X0.here hx rfl (pc0 := 136) (pc' := 154) rfl (hb hby at_136) rfl ((if0 _ _).trans (tlt ((lw_lt v20 v18).mpr hc136_25)).1) (by decide) (by decide) ?_
            show Steps p.tables e below (s₁.setTop (mkF m 154 #[.val (.long q0), .second, .val (.long q1), .second, .val (.int p2), .val (.long v1), .second, .val (.int v3), .val (.long v13), .second, .val (.int v7), .val (.long v18), .second, .val (.long v20), .second, .val (.long v22), .second, .unset] [])) _
            refine XS.iconst X0.here hx rfl (hb hby at_154) ?_
            show Steps p.tables e below (s₁.setTop (mkF m 155 #[.val (.long q0), .second, .val (.long q1), .second, .val (.int p2), .val (.long v1), .second, .val (.int v3), .val (.long v13), .second, .val (.int v7), .val (.long v18), .second, .val (.long v20), .second, .val (.long v22), .second, .unset] [(.int (1 : Int32))])) _
            refine XS.goto X0.here hx rfl (pc0 := 155) (pc' := 159) rfl (hb hby at_155) (by decide) (by decide) ?_
            exact k
          exact fun t k => st26 _ k
        · repeat rw [if_neg hc136_25]
          have st27 : ∀ t, Steps p.tables e below (s₁.setTop (mkF m 144 #[.val (.long q0), .second, .val (.long q1), .second, .val (.int p2), .val (.long v1), .second, .val (.int v3), .val (.long v13), .second, .val (.int v7), .val (.long v18), .second, .val (.long v20), .second, .val (.long v22), .second, .unset] [(.int (lcmpW v20 v18))])) t → Steps p.tables e below (s₁.setTop (mkF m 136 #[.val (.long q0), .second, .val (.long q1), .second, .val (.int p2), .val (.long v1), .second, .val (.int v3), .val (.long v13), .second, .val (.int v7), .val (.long v18), .second, .val (.long v20), .second, .val (.long v22), .second, .unset] [(.int (lcmpW v20 v18))])) t := by
            intro t k
            show Steps p.tables e below (s₁.setTop (mkF m 136 #[.val (.long q0), .second, .val (.long q1), .second, .val (.int p2), .val (.long v1), .second, .val (.int v3), .val (.long v13), .second, .val (.int v7), .val (.long v18), .second, .val (.long v20), .second, .val (.long v22), .second, .unset] [(.int (lcmpW v20 v18))])) _
            refine XS.ifNo X0.here hx rfl (hb hby at_136) rfl ((if0 _ _).trans (flt (mt (lw_lt v20 v18).mp hc136_25)).1) ?_
            show Steps p.tables e below (s₁.setTop (mkF m 139 #[.val (.long q0), .second, .val (.long q1), .second, .val (.int p2), .val (.long v1), .second, .val (.int v3), .val (.long v13), .second, .val (.int v7), .val (.long v18), .second, .val (.long v20), .second, .val (.long v22), .second, .unset] [])) _
            refine XS.lload X0.here hx rfl (hb hby at_139) rfl ?_
            show Steps p.tables e below (s₁.setTop (mkF m 141 #[.val (.long q0), .second, .val (.long q1), .second, .val (.int p2), .val (.long v1), .second, .val (.int v3), .val (.long v13), .second, .val (.int v7), .val (.long v18), .second, .val (.long v20), .second, .val (.long v22), .second, .unset] [(.long v20)])) _
            refine XS.lload X0.here hx rfl (hb hby at_141) rfl ?_
            show Steps p.tables e below (s₁.setTop (mkF m 143 #[.val (.long q0), .second, .val (.long q1), .second, .val (.int p2), .val (.long v1), .second, .val (.int v3), .val (.long v13), .second, .val (.int v7), .val (.long v18), .second, .val (.long v20), .second, .val (.long v22), .second, .unset] [(.long v18), (.long v20)])) _
            refine XS.lcmp X0.here hx rfl (hb hby at_143) rfl ?_
            exact k
          have st35 : ∀ t, Steps p.tables e below (s₁.setTop (mkF m 159 #[.val (.long q0), .second, .val (.long q1), .second, .val (.int p2), .val (.long v1), .second, .val (.int v3), .val (.long v13), .second, .val (.int v7), .val (.long v18), .second, .val (.long v20), .second, .val (.long v22), .second, .unset] [(.int (if v20 = v18 then (if v22 = (0 : Int64) then (1 : Int32) else (0 : Int32)) else (0 : Int32)))])) t → Steps p.tables e below (s₁.setTop (mkF m 144 #[.val (.long q0), .second, .val (.long q1), .second, .val (.int p2), .val (.long v1), .second, .val (.int v3), .val (.long v13), .second, .val (.int v7), .val (.long v18), .second, .val (.long v20), .second, .val (.long v22), .second, .unset] [(.int (lcmpW v20 v18))])) t := by
            by_cases hc144_28 : v20 = v18
            · repeat rw [if_pos hc144_28]
              have st29 : ∀ t, Steps p.tables e below (s₁.setTop (mkF m 151 #[.val (.long q0), .second, .val (.long q1), .second, .val (.int p2), .val (.long v1), .second, .val (.int v3), .val (.long v13), .second, .val (.int v7), .val (.long v18), .second, .val (.long v20), .second, .val (.long v22), .second, .unset] [(.int (lcmpW v22 (0 : Int64)))])) t → Steps p.tables e below (s₁.setTop (mkF m 144 #[.val (.long q0), .second, .val (.long q1), .second, .val (.int p2), .val (.long v1), .second, .val (.int v3), .val (.long v13), .second, .val (.int v7), .val (.long v18), .second, .val (.long v20), .second, .val (.long v22), .second, .unset] [(.int (lcmpW v20 v18))])) t := by
                intro t k
                show Steps p.tables e below (s₁.setTop (mkF m 144 #[.val (.long q0), .second, .val (.long q1), .second, .val (.int p2), .val (.long v1), .second, .val (.int v3), .val (.long v13), .second, .val (.int v7), .val (.long v18), .second, .val (.long v20), .second, .val (.long v22), .second, .unset] [(.int (lcmpW v20 v18))])) _
                refine XS.ifNo X0.here hx rfl (hb hby at_144) rfl ((if0 _ _).trans (teq ((lw_eq v20 v18).mpr hc144_28)).2) ?_
                show Steps p.tables e below (s₁.setTop (mkF m 147 #[.val (.long q0), .second, .val (.long q1), .second, .val (.int p2), .val (.long v1), .second, .val (.int v3), .val (.long v13), .second, .val (.int v7), .val (.long v18), .second, .val (.long v20), .second, .val (.long v22), .second, .unset] [])) _
                refine XS.lload X0.here hx rfl (hb hby at_147) rfl ?_
                show Steps p.tables e below (s₁.setTop (mkF m 149 #[.val (.long q0), .second, .val (.long q1), .second, .val (.int p2), .val (.long v1), .second, .val (.int v3), .val (.long v13), .second, .val (.int v7), .val (.long v18), .second, .val (.long v20), .second, .val (.long v22), .second, .unset] [(.long v22)])) _
                refine XS.lconst X0.here hx rfl (hb hby at_149) ?_
                show Steps p.tables e below (s₁.setTop (mkF m 150 #[.val (.long q0), .second, .val (.long q1), .second, .val (.int p2), .val (.long v1), .second, .val (.int v3), .val (.long v13), .second, .val (.int v7), .val (.long v18), .second, .val (.long v20), .second, .val (.long v22), .second, .unset] [(.long (0 : Int64)), (.long v22)])) _
                refine XS.lcmp X0.here hx rfl (hb hby at_150) rfl ?_
                exact k
              have st33 : ∀ t, Steps p.tables e below (s₁.setTop (mkF m 159 #[.val (.long q0), .second, .val (.long q1), .second, .val (.int p2), .val (.long v1), .second, .val (.int v3), .val (.long v13), .second, .val (.int v7), .val (.long v18), .second, .val (.long v20), .second, .val (.long v22), .second, .unset] [(.int (if v22 = (0 : Int64) then (1 : Int32) else (0 : Int32)))])) t → Steps p.tables e below (s₁.setTop (mkF m 151 #[.val (.long q0), .second, .val (.long q1), .second, .val (.int p2), .val (.long v1), .second, .val (.int v3), .val (.long v13), .second, .val (.int v7), .val (.long v18), .second, .val (.long v20), .second, .val (.long v22), .second, .unset] [(.int (lcmpW v22 (0 : Int64)))])) t := by
                by_cases hc151_30 : v22 = (0 : Int64)
                · repeat rw [if_pos hc151_30]
                  have st31 : ∀ t, Steps p.tables e below (s₁.setTop (mkF m 159 #[.val (.long q0), .second, .val (.long q1), .second, .val (.int p2), .val (.long v1), .second, .val (.int v3), .val (.long v13), .second, .val (.int v7), .val (.long v18), .second, .val (.long v20), .second, .val (.long v22), .second, .unset] [(.int (1 : Int32))])) t → Steps p.tables e below (s₁.setTop (mkF m 151 #[.val (.long q0), .second, .val (.long q1), .second, .val (.int p2), .val (.long v1), .second, .val (.int v3), .val (.long v13), .second, .val (.int v7), .val (.long v18), .second, .val (.long v20), .second, .val (.long v22), .second, .unset] [(.int (lcmpW v22 (0 : Int64)))])) t := by
                    intro t k
                    show Steps p.tables e below (s₁.setTop (mkF m 151 #[.val (.long q0), .second, .val (.long q1), .second, .val (.int p2), .val (.long v1), .second, .val (.int v3), .val (.long v13), .second, .val (.int v7), .val (.long v18), .second, .val (.long v20), .second, .val (.long v22), .second, .unset] [(.int (lcmpW v22 (0 : Int64)))])) _
                    refine XS.ifNo X0.here hx rfl (hb hby at_151) rfl ((if0 _ _).trans (teq ((lw_eq v22 (0 : Int64)).mpr hc151_30)).2) ?_
                    show Steps p.tables e below (s₁.setTop (mkF m 154 #[.val (.long q0), .second, .val (.long q1), .second, .val (.int p2), .val (.long v1), .second, .val (.int v3), .val (.long v13), .second, .val (.int v7), .val (.long v18), .second, .val (.long v20), .second, .val (.long v22), .second, .unset] [])) _
                    refine XS.iconst X0.here hx rfl (hb hby at_154) ?_
                    show Steps p.tables e below (s₁.setTop (mkF m 155 #[.val (.long q0), .second, .val (.long q1), .second, .val (.int p2), .val (.long v1), .second, .val (.int v3), .val (.long v13), .second, .val (.int v7), .val (.long v18), .second, .val (.long v20), .second, .val (.long v22), .second, .unset] [(.int (1 : Int32))])) _
                    refine XS.goto X0.here hx rfl (pc0 := 155) (pc' := 159) rfl (hb hby at_155) (by decide) (by decide) ?_
                    exact k
                  exact fun t k => st31 _ k
                · repeat rw [if_neg hc151_30]
                  have st32 : ∀ t, Steps p.tables e below (s₁.setTop (mkF m 159 #[.val (.long q0), .second, .val (.long q1), .second, .val (.int p2), .val (.long v1), .second, .val (.int v3), .val (.long v13), .second, .val (.int v7), .val (.long v18), .second, .val (.long v20), .second, .val (.long v22), .second, .unset] [(.int (0 : Int32))])) t → Steps p.tables e below (s₁.setTop (mkF m 151 #[.val (.long q0), .second, .val (.long q1), .second, .val (.int p2), .val (.long v1), .second, .val (.int v3), .val (.long v13), .second, .val (.int v7), .val (.long v18), .second, .val (.long v20), .second, .val (.long v22), .second, .unset] [(.int (lcmpW v22 (0 : Int64)))])) t := by
                    intro t k
                    show Steps p.tables e below (s₁.setTop (mkF m 151 #[.val (.long q0), .second, .val (.long q1), .second, .val (.int p2), .val (.long v1), .second, .val (.int v3), .val (.long v13), .second, .val (.int v7), .val (.long v18), .second, .val (.long v20), .second, .val (.long v22), .second, .unset] [(.int (lcmpW v22 (0 : Int64)))])) _
                    refine XS.ifYes X0.here hx rfl (pc0 := 151) (pc' := 158) rfl (hb hby at_151) rfl ((if0 _ _).trans (feq (mt (lw_eq v22 (0 : Int64)).mp hc151_30)).2) (by decide) (by decide) ?_
                    show Steps p.tables e below (s₁.setTop (mkF m 158 #[.val (.long q0), .second, .val (.long q1), .second, .val (.int p2), .val (.long v1), .second, .val (.int v3), .val (.long v13), .second, .val (.int v7), .val (.long v18), .second, .val (.long v20), .second, .val (.long v22), .second, .unset] [])) _
                    refine XS.iconst X0.here hx rfl (hb hby at_158) ?_
                    exact k
                  exact fun t k => st32 _ k
              exact fun t k => st29 _ (st33 _ k)
            · repeat rw [if_neg hc144_28]
              have st34 : ∀ t, Steps p.tables e below (s₁.setTop (mkF m 159 #[.val (.long q0), .second, .val (.long q1), .second, .val (.int p2), .val (.long v1), .second, .val (.int v3), .val (.long v13), .second, .val (.int v7), .val (.long v18), .second, .val (.long v20), .second, .val (.long v22), .second, .unset] [(.int (0 : Int32))])) t → Steps p.tables e below (s₁.setTop (mkF m 144 #[.val (.long q0), .second, .val (.long q1), .second, .val (.int p2), .val (.long v1), .second, .val (.int v3), .val (.long v13), .second, .val (.int v7), .val (.long v18), .second, .val (.long v20), .second, .val (.long v22), .second, .unset] [(.int (lcmpW v20 v18))])) t := by
                intro t k
                show Steps p.tables e below (s₁.setTop (mkF m 144 #[.val (.long q0), .second, .val (.long q1), .second, .val (.int p2), .val (.long v1), .second, .val (.int v3), .val (.long v13), .second, .val (.int v7), .val (.long v18), .second, .val (.long v20), .second, .val (.long v22), .second, .unset] [(.int (lcmpW v20 v18))])) _
                refine XS.ifYes X0.here hx rfl (pc0 := 144) (pc' := 158) rfl (hb hby at_144) rfl ((if0 _ _).trans (feq (mt (lw_eq v20 v18).mp hc144_28)).2) (by decide) (by decide) ?_
                show Steps p.tables e below (s₁.setTop (mkF m 158 #[.val (.long q0), .second, .val (.long q1), .second, .val (.int p2), .val (.long v1), .second, .val (.int v3), .val (.long v13), .second, .val (.int v7), .val (.long v18), .second, .val (.long v20), .second, .val (.long v22), .second, .unset] [])) _
                refine XS.iconst X0.here hx rfl (hb hby at_158) ?_
                exact k
              exact fun t k => st34 _ k
          exact fun t k => st27 _ (st35 _ k)
      have st38 : ∀ t, Steps p.tables e below (s₁.setTop (mkF m 165 #[.val (.long q0), .second, .val (.long q1), .second, .val (.int p2), .val (.long v1), .second, .val (.int v3), .val (.long v13), .second, .val (.int v7), .val (.long v18), .second, .val (.long v20), .second, .val (.long v22), .second, .val (.int v36)] [(.long v1), (.long v13)])) t → Steps p.tables e below (s₁.setTop (mkF m 159 #[.val (.long q0), .second, .val (.long q1), .second, .val (.int p2), .val (.long v1), .second, .val (.int v3), .val (.long v13), .second, .val (.int v7), .val (.long v18), .second, .val (.long v20), .second, .val (.long v22), .second, .unset] [(.int v36)])) t := by
        intro t k
        show Steps p.tables e below (s₁.setTop (mkF m 159 #[.val (.long q0), .second, .val (.long q1), .second, .val (.int p2), .val (.long v1), .second, .val (.int v3), .val (.long v13), .second, .val (.int v7), .val (.long v18), .second, .val (.long v20), .second, .val (.long v22), .second, .unset] [(.int v36)])) _
        refine XS.istore X0.here hx rfl (hb hby at_159) rfl (l' := #[.val (.long q0), .second, .val (.long q1), .second, .val (.int p2), .val (.long v1), .second, .val (.int v3), .val (.long v13), .second, .val (.int v7), .val (.long v18), .second, .val (.long v20), .second, .val (.long v22), .second, .val (.int v36)]) rfl ?_
        show Steps p.tables e below (s₁.setTop (mkF m 161 #[.val (.long q0), .second, .val (.long q1), .second, .val (.int p2), .val (.long v1), .second, .val (.int v3), .val (.long v13), .second, .val (.int v7), .val (.long v18), .second, .val (.long v20), .second, .val (.long v22), .second, .val (.int v36)] [])) _
        refine XS.lload X0.here hx rfl (hb hby at_161) rfl ?_
        show Steps p.tables e below (s₁.setTop (mkF m 163 #[.val (.long q0), .second, .val (.long q1), .second, .val (.int p2), .val (.long v1), .second, .val (.int v3), .val (.long v13), .second, .val (.int v7), .val (.long v18), .second, .val (.long v20), .second, .val (.long v22), .second, .val (.int v36)] [(.long v13)])) _
        refine XS.lload X0.here hx rfl (hb hby at_163) rfl ?_
        exact k
      obtain ⟨_, _, ⟨T39, L39, k39, n39⟩, -, X39, ⟨Lc39, hQ39, l39, y39, z39⟩, st39⟩ := Jvm.LawKit.callS X0 hx (y := (⟨"com/example/dibs/dibs/Quorum", "upLongerThan", "(JJ)Z"⟩ : MethodName)) hown (mvT hZ (hw _ (List.mem_of_getElem? (i := 4) rfl))) (mvT hZ (hw _ (List.mem_of_getElem? (i := 5) rfl))) (mvT hZ (hw _ (List.mem_of_getElem? (i := 6) rfl))) (mvT hZ (hw _ (List.mem_of_getElem? (i := 7) rfl))) (by decide) (backOf (W := 0) (own_rm1 l Z a0 hw [] v13 v1 h0) hZ (hw _ (List.mem_of_getElem? (i := 7) rfl)) (hw _ (List.mem_of_getElem? (i := 6) rfl)) (by decide) (by decide)) (g := (mkF m 165 #[.val (.long q0), .second, .val (.long q1), .second, .val (.int p2), .val (.long v1), .second, .val (.int v3), .val (.long v13), .second, .val (.int v7), .val (.long v18), .second, .val (.long v20), .second, .val (.long v22), .second, .val (.int v36)] [(.long v1), (.long v13)])) rfl (by rw [hml]; rfl) (argsL := [(.long v13), (.long v1)]) (rest := []) (lenOf own_pd0 rfl) rfl (by show 2 * 0 + _ ≤ _; exact Nat.le_of_eq rfl) (hb hby at_165) (fun _ _ => ⟨rfl, e0, (by decide : 0 + 0 ≤ _), (by decide : 0 + 0 ≤ _)⟩)
      dsimp only [Pt.U, Pt.locs, Pt.cells, Pt.slots] at X39 l39 y39 z39 st39 hQ39
      subst l39 y39 z39
      obtain ⟨rfl, rfl, e39⟩ := hQ39
      have X39' : Stand p l e room_1 s m #[(.long q0), (.long q1), (.int p2)] below meth c T39 [] 0 0 := by first | exact X39 | (rw [List.append_nil] at X39; exact X39)
      obtain ⟨v40, hv40⟩ : ∃ z : Int32, z = (own_F1 v13 v1) := ⟨_, rfl⟩
      rw [← hv40] at st39
      have st41 : ∀ t, Steps p.tables e below (T39.setTop (mkF m 170 #[.val (.long q0), .second, .val (.long q1), .second, .val (.int p2), .val (.long v1), .second, .val (.int v3), .val (.long v13), .second, .val (.int v7), .val (.long v18), .second, .val (.long v20), .second, .val (.long v22), .second, .val (.int v36)] [(.int v36), (.int v40)])) t → Steps p.tables e below (T39.setTop (mkF m 168 #[.val (.long q0), .second, .val (.long q1), .second, .val (.int p2), .val (.long v1), .second, .val (.int v3), .val (.long v13), .second, .val (.int v7), .val (.long v18), .second, .val (.long v20), .second, .val (.long v22), .second, .val (.int v36)] [(.int v40)])) t := by
        intro t k
        show Steps p.tables e below (T39.setTop (mkF m 168 #[.val (.long q0), .second, .val (.long q1), .second, .val (.int p2), .val (.long v1), .second, .val (.int v3), .val (.long v13), .second, .val (.int v7), .val (.long v18), .second, .val (.long v20), .second, .val (.long v22), .second, .val (.int v36)] [(.int v40)])) _
        refine XS.iload X39'.here hx rfl (hb hby at_168) rfl ?_
        exact k
      refine own_End.go (fun t k => st19 _ (st21 _ (st23 _ (st24 _ (st37 _ (st38 _ (st39 _ (st41 _ k)))))))) ?_
      by_cases hc170_42 : v40 = v36
      · have st43 : ∀ t, Steps p.tables e below (T39.setTop (mkF m 178 #[.val (.long q0), .second, .val (.long q1), .second, .val (.int p2), .val (.long v1), .second, .val (.int v3), .val (.long v13), .second, .val (.int v7), .val (.long v18), .second, .val (.long v20), .second, .val (.long v22), .second, .val (.int v36)] [(.int (1 : Int32))])) t → Steps p.tables e below (T39.setTop (mkF m 170 #[.val (.long q0), .second, .val (.long q1), .second, .val (.int p2), .val (.long v1), .second, .val (.int v3), .val (.long v13), .second, .val (.int v7), .val (.long v18), .second, .val (.long v20), .second, .val (.long v22), .second, .val (.int v36)] [(.int v36), (.int v40)])) t := by
          intro t k
          show Steps p.tables e below (T39.setTop (mkF m 170 #[.val (.long q0), .second, .val (.long q1), .second, .val (.int p2), .val (.long v1), .second, .val (.int v3), .val (.long v13), .second, .val (.int v7), .val (.long v18), .second, .val (.long v20), .second, .val (.long v22), .second, .val (.int v36)] [(.int v36), (.int v40)])) _
          refine XS.icmpNo X39'.here hx rfl (hb hby at_170) rfl (teq hc170_42).2 ?_
          show Steps p.tables e below (T39.setTop (mkF m 173 #[.val (.long q0), .second, .val (.long q1), .second, .val (.int p2), .val (.long v1), .second, .val (.int v3), .val (.long v13), .second, .val (.int v7), .val (.long v18), .second, .val (.long v20), .second, .val (.long v22), .second, .val (.int v36)] [])) _
          refine XS.iconst X39'.here hx rfl (hb hby at_173) ?_
          show Steps p.tables e below (T39.setTop (mkF m 174 #[.val (.long q0), .second, .val (.long q1), .second, .val (.int p2), .val (.long v1), .second, .val (.int v3), .val (.long v13), .second, .val (.int v7), .val (.long v18), .second, .val (.long v20), .second, .val (.long v22), .second, .val (.int v36)] [(.int (1 : Int32))])) _
          refine XS.goto X39'.here hx rfl (pc0 := 174) (pc' := 178) rfl (hb hby at_174) (by decide) (by decide) ?_
          exact k
        refine own_End.go (fun t k => st43 _ k) ?_
        exact own_leafN X39' hx Bd.notSynchronized (t := .boolean) Bd.returns (by simp) (hb hby at_178) ⟨congrArg (fun z => some (Value.int z)) (by
            subst hv1 hv3 hv7 hv13 hv18 hv20 hv22 hv36 hv40; simp only [own_F0, own_nb0, own_nb1, if_pos hc18_6, if_neg hc104_16, if_pos hc170_42]), Fr.nil n0⟩ (by decide) (by decide)
      · have st44 : ∀ t, Steps p.tables e below (T39.setTop (mkF m 178 #[.val (.long q0), .second, .val (.long q1), .second, .val (.int p2), .val (.long v1), .second, .val (.int v3), .val (.long v13), .second, .val (.int v7), .val (.long v18), .second, .val (.long v20), .second, .val (.long v22), .second, .val (.int v36)] [(.int (0 : Int32))])) t → Steps p.tables e below (T39.setTop (mkF m 170 #[.val (.long q0), .second, .val (.long q1), .second, .val (.int p2), .val (.long v1), .second, .val (.int v3), .val (.long v13), .second, .val (.int v7), .val (.long v18), .second, .val (.long v20), .second, .val (.long v22), .second, .val (.int v36)] [(.int v36), (.int v40)])) t := by
          intro t k
          show Steps p.tables e below (T39.setTop (mkF m 170 #[.val (.long q0), .second, .val (.long q1), .second, .val (.int p2), .val (.long v1), .second, .val (.int v3), .val (.long v13), .second, .val (.int v7), .val (.long v18), .second, .val (.long v20), .second, .val (.long v22), .second, .val (.int v36)] [(.int v36), (.int v40)])) _
          refine XS.icmpYes X39'.here hx rfl (pc0 := 170) (pc' := 177) rfl (hb hby at_170) rfl (feq hc170_42).2 (by decide) (by decide) ?_
          show Steps p.tables e below (T39.setTop (mkF m 177 #[.val (.long q0), .second, .val (.long q1), .second, .val (.int p2), .val (.long v1), .second, .val (.int v3), .val (.long v13), .second, .val (.int v7), .val (.long v18), .second, .val (.long v20), .second, .val (.long v22), .second, .val (.int v36)] [])) _
          refine XS.iconst X39'.here hx rfl (hb hby at_177) ?_
          exact k
        refine own_End.go (fun t k => st44 _ k) ?_
        exact own_leafN X39' hx Bd.notSynchronized (t := .boolean) Bd.returns (by simp) (hb hby at_178) ⟨congrArg (fun z => some (Value.int z)) (by
            subst hv1 hv3 hv7 hv13 hv18 hv20 hv22 hv36 hv40; simp only [own_F0, own_nb0, own_nb1, if_pos hc18_6, if_neg hc104_16, if_neg hc170_42]), Fr.nil n0⟩ (by decide) (by decide)
  · obtain ⟨v45, hv45⟩ : ∃ z : Int64, z = ((q1 &&& (140737488355327 : Int64)) * (1000 : Int64)) := ⟨_, rfl⟩
    have st46 : ∀ t, Steps p.tables e below (s₁.setTop (mkF m 32 #[.val (.long q0), .second, .val (.long q1), .second, .val (.int p2), .val (.long v1), .second, .val (.int v3), .val (.long v45), .second, .unset, .unset, .unset, .unset, .unset, .unset, .unset, .unset] [])) t → Steps p.tables e below (s₁.setTop (mkF m 18 #[.val (.long q0), .second, .val (.long q1), .second, .val (.int p2), .val (.long v1), .second, .val (.int v3), .unset, .unset, .unset, .unset, .unset, .unset, .unset, .unset, .unset, .unset] [(.int (3 : Int32)), (.int v3)])) t := by
      rw [hv45]
      intro t k
      show Steps p.tables e below (s₁.setTop (mkF m 18 #[.val (.long q0), .second, .val (.long q1), .second, .val (.int p2), .val (.long v1), .second, .val (.int v3), .unset, .unset, .unset, .unset, .unset, .unset, .unset, .unset, .unset, .unset] [(.int (3 : Int32)), (.int v3)])) _
      refine XS.icmpNo X0.here hx rfl (hb hby at_18) rfl (feq hc18_6).1 ?_
      show Steps p.tables e below (s₁.setTop (mkF m 21 #[.val (.long q0), .second, .val (.long q1), .second, .val (.int p2), .val (.long v1), .second, .val (.int v3), .unset, .unset, .unset, .unset, .unset, .unset, .unset, .unset, .unset, .unset] [])) _
      refine XS.lloadN X0.here hx rfl (hb hby at_21) rfl ?_
      show Steps p.tables e below (s₁.setTop (mkF m 22 #[.val (.long q0), .second, .val (.long q1), .second, .val (.int p2), .val (.long v1), .second, .val (.int v3), .unset, .unset, .unset, .unset, .unset, .unset, .unset, .unset, .unset, .unset] [(.long q1)])) _
      refine X0.ldc2Long hx hown (mvT hZ (hw _ (List.mem_of_getElem? (i := 1) rfl))) (g := (mkF m 22 #[.val (.long q0), .second, .val (.long q1), .second, .val (.int p2), .val (.long v1), .second, .val (.int v3), .unset, .unset, .unset, .unset, .unset, .unset, .unset, .unset, .unset, .unset] [(.long q1)])) rfl (hb hby at_22) _ ?_
      show Steps p.tables e below (s₁.setTop (mkF m 25 #[.val (.long q0), .second, .val (.long q1), .second, .val (.int p2), .val (.long v1), .second, .val (.int v3), .unset, .unset, .unset, .unset, .unset, .unset, .unset, .unset, .unset, .unset] [(.long (140737488355327 : Int64)), (.long q1)])) _
      refine XS.land X0.here hx rfl (hb hby at_25) rfl ?_
      show Steps p.tables e below (s₁.setTop (mkF m 26 #[.val (.long q0), .second, .val (.long q1), .second, .val (.int p2), .val (.long v1), .second, .val (.int v3), .unset, .unset, .unset, .unset, .unset, .unset, .unset, .unset, .unset, .unset] [(.long (q1 &&& (140737488355327 : Int64)))])) _
      refine X0.ldc2Long hx hown (mvT hZ (hw _ (List.mem_of_getElem? (i := 2) rfl))) (g := (mkF m 26 #[.val (.long q0), .second, .val (.long q1), .second, .val (.int p2), .val (.long v1), .second, .val (.int v3), .unset, .unset, .unset, .unset, .unset, .unset, .unset, .unset, .unset, .unset] [(.long (q1 &&& (140737488355327 : Int64)))])) rfl (hb hby at_26) _ ?_
      show Steps p.tables e below (s₁.setTop (mkF m 29 #[.val (.long q0), .second, .val (.long q1), .second, .val (.int p2), .val (.long v1), .second, .val (.int v3), .unset, .unset, .unset, .unset, .unset, .unset, .unset, .unset, .unset, .unset] [(.long (1000 : Int64)), (.long (q1 &&& (140737488355327 : Int64)))])) _
      refine XS.lmul X0.here hx rfl (hb hby at_29) rfl ?_
      show Steps p.tables e below (s₁.setTop (mkF m 30 #[.val (.long q0), .second, .val (.long q1), .second, .val (.int p2), .val (.long v1), .second, .val (.int v3), .unset, .unset, .unset, .unset, .unset, .unset, .unset, .unset, .unset, .unset] [(.long ((q1 &&& (140737488355327 : Int64)) * (1000 : Int64)))])) _
      refine XS.lstore X0.here hx rfl (hb hby at_30) rfl (l' := #[.val (.long q0), .second, .val (.long q1), .second, .val (.int p2), .val (.long v1), .second, .val (.int v3), .val (.long ((q1 &&& (140737488355327 : Int64)) * (1000 : Int64))), .second, .unset, .unset, .unset, .unset, .unset, .unset, .unset, .unset]) rfl ?_
      exact k
    have st47 : ∀ t, Steps p.tables e below (s₁.setTop (mkF m 34 #[.val (.long q0), .second, .val (.long q1), .second, .val (.int p2), .val (.long v1), .second, .val (.int v3), .val (.long v45), .second, .unset, .unset, .unset, .unset, .unset, .unset, .unset, .unset] [(.int v3)])) t → Steps p.tables e below (s₁.setTop (mkF m 32 #[.val (.long q0), .second, .val (.long q1), .second, .val (.int p2), .val (.long v1), .second, .val (.int v3), .val (.long v45), .second, .unset, .unset, .unset, .unset, .unset, .unset, .unset, .unset] [])) t := by
      intro t k
      show Steps p.tables e below (s₁.setTop (mkF m 32 #[.val (.long q0), .second, .val (.long q1), .second, .val (.int p2), .val (.long v1), .second, .val (.int v3), .val (.long v45), .second, .unset, .unset, .unset, .unset, .unset, .unset, .unset, .unset] [])) _
      refine XS.iload X0.here hx rfl (hb hby at_32) rfl ?_
      exact k
    obtain ⟨v55, hv55⟩ : ∃ z : Int64, z = (if v3 = (0 : Int32) then (0 : Int64) else (if v3 = (1 : Int32) then (1 : Int64) else (999 : Int64))) := ⟨_, rfl⟩
    have st56 : ∀ t, Steps p.tables e below (s₁.setTop (mkF m 54 #[.val (.long q0), .second, .val (.long q1), .second, .val (.int p2), .val (.long v1), .second, .val (.int v3), .val (.long v45), .second, .unset, .unset, .unset, .unset, .unset, .unset, .unset, .unset] [(.long v55)])) t → Steps p.tables e below (s₁.setTop (mkF m 34 #[.val (.long q0), .second, .val (.long q1), .second, .val (.int p2), .val (.long v1), .second, .val (.int v3), .val (.long v45), .second, .unset, .unset, .unset, .unset, .unset, .unset, .unset, .unset] [(.int v3)])) t := by
      rw [hv55]
      by_cases hc34_48 : v3 = (0 : Int32)
      · repeat rw [if_pos hc34_48]
        have st49 : ∀ t, Steps p.tables e below (s₁.setTop (mkF m 54 #[.val (.long q0), .second, .val (.long q1), .second, .val (.int p2), .val (.long v1), .second, .val (.int v3), .val (.long v45), .second, .unset, .unset, .unset, .unset, .unset, .unset, .unset, .unset] [(.long (0 : Int64))])) t → Steps p.tables e below (s₁.setTop (mkF m 34 #[.val (.long q0), .second, .val (.long q1), .second, .val (.int p2), .val (.long v1), .second, .val (.int v3), .val (.long v45), .second, .unset, .unset, .unset, .unset, .unset, .unset, .unset, .unset] [(.int v3)])) t := by
          intro t k
          show Steps p.tables e below (s₁.setTop (mkF m 34 #[.val (.long q0), .second, .val (.long q1), .second, .val (.int p2), .val (.long v1), .second, .val (.int v3), .val (.long v45), .second, .unset, .unset, .unset, .unset, .unset, .unset, .unset, .unset] [(.int v3)])) _
          refine XS.ifNo X0.here hx rfl (hb hby at_34) rfl ((if0 _ _).trans (teq hc34_48).2) ?_
          show Steps p.tables e below (s₁.setTop (mkF m 37 #[.val (.long q0), .second, .val (.long q1), .second, .val (.int p2), .val (.long v1), .second, .val (.int v3), .val (.long v45), .second, .unset, .unset, .unset, .unset, .unset, .unset, .unset, .unset] [])) _
          refine XS.lconst X0.here hx rfl (hb hby at_37) ?_
          show Steps p.tables e below (s₁.setTop (mkF m 38 #[.val (.long q0), .second, .val (.long q1), .second, .val (.int p2), .val (.long v1), .second, .val (.int v3), .val (.long v45), .second, .unset, .unset, .unset, .unset, .unset, .unset, .unset, .unset] [(.long (0 : Int64))])) _
          refine XS.goto X0.here hx rfl (pc0 := 38) (pc' := 54) rfl (hb hby at_38) (by decide) (by decide) ?_
          exact k
        exact fun t k => st49 _ k
      · repeat rw [if_neg hc34_48]
        have st50 : ∀ t, Steps p.tables e below (s₁.setTop (mkF m 44 #[.val (.long q0), .second, .val (.long q1), .second, .val (.int p2), .val (.long v1), .second, .val (.int v3), .val (.long v45), .second, .unset, .unset, .unset, .unset, .unset, .unset, .unset, .unset] [(.int (1 : Int32)), (.int v3)])) t → Steps p.tables e below (s₁.setTop (mkF m 34 #[.val (.long q0), .second, .val (.long q1), .second, .val (.int p2), .val (.long v1), .second, .val (.int v3), .val (.long v45), .second, .unset, .unset, .unset, .unset, .unset, .unset, .unset, .unset] [(.int v3)])) t := by
          intro t k
          show Steps p.tables e below (s₁.setTop (mkF m 34 #[.val (.long q0), .second, .val (.long q1), .second, .val (.int p2), .val (.long v1), .second, .val (.int v3), .val (.long v45), .second, .unset, .unset, .unset, .unset, .unset, .unset, .unset, .unset] [(.int v3)])) _
          refine XS.ifYes X0.here hx rfl (pc0 := 34) (pc' := 41) rfl (hb hby at_34) rfl ((if0 _ _).trans (feq hc34_48).2) (by decide) (by decide) ?_
          show Steps p.tables e below (s₁.setTop (mkF m 41 #[.val (.long q0), .second, .val (.long q1), .second, .val (.int p2), .val (.long v1), .second, .val (.int v3), .val (.long v45), .second, .unset, .unset, .unset, .unset, .unset, .unset, .unset, .unset] [])) _
          refine XS.iload X0.here hx rfl (hb hby at_41) rfl ?_
          show Steps p.tables e below (s₁.setTop (mkF m 43 #[.val (.long q0), .second, .val (.long q1), .second, .val (.int p2), .val (.long v1), .second, .val (.int v3), .val (.long v45), .second, .unset, .unset, .unset, .unset, .unset, .unset, .unset, .unset] [(.int v3)])) _
          refine XS.iconst X0.here hx rfl (hb hby at_43) ?_
          exact k
        have st54 : ∀ t, Steps p.tables e below (s₁.setTop (mkF m 54 #[.val (.long q0), .second, .val (.long q1), .second, .val (.int p2), .val (.long v1), .second, .val (.int v3), .val (.long v45), .second, .unset, .unset, .unset, .unset, .unset, .unset, .unset, .unset] [(.long (if v3 = (1 : Int32) then (1 : Int64) else (999 : Int64)))])) t → Steps p.tables e below (s₁.setTop (mkF m 44 #[.val (.long q0), .second, .val (.long q1), .second, .val (.int p2), .val (.long v1), .second, .val (.int v3), .val (.long v45), .second, .unset, .unset, .unset, .unset, .unset, .unset, .unset, .unset] [(.int (1 : Int32)), (.int v3)])) t := by
          by_cases hc44_51 : v3 = (1 : Int32)
          · repeat rw [if_pos hc44_51]
            have st52 : ∀ t, Steps p.tables e below (s₁.setTop (mkF m 54 #[.val (.long q0), .second, .val (.long q1), .second, .val (.int p2), .val (.long v1), .second, .val (.int v3), .val (.long v45), .second, .unset, .unset, .unset, .unset, .unset, .unset, .unset, .unset] [(.long (1 : Int64))])) t → Steps p.tables e below (s₁.setTop (mkF m 44 #[.val (.long q0), .second, .val (.long q1), .second, .val (.int p2), .val (.long v1), .second, .val (.int v3), .val (.long v45), .second, .unset, .unset, .unset, .unset, .unset, .unset, .unset, .unset] [(.int (1 : Int32)), (.int v3)])) t := by
              intro t k
              show Steps p.tables e below (s₁.setTop (mkF m 44 #[.val (.long q0), .second, .val (.long q1), .second, .val (.int p2), .val (.long v1), .second, .val (.int v3), .val (.long v45), .second, .unset, .unset, .unset, .unset, .unset, .unset, .unset, .unset] [(.int (1 : Int32)), (.int v3)])) _
              refine XS.icmpNo X0.here hx rfl (hb hby at_44) rfl (teq hc44_51).2 ?_
              show Steps p.tables e below (s₁.setTop (mkF m 47 #[.val (.long q0), .second, .val (.long q1), .second, .val (.int p2), .val (.long v1), .second, .val (.int v3), .val (.long v45), .second, .unset, .unset, .unset, .unset, .unset, .unset, .unset, .unset] [])) _
              refine XS.lconst X0.here hx rfl (hb hby at_47) ?_
              show Steps p.tables e below (s₁.setTop (mkF m 48 #[.val (.long q0), .second, .val (.long q1), .second, .val (.int p2), .val (.long v1), .second, .val (.int v3), .val (.long v45), .second, .unset, .unset, .unset, .unset, .unset, .unset, .unset, .unset] [(.long (1 : Int64))])) _
              refine XS.goto X0.here hx rfl (pc0 := 48) (pc' := 54) rfl (hb hby at_48) (by decide) (by decide) ?_
              exact k
            exact fun t k => st52 _ k
          · repeat rw [if_neg hc44_51]
            have st53 : ∀ t, Steps p.tables e below (s₁.setTop (mkF m 54 #[.val (.long q0), .second, .val (.long q1), .second, .val (.int p2), .val (.long v1), .second, .val (.int v3), .val (.long v45), .second, .unset, .unset, .unset, .unset, .unset, .unset, .unset, .unset] [(.long (999 : Int64))])) t → Steps p.tables e below (s₁.setTop (mkF m 44 #[.val (.long q0), .second, .val (.long q1), .second, .val (.int p2), .val (.long v1), .second, .val (.int v3), .val (.long v45), .second, .unset, .unset, .unset, .unset, .unset, .unset, .unset, .unset] [(.int (1 : Int32)), (.int v3)])) t := by
              intro t k
              show Steps p.tables e below (s₁.setTop (mkF m 44 #[.val (.long q0), .second, .val (.long q1), .second, .val (.int p2), .val (.long v1), .second, .val (.int v3), .val (.long v45), .second, .unset, .unset, .unset, .unset, .unset, .unset, .unset, .unset] [(.int (1 : Int32)), (.int v3)])) _
              refine XS.icmpYes X0.here hx rfl (pc0 := 44) (pc' := 51) rfl (hb hby at_44) rfl (feq hc44_51).2 (by decide) (by decide) ?_
              show Steps p.tables e below (s₁.setTop (mkF m 51 #[.val (.long q0), .second, .val (.long q1), .second, .val (.int p2), .val (.long v1), .second, .val (.int v3), .val (.long v45), .second, .unset, .unset, .unset, .unset, .unset, .unset, .unset, .unset] [])) _
              refine X0.ldc2Long hx hown (mvT hZ (hw _ (List.mem_of_getElem? (i := 9) rfl))) (g := (mkF m 51 #[.val (.long q0), .second, .val (.long q1), .second, .val (.int p2), .val (.long v1), .second, .val (.int v3), .val (.long v45), .second, .unset, .unset, .unset, .unset, .unset, .unset, .unset, .unset] [])) rfl (hb hby at_51) _ ?_
              exact k
            exact fun t k => st53 _ k
        exact fun t k => st50 _ (st54 _ k)
    obtain ⟨v57, hv57⟩ : ∃ z : Int64, z = (v45 + v55) := ⟨_, rfl⟩
    have st58 : ∀ t, Steps p.tables e below (s₁.setTop (mkF m 63 #[.val (.long q0), .second, .val (.long q1), .second, .val (.int p2), .val (.long v57), .second, .val (.int v3), .val (.long v45), .second, .val (.long v55), .second, .unset, .unset, .unset, .unset, .unset, .unset] [])) t → Steps p.tables e below (s₁.setTop (mkF m 54 #[.val (.long q0), .second, .val (.long q1), .second, .val (.int p2), .val (.long v1), .second, .val (.int v3), .val (.long v45), .second, .unset, .unset, .unset, .unset, .unset, .unset, .unset, .unset] [(.long v55)])) t := by
      rw [hv57]
      intro t k
      show Steps p.tables e below (s₁.setTop (mkF m 54 #[.val (.long q0), .second, .val (.long q1), .second, .val (.int p2), .val (.long v1), .second, .val (.int v3), .val (.long v45), .second, .unset, .unset, .unset, .unset, .unset, .unset, .unset, .unset] [(.long v55)])) _
      refine XS.lstore X0.here hx rfl (hb hby at_54) rfl (l' := #[.val (.long q0), .second, .val (.long q1), .second, .val (.int p2), .val (.long v1), .second, .val (.int v3), .val (.long v45), .second, .val (.long v55), .second, .unset, .unset, .unset, .unset, .unset, .unset]) rfl ?_
      show Steps p.tables e below (s₁.setTop (mkF m 56 #[.val (.long q0), .second, .val (.long q1), .second, .val (.int p2), .val (.long v1), .second, .val (.int v3), .val (.long v45), .second, .val (.long v55), .second, .unset, .unset, .unset, .unset, .unset, .unset] [])) _
      refine XS.lload X0.here hx rfl (hb hby at_56) rfl ?_
      show Steps p.tables e below (s₁.setTop (mkF m 58 #[.val (.long q0), .second, .val (.long q1), .second, .val (.int p2), .val (.long v1), .second, .val (.int v3), .val (.long v45), .second, .val (.long v55), .second, .unset, .unset, .unset, .unset, .unset, .unset] [(.long v45)])) _
      refine XS.lload X0.here hx rfl (hb hby at_58) rfl ?_
      show Steps p.tables e below (s₁.setTop (mkF m 60 #[.val (.long q0), .second, .val (.long q1), .second, .val (.int p2), .val (.long v1), .second, .val (.int v3), .val (.long v45), .second, .val (.long v55), .second, .unset, .unset, .unset, .unset, .unset, .unset] [(.long v55), (.long v45)])) _
      refine XS.ladd X0.here hx rfl (hb hby at_60) rfl ?_
      show Steps p.tables e below (s₁.setTop (mkF m 61 #[.val (.long q0), .second, .val (.long q1), .second, .val (.int p2), .val (.long v1), .second, .val (.int v3), .val (.long v45), .second, .val (.long v55), .second, .unset, .unset, .unset, .unset, .unset, .unset] [(.long (v45 + v55))])) _
      refine XS.lstore X0.here hx rfl (hb hby at_61) rfl (l' := #[.val (.long q0), .second, .val (.long q1), .second, .val (.int p2), .val (.long (v45 + v55)), .second, .val (.int v3), .val (.long v45), .second, .val (.long v55), .second, .unset, .unset, .unset, .unset, .unset, .unset]) rfl ?_
      exact k
    obtain ⟨v59, hv59⟩ : ∃ z : Int32, z = (p2 &&& (3 : Int32)) := ⟨_, rfl⟩
    have st60 : ∀ t, Steps p.tables e below (s₁.setTop (mkF m 69 #[.val (.long q0), .second, .val (.long q1), .second, .val (.int p2), .val (.long v57), .second, .val (.int v3), .val (.long v45), .second, .val (.int v59), .unset, .unset, .unset, .unset, .unset, .unset, .unset] [])) t → Steps p.tables e below (s₁.setTop (mkF m 63 #[.val (.long q0), .second, .val (.long q1), .second, .val (.int p2), .val (.long v57), .second, .val (.int v3), .val (.long v45), .second, .val (.long v55), .second, .unset, .unset, .unset, .unset, .unset, .unset] [])) t := by
      rw [hv59]
      intro t k
      show Steps p.tables e below (s₁.setTop (mkF m 63 #[.val (.long q0), .second, .val (.long q1), .second, .val (.int p2), .val (.long v57), .second, .val (.int v3), .val (.long v45), .second, .val (.long v55), .second, .unset, .unset, .unset, .unset, .unset, .unset] [])) _
      refine XS.iload X0.here hx rfl (hb hby at_63) rfl ?_
      show Steps p.tables e below (s₁.setTop (mkF m 65 #[.val (.long q0), .second, .val (.long q1), .second, .val (.int p2), .val (.long v57), .second, .val (.int v3), .val (.long v45), .second, .val (.long v55), .second, .unset, .unset, .unset, .unset, .unset, .unset] [(.int p2)])) _
      refine XS.iconst X0.here hx rfl (hb hby at_65) ?_
      show Steps p.tables e below (s₁.setTop (mkF m 66 #[.val (.long q0), .second, .val (.long q1), .second, .val (.int p2), .val (.long v57), .second, .val (.int v3), .val (.long v45), .second, .val (.long v55), .second, .unset, .unset, .unset, .unset, .unset, .unset] [(.int (3 : Int32)), (.int p2)])) _
      refine XS.iand X0.here hx rfl (hb hby at_66) rfl ?_
      show Steps p.tables e below (s₁.setTop (mkF m 67 #[.val (.long q0), .second, .val (.long q1), .second, .val (.int p2), .val (.long v57), .second, .val (.int v3), .val (.long v45), .second, .val (.long v55), .second, .unset, .unset, .unset, .unset, .unset, .unset] [(.int (p2 &&& (3 : Int32)))])) _
      refine XS.istore X0.here hx rfl (hb hby at_67) rfl (l' := #[.val (.long q0), .second, .val (.long q1), .second, .val (.int p2), .val (.long v57), .second, .val (.int v3), .val (.long v45), .second, .val (.int (p2 &&& (3 : Int32))), .unset, .unset, .unset, .unset, .unset, .unset, .unset]) rfl ?_
      exact k
    have st61 : ∀ t, Steps p.tables e below (s₁.setTop (mkF m 71 #[.val (.long q0), .second, .val (.long q1), .second, .val (.int p2), .val (.long v57), .second, .val (.int v3), .val (.long v45), .second, .val (.int v59), .unset, .unset, .unset, .unset, .unset, .unset, .unset] [(.int v59)])) t → Steps p.tables e below (s₁.setTop (mkF m 69 #[.val (.long q0), .second, .val (.long q1), .second, .val (.int p2), .val (.long v57), .second, .val (.int v3), .val (.long v45), .second, .val (.int v59), .unset, .unset, .unset, .unset, .unset, .unset, .unset] [])) t := by
      intro t k
      show Steps p.tables e below (s₁.setTop (mkF m 69 #[.val (.long q0), .second, .val (.long q1), .second, .val (.int p2), .val (.long v57), .second, .val (.int v3), .val (.long v45), .second, .val (.int v59), .unset, .unset, .unset, .unset, .unset, .unset, .unset] [])) _
      refine XS.iload X0.here hx rfl (hb hby at_69) rfl ?_
      exact k
    obtain ⟨v65, hv65⟩ : ∃ z : Int64, z = (if v59 = (0 : Int32) then q0 else (((v57 / (1000 : Int64)) + ((v59 - (1 : Int32)).toInt64)) + (q0 &&& (1 : Int64)))) := ⟨_, rfl⟩
    have st66 : ∀ t, Steps p.tables e below (s₁.setTop (mkF m 98 #[.val (.long q0), .second, .val (.long q1), .second, .val (.int p2), .val (.long v57), .second, .val (.int v3), .val (.long v65), .second, .val (.int v59), .unset, .unset, .unset, .unset, .unset, .unset, .unset] [])) t → Steps p.tables e below (s₁.setTop (mkF m 71 #[.val (.long q0), .second, .val (.long q1), .second, .val (.int p2), .val (.long v57), .second, .val (.int v3), .val (.long v45), .second, .val (.int v59), .unset, .unset, .unset, .unset, .unset, .unset, .unset] [(.int v59)])) t := by
      rw [hv65]
      by_cases hc71_62 : v59 = (0 : Int32)
      · repeat rw [if_pos hc71_62]
        have st63 : ∀ t, Steps p.tables e below (s₁.setTop (mkF m 98 #[.val (.long q0), .second, .val (.long q1), .second, .val (.int p2), .val (.long v57), .second, .val (.int v3), .val (.long q0), .second, .val (.int v59), .unset, .unset, .unset, .unset, .unset, .unset, .unset] [])) t → Steps p.tables e below (s₁.setTop (mkF m 71 #[.val (.long q0), .second, .val (.long q1), .second, .val (.int p2), .val (.long v57), .second, .val (.int v3), .val (.long v45), .second, .val (.int v59), .unset, .unset, .unset, .unset, .unset, .unset, .unset] [(.int v59)])) t := by
          intro t k
          show Steps p.tables e below (s₁.setTop (mkF m 71 #[.val (.long q0), .second, .val (.long q1), .second, .val (.int p2), .val (.long v57), .second, .val (.int v3), .val (.long v45), .second, .val (.int v59), .unset, .unset, .unset, .unset, .unset, .unset, .unset] [(.int v59)])) _
          refine XS.ifNo X0.here hx rfl (hb hby at_71) rfl ((if0 _ _).trans (teq hc71_62).2) ?_
          show Steps p.tables e below (s₁.setTop (mkF m 74 #[.val (.long q0), .second, .val (.long q1), .second, .val (.int p2), .val (.long v57), .second, .val (.int v3), .val (.long v45), .second, .val (.int v59), .unset, .unset, .unset, .unset, .unset, .unset, .unset] [])) _
          refine XS.lloadN X0.here hx rfl (hb hby at_74) rfl ?_
          show Steps p.tables e below (s₁.setTop (mkF m 75 #[.val (.long q0), .second, .val (.long q1), .second, .val (.int p2), .val (.long v57), .second, .val (.int v3), .val (.long v45), .second, .val (.int v59), .unset, .unset, .unset, .unset, .unset, .unset, .unset] [(.long q0)])) _
          refine XS.lstore X0.here hx rfl (hb hby at_75) rfl (l' := #[.val (.long q0), .second, .val (.long q1), .second, .val (.int p2), .val (.long v57), .second, .val (.int v3), .val (.long q0), .second, .val (.int v59), .unset, .unset, .unset, .unset, .unset, .unset, .unset]) rfl ?_
          show Steps p.tables e below (s₁.setTop (mkF m 77 #[.val (.long q0), .second, .val (.long q1), .second, .val (.int p2), .val (.long v57), .second, .val (.int v3), .val (.long q0), .second, .val (.int v59), .unset, .unset, .unset, .unset, .unset, .unset, .unset] [])) _
          refine XS.goto X0.here hx rfl (pc0 := 77) (pc' := 98) rfl (hb hby at_77) (by decide) (by decide) ?_
          exact k
        exact fun t k => st63 _ k
      · repeat rw [if_neg hc71_62]
        have st64 : ∀ t, Steps p.tables e below (s₁.setTop (mkF m 98 #[.val (.long q0), .second, .val (.long q1), .second, .val (.int p2), .val (.long v57), .second, .val (.int v3), .val (.long (((v57 / (1000 : Int64)) + ((v59 - (1 : Int32)).toInt64)) + (q0 &&& (1 : Int64)))), .second, .val (.int v59), .unset, .unset, .unset, .unset, .unset, .unset, .unset] [])) t → Steps p.tables e below (s₁.setTop (mkF m 71 #[.val (.long q0), .second, .val (.long q1), .second, .val (.int p2), .val (.long v57), .second, .val (.int v3), .val (.long v45), .second, .val (.int v59), .unset, .unset, .unset, .unset, .unset, .unset, .unset] [(.int v59)])) t := by
          intro t k
          show Steps p.tables e below (s₁.setTop (mkF m 71 #[.val (.long q0), .second, .val (.long q1), .second, .val (.int p2), .val (.long v57), .second, .val (.int v3), .val (.long v45), .second, .val (.int v59), .unset, .unset, .unset, .unset, .unset, .unset, .unset] [(.int v59)])) _
          refine XS.ifYes X0.here hx rfl (pc0 := 71) (pc' := 80) rfl (hb hby at_71) rfl ((if0 _ _).trans (feq hc71_62).2) (by decide) (by decide) ?_
          show Steps p.tables e below (s₁.setTop (mkF m 80 #[.val (.long q0), .second, .val (.long q1), .second, .val (.int p2), .val (.long v57), .second, .val (.int v3), .val (.long v45), .second, .val (.int v59), .unset, .unset, .unset, .unset, .unset, .unset, .unset] [])) _
          refine XS.lload X0.here hx rfl (hb hby at_80) rfl ?_
          show Steps p.tables e below (s₁.setTop (mkF m 82 #[.val (.long q0), .second, .val (.long q1), .second, .val (.int p2), .val (.long v57), .second, .val (.int v3), .val (.long v45), .second, .val (.int v59), .unset, .unset, .unset, .unset, .unset, .unset, .unset] [(.long v57)])) _
          refine X0.ldc2Long hx hown (mvT hZ (hw _ (List.mem_of_getElem? (i := 2) rfl))) (g := (mkF m 82 #[.val (.long q0), .second, .val (.long q1), .second, .val (.int p2), .val (.long v57), .second, .val (.int v3), .val (.long v45), .second, .val (.int v59), .unset, .unset, .unset, .unset, .unset, .unset, .unset] [(.long v57)])) rfl (hb hby at_82) _ ?_
          show Steps p.tables e below (s₁.setTop (mkF m 85 #[.val (.long q0), .second, .val (.long q1), .second, .val (.int p2), .val (.long v57), .second, .val (.int v3), .val (.long v45), .second, .val (.int v59), .unset, .unset, .unset, .unset, .unset, .unset, .unset] [(.long (1000 : Int64)), (.long v57)])) _
          refine XS.ldiv X0.here hx rfl (hb hby at_85) rfl (by decide) ?_
          show Steps p.tables e below (s₁.setTop (mkF m 86 #[.val (.long q0), .second, .val (.long q1), .second, .val (.int p2), .val (.long v57), .second, .val (.int v3), .val (.long v45), .second, .val (.int v59), .unset, .unset, .unset, .unset, .unset, .unset, .unset] [(.long (v57 / (1000 : Int64)))])) _
          refine XS.iload X0.here hx rfl (hb hby at_86) rfl ?_
          show Steps p.tables e below (s₁.setTop (mkF m 88 #[.val (.long q0), .second, .val (.long q1), .second, .val (.int p2), .val (.long v57), .second, .val (.int v3), .val (.long v45), .second, .val (.int v59), .unset, .unset, .unset, .unset, .unset, .unset, .unset] [(.int v59), (.long (v57 / (1000 : Int64)))])) _
          refine XS.iconst X0.here hx rfl (hb hby at_88) ?_
          show Steps p.tables e below (s₁.setTop (mkF m 89 #[.val (.long q0), .second, .val (.long q1), .second, .val (.int p2), .val (.long v57), .second, .val (.int v3), .val (.long v45), .second, .val (.int v59), .unset, .unset, .unset, .unset, .unset, .unset, .unset] [(.int (1 : Int32)), (.int v59), (.long (v57 / (1000 : Int64)))])) _
          refine XS.isub X0.here hx rfl (hb hby at_89) rfl ?_
          show Steps p.tables e below (s₁.setTop (mkF m 90 #[.val (.long q0), .second, .val (.long q1), .second, .val (.int p2), .val (.long v57), .second, .val (.int v3), .val (.long v45), .second, .val (.int v59), .unset, .unset, .unset, .unset, .unset, .unset, .unset] [(.int (v59 - (1 : Int32))), (.long (v57 / (1000 : Int64)))])) _
          refine XS.i2l X0.here hx rfl (hb hby at_90) rfl ?_
          show Steps p.tables e below (s₁.setTop (mkF m 91 #[.val (.long q0), .second, .val (.long q1), .second, .val (.int p2), .val (.long v57), .second, .val (.int v3), .val (.long v45), .second, .val (.int v59), .unset, .unset, .unset, .unset, .unset, .unset, .unset] [(.long ((v59 - (1 : Int32)).toInt64)), (.long (v57 / (1000 : Int64)))])) _
          refine XS.ladd X0.here hx rfl (hb hby at_91) rfl ?_
          show Steps p.tables e below (s₁.setTop (mkF m 92 #[.val (.long q0), .second, .val (.long q1), .second, .val (.int p2), .val (.long v57), .second, .val (.int v3), .val (.long v45), .second, .val (.int v59), .unset, .unset, .unset, .unset, .unset, .unset, .unset] [(.long ((v57 / (1000 : Int64)) + ((v59 - (1 : Int32)).toInt64)))])) _
          refine XS.lloadN X0.here hx rfl (hb hby at_92) rfl ?_
          show Steps p.tables e below (s₁.setTop (mkF m 93 #[.val (.long q0), .second, .val (.long q1), .second, .val (.int p2), .val (.long v57), .second, .val (.int v3), .val (.long v45), .second, .val (.int v59), .unset, .unset, .unset, .unset, .unset, .unset, .unset] [(.long q0), (.long ((v57 / (1000 : Int64)) + ((v59 - (1 : Int32)).toInt64)))])) _
          refine XS.lconst X0.here hx rfl (hb hby at_93) ?_
          show Steps p.tables e below (s₁.setTop (mkF m 94 #[.val (.long q0), .second, .val (.long q1), .second, .val (.int p2), .val (.long v57), .second, .val (.int v3), .val (.long v45), .second, .val (.int v59), .unset, .unset, .unset, .unset, .unset, .unset, .unset] [(.long (1 : Int64)), (.long q0), (.long ((v57 / (1000 : Int64)) + ((v59 - (1 : Int32)).toInt64)))])) _
          refine XS.land X0.here hx rfl (hb hby at_94) rfl ?_
          show Steps p.tables e below (s₁.setTop (mkF m 95 #[.val (.long q0), .second, .val (.long q1), .second, .val (.int p2), .val (.long v57), .second, .val (.int v3), .val (.long v45), .second, .val (.int v59), .unset, .unset, .unset, .unset, .unset, .unset, .unset] [(.long (q0 &&& (1 : Int64))), (.long ((v57 / (1000 : Int64)) + ((v59 - (1 : Int32)).toInt64)))])) _
          refine XS.ladd X0.here hx rfl (hb hby at_95) rfl ?_
          show Steps p.tables e below (s₁.setTop (mkF m 96 #[.val (.long q0), .second, .val (.long q1), .second, .val (.int p2), .val (.long v57), .second, .val (.int v3), .val (.long v45), .second, .val (.int v59), .unset, .unset, .unset, .unset, .unset, .unset, .unset] [(.long (((v57 / (1000 : Int64)) + ((v59 - (1 : Int32)).toInt64)) + (q0 &&& (1 : Int64))))])) _
          refine XS.lstore X0.here hx rfl (hb hby at_96) rfl (l' := #[.val (.long q0), .second, .val (.long q1), .second, .val (.int p2), .val (.long v57), .second, .val (.int v3), .val (.long (((v57 / (1000 : Int64)) + ((v59 - (1 : Int32)).toInt64)) + (q0 &&& (1 : Int64)))), .second, .val (.int v59), .unset, .unset, .unset, .unset, .unset, .unset, .unset]) rfl ?_
          exact k
        exact fun t k => st64 _ k
    have st67 : ∀ t, Steps p.tables e below (s₁.setTop (mkF m 104 #[.val (.long q0), .second, .val (.long q1), .second, .val (.int p2), .val (.long v57), .second, .val (.int v3), .val (.long v65), .second, .val (.int v59), .unset, .unset, .unset, .unset, .unset, .unset, .unset] [(.int (lcmpW v65 (-9223372036854775808 : Int64)))])) t → Steps p.tables e below (s₁.setTop (mkF m 98 #[.val (.long q0), .second, .val (.long q1), .second, .val (.int p2), .val (.long v57), .second, .val (.int v3), .val (.long v65), .second, .val (.int v59), .unset, .unset, .unset, .unset, .unset, .unset, .unset] [])) t := by
      intro t k
      show Steps p.tables e below (s₁.setTop (mkF m 98 #[.val (.long q0), .second, .val (.long q1), .second, .val (.int p2), .val (.long v57), .second, .val (.int v3), .val (.long v65), .second, .val (.int v59), .unset, .unset, .unset, .unset, .unset, .unset, .unset] [])) _
      refine XS.lload X0.here hx rfl (hb hby at_98) rfl ?_
      show Steps p.tables e below (s₁.setTop (mkF m 100 #[.val (.long q0), .second, .val (.long q1), .second, .val (.int p2), .val (.long v57), .second, .val (.int v3), .val (.long v65), .second, .val (.int v59), .unset, .unset, .unset, .unset, .unset, .unset, .unset] [(.long v65)])) _
      refine X0.ldc2Long hx hown (mvT hZ (hw _ (List.mem_of_getElem? (i := 3) rfl))) (g := (mkF m 100 #[.val (.long q0), .second, .val (.long q1), .second, .val (.int p2), .val (.long v57), .second, .val (.int v3), .val (.long v65), .second, .val (.int v59), .unset, .unset, .unset, .unset, .unset, .unset, .unset] [(.long v65)])) rfl (hb hby at_100) _ ?_
      show Steps p.tables e below (s₁.setTop (mkF m 103 #[.val (.long q0), .second, .val (.long q1), .second, .val (.int p2), .val (.long v57), .second, .val (.int v3), .val (.long v65), .second, .val (.int v59), .unset, .unset, .unset, .unset, .unset, .unset, .unset] [(.long (-9223372036854775808 : Int64)), (.long v65)])) _
      refine XS.lcmp X0.here hx rfl (hb hby at_103) rfl ?_
      exact k
    refine own_End.go (fun t k => st46 _ (st47 _ (st56 _ (st58 _ (st60 _ (st61 _ (st66 _ (st67 _ k)))))))) ?_
    by_cases hc104_68 : v65 = (-9223372036854775808 : Int64)
    · have st69 : ∀ t, Steps p.tables e below (s₁.setTop (mkF m 108 #[.val (.long q0), .second, .val (.long q1), .second, .val (.int p2), .val (.long v57), .second, .val (.int v3), .val (.long v65), .second, .val (.int v59), .unset, .unset, .unset, .unset, .unset, .unset, .unset] [(.int (1 : Int32))])) t → Steps p.tables e below (s₁.setTop (mkF m 104 #[.val (.long q0), .second, .val (.long q1), .second, .val (.int p2), .val (.long v57), .second, .val (.int v3), .val (.long v65), .second, .val (.int v59), .unset, .unset, .unset, .unset, .unset, .unset, .unset] [(.int (lcmpW v65 (-9223372036854775808 : Int64)))])) t := by
        intro t k
        show Steps p.tables e below (s₁.setTop (mkF m 104 #[.val (.long q0), .second, .val (.long q1), .second, .val (.int p2), .val (.long v57), .second, .val (.int v3), .val (.long v65), .second, .val (.int v59), .unset, .unset, .unset, .unset, .unset, .unset, .unset] [(.int (lcmpW v65 (-9223372036854775808 : Int64)))])) _
        refine XS.ifNo X0.here hx rfl (hb hby at_104) rfl ((if0 _ _).trans (teq ((lw_eq v65 (-9223372036854775808 : Int64)).mpr hc104_68)).2) ?_
        show Steps p.tables e below (s₁.setTop (mkF m 107 #[.val (.long q0), .second, .val (.long q1), .second, .val (.int p2), .val (.long v57), .second, .val (.int v3), .val (.long v65), .second, .val (.int v59), .unset, .unset, .unset, .unset, .unset, .unset, .unset] [])) _
        refine XS.iconst X0.here hx rfl (hb hby at_107) ?_
        exact k
      refine own_End.go (fun t k => st69 _ k) ?_
      exact own_leafN X0 hx Bd.notSynchronized (t := .boolean) Bd.returns (by simp) (hb hby at_108) ⟨congrArg (fun z => some (Value.int z)) (by
          subst hv1 hv3 hv45 hv55 hv57 hv59 hv65; simp only [own_F0, own_nb0, own_nb1, if_neg hc18_6, if_pos hc104_68]), Fr.nil n0⟩ (by decide) (by decide)
    · obtain ⟨v70, hv70⟩ : ∃ z : Int64, z = (v65 - (1 : Int64)) := ⟨_, rfl⟩
      have st71 : ∀ t, Steps p.tables e below (s₁.setTop (mkF m 115 #[.val (.long q0), .second, .val (.long q1), .second, .val (.int p2), .val (.long v57), .second, .val (.int v3), .val (.long v65), .second, .val (.int v59), .val (.long v70), .second, .unset, .unset, .unset, .unset, .unset] [])) t → Steps p.tables e below (s₁.setTop (mkF m 104 #[.val (.long q0), .second, .val (.long q1), .second, .val (.int p2), .val (.long v57), .second, .val (.int v3), .val (.long v65), .second, .val (.int v59), .unset, .unset, .unset, .unset, .unset, .unset, .unset] [(.int (lcmpW v65 (-9223372036854775808 : Int64)))])) t := by
        rw [hv70]
        intro t k
        show Steps p.tables e below (s₁.setTop (mkF m 104 #[.val (.long q0), .second, .val (.long q1), .second, .val (.int p2), .val (.long v57), .second, .val (.int v3), .val (.long v65), .second, .val (.int v59), .unset, .unset, .unset, .unset, .unset, .unset, .unset] [(.int (lcmpW v65 (-9223372036854775808 : Int64)))])) _
        refine XS.ifYes X0.here hx rfl (pc0 := 104) (pc' := 109) rfl (hb hby at_104) rfl ((if0 _ _).trans (feq (mt (lw_eq v65 (-9223372036854775808 : Int64)).mp hc104_68)).2) (by decide) (by decide) ?_
        show Steps p.tables e below (s₁.setTop (mkF m 109 #[.val (.long q0), .second, .val (.long q1), .second, .val (.int p2), .val (.long v57), .second, .val (.int v3), .val (.long v65), .second, .val (.int v59), .unset, .unset, .unset, .unset, .unset, .unset, .unset] [])) _
        refine XS.lload X0.here hx rfl (hb hby at_109) rfl ?_
        show Steps p.tables e below (s₁.setTop (mkF m 111 #[.val (.long q0), .second, .val (.long q1), .second, .val (.int p2), .val (.long v57), .second, .val (.int v3), .val (.long v65), .second, .val (.int v59), .unset, .unset, .unset, .unset, .unset, .unset, .unset] [(.long v65)])) _
        refine XS.lconst X0.here hx rfl (hb hby at_111) ?_
        show Steps p.tables e below (s₁.setTop (mkF m 112 #[.val (.long q0), .second, .val (.long q1), .second, .val (.int p2), .val (.long v57), .second, .val (.int v3), .val (.long v65), .second, .val (.int v59), .unset, .unset, .unset, .unset, .unset, .unset, .unset] [(.long (1 : Int64)), (.long v65)])) _
        refine XS.lsub X0.here hx rfl (hb hby at_112) rfl ?_
        show Steps p.tables e below (s₁.setTop (mkF m 113 #[.val (.long q0), .second, .val (.long q1), .second, .val (.int p2), .val (.long v57), .second, .val (.int v3), .val (.long v65), .second, .val (.int v59), .unset, .unset, .unset, .unset, .unset, .unset, .unset] [(.long (v65 - (1 : Int64)))])) _
        refine XS.lstore X0.here hx rfl (hb hby at_113) rfl (l' := #[.val (.long q0), .second, .val (.long q1), .second, .val (.int p2), .val (.long v57), .second, .val (.int v3), .val (.long v65), .second, .val (.int v59), .val (.long (v65 - (1 : Int64))), .second, .unset, .unset, .unset, .unset, .unset]) rfl ?_
        exact k
      obtain ⟨v72, hv72⟩ : ∃ z : Int64, z = (v57 / (1000 : Int64)) := ⟨_, rfl⟩
      have st73 : ∀ t, Steps p.tables e below (s₁.setTop (mkF m 123 #[.val (.long q0), .second, .val (.long q1), .second, .val (.int p2), .val (.long v57), .second, .val (.int v3), .val (.long v65), .second, .val (.int v59), .val (.long v70), .second, .val (.long v72), .second, .unset, .unset, .unset] [])) t → Steps p.tables e below (s₁.setTop (mkF m 115 #[.val (.long q0), .second, .val (.long q1), .second, .val (.int p2), .val (.long v57), .second, .val (.int v3), .val (.long v65), .second, .val (.int v59), .val (.long v70), .second, .unset, .unset, .unset, .unset, .unset] [])) t := by
        rw [hv72]
        intro t k
        show Steps p.tables e below (s₁.setTop (mkF m 115 #[.val (.long q0), .second, .val (.long q1), .second, .val (.int p2), .val (.long v57), .second, .val (.int v3), .val (.long v65), .second, .val (.int v59), .val (.long v70), .second, .unset, .unset, .unset, .unset, .unset] [])) _
        refine XS.lload X0.here hx rfl (hb hby at_115) rfl ?_
        show Steps p.tables e below (s₁.setTop (mkF m 117 #[.val (.long q0), .second, .val (.long q1), .second, .val (.int p2), .val (.long v57), .second, .val (.int v3), .val (.long v65), .second, .val (.int v59), .val (.long v70), .second, .unset, .unset, .unset, .unset, .unset] [(.long v57)])) _
        refine X0.ldc2Long hx hown (mvT hZ (hw _ (List.mem_of_getElem? (i := 2) rfl))) (g := (mkF m 117 #[.val (.long q0), .second, .val (.long q1), .second, .val (.int p2), .val (.long v57), .second, .val (.int v3), .val (.long v65), .second, .val (.int v59), .val (.long v70), .second, .unset, .unset, .unset, .unset, .unset] [(.long v57)])) rfl (hb hby at_117) _ ?_
        show Steps p.tables e below (s₁.setTop (mkF m 120 #[.val (.long q0), .second, .val (.long q1), .second, .val (.int p2), .val (.long v57), .second, .val (.int v3), .val (.long v65), .second, .val (.int v59), .val (.long v70), .second, .unset, .unset, .unset, .unset, .unset] [(.long (1000 : Int64)), (.long v57)])) _
        refine XS.ldiv X0.here hx rfl (hb hby at_120) rfl (by decide) ?_
        show Steps p.tables e below (s₁.setTop (mkF m 121 #[.val (.long q0), .second, .val (.long q1), .second, .val (.int p2), .val (.long v57), .second, .val (.int v3), .val (.long v65), .second, .val (.int v59), .val (.long v70), .second, .unset, .unset, .unset, .unset, .unset] [(.long (v57 / (1000 : Int64)))])) _
        refine XS.lstore X0.here hx rfl (hb hby at_121) rfl (l' := #[.val (.long q0), .second, .val (.long q1), .second, .val (.int p2), .val (.long v57), .second, .val (.int v3), .val (.long v65), .second, .val (.int v59), .val (.long v70), .second, .val (.long (v57 / (1000 : Int64))), .second, .unset, .unset, .unset]) rfl ?_
        exact k
      obtain ⟨v74, hv74⟩ : ∃ z : Int64, z = (v57 - (v57 / (1000 : Int64)) * (1000 : Int64)) := ⟨_, rfl⟩
      have st75 : ∀ t, Steps p.tables e below (s₁.setTop (mkF m 131 #[.val (.long q0), .second, .val (.long q1), .second, .val (.int p2), .val (.long v57), .second, .val (.int v3), .val (.long v65), .second, .val (.int v59), .val (.long v70), .second, .val (.long v72), .second, .val (.long v74), .second, .unset] [])) t → Steps p.tables e below (s₁.setTop (mkF m 123 #[.val (.long q0), .second, .val (.long q1), .second, .val (.int p2), .val (.long v57), .second, .val (.int v3), .val (.long v65), .second, .val (.int v59), .val (.long v70), .second, .val (.long v72), .second, .unset, .unset, .unset] [])) t := by
        rw [hv74]
        intro t k
        show Steps p.tables e below (s₁.setTop (mkF m 123 #[.val (.long q0), .second, .val (.long q1), .second, .val (.int p2), .val (.long v57), .second, .val (.int v3), .val (.long v65), .second, .val (.int v59), .val (.long v70), .second, .val (.long v72), .second, .unset, .unset, .unset] [])) _
        refine XS.lload X0.here hx rfl (hb hby at_123) rfl ?_
        show Steps p.tables e below (s₁.setTop (mkF m 125 #[.val (.long q0), .second, .val (.long q1), .second, .val (.int p2), .val (.long v57), .second, .val (.int v3), .val (.long v65), .second, .val (.int v59), .val (.long v70), .second, .val (.long v72), .second, .unset, .unset, .unset] [(.long v57)])) _
        refine X0.ldc2Long hx hown (mvT hZ (hw _ (List.mem_of_getElem? (i := 2) rfl))) (g := (mkF m 125 #[.val (.long q0), .second, .val (.long q1), .second, .val (.int p2), .val (.long v57), .second, .val (.int v3), .val (.long v65), .second, .val (.int v59), .val (.long v70), .second, .val (.long v72), .second, .unset, .unset, .unset] [(.long v57)])) rfl (hb hby at_125) _ ?_
        show Steps p.tables e below (s₁.setTop (mkF m 128 #[.val (.long q0), .second, .val (.long q1), .second, .val (.int p2), .val (.long v57), .second, .val (.int v3), .val (.long v65), .second, .val (.int v59), .val (.long v70), .second, .val (.long v72), .second, .unset, .unset, .unset] [(.long (1000 : Int64)), (.long v57)])) _
        refine XS.lrem X0.here hx rfl (hb hby at_128) rfl (by decide) ?_
        show Steps p.tables e below (s₁.setTop (mkF m 129 #[.val (.long q0), .second, .val (.long q1), .second, .val (.int p2), .val (.long v57), .second, .val (.int v3), .val (.long v65), .second, .val (.int v59), .val (.long v70), .second, .val (.long v72), .second, .unset, .unset, .unset] [(.long (v57 - (v57 / (1000 : Int64)) * (1000 : Int64)))])) _
        refine XS.lstore X0.here hx rfl (hb hby at_129) rfl (l' := #[.val (.long q0), .second, .val (.long q1), .second, .val (.int p2), .val (.long v57), .second, .val (.int v3), .val (.long v65), .second, .val (.int v59), .val (.long v70), .second, .val (.long v72), .second, .val (.long (v57 - (v57 / (1000 : Int64)) * (1000 : Int64))), .second, .unset]) rfl ?_
        exact k
      have st76 : ∀ t, Steps p.tables e below (s₁.setTop (mkF m 136 #[.val (.long q0), .second, .val (.long q1), .second, .val (.int p2), .val (.long v57), .second, .val (.int v3), .val (.long v65), .second, .val (.int v59), .val (.long v70), .second, .val (.long v72), .second, .val (.long v74), .second, .unset] [(.int (lcmpW v72 v70))])) t → Steps p.tables e below (s₁.setTop (mkF m 131 #[.val (.long q0), .second, .val (.long q1), .second, .val (.int p2), .val (.long v57), .second, .val (.int v3), .val (.long v65), .second, .val (.int v59), .val (.long v70), .second, .val (.long v72), .second, .val (.long v74), .second, .unset] [])) t := by
        intro t k
        show Steps p.tables e below (s₁.setTop (mkF m 131 #[.val (.long q0), .second, .val (.long q1), .second, .val (.int p2), .val (.long v57), .second, .val (.int v3), .val (.long v65), .second, .val (.int v59), .val (.long v70), .second, .val (.long v72), .second, .val (.long v74), .second, .unset] [])) _
        refine XS.lload X0.here hx rfl (hb hby at_131) rfl ?_
        show Steps p.tables e below (s₁.setTop (mkF m 133 #[.val (.long q0), .second, .val (.long q1), .second, .val (.int p2), .val (.long v57), .second, .val (.int v3), .val (.long v65), .second, .val (.int v59), .val (.long v70), .second, .val (.long v72), .second, .val (.long v74), .second, .unset] [(.long v72)])) _
        refine XS.lload X0.here hx rfl (hb hby at_133) rfl ?_
        show Steps p.tables e below (s₁.setTop (mkF m 135 #[.val (.long q0), .second, .val (.long q1), .second, .val (.int p2), .val (.long v57), .second, .val (.int v3), .val (.long v65), .second, .val (.int v59), .val (.long v70), .second, .val (.long v72), .second, .val (.long v74), .second, .unset] [(.long v70), (.long v72)])) _
        refine XS.lcmp X0.here hx rfl (hb hby at_135) rfl ?_
        exact k
      obtain ⟨v88, hv88⟩ : ∃ z : Int32, z = (if v72 < v70 then (1 : Int32) else (if v72 = v70 then (if v74 = (0 : Int64) then (1 : Int32) else (0 : Int32)) else (0 : Int32))) := ⟨_, rfl⟩
      have st89 : ∀ t, Steps p.tables e below (s₁.setTop (mkF m 159 #[.val (.long q0), .second, .val (.long q1), .second, .val (.int p2), .val (.long v57), .second, .val (.int v3), .val (.long v65), .second, .val (.int v59), .val (.long v70), .second, .val (.long v72), .second, .val (.long v74), .second, .unset] [(.int v88)])) t → Steps p.tables e below (s₁.setTop (mkF m 136 #[.val (.long q0), .second, .val (.long q1), .second, .val (.int p2), .val (.long v57), .second, .val (.int v3), .val (.long v65), .second, .val (.int v59), .val (.long v70), .second, .val (.long v72), .second, .val (.long v74), .second, .unset] [(.int (lcmpW v72 v70))])) t := by
        rw [hv88]
        by_cases hc136_77 : v72 < v70
        · repeat rw [if_pos hc136_77]
          have st78 : ∀ t, Steps p.tables e below (s₁.setTop (mkF m 159 #[.val (.long q0), .second, .val (.long q1), .second, .val (.int p2), .val (.long v57), .second, .val (.int v3), .val (.long v65), .second, .val (.int v59), .val (.long v70), .second, .val (.long v72), .second, .val (.long v74), .second, .unset] [(.int (1 : Int32))])) t → Steps p.tables e below (s₁.setTop (mkF m 136 #[.val (.long q0), .second, .val (.long q1), .second, .val (.int p2), .val (.long v57), .second, .val (.int v3), .val (.long v65), .second, .val (.int v59), .val (.long v70), .second, .val (.long v72), .second, .val (.long v74), .second, .unset] [(.int (lcmpW v72 v70))])) t := by
            intro t k
            show Steps p.tables e below (s₁.setTop (mkF m 136 #[.val (.long q0), .second, .val (.long q1), .second, .val (.int p2), .val (.long v57), .second, .val (.int v3), .val (.long v65), .second, .val (.int v59), .val (.long v70), .second, .val (.long v72), .second, .val (.long v74), .second, .unset] [(.int (lcmpW v72 v70))])) _
            refine XS.ifYes X0.here hx rfl (pc0 := 136) (pc' := 154) rfl (hb hby at_136) rfl ((if0 _ _).trans (tlt ((lw_lt v72 v70).mpr hc136_77)).1) (by decide) (by decide) ?_
            show Steps p.tables e below (s₁.setTop (mkF m 154 #[.val (.long q0), .second, .val (.long q1), .second, .val (.int p2), .val (.long v57), .second, .val (.int v3), .val (.long v65), .second, .val (.int v59), .val (.long v70), .second, .val (.long v72), .second, .val (.long v74), .second, .unset] [])) _
            refine XS.iconst X0.here hx rfl (hb hby at_154) ?_
            show Steps p.tables e below (s₁.setTop (mkF m 155 #[.val (.long q0), .second, .val (.long q1), .second, .val (.int p2), .val (.long v57), .second, .val (.int v3), .val (.long v65), .second, .val (.int v59), .val (.long v70), .second, .val (.long v72), .second, .val (.long v74), .second, .unset] [(.int (1 : Int32))])) _
            refine XS.goto X0.here hx rfl (pc0 := 155) (pc' := 159) rfl (hb hby at_155) (by decide) (by decide) ?_
            exact k
          exact fun t k => st78 _ k
        · repeat rw [if_neg hc136_77]
          have st79 : ∀ t, Steps p.tables e below (s₁.setTop (mkF m 144 #[.val (.long q0), .second, .val (.long q1), .second, .val (.int p2), .val (.long v57), .second, .val (.int v3), .val (.long v65), .second, .val (.int v59), .val (.long v70), .second, .val (.long v72), .second, .val (.long v74), .second, .unset] [(.int (lcmpW v72 v70))])) t → Steps p.tables e below (s₁.setTop (mkF m 136 #[.val (.long q0), .second, .val (.long q1), .second, .val (.int p2), .val (.long v57), .second, .val (.int v3), .val (.long v65), .second, .val (.int v59), .val (.long v70), .second, .val (.long v72), .second, .val (.long v74), .second, .unset] [(.int (lcmpW v72 v70))])) t := by
            intro t k
            show Steps p.tables e below (s₁.setTop (mkF m 136 #[.val (.long q0), .second, .val (.long q1), .second, .val (.int p2), .val (.long v57), .second, .val (.int v3), .val (.long v65), .second, .val (.int v59), .val (.long v70), .second, .val (.long v72), .second, .val (.long v74), .second, .unset] [(.int (lcmpW v72 v70))])) _
            refine XS.ifNo X0.here hx rfl (hb hby at_136) rfl ((if0 _ _).trans (flt (mt (lw_lt v72 v70).mp hc136_77)).1) ?_
            show Steps p.tables e below (s₁.setTop (mkF m 139 #[.val (.long q0), .second, .val (.long q1), .second, .val (.int p2), .val (.long v57), .second, .val (.int v3), .val (.long v65), .second, .val (.int v59), .val (.long v70), .second, .val (.long v72), .second, .val (.long v74), .second, .unset] [])) _
            refine XS.lload X0.here hx rfl (hb hby at_139) rfl ?_
            show Steps p.tables e below (s₁.setTop (mkF m 141 #[.val (.long q0), .second, .val (.long q1), .second, .val (.int p2), .val (.long v57), .second, .val (.int v3), .val (.long v65), .second, .val (.int v59), .val (.long v70), .second, .val (.long v72), .second, .val (.long v74), .second, .unset] [(.long v72)])) _
            refine XS.lload X0.here hx rfl (hb hby at_141) rfl ?_
            show Steps p.tables e below (s₁.setTop (mkF m 143 #[.val (.long q0), .second, .val (.long q1), .second, .val (.int p2), .val (.long v57), .second, .val (.int v3), .val (.long v65), .second, .val (.int v59), .val (.long v70), .second, .val (.long v72), .second, .val (.long v74), .second, .unset] [(.long v70), (.long v72)])) _
            refine XS.lcmp X0.here hx rfl (hb hby at_143) rfl ?_
            exact k
          have st87 : ∀ t, Steps p.tables e below (s₁.setTop (mkF m 159 #[.val (.long q0), .second, .val (.long q1), .second, .val (.int p2), .val (.long v57), .second, .val (.int v3), .val (.long v65), .second, .val (.int v59), .val (.long v70), .second, .val (.long v72), .second, .val (.long v74), .second, .unset] [(.int (if v72 = v70 then (if v74 = (0 : Int64) then (1 : Int32) else (0 : Int32)) else (0 : Int32)))])) t → Steps p.tables e below (s₁.setTop (mkF m 144 #[.val (.long q0), .second, .val (.long q1), .second, .val (.int p2), .val (.long v57), .second, .val (.int v3), .val (.long v65), .second, .val (.int v59), .val (.long v70), .second, .val (.long v72), .second, .val (.long v74), .second, .unset] [(.int (lcmpW v72 v70))])) t := by
            by_cases hc144_80 : v72 = v70
            · repeat rw [if_pos hc144_80]
              have st81 : ∀ t, Steps p.tables e below (s₁.setTop (mkF m 151 #[.val (.long q0), .second, .val (.long q1), .second, .val (.int p2), .val (.long v57), .second, .val (.int v3), .val (.long v65), .second, .val (.int v59), .val (.long v70), .second, .val (.long v72), .second, .val (.long v74), .second, .unset] [(.int (lcmpW v74 (0 : Int64)))])) t → Steps p.tables e below (s₁.setTop (mkF m 144 #[.val (.long q0), .second, .val (.long q1), .second, .val (.int p2), .val (.long v57), .second, .val (.int v3), .val (.long v65), .second, .val (.int v59), .val (.long v70), .second, .val (.long v72), .second, .val (.long v74), .second, .unset] [(.int (lcmpW v72 v70))])) t := by
                intro t k
                show Steps p.tables e below (s₁.setTop (mkF m 144 #[.val (.long q0), .second, .val (.long q1), .second, .val (.int p2), .val (.long v57), .second, .val (.int v3), .val (.long v65), .second, .val (.int v59), .val (.long v70), .second, .val (.long v72), .second, .val (.long v74), .second, .unset] [(.int (lcmpW v72 v70))])) _
                refine XS.ifNo X0.here hx rfl (hb hby at_144) rfl ((if0 _ _).trans (teq ((lw_eq v72 v70).mpr hc144_80)).2) ?_
                show Steps p.tables e below (s₁.setTop (mkF m 147 #[.val (.long q0), .second, .val (.long q1), .second, .val (.int p2), .val (.long v57), .second, .val (.int v3), .val (.long v65), .second, .val (.int v59), .val (.long v70), .second, .val (.long v72), .second, .val (.long v74), .second, .unset] [])) _
                refine XS.lload X0.here hx rfl (hb hby at_147) rfl ?_
                show Steps p.tables e below (s₁.setTop (mkF m 149 #[.val (.long q0), .second, .val (.long q1), .second, .val (.int p2), .val (.long v57), .second, .val (.int v3), .val (.long v65), .second, .val (.int v59), .val (.long v70), .second, .val (.long v72), .second, .val (.long v74), .second, .unset] [(.long v74)])) _
                refine XS.lconst X0.here hx rfl (hb hby at_149) ?_
                show Steps p.tables e below (s₁.setTop (mkF m 150 #[.val (.long q0), .second, .val (.long q1), .second, .val (.int p2), .val (.long v57), .second, .val (.int v3), .val (.long v65), .second, .val (.int v59), .val (.long v70), .second, .val (.long v72), .second, .val (.long v74), .second, .unset] [(.long (0 : Int64)), (.long v74)])) _
                refine XS.lcmp X0.here hx rfl (hb hby at_150) rfl ?_
                exact k
              have st85 : ∀ t, Steps p.tables e below (s₁.setTop (mkF m 159 #[.val (.long q0), .second, .val (.long q1), .second, .val (.int p2), .val (.long v57), .second, .val (.int v3), .val (.long v65), .second, .val (.int v59), .val (.long v70), .second, .val (.long v72), .second, .val (.long v74), .second, .unset] [(.int (if v74 = (0 : Int64) then (1 : Int32) else (0 : Int32)))])) t → Steps p.tables e below (s₁.setTop (mkF m 151 #[.val (.long q0), .second, .val (.long q1), .second, .val (.int p2), .val (.long v57), .second, .val (.int v3), .val (.long v65), .second, .val (.int v59), .val (.long v70), .second, .val (.long v72), .second, .val (.long v74), .second, .unset] [(.int (lcmpW v74 (0 : Int64)))])) t := by
                by_cases hc151_82 : v74 = (0 : Int64)
                · repeat rw [if_pos hc151_82]
                  have st83 : ∀ t, Steps p.tables e below (s₁.setTop (mkF m 159 #[.val (.long q0), .second, .val (.long q1), .second, .val (.int p2), .val (.long v57), .second, .val (.int v3), .val (.long v65), .second, .val (.int v59), .val (.long v70), .second, .val (.long v72), .second, .val (.long v74), .second, .unset] [(.int (1 : Int32))])) t → Steps p.tables e below (s₁.setTop (mkF m 151 #[.val (.long q0), .second, .val (.long q1), .second, .val (.int p2), .val (.long v57), .second, .val (.int v3), .val (.long v65), .second, .val (.int v59), .val (.long v70), .second, .val (.long v72), .second, .val (.long v74), .second, .unset] [(.int (lcmpW v74 (0 : Int64)))])) t := by
                    intro t k
                    show Steps p.tables e below (s₁.setTop (mkF m 151 #[.val (.long q0), .second, .val (.long q1), .second, .val (.int p2), .val (.long v57), .second, .val (.int v3), .val (.long v65), .second, .val (.int v59), .val (.long v70), .second, .val (.long v72), .second, .val (.long v74), .second, .unset] [(.int (lcmpW v74 (0 : Int64)))])) _
                    refine XS.ifNo X0.here hx rfl (hb hby at_151) rfl ((if0 _ _).trans (teq ((lw_eq v74 (0 : Int64)).mpr hc151_82)).2) ?_
                    show Steps p.tables e below (s₁.setTop (mkF m 154 #[.val (.long q0), .second, .val (.long q1), .second, .val (.int p2), .val (.long v57), .second, .val (.int v3), .val (.long v65), .second, .val (.int v59), .val (.long v70), .second, .val (.long v72), .second, .val (.long v74), .second, .unset] [])) _
                    refine XS.iconst X0.here hx rfl (hb hby at_154) ?_
                    show Steps p.tables e below (s₁.setTop (mkF m 155 #[.val (.long q0), .second, .val (.long q1), .second, .val (.int p2), .val (.long v57), .second, .val (.int v3), .val (.long v65), .second, .val (.int v59), .val (.long v70), .second, .val (.long v72), .second, .val (.long v74), .second, .unset] [(.int (1 : Int32))])) _
                    refine XS.goto X0.here hx rfl (pc0 := 155) (pc' := 159) rfl (hb hby at_155) (by decide) (by decide) ?_
                    exact k
                  exact fun t k => st83 _ k
                · repeat rw [if_neg hc151_82]
                  have st84 : ∀ t, Steps p.tables e below (s₁.setTop (mkF m 159 #[.val (.long q0), .second, .val (.long q1), .second, .val (.int p2), .val (.long v57), .second, .val (.int v3), .val (.long v65), .second, .val (.int v59), .val (.long v70), .second, .val (.long v72), .second, .val (.long v74), .second, .unset] [(.int (0 : Int32))])) t → Steps p.tables e below (s₁.setTop (mkF m 151 #[.val (.long q0), .second, .val (.long q1), .second, .val (.int p2), .val (.long v57), .second, .val (.int v3), .val (.long v65), .second, .val (.int v59), .val (.long v70), .second, .val (.long v72), .second, .val (.long v74), .second, .unset] [(.int (lcmpW v74 (0 : Int64)))])) t := by
                    intro t k
                    show Steps p.tables e below (s₁.setTop (mkF m 151 #[.val (.long q0), .second, .val (.long q1), .second, .val (.int p2), .val (.long v57), .second, .val (.int v3), .val (.long v65), .second, .val (.int v59), .val (.long v70), .second, .val (.long v72), .second, .val (.long v74), .second, .unset] [(.int (lcmpW v74 (0 : Int64)))])) _
                    refine XS.ifYes X0.here hx rfl (pc0 := 151) (pc' := 158) rfl (hb hby at_151) rfl ((if0 _ _).trans (feq (mt (lw_eq v74 (0 : Int64)).mp hc151_82)).2) (by decide) (by decide) ?_
                    show Steps p.tables e below (s₁.setTop (mkF m 158 #[.val (.long q0), .second, .val (.long q1), .second, .val (.int p2), .val (.long v57), .second, .val (.int v3), .val (.long v65), .second, .val (.int v59), .val (.long v70), .second, .val (.long v72), .second, .val (.long v74), .second, .unset] [])) _
                    refine XS.iconst X0.here hx rfl (hb hby at_158) ?_
                    exact k
                  exact fun t k => st84 _ k
              exact fun t k => st81 _ (st85 _ k)
            · repeat rw [if_neg hc144_80]
              have st86 : ∀ t, Steps p.tables e below (s₁.setTop (mkF m 159 #[.val (.long q0), .second, .val (.long q1), .second, .val (.int p2), .val (.long v57), .second, .val (.int v3), .val (.long v65), .second, .val (.int v59), .val (.long v70), .second, .val (.long v72), .second, .val (.long v74), .second, .unset] [(.int (0 : Int32))])) t → Steps p.tables e below (s₁.setTop (mkF m 144 #[.val (.long q0), .second, .val (.long q1), .second, .val (.int p2), .val (.long v57), .second, .val (.int v3), .val (.long v65), .second, .val (.int v59), .val (.long v70), .second, .val (.long v72), .second, .val (.long v74), .second, .unset] [(.int (lcmpW v72 v70))])) t := by
                intro t k
                show Steps p.tables e below (s₁.setTop (mkF m 144 #[.val (.long q0), .second, .val (.long q1), .second, .val (.int p2), .val (.long v57), .second, .val (.int v3), .val (.long v65), .second, .val (.int v59), .val (.long v70), .second, .val (.long v72), .second, .val (.long v74), .second, .unset] [(.int (lcmpW v72 v70))])) _
                refine XS.ifYes X0.here hx rfl (pc0 := 144) (pc' := 158) rfl (hb hby at_144) rfl ((if0 _ _).trans (feq (mt (lw_eq v72 v70).mp hc144_80)).2) (by decide) (by decide) ?_
                show Steps p.tables e below (s₁.setTop (mkF m 158 #[.val (.long q0), .second, .val (.long q1), .second, .val (.int p2), .val (.long v57), .second, .val (.int v3), .val (.long v65), .second, .val (.int v59), .val (.long v70), .second, .val (.long v72), .second, .val (.long v74), .second, .unset] [])) _
                refine XS.iconst X0.here hx rfl (hb hby at_158) ?_
                exact k
              exact fun t k => st86 _ k
          exact fun t k => st79 _ (st87 _ k)
      have st90 : ∀ t, Steps p.tables e below (s₁.setTop (mkF m 165 #[.val (.long q0), .second, .val (.long q1), .second, .val (.int p2), .val (.long v57), .second, .val (.int v3), .val (.long v65), .second, .val (.int v59), .val (.long v70), .second, .val (.long v72), .second, .val (.long v74), .second, .val (.int v88)] [(.long v57), (.long v65)])) t → Steps p.tables e below (s₁.setTop (mkF m 159 #[.val (.long q0), .second, .val (.long q1), .second, .val (.int p2), .val (.long v57), .second, .val (.int v3), .val (.long v65), .second, .val (.int v59), .val (.long v70), .second, .val (.long v72), .second, .val (.long v74), .second, .unset] [(.int v88)])) t := by
        intro t k
        show Steps p.tables e below (s₁.setTop (mkF m 159 #[.val (.long q0), .second, .val (.long q1), .second, .val (.int p2), .val (.long v57), .second, .val (.int v3), .val (.long v65), .second, .val (.int v59), .val (.long v70), .second, .val (.long v72), .second, .val (.long v74), .second, .unset] [(.int v88)])) _
        refine XS.istore X0.here hx rfl (hb hby at_159) rfl (l' := #[.val (.long q0), .second, .val (.long q1), .second, .val (.int p2), .val (.long v57), .second, .val (.int v3), .val (.long v65), .second, .val (.int v59), .val (.long v70), .second, .val (.long v72), .second, .val (.long v74), .second, .val (.int v88)]) rfl ?_
        show Steps p.tables e below (s₁.setTop (mkF m 161 #[.val (.long q0), .second, .val (.long q1), .second, .val (.int p2), .val (.long v57), .second, .val (.int v3), .val (.long v65), .second, .val (.int v59), .val (.long v70), .second, .val (.long v72), .second, .val (.long v74), .second, .val (.int v88)] [])) _
        refine XS.lload X0.here hx rfl (hb hby at_161) rfl ?_
        show Steps p.tables e below (s₁.setTop (mkF m 163 #[.val (.long q0), .second, .val (.long q1), .second, .val (.int p2), .val (.long v57), .second, .val (.int v3), .val (.long v65), .second, .val (.int v59), .val (.long v70), .second, .val (.long v72), .second, .val (.long v74), .second, .val (.int v88)] [(.long v65)])) _
        refine XS.lload X0.here hx rfl (hb hby at_163) rfl ?_
        exact k
      obtain ⟨_, _, ⟨T91, L91, k91, n91⟩, -, X91, ⟨Lc91, hQ91, l91, y91, z91⟩, st91⟩ := Jvm.LawKit.callS X0 hx (y := (⟨"com/example/dibs/dibs/Quorum", "upLongerThan", "(JJ)Z"⟩ : MethodName)) hown (mvT hZ (hw _ (List.mem_of_getElem? (i := 4) rfl))) (mvT hZ (hw _ (List.mem_of_getElem? (i := 5) rfl))) (mvT hZ (hw _ (List.mem_of_getElem? (i := 6) rfl))) (mvT hZ (hw _ (List.mem_of_getElem? (i := 7) rfl))) (by decide) (backOf (W := 0) (own_rm1 l Z a0 hw [] v65 v57 h0) hZ (hw _ (List.mem_of_getElem? (i := 7) rfl)) (hw _ (List.mem_of_getElem? (i := 6) rfl)) (by decide) (by decide)) (g := (mkF m 165 #[.val (.long q0), .second, .val (.long q1), .second, .val (.int p2), .val (.long v57), .second, .val (.int v3), .val (.long v65), .second, .val (.int v59), .val (.long v70), .second, .val (.long v72), .second, .val (.long v74), .second, .val (.int v88)] [(.long v57), (.long v65)])) rfl (by rw [hml]; rfl) (argsL := [(.long v65), (.long v57)]) (rest := []) (lenOf own_pd0 rfl) rfl (by show 2 * 0 + _ ≤ _; exact Nat.le_of_eq rfl) (hb hby at_165) (fun _ _ => ⟨rfl, e0, (by decide : 0 + 0 ≤ _), (by decide : 0 + 0 ≤ _)⟩)
      dsimp only [Pt.U, Pt.locs, Pt.cells, Pt.slots] at X91 l91 y91 z91 st91 hQ91
      subst l91 y91 z91
      obtain ⟨rfl, rfl, e91⟩ := hQ91
      have X91' : Stand p l e room_1 s m #[(.long q0), (.long q1), (.int p2)] below meth c T91 [] 0 0 := by first | exact X91 | (rw [List.append_nil] at X91; exact X91)
      obtain ⟨v92, hv92⟩ : ∃ z : Int32, z = (own_F1 v65 v57) := ⟨_, rfl⟩
      rw [← hv92] at st91
      have st93 : ∀ t, Steps p.tables e below (T91.setTop (mkF m 170 #[.val (.long q0), .second, .val (.long q1), .second, .val (.int p2), .val (.long v57), .second, .val (.int v3), .val (.long v65), .second, .val (.int v59), .val (.long v70), .second, .val (.long v72), .second, .val (.long v74), .second, .val (.int v88)] [(.int v88), (.int v92)])) t → Steps p.tables e below (T91.setTop (mkF m 168 #[.val (.long q0), .second, .val (.long q1), .second, .val (.int p2), .val (.long v57), .second, .val (.int v3), .val (.long v65), .second, .val (.int v59), .val (.long v70), .second, .val (.long v72), .second, .val (.long v74), .second, .val (.int v88)] [(.int v92)])) t := by
        intro t k
        show Steps p.tables e below (T91.setTop (mkF m 168 #[.val (.long q0), .second, .val (.long q1), .second, .val (.int p2), .val (.long v57), .second, .val (.int v3), .val (.long v65), .second, .val (.int v59), .val (.long v70), .second, .val (.long v72), .second, .val (.long v74), .second, .val (.int v88)] [(.int v92)])) _
        refine XS.iload X91'.here hx rfl (hb hby at_168) rfl ?_
        exact k
      refine own_End.go (fun t k => st71 _ (st73 _ (st75 _ (st76 _ (st89 _ (st90 _ (st91 _ (st93 _ k)))))))) ?_
      by_cases hc170_94 : v92 = v88
      · have st95 : ∀ t, Steps p.tables e below (T91.setTop (mkF m 178 #[.val (.long q0), .second, .val (.long q1), .second, .val (.int p2), .val (.long v57), .second, .val (.int v3), .val (.long v65), .second, .val (.int v59), .val (.long v70), .second, .val (.long v72), .second, .val (.long v74), .second, .val (.int v88)] [(.int (1 : Int32))])) t → Steps p.tables e below (T91.setTop (mkF m 170 #[.val (.long q0), .second, .val (.long q1), .second, .val (.int p2), .val (.long v57), .second, .val (.int v3), .val (.long v65), .second, .val (.int v59), .val (.long v70), .second, .val (.long v72), .second, .val (.long v74), .second, .val (.int v88)] [(.int v88), (.int v92)])) t := by
          intro t k
          show Steps p.tables e below (T91.setTop (mkF m 170 #[.val (.long q0), .second, .val (.long q1), .second, .val (.int p2), .val (.long v57), .second, .val (.int v3), .val (.long v65), .second, .val (.int v59), .val (.long v70), .second, .val (.long v72), .second, .val (.long v74), .second, .val (.int v88)] [(.int v88), (.int v92)])) _
          refine XS.icmpNo X91'.here hx rfl (hb hby at_170) rfl (teq hc170_94).2 ?_
          show Steps p.tables e below (T91.setTop (mkF m 173 #[.val (.long q0), .second, .val (.long q1), .second, .val (.int p2), .val (.long v57), .second, .val (.int v3), .val (.long v65), .second, .val (.int v59), .val (.long v70), .second, .val (.long v72), .second, .val (.long v74), .second, .val (.int v88)] [])) _
          refine XS.iconst X91'.here hx rfl (hb hby at_173) ?_
          show Steps p.tables e below (T91.setTop (mkF m 174 #[.val (.long q0), .second, .val (.long q1), .second, .val (.int p2), .val (.long v57), .second, .val (.int v3), .val (.long v65), .second, .val (.int v59), .val (.long v70), .second, .val (.long v72), .second, .val (.long v74), .second, .val (.int v88)] [(.int (1 : Int32))])) _
          refine XS.goto X91'.here hx rfl (pc0 := 174) (pc' := 178) rfl (hb hby at_174) (by decide) (by decide) ?_
          exact k
        refine own_End.go (fun t k => st95 _ k) ?_
        exact own_leafN X91' hx Bd.notSynchronized (t := .boolean) Bd.returns (by simp) (hb hby at_178) ⟨congrArg (fun z => some (Value.int z)) (by
            subst hv1 hv3 hv45 hv55 hv57 hv59 hv65 hv70 hv72 hv74 hv88 hv92; simp only [own_F0, own_nb0, own_nb1, if_neg hc18_6, if_neg hc104_68, if_pos hc170_94]), Fr.nil n0⟩ (by decide) (by decide)
      · have st96 : ∀ t, Steps p.tables e below (T91.setTop (mkF m 178 #[.val (.long q0), .second, .val (.long q1), .second, .val (.int p2), .val (.long v57), .second, .val (.int v3), .val (.long v65), .second, .val (.int v59), .val (.long v70), .second, .val (.long v72), .second, .val (.long v74), .second, .val (.int v88)] [(.int (0 : Int32))])) t → Steps p.tables e below (T91.setTop (mkF m 170 #[.val (.long q0), .second, .val (.long q1), .second, .val (.int p2), .val (.long v57), .second, .val (.int v3), .val (.long v65), .second, .val (.int v59), .val (.long v70), .second, .val (.long v72), .second, .val (.long v74), .second, .val (.int v88)] [(.int v88), (.int v92)])) t := by
          intro t k
          show Steps p.tables e below (T91.setTop (mkF m 170 #[.val (.long q0), .second, .val (.long q1), .second, .val (.int p2), .val (.long v57), .second, .val (.int v3), .val (.long v65), .second, .val (.int v59), .val (.long v70), .second, .val (.long v72), .second, .val (.long v74), .second, .val (.int v88)] [(.int v88), (.int v92)])) _
          refine XS.icmpYes X91'.here hx rfl (pc0 := 170) (pc' := 177) rfl (hb hby at_170) rfl (feq hc170_94).2 (by decide) (by decide) ?_
          show Steps p.tables e below (T91.setTop (mkF m 177 #[.val (.long q0), .second, .val (.long q1), .second, .val (.int p2), .val (.long v57), .second, .val (.int v3), .val (.long v65), .second, .val (.int v59), .val (.long v70), .second, .val (.long v72), .second, .val (.long v74), .second, .val (.int v88)] [])) _
          refine XS.iconst X91'.here hx rfl (hb hby at_177) ?_
          exact k
        refine own_End.go (fun t k => st96 _ k) ?_
        exact own_leafN X91' hx Bd.notSynchronized (t := .boolean) Bd.returns (by simp) (hb hby at_178) ⟨congrArg (fun z => some (Value.int z)) (by
            subst hv1 hv3 hv45 hv55 hv57 hv59 hv65 hv70 hv72 hv74 hv88 hv92; simp only [own_F0, own_nb0, own_nb1, if_neg hc18_6, if_neg hc104_68, if_neg hc170_94]), Fr.nil n0⟩ (by decide) (by decide)
theorem own_core (u t : Int64) (ht : 0 ≤ t.toInt) (hu : ¬ u = (-9223372036854775808 : Int64)) :
    own_F1 u t = (if (t / (1000 : Int64)) < (u - (1 : Int64)) then (1 : Int32) else (if (t / (1000 : Int64)) = (u - (1 : Int64)) then (if (t - (t / (1000 : Int64)) * (1000 : Int64)) = (0 : Int64) then (1 : Int32) else (0 : Int32)) else (0 : Int32))) := by
  have y0 : (0 : Int64).toInt = 0 := by decide
  have y1 : (1 : Int64).toInt = 1 := by decide
  have ym : (-9223372036854775808 : Int64).toInt = -9223372036854775808 := by decide
  have hu' : ¬ u.toInt = -9223372036854775808 := fun q => hu (Int64.toInt_inj.mp (by rw [q, ym]))
  have d := (c_ldiv t 1000 1000 (by decide) (by decide)).1 ht
  have r := (c_lrem t 1000 1000 (by decide)).1 ht
  have s1 := c_lsub u 1
  have ru := rng64 u
  have rt := rng64 t
  have rs := rng64 (u - 1)
  have z0 : ((0 : Int32).toInt64).toInt = 0 := by decide
  have z1 : ((1 : Int32).toInt64).toInt = 1 := by decide
  have a0 := c_ladd (t / 1000) (0 : Int32).toInt64
  have a1 := c_ladd (t / 1000) (1 : Int32).toInt64
  have r0 := rng64 (t / 1000 + (0 : Int32).toInt64)
  have r1 := rng64 (t / 1000 + (1 : Int32).toInt64)
  unfold own_F1
  simp only []
  by_cases k : (t - (t / (1000 : Int64)) * (1000 : Int64)) = (0 : Int64)
  · simp only [if_pos k]
    have k' : (t - (t / (1000 : Int64)) * (1000 : Int64)).toInt = 0 := by rw [k, y0]
    simp only [Int64.lt_iff_toInt_lt, ← Int64.toInt_inj]
    repeat' split
    all_goals first | rfl | (exfalso; omega)
  · simp only [if_neg k]
    have k' : ¬ (t - (t / (1000 : Int64)) * (1000 : Int64)).toInt = 0 := fun q => k (Int64.toInt_inj.mp (by rw [q, y0]))
    simp only [Int64.lt_iff_toInt_lt, ← Int64.toInt_inj]
    repeat' split
    all_goals first | rfl | (exfalso; omega)
theorem own_one (u t : Int64) (ht : 0 ≤ t.toInt) :
    (if u = (-9223372036854775808 : Int64) then (1 : Int32) else
      if own_F1 u t = (if (t / (1000 : Int64)) < (u - (1 : Int64)) then (1 : Int32) else (if (t / (1000 : Int64)) = (u - (1 : Int64)) then (if (t - (t / (1000 : Int64)) * (1000 : Int64)) = (0 : Int64) then (1 : Int32) else (0 : Int32)) else (0 : Int32))) then (1 : Int32) else (0 : Int32)) = 1 := by
  by_cases h : u = (-9223372036854775808 : Int64)
  · rw [if_pos h]
  · rw [if_neg h, if_pos (own_core u t ht h)]
theorem own_mul {P Q : Int} (h : (P - Q) % 18446744073709551616 = 0) (h1 : -9223372036854775808 ≤ P) (h2 : P < 9223372036854775808) (h3 : 0 ≤ Q) (h4 : Q < 9223372036854775808) : P = Q := by omega
theorem own_big (q1 z : Int64) (hz : 0 ≤ z.toInt ∧ z.toInt ≤ 999) : 0 ≤ ((q1 &&& (140737488355327 : Int64)) * 1000 + z).toInt := by
  have m2 : (q1 &&& (140737488355327 : Int64)).toInt = q1.toInt % (2 ^ 47 : Nat) := c_maskL q1 140737488355327 47 (by decide) (by decide)
  have b0 : 0 ≤ (q1 &&& (140737488355327 : Int64)).toInt := by rw [m2]; exact Int.emod_nonneg _ (by decide)
  have b1 : (q1 &&& (140737488355327 : Int64)).toInt < 140737488355328 := by rw [m2]; exact Int.emod_lt_of_pos _ (by decide)
  have yk : (1000 : Int64).toInt = 1000 := by decide
  have m3 := c_lmul (q1 &&& (140737488355327 : Int64)) 1000
  rw [yk] at m3
  have r3 := rng64 ((q1 &&& (140737488355327 : Int64)) * 1000)
  have e3 := own_mul m3 r3.1 r3.2 (by omega) (by omega)
  have a := c_ladd ((q1 &&& (140737488355327 : Int64)) * 1000) z
  have r := rng64 ((q1 &&& (140737488355327 : Int64)) * 1000 + z)
  rw [e3] at a
  rw [own_mul a r.1 r.2 (by omega) (by omega)]
  omega
theorem own_plain (q0 q1 : Int64) (p2 : Int32) : own_F0 q0 q1 p2 = 1 := by
  unfold own_F0
  by_cases h : (((p2.toUInt32 >>> ((2 : Int32) &&& 31).toUInt32).toInt32) &&& (3 : Int32)) = (3 : Int32)
  · simp only []
    rw [if_pos h]
    refine own_one _ _ ?_
    have m1 : (q1 &&& (9223372036854775807 : Int64)).toInt = q1.toInt % (2 ^ 63 : Nat) := c_maskL q1 9223372036854775807 63 (by decide) (by decide)
    omega
  · simp only []
    rw [if_neg h]
    refine own_one _ _ (own_big _ _ ?_)
    split
    · decide
    · split <;> decide

set_option maxRecDepth 65536 in
set_option maxHeartbeats 40000000 in
theorem comes_1 {Post : Tables → Env → Array Value → State → Outcome → State → Prop} (hpost : ∀ tb e args s v u, (limb_1_1.after args s (.returned v) u = true ∧ limb_1_2.after args s (.returned v) u = true ∧ True) → FrameEnd s (.returned v) u (Jvm.fieldLocs frame_1_writes args s ++ Jvm.arrayLocs frame_1_arrays args s ++ Jvm.staticLocs frame_1_statics s) 0 0 → Post tb e args s (.returned v) u) :
    ArmFor flags0 classFile x code maxLocals ret World_1 tables_1 room_1 Calls_1 rest_1 Pre_1 Post := by
  intro l hfl _ _ p e ha hc hk s m args below hf hA hF happ hP
  obtain ⟨hcalls, hrest, hpre⟩ := hP
  obtain ⟨-, -, -, hnamed, -, -, -, hat⟩ := (Spec.applies_iff hf).mp happ
  obtain ⟨hg, hn⟩ := and_e (Cond.before_iff.mp (show (Jvm.Cond.and given_1 narrow_1).before args s = true from hpre))
  obtain ⟨g1, g2⟩ := and_e hg
  obtain ⟨ga0, gb0⟩ := and_e g2
  obtain ⟨ga1, gb1⟩ := and_e gb0
  obtain ⟨w0, w1, w2, rfl⟩ : ∃ w0 w1 w2 : Value, args = #[w0, w1, w2] := by
    have hs : args.size = 3 := by simpa [Cond.value, given_1] using g1
    obtain ⟨L⟩ := args
    match L, hs with
    | [w0, w1, w2], _ => exact ⟨w0, w1, w2, rfl⟩
  have hw := fun d (hd : d ∈ tables_1) => atoms_spec (ws := Jvm.Cond.code x code maxLocals ret :: tables_1) hat d (List.mem_cons_of_mem _ hd)
  obtain ⟨i0, ei0⟩ := isL_v ga0
  obtain rfl : w0 = (.long i0) := Option.some.inj ei0
  obtain ⟨i1, ei1⟩ := isL_v ga1
  obtain rfl : w1 = (.long i1) := Option.some.inj ei1
  obtain ⟨i2, ei2⟩ := is_v gb1
  obtain rfl : w2 = (.int i2) := Option.some.inj ei2
  obtain ⟨n, o, h1, h2, h3, _, L, rfl, ⟨hv, N⟩, hq⟩ := own_rm0 l s _ hw tables_1 i0 i1 i2 s.heap s.heap.size (Nat.le_refl _) p e ha hc hk s m _ below hf ((Spec.applies_iff_loose hf).mp happ).1 ⟨rfl, State.Warmed39.refl s, rfl⟩ trivial
  rw [own_plain i0 i1 i2] at hv
  subst hv
  refine ⟨n, _, h1, h2, h3, hpost _ _ _ _ _ _ ⟨Cond.after_iff.mpr rfl, Cond.after_iff.mpr (eq_i res_at (Term.int_eval (1)) rfl), trivial⟩ ⟨hq.1, hq.2.1, (hq.2.2.sift fun y hy => Or.inr (N y hy)).mono (by decide) (by decide)⟩⟩
theorem main_1_1 : Claimed_1_1 := comes_1 fun _ _ _ _ _ _ h hF => ⟨h.1, hF⟩
theorem main_1_2 : Claimed_1_2 := comes_1 fun _ _ _ _ _ _ h hF => ⟨h.2.1, hF⟩
end Jvm.Pilot.@@N@@
namespace Jvm.Pilot.@@N@@
open Jvm Jvm.ClassFile Sem Op Lib Jvm.Free Jvm.Stand Jvm.Pilot.@@N@@.Jvm.D
/-! MADE BY PROGRAM (witnessworld.py) out of the Statement's table words and the real class files: 9 classes; the members and pool entries that the words name. The judged class is class 1, her method 1. -/
namespace start1
open Jvm.ClassFile
def u (s : String) : CpInfo := .utf8 (stringToUtf16 s)
/-- a pool by its gaps: so many unusable entries, then the entry; so many at the end -/
def gap : Nat → List CpInfo → List CpInfo
  | 0, r => r
  | n + 1, r => .unusable :: gap n r
def poolList (es : List (Nat × CpInfo)) (last : Nat) : List CpInfo := es.foldr (fun e r => gap e.1 (e.2 :: r)) (gap last [])
def pool (es : List (Nat × CpInfo)) (last : Nat) : Array CpInfo := ⟨poolList es last⟩
def fileOf (pool : Array CpInfo) (this : Nat) (attrs : Array Attribute := #[]) (ms : Array MethodInfo := #[]) (fl : Nat := 33) (sup : Nat := 0) (ifs : Array Nat := #[]) (fds : Array FieldInfo := #[]) : ClassFile where
  minorVersion := 0
  majorVersion := 65
  constantPool := pool
  accessFlags := fl
  thisClass := this
  superClass := sup
  interfaces := ifs
  fields := fds
  methods := ms
  attributes := attrs
def plain (name : String) (sup : Option ClassId) : Class where
  name := name
  kind := .ordinary
  loader := none
  accessFlags := 33
  super := sup
  interfaces := #[]
  cf := none
  fields := #[]
  methods := #[]
  instanceTypes := #[]
  staticTypes := #[]
  resolved := #[]
  callSites := []
  init := .initialized
  statics := none
  mirror := none

def pool0 : Array CpInfo := pool [(5, u "<init>"), (0, u "()V"), (1, .class_ 10), (1, u "java/lang/Object")] 113

def k0m0 : Method := { name := "<init>", desc := "()V", sig := { parameters := [], returnType := none }, accessFlags := 1, code := none }
/-- java/lang/Object -/
def k0 : Class := { plain "java/lang/Object" none with
  accessFlags := 33
  interfaces := #[]
  cf := some (fileOf pool0 8 #[] #[{ accessFlags := 1, nameIndex := 5, descriptorIndex := 6, attributes := #[] }] 33 0 #[] #[])
  fields := #[]
  methods := #[k0m0]
  instanceTypes := #[]
  staticTypes := #[]
  resolved := Array.replicate 124 none
  statics := none }

def pool1 : Array CpInfo := pool [(2, .class_ 4), (1, u "java/lang/Object"), (0, u "<init>"), (0, u "()V"), (2, .long 9223372036854775807), (1, .long 140737488355327), (1, .long 1000), (1, .long 999), (1, .long 9223372036854775808), (1, .methodref 20 21), (0, .class_ 22), (0, .nameAndType 23 24), (0, u "com/example/dibs/dibs/Quorum"), (0, u "upLongerThan"), (0, u "(JJ)Z"), (0, .class_ 26), (0, u "com/example/dibs/dibs/QuorumUpLongerThanPinLaw"), (2, u "law"), (0, u "(JJI)Z")] 3

def k1m0 : Method := { name := "<init>", desc := "()V", sig := { parameters := [], returnType := none }, accessFlags := 2, code := none }
def k1c1 : Code := { maxStack := 6, maxLocals := 18, code := code, exceptionTable := #[], attributes := #[] }
def k1m1 : Method := { name := "law", desc := "(JJI)Z", sig := { parameters := [.long, .long, .int], returnType := some .boolean }, accessFlags := 9, code := some k1c1 }
/-- com/example/dibs/dibs/QuorumUpLongerThanPinLaw -/
def k1 : Class := { plain "com/example/dibs/dibs/QuorumUpLongerThanPinLaw" (some 0) with
  accessFlags := 49
  interfaces := #[]
  cf := some (fileOf pool1 25 #[] #[{ accessFlags := 2, nameIndex := 5, descriptorIndex := 6, attributes := #[] }, { accessFlags := 9, nameIndex := 29, descriptorIndex := 30, attributes := #[] }] 49 2 #[] #[])
  fields := #[]
  methods := #[k1m0, k1m1]
  instanceTypes := #[]
  staticTypes := #[]
  resolved := Array.replicate 34 none
  statics := none }

def pool2 : Array CpInfo := pool [(2, .class_ 4), (1, u "java/lang/Object"), (0, u "<init>"), (0, u "()V"), (10, .class_ 19), (1, u "com/example/dibs/dibs/Quorum"), (13, .long 1000), (14, u "upLongerThan"), (0, u "(JJ)Z")] 21

def k2m0 : Method := { name := "<init>", desc := "()V", sig := { parameters := [], returnType := none }, accessFlags := 2, code := none }
def k2c1 : Code := { maxStack := 6, maxLocals := 6, code := prog_11_method_5_code, exceptionTable := #[], attributes := #[] }
def k2m1 : Method := { name := "upLongerThan", desc := "(JJ)Z", sig := { parameters := [.long, .long], returnType := some .boolean }, accessFlags := 8, code := some k2c1 }
/-- com/example/dibs/dibs/Quorum -/
def k2 : Class := { plain "com/example/dibs/dibs/Quorum" (some 0) with
  accessFlags := 32
  interfaces := #[]
  cf := some (fileOf pool2 17 #[] #[{ accessFlags := 2, nameIndex := 5, descriptorIndex := 6, attributes := #[] }, { accessFlags := 8, nameIndex := 48, descriptorIndex := 49, attributes := #[] }] 32 2 #[] #[])
  fields := #[]
  methods := #[k2m0, k2m1]
  instanceTypes := #[]
  staticTypes := #[]
  resolved := Array.replicate 71 none
  statics := none }

def pool3 : Array CpInfo := pool [(1, u "java/lang/Cloneable"), (0, .class_ 1), (0, u "java/lang/Object"), (0, .class_ 3)] 3

/-- java/lang/Cloneable -/
def k3 : Class := { plain "java/lang/Cloneable" (some 0) with
  accessFlags := 1537
  interfaces := #[]
  cf := some (fileOf pool3 2 #[] #[] 1537 4 #[] #[])
  fields := #[]
  methods := #[]
  instanceTypes := #[]
  staticTypes := #[]
  resolved := Array.replicate 8 none
  statics := none }

def pool4 : Array CpInfo := pool [(1, u "java/io/Serializable"), (0, .class_ 1), (0, u "java/lang/Object"), (0, .class_ 3)] 3

/-- java/io/Serializable -/
def k4 : Class := { plain "java/io/Serializable" (some 0) with
  accessFlags := 1537
  interfaces := #[]
  cf := some (fileOf pool4 2 #[] #[] 1537 4 #[] #[])
  fields := #[]
  methods := #[]
  instanceTypes := #[]
  staticTypes := #[]
  resolved := Array.replicate 8 none
  statics := none }

/-- the primitive byte -/
def k5 : Class := { plain "byte" none with kind := .primitive 'B', accessFlags := 0x411 }
/-- [B -/
def k6 : Class := { plain "[B" (some 0) with kind := .array 5 .byte, interfaces := #[3, 4], accessFlags := 1041 }

/-- the primitive int -/
def k7 : Class := { plain "int" none with kind := .primitive 'I', accessFlags := 0x411 }
/-- [I -/
def k8 : Class := { plain "[I" (some 0) with kind := .array 7 .int, interfaces := #[3, 4], accessFlags := 1041 }

def heap : Heap := #[]
def classes : Array Class := #[k0, k1, k2, k3, k4, k5, k6, k7, k8]
def interned : List (Array UInt16 × Addr) := []
def slotsUsed : Nat := 0
def theMethod : MethodId := ⟨1, 1⟩
def args0 : Array Value := #[.long 5, .long 5, .int 5]
def aboutOver (below : List Frame) : State where
  vm := { classes := classes, interned := interned.toArray }
  heap := heap
  slotsUsed := slotsUsed
  threads := #[{ frames := .invoking theMethod args0 :: below }]
def below0 : List Frame := [.native { method := ⟨0, 0⟩, args := #[] }]
def about1 : State := aboutOver below0
def p0 : Program := .bare "" "" ""
def e0 : Env := launch0.env 0 0 0
theorem w_frames : about1.frames = Frame.invoking theMethod args0 :: below0 := rfl
set_option maxRecDepth 65536 in
theorem w_args : argsFit about1.vm theMethod args0 = true := by decide +kernel
set_option maxRecDepth 65536 in
theorem w_heap : heapFits about1 = true := by decide +kernel
set_option maxRecDepth 65536 in
theorem w_runnable : about1.curStatus? = some .runnable := by decide +kernel
set_option maxRecDepth 65536 in
theorem w_alone : about1.alone = true := by decide +kernel
set_option maxRecDepth 65536 in
theorem w_named : about1.methodNamed? x = some theMethod := by decide +kernel
set_option maxRecDepth 65536 in
theorem w_hears : about1.hears theMethod below0 = true := by decide +kernel
set_option maxRecDepth 65536 in
theorem w_ripe : about1.ripe theMethod args0 below0 = true := by decide +kernel
theorem w_running : about1.status = .running := rfl
set_option maxRecDepth 65536 in
theorem w_room : about1.hasRoom e0.platform room_1 = true :=
  launch0.hasRoom_least _ room_1 (by decide +kernel) (by decide +kernel) (by decide +kernel) (by decide +kernel) (by decide +kernel) (by decide +kernel)
theorem allAtoms_all (ts : List Jvm.Cond) (a : Array Jvm.Value) (st : Jvm.State) : (allAtoms ts).before a st = ts.all (fun c => c.before a st) := by
  induction ts with
  | nil => rfl
  | cons c t ih =>
    show (Jvm.Cond.and c (allAtoms t)).before a st = _
    rw [Jvm.Cond.before_and, ih, List.all_cons]
def words1 : List Jvm.Cond := Jvm.Cond.code x code maxLocals ret :: tables_1
/-- a 'code' word, met by the world's own term for the bytes: nothing is compared byte by byte -/
theorem code_word {y : MethodName} {bytes : ByteArray} {mx : Nat} {rt : Option FieldType} {a : Array Value} {s : State} {m : MethodId} {meth : Method} {c : Code} (h1 : s.methodNamed? y = some m) (h2 : s.vm.method? m = some meth) (h3 : meth.code = some c) (h4 : c.code = bytes)
    (h5 : (c.maxLocals == mx && c.exceptionTable.isEmpty && decide (c.maxStack ≤ mostOperands) && decide (meth.sig.returnType = rt) && !meth.locks && decide (parseMethodDescriptor y.desc = some meth.sig)) = true) : (Jvm.Cond.code y bytes mx rt).before a s = true := by
  simp only [Bool.and_eq_true, beq_iff_eq, Bool.not_eq_true', decide_eq_true_eq] at h5
  obtain ⟨⟨⟨⟨⟨g1, g2⟩, g3⟩, g4⟩, g5⟩, g6⟩ := h5
  simp [Cond.before, Cond.holds, Cond.value, h1, h2, h3, h4, g1, g2, g3, g4, g5, g6]
def isCode : Jvm.Cond → Bool
  | .code _ _ _ _ => true
  | _ => false
theorem all_split {L : List Jvm.Cond} {P : Jvm.Cond → Bool} (h1 : L.all (fun c => isCode c || P c) = true) (h2 : ∀ c ∈ L.filter isCode, P c = true) : L.all P = true := by
  refine List.all_eq_true.mpr fun c hc => ?_
  have h := List.all_eq_true.mp h1 c hc
  rcases Bool.eq_false_or_eq_true (isCode c) with hi | hi
  · exact h2 c (List.mem_filter.mpr ⟨hc, hi⟩)
  · simpa [hi] using h
set_option maxRecDepth 65536 in
theorem w_c0 : (Jvm.Cond.code x code maxLocals ret).before args0 about1 = true := code_word (m := ⟨1, 1⟩) (meth := k1m1) (c := k1c1) (by decide +kernel) rfl rfl rfl (by decide +kernel)
set_option maxRecDepth 65536 in
theorem w_c1 : (Jvm.Cond.code ({ cls := "com/example/dibs/dibs/Quorum", name := "upLongerThan", desc := "(JJ)Z" } : Jvm.MethodName) prog_11_method_5_code (6 : Nat) (Option.some Jvm.ClassFile.FieldType.boolean)).before args0 about1 = true := code_word (m := ⟨2, 1⟩) (meth := k2m1) (c := k2c1) (by decide +kernel) rfl rfl rfl (by decide +kernel)
def codes1 : List Jvm.Cond := [Jvm.Cond.code x code maxLocals ret, Jvm.Cond.code ({ cls := "com/example/dibs/dibs/Quorum", name := "upLongerThan", desc := "(JJ)Z" } : Jvm.MethodName) prog_11_method_5_code (6 : Nat) (Option.some Jvm.ClassFile.FieldType.boolean)]
set_option maxRecDepth 65536 in
theorem codes_eq : words1.filter isCode = codes1 := rfl
theorem w_codes : ∀ c ∈ words1.filter isCode, c.before args0 about1 = true := by
  rw [codes_eq]
  intro c hc
  simp only [codes1, List.mem_cons, List.not_mem_nil, or_false] at hc
  rcases hc with rfl | rfl
  · exact w_c0
  · exact w_c1
set_option maxRecDepth 65536 in
theorem w_t1 : words1.all (fun c => isCode c || c.before args0 about1) = true := by decide +kernel
theorem w_tables : (allAtoms (Jvm.Cond.code x code maxLocals ret :: tables_1)).before args0 about1 = true := by
  rw [allAtoms_all]
  show words1.all (fun c => c.before args0 about1) = true
  refine all_split ?_ w_codes
  rw [w_t1]
set_option maxRecDepth 65536 in
theorem w_case : (Jvm.Cond.and given_1 narrow_1).before args0 about1 = true := by decide +kernel
theorem w_applies : (headSpec (Jvm.Cond.code x code maxLocals ret :: tables_1) room_1).applies x e0.platform about1 = true :=
  (Spec.applies_iff w_frames).mpr ⟨w_running, w_runnable, w_alone, w_named, w_hears, w_ripe, w_room, w_tables⟩
theorem atStart : AtStart classFile x code maxLocals ret World_1 tables_1 room_1 Calls_1 rest_1 Pre_1 launch0 p0 e0 about1 theMethod args0 below0 :=
  ⟨lists_1, trivial, launch0.admits_env _ _ _, launch0.least_env, fairChoices_fair.cas, fairChoices_fair.clock, w_frames, w_args, w_heap, w_applies, trivial, trivial, w_case⟩
end start1
theorem witness_1 : WitnessClaimed_1 := ⟨start1.p0, start1.e0, start1.about1, start1.theMethod, start1.args0, start1.below0, start1.atStart⟩
end Jvm.Pilot.@@N@@
