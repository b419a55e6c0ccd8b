import JvmDerived
import JvmDerived.Pilot.@@N@@Statement
import JvmDerived.Pilot.@@N@@Code
set_option linter.unusedVariables false
set_option linter.unusedSimpArgs false
namespace Jvm.RoadKit
open Sem ClassFile Op Lib Jvm.Stand Jvm.Free Jvm.LawKit
section New
variable {p : Program} {l : Launch} {e : Env} {R : Room} {s : State} {m : MethodId} {args : Array Value} {below : List Frame} {meth : Method} {c : Code} {T : State} {locs : List Loc} {cells slots : Nat}
theorem retI (X : Stand p l e R s m args below meth c T locs cells slots) (hx : p.tables.exec = Jvm.exec) {pc : Nat} {Ls : Array Slot} {z : Int32} {rest : List Value} (hret : meth.sig.returnType = some .int) (hd : decode c.code pc = .ok (.ireturn, 1)) {fs : List Frame}
    (hl : ∀ (f : JFrame) (acts : List Action), f.method = m → f.locked = none → f.entered = [] → (doReturn e (T.setTop f) acts (some (.int z))).1 = T.setFrames fs) : Steps p.tables e below (T.setTop (mkF m pc Ls (.int z :: rest))) (T.setFrames fs) := by
  have hm' : T.vm.method? m = some meth := X.method'
  have hn : narrow .int (.int z) = .int z := rfl
  show Steps p.tables e below (T.setTop { method := m, pc := pc, locals := Ls, stack := _ :: rest, locked := none }) _
  jvm_step X.here [X.here.top, hx, hd, hm', hret, hn]
  first | (intro acts; rw [hl _ acts rfl rfl rfl]) | rw [hl _ _ rfl rfl rfl]
  exact Steps.refl _
theorem retJ (X : Stand p l e R s m args below meth c T locs cells slots) (hx : p.tables.exec = Jvm.exec) {pc : Nat} {Ls : Array Slot} {z : Int64} {rest : List Value} (hret : meth.sig.returnType = some .long) (hd : decode c.code pc = .ok (.lreturn, 1)) {fs : List Frame}
    (hl : ∀ (f : JFrame) (acts : List Action), f.method = m → f.locked = none → f.entered = [] → (doReturn e (T.setTop f) acts (some (.long z))).1 = T.setFrames fs) : Steps p.tables e below (T.setTop (mkF m pc Ls (.long z :: rest))) (T.setFrames fs) := by
  have hm' : T.vm.method? m = some meth := X.method'
  show Steps p.tables e below (T.setTop { method := m, pc := pc, locals := Ls, stack := _ :: rest, locked := none }) _
  jvm_step X.here [X.here.top, hx, hd, hm', hret]
  first | (intro acts; rw [hl _ acts rfl rfl rfl]) | rw [hl _ _ rfl rfl rfl]
  exact Steps.refl _
theorem retR (X : Stand p l e R s m args below meth c T locs cells slots) (hx : p.tables.exec = Jvm.exec) {pc : Nat} {Ls : Array Slot} {z : Addr} {t : FieldType} {rest : List Value} (hret : meth.sig.returnType = some t) (ht : t.isReference = true) (hd : decode c.code pc = .ok (.areturn, 1)) {fs : List Frame}
    (hl : ∀ (f : JFrame) (acts : List Action), f.method = m → f.locked = none → f.entered = [] → (doReturn e (T.setTop f) acts (some (.ref z))).1 = T.setFrames fs) : Steps p.tables e below (T.setTop (mkF m pc Ls (.ref z :: rest))) (T.setFrames fs) := by
  have hm' : T.vm.method? m = some meth := X.method'
  show Steps p.tables e below (T.setTop { method := m, pc := pc, locals := Ls, stack := _ :: rest, locked := none }) _
  jvm_step X.here [X.here.top, hx, hd, hm', hret, Value.isRef, ht]
  first | (intro acts; rw [hl _ acts rfl rfl rfl]) | rw [hl _ _ rfl rfl rfl]
  exact Steps.refl _
end New
end Jvm.RoadKit
namespace Jvm.Pilot.@@N@@
open Jvm Jvm.ClassFile Sem Op Lib Jvm.Free Jvm.Stand Jvm.LawKit Jvm.RoadKit Bundle Jvm.Pilot.@@N@@.Jvm.D
/-- from the frame g, where T stands, the body comes to its end, and its end is as QQ says -/
def own_End (p : Program) (e : Env) (below : List Frame) (s : State) (QQ : Option Value → Heap → List Loc → Prop) (rc rs : Nat) (T : State) (g : JFrame) : Prop :=
  ∃ s₂ o, Steps p.tables e below (T.setTop g) s₂ ∧ s₂.status = .running ∧ Ended s₂ below o ∧ ∃ v L, o = .returned v ∧ QQ v s₂.heap L ∧ FrameEnd s o s₂ L rc rs
section Own
variable {p : Program} {l : Launch} {e : Env} {R : Room} {s : State} {m : MethodId} {args : Array Value} {below : List Frame} {meth : Method} {c : Code} {T T' : State} {locs : List Loc} {cells slots : Nat} {QQ : Option Value → Heap → List Loc → Prop} {rc rs : Nat}
theorem own_End.go {g g' : JFrame} (st : ∀ t, Steps p.tables e below (T'.setTop g') t → Steps p.tables e below (T.setTop g) t) (h : own_End p e below s QQ rc rs T' g') : own_End p e below s QQ rc rs T g := by
  obtain ⟨s2, o, a, b⟩ := h
  exact ⟨s2, o, st _ a, b⟩
theorem own_leafI (X : Stand p l e R s m args below meth c T locs cells slots) (hx : p.tables.exec = Jvm.exec) (hk : meth.locks = false) {pc : Nat} {Ls : Array Slot} {z : Int32} {rest : List Value} (hret : meth.sig.returnType = some .int) (hd : decode c.code pc = .ok (.ireturn, 1)) (hq : QQ (some (.int z)) T.heap locs) (h1 : cells ≤ rc) (h2 : slots ≤ rs) : own_End p e below s QQ rc rs T (mkF m pc Ls (.int z :: rest)) := by
  obtain ⟨fs, hr, hrun, hended, hW, hsame⟩ := X.leave (v := some (.int z)) (fun h => by rw [hret] at h; cases h) hk
  exact ⟨_, _, retI X hx hret hd hr, hrun, hended, _, _, rfl, hq, ⟨_, rfl⟩, hW, hsame.mono h1 h2⟩
theorem own_leafN (X : Stand p l e R s m args below meth c T locs cells slots) (hx : p.tables.exec = Jvm.exec) (hk : meth.locks = false) {pc : Nat} {Ls : Array Slot} {z : Int32} {t : FieldType} {rest : List Value} (hret : meth.sig.returnType = some t) (ht : t = .boolean ∨ t = .byte ∨ t = .char ∨ t = .short) (hd : decode c.code pc = .ok (.ireturn, 1)) (hq : QQ (some (.int (nar t z))) T.heap locs) (h1 : cells ≤ rc) (h2 : slots ≤ rs) : own_End p e below s QQ rc rs T (mkF m pc Ls (.int z :: rest)) := by
  obtain ⟨fs, hr, hrun, hended, hW, hsame⟩ := X.leave (v := some (.int (nar t z))) (fun h => by rw [hret] at h; cases h) hk
  exact ⟨_, _, retN X hx hret ht hd hr, hrun, hended, _, _, rfl, hq, ⟨_, rfl⟩, hW, hsame.mono h1 h2⟩
theorem own_leafJ (X : Stand p l e R s m args below meth c T locs cells slots) (hx : p.tables.exec = Jvm.exec) (hk : meth.locks = false) {pc : Nat} {Ls : Array Slot} {z : Int64} {rest : List Value} (hret : meth.sig.returnType = some .long) (hd : decode c.code pc = .ok (.lreturn, 1)) (hq : QQ (some (.long z)) T.heap locs) (h1 : cells ≤ rc) (h2 : slots ≤ rs) : own_End p e below s QQ rc rs T (mkF m pc Ls (.long z :: rest)) := by
  obtain ⟨fs, hr, hrun, hended, hW, hsame⟩ := X.leave (v := some (.long z)) (fun h => by rw [hret] at h; cases h) hk
  exact ⟨_, _, retJ X hx hret hd hr, hrun, hended, _, _, rfl, hq, ⟨_, rfl⟩, hW, hsame.mono h1 h2⟩
theorem own_leafR (X : Stand p l e R s m args below meth c T locs cells slots) (hx : p.tables.exec = Jvm.exec) (hk : meth.locks = false) {pc : Nat} {Ls : Array Slot} {z : Addr} {t : FieldType} {rest : List Value} (hret : meth.sig.returnType = some t) (ht : t.isReference = true) (hd : decode c.code pc = .ok (.areturn, 1)) (hq : QQ (some (.ref z)) T.heap locs) (h1 : cells ≤ rc) (h2 : slots ≤ rs) : own_End p e below s QQ rc rs T (mkF m pc Ls (.ref z :: rest)) := by
  obtain ⟨fs, hr, hrun, hended, hW, hsame⟩ := X.leave (v := some (.ref z)) (fun h => by rw [hret] at h; cases h) hk
  exact ⟨_, _, retR X hx hret ht hd hr, hrun, hended, _, _, rfl, hq, ⟨_, rfl⟩, hW, hsame.mono h1 h2⟩
theorem own_leafV (X : Stand p l e R s m args below meth c T locs cells slots) (hx : p.tables.exec = Jvm.exec) (hk : meth.locks = false) {pc : Nat} {Ls : Array Slot} (hret : meth.sig.returnType = none) (hd : decode c.code pc = .ok (.return_, 1)) (hq : QQ none T.heap locs) (h1 : cells ≤ rc) (h2 : slots ≤ rs) : own_End p e below s QQ rc rs T (mkF m pc Ls []) := by
  obtain ⟨fs, hr, hrun, hended, hW, hsame⟩ := X.leave (v := none) (fun _ => rfl) hk
  exact ⟨_, _, X.returnOut hx hret hd hr, hrun, hended, _, _, rfl, hq, ⟨_, rfl⟩, hW, hsame.mono h1 h2⟩
/-- the same, where String constants may have been resolved meanwhile -/
def own_EndW (p : Program) (e : Env) (below : List Frame) (s : State) (QQ : Option Value → Heap → List Loc → Prop) (rc rs : Nat) (T : State) (g : JFrame) : Prop :=
  ∃ s₂ o, Steps p.tables e below (T.setTop g) s₂ ∧ s₂.status = .running ∧ Ended s₂ below o ∧ ∃ v L, o = .returned v ∧ QQ v s₂.heap L ∧ ReturnedEndW s o s₂ L rc rs
theorem own_EndW.go {g g' : JFrame} (st : ∀ t, Steps p.tables e below (T'.setTop g') t → Steps p.tables e below (T.setTop g) t) (h : own_EndW p e below s QQ rc rs T' g') : own_EndW p e below s QQ rc rs T g := by
  obtain ⟨s2, o, a, b⟩ := h
  exact ⟨s2, o, st _ a, b⟩
theorem own_leafNW {vm₁ : Vm} {n : Nat} (X : Stand p l e R (s.setVm vm₁) m args below meth c T locs cells slots) (hS : s.Since vm₁ n) (hn : n ≤ T.heap.size) (hx : p.tables.exec = Jvm.exec) (hk : meth.locks = false) {pc : Nat} {Ls : Array Slot} {z : Int32} {t : FieldType} {rest : List Value} (hret : meth.sig.returnType = some t) (ht : t = .boolean ∨ t = .byte ∨ t = .char ∨ t = .short) (hd : decode c.code pc = .ok (.ireturn, 1)) (hq : QQ (some (.int (nar t z))) T.heap locs) (h1 : cells ≤ rc) (h2 : slots ≤ rs) : own_EndW p e below s QQ rc rs T (mkF m pc Ls (.int z :: rest)) := by
  obtain ⟨fs, hr, hrun, hended, a, b, c', d⟩ := X.leaveW hS hn (v := some (.int (nar t z))) (fun h => by rw [hret] at h; cases h) hk
  exact ⟨_, _, retN X hx hret ht hd hr, hrun, hended, _, _, rfl, hq, a, b, c', d.mono h1 h2⟩
end Own
theorem own_nb0 : nar .boolean (0 : Int32) = 0 := by decide
theorem own_nb1 : nar .boolean (1 : Int32) = 1 := by decide
theorem own_oneif {P : Prop} [Decidable P] {x y : Slot} (hx : One x) (hy : One y) : One (if P then x else y) := by split <;> assumption

/-! arrays as lists; one step, one row -/
def own_IA (Z : State) (h : Heap) (a : Addr) (ty : FieldType) (L : List Int32) : Prop := ∃ k n, Arv Z h a k ty n (L.map Value.int) (.int 0) ∧ n.toInt = (L.length : Int)
def own_JA (Z : State) (h : Heap) (a : Addr) (L : List Int64) : Prop := ∃ k n, Arv Z h a k .long n (L.map Value.long) (.long 0) ∧ n.toInt = (L.length : Int)
theorem own_IA.keep {Z : State} {h h' : Heap} {a : Addr} {ty : FieldType} {L : List Int32} {ws : List Addr} (V : own_IA Z h a ty L) (K : Keep h h' ws) (q : a ∉ ws) : own_IA Z h' a ty L := by
  obtain ⟨k, n, A, e⟩ := V; exact ⟨k, n, A.keep K q, e⟩
theorem own_JA.keep {Z : State} {h h' : Heap} {a : Addr} {L : List Int64} {ws : List Addr} (V : own_JA Z h a L) (K : Keep h h' ws) (q : a ∉ ws) : own_JA Z h' a L := by
  obtain ⟨k, n, A, e⟩ := V; exact ⟨k, n, A.keep K q, e⟩
theorem own_IA.lt {Z : State} {h : Heap} {a : Addr} {ty : FieldType} {L : List Int32} (V : own_IA Z h a ty L) : a < h.size := by
  obtain ⟨k, n, A, e⟩ := V; exact A.lt
theorem own_JA.lt {Z : State} {h : Heap} {a : Addr} {L : List Int64} (V : own_JA Z h a L) : a < h.size := by
  obtain ⟨k, n, A, e⟩ := V; exact A.lt
theorem own_IA.len {Z : State} {h : Heap} {a : Addr} {ty : FieldType} {L : List Int32} (V : own_IA Z h a ty L) : (L.length : Int) < 2147483648 := by
  obtain ⟨k, n, A, e⟩ := V; have := rng32 n; omega
theorem own_keepE {h h' : Heap} (E : Ext h h') : Keep h h' [] := (Keep.refl h []).ext E
theorem own_extK {h h' : Heap} (K : Keep h h' []) : Ext h h' := ⟨K.1, fun x c q => K.2.1 x c q nin0⟩
theorem own_ne {h : Heap} {x y : Addr} (hx : x < h.size) (hy : h.size ≤ y) : x ≠ y := Nat.ne_of_lt (Nat.lt_of_lt_of_le hx hy)
theorem own_clamp {j : Int32} (h : 0 ≤ j.toInt) : j.toNatClampNeg = j.toInt.toNat := rfl
theorem own_lt0 {n : Int32} (h : 0 ≤ n.toInt) : ¬ n < 0 := by
  rw [Int32.lt_iff_toInt_lt]; have : (0 : Int32).toInt = 0 := by decide
  omega
theorem own_in {j : Int32} {n m : Nat} (hn : n = m) (h : 0 ≤ j.toInt ∧ j.toInt < (m : Int)) : 0 ≤ j.toInt ∧ j.toInt < (n : Int) := hn ▸ h
theorem own_mapD (L : List Int32) (i : Nat) : (L.map Value.int).getD i (.int 0) = .int (L.getD i 0) := by
  simp only [List.getD_eq_getElem?_getD, List.getElem?_map]; cases L[i]? <;> rfl
theorem own_mapDJ (L : List Int64) (i : Nat) : (L.map Value.long).getD i (.long 0) = .long (L.getD i 0) := by
  simp only [List.getD_eq_getElem?_getD, List.getElem?_map]; cases L[i]? <;> rfl
theorem own_mapS {α β : Type} (f : α → β) (L : List α) (i : Nat) (x : α) : (L.map f).set i (f x) = (L.set i x).map f := by
  induction L generalizing i with
  | nil => rfl
  | cons y L ih => cases i with
    | zero => rfl
    | succ i => simp only [List.map_cons, List.set_cons_succ, ih]
section Heap
variable {p : Program} {l : Launch} {e : Env} {R : Room} {s : State} {m : MethodId} {args : Array Value} {below : List Frame} {meth : Method} {c : Code} {T : State} {locs : List Loc} {cells slots : Nat} {Z : State} {a0 : Array Value} {h : Heap} {n0 : Nat}
/-- newarray of ints, bytes, booleans, chars, shorts -/
theorem own_newA (X : Stand p l e R s m args below meth c T locs cells slots) (hx : p.tables.exec = Jvm.exec) (hZ : Z.Warmed39 s.vm) {aty : ArrayType} {ty : FieldType} (hty : newarray.typeOf aty = ty) (w : (Cond.arrayClass ty).before a0 Z = true) (hd0 : defaultValue ty = .int 0) (eT : T.heap = h) {g : JFrame} (hg : g.method = m) (hd : decode c.code g.pc = .ok (.newarray aty, 2)) {n : Int32} {rest : List Value} (hs : g.stack = .int n :: rest)
    (len : Nat) (hn : n.toInt = len) {cap : Nat} (hcap : len ≤ cap) (hb : cap * 8 ≤ 536870912) (hc : cells + 1 ≤ R.cells) (hl : slots + cap ≤ R.slots) :
    ∃ T' h' a, Stand p l e R s m args below meth c T' locs (cells + 1) (slots + cap) ∧ T'.heap = h' ∧ Keep h h' [] ∧ h.size ≤ a ∧ own_IA Z h' a ty (List.replicate len 0) ∧
      ∀ target, Steps p.tables e below (T'.setTop { g with pc := g.pc + 2, stack := .ref a :: rest }) target → Steps p.tables e below (T.setTop g) target := by
  subst hty
  have h0 : ¬ n < 0 := own_lt0 (by omega)
  obtain ⟨T', h', cA, X', e', E, A, st⟩ := newP X hx hZ w eT hg hd hs h0 (cap := cap) (by show n.toInt.toNat ≤ cap; omega) hb hc hl
  refine ⟨T', h', h.size, X', e', own_keepE E, Nat.le_refl _, ⟨cA, n, ?_, ?_⟩, st⟩
  · have V := (Arv.new A h0).pad (pad_rep [] _ len)
    rw [hd0] at V
    simpa using V
  · simpa using hn
theorem own_newJ (X : Stand p l e R s m args below meth c T locs cells slots) (hx : p.tables.exec = Jvm.exec) (hZ : Z.Warmed39 s.vm) (w : (Cond.arrayClass .long).before a0 Z = true) (eT : T.heap = h) {g : JFrame} (hg : g.method = m) (hd : decode c.code g.pc = .ok (.newarray .long, 2)) {n : Int32} {rest : List Value} (hs : g.stack = .int n :: rest)
    (len : Nat) (hn : n.toInt = len) {cap : Nat} (hcap : len ≤ cap) (hb : cap * 8 ≤ 536870912) (hc : cells + 1 ≤ R.cells) (hl : slots + cap ≤ R.slots) :
    ∃ T' h' a, Stand p l e R s m args below meth c T' locs (cells + 1) (slots + cap) ∧ T'.heap = h' ∧ Keep h h' [] ∧ h.size ≤ a ∧ own_JA Z h' a (List.replicate len 0) ∧
      ∀ target, Steps p.tables e below (T'.setTop { g with pc := g.pc + 2, stack := .ref a :: rest }) target → Steps p.tables e below (T.setTop g) target := by
  have h0 : ¬ n < 0 := own_lt0 (by omega)
  obtain ⟨T', h', cA, X', e', E, A, st⟩ := newP X hx hZ (aty := .long) w eT hg hd hs h0 (cap := cap) (by show n.toInt.toNat ≤ cap; omega) hb hc hl
  refine ⟨T', h', h.size, X', e', own_keepE E, Nat.le_refl _, ⟨cA, n, ?_, ?_⟩, st⟩
  · have V := (Arv.new A h0).pad (pad_rep [] _ len)
    have hd0 : defaultValue (newarray.typeOf .long) = .long 0 := rfl
    rw [hd0] at V
    have V' : Arv Z h' h.size cA .long n ([] ++ List.replicate len (Value.long 0)) (.long 0) := V
    simpa using V'
  · simpa using hn
theorem own_bounds {Z : State} {h : Heap} {a : Addr} {cl : Cell} {n j : Int32} {len : Nat} (S : cl.slots.size = n.toNatClampNeg) (hn : n.toInt = (len : Int)) (hj : 0 ≤ j.toInt ∧ j.toInt < (len : Int)) : ¬ (j < 0 ∨ cl.slots.size ≤ j.toNatClampNeg) := by
  have hn' : n.toNatClampNeg = n.toInt.toNat := rfl
  have hj' : j.toNatClampNeg = j.toInt.toNat := rfl
  rintro (q | q)
  · exact own_lt0 hj.1 q
  · omega
theorem own_ialoadI (X : Stand p l e R s m args below meth c T locs cells slots) (hx : p.tables.exec = Jvm.exec) (hZ : Z.Warmed39 s.vm) (eT : T.heap = h) {a : Addr} {L : List Int32} (V : own_IA Z h a .int L) {j : Int32} (hj : 0 ≤ j.toInt ∧ j.toInt < (L.length : Int)) {g : JFrame} (hg : g.method = m) {rest : List Value} (hs : g.stack = .int j :: .ref a :: rest) (hd : decode c.code g.pc = .ok (.iaload, 1)) :
    ∀ target, Steps p.tables e below (T.setTop { g with pc := g.pc + 1, stack := .int (L.getD j.toInt.toNat 0) :: rest }) target → Steps p.tables e below (T.setTop g) target := by
  obtain ⟨k, n, ⟨cl, A, q1, S, q3, H, G⟩, hn⟩ := V
  have hb := own_bounds (Z := Z) (h := h) (a := a) S hn hj
  exact X.iaload hx (j := j) (v := .int (L.getD j.toInt.toNat 0)) (by rw [eT]; exact A.1) (State.isArrayOf_alike hZ.alike A.2.1) A.2.2 hb (H.at hb (own_mapD L _)) hg hs hd
theorem own_baloadB (X : Stand p l e R s m args below meth c T locs cells slots) (hx : p.tables.exec = Jvm.exec) (hZ : Z.Warmed39 s.vm) (eT : T.heap = h) {a : Addr} {L : List Int32} (V : own_IA Z h a .byte L) {j : Int32} (hj : 0 ≤ j.toInt ∧ j.toInt < (L.length : Int)) {g : JFrame} (hg : g.method = m) {rest : List Value} (hs : g.stack = .int j :: .ref a :: rest) (hd : decode c.code g.pc = .ok (.baload, 1)) :
    ∀ target, Steps p.tables e below (T.setTop { g with pc := g.pc + 1, stack := .int (L.getD j.toInt.toNat 0) :: rest }) target → Steps p.tables e below (T.setTop g) target := by
  obtain ⟨k, n, ⟨cl, A, q1, S, q3, H, G⟩, hn⟩ := V
  have hb := own_bounds (Z := Z) (h := h) (a := a) S hn hj
  exact X.baloadBytes hx (j := j) (v := .int (L.getD j.toInt.toNat 0)) (by rw [eT]; exact A.1) (State.isArrayOf_alike hZ.alike A.2.1) A.2.2 hb (H.at hb (own_mapD L _)) hg hs hd
theorem own_baloadZ (X : Stand p l e R s m args below meth c T locs cells slots) (hx : p.tables.exec = Jvm.exec) (hZ : Z.Warmed39 s.vm) (eT : T.heap = h) {a : Addr} {L : List Int32} (V : own_IA Z h a .boolean L) {j : Int32} (hj : 0 ≤ j.toInt ∧ j.toInt < (L.length : Int)) {g : JFrame} (hg : g.method = m) {rest : List Value} (hs : g.stack = .int j :: .ref a :: rest) (hd : decode c.code g.pc = .ok (.baload, 1)) :
    ∀ target, Steps p.tables e below (T.setTop { g with pc := g.pc + 1, stack := .int (L.getD j.toInt.toNat 0) :: rest }) target → Steps p.tables e below (T.setTop g) target := by
  obtain ⟨k, n, ⟨cl, A, q1, S, q3, H, G⟩, hn⟩ := V
  have hb := own_bounds (Z := Z) (h := h) (a := a) S hn hj
  exact X.baloadBooleans hx (j := j) (v := .int (L.getD j.toInt.toNat 0)) (by rw [eT]; exact A.1) (State.isArrayOf_alike hZ.alike A.2.1) A.2.2 hb (H.at hb (own_mapD L _)) hg hs hd
theorem own_laloadJ (X : Stand p l e R s m args below meth c T locs cells slots) (hx : p.tables.exec = Jvm.exec) (hZ : Z.Warmed39 s.vm) (eT : T.heap = h) {a : Addr} {L : List Int64} (V : own_JA Z h a L) {j : Int32} (hj : 0 ≤ j.toInt ∧ j.toInt < (L.length : Int)) {g : JFrame} (hg : g.method = m) {rest : List Value} (hs : g.stack = .int j :: .ref a :: rest) (hd : decode c.code g.pc = .ok (.laload, 1)) :
    ∀ target, Steps p.tables e below (T.setTop { g with pc := g.pc + 1, stack := .long (L.getD j.toInt.toNat 0) :: rest }) target → Steps p.tables e below (T.setTop g) target := by
  obtain ⟨k, n, ⟨cl, A, q1, S, q3, H, G⟩, hn⟩ := V
  have hb := own_bounds (Z := Z) (h := h) (a := a) S hn hj
  exact X.laload hx (j := j) (v := .long (L.getD j.toInt.toNat 0)) (by rw [eT]; exact A.1) (State.isArrayOf_alike hZ.alike A.2.1) A.2.2 hb (H.at hb (own_mapDJ L _)) hg hs hd
theorem own_lenI (X : Stand p l e R s m args below meth c T locs cells slots) (hx : p.tables.exec = Jvm.exec) (hZ : Z.Warmed39 s.vm) (eT : T.heap = h) {a : Addr} {ty : FieldType} {L : List Int32} (V : own_IA Z h a ty L) {g : JFrame} (hg : g.method = m) {rest : List Value} (hs : g.stack = .ref a :: rest) (hd : decode c.code g.pc = .ok (.arraylength, 1)) :
    ∀ target, Steps p.tables e below (T.setTop { g with pc := g.pc + 1, stack := .int (Int32.ofNat L.length) :: rest }) target → Steps p.tables e below (T.setTop g) target := by
  have hl := V.len
  obtain ⟨k, n, ⟨cl, A, q1, S, q3, H, G⟩, hn⟩ := V
  intro t k
  refine X.arraylength hx (by rw [eT]; exact A.1) (State.isArrayOf_alike hZ.alike A.2.1) hg hs hd t ?_
  rw [len_of S q3]
  have e : n = Int32.ofNat L.length := by
    rw [← Int32.toInt_inj, Int32.toInt_ofNat_of_lt (by omega)]; exact hn
  rw [e]; exact k
theorem own_lenJ (X : Stand p l e R s m args below meth c T locs cells slots) (hx : p.tables.exec = Jvm.exec) (hZ : Z.Warmed39 s.vm) (eT : T.heap = h) {a : Addr} {L : List Int64} (V : own_JA Z h a L) {g : JFrame} (hg : g.method = m) {rest : List Value} (hs : g.stack = .ref a :: rest) (hd : decode c.code g.pc = .ok (.arraylength, 1)) :
    ∀ target, Steps p.tables e below (T.setTop { g with pc := g.pc + 1, stack := .int (Int32.ofNat L.length) :: rest }) target → Steps p.tables e below (T.setTop g) target := by
  obtain ⟨k, n, ⟨cl, A, q1, S, q3, H, G⟩, hn⟩ := V
  have hl := rng32 n
  intro t k
  refine X.arraylength hx (by rw [eT]; exact A.1) (State.isArrayOf_alike hZ.alike A.2.1) hg hs hd t ?_
  rw [len_of S q3]
  have e : n = Int32.ofNat L.length := by
    rw [← Int32.toInt_inj, Int32.toInt_ofNat_of_lt (by omega)]; exact hn
  rw [e]; exact k
theorem own_iastoreI (X : Stand p l e R s m args below meth c T locs cells slots) (hx : p.tables.exec = Jvm.exec) (hZ : Z.Warmed39 s.vm) (N : Fr n0 locs) (eT : T.heap = h) {a : Addr} {L : List Int32} (V : own_IA Z h a .int L) {j x : Int32} (hj : 0 ≤ j.toInt ∧ j.toInt < (L.length : Int)) (ha : n0 ≤ a) {g : JFrame} (hg : g.method = m) {rest : List Value} (hs : g.stack = .int x :: .int j :: .ref a :: rest) (hd : decode c.code g.pc = .ok (.iastore, 1)) :
    ∃ T' h' locs', Stand p l e R s m args below meth c T' locs' cells slots ∧ Fr n0 locs' ∧ T'.heap = h' ∧ Keep h h' [a] ∧ own_IA Z h' a .int (L.set j.toInt.toNat x) ∧
      ∀ target, Steps p.tables e below (T'.setTop { g with pc := g.pc + 1, stack := rest }) target → Steps p.tables e below (T.setTop g) target := by
  obtain ⟨k, n, ⟨cl, A, q1, S, q3, H, G⟩, hn⟩ := V
  have hb := own_bounds (Z := Z) (h := h) (a := a) S hn hj
  obtain ⟨T', h', X', e', W, st⟩ := stI X hx hZ eT A (j := j) hb hg hs hd
  have V' := Arv.set A q1 S q3 H G (v := .int x) rfl W j.toInt.toNat rfl (by simp only [List.length_map]; omega)
  rw [own_mapS] at V'
  exact ⟨T', h', _, X', Fr.snoc X' N ha, e', Keep.of_wr W, ⟨k, n, V', by simpa using hn⟩, st⟩
theorem own_bastoreB (X : Stand p l e R s m args below meth c T locs cells slots) (hx : p.tables.exec = Jvm.exec) (hZ : Z.Warmed39 s.vm) (N : Fr n0 locs) (eT : T.heap = h) {a : Addr} {L : List Int32} (V : own_IA Z h a .byte L) {j x : Int32} (hj : 0 ≤ j.toInt ∧ j.toInt < (L.length : Int)) (ha : n0 ≤ a) {g : JFrame} (hg : g.method = m) {rest : List Value} (hs : g.stack = .int x :: .int j :: .ref a :: rest) (hd : decode c.code g.pc = .ok (.bastore, 1)) :
    ∃ T' h' locs', Stand p l e R s m args below meth c T' locs' cells slots ∧ Fr n0 locs' ∧ T'.heap = h' ∧ Keep h h' [a] ∧ own_IA Z h' a .byte (L.set j.toInt.toNat (nar .byte x)) ∧
      ∀ target, Steps p.tables e below (T'.setTop { g with pc := g.pc + 1, stack := rest }) target → Steps p.tables e below (T.setTop g) target := by
  obtain ⟨k, n, ⟨cl, A, q1, S, q3, H, G⟩, hn⟩ := V
  have hb := own_bounds (Z := Z) (h := h) (a := a) S hn hj
  obtain ⟨T', h', X', e', W, st⟩ := stB X hx hZ eT A (j := j) hb hg hs hd
  have V' := Arv.set A q1 S q3 H G (v := .int (nar .byte x)) (fits_nar_byte _) W j.toInt.toNat rfl (by simp only [List.length_map]; omega)
  rw [own_mapS] at V'
  exact ⟨T', h', _, X', Fr.snoc X' N ha, e', Keep.of_wr W, ⟨k, n, V', by simpa using hn⟩, st⟩
theorem own_bastoreZ (X : Stand p l e R s m args below meth c T locs cells slots) (hx : p.tables.exec = Jvm.exec) (hZ : Z.Warmed39 s.vm) (N : Fr n0 locs) (eT : T.heap = h) {a : Addr} {L : List Int32} (V : own_IA Z h a .boolean L) {j x : Int32} (hj : 0 ≤ j.toInt ∧ j.toInt < (L.length : Int)) (ha : n0 ≤ a) {g : JFrame} (hg : g.method = m) {rest : List Value} (hs : g.stack = .int x :: .int j :: .ref a :: rest) (hd : decode c.code g.pc = .ok (.bastore, 1)) :
    ∃ T' h' locs', Stand p l e R s m args below meth c T' locs' cells slots ∧ Fr n0 locs' ∧ T'.heap = h' ∧ Keep h h' [a] ∧ own_IA Z h' a .boolean (L.set j.toInt.toNat (nar .boolean x)) ∧
      ∀ target, Steps p.tables e below (T'.setTop { g with pc := g.pc + 1, stack := rest }) target → Steps p.tables e below (T.setTop g) target := by
  obtain ⟨k, n, ⟨cl, A, q1, S, q3, H, G⟩, hn⟩ := V
  have hb := own_bounds (Z := Z) (h := h) (a := a) S hn hj
  obtain ⟨T', h', X', e', W, st⟩ := stZ X hx hZ eT A (j := j) hb hg hs hd
  have V' := Arv.set A q1 S q3 H G (v := .int (nar .boolean x)) (fits_nar_bool _) W j.toInt.toNat rfl (by simp only [List.length_map]; omega)
  rw [own_mapS] at V'
  exact ⟨T', h', _, X', Fr.snoc X' N ha, e', Keep.of_wr W, ⟨k, n, V', by simpa using hn⟩, st⟩
theorem own_lastoreJ (X : Stand p l e R s m args below meth c T locs cells slots) (hx : p.tables.exec = Jvm.exec) (hZ : Z.Warmed39 s.vm) (N : Fr n0 locs) (eT : T.heap = h) {a : Addr} {L : List Int64} (V : own_JA Z h a L) {j : Int32} {x : Int64} (hj : 0 ≤ j.toInt ∧ j.toInt < (L.length : Int)) (ha : n0 ≤ a) {g : JFrame} (hg : g.method = m) {rest : List Value} (hs : g.stack = .long x :: .int j :: .ref a :: rest) (hd : decode c.code g.pc = .ok (.lastore, 1)) :
    ∃ T' h' locs', Stand p l e R s m args below meth c T' locs' cells slots ∧ Fr n0 locs' ∧ T'.heap = h' ∧ Keep h h' [a] ∧ own_JA Z h' a (L.set j.toInt.toNat x) ∧
      ∀ target, Steps p.tables e below (T'.setTop { g with pc := g.pc + 1, stack := rest }) target → Steps p.tables e below (T.setTop g) target := by
  obtain ⟨k, n, ⟨cl, A, q1, S, q3, H, G⟩, hn⟩ := V
  have hb := own_bounds (Z := Z) (h := h) (a := a) S hn hj
  obtain ⟨T', h', X', e', W, st⟩ := stJ X hx hZ eT A (j := j) hb hg hs hd
  have V' := Arv.set A q1 S q3 H G (v := .long x) rfl W j.toInt.toNat rfl (by simp only [List.length_map]; omega)
  rw [own_mapS] at V'
  exact ⟨T', h', _, X', Fr.snoc X' N ha, e', Keep.of_wr W, ⟨k, n, V', by simpa using hn⟩, st⟩
theorem own_newJE (X : Stand p l e R s m args below meth c T locs cells slots) (hx : p.tables.exec = Jvm.exec) (hZ : Z.Warmed39 s.vm) (w : (Cond.arrayClass .long).before a0 Z = true) (eT : T.heap = h) {g : JFrame} (hg : g.method = m) (hd : decode c.code g.pc = .ok (.newarray .long, 2)) {n : Int32} {rest : List Value} (hs : g.stack = .int n :: rest)
    (len : Nat) (hn : n.toInt = len) {cap : Nat} (hcap : len ≤ cap) (hb : cap * 8 ≤ 536870912) (hc : cells + 1 ≤ R.cells) (hl : slots + cap ≤ R.slots) :
    ∃ T' h' a, Stand p l e R s m args below meth c T' locs (cells + 1) (slots + cap) ∧ T'.heap = h' ∧ Keep h h' [] ∧ h.size ≤ a ∧ own_JA Z h' a (List.replicate len 0) ∧ Exa Z h' a "[J" ∧
      ∀ target, Steps p.tables e below (T'.setTop { g with pc := g.pc + 2, stack := .ref a :: rest }) target → Steps p.tables e below (T.setTop g) target := by
  have h0 : ¬ n < 0 := own_lt0 (by omega)
  obtain ⟨T', h', cA, X', e', E, A, Ex, st⟩ := newPE X hx hZ (aty := .long) w eT hg hd hs h0 (cap := cap) (by show n.toInt.toNat ≤ cap; omega) hb hc hl (ad := "[J") (by decide)
  refine ⟨T', h', h.size, X', e', own_keepE E, Nat.le_refl _, ⟨cA, n, ?_, ?_⟩, Ex, st⟩
  · have V := (Arv.new A h0).pad (pad_rep [] _ len)
    have hd0 : defaultValue (newarray.typeOf .long) = .long 0 := rfl
    rw [hd0] at V
    have V' : Arv Z h' h.size cA .long n ([] ++ List.replicate len (Value.long 0)) (.long 0) := V
    simpa using V'
  · simpa using hn
theorem own_cloneJ (X : Stand p l e R s m args below meth c T locs cells slots) (hx : p.tables.exec = Jvm.exec) (hZ : Z.Warmed39 s.vm) {own : String} {index : Nat} (hown : s.vm.findClass own = some m.cls)
    (w1 : (Cond.methodLink own index ⟨"[J", "clone", "()Ljava/lang/Object;"⟩).before a0 Z = true) (w2 : (Cond.sameMethod "[J" "java/lang/Object" "clone" "()Ljava/lang/Object;").before a0 Z = true) (w3 : (Cond.native ⟨"java/lang/Object", "clone", "()Ljava/lang/Object;"⟩).before a0 Z = true)
    (w4 : (Cond.instanceMethod ⟨"java/lang/Object", "clone", "()Ljava/lang/Object;"⟩).before a0 Z = true) (w5 : (Cond.selects "[J" ⟨"[J", "clone", "()Ljava/lang/Object;"⟩ ⟨"java/lang/Object", "clone", "()Ljava/lang/Object;"⟩).before a0 Z = true) (w6 : (Cond.castable "[J" "java/lang/Cloneable").before a0 Z = true)
    (eT : T.heap = h) {a : Addr} {L : List Int64} (V : own_JA Z h a L) (E : Exa Z h a "[J") {g : JFrame} (hg : g.method = m) (hsize : g.locals.size = c.maxLocals) {rest : List Value} (hst : g.stack = .ref a :: rest) (hd : decode c.code g.pc = .ok (.invokevirtual index, 3))
    (hf : 1 ≤ R.frames) {W cap : Nat} (hW : 2 * g.monitorRoom + (rest.map fun v => v.category).sum ≤ W) (hl : W + 14 ≤ R.locals) (hcap : L.length ≤ cap) (hc : cells + 1 ≤ R.cells) (hsl : slots + cap ≤ R.slots) :
    ∃ T' h' b, Stand p l e R s m args below meth c T' locs (cells + 1) (slots + cap) ∧ T'.heap = h' ∧ Keep h h' [] ∧ h.size ≤ b ∧ own_JA Z h' b L ∧ Exa Z h' b "[J" ∧
      ∀ target, Steps p.tables e below (T'.setTop { g with pc := g.pc + 3, stack := .ref b :: rest }) target → Steps p.tables e below (T.setTop g) target := by
  obtain ⟨k, n, A, hn⟩ := V
  obtain ⟨T', h', X', e', Ex, A', E', st⟩ := cloneH X hx hZ hown w1 w2 w3 w4 w5 w6 eT A.arh E hg hsize hst hd hf hW hl (cap := cap) (by show n.toInt.toNat ≤ cap; omega) hc hsl
  exact ⟨T', h', h.size, X', e', own_keepE Ex, Nat.le_refl _, ⟨k, n, A', hn⟩, E', st⟩
/-- new -/
theorem own_new (X : Stand p l e R s m args below meth c T locs cells slots) (hx : p.tables.exec = Jvm.exec) (hZ : Z.Warmed39 s.vm) {own C : String} {index n : Nat} (hown : s.vm.findClass own = some m.cls) (w : (Cond.classLink own index C).before a0 Z = true) (wi : (Cond.instantiable C n).before a0 Z = true) (wz : (Cond.initialized C).before a0 Z = true) (eT : T.heap = h)
    {g : JFrame} (hg : g.method = m) (hd : decode c.code g.pc = .ok (.new index, 3)) (hc : cells + 1 ≤ R.cells) (hl : slots + n ≤ R.slots) :
    ∃ T' h' a, Stand p l e R s m args below meth c T' locs (cells + 1) (slots + n) ∧ T'.heap = h' ∧ Keep h h' [] ∧ h.size ≤ a ∧ Exa Z h' a C ∧ (∀ {O nm d : String} {ty : FieldType}, Laid Z a0 C O nm d → parseFieldDescriptor d = some ty → Fld Z h' a O nm d (defaultValue ty)) ∧
      ∀ target, Steps p.tables e below (T'.setTop { g with pc := g.pc + 3, stack := .ref a :: g.stack }) target → Steps p.tables e below (T.setTop g) target := by
  obtain ⟨T', h', X', e', E, A, D, -, st⟩ := newO X hx hZ hown w wi wz eT hg hd hc hl
  exact ⟨T', h', h.size, X', e', own_keepE E, Nat.le_refl _, A, D, st⟩
end Heap
theorem own_irem (x y : Int32) : x - (x / y) * y = x % y := by
  have lo (z : Int32) : Int32.minValue.toInt ≤ z.toInt := z.minValue_le_toInt
  have hi (z : Int32) : z.toInt ≤ Int32.maxValue.toInt := z.toInt_le
  have d := Int32.ofInt_tdiv (a := x.toInt) (b := y.toInt) (lo x) (hi x) (lo y) (hi y)
  have m := Int32.ofInt_tmod (a := x.toInt) (b := y.toInt) (lo x) (hi x) (lo y) (hi y)
  simp only [Int32.ofInt_toInt] at d m
  have e : x.toInt.tmod y.toInt = x.toInt - (x.toInt.tdiv y.toInt) * y.toInt := by
    have := Int.tmod_add_mul_tdiv x.toInt y.toInt
    rw [Int.mul_comm (x.toInt.tdiv y.toInt)]; omega
  rw [← d, ← m, e, Int32.ofInt_sub, Int32.ofInt_mul, Int32.ofInt_toInt, Int32.ofInt_toInt]
theorem own_remP (x d : Int32) (k : Int) (hd : d.toInt = k) (h : 0 ≤ x.toInt) : (x - (x / d) * d).toInt = x.toInt % k := by
  rw [own_irem]; exact (c_irem x d k hd).1 h
theorem own_mask31 (x : Int32) : (x &&& (2147483647 : Int32)).toInt = x.toInt % 2147483648 := by
  have : (x &&& (2147483647 : Int32)).toInt = x.toInt % (2 ^ 31 : Nat) := c_mask x 2147483647 31 (by decide) (by decide)
  omega
theorem own_succ {x y : Int32} (h : y = x + (1 : Int32)) (hb : x.toInt < 2147483647) : y.toInt = x.toInt + 1 := by
  subst h
  have a := c_iadd x 1
  have r := rng32 (x + 1)
  have r' := rng32 x
  have z : (1 : Int32).toInt = 1 := by decide
  omega
theorem own_ofN {v : Int32} {n : Nat} (h : v = Int32.ofNat n) (hn : n < 2147483648) : v.toInt = n := by
  subst h; exact Int32.toInt_ofNat_of_lt hn
theorem own_z0 : (0 : Int32).toInt = 0 := by decide
theorem own_pd0 : parseMethodDescriptor "(IILjava/util/function/BiFunction;)I" = some ⟨[.int, .int, (.object "java/util/function/BiFunction")], some .int⟩ := by decide +kernel
theorem own_pd1 : parseMethodDescriptor "(II)V" = some ⟨[.int, .int], none⟩ := by decide +kernel
theorem own_pd2 : parseMethodDescriptor "()Z" = some ⟨[], some .boolean⟩ := by decide +kernel
theorem own_pd3 : parseMethodDescriptor "([BI)C" = some ⟨[(.array .byte), .int], some .char⟩ := by decide +kernel
theorem own_pd4 : parseMethodDescriptor "(I)I" = some ⟨[.int], some .int⟩ := by decide +kernel
theorem own_pd5 : parseMethodDescriptor "(I)C" = some ⟨[.int], some .char⟩ := by decide +kernel
theorem own_pd6 : parseMethodDescriptor "(I)Z" = some ⟨[.int], some .boolean⟩ := by decide +kernel
theorem own_d6_0 : decode prog_34_method_5_code 0 = .ok (.iload_n 0, 1) := by decide +kernel
theorem own_d6_1 : decode prog_34_method_5_code 1 = .ok (.bipush 48, 2) := by decide +kernel
theorem own_d6_3 : decode prog_34_method_5_code 3 = .ok (.if_icmp .lt 14, 3) := by decide +kernel
theorem own_d6_6 : decode prog_34_method_5_code 6 = .ok (.iload_n 0, 1) := by decide +kernel
theorem own_d6_7 : decode prog_34_method_5_code 7 = .ok (.bipush 57, 2) := by decide +kernel
theorem own_d6_9 : decode prog_34_method_5_code 9 = .ok (.if_icmp .gt 8, 3) := by decide +kernel
theorem own_d6_12 : decode prog_34_method_5_code 12 = .ok (.iload_n 0, 1) := by decide +kernel
theorem own_d6_13 : decode prog_34_method_5_code 13 = .ok (.bipush 48, 2) := by decide +kernel
theorem own_d6_15 : decode prog_34_method_5_code 15 = .ok (.isub, 1) := by decide +kernel
theorem own_d6_16 : decode prog_34_method_5_code 16 = .ok (.ireturn, 1) := by decide +kernel
theorem own_d6_17 : decode prog_34_method_5_code 17 = .ok (.iload_n 0, 1) := by decide +kernel
theorem own_d6_18 : decode prog_34_method_5_code 18 = .ok (.bipush 97, 2) := by decide +kernel
theorem own_d6_20 : decode prog_34_method_5_code 20 = .ok (.if_icmp .lt 17, 3) := by decide +kernel
theorem own_d6_23 : decode prog_34_method_5_code 23 = .ok (.iload_n 0, 1) := by decide +kernel
theorem own_d6_24 : decode prog_34_method_5_code 24 = .ok (.bipush 102, 2) := by decide +kernel
theorem own_d6_26 : decode prog_34_method_5_code 26 = .ok (.if_icmp .gt 11, 3) := by decide +kernel
theorem own_d6_29 : decode prog_34_method_5_code 29 = .ok (.iload_n 0, 1) := by decide +kernel
theorem own_d6_30 : decode prog_34_method_5_code 30 = .ok (.bipush 97, 2) := by decide +kernel
theorem own_d6_32 : decode prog_34_method_5_code 32 = .ok (.isub, 1) := by decide +kernel
theorem own_d6_33 : decode prog_34_method_5_code 33 = .ok (.bipush 10, 2) := by decide +kernel
theorem own_d6_35 : decode prog_34_method_5_code 35 = .ok (.iadd, 1) := by decide +kernel
theorem own_d6_36 : decode prog_34_method_5_code 36 = .ok (.ireturn, 1) := by decide +kernel
theorem own_d6_37 : decode prog_34_method_5_code 37 = .ok (.iload_n 0, 1) := by decide +kernel
theorem own_d6_38 : decode prog_34_method_5_code 38 = .ok (.bipush 65, 2) := by decide +kernel
theorem own_d6_40 : decode prog_34_method_5_code 40 = .ok (.if_icmp .lt 17, 3) := by decide +kernel
theorem own_d6_43 : decode prog_34_method_5_code 43 = .ok (.iload_n 0, 1) := by decide +kernel
theorem own_d6_44 : decode prog_34_method_5_code 44 = .ok (.bipush 70, 2) := by decide +kernel
theorem own_d6_46 : decode prog_34_method_5_code 46 = .ok (.if_icmp .gt 11, 3) := by decide +kernel
theorem own_d6_49 : decode prog_34_method_5_code 49 = .ok (.iload_n 0, 1) := by decide +kernel
theorem own_d6_50 : decode prog_34_method_5_code 50 = .ok (.bipush 65, 2) := by decide +kernel
theorem own_d6_52 : decode prog_34_method_5_code 52 = .ok (.isub, 1) := by decide +kernel
theorem own_d6_53 : decode prog_34_method_5_code 53 = .ok (.bipush 10, 2) := by decide +kernel
theorem own_d6_55 : decode prog_34_method_5_code 55 = .ok (.iadd, 1) := by decide +kernel
theorem own_d6_56 : decode prog_34_method_5_code 56 = .ok (.ireturn, 1) := by decide +kernel
theorem own_d6_57 : decode prog_34_method_5_code 57 = .ok (.iconst (-1), 1) := by decide +kernel
theorem own_d6_58 : decode prog_34_method_5_code 58 = .ok (.ireturn, 1) := by decide +kernel
theorem own_pn6 : plainName "com/example/wireform/wireform/Hex" = true := by first | (simp [plainName, overriddenIn]; done) | decide +kernel
theorem own_ef6 (m : MethodId) (p0 : Int32) : entryFrame m #[(.int p0)] 1 = mkF m 0 #[.val (.int p0)] [] := by first | (simp [entryFrame, mkF, argsToLocals, Value.category]; done) | rfl
abbrev own_R6 : Room := { frames := 0, cells := 0, slots := 0, locals := 0 }
def own_F6 (p0 : Int32) : Int32 :=
  if p0 < (48 : Int32) then
    if p0 < (97 : Int32) then
      if p0 < (65 : Int32) then
        (-1 : Int32)
      else
        if (70 : Int32) < p0 then
          (-1 : Int32)
        else
          ((p0 - (65 : Int32)) + (10 : Int32))
    else
      if (102 : Int32) < p0 then
        if p0 < (65 : Int32) then
          (-1 : Int32)
        else
          if (70 : Int32) < p0 then
            (-1 : Int32)
          else
            ((p0 - (65 : Int32)) + (10 : Int32))
      else
        ((p0 - (97 : Int32)) + (10 : Int32))
  else
    if (57 : Int32) < p0 then
      if p0 < (97 : Int32) then
        if p0 < (65 : Int32) then
          (-1 : Int32)
        else
          if (70 : Int32) < p0 then
            (-1 : Int32)
          else
            ((p0 - (65 : Int32)) + (10 : Int32))
      else
        if (102 : Int32) < p0 then
          if p0 < (65 : Int32) then
            (-1 : Int32)
          else
            if (70 : Int32) < p0 then
              (-1 : Int32)
            else
              ((p0 - (65 : Int32)) + (10 : Int32))
        else
          ((p0 - (97 : Int32)) + (10 : Int32))
    else
      (p0 - (48 : Int32))
def own_Q6 (p0 : Int32) (h0 : Heap) (vz : Option Value) (h : Heap) (Lz : List Loc) : Prop :=  vz = some (.int (own_F6 p0)) ∧ Lz = [] ∧ h = h0
theorem own_e6_8 {p0 : Int32} (hc3_2 : p0 < (48 : Int32)) (hc20_4 : p0 < (97 : Int32)) (hc40_6 : p0 < (65 : Int32)) : (-1 : Int32) = (own_F6 p0) := by
  skip
  first
    | (simp only [own_F6, if_pos hc3_2, if_pos hc20_4, if_pos hc40_6]; done)
    | (exfalso; contradiction)
theorem own_e6_12 {p0 : Int32} (hc3_2 : p0 < (48 : Int32)) (hc20_4 : p0 < (97 : Int32)) (hc40_6 : ¬ (p0 < (65 : Int32))) (hc46_10 : (70 : Int32) < p0) : (-1 : Int32) = (own_F6 p0) := by
  skip
  first
    | (simp only [own_F6, if_pos hc3_2, if_pos hc20_4, if_neg hc40_6, if_pos hc46_10]; done)
    | (exfalso; contradiction)
theorem own_e6_14 {p0 : Int32} (hc3_2 : p0 < (48 : Int32)) (hc20_4 : p0 < (97 : Int32)) (hc40_6 : ¬ (p0 < (65 : Int32))) (hc46_10 : ¬ ((70 : Int32) < p0)) : ((p0 - (65 : Int32)) + (10 : Int32)) = (own_F6 p0) := by
  skip
  first
    | (simp only [own_F6, if_pos hc3_2, if_pos hc20_4, if_neg hc40_6, if_neg hc46_10]; done)
    | (exfalso; contradiction)
theorem own_e6_20 {p0 : Int32} (hc3_2 : p0 < (48 : Int32)) (hc20_4 : ¬ (p0 < (97 : Int32))) (hc26_16 : (102 : Int32) < p0) (hc40_18 : p0 < (65 : Int32)) : (-1 : Int32) = (own_F6 p0) := by
  skip
  first
    | (simp only [own_F6, if_pos hc3_2, if_neg hc20_4, if_pos hc26_16, if_pos hc40_18]; done)
    | (exfalso; contradiction)
theorem own_e6_24 {p0 : Int32} (hc3_2 : p0 < (48 : Int32)) (hc20_4 : ¬ (p0 < (97 : Int32))) (hc26_16 : (102 : Int32) < p0) (hc40_18 : ¬ (p0 < (65 : Int32))) (hc46_22 : (70 : Int32) < p0) : (-1 : Int32) = (own_F6 p0) := by
  skip
  first
    | (simp only [own_F6, if_pos hc3_2, if_neg hc20_4, if_pos hc26_16, if_neg hc40_18, if_pos hc46_22]; done)
    | (exfalso; contradiction)
theorem own_e6_26 {p0 : Int32} (hc3_2 : p0 < (48 : Int32)) (hc20_4 : ¬ (p0 < (97 : Int32))) (hc26_16 : (102 : Int32) < p0) (hc40_18 : ¬ (p0 < (65 : Int32))) (hc46_22 : ¬ ((70 : Int32) < p0)) : ((p0 - (65 : Int32)) + (10 : Int32)) = (own_F6 p0) := by
  skip
  first
    | (simp only [own_F6, if_pos hc3_2, if_neg hc20_4, if_pos hc26_16, if_neg hc40_18, if_neg hc46_22]; done)
    | (exfalso; contradiction)
theorem own_e6_28 {p0 : Int32} (hc3_2 : p0 < (48 : Int32)) (hc20_4 : ¬ (p0 < (97 : Int32))) (hc26_16 : ¬ ((102 : Int32) < p0)) : ((p0 - (97 : Int32)) + (10 : Int32)) = (own_F6 p0) := by
  skip
  first
    | (simp only [own_F6, if_pos hc3_2, if_neg hc20_4, if_neg hc26_16]; done)
    | (exfalso; contradiction)
theorem own_e6_36 {p0 : Int32} (hc3_2 : ¬ (p0 < (48 : Int32))) (hc9_30 : (57 : Int32) < p0) (hc20_32 : p0 < (97 : Int32)) (hc40_34 : p0 < (65 : Int32)) : (-1 : Int32) = (own_F6 p0) := by
  skip
  first
    | (simp only [own_F6, if_neg hc3_2, if_pos hc9_30, if_pos hc20_32, if_pos hc40_34]; done)
    | (exfalso; contradiction)
theorem own_e6_40 {p0 : Int32} (hc3_2 : ¬ (p0 < (48 : Int32))) (hc9_30 : (57 : Int32) < p0) (hc20_32 : p0 < (97 : Int32)) (hc40_34 : ¬ (p0 < (65 : Int32))) (hc46_38 : (70 : Int32) < p0) : (-1 : Int32) = (own_F6 p0) := by
  skip
  first
    | (simp only [own_F6, if_neg hc3_2, if_pos hc9_30, if_pos hc20_32, if_neg hc40_34, if_pos hc46_38]; done)
    | (exfalso; contradiction)
theorem own_e6_42 {p0 : Int32} (hc3_2 : ¬ (p0 < (48 : Int32))) (hc9_30 : (57 : Int32) < p0) (hc20_32 : p0 < (97 : Int32)) (hc40_34 : ¬ (p0 < (65 : Int32))) (hc46_38 : ¬ ((70 : Int32) < p0)) : ((p0 - (65 : Int32)) + (10 : Int32)) = (own_F6 p0) := by
  skip
  first
    | (simp only [own_F6, if_neg hc3_2, if_pos hc9_30, if_pos hc20_32, if_neg hc40_34, if_neg hc46_38]; done)
    | (exfalso; contradiction)
theorem own_e6_48 {p0 : Int32} (hc3_2 : ¬ (p0 < (48 : Int32))) (hc9_30 : (57 : Int32) < p0) (hc20_32 : ¬ (p0 < (97 : Int32))) (hc26_44 : (102 : Int32) < p0) (hc40_46 : p0 < (65 : Int32)) : (-1 : Int32) = (own_F6 p0) := by
  skip
  first
    | (simp only [own_F6, if_neg hc3_2, if_pos hc9_30, if_neg hc20_32, if_pos hc26_44, if_pos hc40_46]; done)
    | (exfalso; contradiction)
theorem own_e6_52 {p0 : Int32} (hc3_2 : ¬ (p0 < (48 : Int32))) (hc9_30 : (57 : Int32) < p0) (hc20_32 : ¬ (p0 < (97 : Int32))) (hc26_44 : (102 : Int32) < p0) (hc40_46 : ¬ (p0 < (65 : Int32))) (hc46_50 : (70 : Int32) < p0) : (-1 : Int32) = (own_F6 p0) := by
  skip
  first
    | (simp only [own_F6, if_neg hc3_2, if_pos hc9_30, if_neg hc20_32, if_pos hc26_44, if_neg hc40_46, if_pos hc46_50]; done)
    | (exfalso; contradiction)
theorem own_e6_54 {p0 : Int32} (hc3_2 : ¬ (p0 < (48 : Int32))) (hc9_30 : (57 : Int32) < p0) (hc20_32 : ¬ (p0 < (97 : Int32))) (hc26_44 : (102 : Int32) < p0) (hc40_46 : ¬ (p0 < (65 : Int32))) (hc46_50 : ¬ ((70 : Int32) < p0)) : ((p0 - (65 : Int32)) + (10 : Int32)) = (own_F6 p0) := by
  skip
  first
    | (simp only [own_F6, if_neg hc3_2, if_pos hc9_30, if_neg hc20_32, if_pos hc26_44, if_neg hc40_46, if_neg hc46_50]; done)
    | (exfalso; contradiction)
theorem own_e6_56 {p0 : Int32} (hc3_2 : ¬ (p0 < (48 : Int32))) (hc9_30 : (57 : Int32) < p0) (hc20_32 : ¬ (p0 < (97 : Int32))) (hc26_44 : ¬ ((102 : Int32) < p0)) : ((p0 - (97 : Int32)) + (10 : Int32)) = (own_F6 p0) := by
  skip
  first
    | (simp only [own_F6, if_neg hc3_2, if_pos hc9_30, if_neg hc20_32, if_neg hc26_44]; done)
    | (exfalso; contradiction)
theorem own_e6_58 {p0 : Int32} (hc3_2 : ¬ (p0 < (48 : Int32))) (hc9_30 : ¬ ((57 : Int32) < p0)) : (p0 - (48 : Int32)) = (own_F6 p0) := by
  skip
  first
    | (simp only [own_F6, if_neg hc3_2, if_neg hc9_30]; done)
    | (exfalso; contradiction)
set_option maxRecDepth 65536 in
set_option maxHeartbeats 40000000 in
theorem own_rm6 (l : Launch) (Z : State) (a0 : Array Value) (hw : ∀ d ∈ tables_1, d.before a0 Z = true) (ws : List Jvm.Cond) (p0 : Int32) (h0 : Heap) :
    MetFree l (⟨"com/example/wireform/wireform/Hex", "digit", "(I)I"⟩ : MethodName) (head1 (Jvm.Cond.code (⟨"com/example/wireform/wireform/Hex", "digit", "(I)I"⟩ : MethodName) prog_34_method_5_code 1 (some .int) :: ws) own_R6) (fun a U => a = #[(.int p0)] ∧ Z.Warmed39 U.vm ∧ U.heap = h0) (fun _ _ _ _ _ => True) (fun _ U o U' => ∃ vz Lz, o = .returned vz ∧ own_Q6 p0 h0 vz U'.heap Lz ∧ FrameEnd U o U' Lz own_R6.cells own_R6.slots) := by
  refine MetFree.of_bodySF (plainFor_of_name own_pn6) hisR ?_
  intro p e s m args below meth c s₁ Bd hml0 hP hK
  obtain ⟨rfl, hZ, hh⟩ := hP
  have hx := Bd.exec
  have hby := Bd.bytes
  have hml : c.maxLocals = 1 := hml0
  have hown : s.vm.findClass "com/example/wireform/wireform/Hex" = some m.cls := findClass_of_methodNamed Bd.named
  have hnm := (name_of_methodNamed Bd.named Bd.method).1
  have X0 : Stand p l e own_R6 s m #[(.int p0)] below meth c s₁ [] 0 0 := Stand.of_body Bd
  have e0 : s₁.heap = h0 := by rw [← hh, Bd.state]; rfl
  show own_End p e below s (fun vz h Lz => vz = some (.int (own_F6 p0)) ∧ Lz = [] ∧ h = h0) own_R6.cells own_R6.slots s₁ (entryFrame m #[(.int p0)] 1)
  refine own_End.go (fun t k => castTop (own_ef6 m p0) k) ?_
  show own_End p e below s _ _ _ s₁ (mkF m 0 #[.val (.int p0)] [])
  have st1 : ∀ t, Steps p.tables e below (s₁.setTop (mkF m 3 #[.val (.int p0)] [(.int (48 : Int32)), (.int p0)])) t → Steps p.tables e below (s₁.setTop (mkF m 0 #[.val (.int p0)] [])) t := by
    intro t k
    show Steps p.tables e below (s₁.setTop (mkF m 0 #[.val (.int p0)] [])) _
    refine XS.iloadN X0.here hx rfl (hb hby own_d6_0) rfl ?_
    show Steps p.tables e below (s₁.setTop (mkF m 1 #[.val (.int p0)] [(.int p0)])) _
    refine XS.bipush X0.here hx rfl (hb hby own_d6_1) ?_
    exact k
  refine own_End.go (fun t k => st1 _ k) ?_
  by_cases hc3_2 : p0 < (48 : Int32)
  · have st3 : ∀ t, Steps p.tables e below (s₁.setTop (mkF m 20 #[.val (.int p0)] [(.int (97 : Int32)), (.int p0)])) t → Steps p.tables e below (s₁.setTop (mkF m 3 #[.val (.int p0)] [(.int (48 : Int32)), (.int p0)])) t := by
      intro t k
      show Steps p.tables e below (s₁.setTop (mkF m 3 #[.val (.int p0)] [(.int (48 : Int32)), (.int p0)])) _
      refine XS.icmpYes X0.here hx rfl (pc0 := 3) (pc' := 17) rfl (hb hby own_d6_3) rfl (tlt hc3_2).1 (by decide) (by decide) ?_
      show Steps p.tables e below (s₁.setTop (mkF m 17 #[.val (.int p0)] [])) _
      refine XS.iloadN X0.here hx rfl (hb hby own_d6_17) rfl ?_
      show Steps p.tables e below (s₁.setTop (mkF m 18 #[.val (.int p0)] [(.int p0)])) _
      refine XS.bipush X0.here hx rfl (hb hby own_d6_18) ?_
      exact k
    refine own_End.go (fun t k => st3 _ k) ?_
    by_cases hc20_4 : p0 < (97 : Int32)
    · have st5 : ∀ t, Steps p.tables e below (s₁.setTop (mkF m 40 #[.val (.int p0)] [(.int (65 : Int32)), (.int p0)])) t → Steps p.tables e below (s₁.setTop (mkF m 20 #[.val (.int p0)] [(.int (97 : Int32)), (.int p0)])) t := by
        intro t k
        show Steps p.tables e below (s₁.setTop (mkF m 20 #[.val (.int p0)] [(.int (97 : Int32)), (.int p0)])) _
        refine XS.icmpYes X0.here hx rfl (pc0 := 20) (pc' := 37) rfl (hb hby own_d6_20) rfl (tlt hc20_4).1 (by decide) (by decide) ?_
        show Steps p.tables e below (s₁.setTop (mkF m 37 #[.val (.int p0)] [])) _
        refine XS.iloadN X0.here hx rfl (hb hby own_d6_37) rfl ?_
        show Steps p.tables e below (s₁.setTop (mkF m 38 #[.val (.int p0)] [(.int p0)])) _
        refine XS.bipush X0.here hx rfl (hb hby own_d6_38) ?_
        exact k
      refine own_End.go (fun t k => st5 _ k) ?_
      by_cases hc40_6 : p0 < (65 : Int32)
      · have st7 : ∀ t, Steps p.tables e below (s₁.setTop (mkF m 58 #[.val (.int p0)] [(.int (-1 : Int32))])) t → Steps p.tables e below (s₁.setTop (mkF m 40 #[.val (.int p0)] [(.int (65 : Int32)), (.int p0)])) t := by
          intro t k
          show Steps p.tables e below (s₁.setTop (mkF m 40 #[.val (.int p0)] [(.int (65 : Int32)), (.int p0)])) _
          refine XS.icmpYes X0.here hx rfl (pc0 := 40) (pc' := 57) rfl (hb hby own_d6_40) rfl (tlt hc40_6).1 (by decide) (by decide) ?_
          show Steps p.tables e below (s₁.setTop (mkF m 57 #[.val (.int p0)] [])) _
          refine XS.iconst X0.here hx rfl (hb hby own_d6_57) ?_
          exact k
        refine own_End.go (fun t k => st7 _ k) ?_
        exact own_leafI X0 hx Bd.notSynchronized Bd.returns (hb hby own_d6_58) ⟨congrArg (fun z => some (Value.int z)) (own_e6_8 hc3_2 hc20_4 hc40_6), rfl, e0⟩ (by decide) (by decide)
      · have st9 : ∀ t, Steps p.tables e below (s₁.setTop (mkF m 46 #[.val (.int p0)] [(.int (70 : Int32)), (.int p0)])) t → Steps p.tables e below (s₁.setTop (mkF m 40 #[.val (.int p0)] [(.int (65 : Int32)), (.int p0)])) t := by
          intro t k
          show Steps p.tables e below (s₁.setTop (mkF m 40 #[.val (.int p0)] [(.int (65 : Int32)), (.int p0)])) _
          refine XS.icmpNo X0.here hx rfl (hb hby own_d6_40) rfl (flt hc40_6).1 ?_
          show Steps p.tables e below (s₁.setTop (mkF m 43 #[.val (.int p0)] [])) _
          refine XS.iloadN X0.here hx rfl (hb hby own_d6_43) rfl ?_
          show Steps p.tables e below (s₁.setTop (mkF m 44 #[.val (.int p0)] [(.int p0)])) _
          refine XS.bipush X0.here hx rfl (hb hby own_d6_44) ?_
          exact k
        refine own_End.go (fun t k => st9 _ k) ?_
        by_cases hc46_10 : (70 : Int32) < p0
        · have st11 : ∀ t, Steps p.tables e below (s₁.setTop (mkF m 58 #[.val (.int p0)] [(.int (-1 : Int32))])) t → Steps p.tables e below (s₁.setTop (mkF m 46 #[.val (.int p0)] [(.int (70 : Int32)), (.int p0)])) t := by
            intro t k
            show Steps p.tables e below (s₁.setTop (mkF m 46 #[.val (.int p0)] [(.int (70 : Int32)), (.int p0)])) _
            refine XS.icmpYes X0.here hx rfl (pc0 := 46) (pc' := 57) rfl (hb hby own_d6_46) rfl (tlt hc46_10).2.2.1 (by decide) (by decide) ?_
            show Steps p.tables e below (s₁.setTop (mkF m 57 #[.val (.int p0)] [])) _
            refine XS.iconst X0.here hx rfl (hb hby own_d6_57) ?_
            exact k
          refine own_End.go (fun t k => st11 _ k) ?_
          exact own_leafI X0 hx Bd.notSynchronized Bd.returns (hb hby own_d6_58) ⟨congrArg (fun z => some (Value.int z)) (own_e6_12 hc3_2 hc20_4 hc40_6 hc46_10), rfl, e0⟩ (by decide) (by decide)
        · have st13 : ∀ t, Steps p.tables e below (s₁.setTop (mkF m 56 #[.val (.int p0)] [(.int ((p0 - (65 : Int32)) + (10 : Int32)))])) t → Steps p.tables e below (s₁.setTop (mkF m 46 #[.val (.int p0)] [(.int (70 : Int32)), (.int p0)])) t := by
            intro t k
            show Steps p.tables e below (s₁.setTop (mkF m 46 #[.val (.int p0)] [(.int (70 : Int32)), (.int p0)])) _
            refine XS.icmpNo X0.here hx rfl (hb hby own_d6_46) rfl (flt hc46_10).2.2.1 ?_
            show Steps p.tables e below (s₁.setTop (mkF m 49 #[.val (.int p0)] [])) _
            refine XS.iloadN X0.here hx rfl (hb hby own_d6_49) rfl ?_
            show Steps p.tables e below (s₁.setTop (mkF m 50 #[.val (.int p0)] [(.int p0)])) _
            refine XS.bipush X0.here hx rfl (hb hby own_d6_50) ?_
            show Steps p.tables e below (s₁.setTop (mkF m 52 #[.val (.int p0)] [(.int (65 : Int32)), (.int p0)])) _
            refine XS.isub X0.here hx rfl (hb hby own_d6_52) rfl ?_
            show Steps p.tables e below (s₁.setTop (mkF m 53 #[.val (.int p0)] [(.int (p0 - (65 : Int32)))])) _
            refine XS.bipush X0.here hx rfl (hb hby own_d6_53) ?_
            show Steps p.tables e below (s₁.setTop (mkF m 55 #[.val (.int p0)] [(.int (10 : Int32)), (.int (p0 - (65 : Int32)))])) _
            refine XS.iadd X0.here hx rfl (hb hby own_d6_55) rfl ?_
            exact k
          refine own_End.go (fun t k => st13 _ k) ?_
          exact own_leafI X0 hx Bd.notSynchronized Bd.returns (hb hby own_d6_56) ⟨congrArg (fun z => some (Value.int z)) (own_e6_14 hc3_2 hc20_4 hc40_6 hc46_10), rfl, e0⟩ (by decide) (by decide)
    · have st15 : ∀ t, Steps p.tables e below (s₁.setTop (mkF m 26 #[.val (.int p0)] [(.int (102 : Int32)), (.int p0)])) t → Steps p.tables e below (s₁.setTop (mkF m 20 #[.val (.int p0)] [(.int (97 : Int32)), (.int p0)])) t := by
        intro t k
        show Steps p.tables e below (s₁.setTop (mkF m 20 #[.val (.int p0)] [(.int (97 : Int32)), (.int p0)])) _
        refine XS.icmpNo X0.here hx rfl (hb hby own_d6_20) rfl (flt hc20_4).1 ?_
        show Steps p.tables e below (s₁.setTop (mkF m 23 #[.val (.int p0)] [])) _
        refine XS.iloadN X0.here hx rfl (hb hby own_d6_23) rfl ?_
        show Steps p.tables e below (s₁.setTop (mkF m 24 #[.val (.int p0)] [(.int p0)])) _
        refine XS.bipush X0.here hx rfl (hb hby own_d6_24) ?_
        exact k
      refine own_End.go (fun t k => st15 _ k) ?_
      by_cases hc26_16 : (102 : Int32) < p0
      · have st17 : ∀ t, Steps p.tables e below (s₁.setTop (mkF m 40 #[.val (.int p0)] [(.int (65 : Int32)), (.int p0)])) t → Steps p.tables e below (s₁.setTop (mkF m 26 #[.val (.int p0)] [(.int (102 : Int32)), (.int p0)])) t := by
          intro t k
          show Steps p.tables e below (s₁.setTop (mkF m 26 #[.val (.int p0)] [(.int (102 : Int32)), (.int p0)])) _
          refine XS.icmpYes X0.here hx rfl (pc0 := 26) (pc' := 37) rfl (hb hby own_d6_26) rfl (tlt hc26_16).2.2.1 (by decide) (by decide) ?_
          show Steps p.tables e below (s₁.setTop (mkF m 37 #[.val (.int p0)] [])) _
          refine XS.iloadN X0.here hx rfl (hb hby own_d6_37) rfl ?_
          show Steps p.tables e below (s₁.setTop (mkF m 38 #[.val (.int p0)] [(.int p0)])) _
          refine XS.bipush X0.here hx rfl (hb hby own_d6_38) ?_
          exact k
        refine own_End.go (fun t k => st17 _ k) ?_
        by_cases hc40_18 : p0 < (65 : Int32)
        · have st19 : ∀ t, Steps p.tables e below (s₁.setTop (mkF m 58 #[.val (.int p0)] [(.int (-1 : Int32))])) t → Steps p.tables e below (s₁.setTop (mkF m 40 #[.val (.int p0)] [(.int (65 : Int32)), (.int p0)])) t := by
            intro t k
            show Steps p.tables e below (s₁.setTop (mkF m 40 #[.val (.int p0)] [(.int (65 : Int32)), (.int p0)])) _
            refine XS.icmpYes X0.here hx rfl (pc0 := 40) (pc' := 57) rfl (hb hby own_d6_40) rfl (tlt hc40_18).1 (by decide) (by decide) ?_
            show Steps p.tables e below (s₁.setTop (mkF m 57 #[.val (.int p0)] [])) _
            refine XS.iconst X0.here hx rfl (hb hby own_d6_57) ?_
            exact k
          refine own_End.go (fun t k => st19 _ k) ?_
          exact own_leafI X0 hx Bd.notSynchronized Bd.returns (hb hby own_d6_58) ⟨congrArg (fun z => some (Value.int z)) (own_e6_20 hc3_2 hc20_4 hc26_16 hc40_18), rfl, e0⟩ (by decide) (by decide)
        · have st21 : ∀ t, Steps p.tables e below (s₁.setTop (mkF m 46 #[.val (.int p0)] [(.int (70 : Int32)), (.int p0)])) t → Steps p.tables e below (s₁.setTop (mkF m 40 #[.val (.int p0)] [(.int (65 : Int32)), (.int p0)])) t := by
            intro t k
            show Steps p.tables e below (s₁.setTop (mkF m 40 #[.val (.int p0)] [(.int (65 : Int32)), (.int p0)])) _
            refine XS.icmpNo X0.here hx rfl (hb hby own_d6_40) rfl (flt hc40_18).1 ?_
            show Steps p.tables e below (s₁.setTop (mkF m 43 #[.val (.int p0)] [])) _
            refine XS.iloadN X0.here hx rfl (hb hby own_d6_43) rfl ?_
            show Steps p.tables e below (s₁.setTop (mkF m 44 #[.val (.int p0)] [(.int p0)])) _
            refine XS.bipush X0.here hx rfl (hb hby own_d6_44) ?_
            exact k
          refine own_End.go (fun t k => st21 _ k) ?_
          by_cases hc46_22 : (70 : Int32) < p0
          · have st23 : ∀ t, Steps p.tables e below (s₁.setTop (mkF m 58 #[.val (.int p0)] [(.int (-1 : Int32))])) t → Steps p.tables e below (s₁.setTop (mkF m 46 #[.val (.int p0)] [(.int (70 : Int32)), (.int p0)])) t := by
              intro t k
              show Steps p.tables e below (s₁.setTop (mkF m 46 #[.val (.int p0)] [(.int (70 : Int32)), (.int p0)])) _
              refine XS.icmpYes X0.here hx rfl (pc0 := 46) (pc' := 57) rfl (hb hby own_d6_46) rfl (tlt hc46_22).2.2.1 (by decide) (by decide) ?_
              show Steps p.tables e below (s₁.setTop (mkF m 57 #[.val (.int p0)] [])) _
              refine XS.iconst X0.here hx rfl (hb hby own_d6_57) ?_
              exact k
            refine own_End.go (fun t k => st23 _ k) ?_
            exact own_leafI X0 hx Bd.notSynchronized Bd.returns (hb hby own_d6_58) ⟨congrArg (fun z => some (Value.int z)) (own_e6_24 hc3_2 hc20_4 hc26_16 hc40_18 hc46_22), rfl, e0⟩ (by decide) (by decide)
          · have st25 : ∀ t, Steps p.tables e below (s₁.setTop (mkF m 56 #[.val (.int p0)] [(.int ((p0 - (65 : Int32)) + (10 : Int32)))])) t → Steps p.tables e below (s₁.setTop (mkF m 46 #[.val (.int p0)] [(.int (70 : Int32)), (.int p0)])) t := by
              intro t k
              show Steps p.tables e below (s₁.setTop (mkF m 46 #[.val (.int p0)] [(.int (70 : Int32)), (.int p0)])) _
              refine XS.icmpNo X0.here hx rfl (hb hby own_d6_46) rfl (flt hc46_22).2.2.1 ?_
              show Steps p.tables e below (s₁.setTop (mkF m 49 #[.val (.int p0)] [])) _
              refine XS.iloadN X0.here hx rfl (hb hby own_d6_49) rfl ?_
              show Steps p.tables e below (s₁.setTop (mkF m 50 #[.val (.int p0)] [(.int p0)])) _
              refine XS.bipush X0.here hx rfl (hb hby own_d6_50) ?_
              show Steps p.tables e below (s₁.setTop (mkF m 52 #[.val (.int p0)] [(.int (65 : Int32)), (.int p0)])) _
              refine XS.isub X0.here hx rfl (hb hby own_d6_52) rfl ?_
              show Steps p.tables e below (s₁.setTop (mkF m 53 #[.val (.int p0)] [(.int (p0 - (65 : Int32)))])) _
              refine XS.bipush X0.here hx rfl (hb hby own_d6_53) ?_
              show Steps p.tables e below (s₁.setTop (mkF m 55 #[.val (.int p0)] [(.int (10 : Int32)), (.int (p0 - (65 : Int32)))])) _
              refine XS.iadd X0.here hx rfl (hb hby own_d6_55) rfl ?_
              exact k
            refine own_End.go (fun t k => st25 _ k) ?_
            exact own_leafI X0 hx Bd.notSynchronized Bd.returns (hb hby own_d6_56) ⟨congrArg (fun z => some (Value.int z)) (own_e6_26 hc3_2 hc20_4 hc26_16 hc40_18 hc46_22), rfl, e0⟩ (by decide) (by decide)
      · have st27 : ∀ t, Steps p.tables e below (s₁.setTop (mkF m 36 #[.val (.int p0)] [(.int ((p0 - (97 : Int32)) + (10 : Int32)))])) t → Steps p.tables e below (s₁.setTop (mkF m 26 #[.val (.int p0)] [(.int (102 : Int32)), (.int p0)])) t := by
          intro t k
          show Steps p.tables e below (s₁.setTop (mkF m 26 #[.val (.int p0)] [(.int (102 : Int32)), (.int p0)])) _
          refine XS.icmpNo X0.here hx rfl (hb hby own_d6_26) rfl (flt hc26_16).2.2.1 ?_
          show Steps p.tables e below (s₁.setTop (mkF m 29 #[.val (.int p0)] [])) _
          refine XS.iloadN X0.here hx rfl (hb hby own_d6_29) rfl ?_
          show Steps p.tables e below (s₁.setTop (mkF m 30 #[.val (.int p0)] [(.int p0)])) _
          refine XS.bipush X0.here hx rfl (hb hby own_d6_30) ?_
          show Steps p.tables e below (s₁.setTop (mkF m 32 #[.val (.int p0)] [(.int (97 : Int32)), (.int p0)])) _
          refine XS.isub X0.here hx rfl (hb hby own_d6_32) rfl ?_
          show Steps p.tables e below (s₁.setTop (mkF m 33 #[.val (.int p0)] [(.int (p0 - (97 : Int32)))])) _
          refine XS.bipush X0.here hx rfl (hb hby own_d6_33) ?_
          show Steps p.tables e below (s₁.setTop (mkF m 35 #[.val (.int p0)] [(.int (10 : Int32)), (.int (p0 - (97 : Int32)))])) _
          refine XS.iadd X0.here hx rfl (hb hby own_d6_35) rfl ?_
          exact k
        refine own_End.go (fun t k => st27 _ k) ?_
        exact own_leafI X0 hx Bd.notSynchronized Bd.returns (hb hby own_d6_36) ⟨congrArg (fun z => some (Value.int z)) (own_e6_28 hc3_2 hc20_4 hc26_16), rfl, e0⟩ (by decide) (by decide)
  · have st29 : ∀ t, Steps p.tables e below (s₁.setTop (mkF m 9 #[.val (.int p0)] [(.int (57 : Int32)), (.int p0)])) t → Steps p.tables e below (s₁.setTop (mkF m 3 #[.val (.int p0)] [(.int (48 : Int32)), (.int p0)])) t := by
      intro t k
      show Steps p.tables e below (s₁.setTop (mkF m 3 #[.val (.int p0)] [(.int (48 : Int32)), (.int p0)])) _
      refine XS.icmpNo X0.here hx rfl (hb hby own_d6_3) rfl (flt hc3_2).1 ?_
      show Steps p.tables e below (s₁.setTop (mkF m 6 #[.val (.int p0)] [])) _
      refine XS.iloadN X0.here hx rfl (hb hby own_d6_6) rfl ?_
      show Steps p.tables e below (s₁.setTop (mkF m 7 #[.val (.int p0)] [(.int p0)])) _
      refine XS.bipush X0.here hx rfl (hb hby own_d6_7) ?_
      exact k
    refine own_End.go (fun t k => st29 _ k) ?_
    by_cases hc9_30 : (57 : Int32) < p0
    · have st31 : ∀ t, Steps p.tables e below (s₁.setTop (mkF m 20 #[.val (.int p0)] [(.int (97 : Int32)), (.int p0)])) t → Steps p.tables e below (s₁.setTop (mkF m 9 #[.val (.int p0)] [(.int (57 : Int32)), (.int p0)])) t := by
        intro t k
        show Steps p.tables e below (s₁.setTop (mkF m 9 #[.val (.int p0)] [(.int (57 : Int32)), (.int p0)])) _
        refine XS.icmpYes X0.here hx rfl (pc0 := 9) (pc' := 17) rfl (hb hby own_d6_9) rfl (tlt hc9_30).2.2.1 (by decide) (by decide) ?_
        show Steps p.tables e below (s₁.setTop (mkF m 17 #[.val (.int p0)] [])) _
        refine XS.iloadN X0.here hx rfl (hb hby own_d6_17) rfl ?_
        show Steps p.tables e below (s₁.setTop (mkF m 18 #[.val (.int p0)] [(.int p0)])) _
        refine XS.bipush X0.here hx rfl (hb hby own_d6_18) ?_
        exact k
      refine own_End.go (fun t k => st31 _ k) ?_
      by_cases hc20_32 : p0 < (97 : Int32)
      · have st33 : ∀ t, Steps p.tables e below (s₁.setTop (mkF m 40 #[.val (.int p0)] [(.int (65 : Int32)), (.int p0)])) t → Steps p.tables e below (s₁.setTop (mkF m 20 #[.val (.int p0)] [(.int (97 : Int32)), (.int p0)])) t := by
          intro t k
          show Steps p.tables e below (s₁.setTop (mkF m 20 #[.val (.int p0)] [(.int (97 : Int32)), (.int p0)])) _
          refine XS.icmpYes X0.here hx rfl (pc0 := 20) (pc' := 37) rfl (hb hby own_d6_20) rfl (tlt hc20_32).1 (by decide) (by decide) ?_
          show Steps p.tables e below (s₁.setTop (mkF m 37 #[.val (.int p0)] [])) _
          refine XS.iloadN X0.here hx rfl (hb hby own_d6_37) rfl ?_
          show Steps p.tables e below (s₁.setTop (mkF m 38 #[.val (.int p0)] [(.int p0)])) _
          refine XS.bipush X0.here hx rfl (hb hby own_d6_38) ?_
          exact k
        refine own_End.go (fun t k => st33 _ k) ?_
        by_cases hc40_34 : p0 < (65 : Int32)
        · have st35 : ∀ t, Steps p.tables e below (s₁.setTop (mkF m 58 #[.val (.int p0)] [(.int (-1 : Int32))])) t → Steps p.tables e below (s₁.setTop (mkF m 40 #[.val (.int p0)] [(.int (65 : Int32)), (.int p0)])) t := by
            intro t k
            show Steps p.tables e below (s₁.setTop (mkF m 40 #[.val (.int p0)] [(.int (65 : Int32)), (.int p0)])) _
            refine XS.icmpYes X0.here hx rfl (pc0 := 40) (pc' := 57) rfl (hb hby own_d6_40) rfl (tlt hc40_34).1 (by decide) (by decide) ?_
            show Steps p.tables e below (s₁.setTop (mkF m 57 #[.val (.int p0)] [])) _
            refine XS.iconst X0.here hx rfl (hb hby own_d6_57) ?_
            exact k
          refine own_End.go (fun t k => st35 _ k) ?_
          exact own_leafI X0 hx Bd.notSynchronized Bd.returns (hb hby own_d6_58) ⟨congrArg (fun z => some (Value.int z)) (own_e6_36 hc3_2 hc9_30 hc20_32 hc40_34), rfl, e0⟩ (by decide) (by decide)
        · have st37 : ∀ t, Steps p.tables e below (s₁.setTop (mkF m 46 #[.val (.int p0)] [(.int (70 : Int32)), (.int p0)])) t → Steps p.tables e below (s₁.setTop (mkF m 40 #[.val (.int p0)] [(.int (65 : Int32)), (.int p0)])) t := by
            intro t k
            show Steps p.tables e below (s₁.setTop (mkF m 40 #[.val (.int p0)] [(.int (65 : Int32)), (.int p0)])) _
            refine XS.icmpNo X0.here hx rfl (hb hby own_d6_40) rfl (flt hc40_34).1 ?_
            show Steps p.tables e below (s₁.setTop (mkF m 43 #[.val (.int p0)] [])) _
            refine XS.iloadN X0.here hx rfl (hb hby own_d6_43) rfl ?_
            show Steps p.tables e below (s₁.setTop (mkF m 44 #[.val (.int p0)] [(.int p0)])) _
            refine XS.bipush X0.here hx rfl (hb hby own_d6_44) ?_
            exact k
          refine own_End.go (fun t k => st37 _ k) ?_
          by_cases hc46_38 : (70 : Int32) < p0
          · have st39 : ∀ t, Steps p.tables e below (s₁.setTop (mkF m 58 #[.val (.int p0)] [(.int (-1 : Int32))])) t → Steps p.tables e below (s₁.setTop (mkF m 46 #[.val (.int p0)] [(.int (70 : Int32)), (.int p0)])) t := by
              intro t k
              show Steps p.tables e below (s₁.setTop (mkF m 46 #[.val (.int p0)] [(.int (70 : Int32)), (.int p0)])) _
              refine XS.icmpYes X0.here hx rfl (pc0 := 46) (pc' := 57) rfl (hb hby own_d6_46) rfl (tlt hc46_38).2.2.1 (by decide) (by decide) ?_
              show Steps p.tables e below (s₁.setTop (mkF m 57 #[.val (.int p0)] [])) _
              refine XS.iconst X0.here hx rfl (hb hby own_d6_57) ?_
              exact k
            refine own_End.go (fun t k => st39 _ k) ?_
            exact own_leafI X0 hx Bd.notSynchronized Bd.returns (hb hby own_d6_58) ⟨congrArg (fun z => some (Value.int z)) (own_e6_40 hc3_2 hc9_30 hc20_32 hc40_34 hc46_38), rfl, e0⟩ (by decide) (by decide)
          · have st41 : ∀ t, Steps p.tables e below (s₁.setTop (mkF m 56 #[.val (.int p0)] [(.int ((p0 - (65 : Int32)) + (10 : Int32)))])) t → Steps p.tables e below (s₁.setTop (mkF m 46 #[.val (.int p0)] [(.int (70 : Int32)), (.int p0)])) t := by
              intro t k
              show Steps p.tables e below (s₁.setTop (mkF m 46 #[.val (.int p0)] [(.int (70 : Int32)), (.int p0)])) _
              refine XS.icmpNo X0.here hx rfl (hb hby own_d6_46) rfl (flt hc46_38).2.2.1 ?_
              show Steps p.tables e below (s₁.setTop (mkF m 49 #[.val (.int p0)] [])) _
              refine XS.iloadN X0.here hx rfl (hb hby own_d6_49) rfl ?_
              show Steps p.tables e below (s₁.setTop (mkF m 50 #[.val (.int p0)] [(.int p0)])) _
              refine XS.bipush X0.here hx rfl (hb hby own_d6_50) ?_
              show Steps p.tables e below (s₁.setTop (mkF m 52 #[.val (.int p0)] [(.int (65 : Int32)), (.int p0)])) _
              refine XS.isub X0.here hx rfl (hb hby own_d6_52) rfl ?_
              show Steps p.tables e below (s₁.setTop (mkF m 53 #[.val (.int p0)] [(.int (p0 - (65 : Int32)))])) _
              refine XS.bipush X0.here hx rfl (hb hby own_d6_53) ?_
              show Steps p.tables e below (s₁.setTop (mkF m 55 #[.val (.int p0)] [(.int (10 : Int32)), (.int (p0 - (65 : Int32)))])) _
              refine XS.iadd X0.here hx rfl (hb hby own_d6_55) rfl ?_
              exact k
            refine own_End.go (fun t k => st41 _ k) ?_
            exact own_leafI X0 hx Bd.notSynchronized Bd.returns (hb hby own_d6_56) ⟨congrArg (fun z => some (Value.int z)) (own_e6_42 hc3_2 hc9_30 hc20_32 hc40_34 hc46_38), rfl, e0⟩ (by decide) (by decide)
      · have st43 : ∀ t, Steps p.tables e below (s₁.setTop (mkF m 26 #[.val (.int p0)] [(.int (102 : Int32)), (.int p0)])) t → Steps p.tables e below (s₁.setTop (mkF m 20 #[.val (.int p0)] [(.int (97 : Int32)), (.int p0)])) t := by
          intro t k
          show Steps p.tables e below (s₁.setTop (mkF m 20 #[.val (.int p0)] [(.int (97 : Int32)), (.int p0)])) _
          refine XS.icmpNo X0.here hx rfl (hb hby own_d6_20) rfl (flt hc20_32).1 ?_
          show Steps p.tables e below (s₁.setTop (mkF m 23 #[.val (.int p0)] [])) _
          refine XS.iloadN X0.here hx rfl (hb hby own_d6_23) rfl ?_
          show Steps p.tables e below (s₁.setTop (mkF m 24 #[.val (.int p0)] [(.int p0)])) _
          refine XS.bipush X0.here hx rfl (hb hby own_d6_24) ?_
          exact k
        refine own_End.go (fun t k => st43 _ k) ?_
        by_cases hc26_44 : (102 : Int32) < p0
        · have st45 : ∀ t, Steps p.tables e below (s₁.setTop (mkF m 40 #[.val (.int p0)] [(.int (65 : Int32)), (.int p0)])) t → Steps p.tables e below (s₁.setTop (mkF m 26 #[.val (.int p0)] [(.int (102 : Int32)), (.int p0)])) t := by
            intro t k
            show Steps p.tables e below (s₁.setTop (mkF m 26 #[.val (.int p0)] [(.int (102 : Int32)), (.int p0)])) _
            refine XS.icmpYes X0.here hx rfl (pc0 := 26) (pc' := 37) rfl (hb hby own_d6_26) rfl (tlt hc26_44).2.2.1 (by decide) (by decide) ?_
            show Steps p.tables e below (s₁.setTop (mkF m 37 #[.val (.int p0)] [])) _
            refine XS.iloadN X0.here hx rfl (hb hby own_d6_37) rfl ?_
            show Steps p.tables e below (s₁.setTop (mkF m 38 #[.val (.int p0)] [(.int p0)])) _
            refine XS.bipush X0.here hx rfl (hb hby own_d6_38) ?_
            exact k
          refine own_End.go (fun t k => st45 _ k) ?_
          by_cases hc40_46 : p0 < (65 : Int32)
          · have st47 : ∀ t, Steps p.tables e below (s₁.setTop (mkF m 58 #[.val (.int p0)] [(.int (-1 : Int32))])) t → Steps p.tables e below (s₁.setTop (mkF m 40 #[.val (.int p0)] [(.int (65 : Int32)), (.int p0)])) t := by
              intro t k
              show Steps p.tables e below (s₁.setTop (mkF m 40 #[.val (.int p0)] [(.int (65 : Int32)), (.int p0)])) _
              refine XS.icmpYes X0.here hx rfl (pc0 := 40) (pc' := 57) rfl (hb hby own_d6_40) rfl (tlt hc40_46).1 (by decide) (by decide) ?_
              show Steps p.tables e below (s₁.setTop (mkF m 57 #[.val (.int p0)] [])) _
              refine XS.iconst X0.here hx rfl (hb hby own_d6_57) ?_
              exact k
            refine own_End.go (fun t k => st47 _ k) ?_
            exact own_leafI X0 hx Bd.notSynchronized Bd.returns (hb hby own_d6_58) ⟨congrArg (fun z => some (Value.int z)) (own_e6_48 hc3_2 hc9_30 hc20_32 hc26_44 hc40_46), rfl, e0⟩ (by decide) (by decide)
          · have st49 : ∀ t, Steps p.tables e below (s₁.setTop (mkF m 46 #[.val (.int p0)] [(.int (70 : Int32)), (.int p0)])) t → Steps p.tables e below (s₁.setTop (mkF m 40 #[.val (.int p0)] [(.int (65 : Int32)), (.int p0)])) t := by
              intro t k
              show Steps p.tables e below (s₁.setTop (mkF m 40 #[.val (.int p0)] [(.int (65 : Int32)), (.int p0)])) _
              refine XS.icmpNo X0.here hx rfl (hb hby own_d6_40) rfl (flt hc40_46).1 ?_
              show Steps p.tables e below (s₁.setTop (mkF m 43 #[.val (.int p0)] [])) _
              refine XS.iloadN X0.here hx rfl (hb hby own_d6_43) rfl ?_
              show Steps p.tables e below (s₁.setTop (mkF m 44 #[.val (.int p0)] [(.int p0)])) _
              refine XS.bipush X0.here hx rfl (hb hby own_d6_44) ?_
              exact k
            refine own_End.go (fun t k => st49 _ k) ?_
            by_cases hc46_50 : (70 : Int32) < p0
            · have st51 : ∀ t, Steps p.tables e below (s₁.setTop (mkF m 58 #[.val (.int p0)] [(.int (-1 : Int32))])) t → Steps p.tables e below (s₁.setTop (mkF m 46 #[.val (.int p0)] [(.int (70 : Int32)), (.int p0)])) t := by
                intro t k
                show Steps p.tables e below (s₁.setTop (mkF m 46 #[.val (.int p0)] [(.int (70 : Int32)), (.int p0)])) _
                refine XS.icmpYes X0.here hx rfl (pc0 := 46) (pc' := 57) rfl (hb hby own_d6_46) rfl (tlt hc46_50).2.2.1 (by decide) (by decide) ?_
                show Steps p.tables e below (s₁.setTop (mkF m 57 #[.val (.int p0)] [])) _
                refine XS.iconst X0.here hx rfl (hb hby own_d6_57) ?_
                exact k
              refine own_End.go (fun t k => st51 _ k) ?_
              exact own_leafI X0 hx Bd.notSynchronized Bd.returns (hb hby own_d6_58) ⟨congrArg (fun z => some (Value.int z)) (own_e6_52 hc3_2 hc9_30 hc20_32 hc26_44 hc40_46 hc46_50), rfl, e0⟩ (by decide) (by decide)
            · have st53 : ∀ t, Steps p.tables e below (s₁.setTop (mkF m 56 #[.val (.int p0)] [(.int ((p0 - (65 : Int32)) + (10 : Int32)))])) t → Steps p.tables e below (s₁.setTop (mkF m 46 #[.val (.int p0)] [(.int (70 : Int32)), (.int p0)])) t := by
                intro t k
                show Steps p.tables e below (s₁.setTop (mkF m 46 #[.val (.int p0)] [(.int (70 : Int32)), (.int p0)])) _
                refine XS.icmpNo X0.here hx rfl (hb hby own_d6_46) rfl (flt hc46_50).2.2.1 ?_
                show Steps p.tables e below (s₁.setTop (mkF m 49 #[.val (.int p0)] [])) _
                refine XS.iloadN X0.here hx rfl (hb hby own_d6_49) rfl ?_
                show Steps p.tables e below (s₁.setTop (mkF m 50 #[.val (.int p0)] [(.int p0)])) _
                refine XS.bipush X0.here hx rfl (hb hby own_d6_50) ?_
                show Steps p.tables e below (s₁.setTop (mkF m 52 #[.val (.int p0)] [(.int (65 : Int32)), (.int p0)])) _
                refine XS.isub X0.here hx rfl (hb hby own_d6_52) rfl ?_
                show Steps p.tables e below (s₁.setTop (mkF m 53 #[.val (.int p0)] [(.int (p0 - (65 : Int32)))])) _
                refine XS.bipush X0.here hx rfl (hb hby own_d6_53) ?_
                show Steps p.tables e below (s₁.setTop (mkF m 55 #[.val (.int p0)] [(.int (10 : Int32)), (.int (p0 - (65 : Int32)))])) _
                refine XS.iadd X0.here hx rfl (hb hby own_d6_55) rfl ?_
                exact k
              refine own_End.go (fun t k => st53 _ k) ?_
              exact own_leafI X0 hx Bd.notSynchronized Bd.returns (hb hby own_d6_56) ⟨congrArg (fun z => some (Value.int z)) (own_e6_54 hc3_2 hc9_30 hc20_32 hc26_44 hc40_46 hc46_50), rfl, e0⟩ (by decide) (by decide)
        · have st55 : ∀ t, Steps p.tables e below (s₁.setTop (mkF m 36 #[.val (.int p0)] [(.int ((p0 - (97 : Int32)) + (10 : Int32)))])) t → Steps p.tables e below (s₁.setTop (mkF m 26 #[.val (.int p0)] [(.int (102 : Int32)), (.int p0)])) t := by
            intro t k
            show Steps p.tables e below (s₁.setTop (mkF m 26 #[.val (.int p0)] [(.int (102 : Int32)), (.int p0)])) _
            refine XS.icmpNo X0.here hx rfl (hb hby own_d6_26) rfl (flt hc26_44).2.2.1 ?_
            show Steps p.tables e below (s₁.setTop (mkF m 29 #[.val (.int p0)] [])) _
            refine XS.iloadN X0.here hx rfl (hb hby own_d6_29) rfl ?_
            show Steps p.tables e below (s₁.setTop (mkF m 30 #[.val (.int p0)] [(.int p0)])) _
            refine XS.bipush X0.here hx rfl (hb hby own_d6_30) ?_
            show Steps p.tables e below (s₁.setTop (mkF m 32 #[.val (.int p0)] [(.int (97 : Int32)), (.int p0)])) _
            refine XS.isub X0.here hx rfl (hb hby own_d6_32) rfl ?_
            show Steps p.tables e below (s₁.setTop (mkF m 33 #[.val (.int p0)] [(.int (p0 - (97 : Int32)))])) _
            refine XS.bipush X0.here hx rfl (hb hby own_d6_33) ?_
            show Steps p.tables e below (s₁.setTop (mkF m 35 #[.val (.int p0)] [(.int (10 : Int32)), (.int (p0 - (97 : Int32)))])) _
            refine XS.iadd X0.here hx rfl (hb hby own_d6_35) rfl ?_
            exact k
          refine own_End.go (fun t k => st55 _ k) ?_
          exact own_leafI X0 hx Bd.notSynchronized Bd.returns (hb hby own_d6_36) ⟨congrArg (fun z => some (Value.int z)) (own_e6_56 hc3_2 hc9_30 hc20_32 hc26_44), rfl, e0⟩ (by decide) (by decide)
    · have st57 : ∀ t, Steps p.tables e below (s₁.setTop (mkF m 16 #[.val (.int p0)] [(.int (p0 - (48 : Int32)))])) t → Steps p.tables e below (s₁.setTop (mkF m 9 #[.val (.int p0)] [(.int (57 : Int32)), (.int p0)])) t := by
        intro t k
        show Steps p.tables e below (s₁.setTop (mkF m 9 #[.val (.int p0)] [(.int (57 : Int32)), (.int p0)])) _
        refine XS.icmpNo X0.here hx rfl (hb hby own_d6_9) rfl (flt hc9_30).2.2.1 ?_
        show Steps p.tables e below (s₁.setTop (mkF m 12 #[.val (.int p0)] [])) _
        refine XS.iloadN X0.here hx rfl (hb hby own_d6_12) rfl ?_
        show Steps p.tables e below (s₁.setTop (mkF m 13 #[.val (.int p0)] [(.int p0)])) _
        refine XS.bipush X0.here hx rfl (hb hby own_d6_13) ?_
        show Steps p.tables e below (s₁.setTop (mkF m 15 #[.val (.int p0)] [(.int (48 : Int32)), (.int p0)])) _
        refine XS.isub X0.here hx rfl (hb hby own_d6_15) rfl ?_
        exact k
      refine own_End.go (fun t k => st57 _ k) ?_
      exact own_leafI X0 hx Bd.notSynchronized Bd.returns (hb hby own_d6_16) ⟨congrArg (fun z => some (Value.int z)) (own_e6_58 hc3_2 hc9_30), rfl, e0⟩ (by decide) (by decide)
theorem own_d5_0 : decode jdk_41_method_11_code 0 = .ok (.iload_n 0, 1) := by decide +kernel
theorem own_d5_1 : decode jdk_41_method_11_code 1 = .ok (.ifCond .lt 8, 3) := by decide +kernel
theorem own_d5_4 : decode jdk_41_method_11_code 4 = .ok (.iload_n 0, 1) := by decide +kernel
theorem own_d5_5 : decode jdk_41_method_11_code 5 = .ok (.iload_n 1, 1) := by decide +kernel
theorem own_d5_6 : decode jdk_41_method_11_code 6 = .ok (.if_icmp .lt 10, 3) := by decide +kernel
theorem own_d5_16 : decode jdk_41_method_11_code 16 = .ok (.iload_n 0, 1) := by decide +kernel
theorem own_d5_17 : decode jdk_41_method_11_code 17 = .ok (.ireturn, 1) := by decide +kernel
theorem own_pn5 : plainName "jdk/internal/util/Preconditions" = true := by first | (simp [plainName, overriddenIn]; done) | decide +kernel
theorem own_ef5 (m : MethodId) (p0 : Int32) (p1 : Int32) (x2 : Value) (hr2 : x2.isRef = true) : entryFrame m #[(.int p0), (.int p1), x2] 3 = mkF m 0 #[.val (.int p0), .val (.int p1), .val x2] [] := by
  cases x2 <;> first | (simp [Value.isRef] at hr2; done) | (simp [entryFrame, mkF, argsToLocals, Value.category]; done) | rfl
abbrev own_R5 : Room := { frames := 0, cells := 0, slots := 0, locals := 0 }
def own_F5 (p0 : Int32) (p1 : Int32) : Int32 :=
  p0
def own_Q5 (Z : State) (p0 : Int32) (p1 : Int32) (x2 : Value) (h0 : Heap) (n0 : Nat) (vz : Option Value) (h : Heap) (Lz : List Loc) : Prop := vz = some (.int (own_F5 p0 p1)) ∧ Lz = [] ∧ h = h0
theorem own_e5_2 {p0 : Int32} {p1 : Int32} : p0 = (own_F5 p0 p1) := by
  skip
  first
    | (simp only [own_F5]; done)
    | (exfalso; contradiction)
set_option maxRecDepth 65536 in
set_option maxHeartbeats 40000000 in
theorem own_rm5 (l : Launch) (Z : State) (a0 : Array Value) (hw : ∀ d ∈ tables_1, d.before a0 Z = true) (ws : List Jvm.Cond) (p0 : Int32) (p1 : Int32) (x2 : Value) (h0 : Heap) (n0 : Nat) (Z0 : n0 ≤ h0.size) (hr2 : x2.isRef = true) (n0x : ¬ p0 < (0 : Int32)) (n1x : p0 < p1) :
    MetFree l (⟨"jdk/internal/util/Preconditions", "checkIndex", "(IILjava/util/function/BiFunction;)I"⟩ : MethodName) (head1 (Jvm.Cond.code (⟨"jdk/internal/util/Preconditions", "checkIndex", "(IILjava/util/function/BiFunction;)I"⟩ : MethodName) jdk_41_method_11_code 3 (some .int) :: ws) own_R5) (fun a U => a = #[(.int p0), (.int p1), x2] ∧ Z.Warmed39 U.vm ∧ U.heap = h0) (fun _ _ _ _ _ => True) (fun _ U o U' => ∃ vz Lz, o = .returned vz ∧ own_Q5 Z p0 p1 x2 h0 n0 vz U'.heap Lz ∧ FrameEnd U o U' Lz own_R5.cells own_R5.slots) := by
  refine MetFree.of_bodySF (plainFor_of_name own_pn5) hisR ?_
  intro p e s m args below meth c s₁ Bd hml0 hP hK
  obtain ⟨rfl, hZ, hh⟩ := hP
  have hx := Bd.exec
  have hby := Bd.bytes
  have hml : c.maxLocals = 3 := hml0
  have hown : s.vm.findClass "jdk/internal/util/Preconditions" = some m.cls := findClass_of_methodNamed Bd.named
  have hnm := (name_of_methodNamed Bd.named Bd.method).1
  have X0 : Stand p l e own_R5 s m #[(.int p0), (.int p1), x2] below meth c s₁ [] 0 0 := Stand.of_body Bd
  have e0 : s₁.heap = h0 := by rw [← hh, Bd.state]; rfl
  show own_End p e below s (fun vz h Lz => vz = some (.int (own_F5 p0 p1)) ∧ Lz = [] ∧ h = h0) own_R5.cells own_R5.slots s₁ (entryFrame m #[(.int p0), (.int p1), x2] 3)
  refine own_End.go (fun t k => castTop (own_ef5 m p0 p1 x2 hr2) k) ?_
  show own_End p e below s _ _ _ s₁ (mkF m 0 #[.val (.int p0), .val (.int p1), .val x2] [])
  have N0 := Fr.nil n0
  have K0 : Keep h0 h0 [] := Keep.refl h0 _
  have st1 : ∀ t, Steps p.tables e below (s₁.setTop (mkF m 17 #[.val (.int p0), .val (.int p1), .val x2] [(.int p0)])) t → Steps p.tables e below (s₁.setTop (mkF m 0 #[.val (.int p0), .val (.int p1), .val x2] [])) t := by
    intro t k
    show Steps p.tables e below (s₁.setTop (mkF m 0 #[.val (.int p0), .val (.int p1), .val x2] [])) _
    refine XS.iloadN X0.here hx rfl (hb hby own_d5_0) rfl ?_
    show Steps p.tables e below (s₁.setTop (mkF m 1 #[.val (.int p0), .val (.int p1), .val x2] [(.int p0)])) _
    refine XS.ifNo X0.here hx rfl (hb hby own_d5_1) rfl ((if0 _ _).trans (flt n0x).1) ?_
    show Steps p.tables e below (s₁.setTop (mkF m 4 #[.val (.int p0), .val (.int p1), .val x2] [])) _
    refine XS.iloadN X0.here hx rfl (hb hby own_d5_4) rfl ?_
    show Steps p.tables e below (s₁.setTop (mkF m 5 #[.val (.int p0), .val (.int p1), .val x2] [(.int p0)])) _
    refine XS.iloadN X0.here hx rfl (hb hby own_d5_5) rfl ?_
    show Steps p.tables e below (s₁.setTop (mkF m 6 #[.val (.int p0), .val (.int p1), .val x2] [(.int p1), (.int p0)])) _
    refine XS.icmpYes X0.here hx rfl (pc0 := 6) (pc' := 16) rfl (hb hby own_d5_6) rfl (tlt n1x).1 (by decide) (by decide) ?_
    show Steps p.tables e below (s₁.setTop (mkF m 16 #[.val (.int p0), .val (.int p1), .val x2] [])) _
    refine XS.iloadN X0.here hx rfl (hb hby own_d5_16) rfl ?_
    exact k
  refine own_End.go (fun t k => st1 _ k) ?_
  exact own_leafI X0 hx Bd.notSynchronized Bd.returns (hb hby own_d5_17) ⟨congrArg (fun z => some (Value.int z)) (own_e5_2), rfl, e0⟩ (by decide) (by decide)
theorem own_d4_0 : decode jdk_42_method_155_code 0 = .ok (.iload_n 0, 1) := by decide +kernel
theorem own_d4_1 : decode jdk_42_method_155_code 1 = .ok (.iload_n 1, 1) := by decide +kernel
theorem own_d4_2 : decode jdk_42_method_155_code 2 = .ok (.getstatic 1053, 3) := by decide +kernel
theorem own_d4_5 : decode jdk_42_method_155_code 5 = .ok (.invokestatic 1059, 3) := by decide +kernel
theorem own_d4_8 : decode jdk_42_method_155_code 8 = .ok (.pop, 1) := by decide +kernel
theorem own_d4_9 : decode jdk_42_method_155_code 9 = .ok (.return_, 1) := by decide +kernel
theorem own_pn4 : plainName "java/lang/String" = true := by first | (simp [plainName, overriddenIn]; done) | decide +kernel
theorem own_ef4 (m : MethodId) (p0 : Int32) (p1 : Int32) : entryFrame m #[(.int p0), (.int p1)] 2 = mkF m 0 #[.val (.int p0), .val (.int p1)] [] := by first | (simp [entryFrame, mkF, argsToLocals, Value.category]; done) | rfl
abbrev own_R4 : Room := { frames := 1, cells := 0, slots := 0, locals := 14 }
def own_Q4 (Z : State) (p0 : Int32) (p1 : Int32) (wf : Value) (h0 : Heap) (n0 : Nat) (vz : Option Value) (h : Heap) (Lz : List Loc) : Prop := vz = none ∧ Lz = [] ∧ h = h0
set_option maxRecDepth 65536 in
set_option maxHeartbeats 40000000 in
theorem own_rm4 (l : Launch) (Z : State) (a0 : Array Value) (hw : ∀ d ∈ tables_1, d.before a0 Z = true) (ws : List Jvm.Cond) (p0 : Int32) (p1 : Int32) (wf : Value) (h0 : Heap) (n0 : Nat) (Z0 : n0 ≤ h0.size) (S_SIOOBE_FORMATTER : Sta Z h0 "jdk/internal/util/Preconditions" "SIOOBE_FORMATTER" "Ljava/util/function/BiFunction;" wf) (hwf : wf.isRef = true) (n0x : ¬ p0 < (0 : Int32)) (n1x : p0 < p1) :
    MetFree l (⟨"java/lang/String", "checkIndex", "(II)V"⟩ : MethodName) (head1 (Jvm.Cond.code (⟨"java/lang/String", "checkIndex", "(II)V"⟩ : MethodName) jdk_42_method_155_code 2 none :: ws) own_R4) (fun a U => a = #[(.int p0), (.int p1)] ∧ Z.Warmed39 U.vm ∧ U.heap = h0) (fun _ _ _ _ _ => True) (fun _ U o U' => ∃ vz Lz, o = .returned vz ∧ own_Q4 Z p0 p1 wf h0 n0 vz U'.heap Lz ∧ FrameEnd U o U' Lz own_R4.cells own_R4.slots) := by
  refine MetFree.of_bodySF (plainFor_of_name own_pn4) hisR ?_
  intro p e s m args below meth c s₁ Bd hml0 hP hK
  obtain ⟨rfl, hZ, hh⟩ := hP
  have hx := Bd.exec
  have hby := Bd.bytes
  have hml : c.maxLocals = 2 := hml0
  have hown : s.vm.findClass "java/lang/String" = some m.cls := findClass_of_methodNamed Bd.named
  have hnm := (name_of_methodNamed Bd.named Bd.method).1
  have X0 : Stand p l e own_R4 s m #[(.int p0), (.int p1)] below meth c s₁ [] 0 0 := Stand.of_body Bd
  have e0 : s₁.heap = h0 := by rw [← hh, Bd.state]; rfl
  show own_End p e below s (fun vz h Lz => vz = none ∧ Lz = [] ∧ h = h0) own_R4.cells own_R4.slots s₁ (entryFrame m #[(.int p0), (.int p1)] 2)
  refine own_End.go (fun t k => castTop (own_ef4 m p0 p1) k) ?_
  show own_End p e below s _ _ _ s₁ (mkF m 0 #[.val (.int p0), .val (.int p1)] [])
  have N0 := Fr.nil n0
  have K0 : Keep h0 h0 [] := Keep.refl h0 _
  have st1 : ∀ t, Steps p.tables e below (s₁.setTop (mkF m 2 #[.val (.int p0), .val (.int p1)] [(.int p1), (.int p0)])) t → Steps p.tables e below (s₁.setTop (mkF m 0 #[.val (.int p0), .val (.int p1)] [])) t := by
    intro t k
    show Steps p.tables e below (s₁.setTop (mkF m 0 #[.val (.int p0), .val (.int p1)] [])) _
    refine XS.iloadN X0.here hx rfl (hb hby own_d4_0) rfl ?_
    show Steps p.tables e below (s₁.setTop (mkF m 1 #[.val (.int p0), .val (.int p1)] [(.int p0)])) _
    refine XS.iloadN X0.here hx rfl (hb hby own_d4_1) rfl ?_
    exact k
  obtain ⟨T2, X2, e2, st2⟩ := getS2 X0 hx hZ hown (host := "") (Or.inl (hw _ (List.mem_of_getElem? (i := 29) rfl))) Via.refl e0 S_SIOOBE_FORMATTER (g := (mkF m 2 #[.val (.int p0), .val (.int p1)] [(.int p1), (.int p0)])) rfl (hb hby own_d4_2)
  obtain ⟨_, _, ⟨T3, L3, k3, n3⟩, -, X3, ⟨Lc3, hQ3, l3, y3, z3⟩, st3⟩ := Jvm.LawKit.callS X2 hx (y := (⟨"jdk/internal/util/Preconditions", "checkIndex", "(IILjava/util/function/BiFunction;)I"⟩ : MethodName)) hown (mvT hZ (hw _ (List.mem_of_getElem? (i := 31) rfl))) (mvT hZ (hw _ (List.mem_of_getElem? (i := 32) rfl))) (mvT hZ (hw _ (List.mem_of_getElem? (i := 30) rfl))) (mvT hZ (hw _ (List.mem_of_getElem? (i := 33) rfl))) (by decide) (backOf (W := 0) (own_rm5 l Z a0 hw [] p0 p1 wf h0 n0 Z0 (hwf) (n0x) (n1x)) hZ (hw _ (List.mem_of_getElem? (i := 33) rfl)) (hw _ (List.mem_of_getElem? (i := 30) rfl)) (by decide) (by decide)) (g := (mkF m 5 #[.val (.int p0), .val (.int p1)] [wf, (.int p1), (.int p0)])) rfl (by rw [hml]; rfl) (argsL := [(.int p0), (.int p1), wf]) (rest := []) (lenOf own_pd0 rfl) rfl (by show 2 * 0 + _ ≤ _; exact Nat.le_of_eq rfl) (hb hby own_d4_5) (fun _ _ => ⟨rfl, e2, (by decide : 0 + 0 ≤ _), (by decide : 0 + 0 ≤ _)⟩)
  dsimp only [Pt.U, Pt.locs, Pt.cells, Pt.slots] at X3 l3 y3 z3 st3 hQ3
  subst y3 z3
  obtain ⟨rfl, rfl, e3⟩ := hQ3
  have X3' : Stand p l e own_R4 s m #[(.int p0), (.int p1)] below meth c T3 [] 0 0 := by rw [show L3 = [] from by rw [l3]; first | rfl | exact List.append_nil _] at X3; exact X3
  obtain ⟨v4, hv4⟩ : ∃ z : Int32, z = (own_F5 p0 p1) := ⟨_, rfl⟩
  rw [← hv4] at st3
  have st5 : ∀ t, Steps p.tables e below (T3.setTop (mkF m 9 #[.val (.int p0), .val (.int p1)] [])) t → Steps p.tables e below (T3.setTop (mkF m 8 #[.val (.int p0), .val (.int p1)] [(.int v4)])) t := by
    intro t k
    show Steps p.tables e below (T3.setTop (mkF m 8 #[.val (.int p0), .val (.int p1)] [(.int v4)])) _
    refine XS.pop X3'.here hx rfl (hb hby own_d4_8) rfl rfl ?_
    exact k
  refine own_End.go (fun t k => st1 _ (st2 _ (st3 _ (st5 _ k)))) ?_
  exact own_leafV X3' hx Bd.notSynchronized Bd.returns (hb hby own_d4_9) ⟨rfl, rfl, e3⟩ (by decide) (by decide)
theorem own_d3_0 : decode jdk_43_method_2_code 0 = .ok (.iload_n 1, 1) := by decide +kernel
theorem own_d3_1 : decode jdk_43_method_2_code 1 = .ok (.aload_n 0, 1) := by decide +kernel
theorem own_d3_2 : decode jdk_43_method_2_code 2 = .ok (.arraylength, 1) := by decide +kernel
theorem own_d3_3 : decode jdk_43_method_2_code 3 = .ok (.invokestatic 9, 3) := by decide +kernel
theorem own_d3_6 : decode jdk_43_method_2_code 6 = .ok (.aload_n 0, 1) := by decide +kernel
theorem own_d3_7 : decode jdk_43_method_2_code 7 = .ok (.iload_n 1, 1) := by decide +kernel
theorem own_d3_8 : decode jdk_43_method_2_code 8 = .ok (.baload, 1) := by decide +kernel
theorem own_d3_9 : decode jdk_43_method_2_code 9 = .ok (.sipush 255, 3) := by decide +kernel
theorem own_d3_12 : decode jdk_43_method_2_code 12 = .ok (.iand, 1) := by decide +kernel
theorem own_d3_13 : decode jdk_43_method_2_code 13 = .ok (.i2c, 1) := by decide +kernel
theorem own_d3_14 : decode jdk_43_method_2_code 14 = .ok (.ireturn, 1) := by decide +kernel
theorem own_pn3 : plainName "java/lang/StringLatin1" = true := by first | (simp [plainName, overriddenIn]; done) | decide +kernel
theorem own_ef3 (m : MethodId) (o0 : Addr) (p1 : Int32) : entryFrame m #[(.ref o0), (.int p1)] 2 = mkF m 0 #[.val (.ref o0), .val (.int p1)] [] := by first | (simp [entryFrame, mkF, argsToLocals, Value.category]; done) | rfl
abbrev own_R3 : Room := { frames := 2, cells := 0, slots := 0, locals := 27 }
def own_F3 (p1 : Int32) (L : List Int32) : Int32 :=
  (nar .char (((List.getD L (p1).toInt.toNat 0) &&& (255 : Int32)).toUInt32.toUInt16.toUInt32.toInt32))
def own_Q3 (Z : State) (o0 : Addr) (p1 : Int32) (wf : Value) (L : List Int32) (h0 : Heap) (n0 : Nat) (vz : Option Value) (h : Heap) (Lz : List Loc) : Prop := vz = some (.int (own_F3 p1 L)) ∧ Lz = [] ∧ h = h0
theorem own_e3_4 {p1 : Int32} {L : List Int32} : (nar .char (((List.getD L (p1).toInt.toNat 0) &&& (255 : Int32)).toUInt32.toUInt16.toUInt32.toInt32)) = (own_F3 p1 L) := by
  skip
  first
    | (simp only [own_F3]; done)
    | (exfalso; contradiction)
set_option maxRecDepth 65536 in
set_option maxHeartbeats 40000000 in
theorem own_rm3 (l : Launch) (Z : State) (a0 : Array Value) (hw : ∀ d ∈ tables_1, d.before a0 Z = true) (ws : List Jvm.Cond) (o0 : Addr) (p1 : Int32) (wf : Value) (L : List Int32) (h0 : Heap) (n0 : Nat) (Z0 : n0 ≤ h0.size) (S_SIOOBE_FORMATTER : Sta Z h0 "jdk/internal/util/Preconditions" "SIOOBE_FORMATTER" "Ljava/util/function/BiFunction;" wf) (V_o0 : own_IA Z h0 o0 .byte L) (hwf : wf.isRef = true) (i0x : ¬ p1 < (0 : Int32)) (i1x : p1 < Int32.ofNat (List.length L)) (i2x : 0 ≤ p1.toInt ∧ p1.toInt < (L.length : Int)) :
    MetFree l (⟨"java/lang/StringLatin1", "charAt", "([BI)C"⟩ : MethodName) (head1 (Jvm.Cond.code (⟨"java/lang/StringLatin1", "charAt", "([BI)C"⟩ : MethodName) jdk_43_method_2_code 2 (some .char) :: ws) own_R3) (fun a U => a = #[(.ref o0), (.int p1)] ∧ Z.Warmed39 U.vm ∧ U.heap = h0) (fun _ _ _ _ _ => True) (fun _ U o U' => ∃ vz Lz, o = .returned vz ∧ own_Q3 Z o0 p1 wf L h0 n0 vz U'.heap Lz ∧ FrameEnd U o U' Lz own_R3.cells own_R3.slots) := by
  refine MetFree.of_bodySF (plainFor_of_name own_pn3) hisR ?_
  intro p e s m args below meth c s₁ Bd hml0 hP hK
  obtain ⟨rfl, hZ, hh⟩ := hP
  have hx := Bd.exec
  have hby := Bd.bytes
  have hml : c.maxLocals = 2 := hml0
  have hown : s.vm.findClass "java/lang/StringLatin1" = some m.cls := findClass_of_methodNamed Bd.named
  have hnm := (name_of_methodNamed Bd.named Bd.method).1
  have X0 : Stand p l e own_R3 s m #[(.ref o0), (.int p1)] below meth c s₁ [] 0 0 := Stand.of_body Bd
  have e0 : s₁.heap = h0 := by rw [← hh, Bd.state]; rfl
  show own_End p e below s (fun vz h Lz => vz = some (.int (own_F3 p1 L)) ∧ Lz = [] ∧ h = h0) own_R3.cells own_R3.slots s₁ (entryFrame m #[(.ref o0), (.int p1)] 2)
  refine own_End.go (fun t k => castTop (own_ef3 m o0 p1) k) ?_
  show own_End p e below s _ _ _ s₁ (mkF m 0 #[.val (.ref o0), .val (.int p1)] [])
  have N0 := Fr.nil n0
  have K0 : Keep h0 h0 [] := Keep.refl h0 _
  have st1 : ∀ t, Steps p.tables e below (s₁.setTop (mkF m 3 #[.val (.ref o0), .val (.int p1)] [(.int (Int32.ofNat (List.length L))), (.int p1)])) t → Steps p.tables e below (s₁.setTop (mkF m 0 #[.val (.ref o0), .val (.int p1)] [])) t := by
    intro t k
    show Steps p.tables e below (s₁.setTop (mkF m 0 #[.val (.ref o0), .val (.int p1)] [])) _
    refine XS.iloadN X0.here hx rfl (hb hby own_d3_0) rfl ?_
    show Steps p.tables e below (s₁.setTop (mkF m 1 #[.val (.ref o0), .val (.int p1)] [(.int p1)])) _
    refine XS.aloadN X0.here hx rfl (hb hby own_d3_1) rfl rfl ?_
    show Steps p.tables e below (s₁.setTop (mkF m 2 #[.val (.ref o0), .val (.int p1)] [(.ref o0), (.int p1)])) _
    refine own_lenI X0 hx hZ e0 V_o0 (g := (mkF m 2 #[.val (.ref o0), .val (.int p1)] [(.ref o0), (.int p1)])) rfl rfl (hb hby own_d3_2) _ ?_
    exact k
  obtain ⟨_, _, ⟨T2, L2, k2, n2⟩, -, X2, ⟨Lc2, hQ2, l2, y2, z2⟩, st2⟩ := Jvm.LawKit.callS X0 hx (y := (⟨"java/lang/String", "checkIndex", "(II)V"⟩ : MethodName)) hown (mvT hZ (hw _ (List.mem_of_getElem? (i := 26) rfl))) (mvT hZ (hw _ (List.mem_of_getElem? (i := 27) rfl))) (mvT hZ (hw _ (List.mem_of_getElem? (i := 1) rfl))) (mvT hZ (hw _ (List.mem_of_getElem? (i := 28) rfl))) (by decide) (backOf (W := 0) (own_rm4 l Z a0 hw [] p1 (Int32.ofNat (List.length L)) wf h0 n0 Z0 S_SIOOBE_FORMATTER (hwf) (i0x) (i1x)) hZ (hw _ (List.mem_of_getElem? (i := 28) rfl)) (hw _ (List.mem_of_getElem? (i := 1) rfl)) (by decide) (by decide)) (g := (mkF m 3 #[.val (.ref o0), .val (.int p1)] [(.int (Int32.ofNat (List.length L))), (.int p1)])) rfl (by rw [hml]; rfl) (argsL := [(.int p1), (.int (Int32.ofNat (List.length L)))]) (rest := []) (lenOf own_pd1 rfl) rfl (by show 2 * 0 + _ ≤ _; exact Nat.le_of_eq rfl) (hb hby own_d3_3) (fun _ _ => ⟨rfl, e0, (by decide : 0 + 0 ≤ _), (by decide : 0 + 0 ≤ _)⟩)
  dsimp only [Pt.U, Pt.locs, Pt.cells, Pt.slots] at X2 l2 y2 z2 st2 hQ2
  subst y2 z2
  obtain ⟨rfl, rfl, e2⟩ := hQ2
  have X2' : Stand p l e own_R3 s m #[(.ref o0), (.int p1)] below meth c T2 [] 0 0 := by rw [show L2 = [] from by rw [l2]; first | rfl | exact List.append_nil _] at X2; exact X2
  have st3 : ∀ t, Steps p.tables e below (T2.setTop (mkF m 14 #[.val (.ref o0), .val (.int p1)] [(.int (((List.getD L (p1).toInt.toNat 0) &&& (255 : Int32)).toUInt32.toUInt16.toUInt32.toInt32))])) t → Steps p.tables e below (T2.setTop (mkF m 6 #[.val (.ref o0), .val (.int p1)] [])) t := by
    intro t k
    show Steps p.tables e below (T2.setTop (mkF m 6 #[.val (.ref o0), .val (.int p1)] [])) _
    refine XS.aloadN X2'.here hx rfl (hb hby own_d3_6) rfl rfl ?_
    show Steps p.tables e below (T2.setTop (mkF m 7 #[.val (.ref o0), .val (.int p1)] [(.ref o0)])) _
    refine XS.iloadN X2'.here hx rfl (hb hby own_d3_7) rfl ?_
    show Steps p.tables e below (T2.setTop (mkF m 8 #[.val (.ref o0), .val (.int p1)] [(.int p1), (.ref o0)])) _
    refine own_baloadB X2' hx hZ e2 V_o0 (j := p1) i2x (g := (mkF m 8 #[.val (.ref o0), .val (.int p1)] [(.int p1), (.ref o0)])) rfl rfl (hb hby own_d3_8) _ ?_
    show Steps p.tables e below (T2.setTop (mkF m 9 #[.val (.ref o0), .val (.int p1)] [(.int (List.getD L (p1).toInt.toNat 0))])) _
    refine XS.sipush X2'.here hx rfl (hb hby own_d3_9) ?_
    show Steps p.tables e below (T2.setTop (mkF m 12 #[.val (.ref o0), .val (.int p1)] [(.int (255 : Int32)), (.int (List.getD L (p1).toInt.toNat 0))])) _
    refine XS.iand X2'.here hx rfl (hb hby own_d3_12) rfl ?_
    show Steps p.tables e below (T2.setTop (mkF m 13 #[.val (.ref o0), .val (.int p1)] [(.int ((List.getD L (p1).toInt.toNat 0) &&& (255 : Int32)))])) _
    refine XS.i2c X2'.here hx rfl (hb hby own_d3_13) rfl ?_
    exact k
  refine own_End.go (fun t k => st1 _ (st2 _ (st3 _ k))) ?_
  exact own_leafN X2' hx Bd.notSynchronized (t := .char) Bd.returns (by simp) (hb hby own_d3_14) ⟨congrArg (fun z => some (Value.int z)) (own_e3_4), rfl, e2⟩ (by decide) (by decide)
theorem own_d2_0 : decode jdk_42_method_154_code 0 = .ok (.getstatic 38, 3) := by decide +kernel
theorem own_d2_3 : decode jdk_42_method_154_code 3 = .ok (.ifCond .eq 14, 3) := by decide +kernel
theorem own_d2_6 : decode jdk_42_method_154_code 6 = .ok (.aload_n 0, 1) := by decide +kernel
theorem own_d2_7 : decode jdk_42_method_154_code 7 = .ok (.getfield 15, 3) := by decide +kernel
theorem own_d2_10 : decode jdk_42_method_154_code 10 = .ok (.ifCond .ne 7, 3) := by decide +kernel
theorem own_d2_13 : decode jdk_42_method_154_code 13 = .ok (.iconst 1, 1) := by decide +kernel
theorem own_d2_14 : decode jdk_42_method_154_code 14 = .ok (.goto 4, 3) := by decide +kernel
theorem own_d2_18 : decode jdk_42_method_154_code 18 = .ok (.ireturn, 1) := by decide +kernel
theorem own_pn2 : plainName "java/lang/String" = true := by first | (simp [plainName, overriddenIn]; done) | decide +kernel
theorem own_ef2 (m : MethodId) (o0 : Addr) : entryFrame m #[(.ref o0)] 1 = mkF m 0 #[.val (.ref o0)] [] := by first | (simp [entryFrame, mkF, argsToLocals, Value.category]; done) | rfl
abbrev own_R2 : Room := { frames := 0, cells := 0, slots := 0, locals := 0 }
def own_F2 (wc : Int32) : Int32 :=
  (1 : Int32)
def own_Q2 (Z : State) (o0 : Addr) (wc : Int32) (h0 : Heap) (n0 : Nat) (vz : Option Value) (h : Heap) (Lz : List Loc) : Prop := vz = some (.int (own_F2 wc)) ∧ Lz = [] ∧ h = h0
theorem own_e2_5 {wc : Int32} : (nar .boolean (1 : Int32)) = (own_F2 wc) := by
  rw [own_nb1]
  skip
  first
    | (simp only [own_F2]; done)
    | (exfalso; contradiction)
set_option maxRecDepth 65536 in
set_option maxHeartbeats 40000000 in
theorem own_rm2 (l : Launch) (Z : State) (a0 : Array Value) (hw : ∀ d ∈ tables_1, d.before a0 Z = true) (ws : List Jvm.Cond) (o0 : Addr) (wc : Int32) (h0 : Heap) (n0 : Nat) (Z0 : n0 ≤ h0.size) (S_COMPACT_STRINGS : Sta Z h0 "java/lang/String" "COMPACT_STRINGS" "Z" (.int wc)) (F_o0_coder : Fld Z h0 o0 "java/lang/String" "coder" "B" (.int (0 : Int32))) (hwc : ¬ wc = (0 : Int32)) :
    MetFree l (⟨"java/lang/String", "isLatin1", "()Z"⟩ : MethodName) (head1 (Jvm.Cond.code (⟨"java/lang/String", "isLatin1", "()Z"⟩ : MethodName) jdk_42_method_154_code 1 (some .boolean) :: ws) own_R2) (fun a U => a = #[(.ref o0)] ∧ Z.Warmed39 U.vm ∧ U.heap = h0) (fun _ _ _ _ _ => True) (fun _ U o U' => ∃ vz Lz, o = .returned vz ∧ own_Q2 Z o0 wc h0 n0 vz U'.heap Lz ∧ FrameEnd U o U' Lz own_R2.cells own_R2.slots) := by
  refine MetFree.of_bodySF (plainFor_of_name own_pn2) hisR ?_
  intro p e s m args below meth c s₁ Bd hml0 hP hK
  obtain ⟨rfl, hZ, hh⟩ := hP
  have hx := Bd.exec
  have hby := Bd.bytes
  have hml : c.maxLocals = 1 := hml0
  have hown : s.vm.findClass "java/lang/String" = some m.cls := findClass_of_methodNamed Bd.named
  have hnm := (name_of_methodNamed Bd.named Bd.method).1
  have X0 : Stand p l e own_R2 s m #[(.ref o0)] below meth c s₁ [] 0 0 := Stand.of_body Bd
  have e0 : s₁.heap = h0 := by rw [← hh, Bd.state]; rfl
  show own_End p e below s (fun vz h Lz => vz = some (.int (own_F2 wc)) ∧ Lz = [] ∧ h = h0) own_R2.cells own_R2.slots s₁ (entryFrame m #[(.ref o0)] 1)
  refine own_End.go (fun t k => castTop (own_ef2 m o0) k) ?_
  show own_End p e below s _ _ _ s₁ (mkF m 0 #[.val (.ref o0)] [])
  have N0 := Fr.nil n0
  have K0 : Keep h0 h0 [] := Keep.refl h0 _
  obtain ⟨T1, X1, e1, st1⟩ := getS2 X0 hx hZ hown (host := "") (Or.inl (hw _ (List.mem_of_getElem? (i := 19) rfl))) Via.refl e0 S_COMPACT_STRINGS (g := (mkF m 0 #[.val (.ref o0)] [])) rfl (hb hby own_d2_0)
  have st2 : ∀ t, Steps p.tables e below (T1.setTop (mkF m 7 #[.val (.ref o0)] [(.ref o0)])) t → Steps p.tables e below (T1.setTop (mkF m 3 #[.val (.ref o0)] [(.int wc)])) t := by
    intro t k
    show Steps p.tables e below (T1.setTop (mkF m 3 #[.val (.ref o0)] [(.int wc)])) _
    refine XS.ifNo X1.here hx rfl (hb hby own_d2_3) rfl ((if0 _ _).trans (feq hwc).1) ?_
    show Steps p.tables e below (T1.setTop (mkF m 6 #[.val (.ref o0)] [])) _
    refine XS.aloadN X1.here hx rfl (hb hby own_d2_6) rfl rfl ?_
    exact k
  obtain ⟨T3, X3, e3, st3⟩ := getF X1 hx hZ hown (host := "") (Or.inl (hw _ (List.mem_of_getElem? (i := 20) rfl))) Via.refl e1 F_o0_coder (g := (mkF m 7 #[.val (.ref o0)] [(.ref o0)])) rfl rfl (hb hby own_d2_7)
  have st4 : ∀ t, Steps p.tables e below (T3.setTop (mkF m 18 #[.val (.ref o0)] [(.int (1 : Int32))])) t → Steps p.tables e below (T3.setTop (mkF m 10 #[.val (.ref o0)] [(.int (0 : Int32))])) t := by
    intro t k
    show Steps p.tables e below (T3.setTop (mkF m 10 #[.val (.ref o0)] [(.int (0 : Int32))])) _
    refine XS.ifNo X3.here hx rfl (hb hby own_d2_10) rfl ((if0 _ _).trans (teq (by decide : (0 : Int32) = (0 : Int32))).2) ?_
    show Steps p.tables e below (T3.setTop (mkF m 13 #[.val (.ref o0)] [])) _
    refine XS.iconst X3.here hx rfl (hb hby own_d2_13) ?_
    show Steps p.tables e below (T3.setTop (mkF m 14 #[.val (.ref o0)] [(.int (1 : Int32))])) _
    refine XS.goto X3.here hx rfl (pc0 := 14) (pc' := 18) rfl (hb hby own_d2_14) (by decide) (by decide) ?_
    exact k
  refine own_End.go (fun t k => st1 _ (st2 _ (st3 _ (st4 _ k)))) ?_
  exact own_leafN X3 hx Bd.notSynchronized (t := .boolean) Bd.returns (by simp) (hb hby own_d2_18) ⟨congrArg (fun z => some (Value.int z)) (own_e2_5), rfl, e3⟩ (by decide) (by decide)
theorem own_d1_0 : decode jdk_42_method_56_code 0 = .ok (.aload_n 0, 1) := by decide +kernel
theorem own_d1_1 : decode jdk_42_method_56_code 1 = .ok (.invokevirtual 492, 3) := by decide +kernel
theorem own_d1_4 : decode jdk_42_method_56_code 4 = .ok (.ifCond .eq 12, 3) := by decide +kernel
theorem own_d1_7 : decode jdk_42_method_56_code 7 = .ok (.aload_n 0, 1) := by decide +kernel
theorem own_d1_8 : decode jdk_42_method_56_code 8 = .ok (.getfield 9, 3) := by decide +kernel
theorem own_d1_11 : decode jdk_42_method_56_code 11 = .ok (.iload_n 1, 1) := by decide +kernel
theorem own_d1_12 : decode jdk_42_method_56_code 12 = .ok (.invokestatic 495, 3) := by decide +kernel
theorem own_d1_15 : decode jdk_42_method_56_code 15 = .ok (.ireturn, 1) := by decide +kernel
theorem own_pn1 : plainName "java/lang/String" = true := by first | (simp [plainName, overriddenIn]; done) | decide +kernel
theorem own_ef1 (m : MethodId) (o0 : Addr) (p1 : Int32) : entryFrame m #[(.ref o0), (.int p1)] 2 = mkF m 0 #[.val (.ref o0), .val (.int p1)] [] := by first | (simp [entryFrame, mkF, argsToLocals, Value.category]; done) | rfl
abbrev own_R1 : Room := { frames := 3, cells := 0, slots := 0, locals := 40 }
def own_F1 (p1 : Int32) (wc : Int32) (L : List Int32) : Int32 :=
  let v3 : Int32 := (own_F2 wc)
  let v8 : Int32 := (own_F3 p1 L)
  (nar .char v8)
def own_Q1 (Z : State) (o0 : Addr) (p1 : Int32) (b : Addr) (wc : Int32) (wf : Value) (L : List Int32) (h0 : Heap) (n0 : Nat) (vz : Option Value) (h : Heap) (Lz : List Loc) : Prop := vz = some (.int (own_F1 p1 wc L)) ∧ Lz = [] ∧ h = h0
theorem own_e1_9 {p1 : Int32} {wc : Int32} {L : List Int32} {v3 : Int32} {v8 : Int32} (hv3 : v3 = (own_F2 wc)) (hv8 : v8 = (own_F3 p1 L)) : (nar .char v8) = (own_F1 p1 wc L) := by
  subst hv3 hv8
  first
    | (simp only [own_F1]; done)
    | (exfalso; contradiction)
set_option maxRecDepth 65536 in
set_option maxHeartbeats 40000000 in
theorem own_rm1 (l : Launch) (Z : State) (a0 : Array Value) (hw : ∀ d ∈ tables_1, d.before a0 Z = true) (ws : List Jvm.Cond) (o0 : Addr) (p1 : Int32) (b : Addr) (wc : Int32) (wf : Value) (L : List Int32) (h0 : Heap) (n0 : Nat) (Z0 : n0 ≤ h0.size) (S_COMPACT_STRINGS : Sta Z h0 "java/lang/String" "COMPACT_STRINGS" "Z" (.int wc)) (S_SIOOBE_FORMATTER : Sta Z h0 "jdk/internal/util/Preconditions" "SIOOBE_FORMATTER" "Ljava/util/function/BiFunction;" wf) (E_o0 : Exa Z h0 o0 "java/lang/String") (F_o0_coder : Fld Z h0 o0 "java/lang/String" "coder" "B" (.int (0 : Int32))) (F_o0_value : Fld Z h0 o0 "java/lang/String" "value" "[B" (.ref b)) (V_b : own_IA Z h0 b .byte L) (hwc : ¬ wc = (0 : Int32)) (hwf : wf.isRef = true) (i0x : ¬ p1 < (0 : Int32)) (i1x : p1 < Int32.ofNat (List.length L)) (i2x : 0 ≤ p1.toInt ∧ p1.toInt < (L.length : Int)) :
    MetFree l (⟨"java/lang/String", "charAt", "(I)C"⟩ : MethodName) (head1 (Jvm.Cond.code (⟨"java/lang/String", "charAt", "(I)C"⟩ : MethodName) jdk_42_method_56_code 2 (some .char) :: ws) own_R1) (fun a U => a = #[(.ref o0), (.int p1)] ∧ Z.Warmed39 U.vm ∧ U.heap = h0) (fun _ _ _ _ _ => True) (fun _ U o U' => ∃ vz Lz, o = .returned vz ∧ own_Q1 Z o0 p1 b wc wf L h0 n0 vz U'.heap Lz ∧ FrameEnd U o U' Lz own_R1.cells own_R1.slots) := by
  refine MetFree.of_bodySF (plainFor_of_name own_pn1) hisR ?_
  intro p e s m args below meth c s₁ Bd hml0 hP hK
  obtain ⟨rfl, hZ, hh⟩ := hP
  have hx := Bd.exec
  have hby := Bd.bytes
  have hml : c.maxLocals = 2 := hml0
  have hown : s.vm.findClass "java/lang/String" = some m.cls := findClass_of_methodNamed Bd.named
  have hnm := (name_of_methodNamed Bd.named Bd.method).1
  have X0 : Stand p l e own_R1 s m #[(.ref o0), (.int p1)] below meth c s₁ [] 0 0 := Stand.of_body Bd
  have e0 : s₁.heap = h0 := by rw [← hh, Bd.state]; rfl
  show own_End p e below s (fun vz h Lz => vz = some (.int (own_F1 p1 wc L)) ∧ Lz = [] ∧ h = h0) own_R1.cells own_R1.slots s₁ (entryFrame m #[(.ref o0), (.int p1)] 2)
  refine own_End.go (fun t k => castTop (own_ef1 m o0 p1) k) ?_
  show own_End p e below s _ _ _ s₁ (mkF m 0 #[.val (.ref o0), .val (.int p1)] [])
  have N0 := Fr.nil n0
  have K0 : Keep h0 h0 [] := Keep.refl h0 _
  have st1 : ∀ t, Steps p.tables e below (s₁.setTop (mkF m 1 #[.val (.ref o0), .val (.int p1)] [(.ref o0)])) t → Steps p.tables e below (s₁.setTop (mkF m 0 #[.val (.ref o0), .val (.int p1)] [])) t := by
    intro t k
    show Steps p.tables e below (s₁.setTop (mkF m 0 #[.val (.ref o0), .val (.int p1)] [])) _
    refine XS.aloadN X0.here hx rfl (hb hby own_d1_0) rfl rfl ?_
    exact k
  obtain ⟨cq2, kq2, q2a, q2b, q2c⟩ := isOf hZ e0 E_o0
  obtain ⟨_, _, ⟨T2, L2, k2, n2⟩, -, X2, ⟨Lc2, hQ2, l2, y2, z2⟩, st2⟩ := X0.virtualBack hx (y := (⟨"java/lang/String", "isLatin1", "()Z"⟩ : MethodName)) (z := (⟨"java/lang/String", "isLatin1", "()Z"⟩ : MethodName)) hown (mvT hZ (hw _ (List.mem_of_getElem? (i := 14) rfl))) (mvT hZ (hw _ (List.mem_of_getElem? (i := 15) rfl))) (notFace_of_selects (args := #[]) (mvT hZ (hw _ (List.mem_of_getElem? (i := 17) rfl)))) (mvT hZ (hw _ (List.mem_of_getElem? (i := 17) rfl))) (mvT hZ (hw _ (List.mem_of_getElem? (i := 16) rfl))) (by decide) (backOf (W := 0) (own_rm2 l Z a0 hw [] o0 wc h0 n0 Z0 S_COMPACT_STRINGS F_o0_coder (hwc)) hZ (hw _ (List.mem_of_getElem? (i := 18) rfl)) (hw _ (List.mem_of_getElem? (i := 1) rfl)) (by decide) (by decide)) q2a q2c (g := (mkF m 1 #[.val (.ref o0), .val (.int p1)] [(.ref o0)])) rfl (by rw [hml]; rfl) (Steps.refl _) (argsL := []) (rest := []) (lenOf own_pd2 rfl) rfl (by show 2 * 0 + _ ≤ _; exact Nat.le_of_eq rfl) (hb hby own_d1_1) (fun _ _ => ⟨rfl, e0, (by decide : 0 + 0 ≤ _), (by decide : 0 + 0 ≤ _)⟩)
  dsimp only [Pt.U, Pt.locs, Pt.cells, Pt.slots] at X2 l2 y2 z2 st2 hQ2
  subst y2 z2
  obtain ⟨rfl, rfl, e2⟩ := hQ2
  have X2' : Stand p l e own_R1 s m #[(.ref o0), (.int p1)] below meth c T2 [] 0 0 := by rw [show L2 = [] from by rw [l2]; first | rfl | exact List.append_nil _] at X2; exact X2
  have st2 : ∀ t, Steps p.tables e below (T2.setTop (mkF m 4 #[.val (.ref o0), .val (.int p1)] [(.int (own_F2 wc))])) t → Steps p.tables e below (s₁.setTop (mkF m 1 #[.val (.ref o0), .val (.int p1)] [(.ref o0)])) t := fun t k => st2.trans k
  obtain ⟨v3, hv3⟩ : ∃ z : Int32, z = (own_F2 wc) := ⟨_, rfl⟩
  rw [← hv3] at st2
  have st4 : ∀ t, Steps p.tables e below (T2.setTop (mkF m 8 #[.val (.ref o0), .val (.int p1)] [(.ref o0)])) t → Steps p.tables e below (T2.setTop (mkF m 4 #[.val (.ref o0), .val (.int p1)] [(.int v3)])) t := by
    intro t k
    show Steps p.tables e below (T2.setTop (mkF m 4 #[.val (.ref o0), .val (.int p1)] [(.int v3)])) _
    refine XS.ifNo X2'.here hx rfl (hb hby own_d1_4) rfl ((if0 _ _).trans (feq (by rw [hv3]; show ¬ ((1 : Int32) = 0); decide)).1) ?_
    show Steps p.tables e below (T2.setTop (mkF m 7 #[.val (.ref o0), .val (.int p1)] [])) _
    refine XS.aloadN X2'.here hx rfl (hb hby own_d1_7) rfl rfl ?_
    exact k
  obtain ⟨T5, X5, e5, st5⟩ := getF X2' hx hZ hown (host := "") (Or.inl (hw _ (List.mem_of_getElem? (i := 21) rfl))) Via.refl e2 F_o0_value (g := (mkF m 8 #[.val (.ref o0), .val (.int p1)] [(.ref o0)])) rfl rfl (hb hby own_d1_8)
  have st6 : ∀ t, Steps p.tables e below (T5.setTop (mkF m 12 #[.val (.ref o0), .val (.int p1)] [(.int p1), (.ref b)])) t → Steps p.tables e below (T5.setTop (mkF m 11 #[.val (.ref o0), .val (.int p1)] [(.ref b)])) t := by
    intro t k
    show Steps p.tables e below (T5.setTop (mkF m 11 #[.val (.ref o0), .val (.int p1)] [(.ref b)])) _
    refine XS.iloadN X5.here hx rfl (hb hby own_d1_11) rfl ?_
    exact k
  obtain ⟨_, _, ⟨T7, L7, k7, n7⟩, -, X7, ⟨Lc7, hQ7, l7, y7, z7⟩, st7⟩ := Jvm.LawKit.callS X5 hx (y := (⟨"java/lang/StringLatin1", "charAt", "([BI)C"⟩ : MethodName)) hown (mvT hZ (hw _ (List.mem_of_getElem? (i := 22) rfl))) (mvT hZ (hw _ (List.mem_of_getElem? (i := 23) rfl))) (mvT hZ (hw _ (List.mem_of_getElem? (i := 24) rfl))) (mvT hZ (hw _ (List.mem_of_getElem? (i := 25) rfl))) (by decide) (backOf (W := 0) (own_rm3 l Z a0 hw [] b p1 wf L h0 n0 Z0 S_SIOOBE_FORMATTER V_b (hwf) (i0x) (i1x) (i2x)) hZ (hw _ (List.mem_of_getElem? (i := 25) rfl)) (hw _ (List.mem_of_getElem? (i := 24) rfl)) (by decide) (by decide)) (g := (mkF m 12 #[.val (.ref o0), .val (.int p1)] [(.int p1), (.ref b)])) rfl (by rw [hml]; rfl) (argsL := [(.ref b), (.int p1)]) (rest := []) (lenOf own_pd3 rfl) rfl (by show 2 * 0 + _ ≤ _; exact Nat.le_of_eq rfl) (hb hby own_d1_12) (fun _ _ => ⟨rfl, e5, (by decide : 0 + 0 ≤ _), (by decide : 0 + 0 ≤ _)⟩)
  dsimp only [Pt.U, Pt.locs, Pt.cells, Pt.slots] at X7 l7 y7 z7 st7 hQ7
  subst y7 z7
  obtain ⟨rfl, rfl, e7⟩ := hQ7
  have X7' : Stand p l e own_R1 s m #[(.ref o0), (.int p1)] below meth c T7 [] 0 0 := by rw [show L7 = [] from by rw [l7]; first | rfl | exact List.append_nil _] at X7; exact X7
  obtain ⟨v8, hv8⟩ : ∃ z : Int32, z = (own_F3 p1 L) := ⟨_, rfl⟩
  rw [← hv8] at st7
  refine own_End.go (fun t k => st1 _ (st2 _ (st4 _ (st5 _ (st6 _ (st7 _ k)))))) ?_
  exact own_leafN X7' hx Bd.notSynchronized (t := .char) Bd.returns (by simp) (hb hby own_d1_15) ⟨congrArg (fun z => some (Value.int z)) (own_e1_9 hv3 hv8), rfl, e7⟩ (by decide) (by decide)
/-- the text of a String constant, read off the statement's words -/
def own_txt (i : Nat) : String := match tables_1[i]? with | some (.stringLink _ _ t) => t | _ => ""
def own_lo : List Int32 := (own_txt 0).toList.map fun c => Jvm.Lit.byteI c.toNat.toUInt16
def own_up : List Int32 := (own_txt 8).toList.map fun c => Jvm.Lit.byteI c.toNat.toUInt16
theorem own_loL : own_lo.length = 16 := by decide +kernel
theorem own_upL : own_up.length = 16 := by decide +kernel
theorem own_wS {a0 : Array Value} {Z : State} (hw : ∀ d ∈ tables_1, d.before a0 Z = true) : ∀ a ∈ Bundle.stringAtoms, a.before a0 Z = true := by
  intro a ha
  simp only [Bundle.stringAtoms, List.mem_cons, List.not_mem_nil, or_false] at ha
  rcases ha with rfl | rfl | rfl | rfl | rfl | rfl | rfl
  · exact hw _ (List.mem_of_getElem? (i := 1) rfl)
  · exact hw _ (List.mem_of_getElem? (i := 2) rfl)
  · exact hw _ (List.mem_of_getElem? (i := 3) rfl)
  · exact hw _ (List.mem_of_getElem? (i := 4) rfl)
  · exact hw _ (List.mem_of_getElem? (i := 5) rfl)
  · exact hw _ (List.mem_of_getElem? (i := 6) rfl)
  · exact hw _ (List.mem_of_getElem? (i := 7) rfl)
theorem own_in15 {L : List Int32} (hL : L.length = 16) {r : Int32} (h1 : ¬ r < 0) (h2 : r ≤ 15 ∨ ¬ (15 : Int32) < r) : ¬ r < 0 ∧ r < Int32.ofNat (List.length L) ∧ 0 ≤ r.toInt ∧ r.toInt < (L.length : Int) := by
  rw [hL]
  have z0 : (0 : Int32).toInt = 0 := by decide
  have z15 : (15 : Int32).toInt = 15 := by decide
  have z16 : (Int32.ofNat 16).toInt = 16 := by decide
  simp only [Int32.lt_iff_toInt_lt, Int32.le_iff_toInt_le] at *
  omega
theorem own_m15 {L : List Int32} (hL : L.length = 16) {v x : Int32} (hv : v = x &&& 15) : ¬ v < 0 ∧ v < Int32.ofNat (List.length L) ∧ 0 ≤ v.toInt ∧ v.toInt < (L.length : Int) := by
  have q : 0 ≤ v.toInt ∧ v.toInt ≤ 15 := by
    have m := c_mask x 15 4 (by decide) (by decide)
    have p0 := Int.emod_nonneg x.toInt (show ((2 ^ 4 : Nat) : Int) ≠ 0 by decide)
    have p1 := Int.emod_lt_of_pos x.toInt (show (0 : Int) < ((2 ^ 4 : Nat) : Int) by decide)
    have p2 : ((2 ^ 4 : Nat) : Int) = 16 := by decide
    rw [hv]; omega
  have z0 : (0 : Int32).toInt = 0 := by decide
  have z15 : (15 : Int32).toInt = 15 := by decide
  refine own_in15 hL ?_ (Or.inr ?_)
  · rw [Int32.lt_iff_toInt_lt]; omega
  · rw [Int32.lt_iff_toInt_lt]; omega
theorem own_sinceUp {s : State} {vm : Vm} {n n' : Nat} (h : s.Since vm n) (q : n ≤ n') : s.Since vm n' := by
  exact ⟨h.1, fun j p hj hp => ⟨(h.2 j p hj hp).1, Nat.lt_of_lt_of_le (h.2 j p hj hp).2 q⟩⟩
theorem own_backL {l : Launch} {R : Room} {p : Program} {e : Env} {below : List Frame} {s Z : State} {args a0 : Array Value} {h : Heap} {y : MethodName} {bytes : ByteArray} {maxL : Nat} {ret : Option FieldType} {rm : Room} {len W : Nat} {as' : Array Value} {Q : Option Value → Heap → List Loc → Prop} {o1 o2 : String} {i1 i2 : Nat} {u1 u2 : Addr}
    (hM : MetFree l y (head1 [Cond.code y bytes maxL ret] rm) (fun a U => a = as' ∧ Z.Warmed39 U.vm ∧ U.heap = h ∧ Lit U o1 i1 u1 ∧ Lit U o2 i2 u2) (fun _ _ _ _ _ => True) (fun _ U o U' => ∃ v L, o = .returned v ∧ Q v U'.heap L ∧ FrameEnd U o U' L rm.cells rm.slots))
    (hZ : Z.Warmed39 s.vm) (wc : (Cond.code y bytes maxL ret).before a0 Z = true) (wz : (Cond.initialized y.cls).before a0 Z = true) (hf : rm.frames + 1 ≤ R.frames) (hl : W + (maxL + 11) + rm.locals ≤ R.locals) (t1 : Lit s o1 i1 u1) (t2 : Lit s o2 i2 u2) :
    Back l R p e below s args y len W (fun A a => a = as' ∧ A.U.heap = h ∧ A.cells + rm.cells ≤ R.cells ∧ A.slots + rm.slots ≤ R.slots)
      (fun A _ v B => ∃ L, Q v B.U.heap L ∧ B.locs = A.locs ++ L ∧ B.cells = A.cells + rm.cells ∧ B.slots = A.slots + rm.slots) :=
  Back.of_free (bytes := bytes) (maxL := maxL) (ret := ret) (E := fun _ _ o t L k n => k = rm.cells ∧ n = rm.slots ∧ ∃ v, o = .returned v ∧ Q v t.heap L) hM hf hl
    (fun m meth c A a Y hp => have hU : Z.Warmed39 A.U.vm := wtrans hZ Y.warmed
      ⟨by show (Cond.and _ .tt).before a A.U = true; rw [Cond.before_and, mv hU wc]; rfl, mv hU wc, mv hU wz, hp.2.2.1, hp.2.2.2⟩)
    (fun m meth c A a g mk Y hp => ⟨hp.1, wtrans hZ Y.warmed, hp.2.1, State.resolvedAt?_warmed39 (s := s) Y.warmed.wide t1, State.resolvedAt?_warmed39 (s := s) Y.warmed.wide t2⟩) (fun _ _ _ _ _ _ _ _ _ => trivial)
    (fun _ _ _ _ ⟨v, L, h1, h2, h3⟩ => ⟨L, _, _, h3, rfl, rfl, v, h1, h2⟩)
    (fun m meth c A a g mk v t L k n Y hp _ _ ⟨e1, e2, v', e3, e4⟩ => by cases e3; subst e1 e2; exact ⟨L, e4, rfl, rfl, rfl⟩)

theorem own_d7_0 : decode method_2_code 0 = .ok (.ldc 7, 2) := by decide +kernel
theorem own_d7_2 : decode method_2_code 2 = .ok (.astore_n 1, 1) := by decide +kernel
theorem own_d7_3 : decode method_2_code 3 = .ok (.ldc 9, 2) := by decide +kernel
theorem own_d7_5 : decode method_2_code 5 = .ok (.astore_n 2, 1) := by decide +kernel
theorem own_d7_6 : decode method_2_code 6 = .ok (.iload_n 0, 1) := by decide +kernel
theorem own_d7_7 : decode method_2_code 7 = .ok (.invokestatic 11, 3) := by decide +kernel
theorem own_d7_10 : decode method_2_code 10 = .ok (.istore_n 3, 1) := by decide +kernel
theorem own_d7_11 : decode method_2_code 11 = .ok (.iload_n 3, 1) := by decide +kernel
theorem own_d7_12 : decode method_2_code 12 = .ok (.iconst (-1), 1) := by decide +kernel
theorem own_d7_13 : decode method_2_code 13 = .ok (.if_icmp .ne 5, 3) := by decide +kernel
theorem own_d7_16 : decode method_2_code 16 = .ok (.iconst 1, 1) := by decide +kernel
theorem own_d7_17 : decode method_2_code 17 = .ok (.ireturn, 1) := by decide +kernel
theorem own_d7_18 : decode method_2_code 18 = .ok (.iload_n 3, 1) := by decide +kernel
theorem own_d7_19 : decode method_2_code 19 = .ok (.ifCond .lt 9, 3) := by decide +kernel
theorem own_d7_22 : decode method_2_code 22 = .ok (.iload_n 3, 1) := by decide +kernel
theorem own_d7_23 : decode method_2_code 23 = .ok (.bipush 15, 2) := by decide +kernel
theorem own_d7_25 : decode method_2_code 25 = .ok (.if_icmp .le 5, 3) := by decide +kernel
theorem own_d7_28 : decode method_2_code 28 = .ok (.iconst 0, 1) := by decide +kernel
theorem own_d7_29 : decode method_2_code 29 = .ok (.ireturn, 1) := by decide +kernel
theorem own_d7_30 : decode method_2_code 30 = .ok (.iload_n 0, 1) := by decide +kernel
theorem own_d7_31 : decode method_2_code 31 = .ok (.aload_n 1, 1) := by decide +kernel
theorem own_d7_32 : decode method_2_code 32 = .ok (.iload_n 3, 1) := by decide +kernel
theorem own_d7_33 : decode method_2_code 33 = .ok (.invokevirtual 17, 3) := by decide +kernel
theorem own_d7_36 : decode method_2_code 36 = .ok (.if_icmp .eq 12, 3) := by decide +kernel
theorem own_d7_39 : decode method_2_code 39 = .ok (.iload_n 0, 1) := by decide +kernel
theorem own_d7_40 : decode method_2_code 40 = .ok (.aload_n 2, 1) := by decide +kernel
theorem own_d7_41 : decode method_2_code 41 = .ok (.iload_n 3, 1) := by decide +kernel
theorem own_d7_42 : decode method_2_code 42 = .ok (.invokevirtual 17, 3) := by decide +kernel
theorem own_d7_45 : decode method_2_code 45 = .ok (.if_icmp .ne 7, 3) := by decide +kernel
theorem own_d7_48 : decode method_2_code 48 = .ok (.iconst 1, 1) := by decide +kernel
theorem own_d7_49 : decode method_2_code 49 = .ok (.goto 4, 3) := by decide +kernel
theorem own_d7_52 : decode method_2_code 52 = .ok (.iconst 0, 1) := by decide +kernel
theorem own_d7_53 : decode method_2_code 53 = .ok (.ireturn, 1) := by decide +kernel
theorem own_pn7 : plainName "com/example/wireform/wireform/HexDigitPinLaw" = true := by first | (simp [plainName, overriddenIn]; done) | decide +kernel
theorem own_ef7 (m : MethodId) (p0 : Int32) : entryFrame m #[(.int p0)] 4 = mkF m 0 #[.val (.int p0), .unset, .unset, .unset] [] := by first | (simp [entryFrame, mkF, argsToLocals, Value.category]; done) | rfl
abbrev own_R7 : Room := { frames := 4, cells := 0, slots := 0, locals := 54 }
def own_F7 (p0 : Int32) (wc : Int32) : Int32 :=
  let v3 : Int32 := (own_F6 p0)
  if v3 = (-1 : Int32) then
    (1 : Int32)
  else
    if v3 < (0 : Int32) then
      (0 : Int32)
    else
      if (15 : Int32) < v3 then
        (0 : Int32)
      else
        let v18 : Int32 := (own_F1 v3 wc (own_lo))
        if p0 = v18 then
          (1 : Int32)
        else
          let v24 : Int32 := (own_F1 v3 wc (own_up))
          if p0 = v24 then
            (1 : Int32)
          else
            (0 : Int32)
def own_Q7 (Z : State) (p0 : Int32) (oL : Addr) (bL : Addr) (oU : Addr) (bU : Addr) (wc : Int32) (wf : Value) (h0 : Heap) (n0 : Nat) (vz : Option Value) (h : Heap) (Lz : List Loc) : Prop := vz = some (.int (own_F7 p0 wc)) ∧ Lz = [] ∧ h = h0
theorem own_e7_7 {p0 : Int32} {wc : Int32} {v3 : Int32} (hv3 : v3 = (own_F6 p0)) (hc13_5 : v3 = (-1 : Int32)) : (nar .boolean (1 : Int32)) = (own_F7 p0 wc) := by
  rw [own_nb1]
  subst hv3
  first
    | (simp only [own_F7, if_pos hc13_5]; done)
    | (exfalso; contradiction)
theorem own_e7_11 {p0 : Int32} {wc : Int32} {v3 : Int32} (hv3 : v3 = (own_F6 p0)) (hc13_5 : ¬ (v3 = (-1 : Int32))) (hc19_9 : v3 < (0 : Int32)) : (nar .boolean (0 : Int32)) = (own_F7 p0 wc) := by
  rw [own_nb0]
  subst hv3
  first
    | (simp only [own_F7, if_neg hc13_5, if_pos hc19_9]; done)
    | (exfalso; contradiction)
theorem own_e7_15 {p0 : Int32} {wc : Int32} {v3 : Int32} (hv3 : v3 = (own_F6 p0)) (hc13_5 : ¬ (v3 = (-1 : Int32))) (hc19_9 : ¬ (v3 < (0 : Int32))) (hc25_13 : (15 : Int32) < v3) : (nar .boolean (0 : Int32)) = (own_F7 p0 wc) := by
  rw [own_nb0]
  subst hv3
  first
    | (simp only [own_F7, if_neg hc13_5, if_neg hc19_9, if_pos hc25_13]; done)
    | (exfalso; contradiction)
theorem own_e7_21 {p0 : Int32} {wc : Int32} {v3 : Int32} {v18 : Int32} (hv3 : v3 = (own_F6 p0)) (hv18 : v18 = (own_F1 v3 wc (own_lo))) (hc13_5 : ¬ (v3 = (-1 : Int32))) (hc19_9 : ¬ (v3 < (0 : Int32))) (hc25_13 : ¬ ((15 : Int32) < v3)) (hc36_19 : p0 = v18) : (nar .boolean (1 : Int32)) = (own_F7 p0 wc) := by
  rw [own_nb1]
  subst hv3 hv18
  first
    | (simp only [own_F7, if_neg hc13_5, if_neg hc19_9, if_neg hc25_13, if_pos hc36_19]; done)
    | (exfalso; contradiction)
theorem own_e7_27 {p0 : Int32} {wc : Int32} {v3 : Int32} {v18 : Int32} {v24 : Int32} (hv3 : v3 = (own_F6 p0)) (hv18 : v18 = (own_F1 v3 wc (own_lo))) (hv24 : v24 = (own_F1 v3 wc (own_up))) (hc13_5 : ¬ (v3 = (-1 : Int32))) (hc19_9 : ¬ (v3 < (0 : Int32))) (hc25_13 : ¬ ((15 : Int32) < v3)) (hc36_19 : ¬ (p0 = v18)) (hc45_25 : p0 = v24) : (nar .boolean (1 : Int32)) = (own_F7 p0 wc) := by
  rw [own_nb1]
  subst hv3 hv18 hv24
  first
    | (simp only [own_F7, if_neg hc13_5, if_neg hc19_9, if_neg hc25_13, if_neg hc36_19, if_pos hc45_25]; done)
    | (exfalso; contradiction)
theorem own_e7_29 {p0 : Int32} {wc : Int32} {v3 : Int32} {v18 : Int32} {v24 : Int32} (hv3 : v3 = (own_F6 p0)) (hv18 : v18 = (own_F1 v3 wc (own_lo))) (hv24 : v24 = (own_F1 v3 wc (own_up))) (hc13_5 : ¬ (v3 = (-1 : Int32))) (hc19_9 : ¬ (v3 < (0 : Int32))) (hc25_13 : ¬ ((15 : Int32) < v3)) (hc36_19 : ¬ (p0 = v18)) (hc45_25 : ¬ (p0 = v24)) : (nar .boolean (0 : Int32)) = (own_F7 p0 wc) := by
  rw [own_nb0]
  subst hv3 hv18 hv24
  first
    | (simp only [own_F7, if_neg hc13_5, if_neg hc19_9, if_neg hc25_13, if_neg hc36_19, if_neg hc45_25]; done)
    | (exfalso; contradiction)
set_option maxRecDepth 65536 in
set_option maxHeartbeats 40000000 in
theorem own_rm7 (l : Launch) (Z : State) (a0 : Array Value) (hw : ∀ d ∈ tables_1, d.before a0 Z = true) (ws : List Jvm.Cond) (p0 : Int32) (oL : Addr) (bL : Addr) (oU : Addr) (bU : Addr) (wc : Int32) (wf : Value) (h0 : Heap) (n0 : Nat) (Z0 : n0 ≤ h0.size) (S_COMPACT_STRINGS : Sta Z h0 "java/lang/String" "COMPACT_STRINGS" "Z" (.int wc)) (S_SIOOBE_FORMATTER : Sta Z h0 "jdk/internal/util/Preconditions" "SIOOBE_FORMATTER" "Ljava/util/function/BiFunction;" wf) (E_oL : Exa Z h0 oL "java/lang/String") (F_oL_coder : Fld Z h0 oL "java/lang/String" "coder" "B" (.int (0 : Int32))) (F_oL_value : Fld Z h0 oL "java/lang/String" "value" "[B" (.ref bL)) (V_bL : own_IA Z h0 bL .byte (own_lo)) (E_oU : Exa Z h0 oU "java/lang/String") (F_oU_coder : Fld Z h0 oU "java/lang/String" "coder" "B" (.int (0 : Int32))) (F_oU_value : Fld Z h0 oU "java/lang/String" "value" "[B" (.ref bU)) (V_bU : own_IA Z h0 bU .byte (own_up)) (hwc : ¬ wc = (0 : Int32)) (hwf : wf.isRef = true) :
    MetFree l (⟨"com/example/wireform/wireform/HexDigitPinLaw", "answerFits", "(I)Z"⟩ : MethodName) (head1 (Jvm.Cond.code (⟨"com/example/wireform/wireform/HexDigitPinLaw", "answerFits", "(I)Z"⟩ : MethodName) method_2_code 4 (some .boolean) :: ws) own_R7) (fun a U => a = #[(.int p0)] ∧ Z.Warmed39 U.vm ∧ U.heap = h0 ∧ Lit U "com/example/wireform/wireform/HexDigitPinLaw" 7 oL ∧ Lit U "com/example/wireform/wireform/HexDigitPinLaw" 9 oU) (fun _ _ _ _ _ => True) (fun _ U o U' => ∃ vz Lz, o = .returned vz ∧ own_Q7 Z p0 oL bL oU bU wc wf h0 n0 vz U'.heap Lz ∧ FrameEnd U o U' Lz own_R7.cells own_R7.slots) := by
  refine MetFree.of_bodySF (plainFor_of_name own_pn7) hisR ?_
  intro p e s m args below meth c s₁ Bd hml0 hP hK
  obtain ⟨rfl, hZ, hh, L7, L9⟩ := hP
  have hx := Bd.exec
  have hby := Bd.bytes
  have hml : c.maxLocals = 4 := hml0
  have hown : s.vm.findClass "com/example/wireform/wireform/HexDigitPinLaw" = some m.cls := findClass_of_methodNamed Bd.named
  have hnm := (name_of_methodNamed Bd.named Bd.method).1
  have X0 : Stand p l e own_R7 s m #[(.int p0)] below meth c s₁ [] 0 0 := Stand.of_body Bd
  have e0 : s₁.heap = h0 := by rw [← hh, Bd.state]; rfl
  show own_End p e below s (fun vz h Lz => vz = some (.int (own_F7 p0 wc)) ∧ Lz = [] ∧ h = h0) own_R7.cells own_R7.slots s₁ (entryFrame m #[(.int p0)] 4)
  refine own_End.go (fun t k => castTop (own_ef7 m p0) k) ?_
  show own_End p e below s _ _ _ s₁ (mkF m 0 #[.val (.int p0), .unset, .unset, .unset] [])
  have N0 := Fr.nil n0
  have K0 : Keep h0 h0 [] := Keep.refl h0 _
  have st1 : ∀ t, Steps p.tables e below (s₁.setTop (mkF m 7 #[.val (.int p0), .val (.ref oL), .val (.ref oU), .unset] [(.int p0)])) t → Steps p.tables e below (s₁.setTop (mkF m 0 #[.val (.int p0), .unset, .unset, .unset] [])) t := by
    intro t k
    show Steps p.tables e below (s₁.setTop (mkF m 0 #[.val (.int p0), .unset, .unset, .unset] [])) _
    refine ldcR (Z := s) (a0 := #[]) X0 hx (State.Warmed39.refl s) hown (refOfLit (mvS (s := s) hZ (hw _ (List.mem_of_getElem? (i := 0) rfl))) L7) L7 (g := (mkF m 0 #[.val (.int p0), .unset, .unset, .unset] [])) rfl (hb hby own_d7_0) _ ?_
    show Steps p.tables e below (s₁.setTop (mkF m 2 #[.val (.int p0), .unset, .unset, .unset] [(.ref oL)])) _
    refine XS.astoreN X0.here hx rfl (hb hby own_d7_2) rfl rfl (l' := #[.val (.int p0), .val (.ref oL), .unset, .unset]) rfl ?_
    show Steps p.tables e below (s₁.setTop (mkF m 3 #[.val (.int p0), .val (.ref oL), .unset, .unset] [])) _
    refine ldcR (Z := s) (a0 := #[]) X0 hx (State.Warmed39.refl s) hown (refOfLit (mvS (s := s) hZ (hw _ (List.mem_of_getElem? (i := 8) rfl))) L9) L9 (g := (mkF m 3 #[.val (.int p0), .val (.ref oL), .unset, .unset] [])) rfl (hb hby own_d7_3) _ ?_
    show Steps p.tables e below (s₁.setTop (mkF m 5 #[.val (.int p0), .val (.ref oL), .unset, .unset] [(.ref oU)])) _
    refine XS.astoreN X0.here hx rfl (hb hby own_d7_5) rfl rfl (l' := #[.val (.int p0), .val (.ref oL), .val (.ref oU), .unset]) rfl ?_
    show Steps p.tables e below (s₁.setTop (mkF m 6 #[.val (.int p0), .val (.ref oL), .val (.ref oU), .unset] [])) _
    refine XS.iloadN X0.here hx rfl (hb hby own_d7_6) rfl ?_
    exact k
  obtain ⟨_, _, ⟨T2, L2, k2, n2⟩, -, X2, ⟨Lc2, hQ2, l2, y2, z2⟩, st2⟩ := Jvm.LawKit.callS X0 hx (y := (⟨"com/example/wireform/wireform/Hex", "digit", "(I)I"⟩ : MethodName)) hown (mvT hZ (hw _ (List.mem_of_getElem? (i := 34) rfl))) (mvT hZ (hw _ (List.mem_of_getElem? (i := 35) rfl))) (mvT hZ (hw _ (List.mem_of_getElem? (i := 36) rfl))) (mvT hZ (hw _ (List.mem_of_getElem? (i := 37) rfl))) (by decide) (backOf (W := 0) (own_rm6 l Z a0 hw [] p0 h0) hZ (hw _ (List.mem_of_getElem? (i := 37) rfl)) (hw _ (List.mem_of_getElem? (i := 36) rfl)) (by decide) (by decide)) (g := (mkF m 7 #[.val (.int p0), .val (.ref oL), .val (.ref oU), .unset] [(.int p0)])) rfl (by rw [hml]; rfl) (argsL := [(.int p0)]) (rest := []) (lenOf own_pd4 rfl) rfl (by show 2 * 0 + _ ≤ _; exact Nat.le_of_eq rfl) (hb hby own_d7_7) (fun _ _ => ⟨rfl, e0, (by decide : 0 + 0 ≤ _), (by decide : 0 + 0 ≤ _)⟩)
  dsimp only [Pt.U, Pt.locs, Pt.cells, Pt.slots] at X2 l2 y2 z2 st2 hQ2
  subst y2 z2
  obtain ⟨rfl, rfl, e2⟩ := hQ2
  have X2' : Stand p l e own_R7 s m #[(.int p0)] below meth c T2 [] 0 0 := by rw [show L2 = [] from by rw [l2]; first | rfl | exact List.append_nil _] at X2; exact X2
  obtain ⟨v3, hv3⟩ : ∃ z : Int32, z = (own_F6 p0) := ⟨_, rfl⟩
  rw [← hv3] at st2
  have st4 : ∀ t, Steps p.tables e below (T2.setTop (mkF m 13 #[.val (.int p0), .val (.ref oL), .val (.ref oU), .val (.int v3)] [(.int (-1 : Int32)), (.int v3)])) t → Steps p.tables e below (T2.setTop (mkF m 10 #[.val (.int p0), .val (.ref oL), .val (.ref oU), .unset] [(.int v3)])) t := by
    intro t k
    show Steps p.tables e below (T2.setTop (mkF m 10 #[.val (.int p0), .val (.ref oL), .val (.ref oU), .unset] [(.int v3)])) _
    refine XS.istoreN X2'.here hx rfl (hb hby own_d7_10) rfl (l' := #[.val (.int p0), .val (.ref oL), .val (.ref oU), .val (.int v3)]) rfl ?_
    show Steps p.tables e below (T2.setTop (mkF m 11 #[.val (.int p0), .val (.ref oL), .val (.ref oU), .val (.int v3)] [])) _
    refine XS.iloadN X2'.here hx rfl (hb hby own_d7_11) rfl ?_
    show Steps p.tables e below (T2.setTop (mkF m 12 #[.val (.int p0), .val (.ref oL), .val (.ref oU), .val (.int v3)] [(.int v3)])) _
    refine XS.iconst X2'.here hx rfl (hb hby own_d7_12) ?_
    exact k
  refine own_End.go (fun t k => st1 _ (st2 _ (st4 _ k))) ?_
  by_cases hc13_5 : v3 = (-1 : Int32)
  · have st6 : ∀ t, Steps p.tables e below (T2.setTop (mkF m 17 #[.val (.int p0), .val (.ref oL), .val (.ref oU), .val (.int v3)] [(.int (1 : Int32))])) t → Steps p.tables e below (T2.setTop (mkF m 13 #[.val (.int p0), .val (.ref oL), .val (.ref oU), .val (.int v3)] [(.int (-1 : Int32)), (.int v3)])) t := by
      intro t k
      show Steps p.tables e below (T2.setTop (mkF m 13 #[.val (.int p0), .val (.ref oL), .val (.ref oU), .val (.int v3)] [(.int (-1 : Int32)), (.int v3)])) _
      refine XS.icmpNo X2'.here hx rfl (hb hby own_d7_13) rfl (teq hc13_5).2 ?_
      show Steps p.tables e below (T2.setTop (mkF m 16 #[.val (.int p0), .val (.ref oL), .val (.ref oU), .val (.int v3)] [])) _
      refine XS.iconst X2'.here hx rfl (hb hby own_d7_16) ?_
      exact k
    refine own_End.go (fun t k => st6 _ k) ?_
    exact own_leafN X2' hx Bd.notSynchronized (t := .boolean) Bd.returns (by simp) (hb hby own_d7_17) ⟨congrArg (fun z => some (Value.int z)) (own_e7_7 hv3 hc13_5), rfl, e2⟩ (by decide) (by decide)
  · have st8 : ∀ t, Steps p.tables e below (T2.setTop (mkF m 19 #[.val (.int p0), .val (.ref oL), .val (.ref oU), .val (.int v3)] [(.int v3)])) t → Steps p.tables e below (T2.setTop (mkF m 13 #[.val (.int p0), .val (.ref oL), .val (.ref oU), .val (.int v3)] [(.int (-1 : Int32)), (.int v3)])) t := by
      intro t k
      show Steps p.tables e below (T2.setTop (mkF m 13 #[.val (.int p0), .val (.ref oL), .val (.ref oU), .val (.int v3)] [(.int (-1 : Int32)), (.int v3)])) _
      refine XS.icmpYes X2'.here hx rfl (pc0 := 13) (pc' := 18) rfl (hb hby own_d7_13) rfl (feq hc13_5).2 (by decide) (by decide) ?_
      show Steps p.tables e below (T2.setTop (mkF m 18 #[.val (.int p0), .val (.ref oL), .val (.ref oU), .val (.int v3)] [])) _
      refine XS.iloadN X2'.here hx rfl (hb hby own_d7_18) rfl ?_
      exact k
    refine own_End.go (fun t k => st8 _ k) ?_
    by_cases hc19_9 : v3 < (0 : Int32)
    · have st10 : ∀ t, Steps p.tables e below (T2.setTop (mkF m 29 #[.val (.int p0), .val (.ref oL), .val (.ref oU), .val (.int v3)] [(.int (0 : Int32))])) t → Steps p.tables e below (T2.setTop (mkF m 19 #[.val (.int p0), .val (.ref oL), .val (.ref oU), .val (.int v3)] [(.int v3)])) t := by
        intro t k
        show Steps p.tables e below (T2.setTop (mkF m 19 #[.val (.int p0), .val (.ref oL), .val (.ref oU), .val (.int v3)] [(.int v3)])) _
        refine XS.ifYes X2'.here hx rfl (pc0 := 19) (pc' := 28) rfl (hb hby own_d7_19) rfl ((if0 _ _).trans (tlt hc19_9).1) (by decide) (by decide) ?_
        show Steps p.tables e below (T2.setTop (mkF m 28 #[.val (.int p0), .val (.ref oL), .val (.ref oU), .val (.int v3)] [])) _
        refine XS.iconst X2'.here hx rfl (hb hby own_d7_28) ?_
        exact k
      refine own_End.go (fun t k => st10 _ k) ?_
      exact own_leafN X2' hx Bd.notSynchronized (t := .boolean) Bd.returns (by simp) (hb hby own_d7_29) ⟨congrArg (fun z => some (Value.int z)) (own_e7_11 hv3 hc13_5 hc19_9), rfl, e2⟩ (by decide) (by decide)
    · have st12 : ∀ t, Steps p.tables e below (T2.setTop (mkF m 25 #[.val (.int p0), .val (.ref oL), .val (.ref oU), .val (.int v3)] [(.int (15 : Int32)), (.int v3)])) t → Steps p.tables e below (T2.setTop (mkF m 19 #[.val (.int p0), .val (.ref oL), .val (.ref oU), .val (.int v3)] [(.int v3)])) t := by
        intro t k
        show Steps p.tables e below (T2.setTop (mkF m 19 #[.val (.int p0), .val (.ref oL), .val (.ref oU), .val (.int v3)] [(.int v3)])) _
        refine XS.ifNo X2'.here hx rfl (hb hby own_d7_19) rfl ((if0 _ _).trans (flt hc19_9).1) ?_
        show Steps p.tables e below (T2.setTop (mkF m 22 #[.val (.int p0), .val (.ref oL), .val (.ref oU), .val (.int v3)] [])) _
        refine XS.iloadN X2'.here hx rfl (hb hby own_d7_22) rfl ?_
        show Steps p.tables e below (T2.setTop (mkF m 23 #[.val (.int p0), .val (.ref oL), .val (.ref oU), .val (.int v3)] [(.int v3)])) _
        refine XS.bipush X2'.here hx rfl (hb hby own_d7_23) ?_
        exact k
      refine own_End.go (fun t k => st12 _ k) ?_
      by_cases hc25_13 : (15 : Int32) < v3
      · have st14 : ∀ t, Steps p.tables e below (T2.setTop (mkF m 29 #[.val (.int p0), .val (.ref oL), .val (.ref oU), .val (.int v3)] [(.int (0 : Int32))])) t → Steps p.tables e below (T2.setTop (mkF m 25 #[.val (.int p0), .val (.ref oL), .val (.ref oU), .val (.int v3)] [(.int (15 : Int32)), (.int v3)])) t := by
          intro t k
          show Steps p.tables e below (T2.setTop (mkF m 25 #[.val (.int p0), .val (.ref oL), .val (.ref oU), .val (.int v3)] [(.int (15 : Int32)), (.int v3)])) _
          refine XS.icmpNo X2'.here hx rfl (hb hby own_d7_25) rfl (tlt hc25_13).2.2.2 ?_
          show Steps p.tables e below (T2.setTop (mkF m 28 #[.val (.int p0), .val (.ref oL), .val (.ref oU), .val (.int v3)] [])) _
          refine XS.iconst X2'.here hx rfl (hb hby own_d7_28) ?_
          exact k
        refine own_End.go (fun t k => st14 _ k) ?_
        exact own_leafN X2' hx Bd.notSynchronized (t := .boolean) Bd.returns (by simp) (hb hby own_d7_29) ⟨congrArg (fun z => some (Value.int z)) (own_e7_15 hv3 hc13_5 hc19_9 hc25_13), rfl, e2⟩ (by decide) (by decide)
      · have st16 : ∀ t, Steps p.tables e below (T2.setTop (mkF m 33 #[.val (.int p0), .val (.ref oL), .val (.ref oU), .val (.int v3)] [(.int v3), (.ref oL), (.int p0)])) t → Steps p.tables e below (T2.setTop (mkF m 25 #[.val (.int p0), .val (.ref oL), .val (.ref oU), .val (.int v3)] [(.int (15 : Int32)), (.int v3)])) t := by
          intro t k
          show Steps p.tables e below (T2.setTop (mkF m 25 #[.val (.int p0), .val (.ref oL), .val (.ref oU), .val (.int v3)] [(.int (15 : Int32)), (.int v3)])) _
          refine XS.icmpYes X2'.here hx rfl (pc0 := 25) (pc' := 30) rfl (hb hby own_d7_25) rfl (flt hc25_13).2.2.2 (by decide) (by decide) ?_
          show Steps p.tables e below (T2.setTop (mkF m 30 #[.val (.int p0), .val (.ref oL), .val (.ref oU), .val (.int v3)] [])) _
          refine XS.iloadN X2'.here hx rfl (hb hby own_d7_30) rfl ?_
          show Steps p.tables e below (T2.setTop (mkF m 31 #[.val (.int p0), .val (.ref oL), .val (.ref oU), .val (.int v3)] [(.int p0)])) _
          refine XS.aloadN X2'.here hx rfl (hb hby own_d7_31) rfl rfl ?_
          show Steps p.tables e below (T2.setTop (mkF m 32 #[.val (.int p0), .val (.ref oL), .val (.ref oU), .val (.int v3)] [(.ref oL), (.int p0)])) _
          refine XS.iloadN X2'.here hx rfl (hb hby own_d7_32) rfl ?_
          exact k
        obtain ⟨cq17, kq17, q17a, q17b, q17c⟩ := isOf hZ e2 E_oL
        obtain ⟨_, _, ⟨T17, L17, k17, n17⟩, -, X17, ⟨Lc17, hQ17, l17, y17, z17⟩, st17⟩ := X2'.virtualBack hx (y := (⟨"java/lang/String", "charAt", "(I)C"⟩ : MethodName)) (z := (⟨"java/lang/String", "charAt", "(I)C"⟩ : MethodName)) hown (mvT hZ (hw _ (List.mem_of_getElem? (i := 9) rfl))) (mvT hZ (hw _ (List.mem_of_getElem? (i := 10) rfl))) (notFace_of_selects (args := #[]) (mvT hZ (hw _ (List.mem_of_getElem? (i := 12) rfl)))) (mvT hZ (hw _ (List.mem_of_getElem? (i := 12) rfl))) (mvT hZ (hw _ (List.mem_of_getElem? (i := 11) rfl))) (by decide) (backOf (W := 1) (own_rm1 l Z a0 hw [] oL v3 bL wc wf (own_lo) h0 n0 Z0 S_COMPACT_STRINGS S_SIOOBE_FORMATTER E_oL F_oL_coder F_oL_value V_bL (hwc) (hwf) ((own_in15 own_loL hc19_9 (Or.inr hc25_13)).1) ((own_in15 own_loL hc19_9 (Or.inr hc25_13)).2.1) ((own_in15 own_loL hc19_9 (Or.inr hc25_13)).2.2)) hZ (hw _ (List.mem_of_getElem? (i := 13) rfl)) (hw _ (List.mem_of_getElem? (i := 1) rfl)) (by decide) (by decide)) q17a q17c (g := (mkF m 33 #[.val (.int p0), .val (.ref oL), .val (.ref oU), .val (.int v3)] [(.int v3), (.ref oL), (.int p0)])) rfl (by rw [hml]; rfl) (Steps.refl _) (argsL := [(.int v3)]) (rest := [(.int p0)]) (lenOf own_pd5 rfl) rfl (by show 2 * 0 + _ ≤ _; exact Nat.le_of_eq rfl) (hb hby own_d7_33) (fun _ _ => ⟨rfl, e2, (by decide : 0 + 0 ≤ _), (by decide : 0 + 0 ≤ _)⟩)
        dsimp only [Pt.U, Pt.locs, Pt.cells, Pt.slots] at X17 l17 y17 z17 st17 hQ17
        subst y17 z17
        obtain ⟨rfl, rfl, e17⟩ := hQ17
        have X17' : Stand p l e own_R7 s m #[(.int p0)] below meth c T17 [] 0 0 := by rw [show L17 = [] from by rw [l17]; first | rfl | exact List.append_nil _] at X17; exact X17
        have st17 : ∀ t, Steps p.tables e below (T17.setTop (mkF m 36 #[.val (.int p0), .val (.ref oL), .val (.ref oU), .val (.int v3)] [(.int (own_F1 v3 wc (own_lo))), (.int p0)])) t → Steps p.tables e below (T2.setTop (mkF m 33 #[.val (.int p0), .val (.ref oL), .val (.ref oU), .val (.int v3)] [(.int v3), (.ref oL), (.int p0)])) t := fun t k => st17.trans k
        obtain ⟨v18, hv18⟩ : ∃ z : Int32, z = (own_F1 v3 wc (own_lo)) := ⟨_, rfl⟩
        rw [← hv18] at st17
        refine own_End.go (fun t k => st16 _ (st17 _ k)) ?_
        by_cases hc36_19 : p0 = v18
        · have st20 : ∀ t, Steps p.tables e below (T17.setTop (mkF m 53 #[.val (.int p0), .val (.ref oL), .val (.ref oU), .val (.int v3)] [(.int (1 : Int32))])) t → Steps p.tables e below (T17.setTop (mkF m 36 #[.val (.int p0), .val (.ref oL), .val (.ref oU), .val (.int v3)] [(.int v18), (.int p0)])) t := by
            intro t k
            show Steps p.tables e below (T17.setTop (mkF m 36 #[.val (.int p0), .val (.ref oL), .val (.ref oU), .val (.int v3)] [(.int v18), (.int p0)])) _
            refine XS.icmpYes X17'.here hx rfl (pc0 := 36) (pc' := 48) rfl (hb hby own_d7_36) rfl (teq hc36_19).1 (by decide) (by decide) ?_
            show Steps p.tables e below (T17.setTop (mkF m 48 #[.val (.int p0), .val (.ref oL), .val (.ref oU), .val (.int v3)] [])) _
            refine XS.iconst X17'.here hx rfl (hb hby own_d7_48) ?_
            show Steps p.tables e below (T17.setTop (mkF m 49 #[.val (.int p0), .val (.ref oL), .val (.ref oU), .val (.int v3)] [(.int (1 : Int32))])) _
            refine XS.goto X17'.here hx rfl (pc0 := 49) (pc' := 53) rfl (hb hby own_d7_49) (by decide) (by decide) ?_
            exact k
          refine own_End.go (fun t k => st20 _ k) ?_
          exact own_leafN X17' hx Bd.notSynchronized (t := .boolean) Bd.returns (by simp) (hb hby own_d7_53) ⟨congrArg (fun z => some (Value.int z)) (own_e7_21 hv3 hv18 hc13_5 hc19_9 hc25_13 hc36_19), rfl, e17⟩ (by decide) (by decide)
        · have st22 : ∀ t, Steps p.tables e below (T17.setTop (mkF m 42 #[.val (.int p0), .val (.ref oL), .val (.ref oU), .val (.int v3)] [(.int v3), (.ref oU), (.int p0)])) t → Steps p.tables e below (T17.setTop (mkF m 36 #[.val (.int p0), .val (.ref oL), .val (.ref oU), .val (.int v3)] [(.int v18), (.int p0)])) t := by
            intro t k
            show Steps p.tables e below (T17.setTop (mkF m 36 #[.val (.int p0), .val (.ref oL), .val (.ref oU), .val (.int v3)] [(.int v18), (.int p0)])) _
            refine XS.icmpNo X17'.here hx rfl (hb hby own_d7_36) rfl (feq hc36_19).1 ?_
            show Steps p.tables e below (T17.setTop (mkF m 39 #[.val (.int p0), .val (.ref oL), .val (.ref oU), .val (.int v3)] [])) _
            refine XS.iloadN X17'.here hx rfl (hb hby own_d7_39) rfl ?_
            show Steps p.tables e below (T17.setTop (mkF m 40 #[.val (.int p0), .val (.ref oL), .val (.ref oU), .val (.int v3)] [(.int p0)])) _
            refine XS.aloadN X17'.here hx rfl (hb hby own_d7_40) rfl rfl ?_
            show Steps p.tables e below (T17.setTop (mkF m 41 #[.val (.int p0), .val (.ref oL), .val (.ref oU), .val (.int v3)] [(.ref oU), (.int p0)])) _
            refine XS.iloadN X17'.here hx rfl (hb hby own_d7_41) rfl ?_
            exact k
          obtain ⟨cq23, kq23, q23a, q23b, q23c⟩ := isOf hZ e17 E_oU
          obtain ⟨_, _, ⟨T23, L23, k23, n23⟩, -, X23, ⟨Lc23, hQ23, l23, y23, z23⟩, st23⟩ := X17'.virtualBack hx (y := (⟨"java/lang/String", "charAt", "(I)C"⟩ : MethodName)) (z := (⟨"java/lang/String", "charAt", "(I)C"⟩ : MethodName)) hown (mvT hZ (hw _ (List.mem_of_getElem? (i := 9) rfl))) (mvT hZ (hw _ (List.mem_of_getElem? (i := 10) rfl))) (notFace_of_selects (args := #[]) (mvT hZ (hw _ (List.mem_of_getElem? (i := 12) rfl)))) (mvT hZ (hw _ (List.mem_of_getElem? (i := 12) rfl))) (mvT hZ (hw _ (List.mem_of_getElem? (i := 11) rfl))) (by decide) (backOf (W := 1) (own_rm1 l Z a0 hw [] oU v3 bU wc wf (own_up) h0 n0 Z0 S_COMPACT_STRINGS S_SIOOBE_FORMATTER E_oU F_oU_coder F_oU_value V_bU (hwc) (hwf) ((own_in15 own_upL hc19_9 (Or.inr hc25_13)).1) ((own_in15 own_upL hc19_9 (Or.inr hc25_13)).2.1) ((own_in15 own_upL hc19_9 (Or.inr hc25_13)).2.2)) hZ (hw _ (List.mem_of_getElem? (i := 13) rfl)) (hw _ (List.mem_of_getElem? (i := 1) rfl)) (by decide) (by decide)) q23a q23c (g := (mkF m 42 #[.val (.int p0), .val (.ref oL), .val (.ref oU), .val (.int v3)] [(.int v3), (.ref oU), (.int p0)])) rfl (by rw [hml]; rfl) (Steps.refl _) (argsL := [(.int v3)]) (rest := [(.int p0)]) (lenOf own_pd5 rfl) rfl (by show 2 * 0 + _ ≤ _; exact Nat.le_of_eq rfl) (hb hby own_d7_42) (fun _ _ => ⟨rfl, e17, (by decide : 0 + 0 ≤ _), (by decide : 0 + 0 ≤ _)⟩)
          dsimp only [Pt.U, Pt.locs, Pt.cells, Pt.slots] at X23 l23 y23 z23 st23 hQ23
          subst y23 z23
          obtain ⟨rfl, rfl, e23⟩ := hQ23
          have X23' : Stand p l e own_R7 s m #[(.int p0)] below meth c T23 [] 0 0 := by rw [show L23 = [] from by rw [l23]; first | rfl | exact List.append_nil _] at X23; exact X23
          have st23 : ∀ t, Steps p.tables e below (T23.setTop (mkF m 45 #[.val (.int p0), .val (.ref oL), .val (.ref oU), .val (.int v3)] [(.int (own_F1 v3 wc (own_up))), (.int p0)])) t → Steps p.tables e below (T17.setTop (mkF m 42 #[.val (.int p0), .val (.ref oL), .val (.ref oU), .val (.int v3)] [(.int v3), (.ref oU), (.int p0)])) t := fun t k => st23.trans k
          obtain ⟨v24, hv24⟩ : ∃ z : Int32, z = (own_F1 v3 wc (own_up)) := ⟨_, rfl⟩
          rw [← hv24] at st23
          refine own_End.go (fun t k => st22 _ (st23 _ k)) ?_
          by_cases hc45_25 : p0 = v24
          · have st26 : ∀ t, Steps p.tables e below (T23.setTop (mkF m 53 #[.val (.int p0), .val (.ref oL), .val (.ref oU), .val (.int v3)] [(.int (1 : Int32))])) t → Steps p.tables e below (T23.setTop (mkF m 45 #[.val (.int p0), .val (.ref oL), .val (.ref oU), .val (.int v3)] [(.int v24), (.int p0)])) t := by
              intro t k
              show Steps p.tables e below (T23.setTop (mkF m 45 #[.val (.int p0), .val (.ref oL), .val (.ref oU), .val (.int v3)] [(.int v24), (.int p0)])) _
              refine XS.icmpNo X23'.here hx rfl (hb hby own_d7_45) rfl (teq hc45_25).2 ?_
              show Steps p.tables e below (T23.setTop (mkF m 48 #[.val (.int p0), .val (.ref oL), .val (.ref oU), .val (.int v3)] [])) _
              refine XS.iconst X23'.here hx rfl (hb hby own_d7_48) ?_
              show Steps p.tables e below (T23.setTop (mkF m 49 #[.val (.int p0), .val (.ref oL), .val (.ref oU), .val (.int v3)] [(.int (1 : Int32))])) _
              refine XS.goto X23'.here hx rfl (pc0 := 49) (pc' := 53) rfl (hb hby own_d7_49) (by decide) (by decide) ?_
              exact k
            refine own_End.go (fun t k => st26 _ k) ?_
            exact own_leafN X23' hx Bd.notSynchronized (t := .boolean) Bd.returns (by simp) (hb hby own_d7_53) ⟨congrArg (fun z => some (Value.int z)) (own_e7_27 hv3 hv18 hv24 hc13_5 hc19_9 hc25_13 hc36_19 hc45_25), rfl, e23⟩ (by decide) (by decide)
          · have st28 : ∀ t, Steps p.tables e below (T23.setTop (mkF m 53 #[.val (.int p0), .val (.ref oL), .val (.ref oU), .val (.int v3)] [(.int (0 : Int32))])) t → Steps p.tables e below (T23.setTop (mkF m 45 #[.val (.int p0), .val (.ref oL), .val (.ref oU), .val (.int v3)] [(.int v24), (.int p0)])) t := by
              intro t k
              show Steps p.tables e below (T23.setTop (mkF m 45 #[.val (.int p0), .val (.ref oL), .val (.ref oU), .val (.int v3)] [(.int v24), (.int p0)])) _
              refine XS.icmpYes X23'.here hx rfl (pc0 := 45) (pc' := 52) rfl (hb hby own_d7_45) rfl (feq hc45_25).2 (by decide) (by decide) ?_
              show Steps p.tables e below (T23.setTop (mkF m 52 #[.val (.int p0), .val (.ref oL), .val (.ref oU), .val (.int v3)] [])) _
              refine XS.iconst X23'.here hx rfl (hb hby own_d7_52) ?_
              exact k
            refine own_End.go (fun t k => st28 _ k) ?_
            exact own_leafN X23' hx Bd.notSynchronized (t := .boolean) Bd.returns (by simp) (hb hby own_d7_53) ⟨congrArg (fun z => some (Value.int z)) (own_e7_29 hv3 hv18 hv24 hc13_5 hc19_9 hc25_13 hc36_19 hc45_25), rfl, e23⟩ (by decide) (by decide)
theorem own_pn0 : plainName "com/example/wireform/wireform/HexDigitPinLaw" = true := by first | (simp [plainName, overriddenIn]; done) | decide +kernel
theorem own_ef0 (m : MethodId) (p0 : Int32) (p1 : Int32) : entryFrame m #[(.int p0), (.int p1)] maxLocals = mkF m 0 #[.val (.int p0), .val (.int p1), .unset, .unset, .unset] [] := by first | (simp [entryFrame, mkF, argsToLocals, Value.category, maxLocals]; done) | rfl
def own_F0 (p0 : Int32) (p1 : Int32) (wc : Int32) : Int32 :=
  let v14 : Int32 := (p1 &&& (15 : Int32))
  let v18 : Int32 := (own_F1 v14 wc own_lo)
  let v20 : Int32 := (own_F6 v18)
  if v20 = v14 then
    let v25 : Int32 := (own_F1 v14 wc own_up)
    let v27 : Int32 := (own_F6 v25)
    if v27 = v14 then
      let v32 : Int32 := (own_F7 p0 wc)
      if v32 = (0 : Int32) then
        (0 : Int32)
      else
        let v38 : Int32 := (own_F7 (p0 &&& (255 : Int32)) wc)
        (nar .boolean v38)
    else
      (0 : Int32)
  else
    (0 : Int32)
def own_Q0 (Z : State) (p0 : Int32) (p1 : Int32) (wc : Int32) (wf : Value) (h0 : Heap) (n0 : Nat) (vz : Option Value) (h : Heap) (Lz : List Loc) : Prop := vz = some (.int (own_F0 p0 p1 wc)) ∧ Fr n0 Lz
theorem own_e0_35 {p0 : Int32} {p1 : Int32} {wc : Int32} {v14 : Int32} {v18 : Int32} {v20 : Int32} {v25 : Int32} {v27 : Int32} {v32 : Int32} (hv14 : v14 = (p1 &&& (15 : Int32))) (hv18 : v18 = (own_F1 v14 wc own_lo)) (hv20 : v20 = (own_F6 v18)) (hv25 : v25 = (own_F1 v14 wc own_up)) (hv27 : v27 = (own_F6 v25)) (hv32 : v32 = (own_F7 p0 wc)) (hc23_22 : v20 = v14) (hc39_29 : v27 = v14) (hc48_33 : v32 = (0 : Int32)) : (nar .boolean (0 : Int32)) = (own_F0 p0 p1 wc) := by
  rw [own_nb0]
  subst hv14 hv18 hv20 hv25 hv27 hv32
  first
    | (simp only [own_F0, if_pos hc23_22, if_pos hc39_29, if_pos hc48_33]; done)
    | (exfalso; contradiction)
theorem own_e0_39 {p0 : Int32} {p1 : Int32} {wc : Int32} {v14 : Int32} {v18 : Int32} {v20 : Int32} {v25 : Int32} {v27 : Int32} {v32 : Int32} {v38 : Int32} (hv14 : v14 = (p1 &&& (15 : Int32))) (hv18 : v18 = (own_F1 v14 wc own_lo)) (hv20 : v20 = (own_F6 v18)) (hv25 : v25 = (own_F1 v14 wc own_up)) (hv27 : v27 = (own_F6 v25)) (hv32 : v32 = (own_F7 p0 wc)) (hv38 : v38 = (own_F7 (p0 &&& (255 : Int32)) wc)) (hc23_22 : v20 = v14) (hc39_29 : v27 = v14) (hc48_33 : ¬ (v32 = (0 : Int32))) : (nar .boolean v38) = (own_F0 p0 p1 wc) := by
  subst hv14 hv18 hv20 hv25 hv27 hv32 hv38
  first
    | (simp only [own_F0, if_pos hc23_22, if_pos hc39_29, if_neg hc48_33]; done)
    | (exfalso; contradiction)
theorem own_e0_41 {p0 : Int32} {p1 : Int32} {wc : Int32} {v14 : Int32} {v18 : Int32} {v20 : Int32} {v25 : Int32} {v27 : Int32} (hv14 : v14 = (p1 &&& (15 : Int32))) (hv18 : v18 = (own_F1 v14 wc own_lo)) (hv20 : v20 = (own_F6 v18)) (hv25 : v25 = (own_F1 v14 wc own_up)) (hv27 : v27 = (own_F6 v25)) (hc23_22 : v20 = v14) (hc39_29 : ¬ (v27 = v14)) : (nar .boolean (0 : Int32)) = (own_F0 p0 p1 wc) := by
  rw [own_nb0]
  subst hv14 hv18 hv20 hv25 hv27
  first
    | (simp only [own_F0, if_pos hc23_22, if_neg hc39_29]; done)
    | (exfalso; contradiction)
theorem own_e0_43 {p0 : Int32} {p1 : Int32} {wc : Int32} {v14 : Int32} {v18 : Int32} {v20 : Int32} (hv14 : v14 = (p1 &&& (15 : Int32))) (hv18 : v18 = (own_F1 v14 wc own_lo)) (hv20 : v20 = (own_F6 v18)) (hc23_22 : ¬ (v20 = v14)) : (nar .boolean (0 : Int32)) = (own_F0 p0 p1 wc) := by
  rw [own_nb0]
  subst hv14 hv18 hv20
  first
    | (simp only [own_F0, if_neg hc23_22]; done)
    | (exfalso; contradiction)
set_option maxRecDepth 65536 in
set_option maxHeartbeats 40000000 in
theorem own_rm0 (l : Launch) (Z : State) (a0 : Array Value) (hw : ∀ d ∈ tables_1, d.before a0 Z = true) (ws : List Jvm.Cond) (p0 : Int32) (p1 : Int32) (wc : Int32) (wf : Value) (h0 : Heap) (n0 : Nat) (Z0 : n0 ≤ h0.size) (S_COMPACT_STRINGS : Sta Z h0 "java/lang/String" "COMPACT_STRINGS" "Z" (.int wc)) (S_SIOOBE_FORMATTER : Sta Z h0 "jdk/internal/util/Preconditions" "SIOOBE_FORMATTER" "Ljava/util/function/BiFunction;" wf) (hwc : ¬ wc = (0 : Int32)) (hwf : wf.isRef = true) (hcw : Jvm.Lit.compactW.before a0 Z = true) (hd7 : Jvm.Lit.constHeld Z "com/example/wireform/wireform/HexDigitPinLaw" 7) (hd9 : Jvm.Lit.constHeld Z "com/example/wireform/wireform/HexDigitPinLaw" 9) (hh0 : Z.heap = h0) :
    MetFree l x (head1 (Jvm.Cond.code x code maxLocals ret :: ws) room_1) (fun a U => a = #[(.int p0), (.int p1)] ∧ U = Z) (fun _ _ _ _ _ => True) (fun _ U o U' => ∃ vz Lz, o = .returned vz ∧ own_Q0 Z p0 p1 wc wf h0 n0 vz U'.heap Lz ∧ ReturnedEndW U o U' Lz room_1.cells room_1.slots) := by
  refine MetFree.of_bodySF (plainFor_of_name own_pn0) hisR ?_
  intro p e s m args below meth c s₁ Bd hml0 hP hK
  obtain ⟨rfl, hU⟩ := hP
  have hZ : Z.Warmed39 s.vm := hU ▸ State.Warmed39.refl Z
  have hh : s.heap = h0 := hU ▸ hh0
  have hI : IB Z s.vm [] := hU ▸ IB.start
  have hkp : ∀ (b : Addr) (cl : Cell), Z.heap[b]? = some cl → s.heap[b]? = some cl := fun b cl q => hU ▸ q
  have hx := Bd.exec
  have hby := Bd.bytes
  have hml : c.maxLocals = 5 := hml0
  have hown : s.vm.findClass "com/example/wireform/wireform/HexDigitPinLaw" = some m.cls := findClass_of_methodNamed Bd.named
  have hnm := (name_of_methodNamed Bd.named Bd.method).1
  have X0 : Stand p l e room_1 s m #[(.int p0), (.int p1)] below meth c s₁ [] 0 0 := Stand.of_body Bd
  have e0 : s₁.heap = h0 := by rw [← hh, Bd.state]; rfl
  show own_EndW p e below s (fun vz h Lz => vz = some (.int (own_F0 p0 p1 wc)) ∧ Fr n0 Lz) room_1.cells room_1.slots s₁ (entryFrame m #[(.int p0), (.int p1)] maxLocals)
  refine own_EndW.go (fun t k => castTop (own_ef0 m p0 p1) k) ?_
  show own_EndW p e below s _ _ _ s₁ (mkF m 0 #[.val (.int p0), .val (.int p1), .unset, .unset, .unset] [])
  have N0 := Fr.nil n0
  obtain ⟨b1, T1, h1, k1, d1, c1, X1, e1, E1, S1, hk1, hZ, hown, Ex1, Fc1, Fv1, Av1, -, -, I1, Lt1, st1⟩ := ldcSVL (s := s) (vm0 := s.vm) (show Stand p l e room_1 (s.setVm s.vm) m #[(.int p0), (.int p1)] below meth c s₁ [] 0 0 from X0) hx hZ hown (hw _ (List.mem_of_getElem? (i := 0) rfl)) (own_wS hw) e0 (k0 := h0.size) ((State.WarmedH.refl (s)).since _) (Nat.le_refl _) (Fr.nil _) hkp hI (by decide) hd7 hcw (vs := own_lo.map Value.int) (z := 16) ⟨by decide, by rfl⟩ (by decide) (by decide) (g := (mkF m 0 #[.val (.int p0), .val (.int p1), .unset, .unset, .unset] [])) rfl (hb hby at_0) (n := 64) (by decide) (by decide) (by decide) (by decide)
  have X1 : Stand p l e room_1 (s.setVm T1.vm) m #[(.int p0), (.int p1)] below meth c T1 [] 2 68 := X1
  have K1 := own_keepE E1
  have A1 : own_IA Z h1 d1 .byte own_lo := ⟨c1, 16, Av1, by decide⟩
  have Sc1 : s.Since T1.vm h1.size := own_sinceUp S1 hk1
  have Fc1 : Fld Z h1 b1 "java/lang/String" "coder" "B" (.int (0 : Int32)) := Fc1
  have f2 : Sta Z h1 "java/lang/String" "COMPACT_STRINGS" "Z" (.int wc) := S_COMPACT_STRINGS.ext (own_extK K1)
  have f3 : Sta Z h1 "jdk/internal/util/Preconditions" "SIOOBE_FORMATTER" "Ljava/util/function/BiFunction;" wf := S_SIOOBE_FORMATTER.ext (own_extK K1)
  have Zp4 : n0 ≤ h1.size := Nat.le_trans Z0 K1.1
  have st5 : ∀ t, Steps p.tables e below (T1.setTop (mkF m 3 #[.val (.int p0), .val (.int p1), .val (.ref b1), .unset, .unset] [])) t → Steps p.tables e below (T1.setTop (mkF m 2 #[.val (.int p0), .val (.int p1), .unset, .unset, .unset] [(.ref b1)])) t := by
    intro t k
    show Steps p.tables e below (T1.setTop (mkF m 2 #[.val (.int p0), .val (.int p1), .unset, .unset, .unset] [(.ref b1)])) _
    refine XS.astoreN X1.here hx rfl (hb hby at_2) rfl rfl (l' := #[.val (.int p0), .val (.int p1), .val (.ref b1), .unset, .unset]) rfl ?_
    exact k
  obtain ⟨b6, T6, h6, k6, d6, c6, X6, e6, E6, S6, hk6, hZ, hown, Ex6, Fc6, Fv6, Av6, -, -, I6, Lt6, st6⟩ := ldcSVL (s := (s.setVm T1.vm)) (vm0 := T1.vm) (show Stand p l e room_1 (((s.setVm T1.vm)).setVm T1.vm) m #[(.int p0), (.int p1)] below meth c T1 [] 2 68 from X1) hx hZ hown (hw _ (List.mem_of_getElem? (i := 8) rfl)) (own_wS hw) e1 (k0 := h1.size) ((State.WarmedH.refl ((s.setVm T1.vm))).since _) (Nat.le_refl _) (Fr.nil _) hkp I1 (by decide) hd9 hcw (vs := own_up.map Value.int) (z := 16) ⟨by decide, by rfl⟩ (by decide) (by decide) (g := (mkF m 3 #[.val (.int p0), .val (.int p1), .val (.ref b1), .unset, .unset] [])) rfl (hb hby at_3) (n := 64) (by decide) (by decide) (by decide) (by decide)
  have X6 : Stand p l e room_1 (s.setVm T6.vm) m #[(.int p0), (.int p1)] below meth c T6 [] 4 136 := X6
  have K6 := own_keepE E6
  have A6 : own_IA Z h6 d6 .byte own_up := ⟨c6, 16, Av6, by decide⟩
  have Sc6 : s.Since T6.vm h6.size := State.Since.trans Sc1 (own_sinceUp S6 hk6) E6.1
  have Lt1 := Lit.stays Lt1 S6.1
  have Fc6 : Fld Z h6 b6 "java/lang/String" "coder" "B" (.int (0 : Int32)) := Fc6
  have f7 : Sta Z h6 "java/lang/String" "COMPACT_STRINGS" "Z" (.int wc) := f2.ext (own_extK K6)
  have f8 : Sta Z h6 "jdk/internal/util/Preconditions" "SIOOBE_FORMATTER" "Ljava/util/function/BiFunction;" wf := f3.ext (own_extK K6)
  have f9 : Exa Z h6 b1 "java/lang/String" := Ex1.keep K6
  have f10 : Fld Z h6 b1 "java/lang/String" "coder" "B" (.int (0 : Int32)) := Fc1.keep K6 nin0
  have f11 : Fld Z h6 b1 "java/lang/String" "value" "[B" (.ref d1) := Fv1.keep K6 nin0
  have f12 : own_IA Z h6 d1 .byte own_lo := A1.keep K6 nin0
  have Zp13 : n0 ≤ h6.size := Nat.le_trans Zp4 K6.1
  obtain ⟨v14, hv14⟩ : ∃ z : Int32, z = (p1 &&& (15 : Int32)) := ⟨_, rfl⟩
  have st15 : ∀ t, Steps p.tables e below (T6.setTop (mkF m 12 #[.val (.int p0), .val (.int p1), .val (.ref b1), .val (.ref b6), .val (.int v14)] [])) t → Steps p.tables e below (T6.setTop (mkF m 5 #[.val (.int p0), .val (.int p1), .val (.ref b1), .unset, .unset] [(.ref b6)])) t := by
    rw [hv14]
    intro t k
    show Steps p.tables e below (T6.setTop (mkF m 5 #[.val (.int p0), .val (.int p1), .val (.ref b1), .unset, .unset] [(.ref b6)])) _
    refine XS.astoreN X6.here hx rfl (hb hby at_5) rfl rfl (l' := #[.val (.int p0), .val (.int p1), .val (.ref b1), .val (.ref b6), .unset]) rfl ?_
    show Steps p.tables e below (T6.setTop (mkF m 6 #[.val (.int p0), .val (.int p1), .val (.ref b1), .val (.ref b6), .unset] [])) _
    refine XS.iloadN X6.here hx rfl (hb hby at_6) rfl ?_
    show Steps p.tables e below (T6.setTop (mkF m 7 #[.val (.int p0), .val (.int p1), .val (.ref b1), .val (.ref b6), .unset] [(.int p1)])) _
    refine XS.bipush X6.here hx rfl (hb hby at_7) ?_
    show Steps p.tables e below (T6.setTop (mkF m 9 #[.val (.int p0), .val (.int p1), .val (.ref b1), .val (.ref b6), .unset] [(.int (15 : Int32)), (.int p1)])) _
    refine XS.iand X6.here hx rfl (hb hby at_9) rfl ?_
    show Steps p.tables e below (T6.setTop (mkF m 10 #[.val (.int p0), .val (.int p1), .val (.ref b1), .val (.ref b6), .unset] [(.int (p1 &&& (15 : Int32)))])) _
    refine XS.istore X6.here hx rfl (hb hby at_10) rfl (l' := #[.val (.int p0), .val (.int p1), .val (.ref b1), .val (.ref b6), .val (.int (p1 &&& (15 : Int32)))]) rfl ?_
    exact k
  have st16 : ∀ t, Steps p.tables e below (T6.setTop (mkF m 15 #[.val (.int p0), .val (.int p1), .val (.ref b1), .val (.ref b6), .val (.int v14)] [(.int v14), (.ref b1)])) t → Steps p.tables e below (T6.setTop (mkF m 12 #[.val (.int p0), .val (.int p1), .val (.ref b1), .val (.ref b6), .val (.int v14)] [])) t := by
    intro t k
    show Steps p.tables e below (T6.setTop (mkF m 12 #[.val (.int p0), .val (.int p1), .val (.ref b1), .val (.ref b6), .val (.int v14)] [])) _
    refine XS.aloadN X6.here hx rfl (hb hby at_12) rfl rfl ?_
    show Steps p.tables e below (T6.setTop (mkF m 13 #[.val (.int p0), .val (.int p1), .val (.ref b1), .val (.ref b6), .val (.int v14)] [(.ref b1)])) _
    refine XS.iload X6.here hx rfl (hb hby at_13) rfl ?_
    exact k
  obtain ⟨cq17, kq17, q17a, q17b, q17c⟩ := isOf hZ e6 f9
  obtain ⟨_, _, ⟨T17, L17, k17, n17⟩, -, X17, ⟨Lc17, hQ17, l17, y17, z17⟩, st17⟩ := X6.virtualBack hx (y := (⟨"java/lang/String", "charAt", "(I)C"⟩ : MethodName)) (z := (⟨"java/lang/String", "charAt", "(I)C"⟩ : MethodName)) hown (mvT hZ (hw _ (List.mem_of_getElem? (i := 9) rfl))) (mvT hZ (hw _ (List.mem_of_getElem? (i := 10) rfl))) (notFace_of_selects (args := #[]) (mvT hZ (hw _ (List.mem_of_getElem? (i := 12) rfl)))) (mvT hZ (hw _ (List.mem_of_getElem? (i := 12) rfl))) (mvT hZ (hw _ (List.mem_of_getElem? (i := 11) rfl))) (by decide) (backOf (W := 0) (own_rm1 l Z a0 hw [] b1 v14 d1 wc wf own_lo h6 n0 Zp13 f7 f8 f9 f10 f11 f12 (hwc) (hwf) ((own_m15 own_loL hv14).1) ((own_m15 own_loL hv14).2.1) ((own_m15 own_loL hv14).2.2)) hZ (hw _ (List.mem_of_getElem? (i := 13) rfl)) (hw _ (List.mem_of_getElem? (i := 1) rfl)) (by decide) (by decide)) q17a q17c (g := (mkF m 15 #[.val (.int p0), .val (.int p1), .val (.ref b1), .val (.ref b6), .val (.int v14)] [(.int v14), (.ref b1)])) rfl (by rw [hml]; rfl) (Steps.refl _) (argsL := [(.int v14)]) (rest := []) (lenOf own_pd5 rfl) rfl (by show 2 * 0 + _ ≤ _; exact Nat.le_of_eq rfl) (hb hby at_15) (fun _ _ => ⟨rfl, e6, (by decide : 4 + 0 ≤ _), (by decide : 136 + 0 ≤ _)⟩)
  dsimp only [Pt.U, Pt.locs, Pt.cells, Pt.slots] at X17 l17 y17 z17 st17 hQ17
  subst y17 z17
  obtain ⟨rfl, rfl, e17⟩ := hQ17
  have X17' : Stand p l e room_1 (s.setVm T6.vm) m #[(.int p0), (.int p1)] below meth c T17 [] 4 136 := by rw [show L17 = [] from by rw [l17]; first | rfl | exact List.append_nil _] at X17; exact X17
  have st17 : ∀ t, Steps p.tables e below (T17.setTop (mkF m 18 #[.val (.int p0), .val (.int p1), .val (.ref b1), .val (.ref b6), .val (.int v14)] [(.int (own_F1 v14 wc own_lo))])) t → Steps p.tables e below (T6.setTop (mkF m 15 #[.val (.int p0), .val (.int p1), .val (.ref b1), .val (.ref b6), .val (.int v14)] [(.int v14), (.ref b1)])) t := fun t k => st17.trans k
  obtain ⟨v18, hv18⟩ : ∃ z : Int32, z = (own_F1 v14 wc own_lo) := ⟨_, rfl⟩
  rw [← hv18] at st17
  obtain ⟨_, _, ⟨T19, L19, k19, n19⟩, -, X19, ⟨Lc19, hQ19, l19, y19, z19⟩, st19⟩ := Jvm.LawKit.callS X17' hx (y := (⟨"com/example/wireform/wireform/Hex", "digit", "(I)I"⟩ : MethodName)) hown (mvT hZ (hw _ (List.mem_of_getElem? (i := 34) rfl))) (mvT hZ (hw _ (List.mem_of_getElem? (i := 35) rfl))) (mvT hZ (hw _ (List.mem_of_getElem? (i := 36) rfl))) (mvT hZ (hw _ (List.mem_of_getElem? (i := 37) rfl))) (by decide) (backOf (W := 0) (own_rm6 l Z a0 hw [] v18 h6) hZ (hw _ (List.mem_of_getElem? (i := 37) rfl)) (hw _ (List.mem_of_getElem? (i := 36) rfl)) (by decide) (by decide)) (g := (mkF m 18 #[.val (.int p0), .val (.int p1), .val (.ref b1), .val (.ref b6), .val (.int v14)] [(.int v18)])) rfl (by rw [hml]; rfl) (argsL := [(.int v18)]) (rest := []) (lenOf own_pd4 rfl) rfl (by show 2 * 0 + _ ≤ _; exact Nat.le_of_eq rfl) (hb hby at_18) (fun _ _ => ⟨rfl, e17, (by decide : 4 + 0 ≤ _), (by decide : 136 + 0 ≤ _)⟩)
  dsimp only [Pt.U, Pt.locs, Pt.cells, Pt.slots] at X19 l19 y19 z19 st19 hQ19
  subst y19 z19
  obtain ⟨rfl, rfl, e19⟩ := hQ19
  have X19' : Stand p l e room_1 (s.setVm T6.vm) m #[(.int p0), (.int p1)] below meth c T19 [] 4 136 := by rw [show L19 = [] from by rw [l19]; first | rfl | exact List.append_nil _] at X19; exact X19
  obtain ⟨v20, hv20⟩ : ∃ z : Int32, z = (own_F6 v18) := ⟨_, rfl⟩
  rw [← hv20] at st19
  have st21 : ∀ t, Steps p.tables e below (T19.setTop (mkF m 23 #[.val (.int p0), .val (.int p1), .val (.ref b1), .val (.ref b6), .val (.int v14)] [(.int v14), (.int v20)])) t → Steps p.tables e below (T19.setTop (mkF m 21 #[.val (.int p0), .val (.int p1), .val (.ref b1), .val (.ref b6), .val (.int v14)] [(.int v20)])) t := by
    intro t k
    show Steps p.tables e below (T19.setTop (mkF m 21 #[.val (.int p0), .val (.int p1), .val (.ref b1), .val (.ref b6), .val (.int v14)] [(.int v20)])) _
    refine XS.iload X19'.here hx rfl (hb hby at_21) rfl ?_
    exact k
  refine own_EndW.go (fun t k => st1 _ (st5 _ (st6 _ (st15 _ (st16 _ (st17 _ (st19 _ (st21 _ k)))))))) ?_
  by_cases hc23_22 : v20 = v14
  · have st23 : ∀ t, Steps p.tables e below (T19.setTop (mkF m 31 #[.val (.int p0), .val (.int p1), .val (.ref b1), .val (.ref b6), .val (.int v14)] [(.int v14), (.ref b6)])) t → Steps p.tables e below (T19.setTop (mkF m 23 #[.val (.int p0), .val (.int p1), .val (.ref b1), .val (.ref b6), .val (.int v14)] [(.int v14), (.int v20)])) t := by
      intro t k
      show Steps p.tables e below (T19.setTop (mkF m 23 #[.val (.int p0), .val (.int p1), .val (.ref b1), .val (.ref b6), .val (.int v14)] [(.int v14), (.int v20)])) _
      refine XS.icmpYes X19'.here hx rfl (pc0 := 23) (pc' := 28) rfl (hb hby at_23) rfl (teq hc23_22).1 (by decide) (by decide) ?_
      show Steps p.tables e below (T19.setTop (mkF m 28 #[.val (.int p0), .val (.int p1), .val (.ref b1), .val (.ref b6), .val (.int v14)] [])) _
      refine XS.aloadN X19'.here hx rfl (hb hby at_28) rfl rfl ?_
      show Steps p.tables e below (T19.setTop (mkF m 29 #[.val (.int p0), .val (.int p1), .val (.ref b1), .val (.ref b6), .val (.int v14)] [(.ref b6)])) _
      refine XS.iload X19'.here hx rfl (hb hby at_29) rfl ?_
      exact k
    obtain ⟨cq24, kq24, q24a, q24b, q24c⟩ := isOf hZ e19 Ex6
    obtain ⟨_, _, ⟨T24, L24, k24, n24⟩, -, X24, ⟨Lc24, hQ24, l24, y24, z24⟩, st24⟩ := X19'.virtualBack hx (y := (⟨"java/lang/String", "charAt", "(I)C"⟩ : MethodName)) (z := (⟨"java/lang/String", "charAt", "(I)C"⟩ : MethodName)) hown (mvT hZ (hw _ (List.mem_of_getElem? (i := 9) rfl))) (mvT hZ (hw _ (List.mem_of_getElem? (i := 10) rfl))) (notFace_of_selects (args := #[]) (mvT hZ (hw _ (List.mem_of_getElem? (i := 12) rfl)))) (mvT hZ (hw _ (List.mem_of_getElem? (i := 12) rfl))) (mvT hZ (hw _ (List.mem_of_getElem? (i := 11) rfl))) (by decide) (backOf (W := 0) (own_rm1 l Z a0 hw [] b6 v14 d6 wc wf own_up h6 n0 Zp13 f7 f8 Ex6 Fc6 Fv6 A6 (hwc) (hwf) ((own_m15 own_upL hv14).1) ((own_m15 own_upL hv14).2.1) ((own_m15 own_upL hv14).2.2)) hZ (hw _ (List.mem_of_getElem? (i := 13) rfl)) (hw _ (List.mem_of_getElem? (i := 1) rfl)) (by decide) (by decide)) q24a q24c (g := (mkF m 31 #[.val (.int p0), .val (.int p1), .val (.ref b1), .val (.ref b6), .val (.int v14)] [(.int v14), (.ref b6)])) rfl (by rw [hml]; rfl) (Steps.refl _) (argsL := [(.int v14)]) (rest := []) (lenOf own_pd5 rfl) rfl (by show 2 * 0 + _ ≤ _; exact Nat.le_of_eq rfl) (hb hby at_31) (fun _ _ => ⟨rfl, e19, (by decide : 4 + 0 ≤ _), (by decide : 136 + 0 ≤ _)⟩)
    dsimp only [Pt.U, Pt.locs, Pt.cells, Pt.slots] at X24 l24 y24 z24 st24 hQ24
    subst y24 z24
    obtain ⟨rfl, rfl, e24⟩ := hQ24
    have X24' : Stand p l e room_1 (s.setVm T6.vm) m #[(.int p0), (.int p1)] below meth c T24 [] 4 136 := by rw [show L24 = [] from by rw [l24]; first | rfl | exact List.append_nil _] at X24; exact X24
    have st24 : ∀ t, Steps p.tables e below (T24.setTop (mkF m 34 #[.val (.int p0), .val (.int p1), .val (.ref b1), .val (.ref b6), .val (.int v14)] [(.int (own_F1 v14 wc own_up))])) t → Steps p.tables e below (T19.setTop (mkF m 31 #[.val (.int p0), .val (.int p1), .val (.ref b1), .val (.ref b6), .val (.int v14)] [(.int v14), (.ref b6)])) t := fun t k => st24.trans k
    obtain ⟨v25, hv25⟩ : ∃ z : Int32, z = (own_F1 v14 wc own_up) := ⟨_, rfl⟩
    rw [← hv25] at st24
    obtain ⟨_, _, ⟨T26, L26, k26, n26⟩, -, X26, ⟨Lc26, hQ26, l26, y26, z26⟩, st26⟩ := Jvm.LawKit.callS X24' hx (y := (⟨"com/example/wireform/wireform/Hex", "digit", "(I)I"⟩ : MethodName)) hown (mvT hZ (hw _ (List.mem_of_getElem? (i := 34) rfl))) (mvT hZ (hw _ (List.mem_of_getElem? (i := 35) rfl))) (mvT hZ (hw _ (List.mem_of_getElem? (i := 36) rfl))) (mvT hZ (hw _ (List.mem_of_getElem? (i := 37) rfl))) (by decide) (backOf (W := 0) (own_rm6 l Z a0 hw [] v25 h6) hZ (hw _ (List.mem_of_getElem? (i := 37) rfl)) (hw _ (List.mem_of_getElem? (i := 36) rfl)) (by decide) (by decide)) (g := (mkF m 34 #[.val (.int p0), .val (.int p1), .val (.ref b1), .val (.ref b6), .val (.int v14)] [(.int v25)])) rfl (by rw [hml]; rfl) (argsL := [(.int v25)]) (rest := []) (lenOf own_pd4 rfl) rfl (by show 2 * 0 + _ ≤ _; exact Nat.le_of_eq rfl) (hb hby at_34) (fun _ _ => ⟨rfl, e24, (by decide : 4 + 0 ≤ _), (by decide : 136 + 0 ≤ _)⟩)
    dsimp only [Pt.U, Pt.locs, Pt.cells, Pt.slots] at X26 l26 y26 z26 st26 hQ26
    subst y26 z26
    obtain ⟨rfl, rfl, e26⟩ := hQ26
    have X26' : Stand p l e room_1 (s.setVm T6.vm) m #[(.int p0), (.int p1)] below meth c T26 [] 4 136 := by rw [show L26 = [] from by rw [l26]; first | rfl | exact List.append_nil _] at X26; exact X26
    obtain ⟨v27, hv27⟩ : ∃ z : Int32, z = (own_F6 v25) := ⟨_, rfl⟩
    rw [← hv27] at st26
    have st28 : ∀ t, Steps p.tables e below (T26.setTop (mkF m 39 #[.val (.int p0), .val (.int p1), .val (.ref b1), .val (.ref b6), .val (.int v14)] [(.int v14), (.int v27)])) t → Steps p.tables e below (T26.setTop (mkF m 37 #[.val (.int p0), .val (.int p1), .val (.ref b1), .val (.ref b6), .val (.int v14)] [(.int v27)])) t := by
      intro t k
      show Steps p.tables e below (T26.setTop (mkF m 37 #[.val (.int p0), .val (.int p1), .val (.ref b1), .val (.ref b6), .val (.int v14)] [(.int v27)])) _
      refine XS.iload X26'.here hx rfl (hb hby at_37) rfl ?_
      exact k
    refine own_EndW.go (fun t k => st23 _ (st24 _ (st26 _ (st28 _ k)))) ?_
    by_cases hc39_29 : v27 = v14
    · have st30 : ∀ t, Steps p.tables e below (T26.setTop (mkF m 45 #[.val (.int p0), .val (.int p1), .val (.ref b1), .val (.ref b6), .val (.int v14)] [(.int p0)])) t → Steps p.tables e below (T26.setTop (mkF m 39 #[.val (.int p0), .val (.int p1), .val (.ref b1), .val (.ref b6), .val (.int v14)] [(.int v14), (.int v27)])) t := by
        intro t k
        show Steps p.tables e below (T26.setTop (mkF m 39 #[.val (.int p0), .val (.int p1), .val (.ref b1), .val (.ref b6), .val (.int v14)] [(.int v14), (.int v27)])) _
        refine XS.icmpYes X26'.here hx rfl (pc0 := 39) (pc' := 44) rfl (hb hby at_39) rfl (teq hc39_29).1 (by decide) (by decide) ?_
        show Steps p.tables e below (T26.setTop (mkF m 44 #[.val (.int p0), .val (.int p1), .val (.ref b1), .val (.ref b6), .val (.int v14)] [])) _
        refine XS.iloadN X26'.here hx rfl (hb hby at_44) rfl ?_
        exact k
      obtain ⟨_, _, ⟨T31, L31, k31, n31⟩, -, X31, ⟨Lc31, hQ31, l31, y31, z31⟩, st31⟩ := Jvm.LawKit.callS X26' hx (y := (⟨"com/example/wireform/wireform/HexDigitPinLaw", "answerFits", "(I)Z"⟩ : MethodName)) hown (mvT hZ (hw _ (List.mem_of_getElem? (i := 38) rfl))) (mvT hZ (hw _ (List.mem_of_getElem? (i := 39) rfl))) (mvT hZ (hw _ (List.mem_of_getElem? (i := 40) rfl))) (mvT hZ (hw _ (List.mem_of_getElem? (i := 41) rfl))) (by decide) (own_backL (W := 0) (own_rm7 l Z a0 hw [] p0 b1 d1 b6 d6 wc wf h6 n0 Zp13 f7 f8 f9 f10 f11 f12 Ex6 Fc6 Fv6 A6 hwc hwf) hZ (hw _ (List.mem_of_getElem? (i := 41) rfl)) (hw _ (List.mem_of_getElem? (i := 40) rfl)) (by decide) (by decide) Lt1 Lt6) (g := (mkF m 45 #[.val (.int p0), .val (.int p1), .val (.ref b1), .val (.ref b6), .val (.int v14)] [(.int p0)])) rfl (by rw [hml]; rfl) (argsL := [(.int p0)]) (rest := []) (lenOf own_pd6 rfl) rfl (by show 2 * 0 + _ ≤ _; exact Nat.le_of_eq rfl) (hb hby at_45) (fun _ _ => ⟨rfl, e26, (by decide : 4 + 0 ≤ _), (by decide : 136 + 0 ≤ _)⟩)
      dsimp only [Pt.U, Pt.locs, Pt.cells, Pt.slots] at X31 l31 y31 z31 st31 hQ31
      subst y31 z31
      obtain ⟨rfl, rfl, e31⟩ := hQ31
      have X31' : Stand p l e room_1 (s.setVm T6.vm) m #[(.int p0), (.int p1)] below meth c T31 [] 4 136 := by rw [show L31 = [] from by rw [l31]; first | rfl | exact List.append_nil _] at X31; exact X31
      obtain ⟨v32, hv32⟩ : ∃ z : Int32, z = (own_F7 p0 wc) := ⟨_, rfl⟩
      rw [← hv32] at st31
      refine own_EndW.go (fun t k => st30 _ (st31 _ k)) ?_
      by_cases hc48_33 : v32 = (0 : Int32)
      · have st34 : ∀ t, Steps p.tables e below (T31.setTop (mkF m 52 #[.val (.int p0), .val (.int p1), .val (.ref b1), .val (.ref b6), .val (.int v14)] [(.int (0 : Int32))])) t → Steps p.tables e below (T31.setTop (mkF m 48 #[.val (.int p0), .val (.int p1), .val (.ref b1), .val (.ref b6), .val (.int v14)] [(.int v32)])) t := by
          intro t k
          show Steps p.tables e below (T31.setTop (mkF m 48 #[.val (.int p0), .val (.int p1), .val (.ref b1), .val (.ref b6), .val (.int v14)] [(.int v32)])) _
          refine XS.ifNo X31'.here hx rfl (hb hby at_48) rfl ((if0 _ _).trans (teq hc48_33).2) ?_
          show Steps p.tables e below (T31.setTop (mkF m 51 #[.val (.int p0), .val (.int p1), .val (.ref b1), .val (.ref b6), .val (.int v14)] [])) _
          refine XS.iconst X31'.here hx rfl (hb hby at_51) ?_
          exact k
        refine own_EndW.go (fun t k => st34 _ k) ?_
        exact own_leafNW X31' Sc6 (by rw [e31]; exact Nat.le_refl _) hx Bd.notSynchronized (t := .boolean) Bd.returns (by simp) (hb hby at_52) ⟨congrArg (fun z => some (Value.int z)) (own_e0_35 hv14 hv18 hv20 hv25 hv27 hv32 hc23_22 hc39_29 hc48_33), N0⟩ (by decide) (by decide)
      · have st36 : ∀ t, Steps p.tables e below (T31.setTop (mkF m 58 #[.val (.int p0), .val (.int p1), .val (.ref b1), .val (.ref b6), .val (.int v14)] [(.int (p0 &&& (255 : Int32)))])) t → Steps p.tables e below (T31.setTop (mkF m 48 #[.val (.int p0), .val (.int p1), .val (.ref b1), .val (.ref b6), .val (.int v14)] [(.int v32)])) t := by
          intro t k
          show Steps p.tables e below (T31.setTop (mkF m 48 #[.val (.int p0), .val (.int p1), .val (.ref b1), .val (.ref b6), .val (.int v14)] [(.int v32)])) _
          refine XS.ifYes X31'.here hx rfl (pc0 := 48) (pc' := 53) rfl (hb hby at_48) rfl ((if0 _ _).trans (feq hc48_33).2) (by decide) (by decide) ?_
          show Steps p.tables e below (T31.setTop (mkF m 53 #[.val (.int p0), .val (.int p1), .val (.ref b1), .val (.ref b6), .val (.int v14)] [])) _
          refine XS.iloadN X31'.here hx rfl (hb hby at_53) rfl ?_
          show Steps p.tables e below (T31.setTop (mkF m 54 #[.val (.int p0), .val (.int p1), .val (.ref b1), .val (.ref b6), .val (.int v14)] [(.int p0)])) _
          refine XS.sipush X31'.here hx rfl (hb hby at_54) ?_
          show Steps p.tables e below (T31.setTop (mkF m 57 #[.val (.int p0), .val (.int p1), .val (.ref b1), .val (.ref b6), .val (.int v14)] [(.int (255 : Int32)), (.int p0)])) _
          refine XS.iand X31'.here hx rfl (hb hby at_57) rfl ?_
          exact k
        obtain ⟨_, _, ⟨T37, L37, k37, n37⟩, -, X37, ⟨Lc37, hQ37, l37, y37, z37⟩, st37⟩ := Jvm.LawKit.callS X31' hx (y := (⟨"com/example/wireform/wireform/HexDigitPinLaw", "answerFits", "(I)Z"⟩ : MethodName)) hown (mvT hZ (hw _ (List.mem_of_getElem? (i := 38) rfl))) (mvT hZ (hw _ (List.mem_of_getElem? (i := 39) rfl))) (mvT hZ (hw _ (List.mem_of_getElem? (i := 40) rfl))) (mvT hZ (hw _ (List.mem_of_getElem? (i := 41) rfl))) (by decide) (own_backL (W := 0) (own_rm7 l Z a0 hw [] (p0 &&& (255 : Int32)) b1 d1 b6 d6 wc wf h6 n0 Zp13 f7 f8 f9 f10 f11 f12 Ex6 Fc6 Fv6 A6 hwc hwf) hZ (hw _ (List.mem_of_getElem? (i := 41) rfl)) (hw _ (List.mem_of_getElem? (i := 40) rfl)) (by decide) (by decide) Lt1 Lt6) (g := (mkF m 58 #[.val (.int p0), .val (.int p1), .val (.ref b1), .val (.ref b6), .val (.int v14)] [(.int (p0 &&& (255 : Int32)))])) rfl (by rw [hml]; rfl) (argsL := [(.int (p0 &&& (255 : Int32)))]) (rest := []) (lenOf own_pd6 rfl) rfl (by show 2 * 0 + _ ≤ _; exact Nat.le_of_eq rfl) (hb hby at_58) (fun _ _ => ⟨rfl, e31, (by decide : 4 + 0 ≤ _), (by decide : 136 + 0 ≤ _)⟩)
        dsimp only [Pt.U, Pt.locs, Pt.cells, Pt.slots] at X37 l37 y37 z37 st37 hQ37
        subst y37 z37
        obtain ⟨rfl, rfl, e37⟩ := hQ37
        have X37' : Stand p l e room_1 (s.setVm T6.vm) m #[(.int p0), (.int p1)] below meth c T37 [] 4 136 := by rw [show L37 = [] from by rw [l37]; first | rfl | exact List.append_nil _] at X37; exact X37
        obtain ⟨v38, hv38⟩ : ∃ z : Int32, z = (own_F7 (p0 &&& (255 : Int32)) wc) := ⟨_, rfl⟩
        rw [← hv38] at st37
        refine own_EndW.go (fun t k => st36 _ (st37 _ k)) ?_
        exact own_leafNW X37' Sc6 (by rw [e37]; exact Nat.le_refl _) hx Bd.notSynchronized (t := .boolean) Bd.returns (by simp) (hb hby at_61) ⟨congrArg (fun z => some (Value.int z)) (own_e0_39 hv14 hv18 hv20 hv25 hv27 hv32 hv38 hc23_22 hc39_29 hc48_33), N0⟩ (by decide) (by decide)
    · have st40 : ∀ t, Steps p.tables e below (T26.setTop (mkF m 43 #[.val (.int p0), .val (.int p1), .val (.ref b1), .val (.ref b6), .val (.int v14)] [(.int (0 : Int32))])) t → Steps p.tables e below (T26.setTop (mkF m 39 #[.val (.int p0), .val (.int p1), .val (.ref b1), .val (.ref b6), .val (.int v14)] [(.int v14), (.int v27)])) t := by
        intro t k
        show Steps p.tables e below (T26.setTop (mkF m 39 #[.val (.int p0), .val (.int p1), .val (.ref b1), .val (.ref b6), .val (.int v14)] [(.int v14), (.int v27)])) _
        refine XS.icmpNo X26'.here hx rfl (hb hby at_39) rfl (feq hc39_29).1 ?_
        show Steps p.tables e below (T26.setTop (mkF m 42 #[.val (.int p0), .val (.int p1), .val (.ref b1), .val (.ref b6), .val (.int v14)] [])) _
        refine XS.iconst X26'.here hx rfl (hb hby at_42) ?_
        exact k
      refine own_EndW.go (fun t k => st40 _ k) ?_
      exact own_leafNW X26' Sc6 (by rw [e26]; exact Nat.le_refl _) hx Bd.notSynchronized (t := .boolean) Bd.returns (by simp) (hb hby at_43) ⟨congrArg (fun z => some (Value.int z)) (own_e0_41 hv14 hv18 hv20 hv25 hv27 hc23_22 hc39_29), N0⟩ (by decide) (by decide)
  · have st42 : ∀ t, Steps p.tables e below (T19.setTop (mkF m 27 #[.val (.int p0), .val (.int p1), .val (.ref b1), .val (.ref b6), .val (.int v14)] [(.int (0 : Int32))])) t → Steps p.tables e below (T19.setTop (mkF m 23 #[.val (.int p0), .val (.int p1), .val (.ref b1), .val (.ref b6), .val (.int v14)] [(.int v14), (.int v20)])) t := by
      intro t k
      show Steps p.tables e below (T19.setTop (mkF m 23 #[.val (.int p0), .val (.int p1), .val (.ref b1), .val (.ref b6), .val (.int v14)] [(.int v14), (.int v20)])) _
      refine XS.icmpNo X19'.here hx rfl (hb hby at_23) rfl (feq hc23_22).1 ?_
      show Steps p.tables e below (T19.setTop (mkF m 26 #[.val (.int p0), .val (.int p1), .val (.ref b1), .val (.ref b6), .val (.int v14)] [])) _
      refine XS.iconst X19'.here hx rfl (hb hby at_26) ?_
      exact k
    refine own_EndW.go (fun t k => st42 _ k) ?_
    exact own_leafNW X19' Sc6 (by rw [e19]; exact Nat.le_refl _) hx Bd.notSynchronized (t := .boolean) Bd.returns (by simp) (hb hby at_27) ⟨congrArg (fun z => some (Value.int z)) (own_e0_43 hv14 hv18 hv20 hc23_22), N0⟩ (by decide) (by decide)
theorem own_ch : ∀ i : Fin 16, own_F6 (own_F1 (Int32.ofNat i.val) 0 own_lo) = Int32.ofNat i.val ∧ own_F6 (own_F1 (Int32.ofNat i.val) 0 own_up) = Int32.ofNat i.val := by decide +kernel
theorem own_af : ∀ i : Fin 128, own_F7 (Int32.ofNat i.val) 0 = 1 := by decide +kernel
theorem own_i3 (v : Int32) (n : Nat) (h0 : 0 ≤ v.toInt) (h1 : v.toInt < n) (hn : n ≤ 128) : ∃ i : Fin n, v = Int32.ofNat i.val := by
  refine ⟨⟨v.toInt.toNat, by omega⟩, ?_⟩
  rw [← Int32.toInt_inj, Int32.toInt_ofNat_of_lt (by show v.toInt.toNat < _; omega)]
  show v.toInt = ((v.toInt.toNat : Nat) : Int)
  omega
theorem own_d6 (c : Int32) (h : c.toInt < 0 ∨ 128 ≤ c.toInt) : own_F6 c = -1 := by
  have a1 : (48 : Int32).toInt = 48 := by decide
  have a2 : (97 : Int32).toInt = 97 := by decide
  have a3 : (65 : Int32).toInt = 65 := by decide
  have a4 : (57 : Int32).toInt = 57 := by decide
  have a5 : (102 : Int32).toInt = 102 := by decide
  have a6 : (70 : Int32).toInt = 70 := by decide
  unfold own_F6
  simp only [Int32.lt_iff_toInt_lt, a1, a2, a3, a4, a5, a6]
  rcases h with h | h
  · simp only [show c.toInt < 48 from by omega, show c.toInt < 97 from by omega, show c.toInt < 65 from by omega, if_true]
  · simp only [show ¬ c.toInt < 48 from by omega, show ¬ c.toInt < 97 from by omega, show ¬ c.toInt < 65 from by omega, show 57 < c.toInt from by omega, show 102 < c.toInt from by omega, show 70 < c.toInt from by omega, if_true, if_false]
theorem own_f7 (c wc : Int32) : own_F7 c wc = 1 := by
  have e : own_F7 c wc = own_F7 c 0 := rfl
  rw [e]
  by_cases h : 0 ≤ c.toInt ∧ c.toInt < 128
  · obtain ⟨i, hi⟩ := own_i3 c 128 h.1 h.2 (by decide)
    rw [hi]; exact own_af i
  · have q := own_d6 c (by omega)
    unfold own_F7
    simp only [q, if_true]
theorem own_plain (p0 p1 wc : Int32) (hwc : ¬ wc = 0) : own_F0 p0 p1 wc = 1 := by
  obtain ⟨-, -, k0, k1⟩ := own_m15 (L := own_lo) own_loL (x := p1) rfl
  rw [own_loL] at k1
  obtain ⟨i, hi⟩ := own_i3 (p1 &&& 15) 16 k0 k1 (by decide)
  have c1 : own_F6 (own_F1 (p1 &&& 15) wc own_lo) = p1 &&& 15 := by rw [hi]; exact (own_ch i).1
  have c2 : own_F6 (own_F1 (p1 &&& 15) wc own_up) = p1 &&& 15 := by rw [hi]; exact (own_ch i).2
  unfold own_F0
  simp only [c1, c2, own_f7, if_true]
  decide

set_option maxRecDepth 65536 in
set_option maxHeartbeats 40000000 in
theorem comes_1 {Post : Tables → Env → Array Value → State → Outcome → State → Prop} (hpost : ∀ tb e args s v u, (limb_1_1.after args s (.returned v) u = true ∧ limb_1_2.after args s (.returned v) u = true ∧ True) → Jvm.D.FramedW s (.returned v) u (Jvm.fieldLocs frame_1_writes args s ++ Jvm.arrayLocs frame_1_arrays args s ++ Jvm.staticLocs frame_1_statics s) 8 2112 → Post tb e args s (.returned v) u) :
    ArmFor flags0 classFile x code maxLocals ret World_1 tables_1 room_1 Calls_1 rest_1 Pre_1 Post := by
  intro l hfl _ _ p e ha hc hk s m args below hf hA hF happ hP
  obtain ⟨hcalls, hrest, hpre⟩ := hP
  obtain ⟨-, -, -, hnamed, -, -, -, hat⟩ := (Spec.applies_iff hf).mp happ
  obtain ⟨hg, hn⟩ := and_e (Cond.before_iff.mp (show (Jvm.Cond.and given_1 narrow_1).before args s = true from hpre))
  obtain ⟨g1, g2⟩ := and_e hg
  obtain ⟨ga0, gb0⟩ := and_e g2
  obtain ⟨w0, w1, rfl⟩ : ∃ w0 w1 : Value, args = #[w0, w1] := by
    have hs : args.size = 2 := by simpa [Cond.value, given_1] using g1
    obtain ⟨L⟩ := args
    match L, hs with
    | [w0, w1], _ => exact ⟨w0, w1, rfl⟩
  have hw := fun d (hd : d ∈ tables_1) => atoms_spec (ws := Jvm.Cond.code x code maxLocals ret :: tables_1) hat d (List.mem_cons_of_mem _ hd)
  obtain ⟨hsets, hown0⟩ := atoms_of _ (rest_1_c_eq ▸ (show rest_1_c.before _ s = true from hrest))
  have n5 := not_v (Cond.before_iff.mp (hsets _ (List.mem_of_getElem? (i := 2) rfl)))
  obtain ⟨i11, e10⟩ := is_v (Cond.before_iff.mp (hsets _ (List.mem_of_getElem? (i := 1) rfl)))
  have S12 : Sta s s.heap "java/lang/String" "COMPACT_STRINGS" "Z" (.int i11) := Sta.start e10 (Or.inl (hsets _ (List.mem_of_getElem? (i := 0) rfl)))
  obtain ⟨v13, e14, r15⟩ := isR_v (Cond.before_iff.mp (hsets _ (List.mem_of_getElem? (i := 8) rfl)))
  have S16 : Sta s s.heap "jdk/internal/util/Preconditions" "SIOOBE_FORMATTER" "Ljava/util/function/BiFunction;" v13 := Sta.start e14 (Or.inl (hsets _ (List.mem_of_getElem? (i := 7) rfl)))
  have c17 : ¬ (i11 = (0 : Int32)) := gotF (Cond.eq_ints e10 (Term.int_eval (0))) n5
  obtain ⟨i0, ei0⟩ := is_v ga0
  obtain rfl : w0 = (.int i0) := Option.some.inj ei0
  obtain ⟨i1, ei1⟩ := is_v gb0
  obtain rfl : w1 = (.int i1) := Option.some.inj ei1
  obtain ⟨n, o, h1, h2, h3, _, L, rfl, ⟨hv, N⟩, hq⟩ := own_rm0 l s _ hw tables_1 i0 i1 i11 v13 s.heap s.heap.size (Nat.le_refl _) S12 S16 c17 r15 (hsets _ (List.mem_of_getElem? (i := 2) rfl)) (hcalls.1 _ (List.mem_of_getElem? (i := 0) rfl)) (hcalls.1 _ (List.mem_of_getElem? (i := 1) rfl)) rfl p e ha hc hk s m _ below hf ((Spec.applies_iff_loose hf).mp happ).1 ⟨rfl, rfl⟩ trivial
  rw [own_plain i0 i1 i11 c17] at hv
  subst hv
  refine ⟨n, _, h1, h2, h3, hpost _ _ _ _ _ _ ⟨Cond.after_iff.mpr rfl, Cond.after_iff.mpr (eq_i res_at (Term.int_eval (1)) rfl), trivial⟩ ⟨hq.1, hq.2.1, hq.2.2.1, (hq.2.2.2.sift fun y hy => Or.inr (N y hy)).mono (by decide) (by decide)⟩⟩
theorem main_1_1 : Claimed_1_1 := comes_1 fun _ _ _ _ _ _ h hF => ⟨h.1, hF⟩
theorem main_1_2 : Claimed_1_2 := comes_1 fun _ _ _ _ _ _ h hF => ⟨h.2.1, hF⟩
end Jvm.Pilot.@@N@@
namespace Jvm.Pilot.@@N@@
open Jvm Jvm.ClassFile Sem Op Lib Jvm.Free Jvm.Stand Jvm.Pilot.@@N@@.Jvm.D
/-! MADE BY PROGRAM (witnessworld.py) out of the Statement's table words and the real class files: 17 classes; the members and pool entries that the words name. The judged class is class 1, her method 2. -/
namespace start1
open Jvm.ClassFile
def u (s : String) : CpInfo := .utf8 (stringToUtf16 s)
/-- a pool by its gaps: so many unusable entries, then the entry; so many at the end -/
def gap : Nat → List CpInfo → List CpInfo
  | 0, r => r
  | n + 1, r => .unusable :: gap n r
def poolList (es : List (Nat × CpInfo)) (last : Nat) : List CpInfo := es.foldr (fun e r => gap e.1 (e.2 :: r)) (gap last [])
def pool (es : List (Nat × CpInfo)) (last : Nat) : Array CpInfo := ⟨poolList es last⟩
def fileOf (pool : Array CpInfo) (this : Nat) (attrs : Array Attribute := #[]) (ms : Array MethodInfo := #[]) (fl : Nat := 33) (sup : Nat := 0) (ifs : Array Nat := #[]) (fds : Array FieldInfo := #[]) : ClassFile where
  minorVersion := 0
  majorVersion := 65
  constantPool := pool
  accessFlags := fl
  thisClass := this
  superClass := sup
  interfaces := ifs
  fields := fds
  methods := ms
  attributes := attrs
def plain (name : String) (sup : Option ClassId) : Class where
  name := name
  kind := .ordinary
  loader := none
  accessFlags := 33
  super := sup
  interfaces := #[]
  cf := none
  fields := #[]
  methods := #[]
  instanceTypes := #[]
  staticTypes := #[]
  resolved := #[]
  callSites := []
  init := .initialized
  statics := none
  mirror := none

def pool0 : Array CpInfo := pool [(5, u "<init>"), (0, u "()V"), (1, .class_ 10), (1, u "java/lang/Object")] 113

def k0m0 : Method := { name := "<init>", desc := "()V", sig := { parameters := [], returnType := none }, accessFlags := 1, code := none }
/-- java/lang/Object -/
def k0 : Class := { plain "java/lang/Object" none with
  accessFlags := 33
  interfaces := #[]
  cf := some (fileOf pool0 8 #[] #[{ accessFlags := 1, nameIndex := 5, descriptorIndex := 6, attributes := #[] }] 33 0 #[] #[])
  fields := #[]
  methods := #[k0m0]
  instanceTypes := #[]
  staticTypes := #[]
  resolved := Array.replicate 124 none
  statics := none }

def pool1 : Array CpInfo := pool [(2, .class_ 4), (1, u "java/lang/Object"), (0, u "<init>"), (0, u "()V"), (0, .string 8), (0, u "0123456789abcdef"), (0, .string 10), (0, u "0123456789ABCDEF"), (0, .methodref 12 13), (0, .class_ 14), (0, .nameAndType 15 16), (0, u "com/example/wireform/wireform/Hex"), (0, u "digit"), (0, u "(I)I"), (0, .methodref 18 19), (0, .class_ 20), (0, .nameAndType 21 22), (0, u "java/lang/String"), (0, u "charAt"), (0, u "(I)C"), (0, .methodref 24 25), (0, .class_ 26), (0, .nameAndType 27 28), (0, u "com/example/wireform/wireform/HexDigitPinLaw"), (0, u "answerFits"), (0, u "(I)Z"), (3, u "law"), (0, u "(II)Z")] 2

def k1m0 : Method := { name := "<init>", desc := "()V", sig := { parameters := [], returnType := none }, accessFlags := 2, code := none }
def k1c1 : Code := { maxStack := 3, maxLocals := 4, code := method_2_code, exceptionTable := #[], attributes := #[] }
def k1m1 : Method := { name := "answerFits", desc := "(I)Z", sig := { parameters := [.int], returnType := some .boolean }, accessFlags := 10, code := some k1c1 }
def k1c2 : Code := { maxStack := 2, maxLocals := 5, code := code, exceptionTable := #[], attributes := #[] }
def k1m2 : Method := { name := "law", desc := "(II)Z", sig := { parameters := [.int, .int], returnType := some .boolean }, accessFlags := 9, code := some k1c2 }
/-- com/example/wireform/wireform/HexDigitPinLaw -/
def k1 : Class := { plain "com/example/wireform/wireform/HexDigitPinLaw" (some 0) with
  accessFlags := 49
  interfaces := #[]
  cf := some (fileOf pool1 24 #[] #[{ accessFlags := 2, nameIndex := 5, descriptorIndex := 6, attributes := #[] }, { accessFlags := 10, nameIndex := 27, descriptorIndex := 28, attributes := #[] }, { accessFlags := 9, nameIndex := 32, descriptorIndex := 33, attributes := #[] }] 49 2 #[] #[])
  fields := #[]
  methods := #[k1m0, k1m1, k1m2]
  instanceTypes := #[]
  staticTypes := #[]
  resolved := Array.replicate 36 none
  statics := none }

def pool2 : Array CpInfo := pool [(1, .class_ 2), (0, u "java/io/Serializable"), (0, .class_ 4), (0, u "java/lang/Object")] 2

/-- java/io/Serializable -/
def k2 : Class := { plain "java/io/Serializable" (some 0) with
  accessFlags := 1537
  interfaces := #[]
  cf := some (fileOf pool2 1 #[] #[] 1537 3 #[] #[])
  fields := #[]
  methods := #[]
  instanceTypes := #[]
  staticTypes := #[]
  resolved := Array.replicate 7 none
  statics := none }

def pool3 : Array CpInfo := pool [(1, .class_ 2), (0, u "java/lang/Comparable"), (0, .class_ 4), (0, u "java/lang/Object")] 7

/-- java/lang/Comparable -/
def k3 : Class := { plain "java/lang/Comparable" (some 0) with
  accessFlags := 1537
  interfaces := #[]
  cf := some (fileOf pool3 1 #[] #[] 1537 3 #[] #[])
  fields := #[]
  methods := #[]
  instanceTypes := #[]
  staticTypes := #[]
  resolved := Array.replicate 12 none
  statics := none }

def pool4 : Array CpInfo := pool [(2, .class_ 4), (1, u "java/lang/CharSequence"), (42, .class_ 48), (0, u "java/lang/CharSequence$1CodePointIterator"), (10, .class_ 60), (0, u "java/lang/CharSequence$1CharIterator"), (5, .class_ 67), (0, u "java/lang/Object")] 63

/-- java/lang/CharSequence -/
def k4 : Class := { plain "java/lang/CharSequence" (some 0) with
  accessFlags := 1537
  interfaces := #[]
  cf := some (fileOf pool4 2 #[.nestMembers #[47, 59]] #[] 1537 66 #[] #[])
  fields := #[]
  methods := #[]
  instanceTypes := #[]
  staticTypes := #[]
  resolved := Array.replicate 131 none
  statics := none }

def pool5 : Array CpInfo := pool [(1, .class_ 2), (0, u "java/lang/constant/Constable"), (0, .class_ 4), (0, u "java/lang/Object")] 6

/-- java/lang/constant/Constable -/
def k5 : Class := { plain "java/lang/constant/Constable" (some 0) with
  accessFlags := 1537
  interfaces := #[]
  cf := some (fileOf pool5 1 #[] #[] 1537 3 #[] #[])
  fields := #[]
  methods := #[]
  instanceTypes := #[]
  staticTypes := #[]
  resolved := Array.replicate 11 none
  statics := none }

def pool6 : Array CpInfo := pool [(1, .class_ 2), (0, u "java/lang/constant/ConstantDesc"), (0, .class_ 4), (0, u "java/lang/Object")] 32

/-- java/lang/constant/ConstantDesc -/
def k6 : Class := { plain "java/lang/constant/ConstantDesc" (some 0) with
  accessFlags := 1537
  interfaces := #[]
  cf := some (fileOf pool6 1 #[] #[] 1537 3 #[] #[])
  fields := #[]
  methods := #[]
  instanceTypes := #[]
  staticTypes := #[]
  resolved := Array.replicate 37 none
  statics := none }

def pool7 : Array CpInfo := pool [(2, .class_ 4), (1, u "java/lang/Object"), (0, u "<init>"), (0, u "()V"), (2, .fieldref 10 11), (0, .class_ 12), (0, .nameAndType 13 14), (0, u "java/lang/String"), (0, u "value"), (0, u "[B"), (0, .fieldref 10 16), (0, .nameAndType 17 18), (0, u "coder"), (0, u "B"), (2, u "hash"), (0, u "I"), (2, u "hashIsZero"), (0, u "Z"), (11, .fieldref 10 39), (0, .nameAndType 40 26), (0, u "COMPACT_STRINGS"), (66, .class_ 109), (1, u "java/lang/StringLatin1"), (32, u "()Z"), (220, u "([BI)C"), (27, u "(II)V"), (35, u "(I)C"), (64, .methodref 10 493), (0, .nameAndType 494 142), (0, u "isLatin1"), (0, .methodref 107 496), (0, .nameAndType 497 363), (0, u "charAt"), (3, u "checkIndex"), (73, .class_ 576), (0, u "java/lang/CharSequence"), (22, u "CASE_INSENSITIVE_ORDER"), (0, u "Ljava/util/Comparator;"), (452, .fieldref 1054 1055), (0, .class_ 1056), (0, .nameAndType 1057 1058), (0, u "jdk/internal/util/Preconditions"), (0, u "SIOOBE_FORMATTER"), (0, u "Ljava/util/function/BiFunction;"), (0, .methodref 1054 1060), (0, .nameAndType 501 1061), (0, u "(IILjava/util/function/BiFunction;)I"), (39, u "serialPersistentFields"), (0, u "[Ljava/io/ObjectStreamField;"), (0, .class_ 1104), (0, u "java/lang/String$CaseInsensitiveComparator"), (1, .class_ 1107), (0, u "java/io/Serializable"), (0, .class_ 1109), (0, u "java/lang/Comparable"), (0, .class_ 1111), (0, u "java/lang/constant/Constable"), (0, .class_ 1113), (0, u "java/lang/constant/ConstantDesc"), (2, u "serialVersionUID"), (0, u "J"), (3, u "REPL"), (0, u "C"), (2, u "LATIN1"), (1, u "UTF16")] 323

def k7m0 : Method := { name := "<init>", desc := "()V", sig := { parameters := [], returnType := none }, accessFlags := 1, code := none }
def k7c1 : Code := { maxStack := 2, maxLocals := 2, code := jdk_42_method_56_code, exceptionTable := #[], attributes := #[] }
def k7m1 : Method := { name := "charAt", desc := "(I)C", sig := { parameters := [.int], returnType := some .char }, accessFlags := 1, code := some k7c1 }
def k7c2 : Code := { maxStack := 1, maxLocals := 1, code := jdk_42_method_154_code, exceptionTable := #[], attributes := #[] }
def k7m2 : Method := { name := "isLatin1", desc := "()Z", sig := { parameters := [], returnType := some .boolean }, accessFlags := 0, code := some k7c2 }
def k7c3 : Code := { maxStack := 3, maxLocals := 2, code := jdk_42_method_155_code, exceptionTable := #[], attributes := #[] }
def k7m3 : Method := { name := "checkIndex", desc := "(II)V", sig := { parameters := [.int, .int], returnType := none }, accessFlags := 8, code := some k7c3 }
/-- java/lang/String -/
def k7 : Class := { plain "java/lang/String" (some 0) with
  accessFlags := 49
  interfaces := #[2, 3, 4, 5, 6]
  cf := some (fileOf pool7 10 #[.nestMembers #[1103]] #[{ accessFlags := 1, nameIndex := 5, descriptorIndex := 6, attributes := #[] }, { accessFlags := 1, nameIndex := 497, descriptorIndex := 427, attributes := #[] }, { accessFlags := 0, nameIndex := 494, descriptorIndex := 142, attributes := #[] }, { accessFlags := 8, nameIndex := 501, descriptorIndex := 391, attributes := #[] }] 49 2 #[1106, 1108, 575, 1110, 1112] #[{ accessFlags := 18, nameIndex := 13, descriptorIndex := 14, attributes := #[] }, { accessFlags := 18, nameIndex := 17, descriptorIndex := 18, attributes := #[] }, { accessFlags := 2, nameIndex := 21, descriptorIndex := 22, attributes := #[] }, { accessFlags := 2, nameIndex := 25, descriptorIndex := 26, attributes := #[] }, { accessFlags := 26, nameIndex := 1116, descriptorIndex := 1117, attributes := #[] }, { accessFlags := 24, nameIndex := 40, descriptorIndex := 26, attributes := #[] }, { accessFlags := 26, nameIndex := 1101, descriptorIndex := 1102, attributes := #[] }, { accessFlags := 26, nameIndex := 1121, descriptorIndex := 1122, attributes := #[] }, { accessFlags := 25, nameIndex := 599, descriptorIndex := 600, attributes := #[] }, { accessFlags := 24, nameIndex := 1125, descriptorIndex := 18, attributes := #[] }, { accessFlags := 24, nameIndex := 1127, descriptorIndex := 18, attributes := #[] }])
  fields := #[{ name := "value", type := (.array .byte), accessFlags := 18, slot := 0, constantValue := 0 }, { name := "coder", type := .byte, accessFlags := 18, slot := 1, constantValue := 0 }, { name := "hash", type := .int, accessFlags := 2, slot := 2, constantValue := 0 }, { name := "hashIsZero", type := .boolean, accessFlags := 2, slot := 3, constantValue := 0 }, { name := "serialVersionUID", type := .long, accessFlags := 26, slot := 0, constantValue := 0 }, { name := "COMPACT_STRINGS", type := .boolean, accessFlags := 24, slot := 1, constantValue := 0 }, { name := "serialPersistentFields", type := (.array (.object "java/io/ObjectStreamField")), accessFlags := 26, slot := 2, constantValue := 0 }, { name := "REPL", type := .char, accessFlags := 26, slot := 3, constantValue := 0 }, { name := "CASE_INSENSITIVE_ORDER", type := (.object "java/util/Comparator"), accessFlags := 25, slot := 4, constantValue := 0 }, { name := "LATIN1", type := .byte, accessFlags := 24, slot := 5, constantValue := 0 }, { name := "UTF16", type := .byte, accessFlags := 24, slot := 6, constantValue := 0 }]
  methods := #[k7m0, k7m1, k7m2, k7m3]
  instanceTypes := #[(.array .byte), .byte, .int, .boolean]
  staticTypes := #[.long, .boolean, (.array (.object "java/io/ObjectStreamField")), .char, (.object "java/util/Comparator"), .byte, .byte]
  resolved := Array.replicate 1451 none
  statics := some 0 }

def pool8 : Array CpInfo := pool [(1, .class_ 2), (0, u "java/lang/String"), (1, .class_ 6), (1, u "java/lang/Object"), (0, u "<init>"), (0, u "()V"), (0, .methodref 1 10), (0, .nameAndType 11 12), (0, u "checkIndex"), (0, u "(II)V"), (1, .class_ 16), (1, u "java/lang/StringLatin1"), (36, u "([BI)C"), (67, u "$assertionsDisabled"), (0, u "Z"), (98, .class_ 223), (1, u "java/lang/StringLatin1$LinesSpliterator"), (28, u "charAt"), (137, .class_ 391), (0, u "java/lang/StringLatin1$CharsSpliterator")] 3

def k8m0 : Method := { name := "<init>", desc := "()V", sig := { parameters := [], returnType := none }, accessFlags := 0, code := none }
def k8c1 : Code := { maxStack := 2, maxLocals := 2, code := jdk_43_method_2_code, exceptionTable := #[], attributes := #[] }
def k8m1 : Method := { name := "charAt", desc := "([BI)C", sig := { parameters := [(.array .byte), .int], returnType := some .char }, accessFlags := 9, code := some k8c1 }
/-- java/lang/StringLatin1 -/
def k8 : Class := { plain "java/lang/StringLatin1" (some 0) with
  accessFlags := 48
  interfaces := #[]
  cf := some (fileOf pool8 14 #[.nestMembers #[390, 221]] #[{ accessFlags := 0, nameIndex := 7, descriptorIndex := 8, attributes := #[] }, { accessFlags := 9, nameIndex := 252, descriptorIndex := 53, attributes := #[] }] 48 4 #[] #[{ accessFlags := 4120, nameIndex := 121, descriptorIndex := 122, attributes := #[] }])
  fields := #[{ name := "$assertionsDisabled", type := .boolean, accessFlags := 4120, slot := 0, constantValue := 0 }]
  methods := #[k8m0, k8m1]
  instanceTypes := #[]
  staticTypes := #[.boolean]
  resolved := Array.replicate 395 none
  statics := none }

def pool9 : Array CpInfo := pool [(2, .class_ 4), (1, u "java/lang/Object"), (0, u "<init>"), (0, u "()V"), (17, .class_ 26), (1, u "jdk/internal/util/Preconditions"), (6, u "checkIndex"), (21, .class_ 56), (0, u "jdk/internal/util/Preconditions$4"), (57, .class_ 115), (0, u "jdk/internal/util/Preconditions$1"), (7, u "SIOOBE_FORMATTER"), (0, u "Ljava/util/function/BiFunction;"), (0, .class_ 126), (0, u "jdk/internal/util/Preconditions$2"), (3, u "AIOOBE_FORMATTER"), (0, .class_ 132), (0, u "jdk/internal/util/Preconditions$3"), (3, u "IOOBE_FORMATTER"), (41, u "(IILjava/util/function/BiFunction;)I")] 15

def k9m0 : Method := { name := "<init>", desc := "()V", sig := { parameters := [], returnType := none }, accessFlags := 1, code := none }
def k9c1 : Code := { maxStack := 3, maxLocals := 3, code := jdk_41_method_11_code, exceptionTable := #[], attributes := #[] }
def k9m1 : Method := { name := "checkIndex", desc := "(IILjava/util/function/BiFunction;)I", sig := { parameters := [.int, .int, (.object "java/util/function/BiFunction")], returnType := some .int }, accessFlags := 9, code := some k9c1 }
/-- jdk/internal/util/Preconditions -/
def k9 : Class := { plain "jdk/internal/util/Preconditions" (some 0) with
  accessFlags := 33
  interfaces := #[]
  cf := some (fileOf pool9 24 #[.nestMembers #[55, 131, 125, 114]] #[{ accessFlags := 1, nameIndex := 5, descriptorIndex := 6, attributes := #[] }, { accessFlags := 9, nameIndex := 33, descriptorIndex := 178, attributes := #[] }] 33 2 #[] #[{ accessFlags := 25, nameIndex := 123, descriptorIndex := 124, attributes := #[] }, { accessFlags := 25, nameIndex := 130, descriptorIndex := 124, attributes := #[] }, { accessFlags := 25, nameIndex := 136, descriptorIndex := 124, attributes := #[] }])
  fields := #[{ name := "SIOOBE_FORMATTER", type := (.object "java/util/function/BiFunction"), accessFlags := 25, slot := 0, constantValue := 0 }, { name := "AIOOBE_FORMATTER", type := (.object "java/util/function/BiFunction"), accessFlags := 25, slot := 1, constantValue := 0 }, { name := "IOOBE_FORMATTER", type := (.object "java/util/function/BiFunction"), accessFlags := 25, slot := 2, constantValue := 0 }]
  methods := #[k9m0, k9m1]
  instanceTypes := #[]
  staticTypes := #[(.object "java/util/function/BiFunction"), (.object "java/util/function/BiFunction"), (.object "java/util/function/BiFunction")]
  resolved := Array.replicate 194 none
  statics := some 1 }

def pool10 : Array CpInfo := pool [(2, .class_ 4), (1, u "java/lang/Object"), (0, u "<init>"), (0, u "()V"), (1, .class_ 10), (1, u "com/example/wireform/wireform/Hex"), (0, u "digit"), (0, u "(I)I"), (35, u "DIGITS"), (0, u "[C")] 57

def k10m0 : Method := { name := "<init>", desc := "()V", sig := { parameters := [], returnType := none }, accessFlags := 2, code := none }
def k10c1 : Code := { maxStack := 2, maxLocals := 1, code := prog_34_method_5_code, exceptionTable := #[], attributes := #[] }
def k10m1 : Method := { name := "digit", desc := "(I)I", sig := { parameters := [.int], returnType := some .int }, accessFlags := 8, code := some k10c1 }
/-- com/example/wireform/wireform/Hex -/
def k10 : Class := { plain "com/example/wireform/wireform/Hex" (some 0) with
  accessFlags := 48
  interfaces := #[]
  cf := some (fileOf pool10 8 #[] #[{ accessFlags := 2, nameIndex := 5, descriptorIndex := 6, attributes := #[] }, { accessFlags := 8, nameIndex := 11, descriptorIndex := 12, attributes := #[] }] 48 2 #[] #[{ accessFlags := 26, nameIndex := 48, descriptorIndex := 49, attributes := #[] }])
  fields := #[{ name := "DIGITS", type := (.array .char), accessFlags := 26, slot := 0, constantValue := 0 }]
  methods := #[k10m0, k10m1]
  instanceTypes := #[]
  staticTypes := #[(.array .char)]
  resolved := Array.replicate 107 none
  statics := none }

def pool11 : Array CpInfo := pool [(9, u "<init>"), (6, .class_ 18), (1, u "java/lang/Object"), (0, u "()V"), (1, .class_ 23), (1, u "jdk/internal/util/ArraysSupport"), (0, u "LOG2_ARRAY_LONG_INDEX_SCALE"), (0, u "I"), (2, u "U"), (0, u "Ljdk/internal/misc/Unsafe;"), (8, u "BIG_ENDIAN"), (0, u "Z"), (8, u "LOG2_BYTE_BIT_SIZE"), (4, u "LOG2_ARRAY_INT_INDEX_SCALE"), (54, u "JLA"), (0, u "Ljdk/internal/access/JavaLangAccess;"), (11, u "LOG2_ARRAY_BOOLEAN_INDEX_SCALE"), (9, u "LOG2_ARRAY_BYTE_INDEX_SCALE"), (5, u "LOG2_ARRAY_CHAR_INDEX_SCALE"), (5, u "LOG2_ARRAY_SHORT_INDEX_SCALE"), (18, u "LOG2_ARRAY_FLOAT_INDEX_SCALE"), (24, u "LOG2_ARRAY_DOUBLE_INDEX_SCALE"), (89, u "T_BOOLEAN"), (2, u "T_CHAR"), (1, u "T_FLOAT"), (1, u "T_DOUBLE"), (1, u "T_BYTE"), (1, u "T_SHORT"), (1, u "T_INT"), (1, u "T_LONG"), (1, u "SOFT_MAX_ARRAY_LENGTH")] 83

def k11m0 : Method := { name := "<init>", desc := "()V", sig := { parameters := [], returnType := none }, accessFlags := 2, code := none }
/-- jdk/internal/util/ArraysSupport -/
def k11 : Class := { plain "jdk/internal/util/ArraysSupport" (some 0) with
  accessFlags := 33
  interfaces := #[]
  cf := some (fileOf pool11 21 #[] #[{ accessFlags := 2, nameIndex := 9, descriptorIndex := 19, attributes := #[] }] 33 16 #[] #[{ accessFlags := 24, nameIndex := 28, descriptorIndex := 29, attributes := #[] }, { accessFlags := 26, nameIndex := 38, descriptorIndex := 39, attributes := #[] }, { accessFlags := 25, nameIndex := 121, descriptorIndex := 25, attributes := #[] }, { accessFlags := 25, nameIndex := 131, descriptorIndex := 25, attributes := #[] }, { accessFlags := 25, nameIndex := 137, descriptorIndex := 25, attributes := #[] }, { accessFlags := 25, nameIndex := 143, descriptorIndex := 25, attributes := #[] }, { accessFlags := 25, nameIndex := 53, descriptorIndex := 25, attributes := #[] }, { accessFlags := 25, nameIndex := 24, descriptorIndex := 25, attributes := #[] }, { accessFlags := 25, nameIndex := 162, descriptorIndex := 25, attributes := #[] }, { accessFlags := 25, nameIndex := 187, descriptorIndex := 25, attributes := #[] }, { accessFlags := 26, nameIndex := 48, descriptorIndex := 25, attributes := #[] }, { accessFlags := 25, nameIndex := 277, descriptorIndex := 25, attributes := #[] }, { accessFlags := 25, nameIndex := 280, descriptorIndex := 25, attributes := #[] }, { accessFlags := 25, nameIndex := 282, descriptorIndex := 25, attributes := #[] }, { accessFlags := 25, nameIndex := 284, descriptorIndex := 25, attributes := #[] }, { accessFlags := 25, nameIndex := 286, descriptorIndex := 25, attributes := #[] }, { accessFlags := 25, nameIndex := 288, descriptorIndex := 25, attributes := #[] }, { accessFlags := 25, nameIndex := 290, descriptorIndex := 25, attributes := #[] }, { accessFlags := 25, nameIndex := 292, descriptorIndex := 25, attributes := #[] }, { accessFlags := 26, nameIndex := 108, descriptorIndex := 109, attributes := #[] }, { accessFlags := 25, nameIndex := 294, descriptorIndex := 25, attributes := #[] }])
  fields := #[{ name := "U", type := (.object "jdk/internal/misc/Unsafe"), accessFlags := 24, slot := 0, constantValue := 0 }, { name := "BIG_ENDIAN", type := .boolean, accessFlags := 26, slot := 1, constantValue := 0 }, { name := "LOG2_ARRAY_BOOLEAN_INDEX_SCALE", type := .int, accessFlags := 25, slot := 2, constantValue := 0 }, { name := "LOG2_ARRAY_BYTE_INDEX_SCALE", type := .int, accessFlags := 25, slot := 3, constantValue := 0 }, { name := "LOG2_ARRAY_CHAR_INDEX_SCALE", type := .int, accessFlags := 25, slot := 4, constantValue := 0 }, { name := "LOG2_ARRAY_SHORT_INDEX_SCALE", type := .int, accessFlags := 25, slot := 5, constantValue := 0 }, { name := "LOG2_ARRAY_INT_INDEX_SCALE", type := .int, accessFlags := 25, slot := 6, constantValue := 0 }, { name := "LOG2_ARRAY_LONG_INDEX_SCALE", type := .int, accessFlags := 25, slot := 7, constantValue := 0 }, { name := "LOG2_ARRAY_FLOAT_INDEX_SCALE", type := .int, accessFlags := 25, slot := 8, constantValue := 0 }, { name := "LOG2_ARRAY_DOUBLE_INDEX_SCALE", type := .int, accessFlags := 25, slot := 9, constantValue := 0 }, { name := "LOG2_BYTE_BIT_SIZE", type := .int, accessFlags := 26, slot := 10, constantValue := 0 }, { name := "T_BOOLEAN", type := .int, accessFlags := 25, slot := 11, constantValue := 0 }, { name := "T_CHAR", type := .int, accessFlags := 25, slot := 12, constantValue := 0 }, { name := "T_FLOAT", type := .int, accessFlags := 25, slot := 13, constantValue := 0 }, { name := "T_DOUBLE", type := .int, accessFlags := 25, slot := 14, constantValue := 0 }, { name := "T_BYTE", type := .int, accessFlags := 25, slot := 15, constantValue := 0 }, { name := "T_SHORT", type := .int, accessFlags := 25, slot := 16, constantValue := 0 }, { name := "T_INT", type := .int, accessFlags := 25, slot := 17, constantValue := 0 }, { name := "T_LONG", type := .int, accessFlags := 25, slot := 18, constantValue := 0 }, { name := "JLA", type := (.object "jdk/internal/access/JavaLangAccess"), accessFlags := 26, slot := 19, constantValue := 0 }, { name := "SOFT_MAX_ARRAY_LENGTH", type := .int, accessFlags := 25, slot := 20, constantValue := 0 }]
  methods := #[k11m0]
  instanceTypes := #[]
  staticTypes := #[(.object "jdk/internal/misc/Unsafe"), .boolean, .int, .int, .int, .int, .int, .int, .int, .int, .int, .int, .int, .int, .int, .int, .int, .int, .int, (.object "jdk/internal/access/JavaLangAccess"), .int]
  resolved := Array.replicate 378 none
  statics := none }

def pool12 : Array CpInfo := pool [(1, u "java/lang/Cloneable"), (0, .class_ 1), (0, u "java/lang/Object"), (0, .class_ 3)] 3

/-- java/lang/Cloneable -/
def k12 : Class := { plain "java/lang/Cloneable" (some 0) with
  accessFlags := 1537
  interfaces := #[]
  cf := some (fileOf pool12 2 #[] #[] 1537 4 #[] #[])
  fields := #[]
  methods := #[]
  instanceTypes := #[]
  staticTypes := #[]
  resolved := Array.replicate 8 none
  statics := none }

/-- the primitive byte -/
def k13 : Class := { plain "byte" none with kind := .primitive 'B', accessFlags := 0x411 }
/-- [B -/
def k14 : Class := { plain "[B" (some 0) with kind := .array 13 .byte, interfaces := #[12, 2], accessFlags := 1041 }

/-- the primitive int -/
def k15 : Class := { plain "int" none with kind := .primitive 'I', accessFlags := 0x411 }
/-- [I -/
def k16 : Class := { plain "[I" (some 0) with kind := .array 15 .int, interfaces := #[12, 2], accessFlags := 1041 }

def heap : Heap := #[{ cls := 7, slots := #[.long 0, .int 1, .null, .int 0, .null, .int 0, .int 0], vm := .statics 7 },
  { cls := 9, slots := #[.null, .null, .null], vm := .statics 9 }]
def classes : Array Class := #[k0, k1, k2, k3, k4, k5, k6, k7, k8, k9, k10, k11, k12, k13, k14, k15, k16]
def interned : List (Array UInt16 × Addr) := []
def slotsUsed : Nat := 10
def theMethod : MethodId := ⟨1, 2⟩
def args0 : Array Value := #[.int 5, .int 5]
def aboutOver (below : List Frame) : State where
  vm := { classes := classes, interned := interned.toArray }
  heap := heap
  slotsUsed := slotsUsed
  threads := #[{ frames := .invoking theMethod args0 :: below }]
def below0 : List Frame := [.native { method := ⟨0, 0⟩, args := #[] }]
def about1 : State := aboutOver below0
def p0 : Program := .bare "" "" ""
def e0 : Env := launch0.env 0 0 0
theorem w_frames : about1.frames = Frame.invoking theMethod args0 :: below0 := rfl
set_option maxRecDepth 65536 in
theorem w_args : argsFit about1.vm theMethod args0 = true := by decide +kernel
set_option maxRecDepth 65536 in
theorem w_heap : heapFits about1 = true := by decide +kernel
set_option maxRecDepth 65536 in
theorem w_runnable : about1.curStatus? = some .runnable := by decide +kernel
set_option maxRecDepth 65536 in
theorem w_alone : about1.alone = true := by decide +kernel
set_option maxRecDepth 65536 in
theorem w_named : about1.methodNamed? x = some theMethod := by decide +kernel
set_option maxRecDepth 65536 in
theorem w_hears : about1.hears theMethod below0 = true := by decide +kernel
set_option maxRecDepth 65536 in
theorem w_ripe : about1.ripe theMethod args0 below0 = true := by decide +kernel
theorem w_running : about1.status = .running := rfl
set_option maxRecDepth 65536 in
theorem w_room : about1.hasRoom e0.platform room_1 = true :=
  launch0.hasRoom_least _ room_1 (by decide +kernel) (by decide +kernel) (by decide +kernel) (by decide +kernel) (by decide +kernel) (by decide +kernel)
theorem allAtoms_all (ts : List Jvm.Cond) (a : Array Jvm.Value) (st : Jvm.State) : (allAtoms ts).before a st = ts.all (fun c => c.before a st) := by
  induction ts with
  | nil => rfl
  | cons c t ih =>
    show (Jvm.Cond.and c (allAtoms t)).before a st = _
    rw [Jvm.Cond.before_and, ih, List.all_cons]
def words1 : List Jvm.Cond := Jvm.Cond.code x code maxLocals ret :: tables_1
/-- a 'code' word, met by the world's own term for the bytes: nothing is compared byte by byte -/
theorem code_word {y : MethodName} {bytes : ByteArray} {mx : Nat} {rt : Option FieldType} {a : Array Value} {s : State} {m : MethodId} {meth : Method} {c : Code} (h1 : s.methodNamed? y = some m) (h2 : s.vm.method? m = some meth) (h3 : meth.code = some c) (h4 : c.code = bytes)
    (h5 : (c.maxLocals == mx && c.exceptionTable.isEmpty && decide (c.maxStack ≤ mostOperands) && decide (meth.sig.returnType = rt) && !meth.locks && decide (parseMethodDescriptor y.desc = some meth.sig)) = true) : (Jvm.Cond.code y bytes mx rt).before a s = true := by
  simp only [Bool.and_eq_true, beq_iff_eq, Bool.not_eq_true', decide_eq_true_eq] at h5
  obtain ⟨⟨⟨⟨⟨g1, g2⟩, g3⟩, g4⟩, g5⟩, g6⟩ := h5
  simp [Cond.before, Cond.holds, Cond.value, h1, h2, h3, h4, g1, g2, g3, g4, g5, g6]
def isCode : Jvm.Cond → Bool
  | .code _ _ _ _ => true
  | _ => false
theorem all_split {L : List Jvm.Cond} {P : Jvm.Cond → Bool} (h1 : L.all (fun c => isCode c || P c) = true) (h2 : ∀ c ∈ L.filter isCode, P c = true) : L.all P = true := by
  refine List.all_eq_true.mpr fun c hc => ?_
  have h := List.all_eq_true.mp h1 c hc
  rcases Bool.eq_false_or_eq_true (isCode c) with hi | hi
  · exact h2 c (List.mem_filter.mpr ⟨hc, hi⟩)
  · simpa [hi] using h
set_option maxRecDepth 65536 in
theorem w_c0 : (Jvm.Cond.code x code maxLocals ret).before args0 about1 = true := code_word (m := ⟨1, 2⟩) (meth := k1m2) (c := k1c2) (by decide +kernel) rfl rfl rfl (by decide +kernel)
set_option maxRecDepth 65536 in
theorem w_c1 : (Jvm.Cond.code ({ cls := "java/lang/String", name := "charAt", desc := "(I)C" } : Jvm.MethodName) jdk_42_method_56_code (2 : Nat) (Option.some Jvm.ClassFile.FieldType.char)).before args0 about1 = true := code_word (m := ⟨7, 1⟩) (meth := k7m1) (c := k7c1) (by decide +kernel) rfl rfl rfl (by decide +kernel)
set_option maxRecDepth 65536 in
theorem w_c2 : (Jvm.Cond.code ({ cls := "java/lang/String", name := "isLatin1", desc := "()Z" } : Jvm.MethodName) jdk_42_method_154_code (1 : Nat) (Option.some Jvm.ClassFile.FieldType.boolean)).before args0 about1 = true := code_word (m := ⟨7, 2⟩) (meth := k7m2) (c := k7c2) (by decide +kernel) rfl rfl rfl (by decide +kernel)
set_option maxRecDepth 65536 in
theorem w_c3 : (Jvm.Cond.code ({ cls := "java/lang/StringLatin1", name := "charAt", desc := "([BI)C" } : Jvm.MethodName) jdk_43_method_2_code (2 : Nat) (Option.some Jvm.ClassFile.FieldType.char)).before args0 about1 = true := code_word (m := ⟨8, 1⟩) (meth := k8m1) (c := k8c1) (by decide +kernel) rfl rfl rfl (by decide +kernel)
set_option maxRecDepth 65536 in
theorem w_c4 : (Jvm.Cond.code ({ cls := "java/lang/String", name := "checkIndex", desc := "(II)V" } : Jvm.MethodName) jdk_42_method_155_code (2 : Nat) (Option.none : Option Jvm.ClassFile.FieldType)).before args0 about1 = true := code_word (m := ⟨7, 3⟩) (meth := k7m3) (c := k7c3) (by decide +kernel) rfl rfl rfl (by decide +kernel)
set_option maxRecDepth 65536 in
theorem w_c5 : (Jvm.Cond.code ({ cls := "jdk/internal/util/Preconditions", name := "checkIndex", desc := "(IILjava/util/function/BiFunction;)I" } : Jvm.MethodName) jdk_41_method_11_code (3 : Nat) (Option.some Jvm.ClassFile.FieldType.int)).before args0 about1 = true := code_word (m := ⟨9, 1⟩) (meth := k9m1) (c := k9c1) (by decide +kernel) rfl rfl rfl (by decide +kernel)
set_option maxRecDepth 65536 in
theorem w_c6 : (Jvm.Cond.code ({ cls := "com/example/wireform/wireform/Hex", name := "digit", desc := "(I)I" } : Jvm.MethodName) prog_34_method_5_code (1 : Nat) (Option.some Jvm.ClassFile.FieldType.int)).before args0 about1 = true := code_word (m := ⟨10, 1⟩) (meth := k10m1) (c := k10c1) (by decide +kernel) rfl rfl rfl (by decide +kernel)
set_option maxRecDepth 65536 in
theorem w_c7 : (Jvm.Cond.code ({ cls := "com/example/wireform/wireform/HexDigitPinLaw", name := "answerFits", desc := "(I)Z" } : Jvm.MethodName) method_2_code (4 : Nat) (Option.some Jvm.ClassFile.FieldType.boolean)).before args0 about1 = true := code_word (m := ⟨1, 1⟩) (meth := k1m1) (c := k1c1) (by decide +kernel) rfl rfl rfl (by decide +kernel)
def codes1 : List Jvm.Cond := [Jvm.Cond.code x code maxLocals ret, Jvm.Cond.code ({ cls := "java/lang/String", name := "charAt", desc := "(I)C" } : Jvm.MethodName) jdk_42_method_56_code (2 : Nat) (Option.some Jvm.ClassFile.FieldType.char), Jvm.Cond.code ({ cls := "java/lang/String", name := "isLatin1", desc := "()Z" } : Jvm.MethodName) jdk_42_method_154_code (1 : Nat) (Option.some Jvm.ClassFile.FieldType.boolean), Jvm.Cond.code ({ cls := "java/lang/StringLatin1", name := "charAt", desc := "([BI)C" } : Jvm.MethodName) jdk_43_method_2_code (2 : Nat) (Option.some Jvm.ClassFile.FieldType.char), Jvm.Cond.code ({ cls := "java/lang/String", name := "checkIndex", desc := "(II)V" } : Jvm.MethodName) jdk_42_method_155_code (2 : Nat) (Option.none : Option Jvm.ClassFile.FieldType), Jvm.Cond.code ({ cls := "jdk/internal/util/Preconditions", name := "checkIndex", desc := "(IILjava/util/function/BiFunction;)I" } : Jvm.MethodName) jdk_41_method_11_code (3 : Nat) (Option.some Jvm.ClassFile.FieldType.int), Jvm.Cond.code ({ cls := "com/example/wireform/wireform/Hex", name := "digit", desc := "(I)I" } : Jvm.MethodName) prog_34_method_5_code (1 : Nat) (Option.some Jvm.ClassFile.FieldType.int), Jvm.Cond.code ({ cls := "com/example/wireform/wireform/HexDigitPinLaw", name := "answerFits", desc := "(I)Z" } : Jvm.MethodName) method_2_code (4 : Nat) (Option.some Jvm.ClassFile.FieldType.boolean)]
set_option maxRecDepth 65536 in
theorem codes_eq : words1.filter isCode = codes1 := rfl
theorem w_codes : ∀ c ∈ words1.filter isCode, c.before args0 about1 = true := by
  rw [codes_eq]
  intro c hc
  simp only [codes1, List.mem_cons, List.not_mem_nil, or_false] at hc
  rcases hc with rfl | rfl | rfl | rfl | rfl | rfl | rfl | rfl
  · exact w_c0
  · exact w_c1
  · exact w_c2
  · exact w_c3
  · exact w_c4
  · exact w_c5
  · exact w_c6
  · exact w_c7
set_option maxRecDepth 65536 in
theorem w_t1 : (words1.take 24).all (fun c => isCode c || c.before args0 about1) = true := by decide +kernel
set_option maxRecDepth 65536 in
theorem w_t2 : (words1.drop 24).all (fun c => isCode c || c.before args0 about1) = true := by decide +kernel
theorem w_tables : (allAtoms (Jvm.Cond.code x code maxLocals ret :: tables_1)).before args0 about1 = true := by
  rw [allAtoms_all]
  show words1.all (fun c => c.before args0 about1) = true
  refine all_split ?_ w_codes
  rw [← List.take_append_drop 24 words1, List.all_append, w_t1, w_t2]
  rfl
set_option maxRecDepth 65536 in
theorem w_rest : rest_1_c.before args0 about1 = true := by decide +kernel
set_option maxRecDepth 65536 in
theorem w_case : (Jvm.Cond.and given_1 narrow_1).before args0 about1 = true := by decide +kernel
set_option maxRecDepth 65536 in
theorem w_consts : constsHeld consts_1 about1 := Jvm.Lit.constsHeldB_iff.mp (by decide +kernel)
theorem w_applies : (headSpec (Jvm.Cond.code x code maxLocals ret :: tables_1) room_1).applies x e0.platform about1 = true :=
  (Spec.applies_iff w_frames).mpr ⟨w_running, w_runnable, w_alone, w_named, w_hears, w_ripe, w_room, w_tables⟩
theorem atStart : AtStart classFile x code maxLocals ret World_1 tables_1 room_1 Calls_1 rest_1 Pre_1 launch0 p0 e0 about1 theMethod args0 below0 :=
  ⟨lists_1, trivial, launch0.admits_env _ _ _, launch0.least_env, fairChoices_fair.cas, fairChoices_fair.clock, w_frames, w_args, w_heap, w_applies, ⟨w_consts, trivial⟩, w_rest, w_case⟩
end start1
theorem witness_1 : WitnessClaimed_1 := ⟨start1.p0, start1.e0, start1.about1, start1.theMethod, start1.args0, start1.below0, start1.atStart⟩
end Jvm.Pilot.@@N@@
