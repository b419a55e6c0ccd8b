import JvmDerived
import JvmDerived.Pilot.@@N@@Statement
import JvmDerived.Pilot.@@N@@Code
set_option linter.unusedVariables false
set_option linter.unusedSimpArgs false
namespace Jvm.RoadKit
open Sem ClassFile Op Lib Jvm.Stand Jvm.Free Jvm.LawKit
section New
variable {p : Program} {l : Launch} {e : Env} {R : Room} {s : State} {m : MethodId} {args : Array Value} {below : List Frame} {meth : Method} {c : Code} {T : State} {locs : List Loc} {cells slots : Nat}
theorem retI (X : Stand p l e R s m args below meth c T locs cells slots) (hx : p.tables.exec = Jvm.exec) {pc : Nat} {Ls : Array Slot} {z : Int32} {rest : List Value} (hret : meth.sig.returnType = some .int) (hd : decode c.code pc = .ok (.ireturn, 1)) {fs : List Frame}
    (hl : ∀ (f : JFrame) (acts : List Action), f.method = m → f.locked = none → f.entered = [] → (doReturn e (T.setTop f) acts (some (.int z))).1 = T.setFrames fs) : Steps p.tables e below (T.setTop (mkF m pc Ls (.int z :: rest))) (T.setFrames fs) := by
  have hm' : T.vm.method? m = some meth := X.method'
  have hn : narrow .int (.int z) = .int z := rfl
  show Steps p.tables e below (T.setTop { method := m, pc := pc, locals := Ls, stack := _ :: rest, locked := none }) _
  jvm_step X.here [X.here.top, hx, hd, hm', hret, hn]
  first | (intro acts; rw [hl _ acts rfl rfl rfl]) | rw [hl _ _ rfl rfl rfl]
  exact Steps.refl _
theorem retJ (X : Stand p l e R s m args below meth c T locs cells slots) (hx : p.tables.exec = Jvm.exec) {pc : Nat} {Ls : Array Slot} {z : Int64} {rest : List Value} (hret : meth.sig.returnType = some .long) (hd : decode c.code pc = .ok (.lreturn, 1)) {fs : List Frame}
    (hl : ∀ (f : JFrame) (acts : List Action), f.method = m → f.locked = none → f.entered = [] → (doReturn e (T.setTop f) acts (some (.long z))).1 = T.setFrames fs) : Steps p.tables e below (T.setTop (mkF m pc Ls (.long z :: rest))) (T.setFrames fs) := by
  have hm' : T.vm.method? m = some meth := X.method'
  show Steps p.tables e below (T.setTop { method := m, pc := pc, locals := Ls, stack := _ :: rest, locked := none }) _
  jvm_step X.here [X.here.top, hx, hd, hm', hret]
  first | (intro acts; rw [hl _ acts rfl rfl rfl]) | rw [hl _ _ rfl rfl rfl]
  exact Steps.refl _
theorem retR (X : Stand p l e R s m args below meth c T locs cells slots) (hx : p.tables.exec = Jvm.exec) {pc : Nat} {Ls : Array Slot} {z : Addr} {t : FieldType} {rest : List Value} (hret : meth.sig.returnType = some t) (ht : t.isReference = true) (hd : decode c.code pc = .ok (.areturn, 1)) {fs : List Frame}
    (hl : ∀ (f : JFrame) (acts : List Action), f.method = m → f.locked = none → f.entered = [] → (doReturn e (T.setTop f) acts (some (.ref z))).1 = T.setFrames fs) : Steps p.tables e below (T.setTop (mkF m pc Ls (.ref z :: rest))) (T.setFrames fs) := by
  have hm' : T.vm.method? m = some meth := X.method'
  show Steps p.tables e below (T.setTop { method := m, pc := pc, locals := Ls, stack := _ :: rest, locked := none }) _
  jvm_step X.here [X.here.top, hx, hd, hm', hret, Value.isRef, ht]
  first | (intro acts; rw [hl _ acts rfl rfl rfl]) | rw [hl _ _ rfl rfl rfl]
  exact Steps.refl _
end New
end Jvm.RoadKit
namespace Jvm.Pilot.@@N@@
open Jvm Jvm.ClassFile Sem Op Lib Jvm.Free Jvm.Stand Jvm.LawKit Jvm.RoadKit Bundle Jvm.Pilot.@@N@@.Jvm.D
/-- from the frame g, where T stands, the body comes to its end, and its end is as QQ says -/
def own_End (p : Program) (e : Env) (below : List Frame) (s : State) (QQ : Option Value → Heap → List Loc → Prop) (rc rs : Nat) (T : State) (g : JFrame) : Prop :=
  ∃ s₂ o, Steps p.tables e below (T.setTop g) s₂ ∧ s₂.status = .running ∧ Ended s₂ below o ∧ ∃ v L, o = .returned v ∧ QQ v s₂.heap L ∧ FrameEnd s o s₂ L rc rs
section Own
variable {p : Program} {l : Launch} {e : Env} {R : Room} {s : State} {m : MethodId} {args : Array Value} {below : List Frame} {meth : Method} {c : Code} {T T' : State} {locs : List Loc} {cells slots : Nat} {QQ : Option Value → Heap → List Loc → Prop} {rc rs : Nat}
theorem own_End.go {g g' : JFrame} (st : ∀ t, Steps p.tables e below (T'.setTop g') t → Steps p.tables e below (T.setTop g) t) (h : own_End p e below s QQ rc rs T' g') : own_End p e below s QQ rc rs T g := by
  obtain ⟨s2, o, a, b⟩ := h
  exact ⟨s2, o, st _ a, b⟩
theorem own_leafI (X : Stand p l e R s m args below meth c T locs cells slots) (hx : p.tables.exec = Jvm.exec) (hk : meth.locks = false) {pc : Nat} {Ls : Array Slot} {z : Int32} {rest : List Value} (hret : meth.sig.returnType = some .int) (hd : decode c.code pc = .ok (.ireturn, 1)) (hq : QQ (some (.int z)) T.heap locs) (h1 : cells ≤ rc) (h2 : slots ≤ rs) : own_End p e below s QQ rc rs T (mkF m pc Ls (.int z :: rest)) := by
  obtain ⟨fs, hr, hrun, hended, hW, hsame⟩ := X.leave (v := some (.int z)) (fun h => by rw [hret] at h; cases h) hk
  exact ⟨_, _, retI X hx hret hd hr, hrun, hended, _, _, rfl, hq, ⟨_, rfl⟩, hW, hsame.mono h1 h2⟩
theorem own_leafN (X : Stand p l e R s m args below meth c T locs cells slots) (hx : p.tables.exec = Jvm.exec) (hk : meth.locks = false) {pc : Nat} {Ls : Array Slot} {z : Int32} {t : FieldType} {rest : List Value} (hret : meth.sig.returnType = some t) (ht : t = .boolean ∨ t = .byte ∨ t = .char ∨ t = .short) (hd : decode c.code pc = .ok (.ireturn, 1)) (hq : QQ (some (.int (nar t z))) T.heap locs) (h1 : cells ≤ rc) (h2 : slots ≤ rs) : own_End p e below s QQ rc rs T (mkF m pc Ls (.int z :: rest)) := by
  obtain ⟨fs, hr, hrun, hended, hW, hsame⟩ := X.leave (v := some (.int (nar t z))) (fun h => by rw [hret] at h; cases h) hk
  exact ⟨_, _, retN X hx hret ht hd hr, hrun, hended, _, _, rfl, hq, ⟨_, rfl⟩, hW, hsame.mono h1 h2⟩
theorem own_leafJ (X : Stand p l e R s m args below meth c T locs cells slots) (hx : p.tables.exec = Jvm.exec) (hk : meth.locks = false) {pc : Nat} {Ls : Array Slot} {z : Int64} {rest : List Value} (hret : meth.sig.returnType = some .long) (hd : decode c.code pc = .ok (.lreturn, 1)) (hq : QQ (some (.long z)) T.heap locs) (h1 : cells ≤ rc) (h2 : slots ≤ rs) : own_End p e below s QQ rc rs T (mkF m pc Ls (.long z :: rest)) := by
  obtain ⟨fs, hr, hrun, hended, hW, hsame⟩ := X.leave (v := some (.long z)) (fun h => by rw [hret] at h; cases h) hk
  exact ⟨_, _, retJ X hx hret hd hr, hrun, hended, _, _, rfl, hq, ⟨_, rfl⟩, hW, hsame.mono h1 h2⟩
theorem own_leafR (X : Stand p l e R s m args below meth c T locs cells slots) (hx : p.tables.exec = Jvm.exec) (hk : meth.locks = false) {pc : Nat} {Ls : Array Slot} {z : Addr} {t : FieldType} {rest : List Value} (hret : meth.sig.returnType = some t) (ht : t.isReference = true) (hd : decode c.code pc = .ok (.areturn, 1)) (hq : QQ (some (.ref z)) T.heap locs) (h1 : cells ≤ rc) (h2 : slots ≤ rs) : own_End p e below s QQ rc rs T (mkF m pc Ls (.ref z :: rest)) := by
  obtain ⟨fs, hr, hrun, hended, hW, hsame⟩ := X.leave (v := some (.ref z)) (fun h => by rw [hret] at h; cases h) hk
  exact ⟨_, _, retR X hx hret ht hd hr, hrun, hended, _, _, rfl, hq, ⟨_, rfl⟩, hW, hsame.mono h1 h2⟩
theorem own_leafV (X : Stand p l e R s m args below meth c T locs cells slots) (hx : p.tables.exec = Jvm.exec) (hk : meth.locks = false) {pc : Nat} {Ls : Array Slot} (hret : meth.sig.returnType = none) (hd : decode c.code pc = .ok (.return_, 1)) (hq : QQ none T.heap locs) (h1 : cells ≤ rc) (h2 : slots ≤ rs) : own_End p e below s QQ rc rs T (mkF m pc Ls []) := by
  obtain ⟨fs, hr, hrun, hended, hW, hsame⟩ := X.leave (v := none) (fun _ => rfl) hk
  exact ⟨_, _, X.returnOut hx hret hd hr, hrun, hended, _, _, rfl, hq, ⟨_, rfl⟩, hW, hsame.mono h1 h2⟩
end Own
theorem own_nb0 : nar .boolean (0 : Int32) = 0 := by decide
theorem own_nb1 : nar .boolean (1 : Int32) = 1 := by decide
theorem own_oneif {P : Prop} [Decidable P] {x y : Slot} (hx : One x) (hy : One y) : One (if P then x else y) := by split <;> assumption

/-! arrays as lists; one step, one row -/
def own_IA (Z : State) (h : Heap) (a : Addr) (ty : FieldType) (L : List Int32) : Prop := ∃ k n, Arv Z h a k ty n (L.map Value.int) (.int 0) ∧ n.toInt = (L.length : Int)
def own_JA (Z : State) (h : Heap) (a : Addr) (L : List Int64) : Prop := ∃ k n, Arv Z h a k .long n (L.map Value.long) (.long 0) ∧ n.toInt = (L.length : Int)
theorem own_IA.keep {Z : State} {h h' : Heap} {a : Addr} {ty : FieldType} {L : List Int32} {ws : List Addr} (V : own_IA Z h a ty L) (K : Keep h h' ws) (q : a ∉ ws) : own_IA Z h' a ty L := by
  obtain ⟨k, n, A, e⟩ := V; exact ⟨k, n, A.keep K q, e⟩
theorem own_JA.keep {Z : State} {h h' : Heap} {a : Addr} {L : List Int64} {ws : List Addr} (V : own_JA Z h a L) (K : Keep h h' ws) (q : a ∉ ws) : own_JA Z h' a L := by
  obtain ⟨k, n, A, e⟩ := V; exact ⟨k, n, A.keep K q, e⟩
theorem own_IA.lt {Z : State} {h : Heap} {a : Addr} {ty : FieldType} {L : List Int32} (V : own_IA Z h a ty L) : a < h.size := by
  obtain ⟨k, n, A, e⟩ := V; exact A.lt
theorem own_JA.lt {Z : State} {h : Heap} {a : Addr} {L : List Int64} (V : own_JA Z h a L) : a < h.size := by
  obtain ⟨k, n, A, e⟩ := V; exact A.lt
theorem own_IA.len {Z : State} {h : Heap} {a : Addr} {ty : FieldType} {L : List Int32} (V : own_IA Z h a ty L) : (L.length : Int) < 2147483648 := by
  obtain ⟨k, n, A, e⟩ := V; have := rng32 n; omega
theorem own_keepE {h h' : Heap} (E : Ext h h') : Keep h h' [] := (Keep.refl h []).ext E
theorem own_ne {h : Heap} {x y : Addr} (hx : x < h.size) (hy : h.size ≤ y) : x ≠ y := Nat.ne_of_lt (Nat.lt_of_lt_of_le hx hy)
theorem own_clamp {j : Int32} (h : 0 ≤ j.toInt) : j.toNatClampNeg = j.toInt.toNat := rfl
theorem own_lt0 {n : Int32} (h : 0 ≤ n.toInt) : ¬ n < 0 := by
  rw [Int32.lt_iff_toInt_lt]; have : (0 : Int32).toInt = 0 := by decide
  omega
theorem own_in {j : Int32} {n m : Nat} (hn : n = m) (h : 0 ≤ j.toInt ∧ j.toInt < (m : Int)) : 0 ≤ j.toInt ∧ j.toInt < (n : Int) := hn ▸ h
theorem own_mapD (L : List Int32) (i : Nat) : (L.map Value.int).getD i (.int 0) = .int (L.getD i 0) := by
  simp only [List.getD_eq_getElem?_getD, List.getElem?_map]; cases L[i]? <;> rfl
theorem own_mapDJ (L : List Int64) (i : Nat) : (L.map Value.long).getD i (.long 0) = .long (L.getD i 0) := by
  simp only [List.getD_eq_getElem?_getD, List.getElem?_map]; cases L[i]? <;> rfl
theorem own_mapS {α β : Type} (f : α → β) (L : List α) (i : Nat) (x : α) : (L.map f).set i (f x) = (L.set i x).map f := by
  induction L generalizing i with
  | nil => rfl
  | cons y L ih => cases i with
    | zero => rfl
    | succ i => simp only [List.map_cons, List.set_cons_succ, ih]
section Heap
variable {p : Program} {l : Launch} {e : Env} {R : Room} {s : State} {m : MethodId} {args : Array Value} {below : List Frame} {meth : Method} {c : Code} {T : State} {locs : List Loc} {cells slots : Nat} {Z : State} {a0 : Array Value} {h : Heap} {n0 : Nat}
/-- newarray of ints, bytes, booleans, chars, shorts -/
theorem own_newA (X : Stand p l e R s m args below meth c T locs cells slots) (hx : p.tables.exec = Jvm.exec) (hZ : Z.Warmed39 s.vm) {aty : ArrayType} {ty : FieldType} (hty : newarray.typeOf aty = ty) (w : (Cond.arrayClass ty).before a0 Z = true) (hd0 : defaultValue ty = .int 0) (eT : T.heap = h) {g : JFrame} (hg : g.method = m) (hd : decode c.code g.pc = .ok (.newarray aty, 2)) {n : Int32} {rest : List Value} (hs : g.stack = .int n :: rest)
    (len : Nat) (hn : n.toInt = len) {cap : Nat} (hcap : len ≤ cap) (hb : cap * 8 ≤ 536870912) (hc : cells + 1 ≤ R.cells) (hl : slots + cap ≤ R.slots) :
    ∃ T' h' a, Stand p l e R s m args below meth c T' locs (cells + 1) (slots + cap) ∧ T'.heap = h' ∧ Keep h h' [] ∧ h.size ≤ a ∧ own_IA Z h' a ty (List.replicate len 0) ∧
      ∀ target, Steps p.tables e below (T'.setTop { g with pc := g.pc + 2, stack := .ref a :: rest }) target → Steps p.tables e below (T.setTop g) target := by
  subst hty
  have h0 : ¬ n < 0 := own_lt0 (by omega)
  obtain ⟨T', h', cA, X', e', E, A, st⟩ := newP X hx hZ w eT hg hd hs h0 (cap := cap) (by show n.toInt.toNat ≤ cap; omega) hb hc hl
  refine ⟨T', h', h.size, X', e', own_keepE E, Nat.le_refl _, ⟨cA, n, ?_, ?_⟩, st⟩
  · have V := (Arv.new A h0).pad (pad_rep [] _ len)
    rw [hd0] at V
    simpa using V
  · simpa using hn
theorem own_newJ (X : Stand p l e R s m args below meth c T locs cells slots) (hx : p.tables.exec = Jvm.exec) (hZ : Z.Warmed39 s.vm) (w : (Cond.arrayClass .long).before a0 Z = true) (eT : T.heap = h) {g : JFrame} (hg : g.method = m) (hd : decode c.code g.pc = .ok (.newarray .long, 2)) {n : Int32} {rest : List Value} (hs : g.stack = .int n :: rest)
    (len : Nat) (hn : n.toInt = len) {cap : Nat} (hcap : len ≤ cap) (hb : cap * 8 ≤ 536870912) (hc : cells + 1 ≤ R.cells) (hl : slots + cap ≤ R.slots) :
    ∃ T' h' a, Stand p l e R s m args below meth c T' locs (cells + 1) (slots + cap) ∧ T'.heap = h' ∧ Keep h h' [] ∧ h.size ≤ a ∧ own_JA Z h' a (List.replicate len 0) ∧
      ∀ target, Steps p.tables e below (T'.setTop { g with pc := g.pc + 2, stack := .ref a :: rest }) target → Steps p.tables e below (T.setTop g) target := by
  have h0 : ¬ n < 0 := own_lt0 (by omega)
  obtain ⟨T', h', cA, X', e', E, A, st⟩ := newP X hx hZ (aty := .long) w eT hg hd hs h0 (cap := cap) (by show n.toInt.toNat ≤ cap; omega) hb hc hl
  refine ⟨T', h', h.size, X', e', own_keepE E, Nat.le_refl _, ⟨cA, n, ?_, ?_⟩, st⟩
  · have V := (Arv.new A h0).pad (pad_rep [] _ len)
    have hd0 : defaultValue (newarray.typeOf .long) = .long 0 := rfl
    rw [hd0] at V
    have V' : Arv Z h' h.size cA .long n ([] ++ List.replicate len (Value.long 0)) (.long 0) := V
    simpa using V'
  · simpa using hn
theorem own_bounds {Z : State} {h : Heap} {a : Addr} {cl : Cell} {n j : Int32} {len : Nat} (S : cl.slots.size = n.toNatClampNeg) (hn : n.toInt = (len : Int)) (hj : 0 ≤ j.toInt ∧ j.toInt < (len : Int)) : ¬ (j < 0 ∨ cl.slots.size ≤ j.toNatClampNeg) := by
  have hn' : n.toNatClampNeg = n.toInt.toNat := rfl
  have hj' : j.toNatClampNeg = j.toInt.toNat := rfl
  rintro (q | q)
  · exact own_lt0 hj.1 q
  · omega
theorem own_ialoadI (X : Stand p l e R s m args below meth c T locs cells slots) (hx : p.tables.exec = Jvm.exec) (hZ : Z.Warmed39 s.vm) (eT : T.heap = h) {a : Addr} {L : List Int32} (V : own_IA Z h a .int L) {j : Int32} (hj : 0 ≤ j.toInt ∧ j.toInt < (L.length : Int)) {g : JFrame} (hg : g.method = m) {rest : List Value} (hs : g.stack = .int j :: .ref a :: rest) (hd : decode c.code g.pc = .ok (.iaload, 1)) :
    ∀ target, Steps p.tables e below (T.setTop { g with pc := g.pc + 1, stack := .int (L.getD j.toInt.toNat 0) :: rest }) target → Steps p.tables e below (T.setTop g) target := by
  obtain ⟨k, n, ⟨cl, A, q1, S, q3, H, G⟩, hn⟩ := V
  have hb := own_bounds (Z := Z) (h := h) (a := a) S hn hj
  exact X.iaload hx (j := j) (v := .int (L.getD j.toInt.toNat 0)) (by rw [eT]; exact A.1) (State.isArrayOf_alike hZ.alike A.2.1) A.2.2 hb (H.at hb (own_mapD L _)) hg hs hd
theorem own_baloadB (X : Stand p l e R s m args below meth c T locs cells slots) (hx : p.tables.exec = Jvm.exec) (hZ : Z.Warmed39 s.vm) (eT : T.heap = h) {a : Addr} {L : List Int32} (V : own_IA Z h a .byte L) {j : Int32} (hj : 0 ≤ j.toInt ∧ j.toInt < (L.length : Int)) {g : JFrame} (hg : g.method = m) {rest : List Value} (hs : g.stack = .int j :: .ref a :: rest) (hd : decode c.code g.pc = .ok (.baload, 1)) :
    ∀ target, Steps p.tables e below (T.setTop { g with pc := g.pc + 1, stack := .int (L.getD j.toInt.toNat 0) :: rest }) target → Steps p.tables e below (T.setTop g) target := by
  obtain ⟨k, n, ⟨cl, A, q1, S, q3, H, G⟩, hn⟩ := V
  have hb := own_bounds (Z := Z) (h := h) (a := a) S hn hj
  exact X.baloadBytes hx (j := j) (v := .int (L.getD j.toInt.toNat 0)) (by rw [eT]; exact A.1) (State.isArrayOf_alike hZ.alike A.2.1) A.2.2 hb (H.at hb (own_mapD L _)) hg hs hd
theorem own_baloadZ (X : Stand p l e R s m args below meth c T locs cells slots) (hx : p.tables.exec = Jvm.exec) (hZ : Z.Warmed39 s.vm) (eT : T.heap = h) {a : Addr} {L : List Int32} (V : own_IA Z h a .boolean L) {j : Int32} (hj : 0 ≤ j.toInt ∧ j.toInt < (L.length : Int)) {g : JFrame} (hg : g.method = m) {rest : List Value} (hs : g.stack = .int j :: .ref a :: rest) (hd : decode c.code g.pc = .ok (.baload, 1)) :
    ∀ target, Steps p.tables e below (T.setTop { g with pc := g.pc + 1, stack := .int (L.getD j.toInt.toNat 0) :: rest }) target → Steps p.tables e below (T.setTop g) target := by
  obtain ⟨k, n, ⟨cl, A, q1, S, q3, H, G⟩, hn⟩ := V
  have hb := own_bounds (Z := Z) (h := h) (a := a) S hn hj
  exact X.baloadBooleans hx (j := j) (v := .int (L.getD j.toInt.toNat 0)) (by rw [eT]; exact A.1) (State.isArrayOf_alike hZ.alike A.2.1) A.2.2 hb (H.at hb (own_mapD L _)) hg hs hd
theorem own_laloadJ (X : Stand p l e R s m args below meth c T locs cells slots) (hx : p.tables.exec = Jvm.exec) (hZ : Z.Warmed39 s.vm) (eT : T.heap = h) {a : Addr} {L : List Int64} (V : own_JA Z h a L) {j : Int32} (hj : 0 ≤ j.toInt ∧ j.toInt < (L.length : Int)) {g : JFrame} (hg : g.method = m) {rest : List Value} (hs : g.stack = .int j :: .ref a :: rest) (hd : decode c.code g.pc = .ok (.laload, 1)) :
    ∀ target, Steps p.tables e below (T.setTop { g with pc := g.pc + 1, stack := .long (L.getD j.toInt.toNat 0) :: rest }) target → Steps p.tables e below (T.setTop g) target := by
  obtain ⟨k, n, ⟨cl, A, q1, S, q3, H, G⟩, hn⟩ := V
  have hb := own_bounds (Z := Z) (h := h) (a := a) S hn hj
  exact X.laload hx (j := j) (v := .long (L.getD j.toInt.toNat 0)) (by rw [eT]; exact A.1) (State.isArrayOf_alike hZ.alike A.2.1) A.2.2 hb (H.at hb (own_mapDJ L _)) hg hs hd
theorem own_lenI (X : Stand p l e R s m args below meth c T locs cells slots) (hx : p.tables.exec = Jvm.exec) (hZ : Z.Warmed39 s.vm) (eT : T.heap = h) {a : Addr} {ty : FieldType} {L : List Int32} (V : own_IA Z h a ty L) {g : JFrame} (hg : g.method = m) {rest : List Value} (hs : g.stack = .ref a :: rest) (hd : decode c.code g.pc = .ok (.arraylength, 1)) :
    ∀ target, Steps p.tables e below (T.setTop { g with pc := g.pc + 1, stack := .int (Int32.ofNat L.length) :: rest }) target → Steps p.tables e below (T.setTop g) target := by
  have hl := V.len
  obtain ⟨k, n, ⟨cl, A, q1, S, q3, H, G⟩, hn⟩ := V
  intro t k
  refine X.arraylength hx (by rw [eT]; exact A.1) (State.isArrayOf_alike hZ.alike A.2.1) hg hs hd t ?_
  rw [len_of S q3]
  have e : n = Int32.ofNat L.length := by
    rw [← Int32.toInt_inj, Int32.toInt_ofNat_of_lt (by omega)]; exact hn
  rw [e]; exact k
theorem own_lenJ (X : Stand p l e R s m args below meth c T locs cells slots) (hx : p.tables.exec = Jvm.exec) (hZ : Z.Warmed39 s.vm) (eT : T.heap = h) {a : Addr} {L : List Int64} (V : own_JA Z h a L) {g : JFrame} (hg : g.method = m) {rest : List Value} (hs : g.stack = .ref a :: rest) (hd : decode c.code g.pc = .ok (.arraylength, 1)) :
    ∀ target, Steps p.tables e below (T.setTop { g with pc := g.pc + 1, stack := .int (Int32.ofNat L.length) :: rest }) target → Steps p.tables e below (T.setTop g) target := by
  obtain ⟨k, n, ⟨cl, A, q1, S, q3, H, G⟩, hn⟩ := V
  have hl := rng32 n
  intro t k
  refine X.arraylength hx (by rw [eT]; exact A.1) (State.isArrayOf_alike hZ.alike A.2.1) hg hs hd t ?_
  rw [len_of S q3]
  have e : n = Int32.ofNat L.length := by
    rw [← Int32.toInt_inj, Int32.toInt_ofNat_of_lt (by omega)]; exact hn
  rw [e]; exact k
theorem own_iastoreI (X : Stand p l e R s m args below meth c T locs cells slots) (hx : p.tables.exec = Jvm.exec) (hZ : Z.Warmed39 s.vm) (N : Fr n0 locs) (eT : T.heap = h) {a : Addr} {L : List Int32} (V : own_IA Z h a .int L) {j x : Int32} (hj : 0 ≤ j.toInt ∧ j.toInt < (L.length : Int)) (ha : n0 ≤ a) {g : JFrame} (hg : g.method = m) {rest : List Value} (hs : g.stack = .int x :: .int j :: .ref a :: rest) (hd : decode c.code g.pc = .ok (.iastore, 1)) :
    ∃ T' h' locs', Stand p l e R s m args below meth c T' locs' cells slots ∧ Fr n0 locs' ∧ T'.heap = h' ∧ Keep h h' [a] ∧ own_IA Z h' a .int (L.set j.toInt.toNat x) ∧
      ∀ target, Steps p.tables e below (T'.setTop { g with pc := g.pc + 1, stack := rest }) target → Steps p.tables e below (T.setTop g) target := by
  obtain ⟨k, n, ⟨cl, A, q1, S, q3, H, G⟩, hn⟩ := V
  have hb := own_bounds (Z := Z) (h := h) (a := a) S hn hj
  obtain ⟨T', h', X', e', W, st⟩ := stI X hx hZ eT A (j := j) hb hg hs hd
  have V' := Arv.set A q1 S q3 H G (v := .int x) rfl W j.toInt.toNat rfl (by simp only [List.length_map]; omega)
  rw [own_mapS] at V'
  exact ⟨T', h', _, X', Fr.snoc X' N ha, e', Keep.of_wr W, ⟨k, n, V', by simpa using hn⟩, st⟩
theorem own_bastoreB (X : Stand p l e R s m args below meth c T locs cells slots) (hx : p.tables.exec = Jvm.exec) (hZ : Z.Warmed39 s.vm) (N : Fr n0 locs) (eT : T.heap = h) {a : Addr} {L : List Int32} (V : own_IA Z h a .byte L) {j x : Int32} (hj : 0 ≤ j.toInt ∧ j.toInt < (L.length : Int)) (ha : n0 ≤ a) {g : JFrame} (hg : g.method = m) {rest : List Value} (hs : g.stack = .int x :: .int j :: .ref a :: rest) (hd : decode c.code g.pc = .ok (.bastore, 1)) :
    ∃ T' h' locs', Stand p l e R s m args below meth c T' locs' cells slots ∧ Fr n0 locs' ∧ T'.heap = h' ∧ Keep h h' [a] ∧ own_IA Z h' a .byte (L.set j.toInt.toNat (nar .byte x)) ∧
      ∀ target, Steps p.tables e below (T'.setTop { g with pc := g.pc + 1, stack := rest }) target → Steps p.tables e below (T.setTop g) target := by
  obtain ⟨k, n, ⟨cl, A, q1, S, q3, H, G⟩, hn⟩ := V
  have hb := own_bounds (Z := Z) (h := h) (a := a) S hn hj
  obtain ⟨T', h', X', e', W, st⟩ := stB X hx hZ eT A (j := j) hb hg hs hd
  have V' := Arv.set A q1 S q3 H G (v := .int (nar .byte x)) (fits_nar_byte _) W j.toInt.toNat rfl (by simp only [List.length_map]; omega)
  rw [own_mapS] at V'
  exact ⟨T', h', _, X', Fr.snoc X' N ha, e', Keep.of_wr W, ⟨k, n, V', by simpa using hn⟩, st⟩
theorem own_bastoreZ (X : Stand p l e R s m args below meth c T locs cells slots) (hx : p.tables.exec = Jvm.exec) (hZ : Z.Warmed39 s.vm) (N : Fr n0 locs) (eT : T.heap = h) {a : Addr} {L : List Int32} (V : own_IA Z h a .boolean L) {j x : Int32} (hj : 0 ≤ j.toInt ∧ j.toInt < (L.length : Int)) (ha : n0 ≤ a) {g : JFrame} (hg : g.method = m) {rest : List Value} (hs : g.stack = .int x :: .int j :: .ref a :: rest) (hd : decode c.code g.pc = .ok (.bastore, 1)) :
    ∃ T' h' locs', Stand p l e R s m args below meth c T' locs' cells slots ∧ Fr n0 locs' ∧ T'.heap = h' ∧ Keep h h' [a] ∧ own_IA Z h' a .boolean (L.set j.toInt.toNat (nar .boolean x)) ∧
      ∀ target, Steps p.tables e below (T'.setTop { g with pc := g.pc + 1, stack := rest }) target → Steps p.tables e below (T.setTop g) target := by
  obtain ⟨k, n, ⟨cl, A, q1, S, q3, H, G⟩, hn⟩ := V
  have hb := own_bounds (Z := Z) (h := h) (a := a) S hn hj
  obtain ⟨T', h', X', e', W, st⟩ := stZ X hx hZ eT A (j := j) hb hg hs hd
  have V' := Arv.set A q1 S q3 H G (v := .int (nar .boolean x)) (fits_nar_bool _) W j.toInt.toNat rfl (by simp only [List.length_map]; omega)
  rw [own_mapS] at V'
  exact ⟨T', h', _, X', Fr.snoc X' N ha, e', Keep.of_wr W, ⟨k, n, V', by simpa using hn⟩, st⟩
theorem own_lastoreJ (X : Stand p l e R s m args below meth c T locs cells slots) (hx : p.tables.exec = Jvm.exec) (hZ : Z.Warmed39 s.vm) (N : Fr n0 locs) (eT : T.heap = h) {a : Addr} {L : List Int64} (V : own_JA Z h a L) {j : Int32} {x : Int64} (hj : 0 ≤ j.toInt ∧ j.toInt < (L.length : Int)) (ha : n0 ≤ a) {g : JFrame} (hg : g.method = m) {rest : List Value} (hs : g.stack = .long x :: .int j :: .ref a :: rest) (hd : decode c.code g.pc = .ok (.lastore, 1)) :
    ∃ T' h' locs', Stand p l e R s m args below meth c T' locs' cells slots ∧ Fr n0 locs' ∧ T'.heap = h' ∧ Keep h h' [a] ∧ own_JA Z h' a (L.set j.toInt.toNat x) ∧
      ∀ target, Steps p.tables e below (T'.setTop { g with pc := g.pc + 1, stack := rest }) target → Steps p.tables e below (T.setTop g) target := by
  obtain ⟨k, n, ⟨cl, A, q1, S, q3, H, G⟩, hn⟩ := V
  have hb := own_bounds (Z := Z) (h := h) (a := a) S hn hj
  obtain ⟨T', h', X', e', W, st⟩ := stJ X hx hZ eT A (j := j) hb hg hs hd
  have V' := Arv.set A q1 S q3 H G (v := .long x) rfl W j.toInt.toNat rfl (by simp only [List.length_map]; omega)
  rw [own_mapS] at V'
  exact ⟨T', h', _, X', Fr.snoc X' N ha, e', Keep.of_wr W, ⟨k, n, V', by simpa using hn⟩, st⟩
theorem own_newJE (X : Stand p l e R s m args below meth c T locs cells slots) (hx : p.tables.exec = Jvm.exec) (hZ : Z.Warmed39 s.vm) (w : (Cond.arrayClass .long).before a0 Z = true) (eT : T.heap = h) {g : JFrame} (hg : g.method = m) (hd : decode c.code g.pc = .ok (.newarray .long, 2)) {n : Int32} {rest : List Value} (hs : g.stack = .int n :: rest)
    (len : Nat) (hn : n.toInt = len) {cap : Nat} (hcap : len ≤ cap) (hb : cap * 8 ≤ 536870912) (hc : cells + 1 ≤ R.cells) (hl : slots + cap ≤ R.slots) :
    ∃ T' h' a, Stand p l e R s m args below meth c T' locs (cells + 1) (slots + cap) ∧ T'.heap = h' ∧ Keep h h' [] ∧ h.size ≤ a ∧ own_JA Z h' a (List.replicate len 0) ∧ Exa Z h' a "[J" ∧
      ∀ target, Steps p.tables e below (T'.setTop { g with pc := g.pc + 2, stack := .ref a :: rest }) target → Steps p.tables e below (T.setTop g) target := by
  have h0 : ¬ n < 0 := own_lt0 (by omega)
  obtain ⟨T', h', cA, X', e', E, A, Ex, st⟩ := newPE X hx hZ (aty := .long) w eT hg hd hs h0 (cap := cap) (by show n.toInt.toNat ≤ cap; omega) hb hc hl (ad := "[J") (by decide)
  refine ⟨T', h', h.size, X', e', own_keepE E, Nat.le_refl _, ⟨cA, n, ?_, ?_⟩, Ex, st⟩
  · have V := (Arv.new A h0).pad (pad_rep [] _ len)
    have hd0 : defaultValue (newarray.typeOf .long) = .long 0 := rfl
    rw [hd0] at V
    have V' : Arv Z h' h.size cA .long n ([] ++ List.replicate len (Value.long 0)) (.long 0) := V
    simpa using V'
  · simpa using hn
theorem own_cloneJ (X : Stand p l e R s m args below meth c T locs cells slots) (hx : p.tables.exec = Jvm.exec) (hZ : Z.Warmed39 s.vm) {own : String} {index : Nat} (hown : s.vm.findClass own = some m.cls)
    (w1 : (Cond.methodLink own index ⟨"[J", "clone", "()Ljava/lang/Object;"⟩).before a0 Z = true) (w2 : (Cond.sameMethod "[J" "java/lang/Object" "clone" "()Ljava/lang/Object;").before a0 Z = true) (w3 : (Cond.native ⟨"java/lang/Object", "clone", "()Ljava/lang/Object;"⟩).before a0 Z = true)
    (w4 : (Cond.instanceMethod ⟨"java/lang/Object", "clone", "()Ljava/lang/Object;"⟩).before a0 Z = true) (w5 : (Cond.selects "[J" ⟨"[J", "clone", "()Ljava/lang/Object;"⟩ ⟨"java/lang/Object", "clone", "()Ljava/lang/Object;"⟩).before a0 Z = true) (w6 : (Cond.castable "[J" "java/lang/Cloneable").before a0 Z = true)
    (eT : T.heap = h) {a : Addr} {L : List Int64} (V : own_JA Z h a L) (E : Exa Z h a "[J") {g : JFrame} (hg : g.method = m) (hsize : g.locals.size = c.maxLocals) {rest : List Value} (hst : g.stack = .ref a :: rest) (hd : decode c.code g.pc = .ok (.invokevirtual index, 3))
    (hf : 1 ≤ R.frames) {W cap : Nat} (hW : 2 * g.monitorRoom + (rest.map fun v => v.category).sum ≤ W) (hl : W + 14 ≤ R.locals) (hcap : L.length ≤ cap) (hc : cells + 1 ≤ R.cells) (hsl : slots + cap ≤ R.slots) :
    ∃ T' h' b, Stand p l e R s m args below meth c T' locs (cells + 1) (slots + cap) ∧ T'.heap = h' ∧ Keep h h' [] ∧ h.size ≤ b ∧ own_JA Z h' b L ∧ Exa Z h' b "[J" ∧
      ∀ target, Steps p.tables e below (T'.setTop { g with pc := g.pc + 3, stack := .ref b :: rest }) target → Steps p.tables e below (T.setTop g) target := by
  obtain ⟨k, n, A, hn⟩ := V
  obtain ⟨T', h', X', e', Ex, A', E', st⟩ := cloneH X hx hZ hown w1 w2 w3 w4 w5 w6 eT A.arh E hg hsize hst hd hf hW hl (cap := cap) (by show n.toInt.toNat ≤ cap; omega) hc hsl
  exact ⟨T', h', h.size, X', e', own_keepE Ex, Nat.le_refl _, ⟨k, n, A', hn⟩, E', st⟩
/-- new -/
theorem own_new (X : Stand p l e R s m args below meth c T locs cells slots) (hx : p.tables.exec = Jvm.exec) (hZ : Z.Warmed39 s.vm) {own C : String} {index n : Nat} (hown : s.vm.findClass own = some m.cls) (w : (Cond.classLink own index C).before a0 Z = true) (wi : (Cond.instantiable C n).before a0 Z = true) (wz : (Cond.initialized C).before a0 Z = true) (eT : T.heap = h)
    {g : JFrame} (hg : g.method = m) (hd : decode c.code g.pc = .ok (.new index, 3)) (hc : cells + 1 ≤ R.cells) (hl : slots + n ≤ R.slots) :
    ∃ T' h' a, Stand p l e R s m args below meth c T' locs (cells + 1) (slots + n) ∧ T'.heap = h' ∧ Keep h h' [] ∧ h.size ≤ a ∧ Exa Z h' a C ∧ (∀ {O nm d : String} {ty : FieldType}, Laid Z a0 C O nm d → parseFieldDescriptor d = some ty → Fld Z h' a O nm d (defaultValue ty)) ∧
      ∀ target, Steps p.tables e below (T'.setTop { g with pc := g.pc + 3, stack := .ref a :: g.stack }) target → Steps p.tables e below (T.setTop g) target := by
  obtain ⟨T', h', X', e', E, A, D, -, st⟩ := newO X hx hZ hown w wi wz eT hg hd hc hl
  exact ⟨T', h', h.size, X', e', own_keepE E, Nat.le_refl _, A, D, st⟩
end Heap
theorem own_irem (x y : Int32) : x - (x / y) * y = x % y := by
  have lo (z : Int32) : Int32.minValue.toInt ≤ z.toInt := z.minValue_le_toInt
  have hi (z : Int32) : z.toInt ≤ Int32.maxValue.toInt := z.toInt_le
  have d := Int32.ofInt_tdiv (a := x.toInt) (b := y.toInt) (lo x) (hi x) (lo y) (hi y)
  have m := Int32.ofInt_tmod (a := x.toInt) (b := y.toInt) (lo x) (hi x) (lo y) (hi y)
  simp only [Int32.ofInt_toInt] at d m
  have e : x.toInt.tmod y.toInt = x.toInt - (x.toInt.tdiv y.toInt) * y.toInt := by
    have := Int.tmod_add_mul_tdiv x.toInt y.toInt
    rw [Int.mul_comm (x.toInt.tdiv y.toInt)]; omega
  rw [← d, ← m, e, Int32.ofInt_sub, Int32.ofInt_mul, Int32.ofInt_toInt, Int32.ofInt_toInt]
theorem own_remP (x d : Int32) (k : Int) (hd : d.toInt = k) (h : 0 ≤ x.toInt) : (x - (x / d) * d).toInt = x.toInt % k := by
  rw [own_irem]; exact (c_irem x d k hd).1 h
theorem own_mask31 (x : Int32) : (x &&& (2147483647 : Int32)).toInt = x.toInt % 2147483648 := by
  have : (x &&& (2147483647 : Int32)).toInt = x.toInt % (2 ^ 31 : Nat) := c_mask x 2147483647 31 (by decide) (by decide)
  omega
theorem own_succ {x y : Int32} (h : y = x + (1 : Int32)) (hb : x.toInt < 2147483647) : y.toInt = x.toInt + 1 := by
  subst h
  have a := c_iadd x 1
  have r := rng32 (x + 1)
  have r' := rng32 x
  have z : (1 : Int32).toInt = 1 := by decide
  omega
theorem own_ofN {v : Int32} {n : Nat} (h : v = Int32.ofNat n) (hn : n < 2147483648) : v.toInt = n := by
  subst h; exact Int32.toInt_ofNat_of_lt hn
theorem own_z0 : (0 : Int32).toInt = 0 := by decide

theorem own_ltl {i n : Int32} {k : Nat} (hc : i < n) (h : n.toInt ≤ (k : Int)) : i.toInt < (k : Int) := by
  rw [Int32.lt_iff_toInt_lt] at hc; omega
theorem own_atv {L : List Int32} {i v : Int32} {k : Nat} (hp : ∀ x ∈ L, 0 ≤ x.toInt ∧ x.toInt < (k : Int)) (hv : v = (List.getD L (i).toInt.toNat 0)) (h : 0 ≤ i.toInt ∧ i.toInt < (L.length : Int)) : 0 ≤ v.toInt ∧ v.toInt < (k : Int) := by
  rw [hv]
  refine hp _ ?_
  rw [List.getD_eq_getElem?_getD, List.getElem?_eq_getElem (by omega : i.toInt.toNat < L.length)]
  exact List.getElem_mem _
theorem own_allN (N : Nat) {P : Int32 → Prop} (v : Int32) (h : 0 ≤ v.toInt ∧ v.toInt < (N : Int)) (hP : ∀ n : Fin N, P (Int32.ofNat n.val)) : P v := by
  have q := hP ⟨v.toInt.toNat, by omega⟩
  have e : Int32.ofNat v.toInt.toNat = v := by
    have := rng32 v
    rw [← Int32.toInt_inj, Int32.toInt_ofNat_of_lt (by omega)]
    omega
  exact e ▸ q
theorem own_six {v p : Int32} (h : v = ((p &&& (2147483647 : Int32)) - ((p &&& (2147483647 : Int32)) / (6 : Int32)) * (6 : Int32))) : 0 ≤ v.toInt ∧ v.toInt < ((6 : Nat) : Int) := by
  have m := own_mask31 p
  have r := own_remP (p &&& (2147483647 : Int32)) 6 6 (by decide) (by omega)
  rw [← h] at r
  omega
theorem own_c3 {v p : Int32} (h : v = (p &&& (3 : Int32))) : 0 ≤ v.toInt ∧ v.toInt ≤ ((3 : Nat) : Int) := by
  have : (p &&& (3 : Int32)).toInt = p.toInt % (2 ^ 2 : Nat) := c_mask p 3 2 (by decide) (by decide)
  rw [h]; omega
theorem own_w {v q : Int64} (h : v = ((q &&& (1152921504606846975 : Int64)) + (1 : Int64))) : 1 ≤ v.toInt ∧ v.toInt ≤ 1152921504606846976 := by
  have m : (q &&& (1152921504606846975 : Int64)).toInt = q.toInt % (2 ^ 60 : Nat) := c_maskL q 1152921504606846975 60 (by decide) (by decide)
  have b0 : 0 ≤ (q &&& (1152921504606846975 : Int64)).toInt := by rw [m]; exact Int.emod_nonneg _ (by decide)
  have b1 : (q &&& (1152921504606846975 : Int64)).toInt < 1152921504606846976 := by rw [m]; exact Int.emod_lt_of_pos _ (by decide)
  have a := c_ladd (q &&& (1152921504606846975 : Int64)) 1
  have r := rng64 ((q &&& (1152921504606846975 : Int64)) + 1)
  have y : (1 : Int64).toInt = 1 := by decide
  rw [y] at a
  rw [h]
  clear m
  omega
theorem own_ge {v q : Int64} (h : v = ((q &&& (1152921504606846975 : Int64)) + (1 : Int64))) : ¬ v < (1 : Int64) := by
  have := own_w h
  have y : (1 : Int64).toInt = 1 := by decide
  rw [Int64.lt_iff_toInt_lt]; omega
theorem own_pd0 : parseMethodDescriptor "(JJ)J" = some ⟨[.long, .long], some .long⟩ := by decide +kernel
theorem own_pd1 : parseMethodDescriptor "(IIIII)Z" = some ⟨[.int, .int, .int, .int, .int], some .boolean⟩ := by decide +kernel
theorem own_pd2 : parseMethodDescriptor "([J)V" = some ⟨[(.array .long)], none⟩ := by decide +kernel
theorem own_pd3 : parseMethodDescriptor "([ZJ[II)J" = some ⟨[(.array .boolean), .long, (.array .int), .int], some .long⟩ := by decide +kernel
theorem own_d1_0 : decode method_2_code 0 = .ok (.iload 4, 2) := by decide +kernel
theorem own_d1_2 : decode method_2_code 2 = .ok (.ifCond .le 8, 3) := by decide +kernel
theorem own_d1_5 : decode method_2_code 5 = .ok (.iload_n 1, 1) := by decide +kernel
theorem own_d1_6 : decode method_2_code 6 = .ok (.iload_n 0, 1) := by decide +kernel
theorem own_d1_7 : decode method_2_code 7 = .ok (.if_icmp .eq 25, 3) := by decide +kernel
theorem own_d1_10 : decode method_2_code 10 = .ok (.iload 4, 2) := by decide +kernel
theorem own_d1_12 : decode method_2_code 12 = .ok (.iconst 1, 1) := by decide +kernel
theorem own_d1_13 : decode method_2_code 13 = .ok (.if_icmp .le 8, 3) := by decide +kernel
theorem own_d1_16 : decode method_2_code 16 = .ok (.iload_n 2, 1) := by decide +kernel
theorem own_d1_17 : decode method_2_code 17 = .ok (.iload_n 0, 1) := by decide +kernel
theorem own_d1_18 : decode method_2_code 18 = .ok (.if_icmp .eq 14, 3) := by decide +kernel
theorem own_d1_21 : decode method_2_code 21 = .ok (.iload 4, 2) := by decide +kernel
theorem own_d1_23 : decode method_2_code 23 = .ok (.iconst 2, 1) := by decide +kernel
theorem own_d1_24 : decode method_2_code 24 = .ok (.if_icmp .le 12, 3) := by decide +kernel
theorem own_d1_27 : decode method_2_code 27 = .ok (.iload_n 3, 1) := by decide +kernel
theorem own_d1_28 : decode method_2_code 28 = .ok (.iload_n 0, 1) := by decide +kernel
theorem own_d1_29 : decode method_2_code 29 = .ok (.if_icmp .ne 7, 3) := by decide +kernel
theorem own_d1_32 : decode method_2_code 32 = .ok (.iconst 1, 1) := by decide +kernel
theorem own_d1_33 : decode method_2_code 33 = .ok (.goto 4, 3) := by decide +kernel
theorem own_d1_36 : decode method_2_code 36 = .ok (.iconst 0, 1) := by decide +kernel
theorem own_d1_37 : decode method_2_code 37 = .ok (.ireturn, 1) := by decide +kernel
theorem own_pn1 : plainName "com/example/evotempo/evotempo/problem/LinearFunctionFitnessAfterFlipsPinLaw" = true := by first | (simp [plainName, overriddenIn]; done) | decide +kernel
theorem own_ef1 (m : MethodId) (p0 : Int32) (p1 : Int32) (p2 : Int32) (p3 : Int32) (p4 : Int32) : entryFrame m #[(.int p0), (.int p1), (.int p2), (.int p3), (.int p4)] 5 = mkF m 0 #[.val (.int p0), .val (.int p1), .val (.int p2), .val (.int p3), .val (.int p4)] [] := by first | (simp [entryFrame, mkF, argsToLocals, Value.category]; done) | rfl
abbrev own_R1 : Room := { frames := 0, cells := 0, slots := 0, locals := 0 }
def own_F1 (p0 : Int32) (p1 : Int32) (p2 : Int32) (p3 : Int32) (p4 : Int32) : Int32 :=
  if (0 : Int32) < p4 then
    if p1 = p0 then
      (1 : Int32)
    else
      if (1 : Int32) < p4 then
        if p2 = p0 then
          (1 : Int32)
        else
          if (2 : Int32) < p4 then
            if p3 = p0 then
              (1 : Int32)
            else
              (0 : Int32)
          else
            (0 : Int32)
      else
        if (2 : Int32) < p4 then
          if p3 = p0 then
            (1 : Int32)
          else
            (0 : Int32)
        else
          (0 : Int32)
  else
    if (1 : Int32) < p4 then
      if p2 = p0 then
        (1 : Int32)
      else
        if (2 : Int32) < p4 then
          if p3 = p0 then
            (1 : Int32)
          else
            (0 : Int32)
        else
          (0 : Int32)
    else
      if (2 : Int32) < p4 then
        if p3 = p0 then
          (1 : Int32)
        else
          (0 : Int32)
      else
        (0 : Int32)
def own_Q1 (p0 : Int32) (p1 : Int32) (p2 : Int32) (p3 : Int32) (p4 : Int32) (h0 : Heap) (vz : Option Value) (h : Heap) (Lz : List Loc) : Prop :=  vz = some (.int (own_F1 p0 p1 p2 p3 p4)) ∧ Lz = [] ∧ h = h0
theorem own_e1_6 {p0 : Int32} {p1 : Int32} {p2 : Int32} {p3 : Int32} {p4 : Int32} (hc2_2 : (0 : Int32) < p4) (hc7_4 : p1 = p0) : (nar .boolean (1 : Int32)) = (own_F1 p0 p1 p2 p3 p4) := by
  rw [own_nb1]
  skip
  first
    | (simp only [own_F1, if_pos hc2_2, if_pos hc7_4]; done)
    | (exfalso; contradiction)
theorem own_e1_12 {p0 : Int32} {p1 : Int32} {p2 : Int32} {p3 : Int32} {p4 : Int32} (hc2_2 : (0 : Int32) < p4) (hc7_4 : ¬ (p1 = p0)) (hc13_8 : (1 : Int32) < p4) (hc18_10 : p2 = p0) : (nar .boolean (1 : Int32)) = (own_F1 p0 p1 p2 p3 p4) := by
  rw [own_nb1]
  skip
  first
    | (simp only [own_F1, if_pos hc2_2, if_neg hc7_4, if_pos hc13_8, if_pos hc18_10]; done)
    | (exfalso; contradiction)
theorem own_e1_18 {p0 : Int32} {p1 : Int32} {p2 : Int32} {p3 : Int32} {p4 : Int32} (hc2_2 : (0 : Int32) < p4) (hc7_4 : ¬ (p1 = p0)) (hc13_8 : (1 : Int32) < p4) (hc18_10 : ¬ (p2 = p0)) (hc24_14 : (2 : Int32) < p4) (hc29_16 : p3 = p0) : (nar .boolean (1 : Int32)) = (own_F1 p0 p1 p2 p3 p4) := by
  rw [own_nb1]
  skip
  first
    | (simp only [own_F1, if_pos hc2_2, if_neg hc7_4, if_pos hc13_8, if_neg hc18_10, if_pos hc24_14, if_pos hc29_16]; done)
    | (exfalso; contradiction)
theorem own_e1_20 {p0 : Int32} {p1 : Int32} {p2 : Int32} {p3 : Int32} {p4 : Int32} (hc2_2 : (0 : Int32) < p4) (hc7_4 : ¬ (p1 = p0)) (hc13_8 : (1 : Int32) < p4) (hc18_10 : ¬ (p2 = p0)) (hc24_14 : (2 : Int32) < p4) (hc29_16 : ¬ (p3 = p0)) : (nar .boolean (0 : Int32)) = (own_F1 p0 p1 p2 p3 p4) := by
  rw [own_nb0]
  skip
  first
    | (simp only [own_F1, if_pos hc2_2, if_neg hc7_4, if_pos hc13_8, if_neg hc18_10, if_pos hc24_14, if_neg hc29_16]; done)
    | (exfalso; contradiction)
theorem own_e1_22 {p0 : Int32} {p1 : Int32} {p2 : Int32} {p3 : Int32} {p4 : Int32} (hc2_2 : (0 : Int32) < p4) (hc7_4 : ¬ (p1 = p0)) (hc13_8 : (1 : Int32) < p4) (hc18_10 : ¬ (p2 = p0)) (hc24_14 : ¬ ((2 : Int32) < p4)) : (nar .boolean (0 : Int32)) = (own_F1 p0 p1 p2 p3 p4) := by
  rw [own_nb0]
  skip
  first
    | (simp only [own_F1, if_pos hc2_2, if_neg hc7_4, if_pos hc13_8, if_neg hc18_10, if_neg hc24_14]; done)
    | (exfalso; contradiction)
theorem own_e1_28 {p0 : Int32} {p1 : Int32} {p2 : Int32} {p3 : Int32} {p4 : Int32} (hc2_2 : (0 : Int32) < p4) (hc7_4 : ¬ (p1 = p0)) (hc13_8 : ¬ ((1 : Int32) < p4)) (hc24_24 : (2 : Int32) < p4) (hc29_26 : p3 = p0) : (nar .boolean (1 : Int32)) = (own_F1 p0 p1 p2 p3 p4) := by
  rw [own_nb1]
  skip
  first
    | (simp only [own_F1, if_pos hc2_2, if_neg hc7_4, if_neg hc13_8, if_pos hc24_24, if_pos hc29_26]; done)
    | (exfalso; contradiction)
theorem own_e1_30 {p0 : Int32} {p1 : Int32} {p2 : Int32} {p3 : Int32} {p4 : Int32} (hc2_2 : (0 : Int32) < p4) (hc7_4 : ¬ (p1 = p0)) (hc13_8 : ¬ ((1 : Int32) < p4)) (hc24_24 : (2 : Int32) < p4) (hc29_26 : ¬ (p3 = p0)) : (nar .boolean (0 : Int32)) = (own_F1 p0 p1 p2 p3 p4) := by
  rw [own_nb0]
  skip
  first
    | (simp only [own_F1, if_pos hc2_2, if_neg hc7_4, if_neg hc13_8, if_pos hc24_24, if_neg hc29_26]; done)
    | (exfalso; contradiction)
theorem own_e1_32 {p0 : Int32} {p1 : Int32} {p2 : Int32} {p3 : Int32} {p4 : Int32} (hc2_2 : (0 : Int32) < p4) (hc7_4 : ¬ (p1 = p0)) (hc13_8 : ¬ ((1 : Int32) < p4)) (hc24_24 : ¬ ((2 : Int32) < p4)) : (nar .boolean (0 : Int32)) = (own_F1 p0 p1 p2 p3 p4) := by
  rw [own_nb0]
  skip
  first
    | (simp only [own_F1, if_pos hc2_2, if_neg hc7_4, if_neg hc13_8, if_neg hc24_24]; done)
    | (exfalso; contradiction)
theorem own_e1_38 {p0 : Int32} {p1 : Int32} {p2 : Int32} {p3 : Int32} {p4 : Int32} (hc2_2 : ¬ ((0 : Int32) < p4)) (hc13_34 : (1 : Int32) < p4) (hc18_36 : p2 = p0) : (nar .boolean (1 : Int32)) = (own_F1 p0 p1 p2 p3 p4) := by
  rw [own_nb1]
  skip
  first
    | (simp only [own_F1, if_neg hc2_2, if_pos hc13_34, if_pos hc18_36]; done)
    | (exfalso; contradiction)
theorem own_e1_44 {p0 : Int32} {p1 : Int32} {p2 : Int32} {p3 : Int32} {p4 : Int32} (hc2_2 : ¬ ((0 : Int32) < p4)) (hc13_34 : (1 : Int32) < p4) (hc18_36 : ¬ (p2 = p0)) (hc24_40 : (2 : Int32) < p4) (hc29_42 : p3 = p0) : (nar .boolean (1 : Int32)) = (own_F1 p0 p1 p2 p3 p4) := by
  rw [own_nb1]
  skip
  first
    | (simp only [own_F1, if_neg hc2_2, if_pos hc13_34, if_neg hc18_36, if_pos hc24_40, if_pos hc29_42]; done)
    | (exfalso; contradiction)
theorem own_e1_46 {p0 : Int32} {p1 : Int32} {p2 : Int32} {p3 : Int32} {p4 : Int32} (hc2_2 : ¬ ((0 : Int32) < p4)) (hc13_34 : (1 : Int32) < p4) (hc18_36 : ¬ (p2 = p0)) (hc24_40 : (2 : Int32) < p4) (hc29_42 : ¬ (p3 = p0)) : (nar .boolean (0 : Int32)) = (own_F1 p0 p1 p2 p3 p4) := by
  rw [own_nb0]
  skip
  first
    | (simp only [own_F1, if_neg hc2_2, if_pos hc13_34, if_neg hc18_36, if_pos hc24_40, if_neg hc29_42]; done)
    | (exfalso; contradiction)
theorem own_e1_48 {p0 : Int32} {p1 : Int32} {p2 : Int32} {p3 : Int32} {p4 : Int32} (hc2_2 : ¬ ((0 : Int32) < p4)) (hc13_34 : (1 : Int32) < p4) (hc18_36 : ¬ (p2 = p0)) (hc24_40 : ¬ ((2 : Int32) < p4)) : (nar .boolean (0 : Int32)) = (own_F1 p0 p1 p2 p3 p4) := by
  rw [own_nb0]
  skip
  first
    | (simp only [own_F1, if_neg hc2_2, if_pos hc13_34, if_neg hc18_36, if_neg hc24_40]; done)
    | (exfalso; contradiction)
theorem own_e1_54 {p0 : Int32} {p1 : Int32} {p2 : Int32} {p3 : Int32} {p4 : Int32} (hc2_2 : ¬ ((0 : Int32) < p4)) (hc13_34 : ¬ ((1 : Int32) < p4)) (hc24_50 : (2 : Int32) < p4) (hc29_52 : p3 = p0) : (nar .boolean (1 : Int32)) = (own_F1 p0 p1 p2 p3 p4) := by
  rw [own_nb1]
  skip
  first
    | (simp only [own_F1, if_neg hc2_2, if_neg hc13_34, if_pos hc24_50, if_pos hc29_52]; done)
    | (exfalso; contradiction)
theorem own_e1_56 {p0 : Int32} {p1 : Int32} {p2 : Int32} {p3 : Int32} {p4 : Int32} (hc2_2 : ¬ ((0 : Int32) < p4)) (hc13_34 : ¬ ((1 : Int32) < p4)) (hc24_50 : (2 : Int32) < p4) (hc29_52 : ¬ (p3 = p0)) : (nar .boolean (0 : Int32)) = (own_F1 p0 p1 p2 p3 p4) := by
  rw [own_nb0]
  skip
  first
    | (simp only [own_F1, if_neg hc2_2, if_neg hc13_34, if_pos hc24_50, if_neg hc29_52]; done)
    | (exfalso; contradiction)
theorem own_e1_58 {p0 : Int32} {p1 : Int32} {p2 : Int32} {p3 : Int32} {p4 : Int32} (hc2_2 : ¬ ((0 : Int32) < p4)) (hc13_34 : ¬ ((1 : Int32) < p4)) (hc24_50 : ¬ ((2 : Int32) < p4)) : (nar .boolean (0 : Int32)) = (own_F1 p0 p1 p2 p3 p4) := by
  rw [own_nb0]
  skip
  first
    | (simp only [own_F1, if_neg hc2_2, if_neg hc13_34, if_neg hc24_50]; done)
    | (exfalso; contradiction)
set_option maxRecDepth 65536 in
set_option maxHeartbeats 40000000 in
theorem own_rm1 (l : Launch) (Z : State) (a0 : Array Value) (hw : ∀ d ∈ tables_1, d.before a0 Z = true) (ws : List Jvm.Cond) (p0 : Int32) (p1 : Int32) (p2 : Int32) (p3 : Int32) (p4 : Int32) (h0 : Heap) :
    MetFree l (⟨"com/example/evotempo/evotempo/problem/LinearFunctionFitnessAfterFlipsPinLaw", "flipped", "(IIIII)Z"⟩ : MethodName) (head1 (Jvm.Cond.code (⟨"com/example/evotempo/evotempo/problem/LinearFunctionFitnessAfterFlipsPinLaw", "flipped", "(IIIII)Z"⟩ : MethodName) method_2_code 5 (some .boolean) :: ws) own_R1) (fun a U => a = #[(.int p0), (.int p1), (.int p2), (.int p3), (.int p4)] ∧ Z.Warmed39 U.vm ∧ U.heap = h0) (fun _ _ _ _ _ => True) (fun _ U o U' => ∃ vz Lz, o = .returned vz ∧ own_Q1 p0 p1 p2 p3 p4 h0 vz U'.heap Lz ∧ FrameEnd U o U' Lz own_R1.cells own_R1.slots) := by
  refine MetFree.of_bodySF (plainFor_of_name own_pn1) hisR ?_
  intro p e s m args below meth c s₁ Bd hml0 hP hK
  obtain ⟨rfl, hZ, hh⟩ := hP
  have hx := Bd.exec
  have hby := Bd.bytes
  have hml : c.maxLocals = 5 := hml0
  have hown : s.vm.findClass "com/example/evotempo/evotempo/problem/LinearFunctionFitnessAfterFlipsPinLaw" = some m.cls := findClass_of_methodNamed Bd.named
  have hnm := (name_of_methodNamed Bd.named Bd.method).1
  have X0 : Stand p l e own_R1 s m #[(.int p0), (.int p1), (.int p2), (.int p3), (.int p4)] below meth c s₁ [] 0 0 := Stand.of_body Bd
  have e0 : s₁.heap = h0 := by rw [← hh, Bd.state]; rfl
  show own_End p e below s (fun vz h Lz => vz = some (.int (own_F1 p0 p1 p2 p3 p4)) ∧ Lz = [] ∧ h = h0) own_R1.cells own_R1.slots s₁ (entryFrame m #[(.int p0), (.int p1), (.int p2), (.int p3), (.int p4)] 5)
  refine own_End.go (fun t k => castTop (own_ef1 m p0 p1 p2 p3 p4) k) ?_
  show own_End p e below s _ _ _ s₁ (mkF m 0 #[.val (.int p0), .val (.int p1), .val (.int p2), .val (.int p3), .val (.int p4)] [])
  have st1 : ∀ t, Steps p.tables e below (s₁.setTop (mkF m 2 #[.val (.int p0), .val (.int p1), .val (.int p2), .val (.int p3), .val (.int p4)] [(.int p4)])) t → Steps p.tables e below (s₁.setTop (mkF m 0 #[.val (.int p0), .val (.int p1), .val (.int p2), .val (.int p3), .val (.int p4)] [])) t := by
    intro t k
    show Steps p.tables e below (s₁.setTop (mkF m 0 #[.val (.int p0), .val (.int p1), .val (.int p2), .val (.int p3), .val (.int p4)] [])) _
    refine XS.iload X0.here hx rfl (hb hby own_d1_0) rfl ?_
    exact k
  refine own_End.go (fun t k => st1 _ k) ?_
  by_cases hc2_2 : (0 : Int32) < p4
  · have st3 : ∀ t, Steps p.tables e below (s₁.setTop (mkF m 7 #[.val (.int p0), .val (.int p1), .val (.int p2), .val (.int p3), .val (.int p4)] [(.int p0), (.int p1)])) t → Steps p.tables e below (s₁.setTop (mkF m 2 #[.val (.int p0), .val (.int p1), .val (.int p2), .val (.int p3), .val (.int p4)] [(.int p4)])) t := by
      intro t k
      show Steps p.tables e below (s₁.setTop (mkF m 2 #[.val (.int p0), .val (.int p1), .val (.int p2), .val (.int p3), .val (.int p4)] [(.int p4)])) _
      refine XS.ifNo X0.here hx rfl (hb hby own_d1_2) rfl ((if0 _ _).trans (tlt hc2_2).2.2.2) ?_
      show Steps p.tables e below (s₁.setTop (mkF m 5 #[.val (.int p0), .val (.int p1), .val (.int p2), .val (.int p3), .val (.int p4)] [])) _
      refine XS.iloadN X0.here hx rfl (hb hby own_d1_5) rfl ?_
      show Steps p.tables e below (s₁.setTop (mkF m 6 #[.val (.int p0), .val (.int p1), .val (.int p2), .val (.int p3), .val (.int p4)] [(.int p1)])) _
      refine XS.iloadN X0.here hx rfl (hb hby own_d1_6) rfl ?_
      exact k
    refine own_End.go (fun t k => st3 _ k) ?_
    by_cases hc7_4 : p1 = p0
    · have st5 : ∀ t, Steps p.tables e below (s₁.setTop (mkF m 37 #[.val (.int p0), .val (.int p1), .val (.int p2), .val (.int p3), .val (.int p4)] [(.int (1 : Int32))])) t → Steps p.tables e below (s₁.setTop (mkF m 7 #[.val (.int p0), .val (.int p1), .val (.int p2), .val (.int p3), .val (.int p4)] [(.int p0), (.int p1)])) t := by
        intro t k
        show Steps p.tables e below (s₁.setTop (mkF m 7 #[.val (.int p0), .val (.int p1), .val (.int p2), .val (.int p3), .val (.int p4)] [(.int p0), (.int p1)])) _
        refine XS.icmpYes X0.here hx rfl (pc0 := 7) (pc' := 32) rfl (hb hby own_d1_7) rfl (teq hc7_4).1 (by decide) (by decide) ?_
        show Steps p.tables e below (s₁.setTop (mkF m 32 #[.val (.int p0), .val (.int p1), .val (.int p2), .val (.int p3), .val (.int p4)] [])) _
        refine XS.iconst X0.here hx rfl (hb hby own_d1_32) ?_
        show Steps p.tables e below (s₁.setTop (mkF m 33 #[.val (.int p0), .val (.int p1), .val (.int p2), .val (.int p3), .val (.int p4)] [(.int (1 : Int32))])) _
        refine XS.goto X0.here hx rfl (pc0 := 33) (pc' := 37) rfl (hb hby own_d1_33) (by decide) (by decide) ?_
        exact k
      refine own_End.go (fun t k => st5 _ k) ?_
      exact own_leafN X0 hx Bd.notSynchronized (t := .boolean) Bd.returns (by simp) (hb hby own_d1_37) ⟨congrArg (fun z => some (Value.int z)) (own_e1_6 hc2_2 hc7_4), rfl, e0⟩ (by decide) (by decide)
    · have st7 : ∀ t, Steps p.tables e below (s₁.setTop (mkF m 13 #[.val (.int p0), .val (.int p1), .val (.int p2), .val (.int p3), .val (.int p4)] [(.int (1 : Int32)), (.int p4)])) t → Steps p.tables e below (s₁.setTop (mkF m 7 #[.val (.int p0), .val (.int p1), .val (.int p2), .val (.int p3), .val (.int p4)] [(.int p0), (.int p1)])) t := by
        intro t k
        show Steps p.tables e below (s₁.setTop (mkF m 7 #[.val (.int p0), .val (.int p1), .val (.int p2), .val (.int p3), .val (.int p4)] [(.int p0), (.int p1)])) _
        refine XS.icmpNo X0.here hx rfl (hb hby own_d1_7) rfl (feq hc7_4).1 ?_
        show Steps p.tables e below (s₁.setTop (mkF m 10 #[.val (.int p0), .val (.int p1), .val (.int p2), .val (.int p3), .val (.int p4)] [])) _
        refine XS.iload X0.here hx rfl (hb hby own_d1_10) rfl ?_
        show Steps p.tables e below (s₁.setTop (mkF m 12 #[.val (.int p0), .val (.int p1), .val (.int p2), .val (.int p3), .val (.int p4)] [(.int p4)])) _
        refine XS.iconst X0.here hx rfl (hb hby own_d1_12) ?_
        exact k
      refine own_End.go (fun t k => st7 _ k) ?_
      by_cases hc13_8 : (1 : Int32) < p4
      · have st9 : ∀ t, Steps p.tables e below (s₁.setTop (mkF m 18 #[.val (.int p0), .val (.int p1), .val (.int p2), .val (.int p3), .val (.int p4)] [(.int p0), (.int p2)])) t → Steps p.tables e below (s₁.setTop (mkF m 13 #[.val (.int p0), .val (.int p1), .val (.int p2), .val (.int p3), .val (.int p4)] [(.int (1 : Int32)), (.int p4)])) t := by
          intro t k
          show Steps p.tables e below (s₁.setTop (mkF m 13 #[.val (.int p0), .val (.int p1), .val (.int p2), .val (.int p3), .val (.int p4)] [(.int (1 : Int32)), (.int p4)])) _
          refine XS.icmpNo X0.here hx rfl (hb hby own_d1_13) rfl (tlt hc13_8).2.2.2 ?_
          show Steps p.tables e below (s₁.setTop (mkF m 16 #[.val (.int p0), .val (.int p1), .val (.int p2), .val (.int p3), .val (.int p4)] [])) _
          refine XS.iloadN X0.here hx rfl (hb hby own_d1_16) rfl ?_
          show Steps p.tables e below (s₁.setTop (mkF m 17 #[.val (.int p0), .val (.int p1), .val (.int p2), .val (.int p3), .val (.int p4)] [(.int p2)])) _
          refine XS.iloadN X0.here hx rfl (hb hby own_d1_17) rfl ?_
          exact k
        refine own_End.go (fun t k => st9 _ k) ?_
        by_cases hc18_10 : p2 = p0
        · have st11 : ∀ t, Steps p.tables e below (s₁.setTop (mkF m 37 #[.val (.int p0), .val (.int p1), .val (.int p2), .val (.int p3), .val (.int p4)] [(.int (1 : Int32))])) t → Steps p.tables e below (s₁.setTop (mkF m 18 #[.val (.int p0), .val (.int p1), .val (.int p2), .val (.int p3), .val (.int p4)] [(.int p0), (.int p2)])) t := by
            intro t k
            show Steps p.tables e below (s₁.setTop (mkF m 18 #[.val (.int p0), .val (.int p1), .val (.int p2), .val (.int p3), .val (.int p4)] [(.int p0), (.int p2)])) _
            refine XS.icmpYes X0.here hx rfl (pc0 := 18) (pc' := 32) rfl (hb hby own_d1_18) rfl (teq hc18_10).1 (by decide) (by decide) ?_
            show Steps p.tables e below (s₁.setTop (mkF m 32 #[.val (.int p0), .val (.int p1), .val (.int p2), .val (.int p3), .val (.int p4)] [])) _
            refine XS.iconst X0.here hx rfl (hb hby own_d1_32) ?_
            show Steps p.tables e below (s₁.setTop (mkF m 33 #[.val (.int p0), .val (.int p1), .val (.int p2), .val (.int p3), .val (.int p4)] [(.int (1 : Int32))])) _
            refine XS.goto X0.here hx rfl (pc0 := 33) (pc' := 37) rfl (hb hby own_d1_33) (by decide) (by decide) ?_
            exact k
          refine own_End.go (fun t k => st11 _ k) ?_
          exact own_leafN X0 hx Bd.notSynchronized (t := .boolean) Bd.returns (by simp) (hb hby own_d1_37) ⟨congrArg (fun z => some (Value.int z)) (own_e1_12 hc2_2 hc7_4 hc13_8 hc18_10), rfl, e0⟩ (by decide) (by decide)
        · have st13 : ∀ t, Steps p.tables e below (s₁.setTop (mkF m 24 #[.val (.int p0), .val (.int p1), .val (.int p2), .val (.int p3), .val (.int p4)] [(.int (2 : Int32)), (.int p4)])) t → Steps p.tables e below (s₁.setTop (mkF m 18 #[.val (.int p0), .val (.int p1), .val (.int p2), .val (.int p3), .val (.int p4)] [(.int p0), (.int p2)])) t := by
            intro t k
            show Steps p.tables e below (s₁.setTop (mkF m 18 #[.val (.int p0), .val (.int p1), .val (.int p2), .val (.int p3), .val (.int p4)] [(.int p0), (.int p2)])) _
            refine XS.icmpNo X0.here hx rfl (hb hby own_d1_18) rfl (feq hc18_10).1 ?_
            show Steps p.tables e below (s₁.setTop (mkF m 21 #[.val (.int p0), .val (.int p1), .val (.int p2), .val (.int p3), .val (.int p4)] [])) _
            refine XS.iload X0.here hx rfl (hb hby own_d1_21) rfl ?_
            show Steps p.tables e below (s₁.setTop (mkF m 23 #[.val (.int p0), .val (.int p1), .val (.int p2), .val (.int p3), .val (.int p4)] [(.int p4)])) _
            refine XS.iconst X0.here hx rfl (hb hby own_d1_23) ?_
            exact k
          refine own_End.go (fun t k => st13 _ k) ?_
          by_cases hc24_14 : (2 : Int32) < p4
          · have st15 : ∀ t, Steps p.tables e below (s₁.setTop (mkF m 29 #[.val (.int p0), .val (.int p1), .val (.int p2), .val (.int p3), .val (.int p4)] [(.int p0), (.int p3)])) t → Steps p.tables e below (s₁.setTop (mkF m 24 #[.val (.int p0), .val (.int p1), .val (.int p2), .val (.int p3), .val (.int p4)] [(.int (2 : Int32)), (.int p4)])) t := by
              intro t k
              show Steps p.tables e below (s₁.setTop (mkF m 24 #[.val (.int p0), .val (.int p1), .val (.int p2), .val (.int p3), .val (.int p4)] [(.int (2 : Int32)), (.int p4)])) _
              refine XS.icmpNo X0.here hx rfl (hb hby own_d1_24) rfl (tlt hc24_14).2.2.2 ?_
              show Steps p.tables e below (s₁.setTop (mkF m 27 #[.val (.int p0), .val (.int p1), .val (.int p2), .val (.int p3), .val (.int p4)] [])) _
              refine XS.iloadN X0.here hx rfl (hb hby own_d1_27) rfl ?_
              show Steps p.tables e below (s₁.setTop (mkF m 28 #[.val (.int p0), .val (.int p1), .val (.int p2), .val (.int p3), .val (.int p4)] [(.int p3)])) _
              refine XS.iloadN X0.here hx rfl (hb hby own_d1_28) rfl ?_
              exact k
            refine own_End.go (fun t k => st15 _ k) ?_
            by_cases hc29_16 : p3 = p0
            · have st17 : ∀ t, Steps p.tables e below (s₁.setTop (mkF m 37 #[.val (.int p0), .val (.int p1), .val (.int p2), .val (.int p3), .val (.int p4)] [(.int (1 : Int32))])) t → Steps p.tables e below (s₁.setTop (mkF m 29 #[.val (.int p0), .val (.int p1), .val (.int p2), .val (.int p3), .val (.int p4)] [(.int p0), (.int p3)])) t := by
                intro t k
                show Steps p.tables e below (s₁.setTop (mkF m 29 #[.val (.int p0), .val (.int p1), .val (.int p2), .val (.int p3), .val (.int p4)] [(.int p0), (.int p3)])) _
                refine XS.icmpNo X0.here hx rfl (hb hby own_d1_29) rfl (teq hc29_16).2 ?_
                show Steps p.tables e below (s₁.setTop (mkF m 32 #[.val (.int p0), .val (.int p1), .val (.int p2), .val (.int p3), .val (.int p4)] [])) _
                refine XS.iconst X0.here hx rfl (hb hby own_d1_32) ?_
                show Steps p.tables e below (s₁.setTop (mkF m 33 #[.val (.int p0), .val (.int p1), .val (.int p2), .val (.int p3), .val (.int p4)] [(.int (1 : Int32))])) _
                refine XS.goto X0.here hx rfl (pc0 := 33) (pc' := 37) rfl (hb hby own_d1_33) (by decide) (by decide) ?_
                exact k
              refine own_End.go (fun t k => st17 _ k) ?_
              exact own_leafN X0 hx Bd.notSynchronized (t := .boolean) Bd.returns (by simp) (hb hby own_d1_37) ⟨congrArg (fun z => some (Value.int z)) (own_e1_18 hc2_2 hc7_4 hc13_8 hc18_10 hc24_14 hc29_16), rfl, e0⟩ (by decide) (by decide)
            · have st19 : ∀ t, Steps p.tables e below (s₁.setTop (mkF m 37 #[.val (.int p0), .val (.int p1), .val (.int p2), .val (.int p3), .val (.int p4)] [(.int (0 : Int32))])) t → Steps p.tables e below (s₁.setTop (mkF m 29 #[.val (.int p0), .val (.int p1), .val (.int p2), .val (.int p3), .val (.int p4)] [(.int p0), (.int p3)])) t := by
                intro t k
                show Steps p.tables e below (s₁.setTop (mkF m 29 #[.val (.int p0), .val (.int p1), .val (.int p2), .val (.int p3), .val (.int p4)] [(.int p0), (.int p3)])) _
                refine XS.icmpYes X0.here hx rfl (pc0 := 29) (pc' := 36) rfl (hb hby own_d1_29) rfl (feq hc29_16).2 (by decide) (by decide) ?_
                show Steps p.tables e below (s₁.setTop (mkF m 36 #[.val (.int p0), .val (.int p1), .val (.int p2), .val (.int p3), .val (.int p4)] [])) _
                refine XS.iconst X0.here hx rfl (hb hby own_d1_36) ?_
                exact k
              refine own_End.go (fun t k => st19 _ k) ?_
              exact own_leafN X0 hx Bd.notSynchronized (t := .boolean) Bd.returns (by simp) (hb hby own_d1_37) ⟨congrArg (fun z => some (Value.int z)) (own_e1_20 hc2_2 hc7_4 hc13_8 hc18_10 hc24_14 hc29_16), rfl, e0⟩ (by decide) (by decide)
          · have st21 : ∀ t, Steps p.tables e below (s₁.setTop (mkF m 37 #[.val (.int p0), .val (.int p1), .val (.int p2), .val (.int p3), .val (.int p4)] [(.int (0 : Int32))])) t → Steps p.tables e below (s₁.setTop (mkF m 24 #[.val (.int p0), .val (.int p1), .val (.int p2), .val (.int p3), .val (.int p4)] [(.int (2 : Int32)), (.int p4)])) t := by
              intro t k
              show Steps p.tables e below (s₁.setTop (mkF m 24 #[.val (.int p0), .val (.int p1), .val (.int p2), .val (.int p3), .val (.int p4)] [(.int (2 : Int32)), (.int p4)])) _
              refine XS.icmpYes X0.here hx rfl (pc0 := 24) (pc' := 36) rfl (hb hby own_d1_24) rfl (flt hc24_14).2.2.2 (by decide) (by decide) ?_
              show Steps p.tables e below (s₁.setTop (mkF m 36 #[.val (.int p0), .val (.int p1), .val (.int p2), .val (.int p3), .val (.int p4)] [])) _
              refine XS.iconst X0.here hx rfl (hb hby own_d1_36) ?_
              exact k
            refine own_End.go (fun t k => st21 _ k) ?_
            exact own_leafN X0 hx Bd.notSynchronized (t := .boolean) Bd.returns (by simp) (hb hby own_d1_37) ⟨congrArg (fun z => some (Value.int z)) (own_e1_22 hc2_2 hc7_4 hc13_8 hc18_10 hc24_14), rfl, e0⟩ (by decide) (by decide)
      · have st23 : ∀ t, Steps p.tables e below (s₁.setTop (mkF m 24 #[.val (.int p0), .val (.int p1), .val (.int p2), .val (.int p3), .val (.int p4)] [(.int (2 : Int32)), (.int p4)])) t → Steps p.tables e below (s₁.setTop (mkF m 13 #[.val (.int p0), .val (.int p1), .val (.int p2), .val (.int p3), .val (.int p4)] [(.int (1 : Int32)), (.int p4)])) t := by
          intro t k
          show Steps p.tables e below (s₁.setTop (mkF m 13 #[.val (.int p0), .val (.int p1), .val (.int p2), .val (.int p3), .val (.int p4)] [(.int (1 : Int32)), (.int p4)])) _
          refine XS.icmpYes X0.here hx rfl (pc0 := 13) (pc' := 21) rfl (hb hby own_d1_13) rfl (flt hc13_8).2.2.2 (by decide) (by decide) ?_
          show Steps p.tables e below (s₁.setTop (mkF m 21 #[.val (.int p0), .val (.int p1), .val (.int p2), .val (.int p3), .val (.int p4)] [])) _
          refine XS.iload X0.here hx rfl (hb hby own_d1_21) rfl ?_
          show Steps p.tables e below (s₁.setTop (mkF m 23 #[.val (.int p0), .val (.int p1), .val (.int p2), .val (.int p3), .val (.int p4)] [(.int p4)])) _
          refine XS.iconst X0.here hx rfl (hb hby own_d1_23) ?_
          exact k
        refine own_End.go (fun t k => st23 _ k) ?_
        by_cases hc24_24 : (2 : Int32) < p4
        · have st25 : ∀ t, Steps p.tables e below (s₁.setTop (mkF m 29 #[.val (.int p0), .val (.int p1), .val (.int p2), .val (.int p3), .val (.int p4)] [(.int p0), (.int p3)])) t → Steps p.tables e below (s₁.setTop (mkF m 24 #[.val (.int p0), .val (.int p1), .val (.int p2), .val (.int p3), .val (.int p4)] [(.int (2 : Int32)), (.int p4)])) t := by
            intro t k
            show Steps p.tables e below (s₁.setTop (mkF m 24 #[.val (.int p0), .val (.int p1), .val (.int p2), .val (.int p3), .val (.int p4)] [(.int (2 : Int32)), (.int p4)])) _
            refine XS.icmpNo X0.here hx rfl (hb hby own_d1_24) rfl (tlt hc24_24).2.2.2 ?_
            show Steps p.tables e below (s₁.setTop (mkF m 27 #[.val (.int p0), .val (.int p1), .val (.int p2), .val (.int p3), .val (.int p4)] [])) _
            refine XS.iloadN X0.here hx rfl (hb hby own_d1_27) rfl ?_
            show Steps p.tables e below (s₁.setTop (mkF m 28 #[.val (.int p0), .val (.int p1), .val (.int p2), .val (.int p3), .val (.int p4)] [(.int p3)])) _
            refine XS.iloadN X0.here hx rfl (hb hby own_d1_28) rfl ?_
            exact k
          refine own_End.go (fun t k => st25 _ k) ?_
          by_cases hc29_26 : p3 = p0
          · have st27 : ∀ t, Steps p.tables e below (s₁.setTop (mkF m 37 #[.val (.int p0), .val (.int p1), .val (.int p2), .val (.int p3), .val (.int p4)] [(.int (1 : Int32))])) t → Steps p.tables e below (s₁.setTop (mkF m 29 #[.val (.int p0), .val (.int p1), .val (.int p2), .val (.int p3), .val (.int p4)] [(.int p0), (.int p3)])) t := by
              intro t k
              show Steps p.tables e below (s₁.setTop (mkF m 29 #[.val (.int p0), .val (.int p1), .val (.int p2), .val (.int p3), .val (.int p4)] [(.int p0), (.int p3)])) _
              refine XS.icmpNo X0.here hx rfl (hb hby own_d1_29) rfl (teq hc29_26).2 ?_
              show Steps p.tables e below (s₁.setTop (mkF m 32 #[.val (.int p0), .val (.int p1), .val (.int p2), .val (.int p3), .val (.int p4)] [])) _
              refine XS.iconst X0.here hx rfl (hb hby own_d1_32) ?_
              show Steps p.tables e below (s₁.setTop (mkF m 33 #[.val (.int p0), .val (.int p1), .val (.int p2), .val (.int p3), .val (.int p4)] [(.int (1 : Int32))])) _
              refine XS.goto X0.here hx rfl (pc0 := 33) (pc' := 37) rfl (hb hby own_d1_33) (by decide) (by decide) ?_
              exact k
            refine own_End.go (fun t k => st27 _ k) ?_
            exact own_leafN X0 hx Bd.notSynchronized (t := .boolean) Bd.returns (by simp) (hb hby own_d1_37) ⟨congrArg (fun z => some (Value.int z)) (own_e1_28 hc2_2 hc7_4 hc13_8 hc24_24 hc29_26), rfl, e0⟩ (by decide) (by decide)
          · have st29 : ∀ t, Steps p.tables e below (s₁.setTop (mkF m 37 #[.val (.int p0), .val (.int p1), .val (.int p2), .val (.int p3), .val (.int p4)] [(.int (0 : Int32))])) t → Steps p.tables e below (s₁.setTop (mkF m 29 #[.val (.int p0), .val (.int p1), .val (.int p2), .val (.int p3), .val (.int p4)] [(.int p0), (.int p3)])) t := by
              intro t k
              show Steps p.tables e below (s₁.setTop (mkF m 29 #[.val (.int p0), .val (.int p1), .val (.int p2), .val (.int p3), .val (.int p4)] [(.int p0), (.int p3)])) _
              refine XS.icmpYes X0.here hx rfl (pc0 := 29) (pc' := 36) rfl (hb hby own_d1_29) rfl (feq hc29_26).2 (by decide) (by decide) ?_
              show Steps p.tables e below (s₁.setTop (mkF m 36 #[.val (.int p0), .val (.int p1), .val (.int p2), .val (.int p3), .val (.int p4)] [])) _
              refine XS.iconst X0.here hx rfl (hb hby own_d1_36) ?_
              exact k
            refine own_End.go (fun t k => st29 _ k) ?_
            exact own_leafN X0 hx Bd.notSynchronized (t := .boolean) Bd.returns (by simp) (hb hby own_d1_37) ⟨congrArg (fun z => some (Value.int z)) (own_e1_30 hc2_2 hc7_4 hc13_8 hc24_24 hc29_26), rfl, e0⟩ (by decide) (by decide)
        · have st31 : ∀ t, Steps p.tables e below (s₁.setTop (mkF m 37 #[.val (.int p0), .val (.int p1), .val (.int p2), .val (.int p3), .val (.int p4)] [(.int (0 : Int32))])) t → Steps p.tables e below (s₁.setTop (mkF m 24 #[.val (.int p0), .val (.int p1), .val (.int p2), .val (.int p3), .val (.int p4)] [(.int (2 : Int32)), (.int p4)])) t := by
            intro t k
            show Steps p.tables e below (s₁.setTop (mkF m 24 #[.val (.int p0), .val (.int p1), .val (.int p2), .val (.int p3), .val (.int p4)] [(.int (2 : Int32)), (.int p4)])) _
            refine XS.icmpYes X0.here hx rfl (pc0 := 24) (pc' := 36) rfl (hb hby own_d1_24) rfl (flt hc24_24).2.2.2 (by decide) (by decide) ?_
            show Steps p.tables e below (s₁.setTop (mkF m 36 #[.val (.int p0), .val (.int p1), .val (.int p2), .val (.int p3), .val (.int p4)] [])) _
            refine XS.iconst X0.here hx rfl (hb hby own_d1_36) ?_
            exact k
          refine own_End.go (fun t k => st31 _ k) ?_
          exact own_leafN X0 hx Bd.notSynchronized (t := .boolean) Bd.returns (by simp) (hb hby own_d1_37) ⟨congrArg (fun z => some (Value.int z)) (own_e1_32 hc2_2 hc7_4 hc13_8 hc24_24), rfl, e0⟩ (by decide) (by decide)
  · have st33 : ∀ t, Steps p.tables e below (s₁.setTop (mkF m 13 #[.val (.int p0), .val (.int p1), .val (.int p2), .val (.int p3), .val (.int p4)] [(.int (1 : Int32)), (.int p4)])) t → Steps p.tables e below (s₁.setTop (mkF m 2 #[.val (.int p0), .val (.int p1), .val (.int p2), .val (.int p3), .val (.int p4)] [(.int p4)])) t := by
      intro t k
      show Steps p.tables e below (s₁.setTop (mkF m 2 #[.val (.int p0), .val (.int p1), .val (.int p2), .val (.int p3), .val (.int p4)] [(.int p4)])) _
      refine XS.ifYes X0.here hx rfl (pc0 := 2) (pc' := 10) rfl (hb hby own_d1_2) rfl ((if0 _ _).trans (flt hc2_2).2.2.2) (by decide) (by decide) ?_
      show Steps p.tables e below (s₁.setTop (mkF m 10 #[.val (.int p0), .val (.int p1), .val (.int p2), .val (.int p3), .val (.int p4)] [])) _
      refine XS.iload X0.here hx rfl (hb hby own_d1_10) rfl ?_
      show Steps p.tables e below (s₁.setTop (mkF m 12 #[.val (.int p0), .val (.int p1), .val (.int p2), .val (.int p3), .val (.int p4)] [(.int p4)])) _
      refine XS.iconst X0.here hx rfl (hb hby own_d1_12) ?_
      exact k
    refine own_End.go (fun t k => st33 _ k) ?_
    by_cases hc13_34 : (1 : Int32) < p4
    · have st35 : ∀ t, Steps p.tables e below (s₁.setTop (mkF m 18 #[.val (.int p0), .val (.int p1), .val (.int p2), .val (.int p3), .val (.int p4)] [(.int p0), (.int p2)])) t → Steps p.tables e below (s₁.setTop (mkF m 13 #[.val (.int p0), .val (.int p1), .val (.int p2), .val (.int p3), .val (.int p4)] [(.int (1 : Int32)), (.int p4)])) t := by
        intro t k
        show Steps p.tables e below (s₁.setTop (mkF m 13 #[.val (.int p0), .val (.int p1), .val (.int p2), .val (.int p3), .val (.int p4)] [(.int (1 : Int32)), (.int p4)])) _
        refine XS.icmpNo X0.here hx rfl (hb hby own_d1_13) rfl (tlt hc13_34).2.2.2 ?_
        show Steps p.tables e below (s₁.setTop (mkF m 16 #[.val (.int p0), .val (.int p1), .val (.int p2), .val (.int p3), .val (.int p4)] [])) _
        refine XS.iloadN X0.here hx rfl (hb hby own_d1_16) rfl ?_
        show Steps p.tables e below (s₁.setTop (mkF m 17 #[.val (.int p0), .val (.int p1), .val (.int p2), .val (.int p3), .val (.int p4)] [(.int p2)])) _
        refine XS.iloadN X0.here hx rfl (hb hby own_d1_17) rfl ?_
        exact k
      refine own_End.go (fun t k => st35 _ k) ?_
      by_cases hc18_36 : p2 = p0
      · have st37 : ∀ t, Steps p.tables e below (s₁.setTop (mkF m 37 #[.val (.int p0), .val (.int p1), .val (.int p2), .val (.int p3), .val (.int p4)] [(.int (1 : Int32))])) t → Steps p.tables e below (s₁.setTop (mkF m 18 #[.val (.int p0), .val (.int p1), .val (.int p2), .val (.int p3), .val (.int p4)] [(.int p0), (.int p2)])) t := by
          intro t k
          show Steps p.tables e below (s₁.setTop (mkF m 18 #[.val (.int p0), .val (.int p1), .val (.int p2), .val (.int p3), .val (.int p4)] [(.int p0), (.int p2)])) _
          refine XS.icmpYes X0.here hx rfl (pc0 := 18) (pc' := 32) rfl (hb hby own_d1_18) rfl (teq hc18_36).1 (by decide) (by decide) ?_
          show Steps p.tables e below (s₁.setTop (mkF m 32 #[.val (.int p0), .val (.int p1), .val (.int p2), .val (.int p3), .val (.int p4)] [])) _
          refine XS.iconst X0.here hx rfl (hb hby own_d1_32) ?_
          show Steps p.tables e below (s₁.setTop (mkF m 33 #[.val (.int p0), .val (.int p1), .val (.int p2), .val (.int p3), .val (.int p4)] [(.int (1 : Int32))])) _
          refine XS.goto X0.here hx rfl (pc0 := 33) (pc' := 37) rfl (hb hby own_d1_33) (by decide) (by decide) ?_
          exact k
        refine own_End.go (fun t k => st37 _ k) ?_
        exact own_leafN X0 hx Bd.notSynchronized (t := .boolean) Bd.returns (by simp) (hb hby own_d1_37) ⟨congrArg (fun z => some (Value.int z)) (own_e1_38 hc2_2 hc13_34 hc18_36), rfl, e0⟩ (by decide) (by decide)
      · have st39 : ∀ t, Steps p.tables e below (s₁.setTop (mkF m 24 #[.val (.int p0), .val (.int p1), .val (.int p2), .val (.int p3), .val (.int p4)] [(.int (2 : Int32)), (.int p4)])) t → Steps p.tables e below (s₁.setTop (mkF m 18 #[.val (.int p0), .val (.int p1), .val (.int p2), .val (.int p3), .val (.int p4)] [(.int p0), (.int p2)])) t := by
          intro t k
          show Steps p.tables e below (s₁.setTop (mkF m 18 #[.val (.int p0), .val (.int p1), .val (.int p2), .val (.int p3), .val (.int p4)] [(.int p0), (.int p2)])) _
          refine XS.icmpNo X0.here hx rfl (hb hby own_d1_18) rfl (feq hc18_36).1 ?_
          show Steps p.tables e below (s₁.setTop (mkF m 21 #[.val (.int p0), .val (.int p1), .val (.int p2), .val (.int p3), .val (.int p4)] [])) _
          refine XS.iload X0.here hx rfl (hb hby own_d1_21) rfl ?_
          show Steps p.tables e below (s₁.setTop (mkF m 23 #[.val (.int p0), .val (.int p1), .val (.int p2), .val (.int p3), .val (.int p4)] [(.int p4)])) _
          refine XS.iconst X0.here hx rfl (hb hby own_d1_23) ?_
          exact k
        refine own_End.go (fun t k => st39 _ k) ?_
        by_cases hc24_40 : (2 : Int32) < p4
        · have st41 : ∀ t, Steps p.tables e below (s₁.setTop (mkF m 29 #[.val (.int p0), .val (.int p1), .val (.int p2), .val (.int p3), .val (.int p4)] [(.int p0), (.int p3)])) t → Steps p.tables e below (s₁.setTop (mkF m 24 #[.val (.int p0), .val (.int p1), .val (.int p2), .val (.int p3), .val (.int p4)] [(.int (2 : Int32)), (.int p4)])) t := by
            intro t k
            show Steps p.tables e below (s₁.setTop (mkF m 24 #[.val (.int p0), .val (.int p1), .val (.int p2), .val (.int p3), .val (.int p4)] [(.int (2 : Int32)), (.int p4)])) _
            refine XS.icmpNo X0.here hx rfl (hb hby own_d1_24) rfl (tlt hc24_40).2.2.2 ?_
            show Steps p.tables e below (s₁.setTop (mkF m 27 #[.val (.int p0), .val (.int p1), .val (.int p2), .val (.int p3), .val (.int p4)] [])) _
            refine XS.iloadN X0.here hx rfl (hb hby own_d1_27) rfl ?_
            show Steps p.tables e below (s₁.setTop (mkF m 28 #[.val (.int p0), .val (.int p1), .val (.int p2), .val (.int p3), .val (.int p4)] [(.int p3)])) _
            refine XS.iloadN X0.here hx rfl (hb hby own_d1_28) rfl ?_
            exact k
          refine own_End.go (fun t k => st41 _ k) ?_
          by_cases hc29_42 : p3 = p0
          · have st43 : ∀ t, Steps p.tables e below (s₁.setTop (mkF m 37 #[.val (.int p0), .val (.int p1), .val (.int p2), .val (.int p3), .val (.int p4)] [(.int (1 : Int32))])) t → Steps p.tables e below (s₁.setTop (mkF m 29 #[.val (.int p0), .val (.int p1), .val (.int p2), .val (.int p3), .val (.int p4)] [(.int p0), (.int p3)])) t := by
              intro t k
              show Steps p.tables e below (s₁.setTop (mkF m 29 #[.val (.int p0), .val (.int p1), .val (.int p2), .val (.int p3), .val (.int p4)] [(.int p0), (.int p3)])) _
              refine XS.icmpNo X0.here hx rfl (hb hby own_d1_29) rfl (teq hc29_42).2 ?_
              show Steps p.tables e below (s₁.setTop (mkF m 32 #[.val (.int p0), .val (.int p1), .val (.int p2), .val (.int p3), .val (.int p4)] [])) _
              refine XS.iconst X0.here hx rfl (hb hby own_d1_32) ?_
              show Steps p.tables e below (s₁.setTop (mkF m 33 #[.val (.int p0), .val (.int p1), .val (.int p2), .val (.int p3), .val (.int p4)] [(.int (1 : Int32))])) _
              refine XS.goto X0.here hx rfl (pc0 := 33) (pc' := 37) rfl (hb hby own_d1_33) (by decide) (by decide) ?_
              exact k
            refine own_End.go (fun t k => st43 _ k) ?_
            exact own_leafN X0 hx Bd.notSynchronized (t := .boolean) Bd.returns (by simp) (hb hby own_d1_37) ⟨congrArg (fun z => some (Value.int z)) (own_e1_44 hc2_2 hc13_34 hc18_36 hc24_40 hc29_42), rfl, e0⟩ (by decide) (by decide)
          · have st45 : ∀ t, Steps p.tables e below (s₁.setTop (mkF m 37 #[.val (.int p0), .val (.int p1), .val (.int p2), .val (.int p3), .val (.int p4)] [(.int (0 : Int32))])) t → Steps p.tables e below (s₁.setTop (mkF m 29 #[.val (.int p0), .val (.int p1), .val (.int p2), .val (.int p3), .val (.int p4)] [(.int p0), (.int p3)])) t := by
              intro t k
              show Steps p.tables e below (s₁.setTop (mkF m 29 #[.val (.int p0), .val (.int p1), .val (.int p2), .val (.int p3), .val (.int p4)] [(.int p0), (.int p3)])) _
              refine XS.icmpYes X0.here hx rfl (pc0 := 29) (pc' := 36) rfl (hb hby own_d1_29) rfl (feq hc29_42).2 (by decide) (by decide) ?_
              show Steps p.tables e below (s₁.setTop (mkF m 36 #[.val (.int p0), .val (.int p1), .val (.int p2), .val (.int p3), .val (.int p4)] [])) _
              refine XS.iconst X0.here hx rfl (hb hby own_d1_36) ?_
              exact k
            refine own_End.go (fun t k => st45 _ k) ?_
            exact own_leafN X0 hx Bd.notSynchronized (t := .boolean) Bd.returns (by simp) (hb hby own_d1_37) ⟨congrArg (fun z => some (Value.int z)) (own_e1_46 hc2_2 hc13_34 hc18_36 hc24_40 hc29_42), rfl, e0⟩ (by decide) (by decide)
        · have st47 : ∀ t, Steps p.tables e below (s₁.setTop (mkF m 37 #[.val (.int p0), .val (.int p1), .val (.int p2), .val (.int p3), .val (.int p4)] [(.int (0 : Int32))])) t → Steps p.tables e below (s₁.setTop (mkF m 24 #[.val (.int p0), .val (.int p1), .val (.int p2), .val (.int p3), .val (.int p4)] [(.int (2 : Int32)), (.int p4)])) t := by
            intro t k
            show Steps p.tables e below (s₁.setTop (mkF m 24 #[.val (.int p0), .val (.int p1), .val (.int p2), .val (.int p3), .val (.int p4)] [(.int (2 : Int32)), (.int p4)])) _
            refine XS.icmpYes X0.here hx rfl (pc0 := 24) (pc' := 36) rfl (hb hby own_d1_24) rfl (flt hc24_40).2.2.2 (by decide) (by decide) ?_
            show Steps p.tables e below (s₁.setTop (mkF m 36 #[.val (.int p0), .val (.int p1), .val (.int p2), .val (.int p3), .val (.int p4)] [])) _
            refine XS.iconst X0.here hx rfl (hb hby own_d1_36) ?_
            exact k
          refine own_End.go (fun t k => st47 _ k) ?_
          exact own_leafN X0 hx Bd.notSynchronized (t := .boolean) Bd.returns (by simp) (hb hby own_d1_37) ⟨congrArg (fun z => some (Value.int z)) (own_e1_48 hc2_2 hc13_34 hc18_36 hc24_40), rfl, e0⟩ (by decide) (by decide)
    · have st49 : ∀ t, Steps p.tables e below (s₁.setTop (mkF m 24 #[.val (.int p0), .val (.int p1), .val (.int p2), .val (.int p3), .val (.int p4)] [(.int (2 : Int32)), (.int p4)])) t → Steps p.tables e below (s₁.setTop (mkF m 13 #[.val (.int p0), .val (.int p1), .val (.int p2), .val (.int p3), .val (.int p4)] [(.int (1 : Int32)), (.int p4)])) t := by
        intro t k
        show Steps p.tables e below (s₁.setTop (mkF m 13 #[.val (.int p0), .val (.int p1), .val (.int p2), .val (.int p3), .val (.int p4)] [(.int (1 : Int32)), (.int p4)])) _
        refine XS.icmpYes X0.here hx rfl (pc0 := 13) (pc' := 21) rfl (hb hby own_d1_13) rfl (flt hc13_34).2.2.2 (by decide) (by decide) ?_
        show Steps p.tables e below (s₁.setTop (mkF m 21 #[.val (.int p0), .val (.int p1), .val (.int p2), .val (.int p3), .val (.int p4)] [])) _
        refine XS.iload X0.here hx rfl (hb hby own_d1_21) rfl ?_
        show Steps p.tables e below (s₁.setTop (mkF m 23 #[.val (.int p0), .val (.int p1), .val (.int p2), .val (.int p3), .val (.int p4)] [(.int p4)])) _
        refine XS.iconst X0.here hx rfl (hb hby own_d1_23) ?_
        exact k
      refine own_End.go (fun t k => st49 _ k) ?_
      by_cases hc24_50 : (2 : Int32) < p4
      · have st51 : ∀ t, Steps p.tables e below (s₁.setTop (mkF m 29 #[.val (.int p0), .val (.int p1), .val (.int p2), .val (.int p3), .val (.int p4)] [(.int p0), (.int p3)])) t → Steps p.tables e below (s₁.setTop (mkF m 24 #[.val (.int p0), .val (.int p1), .val (.int p2), .val (.int p3), .val (.int p4)] [(.int (2 : Int32)), (.int p4)])) t := by
          intro t k
          show Steps p.tables e below (s₁.setTop (mkF m 24 #[.val (.int p0), .val (.int p1), .val (.int p2), .val (.int p3), .val (.int p4)] [(.int (2 : Int32)), (.int p4)])) _
          refine XS.icmpNo X0.here hx rfl (hb hby own_d1_24) rfl (tlt hc24_50).2.2.2 ?_
          show Steps p.tables e below (s₁.setTop (mkF m 27 #[.val (.int p0), .val (.int p1), .val (.int p2), .val (.int p3), .val (.int p4)] [])) _
          refine XS.iloadN X0.here hx rfl (hb hby own_d1_27) rfl ?_
          show Steps p.tables e below (s₁.setTop (mkF m 28 #[.val (.int p0), .val (.int p1), .val (.int p2), .val (.int p3), .val (.int p4)] [(.int p3)])) _
          refine XS.iloadN X0.here hx rfl (hb hby own_d1_28) rfl ?_
          exact k
        refine own_End.go (fun t k => st51 _ k) ?_
        by_cases hc29_52 : p3 = p0
        · have st53 : ∀ t, Steps p.tables e below (s₁.setTop (mkF m 37 #[.val (.int p0), .val (.int p1), .val (.int p2), .val (.int p3), .val (.int p4)] [(.int (1 : Int32))])) t → Steps p.tables e below (s₁.setTop (mkF m 29 #[.val (.int p0), .val (.int p1), .val (.int p2), .val (.int p3), .val (.int p4)] [(.int p0), (.int p3)])) t := by
            intro t k
            show Steps p.tables e below (s₁.setTop (mkF m 29 #[.val (.int p0), .val (.int p1), .val (.int p2), .val (.int p3), .val (.int p4)] [(.int p0), (.int p3)])) _
            refine XS.icmpNo X0.here hx rfl (hb hby own_d1_29) rfl (teq hc29_52).2 ?_
            show Steps p.tables e below (s₁.setTop (mkF m 32 #[.val (.int p0), .val (.int p1), .val (.int p2), .val (.int p3), .val (.int p4)] [])) _
            refine XS.iconst X0.here hx rfl (hb hby own_d1_32) ?_
            show Steps p.tables e below (s₁.setTop (mkF m 33 #[.val (.int p0), .val (.int p1), .val (.int p2), .val (.int p3), .val (.int p4)] [(.int (1 : Int32))])) _
            refine XS.goto X0.here hx rfl (pc0 := 33) (pc' := 37) rfl (hb hby own_d1_33) (by decide) (by decide) ?_
            exact k
          refine own_End.go (fun t k => st53 _ k) ?_
          exact own_leafN X0 hx Bd.notSynchronized (t := .boolean) Bd.returns (by simp) (hb hby own_d1_37) ⟨congrArg (fun z => some (Value.int z)) (own_e1_54 hc2_2 hc13_34 hc24_50 hc29_52), rfl, e0⟩ (by decide) (by decide)
        · have st55 : ∀ t, Steps p.tables e below (s₁.setTop (mkF m 37 #[.val (.int p0), .val (.int p1), .val (.int p2), .val (.int p3), .val (.int p4)] [(.int (0 : Int32))])) t → Steps p.tables e below (s₁.setTop (mkF m 29 #[.val (.int p0), .val (.int p1), .val (.int p2), .val (.int p3), .val (.int p4)] [(.int p0), (.int p3)])) t := by
            intro t k
            show Steps p.tables e below (s₁.setTop (mkF m 29 #[.val (.int p0), .val (.int p1), .val (.int p2), .val (.int p3), .val (.int p4)] [(.int p0), (.int p3)])) _
            refine XS.icmpYes X0.here hx rfl (pc0 := 29) (pc' := 36) rfl (hb hby own_d1_29) rfl (feq hc29_52).2 (by decide) (by decide) ?_
            show Steps p.tables e below (s₁.setTop (mkF m 36 #[.val (.int p0), .val (.int p1), .val (.int p2), .val (.int p3), .val (.int p4)] [])) _
            refine XS.iconst X0.here hx rfl (hb hby own_d1_36) ?_
            exact k
          refine own_End.go (fun t k => st55 _ k) ?_
          exact own_leafN X0 hx Bd.notSynchronized (t := .boolean) Bd.returns (by simp) (hb hby own_d1_37) ⟨congrArg (fun z => some (Value.int z)) (own_e1_56 hc2_2 hc13_34 hc24_50 hc29_52), rfl, e0⟩ (by decide) (by decide)
      · have st57 : ∀ t, Steps p.tables e below (s₁.setTop (mkF m 37 #[.val (.int p0), .val (.int p1), .val (.int p2), .val (.int p3), .val (.int p4)] [(.int (0 : Int32))])) t → Steps p.tables e below (s₁.setTop (mkF m 24 #[.val (.int p0), .val (.int p1), .val (.int p2), .val (.int p3), .val (.int p4)] [(.int (2 : Int32)), (.int p4)])) t := by
          intro t k
          show Steps p.tables e below (s₁.setTop (mkF m 24 #[.val (.int p0), .val (.int p1), .val (.int p2), .val (.int p3), .val (.int p4)] [(.int (2 : Int32)), (.int p4)])) _
          refine XS.icmpYes X0.here hx rfl (pc0 := 24) (pc' := 36) rfl (hb hby own_d1_24) rfl (flt hc24_50).2.2.2 (by decide) (by decide) ?_
          show Steps p.tables e below (s₁.setTop (mkF m 36 #[.val (.int p0), .val (.int p1), .val (.int p2), .val (.int p3), .val (.int p4)] [])) _
          refine XS.iconst X0.here hx rfl (hb hby own_d1_36) ?_
          exact k
        refine own_End.go (fun t k => st57 _ k) ?_
        exact own_leafN X0 hx Bd.notSynchronized (t := .boolean) Bd.returns (by simp) (hb hby own_d1_37) ⟨congrArg (fun z => some (Value.int z)) (own_e1_58 hc2_2 hc13_34 hc24_50), rfl, e0⟩ (by decide) (by decide)
theorem own_d4_0 : decode jdk_29_method_25_code 0 = .ok (.lload_n 0, 1) := by decide +kernel
theorem own_d4_1 : decode jdk_29_method_25_code 1 = .ok (.lload_n 2, 1) := by decide +kernel
theorem own_d4_2 : decode jdk_29_method_25_code 2 = .ok (.ladd, 1) := by decide +kernel
theorem own_d4_3 : decode jdk_29_method_25_code 3 = .ok (.lstore 4, 2) := by decide +kernel
theorem own_d4_5 : decode jdk_29_method_25_code 5 = .ok (.lload_n 0, 1) := by decide +kernel
theorem own_d4_6 : decode jdk_29_method_25_code 6 = .ok (.lload 4, 2) := by decide +kernel
theorem own_d4_8 : decode jdk_29_method_25_code 8 = .ok (.lxor, 1) := by decide +kernel
theorem own_d4_9 : decode jdk_29_method_25_code 9 = .ok (.lload_n 2, 1) := by decide +kernel
theorem own_d4_10 : decode jdk_29_method_25_code 10 = .ok (.lload 4, 2) := by decide +kernel
theorem own_d4_12 : decode jdk_29_method_25_code 12 = .ok (.lxor, 1) := by decide +kernel
theorem own_d4_13 : decode jdk_29_method_25_code 13 = .ok (.land, 1) := by decide +kernel
theorem own_d4_14 : decode jdk_29_method_25_code 14 = .ok (.lconst 0, 1) := by decide +kernel
theorem own_d4_15 : decode jdk_29_method_25_code 15 = .ok (.lcmp, 1) := by decide +kernel
theorem own_d4_16 : decode jdk_29_method_25_code 16 = .ok (.ifCond .ge 13, 3) := by decide +kernel
theorem own_d4_29 : decode jdk_29_method_25_code 29 = .ok (.lload 4, 2) := by decide +kernel
theorem own_d4_31 : decode jdk_29_method_25_code 31 = .ok (.lreturn, 1) := by decide +kernel
theorem own_ef4 (m : MethodId) (q0 : Int64) (q1 : Int64) : entryFrame m #[(.long q0), (.long q1)] 6 = mkF m 0 #[.val (.long q0), .second, .val (.long q1), .second, .unset, .unset] [] := by first | (simp [entryFrame, mkF, argsToLocals, Value.category]; done) | rfl
abbrev own_R4 : Room := { frames := 0, cells := 0, slots := 0, locals := 0 }
def own_F4 (q0 : Int64) (q1 : Int64) : Int64 :=
  let v1 : Int64 := (q0 + q1)
  v1
def own_Q4 (q0 : Int64) (q1 : Int64) (h0 : Heap) (vz : Option Value) (h : Heap) (Lz : List Loc) : Prop :=  vz = some (.long (own_F4 q0 q1)) ∧ Lz = [] ∧ h = h0
theorem own_e4_4 {q0 : Int64} {q1 : Int64} {v1 : Int64} (hv1 : v1 = (q0 + q1)) : v1 = (own_F4 q0 q1) := by
  subst hv1
  first
    | (simp only [own_F4]; done)
    | (exfalso; contradiction)
set_option maxRecDepth 65536 in
set_option maxHeartbeats 40000000 in
theorem own_rm4 (l : Launch) (Z : State) (a0 : Array Value) (hw : ∀ d ∈ tables_1, d.before a0 Z = true) (ws : List Jvm.Cond) (q0 : Int64) (q1 : Int64) (h0 : Heap) (hp : ¬ ((q0 ^^^ (q0 + q1)) &&& (q1 ^^^ (q0 + q1))) < (0 : Int64)) :
    MetFree l (⟨"java/lang/Math", "addExact", "(JJ)J"⟩ : MethodName) (head1 (Jvm.Cond.code (⟨"java/lang/Math", "addExact", "(JJ)J"⟩ : MethodName) jdk_29_method_25_code 6 (some .long) :: ws) own_R4) (fun a U => a = #[(.long q0), (.long q1)] ∧ Z.Warmed39 U.vm ∧ U.heap = h0) (fun _ _ _ _ _ => True) (fun _ U o U' => ∃ vz Lz, o = .returned vz ∧ own_Q4 q0 q1 h0 vz U'.heap Lz ∧ FrameEnd U o U' Lz own_R4.cells own_R4.slots) := by
  refine MetFree.of_bodySF (Jvm.Free.JP.mathPlain rfl (by decide +kernel)) hisR ?_
  intro p e s m args below meth c s₁ Bd hml0 hP hK
  obtain ⟨rfl, hZ, hh⟩ := hP
  have hx := Bd.exec
  have hby := Bd.bytes
  have hml : c.maxLocals = 6 := hml0
  have hown : s.vm.findClass "java/lang/Math" = some m.cls := findClass_of_methodNamed Bd.named
  have hnm := (name_of_methodNamed Bd.named Bd.method).1
  have X0 : Stand p l e own_R4 s m #[(.long q0), (.long q1)] below meth c s₁ [] 0 0 := Stand.of_body Bd
  have e0 : s₁.heap = h0 := by rw [← hh, Bd.state]; rfl
  show own_End p e below s (fun vz h Lz => vz = some (.long (own_F4 q0 q1)) ∧ Lz = [] ∧ h = h0) own_R4.cells own_R4.slots s₁ (entryFrame m #[(.long q0), (.long q1)] 6)
  refine own_End.go (fun t k => castTop (own_ef4 m q0 q1) k) ?_
  show own_End p e below s _ _ _ s₁ (mkF m 0 #[.val (.long q0), .second, .val (.long q1), .second, .unset, .unset] [])
  obtain ⟨v1, hv1⟩ : ∃ z : Int64, z = (q0 + q1) := ⟨_, rfl⟩
  have st2 : ∀ t, Steps p.tables e below (s₁.setTop (mkF m 5 #[.val (.long q0), .second, .val (.long q1), .second, .val (.long v1), .second] [])) t → Steps p.tables e below (s₁.setTop (mkF m 0 #[.val (.long q0), .second, .val (.long q1), .second, .unset, .unset] [])) t := by
    rw [hv1]
    intro t k
    show Steps p.tables e below (s₁.setTop (mkF m 0 #[.val (.long q0), .second, .val (.long q1), .second, .unset, .unset] [])) _
    refine XS.lloadN X0.here hx rfl (hb hby own_d4_0) rfl ?_
    show Steps p.tables e below (s₁.setTop (mkF m 1 #[.val (.long q0), .second, .val (.long q1), .second, .unset, .unset] [(.long q0)])) _
    refine XS.lloadN X0.here hx rfl (hb hby own_d4_1) rfl ?_
    show Steps p.tables e below (s₁.setTop (mkF m 2 #[.val (.long q0), .second, .val (.long q1), .second, .unset, .unset] [(.long q1), (.long q0)])) _
    refine XS.ladd X0.here hx rfl (hb hby own_d4_2) rfl ?_
    show Steps p.tables e below (s₁.setTop (mkF m 3 #[.val (.long q0), .second, .val (.long q1), .second, .unset, .unset] [(.long (q0 + q1))])) _
    refine XS.lstore X0.here hx rfl (hb hby own_d4_3) rfl (l' := #[.val (.long q0), .second, .val (.long q1), .second, .val (.long (q0 + q1)), .second]) rfl ?_
    exact k
  have st3 : ∀ t, Steps p.tables e below (s₁.setTop (mkF m 31 #[.val (.long q0), .second, .val (.long q1), .second, .val (.long v1), .second] [(.long v1)])) t → Steps p.tables e below (s₁.setTop (mkF m 5 #[.val (.long q0), .second, .val (.long q1), .second, .val (.long v1), .second] [])) t := by
    intro t k
    show Steps p.tables e below (s₁.setTop (mkF m 5 #[.val (.long q0), .second, .val (.long q1), .second, .val (.long v1), .second] [])) _
    refine XS.lloadN X0.here hx rfl (hb hby own_d4_5) rfl ?_
    show Steps p.tables e below (s₁.setTop (mkF m 6 #[.val (.long q0), .second, .val (.long q1), .second, .val (.long v1), .second] [(.long q0)])) _
    refine XS.lload X0.here hx rfl (hb hby own_d4_6) rfl ?_
    show Steps p.tables e below (s₁.setTop (mkF m 8 #[.val (.long q0), .second, .val (.long q1), .second, .val (.long v1), .second] [(.long v1), (.long q0)])) _
    refine XS.lxor X0.here hx rfl (hb hby own_d4_8) rfl ?_
    show Steps p.tables e below (s₁.setTop (mkF m 9 #[.val (.long q0), .second, .val (.long q1), .second, .val (.long v1), .second] [(.long (q0 ^^^ v1))])) _
    refine XS.lloadN X0.here hx rfl (hb hby own_d4_9) rfl ?_
    show Steps p.tables e below (s₁.setTop (mkF m 10 #[.val (.long q0), .second, .val (.long q1), .second, .val (.long v1), .second] [(.long q1), (.long (q0 ^^^ v1))])) _
    refine XS.lload X0.here hx rfl (hb hby own_d4_10) rfl ?_
    show Steps p.tables e below (s₁.setTop (mkF m 12 #[.val (.long q0), .second, .val (.long q1), .second, .val (.long v1), .second] [(.long v1), (.long q1), (.long (q0 ^^^ v1))])) _
    refine XS.lxor X0.here hx rfl (hb hby own_d4_12) rfl ?_
    show Steps p.tables e below (s₁.setTop (mkF m 13 #[.val (.long q0), .second, .val (.long q1), .second, .val (.long v1), .second] [(.long (q1 ^^^ v1)), (.long (q0 ^^^ v1))])) _
    refine XS.land X0.here hx rfl (hb hby own_d4_13) rfl ?_
    show Steps p.tables e below (s₁.setTop (mkF m 14 #[.val (.long q0), .second, .val (.long q1), .second, .val (.long v1), .second] [(.long ((q0 ^^^ v1) &&& (q1 ^^^ v1)))])) _
    refine XS.lconst X0.here hx rfl (hb hby own_d4_14) ?_
    show Steps p.tables e below (s₁.setTop (mkF m 15 #[.val (.long q0), .second, .val (.long q1), .second, .val (.long v1), .second] [(.long (0 : Int64)), (.long ((q0 ^^^ v1) &&& (q1 ^^^ v1)))])) _
    refine XS.lcmp X0.here hx rfl (hb hby own_d4_15) rfl ?_
    show Steps p.tables e below (s₁.setTop (mkF m 16 #[.val (.long q0), .second, .val (.long q1), .second, .val (.long v1), .second] [(.int (lcmpW ((q0 ^^^ v1) &&& (q1 ^^^ v1)) (0 : Int64)))])) _
    refine XS.ifYes X0.here hx rfl (pc0 := 16) (pc' := 29) rfl (hb hby own_d4_16) rfl ((if0 _ _).trans (flt (mt (lw_lt ((q0 ^^^ v1) &&& (q1 ^^^ v1)) (0 : Int64)).mp (by rw [hv1]; exact hp))).2.1) (by decide) (by decide) ?_
    show Steps p.tables e below (s₁.setTop (mkF m 29 #[.val (.long q0), .second, .val (.long q1), .second, .val (.long v1), .second] [])) _
    refine XS.lload X0.here hx rfl (hb hby own_d4_29) rfl ?_
    exact k
  refine own_End.go (fun t k => st2 _ (st3 _ k)) ?_
  exact own_leafJ X0 hx Bd.notSynchronized Bd.returns (hb hby own_d4_31) ⟨congrArg (fun z => some (Value.long z)) (own_e4_4 hv1), rfl, e0⟩ (by decide) (by decide)
def own_ok (q0 q1 : Int64) : Prop := ¬ ((q0 ^^^ (q0 + q1)) &&& (q1 ^^^ (q0 + q1))) < (0 : Int64)
theorem own_d2_0 : decode prog_74_method_1_code 0 = .ok (.aload_n 0, 1) := by decide +kernel
theorem own_d2_1 : decode prog_74_method_1_code 1 = .ok (.invokespecial 1, 3) := by decide +kernel
theorem own_d2_4 : decode prog_74_method_1_code 4 = .ok (.aload_n 1, 1) := by decide +kernel
theorem own_d2_5 : decode prog_74_method_1_code 5 = .ok (.arraylength, 1) := by decide +kernel
theorem own_d2_6 : decode prog_74_method_1_code 6 = .ok (.ifCond .ne 13, 3) := by decide +kernel
theorem own_d2_19 : decode prog_74_method_1_code 19 = .ok (.lconst 0, 1) := by decide +kernel
theorem own_d2_20 : decode prog_74_method_1_code 20 = .ok (.lstore_n 2, 1) := by decide +kernel
theorem own_d2_21 : decode prog_74_method_1_code 21 = .ok (.iconst 0, 1) := by decide +kernel
theorem own_d2_22 : decode prog_74_method_1_code 22 = .ok (.istore 4, 2) := by decide +kernel
theorem own_d2_24 : decode prog_74_method_1_code 24 = .ok (.iload 4, 2) := by decide +kernel
theorem own_d2_26 : decode prog_74_method_1_code 26 = .ok (.aload_n 1, 1) := by decide +kernel
theorem own_d2_27 : decode prog_74_method_1_code 27 = .ok (.arraylength, 1) := by decide +kernel
theorem own_d2_28 : decode prog_74_method_1_code 28 = .ok (.if_icmp .ge 65, 3) := by decide +kernel
theorem own_d2_31 : decode prog_74_method_1_code 31 = .ok (.aload_n 1, 1) := by decide +kernel
theorem own_d2_32 : decode prog_74_method_1_code 32 = .ok (.iload 4, 2) := by decide +kernel
theorem own_d2_34 : decode prog_74_method_1_code 34 = .ok (.laload, 1) := by decide +kernel
theorem own_d2_35 : decode prog_74_method_1_code 35 = .ok (.lconst 1, 1) := by decide +kernel
theorem own_d2_36 : decode prog_74_method_1_code 36 = .ok (.lcmp, 1) := by decide +kernel
theorem own_d2_37 : decode prog_74_method_1_code 37 = .ok (.ifCond .ge 24, 3) := by decide +kernel
theorem own_d2_61 : decode prog_74_method_1_code 61 = .ok (.lload_n 2, 1) := by decide +kernel
theorem own_d2_62 : decode prog_74_method_1_code 62 = .ok (.aload_n 1, 1) := by decide +kernel
theorem own_d2_63 : decode prog_74_method_1_code 63 = .ok (.iload 4, 2) := by decide +kernel
theorem own_d2_65 : decode prog_74_method_1_code 65 = .ok (.laload, 1) := by decide +kernel
theorem own_d2_66 : decode prog_74_method_1_code 66 = .ok (.invokestatic 18, 3) := by decide +kernel
theorem own_d2_69 : decode prog_74_method_1_code 69 = .ok (.lstore_n 2, 1) := by decide +kernel
theorem own_d2_70 : decode prog_74_method_1_code 70 = .ok (.goto 17, 3) := by decide +kernel
theorem own_d2_87 : decode prog_74_method_1_code 87 = .ok (.iinc 4 1, 3) := by decide +kernel
theorem own_d2_90 : decode prog_74_method_1_code 90 = .ok (.goto (-66), 3) := by decide +kernel
theorem own_d2_93 : decode prog_74_method_1_code 93 = .ok (.aload_n 0, 1) := by decide +kernel
theorem own_d2_94 : decode prog_74_method_1_code 94 = .ok (.aload_n 1, 1) := by decide +kernel
theorem own_d2_95 : decode prog_74_method_1_code 95 = .ok (.invokevirtual 33, 3) := by decide +kernel
theorem own_d2_98 : decode prog_74_method_1_code 98 = .ok (.checkcast 34, 3) := by decide +kernel
theorem own_d2_101 : decode prog_74_method_1_code 101 = .ok (.putfield 39, 3) := by decide +kernel
theorem own_d2_104 : decode prog_74_method_1_code 104 = .ok (.aload_n 0, 1) := by decide +kernel
theorem own_d2_105 : decode prog_74_method_1_code 105 = .ok (.lload_n 2, 1) := by decide +kernel
theorem own_d2_106 : decode prog_74_method_1_code 106 = .ok (.putfield 44, 3) := by decide +kernel
theorem own_d2_109 : decode prog_74_method_1_code 109 = .ok (.return_, 1) := by decide +kernel
theorem own_pn2 : plainName "com/example/evotempo/evotempo/problem/LinearFunction" = true := by first | (simp [plainName, overriddenIn]; done) | decide +kernel
theorem own_ef2 (m : MethodId) (o0 : Addr) (o1 : Addr) : entryFrame m #[(.ref o0), (.ref o1)] 6 = mkF m 0 #[.val (.ref o0), .val (.ref o1), .unset, .unset, .unset, .unset] [] := by first | (simp [entryFrame, mkF, argsToLocals, Value.category]; done) | rfl
abbrev own_R2 : Room := { frames := 1, cells := 1, slots := 3, locals := 17 }
def own_Q2 (Z : State) (o0 : Addr) (o1 : Addr) (x0 : Int64) (x1 : Int64) (x2 : Int64) (h0 : Heap) (n0 : Nat) (vz : Option Value) (h : Heap) (Lz : List Loc) : Prop := ∃ b, vz = none ∧ Fr n0 Lz ∧ Keep h0 h [o0] ∧ h0.size ≤ b ∧ Exa Z h o0 "com/example/evotempo/evotempo/problem/LinearFunction" ∧ Fld Z h o0 "com/example/evotempo/evotempo/problem/LinearFunction" "weights" "[J" (.ref b) ∧ own_JA Z h b ([x0, x1, x2] : List Int64) ∧ True
set_option maxRecDepth 65536 in
set_option maxHeartbeats 40000000 in
theorem own_rm2 (l : Launch) (Z : State) (a0 : Array Value) (hw : ∀ d ∈ tables_1, d.before a0 Z = true) (ws : List Jvm.Cond) (o0 : Addr) (o1 : Addr) (x0 : Int64) (x1 : Int64) (x2 : Int64) (h0 : Heap) (n0 : Nat) (Z0 : n0 ≤ h0.size) (E_o0 : Exa Z h0 o0 "com/example/evotempo/evotempo/problem/LinearFunction") (F_o0_weights : Fld Z h0 o0 "com/example/evotempo/evotempo/problem/LinearFunction" "weights" "[J" .null) (F_o0_optimum : Fld Z h0 o0 "com/example/evotempo/evotempo/problem/LinearFunction" "optimum" "J" (.long (0 : Int64))) (E_o1 : Exa Z h0 o1 "[J") (V_o1 : own_JA Z h0 o1 ([x0, x1, x2] : List Int64)) (g_o0 : n0 ≤ o0) (ne_o1_o0 : o1 ≠ o0) (m0 : ¬ x0 < (1 : Int64)) (m1 : ¬ x1 < (1 : Int64)) (m2 : ¬ x2 < (1 : Int64)) (k0 : own_ok (0 : Int64) x0) (k1 : own_ok (own_F4 (0 : Int64) x0) x1) (k2 : own_ok (own_F4 (own_F4 (0 : Int64) x0) x1) x2) :
    MetFree l (⟨"com/example/evotempo/evotempo/problem/LinearFunction", "<init>", "([J)V"⟩ : MethodName) (head1 ((Jvm.Cond.codeWith ({ cls := "com/example/evotempo/evotempo/problem/LinearFunction", name := "<init>", desc := "([J)V" } : Jvm.MethodName) prog_74_method_1_code (6 : Nat) (Option.none : Option Jvm.ClassFile.FieldType) [((61 : Nat), (70 : Nat), (73 : Nat), (24 : Nat))]) :: ws) own_R2) (fun a U => a = #[(.ref o0), (.ref o1)] ∧ Z.Warmed39 U.vm ∧ U.heap = h0) (fun _ _ _ _ _ => True) (fun _ U o U' => ∃ vz Lz, o = .returned vz ∧ own_Q2 Z o0 o1 x0 x1 x2 h0 n0 vz U'.heap Lz ∧ FrameEnd U o U' Lz own_R2.cells own_R2.slots) := by
  refine MetFree.of_bodySF (plainFor_of_name own_pn2) hisWith ?_
  intro p e s m args below meth c s₁ Bd hml0 hP hK
  obtain ⟨rfl, hZ, hh⟩ := hP
  have hx := Bd.exec
  have hby := Bd.bytes
  have hml : c.maxLocals = 6 := hml0
  have hown : s.vm.findClass "com/example/evotempo/evotempo/problem/LinearFunction" = some m.cls := findClass_of_methodNamed Bd.named
  have hnm := (name_of_methodNamed Bd.named Bd.method).1
  have X0 : Stand p l e own_R2 s m #[(.ref o0), (.ref o1)] below meth c s₁ [] 0 0 := Stand.of_body Bd
  have e0 : s₁.heap = h0 := by rw [← hh, Bd.state]; rfl
  show own_End p e below s (fun vz h Lz => ∃ b, vz = none ∧ Fr n0 Lz ∧ Keep h0 h [o0] ∧ h0.size ≤ b ∧ Exa Z h o0 "com/example/evotempo/evotempo/problem/LinearFunction" ∧ Fld Z h o0 "com/example/evotempo/evotempo/problem/LinearFunction" "weights" "[J" (.ref b) ∧ own_JA Z h b ([x0, x1, x2] : List Int64) ∧ True) own_R2.cells own_R2.slots s₁ (entryFrame m #[(.ref o0), (.ref o1)] 6)
  refine own_End.go (fun t k => castTop (own_ef2 m o0 o1) k) ?_
  show own_End p e below s _ _ _ s₁ (mkF m 0 #[.val (.ref o0), .val (.ref o1), .unset, .unset, .unset, .unset] [])
  have N0 := Fr.nil n0
  have K0 : Keep h0 h0 [o0] := Keep.refl h0 _
  have st1 : ∀ t, Steps p.tables e below (s₁.setTop (mkF m 1 #[.val (.ref o0), .val (.ref o1), .unset, .unset, .unset, .unset] [(.ref o0)])) t → Steps p.tables e below (s₁.setTop (mkF m 0 #[.val (.ref o0), .val (.ref o1), .unset, .unset, .unset, .unset] [])) t := by
    intro t k
    show Steps p.tables e below (s₁.setTop (mkF m 0 #[.val (.ref o0), .val (.ref o1), .unset, .unset, .unset, .unset] [])) _
    refine XS.aloadN X0.here hx rfl (hb hby own_d2_0) rfl rfl ?_
    exact k
  obtain ⟨T2, X2, e2, st2⟩ := initO X0 hx hZ hown (hw _ (List.mem_of_getElem? (i := 13) rfl)) (hw _ (List.mem_of_getElem? (i := 14) rfl)) (hw _ (List.mem_of_getElem? (i := 15) rfl)) e0 (g := (mkF m 1 #[.val (.ref o0), .val (.ref o1), .unset, .unset, .unset, .unset] [(.ref o0)])) rfl (by rw [hml]; rfl) rfl (hb hby own_d2_1) (by decide) (W := 0) (by show 2 * 0 + _ ≤ _; exact Nat.le_of_eq rfl) (by decide)
  have st3 : ∀ t, Steps p.tables e below (T2.setTop (mkF m 66 #[.val (.ref o0), .val (.ref o1), .val (.long (0 : Int64)), .second, .val (.int (0 : Int32)), .unset] [(.long x0), (.long (0 : Int64))])) t → Steps p.tables e below (T2.setTop (mkF m 4 #[.val (.ref o0), .val (.ref o1), .unset, .unset, .unset, .unset] [])) t := by
    intro t k
    show Steps p.tables e below (T2.setTop (mkF m 4 #[.val (.ref o0), .val (.ref o1), .unset, .unset, .unset, .unset] [])) _
    refine XS.aloadN X2.here hx rfl (hb hby own_d2_4) rfl rfl ?_
    show Steps p.tables e below (T2.setTop (mkF m 5 #[.val (.ref o0), .val (.ref o1), .unset, .unset, .unset, .unset] [(.ref o1)])) _
    refine own_lenJ X2 hx hZ e2 V_o1 (g := (mkF m 5 #[.val (.ref o0), .val (.ref o1), .unset, .unset, .unset, .unset] [(.ref o1)])) rfl rfl (hb hby own_d2_5) _ ?_
    show Steps p.tables e below (T2.setTop (mkF m 6 #[.val (.ref o0), .val (.ref o1), .unset, .unset, .unset, .unset] [(.int (3 : Int32))])) _
    refine XS.ifYes X2.here hx rfl (pc0 := 6) (pc' := 19) rfl (hb hby own_d2_6) rfl ((if0 _ _).trans (feq (by decide : ¬ ((3 : Int32) = (0 : Int32)))).2) (by decide) (by decide) ?_
    show Steps p.tables e below (T2.setTop (mkF m 19 #[.val (.ref o0), .val (.ref o1), .unset, .unset, .unset, .unset] [])) _
    refine XS.lconst X2.here hx rfl (hb hby own_d2_19) ?_
    show Steps p.tables e below (T2.setTop (mkF m 20 #[.val (.ref o0), .val (.ref o1), .unset, .unset, .unset, .unset] [(.long (0 : Int64))])) _
    refine XS.lstoreN X2.here hx rfl (hb hby own_d2_20) rfl (l' := #[.val (.ref o0), .val (.ref o1), .val (.long (0 : Int64)), .second, .unset, .unset]) rfl ?_
    show Steps p.tables e below (T2.setTop (mkF m 21 #[.val (.ref o0), .val (.ref o1), .val (.long (0 : Int64)), .second, .unset, .unset] [])) _
    refine XS.iconst X2.here hx rfl (hb hby own_d2_21) ?_
    show Steps p.tables e below (T2.setTop (mkF m 22 #[.val (.ref o0), .val (.ref o1), .val (.long (0 : Int64)), .second, .unset, .unset] [(.int (0 : Int32))])) _
    refine XS.istore X2.here hx rfl (hb hby own_d2_22) rfl (l' := #[.val (.ref o0), .val (.ref o1), .val (.long (0 : Int64)), .second, .val (.int (0 : Int32)), .unset]) rfl ?_
    show Steps p.tables e below (T2.setTop (mkF m 24 #[.val (.ref o0), .val (.ref o1), .val (.long (0 : Int64)), .second, .val (.int (0 : Int32)), .unset] [])) _
    refine XS.iload X2.here hx rfl (hb hby own_d2_24) rfl ?_
    show Steps p.tables e below (T2.setTop (mkF m 26 #[.val (.ref o0), .val (.ref o1), .val (.long (0 : Int64)), .second, .val (.int (0 : Int32)), .unset] [(.int (0 : Int32))])) _
    refine XS.aloadN X2.here hx rfl (hb hby own_d2_26) rfl rfl ?_
    show Steps p.tables e below (T2.setTop (mkF m 27 #[.val (.ref o0), .val (.ref o1), .val (.long (0 : Int64)), .second, .val (.int (0 : Int32)), .unset] [(.ref o1), (.int (0 : Int32))])) _
    refine own_lenJ X2 hx hZ e2 V_o1 (g := (mkF m 27 #[.val (.ref o0), .val (.ref o1), .val (.long (0 : Int64)), .second, .val (.int (0 : Int32)), .unset] [(.ref o1), (.int (0 : Int32))])) rfl rfl (hb hby own_d2_27) _ ?_
    show Steps p.tables e below (T2.setTop (mkF m 28 #[.val (.ref o0), .val (.ref o1), .val (.long (0 : Int64)), .second, .val (.int (0 : Int32)), .unset] [(.int (3 : Int32)), (.int (0 : Int32))])) _
    refine XS.icmpNo X2.here hx rfl (hb hby own_d2_28) rfl (tlt (by decide : (0 : Int32) < (3 : Int32))).2.1 ?_
    show Steps p.tables e below (T2.setTop (mkF m 31 #[.val (.ref o0), .val (.ref o1), .val (.long (0 : Int64)), .second, .val (.int (0 : Int32)), .unset] [])) _
    refine XS.aloadN X2.here hx rfl (hb hby own_d2_31) rfl rfl ?_
    show Steps p.tables e below (T2.setTop (mkF m 32 #[.val (.ref o0), .val (.ref o1), .val (.long (0 : Int64)), .second, .val (.int (0 : Int32)), .unset] [(.ref o1)])) _
    refine XS.iload X2.here hx rfl (hb hby own_d2_32) rfl ?_
    show Steps p.tables e below (T2.setTop (mkF m 34 #[.val (.ref o0), .val (.ref o1), .val (.long (0 : Int64)), .second, .val (.int (0 : Int32)), .unset] [(.int (0 : Int32)), (.ref o1)])) _
    refine own_laloadJ X2 hx hZ e2 V_o1 (j := (0 : Int32)) (own_in (m := 3) rfl (by decide)) (g := (mkF m 34 #[.val (.ref o0), .val (.ref o1), .val (.long (0 : Int64)), .second, .val (.int (0 : Int32)), .unset] [(.int (0 : Int32)), (.ref o1)])) rfl rfl (hb hby own_d2_34) _ ?_
    show Steps p.tables e below (T2.setTop (mkF m 35 #[.val (.ref o0), .val (.ref o1), .val (.long (0 : Int64)), .second, .val (.int (0 : Int32)), .unset] [(.long x0)])) _
    refine XS.lconst X2.here hx rfl (hb hby own_d2_35) ?_
    show Steps p.tables e below (T2.setTop (mkF m 36 #[.val (.ref o0), .val (.ref o1), .val (.long (0 : Int64)), .second, .val (.int (0 : Int32)), .unset] [(.long (1 : Int64)), (.long x0)])) _
    refine XS.lcmp X2.here hx rfl (hb hby own_d2_36) rfl ?_
    show Steps p.tables e below (T2.setTop (mkF m 37 #[.val (.ref o0), .val (.ref o1), .val (.long (0 : Int64)), .second, .val (.int (0 : Int32)), .unset] [(.int (lcmpW x0 (1 : Int64)))])) _
    refine XS.ifYes X2.here hx rfl (pc0 := 37) (pc' := 61) rfl (hb hby own_d2_37) rfl ((if0 _ _).trans (flt (mt (lw_lt x0 (1 : Int64)).mp m0)).2.1) (by decide) (by decide) ?_
    show Steps p.tables e below (T2.setTop (mkF m 61 #[.val (.ref o0), .val (.ref o1), .val (.long (0 : Int64)), .second, .val (.int (0 : Int32)), .unset] [])) _
    refine XS.lloadN X2.here hx rfl (hb hby own_d2_61) rfl ?_
    show Steps p.tables e below (T2.setTop (mkF m 62 #[.val (.ref o0), .val (.ref o1), .val (.long (0 : Int64)), .second, .val (.int (0 : Int32)), .unset] [(.long (0 : Int64))])) _
    refine XS.aloadN X2.here hx rfl (hb hby own_d2_62) rfl rfl ?_
    show Steps p.tables e below (T2.setTop (mkF m 63 #[.val (.ref o0), .val (.ref o1), .val (.long (0 : Int64)), .second, .val (.int (0 : Int32)), .unset] [(.ref o1), (.long (0 : Int64))])) _
    refine XS.iload X2.here hx rfl (hb hby own_d2_63) rfl ?_
    show Steps p.tables e below (T2.setTop (mkF m 65 #[.val (.ref o0), .val (.ref o1), .val (.long (0 : Int64)), .second, .val (.int (0 : Int32)), .unset] [(.int (0 : Int32)), (.ref o1), (.long (0 : Int64))])) _
    refine own_laloadJ X2 hx hZ e2 V_o1 (j := (0 : Int32)) (own_in (m := 3) rfl (by decide)) (g := (mkF m 65 #[.val (.ref o0), .val (.ref o1), .val (.long (0 : Int64)), .second, .val (.int (0 : Int32)), .unset] [(.int (0 : Int32)), (.ref o1), (.long (0 : Int64))])) rfl rfl (hb hby own_d2_65) _ ?_
    exact k
  obtain ⟨_, _, ⟨T4, L4, k4, n4⟩, -, X4, ⟨Lc4, hQ4, l4, y4, z4⟩, st4⟩ := Jvm.LawKit.callS X2 hx (y := (⟨"java/lang/Math", "addExact", "(JJ)J"⟩ : MethodName)) hown (mvT hZ (hw _ (List.mem_of_getElem? (i := 16) rfl))) (mvT hZ (hw _ (List.mem_of_getElem? (i := 17) rfl))) (mvT hZ (hw _ (List.mem_of_getElem? (i := 18) rfl))) (mvT hZ (hw _ (List.mem_of_getElem? (i := 19) rfl))) (by decide) (backOf (W := 0) (own_rm4 l Z a0 hw [] (0 : Int64) x0 h0 ((by exact k0))) hZ (hw _ (List.mem_of_getElem? (i := 19) rfl)) (hw _ (List.mem_of_getElem? (i := 18) rfl)) (by decide) (by decide)) (g := (mkF m 66 #[.val (.ref o0), .val (.ref o1), .val (.long (0 : Int64)), .second, .val (.int (0 : Int32)), .unset] [(.long x0), (.long (0 : Int64))])) rfl (by rw [hml]; rfl) (argsL := [(.long (0 : Int64)), (.long x0)]) (rest := []) (lenOf own_pd0 rfl) rfl (by show 2 * 0 + _ ≤ _; exact Nat.le_of_eq rfl) (hb hby own_d2_66) (fun _ _ => ⟨rfl, e2, (by decide : 0 + 0 ≤ _), (by decide : 0 + 0 ≤ _)⟩)
  dsimp only [Pt.U, Pt.locs, Pt.cells, Pt.slots] at X4 l4 y4 z4 st4 hQ4
  subst y4 z4
  obtain ⟨rfl, rfl, e4⟩ := hQ4
  have X4' : Stand p l e own_R2 s m #[(.ref o0), (.ref o1)] below meth c T4 [] 0 0 := by rw [show L4 = [] from by rw [l4]; first | rfl | exact List.append_nil _] at X4; exact X4
  obtain ⟨v5, hv5⟩ : ∃ z : Int64, z = (own_F4 (0 : Int64) x0) := ⟨_, rfl⟩
  rw [← hv5] at st4
  have st6 : ∀ t, Steps p.tables e below (T4.setTop (mkF m 66 #[.val (.ref o0), .val (.ref o1), .val (.long v5), .second, .val (.int (1 : Int32)), .unset] [(.long x1), (.long v5)])) t → Steps p.tables e below (T4.setTop (mkF m 69 #[.val (.ref o0), .val (.ref o1), .val (.long (0 : Int64)), .second, .val (.int (0 : Int32)), .unset] [(.long v5)])) t := by
    intro t k
    show Steps p.tables e below (T4.setTop (mkF m 69 #[.val (.ref o0), .val (.ref o1), .val (.long (0 : Int64)), .second, .val (.int (0 : Int32)), .unset] [(.long v5)])) _
    refine XS.lstoreN X4'.here hx rfl (hb hby own_d2_69) rfl (l' := #[.val (.ref o0), .val (.ref o1), .val (.long v5), .second, .val (.int (0 : Int32)), .unset]) rfl ?_
    show Steps p.tables e below (T4.setTop (mkF m 70 #[.val (.ref o0), .val (.ref o1), .val (.long v5), .second, .val (.int (0 : Int32)), .unset] [])) _
    refine XS.goto X4'.here hx rfl (pc0 := 70) (pc' := 87) rfl (hb hby own_d2_70) (by decide) (by decide) ?_
    show Steps p.tables e below (T4.setTop (mkF m 87 #[.val (.ref o0), .val (.ref o1), .val (.long v5), .second, .val (.int (0 : Int32)), .unset] [])) _
    refine XS.iinc X4'.here hx rfl (hb hby own_d2_87) rfl (l' := #[.val (.ref o0), .val (.ref o1), .val (.long v5), .second, .val (.int (1 : Int32)), .unset]) rfl ?_
    show Steps p.tables e below (T4.setTop (mkF m 90 #[.val (.ref o0), .val (.ref o1), .val (.long v5), .second, .val (.int (1 : Int32)), .unset] [])) _
    refine XS.goto X4'.here hx rfl (pc0 := 90) (pc' := 24) rfl (hb hby own_d2_90) (by decide) (by decide) ?_
    show Steps p.tables e below (T4.setTop (mkF m 24 #[.val (.ref o0), .val (.ref o1), .val (.long v5), .second, .val (.int (1 : Int32)), .unset] [])) _
    refine XS.iload X4'.here hx rfl (hb hby own_d2_24) rfl ?_
    show Steps p.tables e below (T4.setTop (mkF m 26 #[.val (.ref o0), .val (.ref o1), .val (.long v5), .second, .val (.int (1 : Int32)), .unset] [(.int (1 : Int32))])) _
    refine XS.aloadN X4'.here hx rfl (hb hby own_d2_26) rfl rfl ?_
    show Steps p.tables e below (T4.setTop (mkF m 27 #[.val (.ref o0), .val (.ref o1), .val (.long v5), .second, .val (.int (1 : Int32)), .unset] [(.ref o1), (.int (1 : Int32))])) _
    refine own_lenJ X4' hx hZ e4 V_o1 (g := (mkF m 27 #[.val (.ref o0), .val (.ref o1), .val (.long v5), .second, .val (.int (1 : Int32)), .unset] [(.ref o1), (.int (1 : Int32))])) rfl rfl (hb hby own_d2_27) _ ?_
    show Steps p.tables e below (T4.setTop (mkF m 28 #[.val (.ref o0), .val (.ref o1), .val (.long v5), .second, .val (.int (1 : Int32)), .unset] [(.int (3 : Int32)), (.int (1 : Int32))])) _
    refine XS.icmpNo X4'.here hx rfl (hb hby own_d2_28) rfl (tlt (by decide : (1 : Int32) < (3 : Int32))).2.1 ?_
    show Steps p.tables e below (T4.setTop (mkF m 31 #[.val (.ref o0), .val (.ref o1), .val (.long v5), .second, .val (.int (1 : Int32)), .unset] [])) _
    refine XS.aloadN X4'.here hx rfl (hb hby own_d2_31) rfl rfl ?_
    show Steps p.tables e below (T4.setTop (mkF m 32 #[.val (.ref o0), .val (.ref o1), .val (.long v5), .second, .val (.int (1 : Int32)), .unset] [(.ref o1)])) _
    refine XS.iload X4'.here hx rfl (hb hby own_d2_32) rfl ?_
    show Steps p.tables e below (T4.setTop (mkF m 34 #[.val (.ref o0), .val (.ref o1), .val (.long v5), .second, .val (.int (1 : Int32)), .unset] [(.int (1 : Int32)), (.ref o1)])) _
    refine own_laloadJ X4' hx hZ e4 V_o1 (j := (1 : Int32)) (own_in (m := 3) rfl (by decide)) (g := (mkF m 34 #[.val (.ref o0), .val (.ref o1), .val (.long v5), .second, .val (.int (1 : Int32)), .unset] [(.int (1 : Int32)), (.ref o1)])) rfl rfl (hb hby own_d2_34) _ ?_
    show Steps p.tables e below (T4.setTop (mkF m 35 #[.val (.ref o0), .val (.ref o1), .val (.long v5), .second, .val (.int (1 : Int32)), .unset] [(.long x1)])) _
    refine XS.lconst X4'.here hx rfl (hb hby own_d2_35) ?_
    show Steps p.tables e below (T4.setTop (mkF m 36 #[.val (.ref o0), .val (.ref o1), .val (.long v5), .second, .val (.int (1 : Int32)), .unset] [(.long (1 : Int64)), (.long x1)])) _
    refine XS.lcmp X4'.here hx rfl (hb hby own_d2_36) rfl ?_
    show Steps p.tables e below (T4.setTop (mkF m 37 #[.val (.ref o0), .val (.ref o1), .val (.long v5), .second, .val (.int (1 : Int32)), .unset] [(.int (lcmpW x1 (1 : Int64)))])) _
    refine XS.ifYes X4'.here hx rfl (pc0 := 37) (pc' := 61) rfl (hb hby own_d2_37) rfl ((if0 _ _).trans (flt (mt (lw_lt x1 (1 : Int64)).mp m1)).2.1) (by decide) (by decide) ?_
    show Steps p.tables e below (T4.setTop (mkF m 61 #[.val (.ref o0), .val (.ref o1), .val (.long v5), .second, .val (.int (1 : Int32)), .unset] [])) _
    refine XS.lloadN X4'.here hx rfl (hb hby own_d2_61) rfl ?_
    show Steps p.tables e below (T4.setTop (mkF m 62 #[.val (.ref o0), .val (.ref o1), .val (.long v5), .second, .val (.int (1 : Int32)), .unset] [(.long v5)])) _
    refine XS.aloadN X4'.here hx rfl (hb hby own_d2_62) rfl rfl ?_
    show Steps p.tables e below (T4.setTop (mkF m 63 #[.val (.ref o0), .val (.ref o1), .val (.long v5), .second, .val (.int (1 : Int32)), .unset] [(.ref o1), (.long v5)])) _
    refine XS.iload X4'.here hx rfl (hb hby own_d2_63) rfl ?_
    show Steps p.tables e below (T4.setTop (mkF m 65 #[.val (.ref o0), .val (.ref o1), .val (.long v5), .second, .val (.int (1 : Int32)), .unset] [(.int (1 : Int32)), (.ref o1), (.long v5)])) _
    refine own_laloadJ X4' hx hZ e4 V_o1 (j := (1 : Int32)) (own_in (m := 3) rfl (by decide)) (g := (mkF m 65 #[.val (.ref o0), .val (.ref o1), .val (.long v5), .second, .val (.int (1 : Int32)), .unset] [(.int (1 : Int32)), (.ref o1), (.long v5)])) rfl rfl (hb hby own_d2_65) _ ?_
    exact k
  obtain ⟨_, _, ⟨T7, L7, k7, n7⟩, -, X7, ⟨Lc7, hQ7, l7, y7, z7⟩, st7⟩ := Jvm.LawKit.callS X4' hx (y := (⟨"java/lang/Math", "addExact", "(JJ)J"⟩ : MethodName)) hown (mvT hZ (hw _ (List.mem_of_getElem? (i := 16) rfl))) (mvT hZ (hw _ (List.mem_of_getElem? (i := 17) rfl))) (mvT hZ (hw _ (List.mem_of_getElem? (i := 18) rfl))) (mvT hZ (hw _ (List.mem_of_getElem? (i := 19) rfl))) (by decide) (backOf (W := 0) (own_rm4 l Z a0 hw [] v5 x1 h0 ((by rw [hv5]; exact k1))) hZ (hw _ (List.mem_of_getElem? (i := 19) rfl)) (hw _ (List.mem_of_getElem? (i := 18) rfl)) (by decide) (by decide)) (g := (mkF m 66 #[.val (.ref o0), .val (.ref o1), .val (.long v5), .second, .val (.int (1 : Int32)), .unset] [(.long x1), (.long v5)])) rfl (by rw [hml]; rfl) (argsL := [(.long v5), (.long x1)]) (rest := []) (lenOf own_pd0 rfl) rfl (by show 2 * 0 + _ ≤ _; exact Nat.le_of_eq rfl) (hb hby own_d2_66) (fun _ _ => ⟨rfl, e4, (by decide : 0 + 0 ≤ _), (by decide : 0 + 0 ≤ _)⟩)
  dsimp only [Pt.U, Pt.locs, Pt.cells, Pt.slots] at X7 l7 y7 z7 st7 hQ7
  subst y7 z7
  obtain ⟨rfl, rfl, e7⟩ := hQ7
  have X7' : Stand p l e own_R2 s m #[(.ref o0), (.ref o1)] below meth c T7 [] 0 0 := by rw [show L7 = [] from by rw [l7]; first | rfl | exact List.append_nil _] at X7; exact X7
  obtain ⟨v8, hv8⟩ : ∃ z : Int64, z = (own_F4 v5 x1) := ⟨_, rfl⟩
  rw [← hv8] at st7
  have st9 : ∀ t, Steps p.tables e below (T7.setTop (mkF m 66 #[.val (.ref o0), .val (.ref o1), .val (.long v8), .second, .val (.int (2 : Int32)), .unset] [(.long x2), (.long v8)])) t → Steps p.tables e below (T7.setTop (mkF m 69 #[.val (.ref o0), .val (.ref o1), .val (.long v5), .second, .val (.int (1 : Int32)), .unset] [(.long v8)])) t := by
    intro t k
    show Steps p.tables e below (T7.setTop (mkF m 69 #[.val (.ref o0), .val (.ref o1), .val (.long v5), .second, .val (.int (1 : Int32)), .unset] [(.long v8)])) _
    refine XS.lstoreN X7'.here hx rfl (hb hby own_d2_69) rfl (l' := #[.val (.ref o0), .val (.ref o1), .val (.long v8), .second, .val (.int (1 : Int32)), .unset]) rfl ?_
    show Steps p.tables e below (T7.setTop (mkF m 70 #[.val (.ref o0), .val (.ref o1), .val (.long v8), .second, .val (.int (1 : Int32)), .unset] [])) _
    refine XS.goto X7'.here hx rfl (pc0 := 70) (pc' := 87) rfl (hb hby own_d2_70) (by decide) (by decide) ?_
    show Steps p.tables e below (T7.setTop (mkF m 87 #[.val (.ref o0), .val (.ref o1), .val (.long v8), .second, .val (.int (1 : Int32)), .unset] [])) _
    refine XS.iinc X7'.here hx rfl (hb hby own_d2_87) rfl (l' := #[.val (.ref o0), .val (.ref o1), .val (.long v8), .second, .val (.int (2 : Int32)), .unset]) rfl ?_
    show Steps p.tables e below (T7.setTop (mkF m 90 #[.val (.ref o0), .val (.ref o1), .val (.long v8), .second, .val (.int (2 : Int32)), .unset] [])) _
    refine XS.goto X7'.here hx rfl (pc0 := 90) (pc' := 24) rfl (hb hby own_d2_90) (by decide) (by decide) ?_
    show Steps p.tables e below (T7.setTop (mkF m 24 #[.val (.ref o0), .val (.ref o1), .val (.long v8), .second, .val (.int (2 : Int32)), .unset] [])) _
    refine XS.iload X7'.here hx rfl (hb hby own_d2_24) rfl ?_
    show Steps p.tables e below (T7.setTop (mkF m 26 #[.val (.ref o0), .val (.ref o1), .val (.long v8), .second, .val (.int (2 : Int32)), .unset] [(.int (2 : Int32))])) _
    refine XS.aloadN X7'.here hx rfl (hb hby own_d2_26) rfl rfl ?_
    show Steps p.tables e below (T7.setTop (mkF m 27 #[.val (.ref o0), .val (.ref o1), .val (.long v8), .second, .val (.int (2 : Int32)), .unset] [(.ref o1), (.int (2 : Int32))])) _
    refine own_lenJ X7' hx hZ e7 V_o1 (g := (mkF m 27 #[.val (.ref o0), .val (.ref o1), .val (.long v8), .second, .val (.int (2 : Int32)), .unset] [(.ref o1), (.int (2 : Int32))])) rfl rfl (hb hby own_d2_27) _ ?_
    show Steps p.tables e below (T7.setTop (mkF m 28 #[.val (.ref o0), .val (.ref o1), .val (.long v8), .second, .val (.int (2 : Int32)), .unset] [(.int (3 : Int32)), (.int (2 : Int32))])) _
    refine XS.icmpNo X7'.here hx rfl (hb hby own_d2_28) rfl (tlt (by decide : (2 : Int32) < (3 : Int32))).2.1 ?_
    show Steps p.tables e below (T7.setTop (mkF m 31 #[.val (.ref o0), .val (.ref o1), .val (.long v8), .second, .val (.int (2 : Int32)), .unset] [])) _
    refine XS.aloadN X7'.here hx rfl (hb hby own_d2_31) rfl rfl ?_
    show Steps p.tables e below (T7.setTop (mkF m 32 #[.val (.ref o0), .val (.ref o1), .val (.long v8), .second, .val (.int (2 : Int32)), .unset] [(.ref o1)])) _
    refine XS.iload X7'.here hx rfl (hb hby own_d2_32) rfl ?_
    show Steps p.tables e below (T7.setTop (mkF m 34 #[.val (.ref o0), .val (.ref o1), .val (.long v8), .second, .val (.int (2 : Int32)), .unset] [(.int (2 : Int32)), (.ref o1)])) _
    refine own_laloadJ X7' hx hZ e7 V_o1 (j := (2 : Int32)) (own_in (m := 3) rfl (by decide)) (g := (mkF m 34 #[.val (.ref o0), .val (.ref o1), .val (.long v8), .second, .val (.int (2 : Int32)), .unset] [(.int (2 : Int32)), (.ref o1)])) rfl rfl (hb hby own_d2_34) _ ?_
    show Steps p.tables e below (T7.setTop (mkF m 35 #[.val (.ref o0), .val (.ref o1), .val (.long v8), .second, .val (.int (2 : Int32)), .unset] [(.long x2)])) _
    refine XS.lconst X7'.here hx rfl (hb hby own_d2_35) ?_
    show Steps p.tables e below (T7.setTop (mkF m 36 #[.val (.ref o0), .val (.ref o1), .val (.long v8), .second, .val (.int (2 : Int32)), .unset] [(.long (1 : Int64)), (.long x2)])) _
    refine XS.lcmp X7'.here hx rfl (hb hby own_d2_36) rfl ?_
    show Steps p.tables e below (T7.setTop (mkF m 37 #[.val (.ref o0), .val (.ref o1), .val (.long v8), .second, .val (.int (2 : Int32)), .unset] [(.int (lcmpW x2 (1 : Int64)))])) _
    refine XS.ifYes X7'.here hx rfl (pc0 := 37) (pc' := 61) rfl (hb hby own_d2_37) rfl ((if0 _ _).trans (flt (mt (lw_lt x2 (1 : Int64)).mp m2)).2.1) (by decide) (by decide) ?_
    show Steps p.tables e below (T7.setTop (mkF m 61 #[.val (.ref o0), .val (.ref o1), .val (.long v8), .second, .val (.int (2 : Int32)), .unset] [])) _
    refine XS.lloadN X7'.here hx rfl (hb hby own_d2_61) rfl ?_
    show Steps p.tables e below (T7.setTop (mkF m 62 #[.val (.ref o0), .val (.ref o1), .val (.long v8), .second, .val (.int (2 : Int32)), .unset] [(.long v8)])) _
    refine XS.aloadN X7'.here hx rfl (hb hby own_d2_62) rfl rfl ?_
    show Steps p.tables e below (T7.setTop (mkF m 63 #[.val (.ref o0), .val (.ref o1), .val (.long v8), .second, .val (.int (2 : Int32)), .unset] [(.ref o1), (.long v8)])) _
    refine XS.iload X7'.here hx rfl (hb hby own_d2_63) rfl ?_
    show Steps p.tables e below (T7.setTop (mkF m 65 #[.val (.ref o0), .val (.ref o1), .val (.long v8), .second, .val (.int (2 : Int32)), .unset] [(.int (2 : Int32)), (.ref o1), (.long v8)])) _
    refine own_laloadJ X7' hx hZ e7 V_o1 (j := (2 : Int32)) (own_in (m := 3) rfl (by decide)) (g := (mkF m 65 #[.val (.ref o0), .val (.ref o1), .val (.long v8), .second, .val (.int (2 : Int32)), .unset] [(.int (2 : Int32)), (.ref o1), (.long v8)])) rfl rfl (hb hby own_d2_65) _ ?_
    exact k
  obtain ⟨_, _, ⟨T10, L10, k10, n10⟩, -, X10, ⟨Lc10, hQ10, l10, y10, z10⟩, st10⟩ := Jvm.LawKit.callS X7' hx (y := (⟨"java/lang/Math", "addExact", "(JJ)J"⟩ : MethodName)) hown (mvT hZ (hw _ (List.mem_of_getElem? (i := 16) rfl))) (mvT hZ (hw _ (List.mem_of_getElem? (i := 17) rfl))) (mvT hZ (hw _ (List.mem_of_getElem? (i := 18) rfl))) (mvT hZ (hw _ (List.mem_of_getElem? (i := 19) rfl))) (by decide) (backOf (W := 0) (own_rm4 l Z a0 hw [] v8 x2 h0 ((by rw [hv8, hv5]; exact k2))) hZ (hw _ (List.mem_of_getElem? (i := 19) rfl)) (hw _ (List.mem_of_getElem? (i := 18) rfl)) (by decide) (by decide)) (g := (mkF m 66 #[.val (.ref o0), .val (.ref o1), .val (.long v8), .second, .val (.int (2 : Int32)), .unset] [(.long x2), (.long v8)])) rfl (by rw [hml]; rfl) (argsL := [(.long v8), (.long x2)]) (rest := []) (lenOf own_pd0 rfl) rfl (by show 2 * 0 + _ ≤ _; exact Nat.le_of_eq rfl) (hb hby own_d2_66) (fun _ _ => ⟨rfl, e7, (by decide : 0 + 0 ≤ _), (by decide : 0 + 0 ≤ _)⟩)
  dsimp only [Pt.U, Pt.locs, Pt.cells, Pt.slots] at X10 l10 y10 z10 st10 hQ10
  subst y10 z10
  obtain ⟨rfl, rfl, e10⟩ := hQ10
  have X10' : Stand p l e own_R2 s m #[(.ref o0), (.ref o1)] below meth c T10 [] 0 0 := by rw [show L10 = [] from by rw [l10]; first | rfl | exact List.append_nil _] at X10; exact X10
  obtain ⟨v11, hv11⟩ : ∃ z : Int64, z = (own_F4 v8 x2) := ⟨_, rfl⟩
  rw [← hv11] at st10
  have st12 : ∀ t, Steps p.tables e below (T10.setTop (mkF m 95 #[.val (.ref o0), .val (.ref o1), .val (.long v11), .second, .val (.int (3 : Int32)), .unset] [(.ref o1), (.ref o0)])) t → Steps p.tables e below (T10.setTop (mkF m 69 #[.val (.ref o0), .val (.ref o1), .val (.long v8), .second, .val (.int (2 : Int32)), .unset] [(.long v11)])) t := by
    intro t k
    show Steps p.tables e below (T10.setTop (mkF m 69 #[.val (.ref o0), .val (.ref o1), .val (.long v8), .second, .val (.int (2 : Int32)), .unset] [(.long v11)])) _
    refine XS.lstoreN X10'.here hx rfl (hb hby own_d2_69) rfl (l' := #[.val (.ref o0), .val (.ref o1), .val (.long v11), .second, .val (.int (2 : Int32)), .unset]) rfl ?_
    show Steps p.tables e below (T10.setTop (mkF m 70 #[.val (.ref o0), .val (.ref o1), .val (.long v11), .second, .val (.int (2 : Int32)), .unset] [])) _
    refine XS.goto X10'.here hx rfl (pc0 := 70) (pc' := 87) rfl (hb hby own_d2_70) (by decide) (by decide) ?_
    show Steps p.tables e below (T10.setTop (mkF m 87 #[.val (.ref o0), .val (.ref o1), .val (.long v11), .second, .val (.int (2 : Int32)), .unset] [])) _
    refine XS.iinc X10'.here hx rfl (hb hby own_d2_87) rfl (l' := #[.val (.ref o0), .val (.ref o1), .val (.long v11), .second, .val (.int (3 : Int32)), .unset]) rfl ?_
    show Steps p.tables e below (T10.setTop (mkF m 90 #[.val (.ref o0), .val (.ref o1), .val (.long v11), .second, .val (.int (3 : Int32)), .unset] [])) _
    refine XS.goto X10'.here hx rfl (pc0 := 90) (pc' := 24) rfl (hb hby own_d2_90) (by decide) (by decide) ?_
    show Steps p.tables e below (T10.setTop (mkF m 24 #[.val (.ref o0), .val (.ref o1), .val (.long v11), .second, .val (.int (3 : Int32)), .unset] [])) _
    refine XS.iload X10'.here hx rfl (hb hby own_d2_24) rfl ?_
    show Steps p.tables e below (T10.setTop (mkF m 26 #[.val (.ref o0), .val (.ref o1), .val (.long v11), .second, .val (.int (3 : Int32)), .unset] [(.int (3 : Int32))])) _
    refine XS.aloadN X10'.here hx rfl (hb hby own_d2_26) rfl rfl ?_
    show Steps p.tables e below (T10.setTop (mkF m 27 #[.val (.ref o0), .val (.ref o1), .val (.long v11), .second, .val (.int (3 : Int32)), .unset] [(.ref o1), (.int (3 : Int32))])) _
    refine own_lenJ X10' hx hZ e10 V_o1 (g := (mkF m 27 #[.val (.ref o0), .val (.ref o1), .val (.long v11), .second, .val (.int (3 : Int32)), .unset] [(.ref o1), (.int (3 : Int32))])) rfl rfl (hb hby own_d2_27) _ ?_
    show Steps p.tables e below (T10.setTop (mkF m 28 #[.val (.ref o0), .val (.ref o1), .val (.long v11), .second, .val (.int (3 : Int32)), .unset] [(.int (3 : Int32)), (.int (3 : Int32))])) _
    refine XS.icmpYes X10'.here hx rfl (pc0 := 28) (pc' := 93) rfl (hb hby own_d2_28) rfl (flt (by decide : ¬ ((3 : Int32) < (3 : Int32)))).2.1 (by decide) (by decide) ?_
    show Steps p.tables e below (T10.setTop (mkF m 93 #[.val (.ref o0), .val (.ref o1), .val (.long v11), .second, .val (.int (3 : Int32)), .unset] [])) _
    refine XS.aloadN X10'.here hx rfl (hb hby own_d2_93) rfl rfl ?_
    show Steps p.tables e below (T10.setTop (mkF m 94 #[.val (.ref o0), .val (.ref o1), .val (.long v11), .second, .val (.int (3 : Int32)), .unset] [(.ref o0)])) _
    refine XS.aloadN X10'.here hx rfl (hb hby own_d2_94) rfl rfl ?_
    exact k
  obtain ⟨T13, h13, b13, X13, e13, K13, q13, V13, Ex13, st13⟩ := own_cloneJ X10' hx hZ hown (hw _ (List.mem_of_getElem? (i := 20) rfl)) (hw _ (List.mem_of_getElem? (i := 21) rfl)) (hw _ (List.mem_of_getElem? (i := 25) rfl)) (hw _ (List.mem_of_getElem? (i := 23) rfl)) (hw _ (List.mem_of_getElem? (i := 24) rfl)) (hw _ (List.mem_of_getElem? (i := 26) rfl)) e10 V_o1 E_o1 (g := (mkF m 95 #[.val (.ref o0), .val (.ref o1), .val (.long v11), .second, .val (.int (3 : Int32)), .unset] [(.ref o1), (.ref o0)])) rfl (by rw [hml]; rfl) rfl (hb hby own_d2_95) (by decide) (W := 1) (by show 2 * 0 + _ ≤ _; exact Nat.le_of_eq rfl) (by decide) (cap := 3) (Nat.le_of_eq rfl) (by decide) (by decide)
  have X13 : Stand p l e own_R2 s m #[(.ref o0), (.ref o1)] below meth c T13 [] 1 3 := X13
  have ne_o0_b13 : o0 ≠ b13 := own_ne E_o0.lt q13
  have ne_o1_b13 : o1 ≠ b13 := own_ne E_o1.lt q13
  have g_b13 : n0 ≤ b13 := Nat.le_trans Z0 q13
  have sz_b13 : h0.size ≤ b13 := Nat.le_trans K0.1 q13
  have f14 : Exa Z h13 o0 "com/example/evotempo/evotempo/problem/LinearFunction" := E_o0.keep K13
  have f15 : Fld Z h13 o0 "com/example/evotempo/evotempo/problem/LinearFunction" "weights" "[J" .null := F_o0_weights.keep K13 nin0
  have f16 : Fld Z h13 o0 "com/example/evotempo/evotempo/problem/LinearFunction" "optimum" "J" (.long (0 : Int64)) := F_o0_optimum.keep K13 nin0
  have f17 : Exa Z h13 o1 "[J" := E_o1.keep K13
  have f18 : own_JA Z h13 o1 ([x0, x1, x2] : List Int64) := V_o1.keep K13 nin0
  have Zp19 : n0 ≤ h13.size := Nat.le_trans Z0 K13.1
  have Kz19 : Keep h0 h13 [o0] := K0.trans K13 all0
  obtain ⟨T20, X20, e20, st20⟩ := castY X13 hx hZ hown (hw _ (List.mem_of_getElem? (i := 27) rfl)) e13 (Ins.of_exa Ex13 (hw _ (List.mem_of_getElem? (i := 28) rfl))) (g := (mkF m 98 #[.val (.ref o0), .val (.ref o1), .val (.long v11), .second, .val (.int (3 : Int32)), .unset] [(.ref b13), (.ref o0)])) rfl rfl (hb hby own_d2_98)
  obtain ⟨T21, h21, X21, e21, W21, st21⟩ := putF X20 hx hZ hown (host := "") (Or.inl (hw _ (List.mem_of_getElem? (i := 29) rfl))) Via.refl e20 f15 f14 (Or.inr ⟨(hw _ (List.mem_of_getElem? (i := 30) rfl)), rfl, hnm⟩) (hw _ (List.mem_of_getElem? (i := 7) rfl)) (ty := (.array .long)) (by decide) rfl rfl (g := (mkF m 101 #[.val (.ref o0), .val (.ref o1), .val (.long v11), .second, .val (.int (3 : Int32)), .unset] [(.ref b13), (.ref o0)])) rfl rfl (hb hby own_d2_101)
  obtain ⟨L21, X21, N21⟩ : ∃ L : List Loc, Stand p l e own_R2 s m #[(.ref o0), (.ref o1)] below meth c T21 L 1 3 ∧ Fr n0 L := ⟨_, X21, Fr.snoc X21 N0 g_o0⟩
  have K21 := Keep.of_wr W21
  have Fw21 : Fld Z h21 o0 "com/example/evotempo/evotempo/problem/LinearFunction" "weights" "[J" (.ref b13) := f15.same W21
  have Ew21 : Exa Z h21 o0 "com/example/evotempo/evotempo/problem/LinearFunction" := f14.wr W21
  have Fo22 : Fld Z h21 o0 "com/example/evotempo/evotempo/problem/LinearFunction" "optimum" "J" (.long (0 : Int64)) := f16.other W21 (Or.inr (slot_ne (Or.inr (hw _ (List.mem_of_getElem? (i := 32) rfl))) (Or.inr (hw _ (List.mem_of_getElem? (i := 30) rfl))) (by decide) (t := .long) (t' := (.array .long)) (by decide) (by decide)))
  have f23 : Exa Z h21 o1 "[J" := f17.keep K21
  have f24 : own_JA Z h21 o1 ([x0, x1, x2] : List Int64) := f18.keep K21 (ninS ne_o1_o0 nin0)
  have f25 : own_JA Z h21 b13 ([x0, x1, x2] : List Int64) := V13.keep K21 (ninS (Ne.symm ne_o0_b13) nin0)
  have f26 : Exa Z h21 b13 "[J" := Ex13.keep K21
  have Zp27 : n0 ≤ h21.size := Nat.le_trans Zp19 K21.1
  have Kz27 : Keep h0 h21 [o0] := Kz19.trans K21 (allS (Or.inl (List.mem_of_getElem? (i := 0) rfl)) all0)
  have st28 : ∀ t, Steps p.tables e below (T21.setTop (mkF m 106 #[.val (.ref o0), .val (.ref o1), .val (.long v11), .second, .val (.int (3 : Int32)), .unset] [(.long v11), (.ref o0)])) t → Steps p.tables e below (T21.setTop (mkF m 104 #[.val (.ref o0), .val (.ref o1), .val (.long v11), .second, .val (.int (3 : Int32)), .unset] [])) t := by
    intro t k
    show Steps p.tables e below (T21.setTop (mkF m 104 #[.val (.ref o0), .val (.ref o1), .val (.long v11), .second, .val (.int (3 : Int32)), .unset] [])) _
    refine XS.aloadN X21.here hx rfl (hb hby own_d2_104) rfl rfl ?_
    show Steps p.tables e below (T21.setTop (mkF m 105 #[.val (.ref o0), .val (.ref o1), .val (.long v11), .second, .val (.int (3 : Int32)), .unset] [(.ref o0)])) _
    refine XS.lloadN X21.here hx rfl (hb hby own_d2_105) rfl ?_
    exact k
  obtain ⟨T29, h29, X29, e29, W29, st29⟩ := putF X21 hx hZ hown (host := "") (Or.inl (hw _ (List.mem_of_getElem? (i := 31) rfl))) Via.refl e21 Fo22 Ew21 (Or.inr ⟨(hw _ (List.mem_of_getElem? (i := 32) rfl)), rfl, hnm⟩) (hw _ (List.mem_of_getElem? (i := 7) rfl)) (ty := .long) (by decide) rfl rfl (g := (mkF m 106 #[.val (.ref o0), .val (.ref o1), .val (.long v11), .second, .val (.int (3 : Int32)), .unset] [(.long v11), (.ref o0)])) rfl rfl (hb hby own_d2_106)
  obtain ⟨L29, X29, N29⟩ : ∃ L : List Loc, Stand p l e own_R2 s m #[(.ref o0), (.ref o1)] below meth c T29 L 1 3 ∧ Fr n0 L := ⟨_, X29, Fr.snoc X29 N21 g_o0⟩
  have K29 := Keep.of_wr W29
  have Fw29 : Fld Z h29 o0 "com/example/evotempo/evotempo/problem/LinearFunction" "optimum" "J" (.long v11) := Fo22.same W29
  have Ew29 : Exa Z h29 o0 "com/example/evotempo/evotempo/problem/LinearFunction" := Ew21.wr W29
  have Fo30 : Fld Z h29 o0 "com/example/evotempo/evotempo/problem/LinearFunction" "weights" "[J" (.ref b13) := Fw21.other W29 (Or.inr (slot_ne (Or.inr (hw _ (List.mem_of_getElem? (i := 30) rfl))) (Or.inr (hw _ (List.mem_of_getElem? (i := 32) rfl))) (by decide) (t := (.array .long)) (t' := .long) (by decide) (by decide)))
  have f31 : Exa Z h29 o1 "[J" := f23.keep K29
  have f32 : own_JA Z h29 o1 ([x0, x1, x2] : List Int64) := f24.keep K29 (ninS ne_o1_o0 nin0)
  have f33 : own_JA Z h29 b13 ([x0, x1, x2] : List Int64) := f25.keep K29 (ninS (Ne.symm ne_o0_b13) nin0)
  have f34 : Exa Z h29 b13 "[J" := f26.keep K29
  have Zp35 : n0 ≤ h29.size := Nat.le_trans Zp27 K29.1
  have Kz35 : Keep h0 h29 [o0] := Kz27.trans K29 (allS (Or.inl (List.mem_of_getElem? (i := 0) rfl)) all0)
  refine own_End.go (fun t k => st1 _ (st2 _ (st3 _ (st4 _ (st6 _ (st7 _ (st9 _ (st10 _ (st12 _ (st13 _ (st20 _ (st21 _ (st28 _ (st29 _ k)))))))))))))) ?_
  exact own_leafV X29 hx Bd.notSynchronized Bd.returns (hb hby own_d2_109) ⟨b13, rfl, N29, (by rw [e29]; exact Kz35), (by have := sz_b13; exact this), (by rw [e29]; exact Ew29), (by rw [e29]; exact Fo30), (by rw [e29]; exact f33), trivial⟩ (by decide) (by decide)
theorem own_os5_18 {z0 : Value} {z1 : Value} {z2 : Value} {z4 : Value} {z5 : Value} {z6 : Value} {z8 : Value} {s9 : Slot} {v : Int32} (h : One s9) : storeLocals #[.val z0, .val z1, .val z2, .second, .val z4, .val z5, .val z6, .second, .val z8, s9] 9 (.int v) = some #[.val z0, .val z1, .val z2, .second, .val z4, .val z5, .val z6, .second, .val z8, .val (.int v)] := by
  rcases h with rfl | ⟨w, rfl, hw⟩
  · rfl
  · cases w <;> first | rfl | (simp [Value.category] at hw)
theorem own_d5_0 : decode prog_74_method_7_code 0 = .ok (.lload_n 2, 1) := by decide +kernel
theorem own_d5_1 : decode prog_74_method_7_code 1 = .ok (.lstore 6, 2) := by decide +kernel
theorem own_d5_3 : decode prog_74_method_7_code 3 = .ok (.iconst 0, 1) := by decide +kernel
theorem own_d5_4 : decode prog_74_method_7_code 4 = .ok (.istore 8, 2) := by decide +kernel
theorem own_d5_6 : decode prog_74_method_7_code 6 = .ok (.iload 8, 2) := by decide +kernel
theorem own_d5_8 : decode prog_74_method_7_code 8 = .ok (.iload 5, 2) := by decide +kernel
theorem own_d5_10 : decode prog_74_method_7_code 10 = .ok (.if_icmp .ge 46, 3) := by decide +kernel
theorem own_d5_13 : decode prog_74_method_7_code 13 = .ok (.aload 4, 2) := by decide +kernel
theorem own_d5_15 : decode prog_74_method_7_code 15 = .ok (.iload 8, 2) := by decide +kernel
theorem own_d5_17 : decode prog_74_method_7_code 17 = .ok (.iaload, 1) := by decide +kernel
theorem own_d5_18 : decode prog_74_method_7_code 18 = .ok (.istore 9, 2) := by decide +kernel
theorem own_d5_20 : decode prog_74_method_7_code 20 = .ok (.lload 6, 2) := by decide +kernel
theorem own_d5_22 : decode prog_74_method_7_code 22 = .ok (.aload_n 1, 1) := by decide +kernel
theorem own_d5_23 : decode prog_74_method_7_code 23 = .ok (.iload 9, 2) := by decide +kernel
theorem own_d5_25 : decode prog_74_method_7_code 25 = .ok (.baload, 1) := by decide +kernel
theorem own_d5_26 : decode prog_74_method_7_code 26 = .ok (.ifCond .eq 14, 3) := by decide +kernel
theorem own_d5_29 : decode prog_74_method_7_code 29 = .ok (.aload_n 0, 1) := by decide +kernel
theorem own_d5_30 : decode prog_74_method_7_code 30 = .ok (.getfield 39, 3) := by decide +kernel
theorem own_d5_33 : decode prog_74_method_7_code 33 = .ok (.iload 9, 2) := by decide +kernel
theorem own_d5_35 : decode prog_74_method_7_code 35 = .ok (.laload, 1) := by decide +kernel
theorem own_d5_36 : decode prog_74_method_7_code 36 = .ok (.lneg, 1) := by decide +kernel
theorem own_d5_37 : decode prog_74_method_7_code 37 = .ok (.goto 10, 3) := by decide +kernel
theorem own_d5_40 : decode prog_74_method_7_code 40 = .ok (.aload_n 0, 1) := by decide +kernel
theorem own_d5_41 : decode prog_74_method_7_code 41 = .ok (.getfield 39, 3) := by decide +kernel
theorem own_d5_44 : decode prog_74_method_7_code 44 = .ok (.iload 9, 2) := by decide +kernel
theorem own_d5_46 : decode prog_74_method_7_code 46 = .ok (.laload, 1) := by decide +kernel
theorem own_d5_47 : decode prog_74_method_7_code 47 = .ok (.ladd, 1) := by decide +kernel
theorem own_d5_48 : decode prog_74_method_7_code 48 = .ok (.lstore 6, 2) := by decide +kernel
theorem own_d5_50 : decode prog_74_method_7_code 50 = .ok (.iinc 8 1, 3) := by decide +kernel
theorem own_d5_53 : decode prog_74_method_7_code 53 = .ok (.goto (-47), 3) := by decide +kernel
theorem own_d5_56 : decode prog_74_method_7_code 56 = .ok (.lload 6, 2) := by decide +kernel
theorem own_d5_58 : decode prog_74_method_7_code 58 = .ok (.lreturn, 1) := by decide +kernel
theorem own_pn5 : plainName "com/example/evotempo/evotempo/problem/LinearFunction" = true := by first | (simp [plainName, overriddenIn]; done) | decide +kernel
theorem own_ef5 (m : MethodId) (o0 : Addr) (o1 : Addr) (q2 : Int64) (o3 : Addr) (p4 : Int32) : entryFrame m #[(.ref o0), (.ref o1), (.long q2), (.ref o3), (.int p4)] 10 = mkF m 0 #[.val (.ref o0), .val (.ref o1), .val (.long q2), .second, .val (.ref o3), .val (.int p4), .unset, .unset, .unset, .unset] [] := by first | (simp [entryFrame, mkF, argsToLocals, Value.category]; done) | rfl
abbrev own_R5 : Room := { frames := 0, cells := 0, slots := 0, locals := 0 }
def own_P5_6_0 (q2 : Int64) (p4 : Int32) (Lw : List Int64) (Lx : List Int32) (Lp : List Int32) : Nat → Int64 → Int32 → Int64
  | 0, _, _ => 0
  | fuel + 1, acc, i =>
    if i < p4 then
      let v4 : Int32 := (List.getD Lp (i).toInt.toNat 0)
      let v14 : Int64 := (if (List.getD Lx (v4).toInt.toNat 0) = (0 : Int32) then (List.getD Lw (v4).toInt.toNat 0) else (-(List.getD Lw (v4).toInt.toNat 0)))
      let v16 : Int64 := (acc + v14)
      let v18 : Int32 := (i + (1 : Int32))
      (own_P5_6_0 q2 p4 Lw Lx Lp fuel v16 v18)
    else
      acc
theorem own_e5_21 {q2 : Int64} {p4 : Int32} {Lw : List Int64} {Lx : List Int32} {Lp : List Int32} {fuel : Nat} {acc : Int64} {i : Int32} {v4 : Int32} {v14 : Int64} {v16 : Int64} {v18 : Int32} (hv4 : v4 = (List.getD Lp (i).toInt.toNat 0)) (hv14 : v14 = (if (List.getD Lx (v4).toInt.toNat 0) = (0 : Int32) then (List.getD Lw (v4).toInt.toNat 0) else (-(List.getD Lw (v4).toInt.toNat 0)))) (hv16 : v16 = (acc + v14)) (hv18 : v18 = (i + (1 : Int32))) (hc10_3 : i < p4) : (own_P5_6_0 q2 p4 Lw Lx Lp fuel v16 v18) = (own_P5_6_0 q2 p4 Lw Lx Lp (fuel + 1) acc i) := by
  subst hv4 hv14 hv16 hv18
  first
    | (simp only [own_P5_6_0, if_pos hc10_3]; done)
    | (exfalso; contradiction)
theorem own_e5_23 {q2 : Int64} {p4 : Int32} {Lw : List Int64} {Lx : List Int32} {Lp : List Int32} {fuel : Nat} {acc : Int64} {i : Int32} (hc10_3 : ¬ (i < p4)) : acc = (own_P5_6_0 q2 p4 Lw Lx Lp (fuel + 1) acc i) := by
  skip
  first
    | (simp only [own_P5_6_0, if_neg hc10_3]; done)
    | (exfalso; contradiction)
set_option maxRecDepth 65536 in
set_option maxHeartbeats 40000000 in
theorem own_lp5_6 {p : Program} {l : Launch} {e : Env} {s : State} {m : MethodId} {below : List Frame} {meth : Method} {c : Code} {Z : State} {a0 : Array Value} {h0 : Heap} {n0 : Nat} (hx : p.tables.exec = Jvm.exec) (hZ : Z.Warmed39 s.vm) (hw : ∀ d ∈ tables_1, d.before a0 Z = true) (hby : c.code = prog_74_method_7_code) (hml : c.maxLocals = 10) (hown : s.vm.findClass "com/example/evotempo/evotempo/problem/LinearFunction" = some m.cls) (hnm : meth.name = "fitnessAfterFlips") (hret : meth.sig.returnType = (some .long)) (hk : meth.locks = false) (o0 : Addr) (o1 : Addr) (q2 : Int64) (o3 : Addr) (p4 : Int32) (b : Addr) (Lw : List Int64) (Lx : List Int32) (Lp : List Int32) :
    ∀ (fuel : Nat) (T : State) (acc : Int64) (i : Int32) (s9 : Slot) (X : Stand p l e own_R5 s m #[(.ref o0), (.ref o1), (.long q2), (.ref o3), (.int p4)] below meth c T [] 0 0) (eT : T.heap = h0) (f_0 : Fld Z h0 o0 "com/example/evotempo/evotempo/problem/LinearFunction" "weights" "[J" (.ref b)) (f_1 : own_JA Z h0 b Lw) (f_2 : own_IA Z h0 o1 .boolean Lx) (f_3 : own_IA Z h0 o3 .int Lp) (h_s9 : One s9) (h4 : 0 ≤ p4.toInt ∧ p4.toInt ≤ (Lp.length : Int)) (hpx : ∀ x ∈ Lp, 0 ≤ x.toInt ∧ x.toInt < (Lx.length : Int)) (hpw : ∀ x ∈ Lp, 0 ≤ x.toInt ∧ x.toInt < (Lw.length : Int)) (i1 : 0 ≤ i.toInt) (i2 : i.toInt ≤ p4.toInt) (hf : p4.toInt - i.toInt < (fuel : Int)), own_End p e below s (fun vz h Lz => vz = some (.long (own_P5_6_0 q2 p4 Lw Lx Lp fuel acc i)) ∧ Lz = [] ∧ h = h0) own_R5.cells own_R5.slots T (mkF m 6 #[.val (.ref o0), .val (.ref o1), .val (.long q2), .second, .val (.ref o3), .val (.int p4), .val (.long acc), .second, .val (.int i), s9] []) := by
  intro fuel
  induction fuel with
  | zero =>
    intro T acc i s9 X eT f_0 f_1 f_2 f_3 h_s9 h4 hpx hpw i1 i2 hf
    exfalso
    omega
  | succ fuel ih =>
    intro T acc i s9 X eT f_0 f_1 f_2 f_3 h_s9 h4 hpx hpw i1 i2 hf
    have st2 : ∀ t, Steps p.tables e below (T.setTop (mkF m 10 #[.val (.ref o0), .val (.ref o1), .val (.long q2), .second, .val (.ref o3), .val (.int p4), .val (.long acc), .second, .val (.int i), s9] [(.int p4), (.int i)])) t → Steps p.tables e below (T.setTop (mkF m 6 #[.val (.ref o0), .val (.ref o1), .val (.long q2), .second, .val (.ref o3), .val (.int p4), .val (.long acc), .second, .val (.int i), s9] [])) t := by
      intro t k
      show Steps p.tables e below (T.setTop (mkF m 6 #[.val (.ref o0), .val (.ref o1), .val (.long q2), .second, .val (.ref o3), .val (.int p4), .val (.long acc), .second, .val (.int i), s9] [])) _
      refine XS.iload X.here hx rfl (hb hby own_d5_6) rfl ?_
      show Steps p.tables e below (T.setTop (mkF m 8 #[.val (.ref o0), .val (.ref o1), .val (.long q2), .second, .val (.ref o3), .val (.int p4), .val (.long acc), .second, .val (.int i), s9] [(.int i)])) _
      refine XS.iload X.here hx rfl (hb hby own_d5_8) rfl ?_
      exact k
    refine own_End.go (fun t k => st2 _ k) ?_
    by_cases hc10_3 : i < p4
    · obtain ⟨v4, hv4⟩ : ∃ z : Int32, z = (List.getD Lp (i).toInt.toNat 0) := ⟨_, rfl⟩
      have st5 : ∀ t, Steps p.tables e below (T.setTop (mkF m 20 #[.val (.ref o0), .val (.ref o1), .val (.long q2), .second, .val (.ref o3), .val (.int p4), .val (.long acc), .second, .val (.int i), .val (.int v4)] [])) t → Steps p.tables e below (T.setTop (mkF m 10 #[.val (.ref o0), .val (.ref o1), .val (.long q2), .second, .val (.ref o3), .val (.int p4), .val (.long acc), .second, .val (.int i), s9] [(.int p4), (.int i)])) t := by
        rw [hv4]
        intro t k
        show Steps p.tables e below (T.setTop (mkF m 10 #[.val (.ref o0), .val (.ref o1), .val (.long q2), .second, .val (.ref o3), .val (.int p4), .val (.long acc), .second, .val (.int i), s9] [(.int p4), (.int i)])) _
        refine XS.icmpNo X.here hx rfl (hb hby own_d5_10) rfl (tlt hc10_3).2.1 ?_
        show Steps p.tables e below (T.setTop (mkF m 13 #[.val (.ref o0), .val (.ref o1), .val (.long q2), .second, .val (.ref o3), .val (.int p4), .val (.long acc), .second, .val (.int i), s9] [])) _
        refine XS.aload X.here hx rfl (hb hby own_d5_13) rfl rfl ?_
        show Steps p.tables e below (T.setTop (mkF m 15 #[.val (.ref o0), .val (.ref o1), .val (.long q2), .second, .val (.ref o3), .val (.int p4), .val (.long acc), .second, .val (.int i), s9] [(.ref o3)])) _
        refine XS.iload X.here hx rfl (hb hby own_d5_15) rfl ?_
        show Steps p.tables e below (T.setTop (mkF m 17 #[.val (.ref o0), .val (.ref o1), .val (.long q2), .second, .val (.ref o3), .val (.int p4), .val (.long acc), .second, .val (.int i), s9] [(.int i), (.ref o3)])) _
        refine own_ialoadI X hx hZ eT f_3 (j := i) ⟨i1, own_ltl hc10_3 h4.2⟩ (g := (mkF m 17 #[.val (.ref o0), .val (.ref o1), .val (.long q2), .second, .val (.ref o3), .val (.int p4), .val (.long acc), .second, .val (.int i), s9] [(.int i), (.ref o3)])) rfl rfl (hb hby own_d5_17) _ ?_
        show Steps p.tables e below (T.setTop (mkF m 18 #[.val (.ref o0), .val (.ref o1), .val (.long q2), .second, .val (.ref o3), .val (.int p4), .val (.long acc), .second, .val (.int i), s9] [(.int (List.getD Lp (i).toInt.toNat 0))])) _
        refine XS.istore X.here hx rfl (hb hby own_d5_18) rfl (l' := #[.val (.ref o0), .val (.ref o1), .val (.long q2), .second, .val (.ref o3), .val (.int p4), .val (.long acc), .second, .val (.int i), .val (.int (List.getD Lp (i).toInt.toNat 0))]) (own_os5_18 h_s9) ?_
        exact k
      have st6 : ∀ t, Steps p.tables e below (T.setTop (mkF m 26 #[.val (.ref o0), .val (.ref o1), .val (.long q2), .second, .val (.ref o3), .val (.int p4), .val (.long acc), .second, .val (.int i), .val (.int v4)] [(.int (List.getD Lx (v4).toInt.toNat 0)), (.long acc)])) t → Steps p.tables e below (T.setTop (mkF m 20 #[.val (.ref o0), .val (.ref o1), .val (.long q2), .second, .val (.ref o3), .val (.int p4), .val (.long acc), .second, .val (.int i), .val (.int v4)] [])) t := by
        intro t k
        show Steps p.tables e below (T.setTop (mkF m 20 #[.val (.ref o0), .val (.ref o1), .val (.long q2), .second, .val (.ref o3), .val (.int p4), .val (.long acc), .second, .val (.int i), .val (.int v4)] [])) _
        refine XS.lload X.here hx rfl (hb hby own_d5_20) rfl ?_
        show Steps p.tables e below (T.setTop (mkF m 22 #[.val (.ref o0), .val (.ref o1), .val (.long q2), .second, .val (.ref o3), .val (.int p4), .val (.long acc), .second, .val (.int i), .val (.int v4)] [(.long acc)])) _
        refine XS.aloadN X.here hx rfl (hb hby own_d5_22) rfl rfl ?_
        show Steps p.tables e below (T.setTop (mkF m 23 #[.val (.ref o0), .val (.ref o1), .val (.long q2), .second, .val (.ref o3), .val (.int p4), .val (.long acc), .second, .val (.int i), .val (.int v4)] [(.ref o1), (.long acc)])) _
        refine XS.iload X.here hx rfl (hb hby own_d5_23) rfl ?_
        show Steps p.tables e below (T.setTop (mkF m 25 #[.val (.ref o0), .val (.ref o1), .val (.long q2), .second, .val (.ref o3), .val (.int p4), .val (.long acc), .second, .val (.int i), .val (.int v4)] [(.int v4), (.ref o1), (.long acc)])) _
        refine own_baloadZ X hx hZ eT f_2 (j := v4) (own_atv hpx hv4 ⟨i1, own_ltl hc10_3 h4.2⟩) (g := (mkF m 25 #[.val (.ref o0), .val (.ref o1), .val (.long q2), .second, .val (.ref o3), .val (.int p4), .val (.long acc), .second, .val (.int i), .val (.int v4)] [(.int v4), (.ref o1), (.long acc)])) rfl rfl (hb hby own_d5_25) _ ?_
        exact k
      obtain ⟨v14, hv14⟩ : ∃ z : Int64, z = (if (List.getD Lx (v4).toInt.toNat 0) = (0 : Int32) then (List.getD Lw (v4).toInt.toNat 0) else (-(List.getD Lw (v4).toInt.toNat 0))) := ⟨_, rfl⟩
      obtain ⟨T15, X15, e15, st15⟩ : ∃ T' : State, Stand p l e own_R5 s m #[(.ref o0), (.ref o1), (.long q2), (.ref o3), (.int p4)] below meth c T' [] 0 0 ∧ T'.heap = h0 ∧ ∀ t, Steps p.tables e below (T'.setTop (mkF m 47 #[.val (.ref o0), .val (.ref o1), .val (.long q2), .second, .val (.ref o3), .val (.int p4), .val (.long acc), .second, .val (.int i), .val (.int v4)] [(.long v14), (.long acc)])) t → Steps p.tables e below (T.setTop (mkF m 26 #[.val (.ref o0), .val (.ref o1), .val (.long q2), .second, .val (.ref o3), .val (.int p4), .val (.long acc), .second, .val (.int i), .val (.int v4)] [(.int (List.getD Lx (v4).toInt.toNat 0)), (.long acc)])) t := by
        rw [hv14]
        by_cases hc26_7 : (List.getD Lx (v4).toInt.toNat 0) = (0 : Int32)
        · repeat rw [if_pos hc26_7]
          have st8 : ∀ t, Steps p.tables e below (T.setTop (mkF m 41 #[.val (.ref o0), .val (.ref o1), .val (.long q2), .second, .val (.ref o3), .val (.int p4), .val (.long acc), .second, .val (.int i), .val (.int v4)] [(.ref o0), (.long acc)])) t → Steps p.tables e below (T.setTop (mkF m 26 #[.val (.ref o0), .val (.ref o1), .val (.long q2), .second, .val (.ref o3), .val (.int p4), .val (.long acc), .second, .val (.int i), .val (.int v4)] [(.int (List.getD Lx (v4).toInt.toNat 0)), (.long acc)])) t := by
            intro t k
            show Steps p.tables e below (T.setTop (mkF m 26 #[.val (.ref o0), .val (.ref o1), .val (.long q2), .second, .val (.ref o3), .val (.int p4), .val (.long acc), .second, .val (.int i), .val (.int v4)] [(.int (List.getD Lx (v4).toInt.toNat 0)), (.long acc)])) _
            refine XS.ifYes X.here hx rfl (pc0 := 26) (pc' := 40) rfl (hb hby own_d5_26) rfl ((if0 _ _).trans (teq hc26_7).1) (by decide) (by decide) ?_
            show Steps p.tables e below (T.setTop (mkF m 40 #[.val (.ref o0), .val (.ref o1), .val (.long q2), .second, .val (.ref o3), .val (.int p4), .val (.long acc), .second, .val (.int i), .val (.int v4)] [(.long acc)])) _
            refine XS.aloadN X.here hx rfl (hb hby own_d5_40) rfl rfl ?_
            exact k
          obtain ⟨T9, X9, e9, st9⟩ := getF X hx hZ hown (host := "") (Or.inl (hw _ (List.mem_of_getElem? (i := 29) rfl))) Via.refl eT f_0 (g := (mkF m 41 #[.val (.ref o0), .val (.ref o1), .val (.long q2), .second, .val (.ref o3), .val (.int p4), .val (.long acc), .second, .val (.int i), .val (.int v4)] [(.ref o0), (.long acc)])) rfl rfl (hb hby own_d5_41)
          have st10 : ∀ t, Steps p.tables e below (T9.setTop (mkF m 47 #[.val (.ref o0), .val (.ref o1), .val (.long q2), .second, .val (.ref o3), .val (.int p4), .val (.long acc), .second, .val (.int i), .val (.int v4)] [(.long (List.getD Lw (v4).toInt.toNat 0)), (.long acc)])) t → Steps p.tables e below (T9.setTop (mkF m 44 #[.val (.ref o0), .val (.ref o1), .val (.long q2), .second, .val (.ref o3), .val (.int p4), .val (.long acc), .second, .val (.int i), .val (.int v4)] [(.ref b), (.long acc)])) t := by
            intro t k
            show Steps p.tables e below (T9.setTop (mkF m 44 #[.val (.ref o0), .val (.ref o1), .val (.long q2), .second, .val (.ref o3), .val (.int p4), .val (.long acc), .second, .val (.int i), .val (.int v4)] [(.ref b), (.long acc)])) _
            refine XS.iload X9.here hx rfl (hb hby own_d5_44) rfl ?_
            show Steps p.tables e below (T9.setTop (mkF m 46 #[.val (.ref o0), .val (.ref o1), .val (.long q2), .second, .val (.ref o3), .val (.int p4), .val (.long acc), .second, .val (.int i), .val (.int v4)] [(.int v4), (.ref b), (.long acc)])) _
            refine own_laloadJ X9 hx hZ e9 f_1 (j := v4) (own_atv hpw hv4 ⟨i1, own_ltl hc10_3 h4.2⟩) (g := (mkF m 46 #[.val (.ref o0), .val (.ref o1), .val (.long q2), .second, .val (.ref o3), .val (.int p4), .val (.long acc), .second, .val (.int i), .val (.int v4)] [(.int v4), (.ref b), (.long acc)])) rfl rfl (hb hby own_d5_46) _ ?_
            exact k
          exact ⟨T9, X9, e9, fun t k => st8 _ (st9 _ (st10 _ k))⟩
        · repeat rw [if_neg hc26_7]
          have st11 : ∀ t, Steps p.tables e below (T.setTop (mkF m 30 #[.val (.ref o0), .val (.ref o1), .val (.long q2), .second, .val (.ref o3), .val (.int p4), .val (.long acc), .second, .val (.int i), .val (.int v4)] [(.ref o0), (.long acc)])) t → Steps p.tables e below (T.setTop (mkF m 26 #[.val (.ref o0), .val (.ref o1), .val (.long q2), .second, .val (.ref o3), .val (.int p4), .val (.long acc), .second, .val (.int i), .val (.int v4)] [(.int (List.getD Lx (v4).toInt.toNat 0)), (.long acc)])) t := by
            intro t k
            show Steps p.tables e below (T.setTop (mkF m 26 #[.val (.ref o0), .val (.ref o1), .val (.long q2), .second, .val (.ref o3), .val (.int p4), .val (.long acc), .second, .val (.int i), .val (.int v4)] [(.int (List.getD Lx (v4).toInt.toNat 0)), (.long acc)])) _
            refine XS.ifNo X.here hx rfl (hb hby own_d5_26) rfl ((if0 _ _).trans (feq hc26_7).1) ?_
            show Steps p.tables e below (T.setTop (mkF m 29 #[.val (.ref o0), .val (.ref o1), .val (.long q2), .second, .val (.ref o3), .val (.int p4), .val (.long acc), .second, .val (.int i), .val (.int v4)] [(.long acc)])) _
            refine XS.aloadN X.here hx rfl (hb hby own_d5_29) rfl rfl ?_
            exact k
          obtain ⟨T12, X12, e12, st12⟩ := getF X hx hZ hown (host := "") (Or.inl (hw _ (List.mem_of_getElem? (i := 29) rfl))) Via.refl eT f_0 (g := (mkF m 30 #[.val (.ref o0), .val (.ref o1), .val (.long q2), .second, .val (.ref o3), .val (.int p4), .val (.long acc), .second, .val (.int i), .val (.int v4)] [(.ref o0), (.long acc)])) rfl rfl (hb hby own_d5_30)
          have st13 : ∀ t, Steps p.tables e below (T12.setTop (mkF m 47 #[.val (.ref o0), .val (.ref o1), .val (.long q2), .second, .val (.ref o3), .val (.int p4), .val (.long acc), .second, .val (.int i), .val (.int v4)] [(.long (-(List.getD Lw (v4).toInt.toNat 0))), (.long acc)])) t → Steps p.tables e below (T12.setTop (mkF m 33 #[.val (.ref o0), .val (.ref o1), .val (.long q2), .second, .val (.ref o3), .val (.int p4), .val (.long acc), .second, .val (.int i), .val (.int v4)] [(.ref b), (.long acc)])) t := by
            intro t k
            show Steps p.tables e below (T12.setTop (mkF m 33 #[.val (.ref o0), .val (.ref o1), .val (.long q2), .second, .val (.ref o3), .val (.int p4), .val (.long acc), .second, .val (.int i), .val (.int v4)] [(.ref b), (.long acc)])) _
            refine XS.iload X12.here hx rfl (hb hby own_d5_33) rfl ?_
            show Steps p.tables e below (T12.setTop (mkF m 35 #[.val (.ref o0), .val (.ref o1), .val (.long q2), .second, .val (.ref o3), .val (.int p4), .val (.long acc), .second, .val (.int i), .val (.int v4)] [(.int v4), (.ref b), (.long acc)])) _
            refine own_laloadJ X12 hx hZ e12 f_1 (j := v4) (own_atv hpw hv4 ⟨i1, own_ltl hc10_3 h4.2⟩) (g := (mkF m 35 #[.val (.ref o0), .val (.ref o1), .val (.long q2), .second, .val (.ref o3), .val (.int p4), .val (.long acc), .second, .val (.int i), .val (.int v4)] [(.int v4), (.ref b), (.long acc)])) rfl rfl (hb hby own_d5_35) _ ?_
            show Steps p.tables e below (T12.setTop (mkF m 36 #[.val (.ref o0), .val (.ref o1), .val (.long q2), .second, .val (.ref o3), .val (.int p4), .val (.long acc), .second, .val (.int i), .val (.int v4)] [(.long (List.getD Lw (v4).toInt.toNat 0)), (.long acc)])) _
            refine XS.lneg X12.here hx rfl (hb hby own_d5_36) rfl ?_
            show Steps p.tables e below (T12.setTop (mkF m 37 #[.val (.ref o0), .val (.ref o1), .val (.long q2), .second, .val (.ref o3), .val (.int p4), .val (.long acc), .second, .val (.int i), .val (.int v4)] [(.long (-(List.getD Lw (v4).toInt.toNat 0))), (.long acc)])) _
            refine XS.goto X12.here hx rfl (pc0 := 37) (pc' := 47) rfl (hb hby own_d5_37) (by decide) (by decide) ?_
            exact k
          exact ⟨T12, X12, e12, fun t k => st11 _ (st12 _ (st13 _ k))⟩
      obtain ⟨v16, hv16⟩ : ∃ z : Int64, z = (acc + v14) := ⟨_, rfl⟩
      have st17 : ∀ t, Steps p.tables e below (T15.setTop (mkF m 50 #[.val (.ref o0), .val (.ref o1), .val (.long q2), .second, .val (.ref o3), .val (.int p4), .val (.long v16), .second, .val (.int i), .val (.int v4)] [])) t → Steps p.tables e below (T15.setTop (mkF m 47 #[.val (.ref o0), .val (.ref o1), .val (.long q2), .second, .val (.ref o3), .val (.int p4), .val (.long acc), .second, .val (.int i), .val (.int v4)] [(.long v14), (.long acc)])) t := by
        rw [hv16]
        intro t k
        show Steps p.tables e below (T15.setTop (mkF m 47 #[.val (.ref o0), .val (.ref o1), .val (.long q2), .second, .val (.ref o3), .val (.int p4), .val (.long acc), .second, .val (.int i), .val (.int v4)] [(.long v14), (.long acc)])) _
        refine XS.ladd X15.here hx rfl (hb hby own_d5_47) rfl ?_
        show Steps p.tables e below (T15.setTop (mkF m 48 #[.val (.ref o0), .val (.ref o1), .val (.long q2), .second, .val (.ref o3), .val (.int p4), .val (.long acc), .second, .val (.int i), .val (.int v4)] [(.long (acc + v14))])) _
        refine XS.lstore X15.here hx rfl (hb hby own_d5_48) rfl (l' := #[.val (.ref o0), .val (.ref o1), .val (.long q2), .second, .val (.ref o3), .val (.int p4), .val (.long (acc + v14)), .second, .val (.int i), .val (.int v4)]) rfl ?_
        exact k
      obtain ⟨v18, hv18⟩ : ∃ z : Int32, z = (i + (1 : Int32)) := ⟨_, rfl⟩
      have st19 : ∀ t, Steps p.tables e below (T15.setTop (mkF m 53 #[.val (.ref o0), .val (.ref o1), .val (.long q2), .second, .val (.ref o3), .val (.int p4), .val (.long v16), .second, .val (.int v18), .val (.int v4)] [])) t → Steps p.tables e below (T15.setTop (mkF m 50 #[.val (.ref o0), .val (.ref o1), .val (.long q2), .second, .val (.ref o3), .val (.int p4), .val (.long v16), .second, .val (.int i), .val (.int v4)] [])) t := by
        rw [hv18]
        intro t k
        show Steps p.tables e below (T15.setTop (mkF m 50 #[.val (.ref o0), .val (.ref o1), .val (.long q2), .second, .val (.ref o3), .val (.int p4), .val (.long v16), .second, .val (.int i), .val (.int v4)] [])) _
        refine XS.iinc X15.here hx rfl (hb hby own_d5_50) rfl (l' := #[.val (.ref o0), .val (.ref o1), .val (.long q2), .second, .val (.ref o3), .val (.int p4), .val (.long v16), .second, .val (.int (i + (1 : Int32))), .val (.int v4)]) rfl ?_
        exact k
      have st20 : ∀ t, Steps p.tables e below (T15.setTop (mkF m 6 #[.val (.ref o0), .val (.ref o1), .val (.long q2), .second, .val (.ref o3), .val (.int p4), .val (.long v16), .second, .val (.int v18), .val (.int v4)] [])) t → Steps p.tables e below (T15.setTop (mkF m 53 #[.val (.ref o0), .val (.ref o1), .val (.long q2), .second, .val (.ref o3), .val (.int p4), .val (.long v16), .second, .val (.int v18), .val (.int v4)] [])) t := by
        intro t k
        show Steps p.tables e below (T15.setTop (mkF m 53 #[.val (.ref o0), .val (.ref o1), .val (.long q2), .second, .val (.ref o3), .val (.int p4), .val (.long v16), .second, .val (.int v18), .val (.int v4)] [])) _
        refine XS.goto X15.here hx rfl (pc0 := 53) (pc' := 6) rfl (hb hby own_d5_53) (by decide) (by decide) ?_
        exact k
      refine own_End.go (fun t k => st5 _ (st6 _ (st15 _ (st17 _ (st19 _ (st20 _ k)))))) ?_
      rw [← (own_e5_21 hv4 hv14 hv16 hv18 hc10_3)]
      exact ih T15 v16 v18 (.val (.int v4)) X15 e15 f_0 f_1 f_2 f_3 (One.val rfl) h4 hpx hpw (by have c := hc10_3; rw [Int32.lt_iff_toInt_lt] at c; have e := own_succ hv18 (by have := rng32 p4; omega); omega) (by have c := hc10_3; rw [Int32.lt_iff_toInt_lt] at c; have e := own_succ hv18 (by have := rng32 p4; omega); omega) (by have c := hc10_3; rw [Int32.lt_iff_toInt_lt] at c; have e := own_succ hv18 (by have := rng32 p4; omega); omega)
    · have st22 : ∀ t, Steps p.tables e below (T.setTop (mkF m 58 #[.val (.ref o0), .val (.ref o1), .val (.long q2), .second, .val (.ref o3), .val (.int p4), .val (.long acc), .second, .val (.int i), s9] [(.long acc)])) t → Steps p.tables e below (T.setTop (mkF m 10 #[.val (.ref o0), .val (.ref o1), .val (.long q2), .second, .val (.ref o3), .val (.int p4), .val (.long acc), .second, .val (.int i), s9] [(.int p4), (.int i)])) t := by
        intro t k
        show Steps p.tables e below (T.setTop (mkF m 10 #[.val (.ref o0), .val (.ref o1), .val (.long q2), .second, .val (.ref o3), .val (.int p4), .val (.long acc), .second, .val (.int i), s9] [(.int p4), (.int i)])) _
        refine XS.icmpYes X.here hx rfl (pc0 := 10) (pc' := 56) rfl (hb hby own_d5_10) rfl (flt hc10_3).2.1 (by decide) (by decide) ?_
        show Steps p.tables e below (T.setTop (mkF m 56 #[.val (.ref o0), .val (.ref o1), .val (.long q2), .second, .val (.ref o3), .val (.int p4), .val (.long acc), .second, .val (.int i), s9] [])) _
        refine XS.lload X.here hx rfl (hb hby own_d5_56) rfl ?_
        exact k
      refine own_End.go (fun t k => st22 _ k) ?_
      exact own_leafJ X hx hk hret (hb hby own_d5_58) ⟨congrArg (fun z => some (Value.long z)) (own_e5_23 hc10_3), rfl, eT⟩ (by decide) (by decide)
def own_F5 (q2 : Int64) (p4 : Int32) (Lw : List Int64) (Lx : List Int32) (Lp : List Int32) : Int64 :=
  (own_P5_6_0 q2 p4 Lw Lx Lp (Lp.length + 1) q2 (0 : Int32))
def own_Q5 (Z : State) (o0 : Addr) (o1 : Addr) (q2 : Int64) (o3 : Addr) (p4 : Int32) (b : Addr) (Lw : List Int64) (Lx : List Int32) (Lp : List Int32) (h0 : Heap) (n0 : Nat) (vz : Option Value) (h : Heap) (Lz : List Loc) : Prop := vz = some (.long (own_F5 q2 p4 Lw Lx Lp)) ∧ Lz = [] ∧ h = h0
theorem own_e5_24 {q2 : Int64} {p4 : Int32} {Lw : List Int64} {Lx : List Int32} {Lp : List Int32} : (own_P5_6_0 q2 p4 Lw Lx Lp (Lp.length + 1) q2 (0 : Int32)) = (own_F5 q2 p4 Lw Lx Lp) := by
  skip
  first
    | (simp only [own_F5]; done)
    | (exfalso; contradiction)
set_option maxRecDepth 65536 in
set_option maxHeartbeats 40000000 in
theorem own_rm5 (l : Launch) (Z : State) (a0 : Array Value) (hw : ∀ d ∈ tables_1, d.before a0 Z = true) (ws : List Jvm.Cond) (o0 : Addr) (o1 : Addr) (q2 : Int64) (o3 : Addr) (p4 : Int32) (b : Addr) (Lw : List Int64) (Lx : List Int32) (Lp : List Int32) (h0 : Heap) (n0 : Nat) (Z0 : n0 ≤ h0.size) (F_o0_weights : Fld Z h0 o0 "com/example/evotempo/evotempo/problem/LinearFunction" "weights" "[J" (.ref b)) (V_b : own_JA Z h0 b Lw) (V_o1 : own_IA Z h0 o1 .boolean Lx) (V_o3 : own_IA Z h0 o3 .int Lp) (h4 : 0 ≤ p4.toInt ∧ p4.toInt ≤ (Lp.length : Int)) (hpx : ∀ x ∈ Lp, 0 ≤ x.toInt ∧ x.toInt < (Lx.length : Int)) (hpw : ∀ x ∈ Lp, 0 ≤ x.toInt ∧ x.toInt < (Lw.length : Int)) :
    MetFree l (⟨"com/example/evotempo/evotempo/problem/LinearFunction", "fitnessAfterFlips", "([ZJ[II)J"⟩ : MethodName) (head1 (Jvm.Cond.code (⟨"com/example/evotempo/evotempo/problem/LinearFunction", "fitnessAfterFlips", "([ZJ[II)J"⟩ : MethodName) prog_74_method_7_code 10 (some .long) :: ws) own_R5) (fun a U => a = #[(.ref o0), (.ref o1), (.long q2), (.ref o3), (.int p4)] ∧ Z.Warmed39 U.vm ∧ U.heap = h0) (fun _ _ _ _ _ => True) (fun _ U o U' => ∃ vz Lz, o = .returned vz ∧ own_Q5 Z o0 o1 q2 o3 p4 b Lw Lx Lp h0 n0 vz U'.heap Lz ∧ FrameEnd U o U' Lz own_R5.cells own_R5.slots) := by
  refine MetFree.of_bodySF (plainFor_of_name own_pn5) hisR ?_
  intro p e s m args below meth c s₁ Bd hml0 hP hK
  obtain ⟨rfl, hZ, hh⟩ := hP
  have hx := Bd.exec
  have hby := Bd.bytes
  have hml : c.maxLocals = 10 := hml0
  have hown : s.vm.findClass "com/example/evotempo/evotempo/problem/LinearFunction" = some m.cls := findClass_of_methodNamed Bd.named
  have hnm := (name_of_methodNamed Bd.named Bd.method).1
  have X0 : Stand p l e own_R5 s m #[(.ref o0), (.ref o1), (.long q2), (.ref o3), (.int p4)] below meth c s₁ [] 0 0 := Stand.of_body Bd
  have e0 : s₁.heap = h0 := by rw [← hh, Bd.state]; rfl
  show own_End p e below s (fun vz h Lz => vz = some (.long (own_F5 q2 p4 Lw Lx Lp)) ∧ Lz = [] ∧ h = h0) own_R5.cells own_R5.slots s₁ (entryFrame m #[(.ref o0), (.ref o1), (.long q2), (.ref o3), (.int p4)] 10)
  refine own_End.go (fun t k => castTop (own_ef5 m o0 o1 q2 o3 p4) k) ?_
  show own_End p e below s _ _ _ s₁ (mkF m 0 #[.val (.ref o0), .val (.ref o1), .val (.long q2), .second, .val (.ref o3), .val (.int p4), .unset, .unset, .unset, .unset] [])
  have N0 := Fr.nil n0
  have K0 : Keep h0 h0 [] := Keep.refl h0 _
  have st1 : ∀ t, Steps p.tables e below (s₁.setTop (mkF m 6 #[.val (.ref o0), .val (.ref o1), .val (.long q2), .second, .val (.ref o3), .val (.int p4), .val (.long q2), .second, .val (.int (0 : Int32)), .unset] [])) t → Steps p.tables e below (s₁.setTop (mkF m 0 #[.val (.ref o0), .val (.ref o1), .val (.long q2), .second, .val (.ref o3), .val (.int p4), .unset, .unset, .unset, .unset] [])) t := by
    intro t k
    show Steps p.tables e below (s₁.setTop (mkF m 0 #[.val (.ref o0), .val (.ref o1), .val (.long q2), .second, .val (.ref o3), .val (.int p4), .unset, .unset, .unset, .unset] [])) _
    refine XS.lloadN X0.here hx rfl (hb hby own_d5_0) rfl ?_
    show Steps p.tables e below (s₁.setTop (mkF m 1 #[.val (.ref o0), .val (.ref o1), .val (.long q2), .second, .val (.ref o3), .val (.int p4), .unset, .unset, .unset, .unset] [(.long q2)])) _
    refine XS.lstore X0.here hx rfl (hb hby own_d5_1) rfl (l' := #[.val (.ref o0), .val (.ref o1), .val (.long q2), .second, .val (.ref o3), .val (.int p4), .val (.long q2), .second, .unset, .unset]) rfl ?_
    show Steps p.tables e below (s₁.setTop (mkF m 3 #[.val (.ref o0), .val (.ref o1), .val (.long q2), .second, .val (.ref o3), .val (.int p4), .val (.long q2), .second, .unset, .unset] [])) _
    refine XS.iconst X0.here hx rfl (hb hby own_d5_3) ?_
    show Steps p.tables e below (s₁.setTop (mkF m 4 #[.val (.ref o0), .val (.ref o1), .val (.long q2), .second, .val (.ref o3), .val (.int p4), .val (.long q2), .second, .unset, .unset] [(.int (0 : Int32))])) _
    refine XS.istore X0.here hx rfl (hb hby own_d5_4) rfl (l' := #[.val (.ref o0), .val (.ref o1), .val (.long q2), .second, .val (.ref o3), .val (.int p4), .val (.long q2), .second, .val (.int (0 : Int32)), .unset]) rfl ?_
    exact k
  refine own_End.go (fun t k => st1 _ k) ?_
  rw [← (own_e5_24)]
  exact own_lp5_6 (n0 := n0) hx hZ hw hby hml hown hnm Bd.returns Bd.notSynchronized o0 o1 q2 o3 p4 b Lw Lx Lp (Lp.length + 1) s₁ q2 (0 : Int32) (.unset) X0 e0 F_o0_weights V_b V_o1 V_o3 One.u h4 hpx hpw (by decide) (by have := own_z0; omega) (by have := own_z0; omega)
theorem own_add {a b : Int64} (ha : 0 ≤ a.toInt ∧ a.toInt ≤ 2305843009213693952) (hb : 0 ≤ b.toInt ∧ b.toInt ≤ 1152921504606846976) : own_ok a b ∧ (own_F4 a b).toInt = a.toInt + b.toInt := by
  have s := c_ladd a b
  have r := rng64 (a + b)
  have e : (a + b).toInt = a.toInt + b.toInt := by omega
  have y : (0 : Int64).toInt = 0 := by decide
  refine ⟨?_, e⟩
  unfold own_ok
  rw [Int64.lt_iff_toInt_lt, y]
  have x1 := (c_xorSL a (a + b)).2.2.2 ha.1 (by omega)
  have n := (c_andSL (a ^^^ (a + b)) (b ^^^ (a + b))).2.1 x1
  omega
theorem own_k0 {v q : Int64} (h : v = ((q &&& (1152921504606846975 : Int64)) + (1 : Int64))) : own_ok (0 : Int64) v :=
  (own_add (by decide) ⟨by have := own_w h; omega, (own_w h).2⟩).1
theorem own_f1 {v q : Int64} (h : v = ((q &&& (1152921504606846975 : Int64)) + (1 : Int64))) : 0 ≤ (own_F4 (0 : Int64) v).toInt ∧ (own_F4 (0 : Int64) v).toInt ≤ 1152921504606846976 := by
  have b := own_w h
  have e := (own_add (a := 0) (b := v) (by decide) ⟨by omega, b.2⟩).2
  have y : (0 : Int64).toInt = 0 := by decide
  omega
theorem own_k1 {v w q r : Int64} (h : v = ((q &&& (1152921504606846975 : Int64)) + (1 : Int64))) (h' : w = ((r &&& (1152921504606846975 : Int64)) + (1 : Int64))) : own_ok (own_F4 (0 : Int64) v) w := by
  have b := own_f1 h
  exact (own_add ⟨b.1, by omega⟩ ⟨by have := own_w h'; omega, (own_w h').2⟩).1
theorem own_k2 {v w u q r t : Int64} (h : v = ((q &&& (1152921504606846975 : Int64)) + (1 : Int64))) (h' : w = ((r &&& (1152921504606846975 : Int64)) + (1 : Int64))) (h'' : u = ((t &&& (1152921504606846975 : Int64)) + (1 : Int64))) : own_ok (own_F4 (own_F4 (0 : Int64) v) w) u := by
  have b := own_f1 h
  have b' := own_w h'
  have e := (own_add (a := own_F4 (0 : Int64) v) (b := w) ⟨b.1, by omega⟩ ⟨by omega, b'.2⟩).2
  exact (own_add ⟨by omega, by omega⟩ ⟨by have := own_w h''; omega, (own_w h'').2⟩).1

theorem own_pn0 : plainName "com/example/evotempo/evotempo/problem/LinearFunctionFitnessAfterFlipsPinLaw" = true := by first | (simp [plainName, overriddenIn]; done) | decide +kernel
theorem own_ef0 (m : MethodId) (q0 : Int64) (q1 : Int64) (q2 : Int64) (p3 : Int32) (p4 : Int32) (p5 : Int32) : entryFrame m #[(.long q0), (.long q1), (.long q2), (.int p3), (.int p4), (.int p5)] maxLocals = mkF m 0 #[.val (.long q0), .second, .val (.long q1), .second, .val (.long q2), .second, .val (.int p3), .val (.int p4), .val (.int p5), .unset, .unset, .unset, .unset, .unset, .unset, .unset, .unset, .unset, .unset, .unset, .unset, .unset, .unset, .unset, .unset, .unset, .unset, .unset, .unset, .unset, .unset, .unset, .unset, .unset, .unset, .unset, .unset] [] := by first | (simp [entryFrame, mkF, argsToLocals, Value.category, maxLocals]; done) | rfl
def own_F0 (q0 : Int64) (q1 : Int64) (q2 : Int64) (p3 : Int32) (p4 : Int32) (p5 : Int32) : Int32 :=
  let v1 : Int64 := ((q0 &&& (1152921504606846975 : Int64)) + (1 : Int64))
  let v3 : Int64 := ((q1 &&& (1152921504606846975 : Int64)) + (1 : Int64))
  let v5 : Int64 := ((q2 &&& (1152921504606846975 : Int64)) + (1 : Int64))
  let v11 : Int32 := (if (p3 &&& (1 : Int32)) = (0 : Int32) then (0 : Int32) else (1 : Int32))
  let v17 : Int32 := (if (p3 &&& (2 : Int32)) = (0 : Int32) then (0 : Int32) else (1 : Int32))
  let v23 : Int32 := (if (p3 &&& (4 : Int32)) = (0 : Int32) then (0 : Int32) else (1 : Int32))
  let v25 : Int32 := (p5 &&& (3 : Int32))
  let v27 : Int32 := ((p4 &&& (2147483647 : Int32)) - ((p4 &&& (2147483647 : Int32)) / (6 : Int32)) * (6 : Int32))
  let v29 : Int32 := (v27 / (2 : Int32))
  let v35 : Int32 := (if v29 = (0 : Int32) then (1 : Int32) else (0 : Int32))
  let v41 : Int32 := (if v29 = (2 : Int32) then (1 : Int32) else (2 : Int32))
  let v47 : Int32 := (if (v27 &&& (1 : Int32)) = (0 : Int32) then v35 else v41)
  let v53 : Int32 := (if (v27 &&& (1 : Int32)) = (0 : Int32) then v41 else v35)
  let v57 : Int32 := (own_F1 (0 : Int32) v29 v47 v53 v25)
  let v61 : Int32 := (if v11 = v57 then (0 : Int32) else (1 : Int32))
  let v65 : Int32 := (own_F1 (1 : Int32) v29 v47 v53 v25)
  let v69 : Int32 := (if v17 = v65 then (0 : Int32) else (1 : Int32))
  let v73 : Int32 := (own_F1 (2 : Int32) v29 v47 v53 v25)
  let v77 : Int32 := (if v23 = v73 then (0 : Int32) else (1 : Int32))
  let v83 : Int64 := (if v11 = (0 : Int32) then (0 : Int64) else v1)
  let v89 : Int64 := (if v17 = (0 : Int32) then (0 : Int64) else v3)
  let v95 : Int64 := (if v23 = (0 : Int32) then (0 : Int64) else v5)
  let v96 : Int64 := (v83 + v89)
  let v98 : Int64 := (v96 + v95)
  let v104 : Int64 := (if v61 = (0 : Int32) then (0 : Int64) else v1)
  let v110 : Int64 := (if v69 = (0 : Int32) then (0 : Int64) else v3)
  let v116 : Int64 := (if v77 = (0 : Int32) then (0 : Int64) else v5)
  let v117 : Int64 := (v104 + v110)
  let v119 : Int64 := (v117 + v116)
  let v233 : Int64 := (own_F5 v98 v25 ([v1, v3, v5] : List Int64) ([(nar .boolean v11), (nar .boolean v17), (nar .boolean v23)] : List Int32) ([v29, v47, v53] : List Int32))
  if v233 = v119 then
    if (nar .boolean v11) = v11 then
      if (nar .boolean v17) = v17 then
        if (nar .boolean v23) = v23 then
          (1 : Int32)
        else
          (0 : Int32)
      else
        (0 : Int32)
    else
      (0 : Int32)
  else
    (0 : Int32)
def own_Q0 (Z : State) (q0 : Int64) (q1 : Int64) (q2 : Int64) (p3 : Int32) (p4 : Int32) (p5 : Int32) (h0 : Heap) (n0 : Nat) (vz : Option Value) (h : Heap) (Lz : List Loc) : Prop := vz = some (.int (own_F0 q0 q1 q2 p3 p4 p5)) ∧ Fr n0 Lz
theorem own_e0_243 {q0 : Int64} {q1 : Int64} {q2 : Int64} {p3 : Int32} {p4 : Int32} {p5 : Int32} {v1 : Int64} {v3 : Int64} {v5 : Int64} {v11 : Int32} {v17 : Int32} {v23 : Int32} {v25 : Int32} {v27 : Int32} {v29 : Int32} {v35 : Int32} {v41 : Int32} {v47 : Int32} {v53 : Int32} {v57 : Int32} {v61 : Int32} {v65 : Int32} {v69 : Int32} {v73 : Int32} {v77 : Int32} {v83 : Int64} {v89 : Int64} {v95 : Int64} {v96 : Int64} {v98 : Int64} {v104 : Int64} {v110 : Int64} {v116 : Int64} {v117 : Int64} {v119 : Int64} {v233 : Int64} (hv1 : v1 = ((q0 &&& (1152921504606846975 : Int64)) + (1 : Int64))) (hv3 : v3 = ((q1 &&& (1152921504606846975 : Int64)) + (1 : Int64))) (hv5 : v5 = ((q2 &&& (1152921504606846975 : Int64)) + (1 : Int64))) (hv11 : v11 = (if (p3 &&& (1 : Int32)) = (0 : Int32) then (0 : Int32) else (1 : Int32))) (hv17 : v17 = (if (p3 &&& (2 : Int32)) = (0 : Int32) then (0 : Int32) else (1 : Int32))) (hv23 : v23 = (if (p3 &&& (4 : Int32)) = (0 : Int32) then (0 : Int32) else (1 : Int32))) (hv25 : v25 = (p5 &&& (3 : Int32))) (hv27 : v27 = ((p4 &&& (2147483647 : Int32)) - ((p4 &&& (2147483647 : Int32)) / (6 : Int32)) * (6 : Int32))) (hv29 : v29 = (v27 / (2 : Int32))) (hv35 : v35 = (if v29 = (0 : Int32) then (1 : Int32) else (0 : Int32))) (hv41 : v41 = (if v29 = (2 : Int32) then (1 : Int32) else (2 : Int32))) (hv47 : v47 = (if (v27 &&& (1 : Int32)) = (0 : Int32) then v35 else v41)) (hv53 : v53 = (if (v27 &&& (1 : Int32)) = (0 : Int32) then v41 else v35)) (hv57 : v57 = (own_F1 (0 : Int32) v29 v47 v53 v25)) (hv61 : v61 = (if v11 = v57 then (0 : Int32) else (1 : Int32))) (hv65 : v65 = (own_F1 (1 : Int32) v29 v47 v53 v25)) (hv69 : v69 = (if v17 = v65 then (0 : Int32) else (1 : Int32))) (hv73 : v73 = (own_F1 (2 : Int32) v29 v47 v53 v25)) (hv77 : v77 = (if v23 = v73 then (0 : Int32) else (1 : Int32))) (hv83 : v83 = (if v11 = (0 : Int32) then (0 : Int64) else v1)) (hv89 : v89 = (if v17 = (0 : Int32) then (0 : Int64) else v3)) (hv95 : v95 = (if v23 = (0 : Int32) then (0 : Int64) else v5)) (hv96 : v96 = (v83 + v89)) (hv98 : v98 = (v96 + v95)) (hv104 : v104 = (if v61 = (0 : Int32) then (0 : Int64) else v1)) (hv110 : v110 = (if v69 = (0 : Int32) then (0 : Int64) else v3)) (hv116 : v116 = (if v77 = (0 : Int32) then (0 : Int64) else v5)) (hv117 : v117 = (v104 + v110)) (hv119 : v119 = (v117 + v116)) (hv233 : v233 = (own_F5 v98 v25 ([v1, v3, v5] : List Int64) ([(nar .boolean v11), (nar .boolean v17), (nar .boolean v23)] : List Int32) ([v29, v47, v53] : List Int32))) (hc382_235 : v233 = v119) (hc391_237 : (nar .boolean v11) = v11) (hc400_239 : (nar .boolean v17) = v17) (hc409_241 : (nar .boolean v23) = v23) : (nar .boolean (1 : Int32)) = (own_F0 q0 q1 q2 p3 p4 p5) := by
  rw [own_nb1]
  subst hv1 hv3 hv5 hv11 hv17 hv23 hv25 hv27 hv29 hv35 hv41 hv47 hv53 hv57 hv61 hv65 hv69 hv73 hv77 hv83 hv89 hv95 hv96 hv98 hv104 hv110 hv116 hv117 hv119 hv233
  first
    | (simp only [own_F0, if_pos hc382_235, if_pos hc391_237, if_pos hc400_239, if_pos hc409_241]; done)
    | (exfalso; contradiction)
theorem own_e0_245 {q0 : Int64} {q1 : Int64} {q2 : Int64} {p3 : Int32} {p4 : Int32} {p5 : Int32} {v1 : Int64} {v3 : Int64} {v5 : Int64} {v11 : Int32} {v17 : Int32} {v23 : Int32} {v25 : Int32} {v27 : Int32} {v29 : Int32} {v35 : Int32} {v41 : Int32} {v47 : Int32} {v53 : Int32} {v57 : Int32} {v61 : Int32} {v65 : Int32} {v69 : Int32} {v73 : Int32} {v77 : Int32} {v83 : Int64} {v89 : Int64} {v95 : Int64} {v96 : Int64} {v98 : Int64} {v104 : Int64} {v110 : Int64} {v116 : Int64} {v117 : Int64} {v119 : Int64} {v233 : Int64} (hv1 : v1 = ((q0 &&& (1152921504606846975 : Int64)) + (1 : Int64))) (hv3 : v3 = ((q1 &&& (1152921504606846975 : Int64)) + (1 : Int64))) (hv5 : v5 = ((q2 &&& (1152921504606846975 : Int64)) + (1 : Int64))) (hv11 : v11 = (if (p3 &&& (1 : Int32)) = (0 : Int32) then (0 : Int32) else (1 : Int32))) (hv17 : v17 = (if (p3 &&& (2 : Int32)) = (0 : Int32) then (0 : Int32) else (1 : Int32))) (hv23 : v23 = (if (p3 &&& (4 : Int32)) = (0 : Int32) then (0 : Int32) else (1 : Int32))) (hv25 : v25 = (p5 &&& (3 : Int32))) (hv27 : v27 = ((p4 &&& (2147483647 : Int32)) - ((p4 &&& (2147483647 : Int32)) / (6 : Int32)) * (6 : Int32))) (hv29 : v29 = (v27 / (2 : Int32))) (hv35 : v35 = (if v29 = (0 : Int32) then (1 : Int32) else (0 : Int32))) (hv41 : v41 = (if v29 = (2 : Int32) then (1 : Int32) else (2 : Int32))) (hv47 : v47 = (if (v27 &&& (1 : Int32)) = (0 : Int32) then v35 else v41)) (hv53 : v53 = (if (v27 &&& (1 : Int32)) = (0 : Int32) then v41 else v35)) (hv57 : v57 = (own_F1 (0 : Int32) v29 v47 v53 v25)) (hv61 : v61 = (if v11 = v57 then (0 : Int32) else (1 : Int32))) (hv65 : v65 = (own_F1 (1 : Int32) v29 v47 v53 v25)) (hv69 : v69 = (if v17 = v65 then (0 : Int32) else (1 : Int32))) (hv73 : v73 = (own_F1 (2 : Int32) v29 v47 v53 v25)) (hv77 : v77 = (if v23 = v73 then (0 : Int32) else (1 : Int32))) (hv83 : v83 = (if v11 = (0 : Int32) then (0 : Int64) else v1)) (hv89 : v89 = (if v17 = (0 : Int32) then (0 : Int64) else v3)) (hv95 : v95 = (if v23 = (0 : Int32) then (0 : Int64) else v5)) (hv96 : v96 = (v83 + v89)) (hv98 : v98 = (v96 + v95)) (hv104 : v104 = (if v61 = (0 : Int32) then (0 : Int64) else v1)) (hv110 : v110 = (if v69 = (0 : Int32) then (0 : Int64) else v3)) (hv116 : v116 = (if v77 = (0 : Int32) then (0 : Int64) else v5)) (hv117 : v117 = (v104 + v110)) (hv119 : v119 = (v117 + v116)) (hv233 : v233 = (own_F5 v98 v25 ([v1, v3, v5] : List Int64) ([(nar .boolean v11), (nar .boolean v17), (nar .boolean v23)] : List Int32) ([v29, v47, v53] : List Int32))) (hc382_235 : v233 = v119) (hc391_237 : (nar .boolean v11) = v11) (hc400_239 : (nar .boolean v17) = v17) (hc409_241 : ¬ ((nar .boolean v23) = v23)) : (nar .boolean (0 : Int32)) = (own_F0 q0 q1 q2 p3 p4 p5) := by
  rw [own_nb0]
  subst hv1 hv3 hv5 hv11 hv17 hv23 hv25 hv27 hv29 hv35 hv41 hv47 hv53 hv57 hv61 hv65 hv69 hv73 hv77 hv83 hv89 hv95 hv96 hv98 hv104 hv110 hv116 hv117 hv119 hv233
  first
    | (simp only [own_F0, if_pos hc382_235, if_pos hc391_237, if_pos hc400_239, if_neg hc409_241]; done)
    | (exfalso; contradiction)
theorem own_e0_247 {q0 : Int64} {q1 : Int64} {q2 : Int64} {p3 : Int32} {p4 : Int32} {p5 : Int32} {v1 : Int64} {v3 : Int64} {v5 : Int64} {v11 : Int32} {v17 : Int32} {v23 : Int32} {v25 : Int32} {v27 : Int32} {v29 : Int32} {v35 : Int32} {v41 : Int32} {v47 : Int32} {v53 : Int32} {v57 : Int32} {v61 : Int32} {v65 : Int32} {v69 : Int32} {v73 : Int32} {v77 : Int32} {v83 : Int64} {v89 : Int64} {v95 : Int64} {v96 : Int64} {v98 : Int64} {v104 : Int64} {v110 : Int64} {v116 : Int64} {v117 : Int64} {v119 : Int64} {v233 : Int64} (hv1 : v1 = ((q0 &&& (1152921504606846975 : Int64)) + (1 : Int64))) (hv3 : v3 = ((q1 &&& (1152921504606846975 : Int64)) + (1 : Int64))) (hv5 : v5 = ((q2 &&& (1152921504606846975 : Int64)) + (1 : Int64))) (hv11 : v11 = (if (p3 &&& (1 : Int32)) = (0 : Int32) then (0 : Int32) else (1 : Int32))) (hv17 : v17 = (if (p3 &&& (2 : Int32)) = (0 : Int32) then (0 : Int32) else (1 : Int32))) (hv23 : v23 = (if (p3 &&& (4 : Int32)) = (0 : Int32) then (0 : Int32) else (1 : Int32))) (hv25 : v25 = (p5 &&& (3 : Int32))) (hv27 : v27 = ((p4 &&& (2147483647 : Int32)) - ((p4 &&& (2147483647 : Int32)) / (6 : Int32)) * (6 : Int32))) (hv29 : v29 = (v27 / (2 : Int32))) (hv35 : v35 = (if v29 = (0 : Int32) then (1 : Int32) else (0 : Int32))) (hv41 : v41 = (if v29 = (2 : Int32) then (1 : Int32) else (2 : Int32))) (hv47 : v47 = (if (v27 &&& (1 : Int32)) = (0 : Int32) then v35 else v41)) (hv53 : v53 = (if (v27 &&& (1 : Int32)) = (0 : Int32) then v41 else v35)) (hv57 : v57 = (own_F1 (0 : Int32) v29 v47 v53 v25)) (hv61 : v61 = (if v11 = v57 then (0 : Int32) else (1 : Int32))) (hv65 : v65 = (own_F1 (1 : Int32) v29 v47 v53 v25)) (hv69 : v69 = (if v17 = v65 then (0 : Int32) else (1 : Int32))) (hv73 : v73 = (own_F1 (2 : Int32) v29 v47 v53 v25)) (hv77 : v77 = (if v23 = v73 then (0 : Int32) else (1 : Int32))) (hv83 : v83 = (if v11 = (0 : Int32) then (0 : Int64) else v1)) (hv89 : v89 = (if v17 = (0 : Int32) then (0 : Int64) else v3)) (hv95 : v95 = (if v23 = (0 : Int32) then (0 : Int64) else v5)) (hv96 : v96 = (v83 + v89)) (hv98 : v98 = (v96 + v95)) (hv104 : v104 = (if v61 = (0 : Int32) then (0 : Int64) else v1)) (hv110 : v110 = (if v69 = (0 : Int32) then (0 : Int64) else v3)) (hv116 : v116 = (if v77 = (0 : Int32) then (0 : Int64) else v5)) (hv117 : v117 = (v104 + v110)) (hv119 : v119 = (v117 + v116)) (hv233 : v233 = (own_F5 v98 v25 ([v1, v3, v5] : List Int64) ([(nar .boolean v11), (nar .boolean v17), (nar .boolean v23)] : List Int32) ([v29, v47, v53] : List Int32))) (hc382_235 : v233 = v119) (hc391_237 : (nar .boolean v11) = v11) (hc400_239 : ¬ ((nar .boolean v17) = v17)) : (nar .boolean (0 : Int32)) = (own_F0 q0 q1 q2 p3 p4 p5) := by
  rw [own_nb0]
  subst hv1 hv3 hv5 hv11 hv17 hv23 hv25 hv27 hv29 hv35 hv41 hv47 hv53 hv57 hv61 hv65 hv69 hv73 hv77 hv83 hv89 hv95 hv96 hv98 hv104 hv110 hv116 hv117 hv119 hv233
  first
    | (simp only [own_F0, if_pos hc382_235, if_pos hc391_237, if_neg hc400_239]; done)
    | (exfalso; contradiction)
theorem own_e0_249 {q0 : Int64} {q1 : Int64} {q2 : Int64} {p3 : Int32} {p4 : Int32} {p5 : Int32} {v1 : Int64} {v3 : Int64} {v5 : Int64} {v11 : Int32} {v17 : Int32} {v23 : Int32} {v25 : Int32} {v27 : Int32} {v29 : Int32} {v35 : Int32} {v41 : Int32} {v47 : Int32} {v53 : Int32} {v57 : Int32} {v61 : Int32} {v65 : Int32} {v69 : Int32} {v73 : Int32} {v77 : Int32} {v83 : Int64} {v89 : Int64} {v95 : Int64} {v96 : Int64} {v98 : Int64} {v104 : Int64} {v110 : Int64} {v116 : Int64} {v117 : Int64} {v119 : Int64} {v233 : Int64} (hv1 : v1 = ((q0 &&& (1152921504606846975 : Int64)) + (1 : Int64))) (hv3 : v3 = ((q1 &&& (1152921504606846975 : Int64)) + (1 : Int64))) (hv5 : v5 = ((q2 &&& (1152921504606846975 : Int64)) + (1 : Int64))) (hv11 : v11 = (if (p3 &&& (1 : Int32)) = (0 : Int32) then (0 : Int32) else (1 : Int32))) (hv17 : v17 = (if (p3 &&& (2 : Int32)) = (0 : Int32) then (0 : Int32) else (1 : Int32))) (hv23 : v23 = (if (p3 &&& (4 : Int32)) = (0 : Int32) then (0 : Int32) else (1 : Int32))) (hv25 : v25 = (p5 &&& (3 : Int32))) (hv27 : v27 = ((p4 &&& (2147483647 : Int32)) - ((p4 &&& (2147483647 : Int32)) / (6 : Int32)) * (6 : Int32))) (hv29 : v29 = (v27 / (2 : Int32))) (hv35 : v35 = (if v29 = (0 : Int32) then (1 : Int32) else (0 : Int32))) (hv41 : v41 = (if v29 = (2 : Int32) then (1 : Int32) else (2 : Int32))) (hv47 : v47 = (if (v27 &&& (1 : Int32)) = (0 : Int32) then v35 else v41)) (hv53 : v53 = (if (v27 &&& (1 : Int32)) = (0 : Int32) then v41 else v35)) (hv57 : v57 = (own_F1 (0 : Int32) v29 v47 v53 v25)) (hv61 : v61 = (if v11 = v57 then (0 : Int32) else (1 : Int32))) (hv65 : v65 = (own_F1 (1 : Int32) v29 v47 v53 v25)) (hv69 : v69 = (if v17 = v65 then (0 : Int32) else (1 : Int32))) (hv73 : v73 = (own_F1 (2 : Int32) v29 v47 v53 v25)) (hv77 : v77 = (if v23 = v73 then (0 : Int32) else (1 : Int32))) (hv83 : v83 = (if v11 = (0 : Int32) then (0 : Int64) else v1)) (hv89 : v89 = (if v17 = (0 : Int32) then (0 : Int64) else v3)) (hv95 : v95 = (if v23 = (0 : Int32) then (0 : Int64) else v5)) (hv96 : v96 = (v83 + v89)) (hv98 : v98 = (v96 + v95)) (hv104 : v104 = (if v61 = (0 : Int32) then (0 : Int64) else v1)) (hv110 : v110 = (if v69 = (0 : Int32) then (0 : Int64) else v3)) (hv116 : v116 = (if v77 = (0 : Int32) then (0 : Int64) else v5)) (hv117 : v117 = (v104 + v110)) (hv119 : v119 = (v117 + v116)) (hv233 : v233 = (own_F5 v98 v25 ([v1, v3, v5] : List Int64) ([(nar .boolean v11), (nar .boolean v17), (nar .boolean v23)] : List Int32) ([v29, v47, v53] : List Int32))) (hc382_235 : v233 = v119) (hc391_237 : ¬ ((nar .boolean v11) = v11)) : (nar .boolean (0 : Int32)) = (own_F0 q0 q1 q2 p3 p4 p5) := by
  rw [own_nb0]
  subst hv1 hv3 hv5 hv11 hv17 hv23 hv25 hv27 hv29 hv35 hv41 hv47 hv53 hv57 hv61 hv65 hv69 hv73 hv77 hv83 hv89 hv95 hv96 hv98 hv104 hv110 hv116 hv117 hv119 hv233
  first
    | (simp only [own_F0, if_pos hc382_235, if_neg hc391_237]; done)
    | (exfalso; contradiction)
theorem own_e0_251 {q0 : Int64} {q1 : Int64} {q2 : Int64} {p3 : Int32} {p4 : Int32} {p5 : Int32} {v1 : Int64} {v3 : Int64} {v5 : Int64} {v11 : Int32} {v17 : Int32} {v23 : Int32} {v25 : Int32} {v27 : Int32} {v29 : Int32} {v35 : Int32} {v41 : Int32} {v47 : Int32} {v53 : Int32} {v57 : Int32} {v61 : Int32} {v65 : Int32} {v69 : Int32} {v73 : Int32} {v77 : Int32} {v83 : Int64} {v89 : Int64} {v95 : Int64} {v96 : Int64} {v98 : Int64} {v104 : Int64} {v110 : Int64} {v116 : Int64} {v117 : Int64} {v119 : Int64} {v233 : Int64} (hv1 : v1 = ((q0 &&& (1152921504606846975 : Int64)) + (1 : Int64))) (hv3 : v3 = ((q1 &&& (1152921504606846975 : Int64)) + (1 : Int64))) (hv5 : v5 = ((q2 &&& (1152921504606846975 : Int64)) + (1 : Int64))) (hv11 : v11 = (if (p3 &&& (1 : Int32)) = (0 : Int32) then (0 : Int32) else (1 : Int32))) (hv17 : v17 = (if (p3 &&& (2 : Int32)) = (0 : Int32) then (0 : Int32) else (1 : Int32))) (hv23 : v23 = (if (p3 &&& (4 : Int32)) = (0 : Int32) then (0 : Int32) else (1 : Int32))) (hv25 : v25 = (p5 &&& (3 : Int32))) (hv27 : v27 = ((p4 &&& (2147483647 : Int32)) - ((p4 &&& (2147483647 : Int32)) / (6 : Int32)) * (6 : Int32))) (hv29 : v29 = (v27 / (2 : Int32))) (hv35 : v35 = (if v29 = (0 : Int32) then (1 : Int32) else (0 : Int32))) (hv41 : v41 = (if v29 = (2 : Int32) then (1 : Int32) else (2 : Int32))) (hv47 : v47 = (if (v27 &&& (1 : Int32)) = (0 : Int32) then v35 else v41)) (hv53 : v53 = (if (v27 &&& (1 : Int32)) = (0 : Int32) then v41 else v35)) (hv57 : v57 = (own_F1 (0 : Int32) v29 v47 v53 v25)) (hv61 : v61 = (if v11 = v57 then (0 : Int32) else (1 : Int32))) (hv65 : v65 = (own_F1 (1 : Int32) v29 v47 v53 v25)) (hv69 : v69 = (if v17 = v65 then (0 : Int32) else (1 : Int32))) (hv73 : v73 = (own_F1 (2 : Int32) v29 v47 v53 v25)) (hv77 : v77 = (if v23 = v73 then (0 : Int32) else (1 : Int32))) (hv83 : v83 = (if v11 = (0 : Int32) then (0 : Int64) else v1)) (hv89 : v89 = (if v17 = (0 : Int32) then (0 : Int64) else v3)) (hv95 : v95 = (if v23 = (0 : Int32) then (0 : Int64) else v5)) (hv96 : v96 = (v83 + v89)) (hv98 : v98 = (v96 + v95)) (hv104 : v104 = (if v61 = (0 : Int32) then (0 : Int64) else v1)) (hv110 : v110 = (if v69 = (0 : Int32) then (0 : Int64) else v3)) (hv116 : v116 = (if v77 = (0 : Int32) then (0 : Int64) else v5)) (hv117 : v117 = (v104 + v110)) (hv119 : v119 = (v117 + v116)) (hv233 : v233 = (own_F5 v98 v25 ([v1, v3, v5] : List Int64) ([(nar .boolean v11), (nar .boolean v17), (nar .boolean v23)] : List Int32) ([v29, v47, v53] : List Int32))) (hc382_235 : ¬ (v233 = v119)) : (nar .boolean (0 : Int32)) = (own_F0 q0 q1 q2 p3 p4 p5) := by
  rw [own_nb0]
  subst hv1 hv3 hv5 hv11 hv17 hv23 hv25 hv27 hv29 hv35 hv41 hv47 hv53 hv57 hv61 hv65 hv69 hv73 hv77 hv83 hv89 hv95 hv96 hv98 hv104 hv110 hv116 hv117 hv119 hv233
  first
    | (simp only [own_F0, if_neg hc382_235]; done)
    | (exfalso; contradiction)
theorem own_h0_151 {q0 : Int64} {q1 : Int64} {q2 : Int64} {p3 : Int32} {p4 : Int32} {p5 : Int32} {v1 : Int64} {v3 : Int64} {v5 : Int64} {v11 : Int32} {v17 : Int32} {v23 : Int32} {v25 : Int32} {v27 : Int32} {v29 : Int32} {v35 : Int32} {v41 : Int32} {v47 : Int32} {v53 : Int32} {v57 : Int32} {v61 : Int32} {v65 : Int32} {v69 : Int32} {v73 : Int32} {v77 : Int32} {v83 : Int64} {v89 : Int64} {v95 : Int64} {v96 : Int64} {v98 : Int64} {v104 : Int64} {v110 : Int64} {v116 : Int64} {v117 : Int64} {v119 : Int64} (hv1 : v1 = ((q0 &&& (1152921504606846975 : Int64)) + (1 : Int64))) (hv3 : v3 = ((q1 &&& (1152921504606846975 : Int64)) + (1 : Int64))) (hv5 : v5 = ((q2 &&& (1152921504606846975 : Int64)) + (1 : Int64))) (hv11 : v11 = (if (p3 &&& (1 : Int32)) = (0 : Int32) then (0 : Int32) else (1 : Int32))) (hv17 : v17 = (if (p3 &&& (2 : Int32)) = (0 : Int32) then (0 : Int32) else (1 : Int32))) (hv23 : v23 = (if (p3 &&& (4 : Int32)) = (0 : Int32) then (0 : Int32) else (1 : Int32))) (hv25 : v25 = (p5 &&& (3 : Int32))) (hv27 : v27 = ((p4 &&& (2147483647 : Int32)) - ((p4 &&& (2147483647 : Int32)) / (6 : Int32)) * (6 : Int32))) (hv29 : v29 = (v27 / (2 : Int32))) (hv35 : v35 = (if v29 = (0 : Int32) then (1 : Int32) else (0 : Int32))) (hv41 : v41 = (if v29 = (2 : Int32) then (1 : Int32) else (2 : Int32))) (hv47 : v47 = (if (v27 &&& (1 : Int32)) = (0 : Int32) then v35 else v41)) (hv53 : v53 = (if (v27 &&& (1 : Int32)) = (0 : Int32) then v41 else v35)) (hv57 : v57 = (own_F1 (0 : Int32) v29 v47 v53 v25)) (hv61 : v61 = (if v11 = v57 then (0 : Int32) else (1 : Int32))) (hv65 : v65 = (own_F1 (1 : Int32) v29 v47 v53 v25)) (hv69 : v69 = (if v17 = v65 then (0 : Int32) else (1 : Int32))) (hv73 : v73 = (own_F1 (2 : Int32) v29 v47 v53 v25)) (hv77 : v77 = (if v23 = v73 then (0 : Int32) else (1 : Int32))) (hv83 : v83 = (if v11 = (0 : Int32) then (0 : Int64) else v1)) (hv89 : v89 = (if v17 = (0 : Int32) then (0 : Int64) else v3)) (hv95 : v95 = (if v23 = (0 : Int32) then (0 : Int64) else v5)) (hv96 : v96 = (v83 + v89)) (hv98 : v98 = (v96 + v95)) (hv104 : v104 = (if v61 = (0 : Int32) then (0 : Int64) else v1)) (hv110 : v110 = (if v69 = (0 : Int32) then (0 : Int64) else v3)) (hv116 : v116 = (if v77 = (0 : Int32) then (0 : Int64) else v5)) (hv117 : v117 = (v104 + v110)) (hv119 : v119 = (v117 + v116)) : ¬ v1 < (1 : Int64) := by
  exact own_ge hv1
theorem own_h0_152 {q0 : Int64} {q1 : Int64} {q2 : Int64} {p3 : Int32} {p4 : Int32} {p5 : Int32} {v1 : Int64} {v3 : Int64} {v5 : Int64} {v11 : Int32} {v17 : Int32} {v23 : Int32} {v25 : Int32} {v27 : Int32} {v29 : Int32} {v35 : Int32} {v41 : Int32} {v47 : Int32} {v53 : Int32} {v57 : Int32} {v61 : Int32} {v65 : Int32} {v69 : Int32} {v73 : Int32} {v77 : Int32} {v83 : Int64} {v89 : Int64} {v95 : Int64} {v96 : Int64} {v98 : Int64} {v104 : Int64} {v110 : Int64} {v116 : Int64} {v117 : Int64} {v119 : Int64} (hv1 : v1 = ((q0 &&& (1152921504606846975 : Int64)) + (1 : Int64))) (hv3 : v3 = ((q1 &&& (1152921504606846975 : Int64)) + (1 : Int64))) (hv5 : v5 = ((q2 &&& (1152921504606846975 : Int64)) + (1 : Int64))) (hv11 : v11 = (if (p3 &&& (1 : Int32)) = (0 : Int32) then (0 : Int32) else (1 : Int32))) (hv17 : v17 = (if (p3 &&& (2 : Int32)) = (0 : Int32) then (0 : Int32) else (1 : Int32))) (hv23 : v23 = (if (p3 &&& (4 : Int32)) = (0 : Int32) then (0 : Int32) else (1 : Int32))) (hv25 : v25 = (p5 &&& (3 : Int32))) (hv27 : v27 = ((p4 &&& (2147483647 : Int32)) - ((p4 &&& (2147483647 : Int32)) / (6 : Int32)) * (6 : Int32))) (hv29 : v29 = (v27 / (2 : Int32))) (hv35 : v35 = (if v29 = (0 : Int32) then (1 : Int32) else (0 : Int32))) (hv41 : v41 = (if v29 = (2 : Int32) then (1 : Int32) else (2 : Int32))) (hv47 : v47 = (if (v27 &&& (1 : Int32)) = (0 : Int32) then v35 else v41)) (hv53 : v53 = (if (v27 &&& (1 : Int32)) = (0 : Int32) then v41 else v35)) (hv57 : v57 = (own_F1 (0 : Int32) v29 v47 v53 v25)) (hv61 : v61 = (if v11 = v57 then (0 : Int32) else (1 : Int32))) (hv65 : v65 = (own_F1 (1 : Int32) v29 v47 v53 v25)) (hv69 : v69 = (if v17 = v65 then (0 : Int32) else (1 : Int32))) (hv73 : v73 = (own_F1 (2 : Int32) v29 v47 v53 v25)) (hv77 : v77 = (if v23 = v73 then (0 : Int32) else (1 : Int32))) (hv83 : v83 = (if v11 = (0 : Int32) then (0 : Int64) else v1)) (hv89 : v89 = (if v17 = (0 : Int32) then (0 : Int64) else v3)) (hv95 : v95 = (if v23 = (0 : Int32) then (0 : Int64) else v5)) (hv96 : v96 = (v83 + v89)) (hv98 : v98 = (v96 + v95)) (hv104 : v104 = (if v61 = (0 : Int32) then (0 : Int64) else v1)) (hv110 : v110 = (if v69 = (0 : Int32) then (0 : Int64) else v3)) (hv116 : v116 = (if v77 = (0 : Int32) then (0 : Int64) else v5)) (hv117 : v117 = (v104 + v110)) (hv119 : v119 = (v117 + v116)) : ¬ v3 < (1 : Int64) := by
  exact own_ge hv3
theorem own_h0_153 {q0 : Int64} {q1 : Int64} {q2 : Int64} {p3 : Int32} {p4 : Int32} {p5 : Int32} {v1 : Int64} {v3 : Int64} {v5 : Int64} {v11 : Int32} {v17 : Int32} {v23 : Int32} {v25 : Int32} {v27 : Int32} {v29 : Int32} {v35 : Int32} {v41 : Int32} {v47 : Int32} {v53 : Int32} {v57 : Int32} {v61 : Int32} {v65 : Int32} {v69 : Int32} {v73 : Int32} {v77 : Int32} {v83 : Int64} {v89 : Int64} {v95 : Int64} {v96 : Int64} {v98 : Int64} {v104 : Int64} {v110 : Int64} {v116 : Int64} {v117 : Int64} {v119 : Int64} (hv1 : v1 = ((q0 &&& (1152921504606846975 : Int64)) + (1 : Int64))) (hv3 : v3 = ((q1 &&& (1152921504606846975 : Int64)) + (1 : Int64))) (hv5 : v5 = ((q2 &&& (1152921504606846975 : Int64)) + (1 : Int64))) (hv11 : v11 = (if (p3 &&& (1 : Int32)) = (0 : Int32) then (0 : Int32) else (1 : Int32))) (hv17 : v17 = (if (p3 &&& (2 : Int32)) = (0 : Int32) then (0 : Int32) else (1 : Int32))) (hv23 : v23 = (if (p3 &&& (4 : Int32)) = (0 : Int32) then (0 : Int32) else (1 : Int32))) (hv25 : v25 = (p5 &&& (3 : Int32))) (hv27 : v27 = ((p4 &&& (2147483647 : Int32)) - ((p4 &&& (2147483647 : Int32)) / (6 : Int32)) * (6 : Int32))) (hv29 : v29 = (v27 / (2 : Int32))) (hv35 : v35 = (if v29 = (0 : Int32) then (1 : Int32) else (0 : Int32))) (hv41 : v41 = (if v29 = (2 : Int32) then (1 : Int32) else (2 : Int32))) (hv47 : v47 = (if (v27 &&& (1 : Int32)) = (0 : Int32) then v35 else v41)) (hv53 : v53 = (if (v27 &&& (1 : Int32)) = (0 : Int32) then v41 else v35)) (hv57 : v57 = (own_F1 (0 : Int32) v29 v47 v53 v25)) (hv61 : v61 = (if v11 = v57 then (0 : Int32) else (1 : Int32))) (hv65 : v65 = (own_F1 (1 : Int32) v29 v47 v53 v25)) (hv69 : v69 = (if v17 = v65 then (0 : Int32) else (1 : Int32))) (hv73 : v73 = (own_F1 (2 : Int32) v29 v47 v53 v25)) (hv77 : v77 = (if v23 = v73 then (0 : Int32) else (1 : Int32))) (hv83 : v83 = (if v11 = (0 : Int32) then (0 : Int64) else v1)) (hv89 : v89 = (if v17 = (0 : Int32) then (0 : Int64) else v3)) (hv95 : v95 = (if v23 = (0 : Int32) then (0 : Int64) else v5)) (hv96 : v96 = (v83 + v89)) (hv98 : v98 = (v96 + v95)) (hv104 : v104 = (if v61 = (0 : Int32) then (0 : Int64) else v1)) (hv110 : v110 = (if v69 = (0 : Int32) then (0 : Int64) else v3)) (hv116 : v116 = (if v77 = (0 : Int32) then (0 : Int64) else v5)) (hv117 : v117 = (v104 + v110)) (hv119 : v119 = (v117 + v116)) : ¬ v5 < (1 : Int64) := by
  exact own_ge hv5
theorem own_h0_154 {q0 : Int64} {q1 : Int64} {q2 : Int64} {p3 : Int32} {p4 : Int32} {p5 : Int32} {v1 : Int64} {v3 : Int64} {v5 : Int64} {v11 : Int32} {v17 : Int32} {v23 : Int32} {v25 : Int32} {v27 : Int32} {v29 : Int32} {v35 : Int32} {v41 : Int32} {v47 : Int32} {v53 : Int32} {v57 : Int32} {v61 : Int32} {v65 : Int32} {v69 : Int32} {v73 : Int32} {v77 : Int32} {v83 : Int64} {v89 : Int64} {v95 : Int64} {v96 : Int64} {v98 : Int64} {v104 : Int64} {v110 : Int64} {v116 : Int64} {v117 : Int64} {v119 : Int64} (hv1 : v1 = ((q0 &&& (1152921504606846975 : Int64)) + (1 : Int64))) (hv3 : v3 = ((q1 &&& (1152921504606846975 : Int64)) + (1 : Int64))) (hv5 : v5 = ((q2 &&& (1152921504606846975 : Int64)) + (1 : Int64))) (hv11 : v11 = (if (p3 &&& (1 : Int32)) = (0 : Int32) then (0 : Int32) else (1 : Int32))) (hv17 : v17 = (if (p3 &&& (2 : Int32)) = (0 : Int32) then (0 : Int32) else (1 : Int32))) (hv23 : v23 = (if (p3 &&& (4 : Int32)) = (0 : Int32) then (0 : Int32) else (1 : Int32))) (hv25 : v25 = (p5 &&& (3 : Int32))) (hv27 : v27 = ((p4 &&& (2147483647 : Int32)) - ((p4 &&& (2147483647 : Int32)) / (6 : Int32)) * (6 : Int32))) (hv29 : v29 = (v27 / (2 : Int32))) (hv35 : v35 = (if v29 = (0 : Int32) then (1 : Int32) else (0 : Int32))) (hv41 : v41 = (if v29 = (2 : Int32) then (1 : Int32) else (2 : Int32))) (hv47 : v47 = (if (v27 &&& (1 : Int32)) = (0 : Int32) then v35 else v41)) (hv53 : v53 = (if (v27 &&& (1 : Int32)) = (0 : Int32) then v41 else v35)) (hv57 : v57 = (own_F1 (0 : Int32) v29 v47 v53 v25)) (hv61 : v61 = (if v11 = v57 then (0 : Int32) else (1 : Int32))) (hv65 : v65 = (own_F1 (1 : Int32) v29 v47 v53 v25)) (hv69 : v69 = (if v17 = v65 then (0 : Int32) else (1 : Int32))) (hv73 : v73 = (own_F1 (2 : Int32) v29 v47 v53 v25)) (hv77 : v77 = (if v23 = v73 then (0 : Int32) else (1 : Int32))) (hv83 : v83 = (if v11 = (0 : Int32) then (0 : Int64) else v1)) (hv89 : v89 = (if v17 = (0 : Int32) then (0 : Int64) else v3)) (hv95 : v95 = (if v23 = (0 : Int32) then (0 : Int64) else v5)) (hv96 : v96 = (v83 + v89)) (hv98 : v98 = (v96 + v95)) (hv104 : v104 = (if v61 = (0 : Int32) then (0 : Int64) else v1)) (hv110 : v110 = (if v69 = (0 : Int32) then (0 : Int64) else v3)) (hv116 : v116 = (if v77 = (0 : Int32) then (0 : Int64) else v5)) (hv117 : v117 = (v104 + v110)) (hv119 : v119 = (v117 + v116)) : own_ok (0 : Int64) v1 := by
  exact own_k0 hv1
theorem own_h0_155 {q0 : Int64} {q1 : Int64} {q2 : Int64} {p3 : Int32} {p4 : Int32} {p5 : Int32} {v1 : Int64} {v3 : Int64} {v5 : Int64} {v11 : Int32} {v17 : Int32} {v23 : Int32} {v25 : Int32} {v27 : Int32} {v29 : Int32} {v35 : Int32} {v41 : Int32} {v47 : Int32} {v53 : Int32} {v57 : Int32} {v61 : Int32} {v65 : Int32} {v69 : Int32} {v73 : Int32} {v77 : Int32} {v83 : Int64} {v89 : Int64} {v95 : Int64} {v96 : Int64} {v98 : Int64} {v104 : Int64} {v110 : Int64} {v116 : Int64} {v117 : Int64} {v119 : Int64} (hv1 : v1 = ((q0 &&& (1152921504606846975 : Int64)) + (1 : Int64))) (hv3 : v3 = ((q1 &&& (1152921504606846975 : Int64)) + (1 : Int64))) (hv5 : v5 = ((q2 &&& (1152921504606846975 : Int64)) + (1 : Int64))) (hv11 : v11 = (if (p3 &&& (1 : Int32)) = (0 : Int32) then (0 : Int32) else (1 : Int32))) (hv17 : v17 = (if (p3 &&& (2 : Int32)) = (0 : Int32) then (0 : Int32) else (1 : Int32))) (hv23 : v23 = (if (p3 &&& (4 : Int32)) = (0 : Int32) then (0 : Int32) else (1 : Int32))) (hv25 : v25 = (p5 &&& (3 : Int32))) (hv27 : v27 = ((p4 &&& (2147483647 : Int32)) - ((p4 &&& (2147483647 : Int32)) / (6 : Int32)) * (6 : Int32))) (hv29 : v29 = (v27 / (2 : Int32))) (hv35 : v35 = (if v29 = (0 : Int32) then (1 : Int32) else (0 : Int32))) (hv41 : v41 = (if v29 = (2 : Int32) then (1 : Int32) else (2 : Int32))) (hv47 : v47 = (if (v27 &&& (1 : Int32)) = (0 : Int32) then v35 else v41)) (hv53 : v53 = (if (v27 &&& (1 : Int32)) = (0 : Int32) then v41 else v35)) (hv57 : v57 = (own_F1 (0 : Int32) v29 v47 v53 v25)) (hv61 : v61 = (if v11 = v57 then (0 : Int32) else (1 : Int32))) (hv65 : v65 = (own_F1 (1 : Int32) v29 v47 v53 v25)) (hv69 : v69 = (if v17 = v65 then (0 : Int32) else (1 : Int32))) (hv73 : v73 = (own_F1 (2 : Int32) v29 v47 v53 v25)) (hv77 : v77 = (if v23 = v73 then (0 : Int32) else (1 : Int32))) (hv83 : v83 = (if v11 = (0 : Int32) then (0 : Int64) else v1)) (hv89 : v89 = (if v17 = (0 : Int32) then (0 : Int64) else v3)) (hv95 : v95 = (if v23 = (0 : Int32) then (0 : Int64) else v5)) (hv96 : v96 = (v83 + v89)) (hv98 : v98 = (v96 + v95)) (hv104 : v104 = (if v61 = (0 : Int32) then (0 : Int64) else v1)) (hv110 : v110 = (if v69 = (0 : Int32) then (0 : Int64) else v3)) (hv116 : v116 = (if v77 = (0 : Int32) then (0 : Int64) else v5)) (hv117 : v117 = (v104 + v110)) (hv119 : v119 = (v117 + v116)) : own_ok (own_F4 (0 : Int64) v1) v3 := by
  exact own_k1 hv1 hv3
theorem own_h0_156 {q0 : Int64} {q1 : Int64} {q2 : Int64} {p3 : Int32} {p4 : Int32} {p5 : Int32} {v1 : Int64} {v3 : Int64} {v5 : Int64} {v11 : Int32} {v17 : Int32} {v23 : Int32} {v25 : Int32} {v27 : Int32} {v29 : Int32} {v35 : Int32} {v41 : Int32} {v47 : Int32} {v53 : Int32} {v57 : Int32} {v61 : Int32} {v65 : Int32} {v69 : Int32} {v73 : Int32} {v77 : Int32} {v83 : Int64} {v89 : Int64} {v95 : Int64} {v96 : Int64} {v98 : Int64} {v104 : Int64} {v110 : Int64} {v116 : Int64} {v117 : Int64} {v119 : Int64} (hv1 : v1 = ((q0 &&& (1152921504606846975 : Int64)) + (1 : Int64))) (hv3 : v3 = ((q1 &&& (1152921504606846975 : Int64)) + (1 : Int64))) (hv5 : v5 = ((q2 &&& (1152921504606846975 : Int64)) + (1 : Int64))) (hv11 : v11 = (if (p3 &&& (1 : Int32)) = (0 : Int32) then (0 : Int32) else (1 : Int32))) (hv17 : v17 = (if (p3 &&& (2 : Int32)) = (0 : Int32) then (0 : Int32) else (1 : Int32))) (hv23 : v23 = (if (p3 &&& (4 : Int32)) = (0 : Int32) then (0 : Int32) else (1 : Int32))) (hv25 : v25 = (p5 &&& (3 : Int32))) (hv27 : v27 = ((p4 &&& (2147483647 : Int32)) - ((p4 &&& (2147483647 : Int32)) / (6 : Int32)) * (6 : Int32))) (hv29 : v29 = (v27 / (2 : Int32))) (hv35 : v35 = (if v29 = (0 : Int32) then (1 : Int32) else (0 : Int32))) (hv41 : v41 = (if v29 = (2 : Int32) then (1 : Int32) else (2 : Int32))) (hv47 : v47 = (if (v27 &&& (1 : Int32)) = (0 : Int32) then v35 else v41)) (hv53 : v53 = (if (v27 &&& (1 : Int32)) = (0 : Int32) then v41 else v35)) (hv57 : v57 = (own_F1 (0 : Int32) v29 v47 v53 v25)) (hv61 : v61 = (if v11 = v57 then (0 : Int32) else (1 : Int32))) (hv65 : v65 = (own_F1 (1 : Int32) v29 v47 v53 v25)) (hv69 : v69 = (if v17 = v65 then (0 : Int32) else (1 : Int32))) (hv73 : v73 = (own_F1 (2 : Int32) v29 v47 v53 v25)) (hv77 : v77 = (if v23 = v73 then (0 : Int32) else (1 : Int32))) (hv83 : v83 = (if v11 = (0 : Int32) then (0 : Int64) else v1)) (hv89 : v89 = (if v17 = (0 : Int32) then (0 : Int64) else v3)) (hv95 : v95 = (if v23 = (0 : Int32) then (0 : Int64) else v5)) (hv96 : v96 = (v83 + v89)) (hv98 : v98 = (v96 + v95)) (hv104 : v104 = (if v61 = (0 : Int32) then (0 : Int64) else v1)) (hv110 : v110 = (if v69 = (0 : Int32) then (0 : Int64) else v3)) (hv116 : v116 = (if v77 = (0 : Int32) then (0 : Int64) else v5)) (hv117 : v117 = (v104 + v110)) (hv119 : v119 = (v117 + v116)) : own_ok (own_F4 (own_F4 (0 : Int64) v1) v3) v5 := by
  exact own_k2 hv1 hv3 hv5
theorem own_h0_230 {q0 : Int64} {q1 : Int64} {q2 : Int64} {p3 : Int32} {p4 : Int32} {p5 : Int32} {v1 : Int64} {v3 : Int64} {v5 : Int64} {v11 : Int32} {v17 : Int32} {v23 : Int32} {v25 : Int32} {v27 : Int32} {v29 : Int32} {v35 : Int32} {v41 : Int32} {v47 : Int32} {v53 : Int32} {v57 : Int32} {v61 : Int32} {v65 : Int32} {v69 : Int32} {v73 : Int32} {v77 : Int32} {v83 : Int64} {v89 : Int64} {v95 : Int64} {v96 : Int64} {v98 : Int64} {v104 : Int64} {v110 : Int64} {v116 : Int64} {v117 : Int64} {v119 : Int64} (hv1 : v1 = ((q0 &&& (1152921504606846975 : Int64)) + (1 : Int64))) (hv3 : v3 = ((q1 &&& (1152921504606846975 : Int64)) + (1 : Int64))) (hv5 : v5 = ((q2 &&& (1152921504606846975 : Int64)) + (1 : Int64))) (hv11 : v11 = (if (p3 &&& (1 : Int32)) = (0 : Int32) then (0 : Int32) else (1 : Int32))) (hv17 : v17 = (if (p3 &&& (2 : Int32)) = (0 : Int32) then (0 : Int32) else (1 : Int32))) (hv23 : v23 = (if (p3 &&& (4 : Int32)) = (0 : Int32) then (0 : Int32) else (1 : Int32))) (hv25 : v25 = (p5 &&& (3 : Int32))) (hv27 : v27 = ((p4 &&& (2147483647 : Int32)) - ((p4 &&& (2147483647 : Int32)) / (6 : Int32)) * (6 : Int32))) (hv29 : v29 = (v27 / (2 : Int32))) (hv35 : v35 = (if v29 = (0 : Int32) then (1 : Int32) else (0 : Int32))) (hv41 : v41 = (if v29 = (2 : Int32) then (1 : Int32) else (2 : Int32))) (hv47 : v47 = (if (v27 &&& (1 : Int32)) = (0 : Int32) then v35 else v41)) (hv53 : v53 = (if (v27 &&& (1 : Int32)) = (0 : Int32) then v41 else v35)) (hv57 : v57 = (own_F1 (0 : Int32) v29 v47 v53 v25)) (hv61 : v61 = (if v11 = v57 then (0 : Int32) else (1 : Int32))) (hv65 : v65 = (own_F1 (1 : Int32) v29 v47 v53 v25)) (hv69 : v69 = (if v17 = v65 then (0 : Int32) else (1 : Int32))) (hv73 : v73 = (own_F1 (2 : Int32) v29 v47 v53 v25)) (hv77 : v77 = (if v23 = v73 then (0 : Int32) else (1 : Int32))) (hv83 : v83 = (if v11 = (0 : Int32) then (0 : Int64) else v1)) (hv89 : v89 = (if v17 = (0 : Int32) then (0 : Int64) else v3)) (hv95 : v95 = (if v23 = (0 : Int32) then (0 : Int64) else v5)) (hv96 : v96 = (v83 + v89)) (hv98 : v98 = (v96 + v95)) (hv104 : v104 = (if v61 = (0 : Int32) then (0 : Int64) else v1)) (hv110 : v110 = (if v69 = (0 : Int32) then (0 : Int64) else v3)) (hv116 : v116 = (if v77 = (0 : Int32) then (0 : Int64) else v5)) (hv117 : v117 = (v104 + v110)) (hv119 : v119 = (v117 + v116)) : 0 ≤ v25.toInt ∧ v25.toInt ≤ (([v29, v47, v53] : List Int32).length : Int) := by
  exact own_c3 hv25
theorem own_h0_231 {q0 : Int64} {q1 : Int64} {q2 : Int64} {p3 : Int32} {p4 : Int32} {p5 : Int32} {v1 : Int64} {v3 : Int64} {v5 : Int64} {v11 : Int32} {v17 : Int32} {v23 : Int32} {v25 : Int32} {v27 : Int32} {v29 : Int32} {v35 : Int32} {v41 : Int32} {v47 : Int32} {v53 : Int32} {v57 : Int32} {v61 : Int32} {v65 : Int32} {v69 : Int32} {v73 : Int32} {v77 : Int32} {v83 : Int64} {v89 : Int64} {v95 : Int64} {v96 : Int64} {v98 : Int64} {v104 : Int64} {v110 : Int64} {v116 : Int64} {v117 : Int64} {v119 : Int64} (hv1 : v1 = ((q0 &&& (1152921504606846975 : Int64)) + (1 : Int64))) (hv3 : v3 = ((q1 &&& (1152921504606846975 : Int64)) + (1 : Int64))) (hv5 : v5 = ((q2 &&& (1152921504606846975 : Int64)) + (1 : Int64))) (hv11 : v11 = (if (p3 &&& (1 : Int32)) = (0 : Int32) then (0 : Int32) else (1 : Int32))) (hv17 : v17 = (if (p3 &&& (2 : Int32)) = (0 : Int32) then (0 : Int32) else (1 : Int32))) (hv23 : v23 = (if (p3 &&& (4 : Int32)) = (0 : Int32) then (0 : Int32) else (1 : Int32))) (hv25 : v25 = (p5 &&& (3 : Int32))) (hv27 : v27 = ((p4 &&& (2147483647 : Int32)) - ((p4 &&& (2147483647 : Int32)) / (6 : Int32)) * (6 : Int32))) (hv29 : v29 = (v27 / (2 : Int32))) (hv35 : v35 = (if v29 = (0 : Int32) then (1 : Int32) else (0 : Int32))) (hv41 : v41 = (if v29 = (2 : Int32) then (1 : Int32) else (2 : Int32))) (hv47 : v47 = (if (v27 &&& (1 : Int32)) = (0 : Int32) then v35 else v41)) (hv53 : v53 = (if (v27 &&& (1 : Int32)) = (0 : Int32) then v41 else v35)) (hv57 : v57 = (own_F1 (0 : Int32) v29 v47 v53 v25)) (hv61 : v61 = (if v11 = v57 then (0 : Int32) else (1 : Int32))) (hv65 : v65 = (own_F1 (1 : Int32) v29 v47 v53 v25)) (hv69 : v69 = (if v17 = v65 then (0 : Int32) else (1 : Int32))) (hv73 : v73 = (own_F1 (2 : Int32) v29 v47 v53 v25)) (hv77 : v77 = (if v23 = v73 then (0 : Int32) else (1 : Int32))) (hv83 : v83 = (if v11 = (0 : Int32) then (0 : Int64) else v1)) (hv89 : v89 = (if v17 = (0 : Int32) then (0 : Int64) else v3)) (hv95 : v95 = (if v23 = (0 : Int32) then (0 : Int64) else v5)) (hv96 : v96 = (v83 + v89)) (hv98 : v98 = (v96 + v95)) (hv104 : v104 = (if v61 = (0 : Int32) then (0 : Int64) else v1)) (hv110 : v110 = (if v69 = (0 : Int32) then (0 : Int64) else v3)) (hv116 : v116 = (if v77 = (0 : Int32) then (0 : Int64) else v5)) (hv117 : v117 = (v104 + v110)) (hv119 : v119 = (v117 + v116)) : ∀ x ∈ ([v29, v47, v53] : List Int32), 0 ≤ x.toInt ∧ x.toInt < (([(nar .boolean v11), (nar .boolean v17), (nar .boolean v23)] : List Int32).length : Int) := by
  subst hv1 hv3 hv5 hv11 hv17 hv23 hv25 hv29 hv35 hv41 hv47 hv53 hv57 hv61 hv65 hv69 hv73 hv77 hv83 hv89 hv95 hv96 hv98 hv104 hv110 hv116 hv117 hv119
  show ∀ x : Int32, x ∈ _ → 0 ≤ x.toInt ∧ x.toInt < ((3 : Nat) : Int)
  have hb := own_six hv27
  clear hv27
  revert v27
  intro v27 hb
  apply own_allN 6 v27 hb
  decide +kernel
theorem own_h0_232 {q0 : Int64} {q1 : Int64} {q2 : Int64} {p3 : Int32} {p4 : Int32} {p5 : Int32} {v1 : Int64} {v3 : Int64} {v5 : Int64} {v11 : Int32} {v17 : Int32} {v23 : Int32} {v25 : Int32} {v27 : Int32} {v29 : Int32} {v35 : Int32} {v41 : Int32} {v47 : Int32} {v53 : Int32} {v57 : Int32} {v61 : Int32} {v65 : Int32} {v69 : Int32} {v73 : Int32} {v77 : Int32} {v83 : Int64} {v89 : Int64} {v95 : Int64} {v96 : Int64} {v98 : Int64} {v104 : Int64} {v110 : Int64} {v116 : Int64} {v117 : Int64} {v119 : Int64} (hv1 : v1 = ((q0 &&& (1152921504606846975 : Int64)) + (1 : Int64))) (hv3 : v3 = ((q1 &&& (1152921504606846975 : Int64)) + (1 : Int64))) (hv5 : v5 = ((q2 &&& (1152921504606846975 : Int64)) + (1 : Int64))) (hv11 : v11 = (if (p3 &&& (1 : Int32)) = (0 : Int32) then (0 : Int32) else (1 : Int32))) (hv17 : v17 = (if (p3 &&& (2 : Int32)) = (0 : Int32) then (0 : Int32) else (1 : Int32))) (hv23 : v23 = (if (p3 &&& (4 : Int32)) = (0 : Int32) then (0 : Int32) else (1 : Int32))) (hv25 : v25 = (p5 &&& (3 : Int32))) (hv27 : v27 = ((p4 &&& (2147483647 : Int32)) - ((p4 &&& (2147483647 : Int32)) / (6 : Int32)) * (6 : Int32))) (hv29 : v29 = (v27 / (2 : Int32))) (hv35 : v35 = (if v29 = (0 : Int32) then (1 : Int32) else (0 : Int32))) (hv41 : v41 = (if v29 = (2 : Int32) then (1 : Int32) else (2 : Int32))) (hv47 : v47 = (if (v27 &&& (1 : Int32)) = (0 : Int32) then v35 else v41)) (hv53 : v53 = (if (v27 &&& (1 : Int32)) = (0 : Int32) then v41 else v35)) (hv57 : v57 = (own_F1 (0 : Int32) v29 v47 v53 v25)) (hv61 : v61 = (if v11 = v57 then (0 : Int32) else (1 : Int32))) (hv65 : v65 = (own_F1 (1 : Int32) v29 v47 v53 v25)) (hv69 : v69 = (if v17 = v65 then (0 : Int32) else (1 : Int32))) (hv73 : v73 = (own_F1 (2 : Int32) v29 v47 v53 v25)) (hv77 : v77 = (if v23 = v73 then (0 : Int32) else (1 : Int32))) (hv83 : v83 = (if v11 = (0 : Int32) then (0 : Int64) else v1)) (hv89 : v89 = (if v17 = (0 : Int32) then (0 : Int64) else v3)) (hv95 : v95 = (if v23 = (0 : Int32) then (0 : Int64) else v5)) (hv96 : v96 = (v83 + v89)) (hv98 : v98 = (v96 + v95)) (hv104 : v104 = (if v61 = (0 : Int32) then (0 : Int64) else v1)) (hv110 : v110 = (if v69 = (0 : Int32) then (0 : Int64) else v3)) (hv116 : v116 = (if v77 = (0 : Int32) then (0 : Int64) else v5)) (hv117 : v117 = (v104 + v110)) (hv119 : v119 = (v117 + v116)) : ∀ x ∈ ([v29, v47, v53] : List Int32), 0 ≤ x.toInt ∧ x.toInt < (([v1, v3, v5] : List Int64).length : Int) := by
  subst hv1 hv3 hv5 hv11 hv17 hv23 hv25 hv29 hv35 hv41 hv47 hv53 hv57 hv61 hv65 hv69 hv73 hv77 hv83 hv89 hv95 hv96 hv98 hv104 hv110 hv116 hv117 hv119
  show ∀ x : Int32, x ∈ _ → 0 ≤ x.toInt ∧ x.toInt < ((3 : Nat) : Int)
  have hb := own_six hv27
  clear hv27
  revert v27
  intro v27 hb
  apply own_allN 6 v27 hb
  decide +kernel
set_option maxRecDepth 65536 in
set_option maxHeartbeats 40000000 in
theorem own_rm0 (l : Launch) (Z : State) (a0 : Array Value) (hw : ∀ d ∈ tables_1, d.before a0 Z = true) (ws : List Jvm.Cond) (q0 : Int64) (q1 : Int64) (q2 : Int64) (p3 : Int32) (p4 : Int32) (p5 : Int32) (h0 : Heap) (n0 : Nat) (Z0 : n0 ≤ h0.size) :
    MetFree l x (head1 (Jvm.Cond.code x code maxLocals ret :: ws) room_1) (fun a U => a = #[(.long q0), (.long q1), (.long q2), (.int p3), (.int p4), (.int p5)] ∧ Z.Warmed39 U.vm ∧ U.heap = h0) (fun _ _ _ _ _ => True) (fun _ U o U' => ∃ vz Lz, o = .returned vz ∧ own_Q0 Z q0 q1 q2 p3 p4 p5 h0 n0 vz U'.heap Lz ∧ FrameEnd U o U' Lz room_1.cells room_1.slots) := by
  refine MetFree.of_bodySF (plainFor_of_name own_pn0) hisR ?_
  intro p e s m args below meth c s₁ Bd hml0 hP hK
  obtain ⟨rfl, hZ, hh⟩ := hP
  have hx := Bd.exec
  have hby := Bd.bytes
  have hml : c.maxLocals = 37 := hml0
  have hown : s.vm.findClass "com/example/evotempo/evotempo/problem/LinearFunctionFitnessAfterFlipsPinLaw" = some m.cls := findClass_of_methodNamed Bd.named
  have hnm := (name_of_methodNamed Bd.named Bd.method).1
  have X0 : Stand p l e room_1 s m #[(.long q0), (.long q1), (.long q2), (.int p3), (.int p4), (.int p5)] below meth c s₁ [] 0 0 := Stand.of_body Bd
  have e0 : s₁.heap = h0 := by rw [← hh, Bd.state]; rfl
  show own_End p e below s (fun vz h Lz => vz = some (.int (own_F0 q0 q1 q2 p3 p4 p5)) ∧ Fr n0 Lz) room_1.cells room_1.slots s₁ (entryFrame m #[(.long q0), (.long q1), (.long q2), (.int p3), (.int p4), (.int p5)] maxLocals)
  refine own_End.go (fun t k => castTop (own_ef0 m q0 q1 q2 p3 p4 p5) k) ?_
  show own_End p e below s _ _ _ s₁ (mkF m 0 #[.val (.long q0), .second, .val (.long q1), .second, .val (.long q2), .second, .val (.int p3), .val (.int p4), .val (.int p5), .unset, .unset, .unset, .unset, .unset, .unset, .unset, .unset, .unset, .unset, .unset, .unset, .unset, .unset, .unset, .unset, .unset, .unset, .unset, .unset, .unset, .unset, .unset, .unset, .unset, .unset, .unset, .unset] [])
  have N0 := Fr.nil n0
  obtain ⟨v1, hv1⟩ : ∃ z : Int64, z = ((q0 &&& (1152921504606846975 : Int64)) + (1 : Int64)) := ⟨_, rfl⟩
  have st2 : ∀ t, Steps p.tables e below (s₁.setTop (mkF m 9 #[.val (.long q0), .second, .val (.long q1), .second, .val (.long q2), .second, .val (.int p3), .val (.int p4), .val (.int p5), .val (.long v1), .second, .unset, .unset, .unset, .unset, .unset, .unset, .unset, .unset, .unset, .unset, .unset, .unset, .unset, .unset, .unset, .unset, .unset, .unset, .unset, .unset, .unset, .unset, .unset, .unset, .unset, .unset] [])) t → Steps p.tables e below (s₁.setTop (mkF m 0 #[.val (.long q0), .second, .val (.long q1), .second, .val (.long q2), .second, .val (.int p3), .val (.int p4), .val (.int p5), .unset, .unset, .unset, .unset, .unset, .unset, .unset, .unset, .unset, .unset, .unset, .unset, .unset, .unset, .unset, .unset, .unset, .unset, .unset, .unset, .unset, .unset, .unset, .unset, .unset, .unset, .unset, .unset] [])) t := by
    rw [hv1]
    intro t k
    show Steps p.tables e below (s₁.setTop (mkF m 0 #[.val (.long q0), .second, .val (.long q1), .second, .val (.long q2), .second, .val (.int p3), .val (.int p4), .val (.int p5), .unset, .unset, .unset, .unset, .unset, .unset, .unset, .unset, .unset, .unset, .unset, .unset, .unset, .unset, .unset, .unset, .unset, .unset, .unset, .unset, .unset, .unset, .unset, .unset, .unset, .unset, .unset, .unset] [])) _
    refine XS.lloadN X0.here hx rfl (hb hby at_0) rfl ?_
    show Steps p.tables e below (s₁.setTop (mkF m 1 #[.val (.long q0), .second, .val (.long q1), .second, .val (.long q2), .second, .val (.int p3), .val (.int p4), .val (.int p5), .unset, .unset, .unset, .unset, .unset, .unset, .unset, .unset, .unset, .unset, .unset, .unset, .unset, .unset, .unset, .unset, .unset, .unset, .unset, .unset, .unset, .unset, .unset, .unset, .unset, .unset, .unset, .unset] [(.long q0)])) _
    refine X0.ldc2Long hx hown (mvT hZ (hw _ (List.mem_of_getElem? (i := 0) rfl))) (g := (mkF m 1 #[.val (.long q0), .second, .val (.long q1), .second, .val (.long q2), .second, .val (.int p3), .val (.int p4), .val (.int p5), .unset, .unset, .unset, .unset, .unset, .unset, .unset, .unset, .unset, .unset, .unset, .unset, .unset, .unset, .unset, .unset, .unset, .unset, .unset, .unset, .unset, .unset, .unset, .unset, .unset, .unset, .unset, .unset] [(.long q0)])) rfl (hb hby at_1) _ ?_
    show Steps p.tables e below (s₁.setTop (mkF m 4 #[.val (.long q0), .second, .val (.long q1), .second, .val (.long q2), .second, .val (.int p3), .val (.int p4), .val (.int p5), .unset, .unset, .unset, .unset, .unset, .unset, .unset, .unset, .unset, .unset, .unset, .unset, .unset, .unset, .unset, .unset, .unset, .unset, .unset, .unset, .unset, .unset, .unset, .unset, .unset, .unset, .unset, .unset] [(.long (1152921504606846975 : Int64)), (.long q0)])) _
    refine XS.land X0.here hx rfl (hb hby at_4) rfl ?_
    show Steps p.tables e below (s₁.setTop (mkF m 5 #[.val (.long q0), .second, .val (.long q1), .second, .val (.long q2), .second, .val (.int p3), .val (.int p4), .val (.int p5), .unset, .unset, .unset, .unset, .unset, .unset, .unset, .unset, .unset, .unset, .unset, .unset, .unset, .unset, .unset, .unset, .unset, .unset, .unset, .unset, .unset, .unset, .unset, .unset, .unset, .unset, .unset, .unset] [(.long (q0 &&& (1152921504606846975 : Int64)))])) _
    refine XS.lconst X0.here hx rfl (hb hby at_5) ?_
    show Steps p.tables e below (s₁.setTop (mkF m 6 #[.val (.long q0), .second, .val (.long q1), .second, .val (.long q2), .second, .val (.int p3), .val (.int p4), .val (.int p5), .unset, .unset, .unset, .unset, .unset, .unset, .unset, .unset, .unset, .unset, .unset, .unset, .unset, .unset, .unset, .unset, .unset, .unset, .unset, .unset, .unset, .unset, .unset, .unset, .unset, .unset, .unset, .unset] [(.long (1 : Int64)), (.long (q0 &&& (1152921504606846975 : Int64)))])) _
    refine XS.ladd X0.here hx rfl (hb hby at_6) rfl ?_
    show Steps p.tables e below (s₁.setTop (mkF m 7 #[.val (.long q0), .second, .val (.long q1), .second, .val (.long q2), .second, .val (.int p3), .val (.int p4), .val (.int p5), .unset, .unset, .unset, .unset, .unset, .unset, .unset, .unset, .unset, .unset, .unset, .unset, .unset, .unset, .unset, .unset, .unset, .unset, .unset, .unset, .unset, .unset, .unset, .unset, .unset, .unset, .unset, .unset] [(.long ((q0 &&& (1152921504606846975 : Int64)) + (1 : Int64)))])) _
    refine XS.lstore X0.here hx rfl (hb hby at_7) rfl (l' := #[.val (.long q0), .second, .val (.long q1), .second, .val (.long q2), .second, .val (.int p3), .val (.int p4), .val (.int p5), .val (.long ((q0 &&& (1152921504606846975 : Int64)) + (1 : Int64))), .second, .unset, .unset, .unset, .unset, .unset, .unset, .unset, .unset, .unset, .unset, .unset, .unset, .unset, .unset, .unset, .unset, .unset, .unset, .unset, .unset, .unset, .unset, .unset, .unset, .unset, .unset]) rfl ?_
    exact k
  obtain ⟨v3, hv3⟩ : ∃ z : Int64, z = ((q1 &&& (1152921504606846975 : Int64)) + (1 : Int64)) := ⟨_, rfl⟩
  have st4 : ∀ t, Steps p.tables e below (s₁.setTop (mkF m 18 #[.val (.long q0), .second, .val (.long q1), .second, .val (.long q2), .second, .val (.int p3), .val (.int p4), .val (.int p5), .val (.long v1), .second, .val (.long v3), .second, .unset, .unset, .unset, .unset, .unset, .unset, .unset, .unset, .unset, .unset, .unset, .unset, .unset, .unset, .unset, .unset, .unset, .unset, .unset, .unset, .unset, .unset, .unset, .unset] [])) t → Steps p.tables e below (s₁.setTop (mkF m 9 #[.val (.long q0), .second, .val (.long q1), .second, .val (.long q2), .second, .val (.int p3), .val (.int p4), .val (.int p5), .val (.long v1), .second, .unset, .unset, .unset, .unset, .unset, .unset, .unset, .unset, .unset, .unset, .unset, .unset, .unset, .unset, .unset, .unset, .unset, .unset, .unset, .unset, .unset, .unset, .unset, .unset, .unset, .unset] [])) t := by
    rw [hv3]
    intro t k
    show Steps p.tables e below (s₁.setTop (mkF m 9 #[.val (.long q0), .second, .val (.long q1), .second, .val (.long q2), .second, .val (.int p3), .val (.int p4), .val (.int p5), .val (.long v1), .second, .unset, .unset, .unset, .unset, .unset, .unset, .unset, .unset, .unset, .unset, .unset, .unset, .unset, .unset, .unset, .unset, .unset, .unset, .unset, .unset, .unset, .unset, .unset, .unset, .unset, .unset] [])) _
    refine XS.lloadN X0.here hx rfl (hb hby at_9) rfl ?_
    show Steps p.tables e below (s₁.setTop (mkF m 10 #[.val (.long q0), .second, .val (.long q1), .second, .val (.long q2), .second, .val (.int p3), .val (.int p4), .val (.int p5), .val (.long v1), .second, .unset, .unset, .unset, .unset, .unset, .unset, .unset, .unset, .unset, .unset, .unset, .unset, .unset, .unset, .unset, .unset, .unset, .unset, .unset, .unset, .unset, .unset, .unset, .unset, .unset, .unset] [(.long q1)])) _
    refine X0.ldc2Long hx hown (mvT hZ (hw _ (List.mem_of_getElem? (i := 0) rfl))) (g := (mkF m 10 #[.val (.long q0), .second, .val (.long q1), .second, .val (.long q2), .second, .val (.int p3), .val (.int p4), .val (.int p5), .val (.long v1), .second, .unset, .unset, .unset, .unset, .unset, .unset, .unset, .unset, .unset, .unset, .unset, .unset, .unset, .unset, .unset, .unset, .unset, .unset, .unset, .unset, .unset, .unset, .unset, .unset, .unset, .unset] [(.long q1)])) rfl (hb hby at_10) _ ?_
    show Steps p.tables e below (s₁.setTop (mkF m 13 #[.val (.long q0), .second, .val (.long q1), .second, .val (.long q2), .second, .val (.int p3), .val (.int p4), .val (.int p5), .val (.long v1), .second, .unset, .unset, .unset, .unset, .unset, .unset, .unset, .unset, .unset, .unset, .unset, .unset, .unset, .unset, .unset, .unset, .unset, .unset, .unset, .unset, .unset, .unset, .unset, .unset, .unset, .unset] [(.long (1152921504606846975 : Int64)), (.long q1)])) _
    refine XS.land X0.here hx rfl (hb hby at_13) rfl ?_
    show Steps p.tables e below (s₁.setTop (mkF m 14 #[.val (.long q0), .second, .val (.long q1), .second, .val (.long q2), .second, .val (.int p3), .val (.int p4), .val (.int p5), .val (.long v1), .second, .unset, .unset, .unset, .unset, .unset, .unset, .unset, .unset, .unset, .unset, .unset, .unset, .unset, .unset, .unset, .unset, .unset, .unset, .unset, .unset, .unset, .unset, .unset, .unset, .unset, .unset] [(.long (q1 &&& (1152921504606846975 : Int64)))])) _
    refine XS.lconst X0.here hx rfl (hb hby at_14) ?_
    show Steps p.tables e below (s₁.setTop (mkF m 15 #[.val (.long q0), .second, .val (.long q1), .second, .val (.long q2), .second, .val (.int p3), .val (.int p4), .val (.int p5), .val (.long v1), .second, .unset, .unset, .unset, .unset, .unset, .unset, .unset, .unset, .unset, .unset, .unset, .unset, .unset, .unset, .unset, .unset, .unset, .unset, .unset, .unset, .unset, .unset, .unset, .unset, .unset, .unset] [(.long (1 : Int64)), (.long (q1 &&& (1152921504606846975 : Int64)))])) _
    refine XS.ladd X0.here hx rfl (hb hby at_15) rfl ?_
    show Steps p.tables e below (s₁.setTop (mkF m 16 #[.val (.long q0), .second, .val (.long q1), .second, .val (.long q2), .second, .val (.int p3), .val (.int p4), .val (.int p5), .val (.long v1), .second, .unset, .unset, .unset, .unset, .unset, .unset, .unset, .unset, .unset, .unset, .unset, .unset, .unset, .unset, .unset, .unset, .unset, .unset, .unset, .unset, .unset, .unset, .unset, .unset, .unset, .unset] [(.long ((q1 &&& (1152921504606846975 : Int64)) + (1 : Int64)))])) _
    refine XS.lstore X0.here hx rfl (hb hby at_16) rfl (l' := #[.val (.long q0), .second, .val (.long q1), .second, .val (.long q2), .second, .val (.int p3), .val (.int p4), .val (.int p5), .val (.long v1), .second, .val (.long ((q1 &&& (1152921504606846975 : Int64)) + (1 : Int64))), .second, .unset, .unset, .unset, .unset, .unset, .unset, .unset, .unset, .unset, .unset, .unset, .unset, .unset, .unset, .unset, .unset, .unset, .unset, .unset, .unset, .unset, .unset, .unset, .unset]) rfl ?_
    exact k
  obtain ⟨v5, hv5⟩ : ∃ z : Int64, z = ((q2 &&& (1152921504606846975 : Int64)) + (1 : Int64)) := ⟨_, rfl⟩
  have st6 : ∀ t, Steps p.tables e below (s₁.setTop (mkF m 28 #[.val (.long q0), .second, .val (.long q1), .second, .val (.long q2), .second, .val (.int p3), .val (.int p4), .val (.int p5), .val (.long v1), .second, .val (.long v3), .second, .val (.long v5), .second, .unset, .unset, .unset, .unset, .unset, .unset, .unset, .unset, .unset, .unset, .unset, .unset, .unset, .unset, .unset, .unset, .unset, .unset, .unset, .unset, .unset, .unset] [])) t → Steps p.tables e below (s₁.setTop (mkF m 18 #[.val (.long q0), .second, .val (.long q1), .second, .val (.long q2), .second, .val (.int p3), .val (.int p4), .val (.int p5), .val (.long v1), .second, .val (.long v3), .second, .unset, .unset, .unset, .unset, .unset, .unset, .unset, .unset, .unset, .unset, .unset, .unset, .unset, .unset, .unset, .unset, .unset, .unset, .unset, .unset, .unset, .unset, .unset, .unset] [])) t := by
    rw [hv5]
    intro t k
    show Steps p.tables e below (s₁.setTop (mkF m 18 #[.val (.long q0), .second, .val (.long q1), .second, .val (.long q2), .second, .val (.int p3), .val (.int p4), .val (.int p5), .val (.long v1), .second, .val (.long v3), .second, .unset, .unset, .unset, .unset, .unset, .unset, .unset, .unset, .unset, .unset, .unset, .unset, .unset, .unset, .unset, .unset, .unset, .unset, .unset, .unset, .unset, .unset, .unset, .unset] [])) _
    refine XS.lload X0.here hx rfl (hb hby at_18) rfl ?_
    show Steps p.tables e below (s₁.setTop (mkF m 20 #[.val (.long q0), .second, .val (.long q1), .second, .val (.long q2), .second, .val (.int p3), .val (.int p4), .val (.int p5), .val (.long v1), .second, .val (.long v3), .second, .unset, .unset, .unset, .unset, .unset, .unset, .unset, .unset, .unset, .unset, .unset, .unset, .unset, .unset, .unset, .unset, .unset, .unset, .unset, .unset, .unset, .unset, .unset, .unset] [(.long q2)])) _
    refine X0.ldc2Long hx hown (mvT hZ (hw _ (List.mem_of_getElem? (i := 0) rfl))) (g := (mkF m 20 #[.val (.long q0), .second, .val (.long q1), .second, .val (.long q2), .second, .val (.int p3), .val (.int p4), .val (.int p5), .val (.long v1), .second, .val (.long v3), .second, .unset, .unset, .unset, .unset, .unset, .unset, .unset, .unset, .unset, .unset, .unset, .unset, .unset, .unset, .unset, .unset, .unset, .unset, .unset, .unset, .unset, .unset, .unset, .unset] [(.long q2)])) rfl (hb hby at_20) _ ?_
    show Steps p.tables e below (s₁.setTop (mkF m 23 #[.val (.long q0), .second, .val (.long q1), .second, .val (.long q2), .second, .val (.int p3), .val (.int p4), .val (.int p5), .val (.long v1), .second, .val (.long v3), .second, .unset, .unset, .unset, .unset, .unset, .unset, .unset, .unset, .unset, .unset, .unset, .unset, .unset, .unset, .unset, .unset, .unset, .unset, .unset, .unset, .unset, .unset, .unset, .unset] [(.long (1152921504606846975 : Int64)), (.long q2)])) _
    refine XS.land X0.here hx rfl (hb hby at_23) rfl ?_
    show Steps p.tables e below (s₁.setTop (mkF m 24 #[.val (.long q0), .second, .val (.long q1), .second, .val (.long q2), .second, .val (.int p3), .val (.int p4), .val (.int p5), .val (.long v1), .second, .val (.long v3), .second, .unset, .unset, .unset, .unset, .unset, .unset, .unset, .unset, .unset, .unset, .unset, .unset, .unset, .unset, .unset, .unset, .unset, .unset, .unset, .unset, .unset, .unset, .unset, .unset] [(.long (q2 &&& (1152921504606846975 : Int64)))])) _
    refine XS.lconst X0.here hx rfl (hb hby at_24) ?_
    show Steps p.tables e below (s₁.setTop (mkF m 25 #[.val (.long q0), .second, .val (.long q1), .second, .val (.long q2), .second, .val (.int p3), .val (.int p4), .val (.int p5), .val (.long v1), .second, .val (.long v3), .second, .unset, .unset, .unset, .unset, .unset, .unset, .unset, .unset, .unset, .unset, .unset, .unset, .unset, .unset, .unset, .unset, .unset, .unset, .unset, .unset, .unset, .unset, .unset, .unset] [(.long (1 : Int64)), (.long (q2 &&& (1152921504606846975 : Int64)))])) _
    refine XS.ladd X0.here hx rfl (hb hby at_25) rfl ?_
    show Steps p.tables e below (s₁.setTop (mkF m 26 #[.val (.long q0), .second, .val (.long q1), .second, .val (.long q2), .second, .val (.int p3), .val (.int p4), .val (.int p5), .val (.long v1), .second, .val (.long v3), .second, .unset, .unset, .unset, .unset, .unset, .unset, .unset, .unset, .unset, .unset, .unset, .unset, .unset, .unset, .unset, .unset, .unset, .unset, .unset, .unset, .unset, .unset, .unset, .unset] [(.long ((q2 &&& (1152921504606846975 : Int64)) + (1 : Int64)))])) _
    refine XS.lstore X0.here hx rfl (hb hby at_26) rfl (l' := #[.val (.long q0), .second, .val (.long q1), .second, .val (.long q2), .second, .val (.int p3), .val (.int p4), .val (.int p5), .val (.long v1), .second, .val (.long v3), .second, .val (.long ((q2 &&& (1152921504606846975 : Int64)) + (1 : Int64))), .second, .unset, .unset, .unset, .unset, .unset, .unset, .unset, .unset, .unset, .unset, .unset, .unset, .unset, .unset, .unset, .unset, .unset, .unset, .unset, .unset, .unset, .unset]) rfl ?_
    exact k
  have st7 : ∀ t, Steps p.tables e below (s₁.setTop (mkF m 32 #[.val (.long q0), .second, .val (.long q1), .second, .val (.long q2), .second, .val (.int p3), .val (.int p4), .val (.int p5), .val (.long v1), .second, .val (.long v3), .second, .val (.long v5), .second, .unset, .unset, .unset, .unset, .unset, .unset, .unset, .unset, .unset, .unset, .unset, .unset, .unset, .unset, .unset, .unset, .unset, .unset, .unset, .unset, .unset, .unset] [(.int (p3 &&& (1 : Int32)))])) t → Steps p.tables e below (s₁.setTop (mkF m 28 #[.val (.long q0), .second, .val (.long q1), .second, .val (.long q2), .second, .val (.int p3), .val (.int p4), .val (.int p5), .val (.long v1), .second, .val (.long v3), .second, .val (.long v5), .second, .unset, .unset, .unset, .unset, .unset, .unset, .unset, .unset, .unset, .unset, .unset, .unset, .unset, .unset, .unset, .unset, .unset, .unset, .unset, .unset, .unset, .unset] [])) t := by
    intro t k
    show Steps p.tables e below (s₁.setTop (mkF m 28 #[.val (.long q0), .second, .val (.long q1), .second, .val (.long q2), .second, .val (.int p3), .val (.int p4), .val (.int p5), .val (.long v1), .second, .val (.long v3), .second, .val (.long v5), .second, .unset, .unset, .unset, .unset, .unset, .unset, .unset, .unset, .unset, .unset, .unset, .unset, .unset, .unset, .unset, .unset, .unset, .unset, .unset, .unset, .unset, .unset] [])) _
    refine XS.iload X0.here hx rfl (hb hby at_28) rfl ?_
    show Steps p.tables e below (s₁.setTop (mkF m 30 #[.val (.long q0), .second, .val (.long q1), .second, .val (.long q2), .second, .val (.int p3), .val (.int p4), .val (.int p5), .val (.long v1), .second, .val (.long v3), .second, .val (.long v5), .second, .unset, .unset, .unset, .unset, .unset, .unset, .unset, .unset, .unset, .unset, .unset, .unset, .unset, .unset, .unset, .unset, .unset, .unset, .unset, .unset, .unset, .unset] [(.int p3)])) _
    refine XS.iconst X0.here hx rfl (hb hby at_30) ?_
    show Steps p.tables e below (s₁.setTop (mkF m 31 #[.val (.long q0), .second, .val (.long q1), .second, .val (.long q2), .second, .val (.int p3), .val (.int p4), .val (.int p5), .val (.long v1), .second, .val (.long v3), .second, .val (.long v5), .second, .unset, .unset, .unset, .unset, .unset, .unset, .unset, .unset, .unset, .unset, .unset, .unset, .unset, .unset, .unset, .unset, .unset, .unset, .unset, .unset, .unset, .unset] [(.int (1 : Int32)), (.int p3)])) _
    refine XS.iand X0.here hx rfl (hb hby at_31) rfl ?_
    exact k
  obtain ⟨v11, hv11⟩ : ∃ z : Int32, z = (if (p3 &&& (1 : Int32)) = (0 : Int32) then (0 : Int32) else (1 : Int32)) := ⟨_, rfl⟩
  have st12 : ∀ t, Steps p.tables e below (s₁.setTop (mkF m 40 #[.val (.long q0), .second, .val (.long q1), .second, .val (.long q2), .second, .val (.int p3), .val (.int p4), .val (.int p5), .val (.long v1), .second, .val (.long v3), .second, .val (.long v5), .second, .unset, .unset, .unset, .unset, .unset, .unset, .unset, .unset, .unset, .unset, .unset, .unset, .unset, .unset, .unset, .unset, .unset, .unset, .unset, .unset, .unset, .unset] [(.int v11)])) t → Steps p.tables e below (s₁.setTop (mkF m 32 #[.val (.long q0), .second, .val (.long q1), .second, .val (.long q2), .second, .val (.int p3), .val (.int p4), .val (.int p5), .val (.long v1), .second, .val (.long v3), .second, .val (.long v5), .second, .unset, .unset, .unset, .unset, .unset, .unset, .unset, .unset, .unset, .unset, .unset, .unset, .unset, .unset, .unset, .unset, .unset, .unset, .unset, .unset, .unset, .unset] [(.int (p3 &&& (1 : Int32)))])) t := by
    rw [hv11]
    by_cases hc32_8 : (p3 &&& (1 : Int32)) = (0 : Int32)
    · repeat rw [if_pos hc32_8]
      have st9 : ∀ t, Steps p.tables e below (s₁.setTop (mkF m 40 #[.val (.long q0), .second, .val (.long q1), .second, .val (.long q2), .second, .val (.int p3), .val (.int p4), .val (.int p5), .val (.long v1), .second, .val (.long v3), .second, .val (.long v5), .second, .unset, .unset, .unset, .unset, .unset, .unset, .unset, .unset, .unset, .unset, .unset, .unset, .unset, .unset, .unset, .unset, .unset, .unset, .unset, .unset, .unset, .unset] [(.int (0 : Int32))])) t → Steps p.tables e below (s₁.setTop (mkF m 32 #[.val (.long q0), .second, .val (.long q1), .second, .val (.long q2), .second, .val (.int p3), .val (.int p4), .val (.int p5), .val (.long v1), .second, .val (.long v3), .second, .val (.long v5), .second, .unset, .unset, .unset, .unset, .unset, .unset, .unset, .unset, .unset, .unset, .unset, .unset, .unset, .unset, .unset, .unset, .unset, .unset, .unset, .unset, .unset, .unset] [(.int (p3 &&& (1 : Int32)))])) t := by
        intro t k
        show Steps p.tables e below (s₁.setTop (mkF m 32 #[.val (.long q0), .second, .val (.long q1), .second, .val (.long q2), .second, .val (.int p3), .val (.int p4), .val (.int p5), .val (.long v1), .second, .val (.long v3), .second, .val (.long v5), .second, .unset, .unset, .unset, .unset, .unset, .unset, .unset, .unset, .unset, .unset, .unset, .unset, .unset, .unset, .unset, .unset, .unset, .unset, .unset, .unset, .unset, .unset] [(.int (p3 &&& (1 : Int32)))])) _
        refine XS.ifYes X0.here hx rfl (pc0 := 32) (pc' := 39) rfl (hb hby at_32) rfl ((if0 _ _).trans (teq hc32_8).1) (by decide) (by decide) ?_
        show Steps p.tables e below (s₁.setTop (mkF m 39 #[.val (.long q0), .second, .val (.long q1), .second, .val (.long q2), .second, .val (.int p3), .val (.int p4), .val (.int p5), .val (.long v1), .second, .val (.long v3), .second, .val (.long v5), .second, .unset, .unset, .unset, .unset, .unset, .unset, .unset, .unset, .unset, .unset, .unset, .unset, .unset, .unset, .unset, .unset, .unset, .unset, .unset, .unset, .unset, .unset] [])) _
        refine XS.iconst X0.here hx rfl (hb hby at_39) ?_
        exact k
      exact fun t k => st9 _ k
    · repeat rw [if_neg hc32_8]
      have st10 : ∀ t, Steps p.tables e below (s₁.setTop (mkF m 40 #[.val (.long q0), .second, .val (.long q1), .second, .val (.long q2), .second, .val (.int p3), .val (.int p4), .val (.int p5), .val (.long v1), .second, .val (.long v3), .second, .val (.long v5), .second, .unset, .unset, .unset, .unset, .unset, .unset, .unset, .unset, .unset, .unset, .unset, .unset, .unset, .unset, .unset, .unset, .unset, .unset, .unset, .unset, .unset, .unset] [(.int (1 : Int32))])) t → Steps p.tables e below (s₁.setTop (mkF m 32 #[.val (.long q0), .second, .val (.long q1), .second, .val (.long q2), .second, .val (.int p3), .val (.int p4), .val (.int p5), .val (.long v1), .second, .val (.long v3), .second, .val (.long v5), .second, .unset, .unset, .unset, .unset, .unset, .unset, .unset, .unset, .unset, .unset, .unset, .unset, .unset, .unset, .unset, .unset, .unset, .unset, .unset, .unset, .unset, .unset] [(.int (p3 &&& (1 : Int32)))])) t := by
        intro t k
        show Steps p.tables e below (s₁.setTop (mkF m 32 #[.val (.long q0), .second, .val (.long q1), .second, .val (.long q2), .second, .val (.int p3), .val (.int p4), .val (.int p5), .val (.long v1), .second, .val (.long v3), .second, .val (.long v5), .second, .unset, .unset, .unset, .unset, .unset, .unset, .unset, .unset, .unset, .unset, .unset, .unset, .unset, .unset, .unset, .unset, .unset, .unset, .unset, .unset, .unset, .unset] [(.int (p3 &&& (1 : Int32)))])) _
        refine XS.ifNo X0.here hx rfl (hb hby at_32) rfl ((if0 _ _).trans (feq hc32_8).1) ?_
        show Steps p.tables e below (s₁.setTop (mkF m 35 #[.val (.long q0), .second, .val (.long q1), .second, .val (.long q2), .second, .val (.int p3), .val (.int p4), .val (.int p5), .val (.long v1), .second, .val (.long v3), .second, .val (.long v5), .second, .unset, .unset, .unset, .unset, .unset, .unset, .unset, .unset, .unset, .unset, .unset, .unset, .unset, .unset, .unset, .unset, .unset, .unset, .unset, .unset, .unset, .unset] [])) _
        refine XS.iconst X0.here hx rfl (hb hby at_35) ?_
        show Steps p.tables e below (s₁.setTop (mkF m 36 #[.val (.long q0), .second, .val (.long q1), .second, .val (.long q2), .second, .val (.int p3), .val (.int p4), .val (.int p5), .val (.long v1), .second, .val (.long v3), .second, .val (.long v5), .second, .unset, .unset, .unset, .unset, .unset, .unset, .unset, .unset, .unset, .unset, .unset, .unset, .unset, .unset, .unset, .unset, .unset, .unset, .unset, .unset, .unset, .unset] [(.int (1 : Int32))])) _
        refine XS.goto X0.here hx rfl (pc0 := 36) (pc' := 40) rfl (hb hby at_36) (by decide) (by decide) ?_
        exact k
      exact fun t k => st10 _ k
  have st13 : ∀ t, Steps p.tables e below (s₁.setTop (mkF m 46 #[.val (.long q0), .second, .val (.long q1), .second, .val (.long q2), .second, .val (.int p3), .val (.int p4), .val (.int p5), .val (.long v1), .second, .val (.long v3), .second, .val (.long v5), .second, .val (.int v11), .unset, .unset, .unset, .unset, .unset, .unset, .unset, .unset, .unset, .unset, .unset, .unset, .unset, .unset, .unset, .unset, .unset, .unset, .unset, .unset, .unset] [(.int (p3 &&& (2 : Int32)))])) t → Steps p.tables e below (s₁.setTop (mkF m 40 #[.val (.long q0), .second, .val (.long q1), .second, .val (.long q2), .second, .val (.int p3), .val (.int p4), .val (.int p5), .val (.long v1), .second, .val (.long v3), .second, .val (.long v5), .second, .unset, .unset, .unset, .unset, .unset, .unset, .unset, .unset, .unset, .unset, .unset, .unset, .unset, .unset, .unset, .unset, .unset, .unset, .unset, .unset, .unset, .unset] [(.int v11)])) t := by
    intro t k
    show Steps p.tables e below (s₁.setTop (mkF m 40 #[.val (.long q0), .second, .val (.long q1), .second, .val (.long q2), .second, .val (.int p3), .val (.int p4), .val (.int p5), .val (.long v1), .second, .val (.long v3), .second, .val (.long v5), .second, .unset, .unset, .unset, .unset, .unset, .unset, .unset, .unset, .unset, .unset, .unset, .unset, .unset, .unset, .unset, .unset, .unset, .unset, .unset, .unset, .unset, .unset] [(.int v11)])) _
    refine XS.istore X0.here hx rfl (hb hby at_40) rfl (l' := #[.val (.long q0), .second, .val (.long q1), .second, .val (.long q2), .second, .val (.int p3), .val (.int p4), .val (.int p5), .val (.long v1), .second, .val (.long v3), .second, .val (.long v5), .second, .val (.int v11), .unset, .unset, .unset, .unset, .unset, .unset, .unset, .unset, .unset, .unset, .unset, .unset, .unset, .unset, .unset, .unset, .unset, .unset, .unset, .unset, .unset]) rfl ?_
    show Steps p.tables e below (s₁.setTop (mkF m 42 #[.val (.long q0), .second, .val (.long q1), .second, .val (.long q2), .second, .val (.int p3), .val (.int p4), .val (.int p5), .val (.long v1), .second, .val (.long v3), .second, .val (.long v5), .second, .val (.int v11), .unset, .unset, .unset, .unset, .unset, .unset, .unset, .unset, .unset, .unset, .unset, .unset, .unset, .unset, .unset, .unset, .unset, .unset, .unset, .unset, .unset] [])) _
    refine XS.iload X0.here hx rfl (hb hby at_42) rfl ?_
    show Steps p.tables e below (s₁.setTop (mkF m 44 #[.val (.long q0), .second, .val (.long q1), .second, .val (.long q2), .second, .val (.int p3), .val (.int p4), .val (.int p5), .val (.long v1), .second, .val (.long v3), .second, .val (.long v5), .second, .val (.int v11), .unset, .unset, .unset, .unset, .unset, .unset, .unset, .unset, .unset, .unset, .unset, .unset, .unset, .unset, .unset, .unset, .unset, .unset, .unset, .unset, .unset] [(.int p3)])) _
    refine XS.iconst X0.here hx rfl (hb hby at_44) ?_
    show Steps p.tables e below (s₁.setTop (mkF m 45 #[.val (.long q0), .second, .val (.long q1), .second, .val (.long q2), .second, .val (.int p3), .val (.int p4), .val (.int p5), .val (.long v1), .second, .val (.long v3), .second, .val (.long v5), .second, .val (.int v11), .unset, .unset, .unset, .unset, .unset, .unset, .unset, .unset, .unset, .unset, .unset, .unset, .unset, .unset, .unset, .unset, .unset, .unset, .unset, .unset, .unset] [(.int (2 : Int32)), (.int p3)])) _
    refine XS.iand X0.here hx rfl (hb hby at_45) rfl ?_
    exact k
  obtain ⟨v17, hv17⟩ : ∃ z : Int32, z = (if (p3 &&& (2 : Int32)) = (0 : Int32) then (0 : Int32) else (1 : Int32)) := ⟨_, rfl⟩
  have st18 : ∀ t, Steps p.tables e below (s₁.setTop (mkF m 54 #[.val (.long q0), .second, .val (.long q1), .second, .val (.long q2), .second, .val (.int p3), .val (.int p4), .val (.int p5), .val (.long v1), .second, .val (.long v3), .second, .val (.long v5), .second, .val (.int v11), .unset, .unset, .unset, .unset, .unset, .unset, .unset, .unset, .unset, .unset, .unset, .unset, .unset, .unset, .unset, .unset, .unset, .unset, .unset, .unset, .unset] [(.int v17)])) t → Steps p.tables e below (s₁.setTop (mkF m 46 #[.val (.long q0), .second, .val (.long q1), .second, .val (.long q2), .second, .val (.int p3), .val (.int p4), .val (.int p5), .val (.long v1), .second, .val (.long v3), .second, .val (.long v5), .second, .val (.int v11), .unset, .unset, .unset, .unset, .unset, .unset, .unset, .unset, .unset, .unset, .unset, .unset, .unset, .unset, .unset, .unset, .unset, .unset, .unset, .unset, .unset] [(.int (p3 &&& (2 : Int32)))])) t := by
    rw [hv17]
    by_cases hc46_14 : (p3 &&& (2 : Int32)) = (0 : Int32)
    · repeat rw [if_pos hc46_14]
      have st15 : ∀ t, Steps p.tables e below (s₁.setTop (mkF m 54 #[.val (.long q0), .second, .val (.long q1), .second, .val (.long q2), .second, .val (.int p3), .val (.int p4), .val (.int p5), .val (.long v1), .second, .val (.long v3), .second, .val (.long v5), .second, .val (.int v11), .unset, .unset, .unset, .unset, .unset, .unset, .unset, .unset, .unset, .unset, .unset, .unset, .unset, .unset, .unset, .unset, .unset, .unset, .unset, .unset, .unset] [(.int (0 : Int32))])) t → Steps p.tables e below (s₁.setTop (mkF m 46 #[.val (.long q0), .second, .val (.long q1), .second, .val (.long q2), .second, .val (.int p3), .val (.int p4), .val (.int p5), .val (.long v1), .second, .val (.long v3), .second, .val (.long v5), .second, .val (.int v11), .unset, .unset, .unset, .unset, .unset, .unset, .unset, .unset, .unset, .unset, .unset, .unset, .unset, .unset, .unset, .unset, .unset, .unset, .unset, .unset, .unset] [(.int (p3 &&& (2 : Int32)))])) t := by
        intro t k
        show Steps p.tables e below (s₁.setTop (mkF m 46 #[.val (.long q0), .second, .val (.long q1), .second, .val (.long q2), .second, .val (.int p3), .val (.int p4), .val (.int p5), .val (.long v1), .second, .val (.long v3), .second, .val (.long v5), .second, .val (.int v11), .unset, .unset, .unset, .unset, .unset, .unset, .unset, .unset, .unset, .unset, .unset, .unset, .unset, .unset, .unset, .unset, .unset, .unset, .unset, .unset, .unset] [(.int (p3 &&& (2 : Int32)))])) _
        refine XS.ifYes X0.here hx rfl (pc0 := 46) (pc' := 53) rfl (hb hby at_46) rfl ((if0 _ _).trans (teq hc46_14).1) (by decide) (by decide) ?_
        show Steps p.tables e below (s₁.setTop (mkF m 53 #[.val (.long q0), .second, .val (.long q1), .second, .val (.long q2), .second, .val (.int p3), .val (.int p4), .val (.int p5), .val (.long v1), .second, .val (.long v3), .second, .val (.long v5), .second, .val (.int v11), .unset, .unset, .unset, .unset, .unset, .unset, .unset, .unset, .unset, .unset, .unset, .unset, .unset, .unset, .unset, .unset, .unset, .unset, .unset, .unset, .unset] [])) _
        refine XS.iconst X0.here hx rfl (hb hby at_53) ?_
        exact k
      exact fun t k => st15 _ k
    · repeat rw [if_neg hc46_14]
      have st16 : ∀ t, Steps p.tables e below (s₁.setTop (mkF m 54 #[.val (.long q0), .second, .val (.long q1), .second, .val (.long q2), .second, .val (.int p3), .val (.int p4), .val (.int p5), .val (.long v1), .second, .val (.long v3), .second, .val (.long v5), .second, .val (.int v11), .unset, .unset, .unset, .unset, .unset, .unset, .unset, .unset, .unset, .unset, .unset, .unset, .unset, .unset, .unset, .unset, .unset, .unset, .unset, .unset, .unset] [(.int (1 : Int32))])) t → Steps p.tables e below (s₁.setTop (mkF m 46 #[.val (.long q0), .second, .val (.long q1), .second, .val (.long q2), .second, .val (.int p3), .val (.int p4), .val (.int p5), .val (.long v1), .second, .val (.long v3), .second, .val (.long v5), .second, .val (.int v11), .unset, .unset, .unset, .unset, .unset, .unset, .unset, .unset, .unset, .unset, .unset, .unset, .unset, .unset, .unset, .unset, .unset, .unset, .unset, .unset, .unset] [(.int (p3 &&& (2 : Int32)))])) t := by
        intro t k
        show Steps p.tables e below (s₁.setTop (mkF m 46 #[.val (.long q0), .second, .val (.long q1), .second, .val (.long q2), .second, .val (.int p3), .val (.int p4), .val (.int p5), .val (.long v1), .second, .val (.long v3), .second, .val (.long v5), .second, .val (.int v11), .unset, .unset, .unset, .unset, .unset, .unset, .unset, .unset, .unset, .unset, .unset, .unset, .unset, .unset, .unset, .unset, .unset, .unset, .unset, .unset, .unset] [(.int (p3 &&& (2 : Int32)))])) _
        refine XS.ifNo X0.here hx rfl (hb hby at_46) rfl ((if0 _ _).trans (feq hc46_14).1) ?_
        show Steps p.tables e below (s₁.setTop (mkF m 49 #[.val (.long q0), .second, .val (.long q1), .second, .val (.long q2), .second, .val (.int p3), .val (.int p4), .val (.int p5), .val (.long v1), .second, .val (.long v3), .second, .val (.long v5), .second, .val (.int v11), .unset, .unset, .unset, .unset, .unset, .unset, .unset, .unset, .unset, .unset, .unset, .unset, .unset, .unset, .unset, .unset, .unset, .unset, .unset, .unset, .unset] [])) _
        refine XS.iconst X0.here hx rfl (hb hby at_49) ?_
        show Steps p.tables e below (s₁.setTop (mkF m 50 #[.val (.long q0), .second, .val (.long q1), .second, .val (.long q2), .second, .val (.int p3), .val (.int p4), .val (.int p5), .val (.long v1), .second, .val (.long v3), .second, .val (.long v5), .second, .val (.int v11), .unset, .unset, .unset, .unset, .unset, .unset, .unset, .unset, .unset, .unset, .unset, .unset, .unset, .unset, .unset, .unset, .unset, .unset, .unset, .unset, .unset] [(.int (1 : Int32))])) _
        refine XS.goto X0.here hx rfl (pc0 := 50) (pc' := 54) rfl (hb hby at_50) (by decide) (by decide) ?_
        exact k
      exact fun t k => st16 _ k
  have st19 : ∀ t, Steps p.tables e below (s₁.setTop (mkF m 60 #[.val (.long q0), .second, .val (.long q1), .second, .val (.long q2), .second, .val (.int p3), .val (.int p4), .val (.int p5), .val (.long v1), .second, .val (.long v3), .second, .val (.long v5), .second, .val (.int v11), .val (.int v17), .unset, .unset, .unset, .unset, .unset, .unset, .unset, .unset, .unset, .unset, .unset, .unset, .unset, .unset, .unset, .unset, .unset, .unset, .unset, .unset] [(.int (p3 &&& (4 : Int32)))])) t → Steps p.tables e below (s₁.setTop (mkF m 54 #[.val (.long q0), .second, .val (.long q1), .second, .val (.long q2), .second, .val (.int p3), .val (.int p4), .val (.int p5), .val (.long v1), .second, .val (.long v3), .second, .val (.long v5), .second, .val (.int v11), .unset, .unset, .unset, .unset, .unset, .unset, .unset, .unset, .unset, .unset, .unset, .unset, .unset, .unset, .unset, .unset, .unset, .unset, .unset, .unset, .unset] [(.int v17)])) t := by
    intro t k
    show Steps p.tables e below (s₁.setTop (mkF m 54 #[.val (.long q0), .second, .val (.long q1), .second, .val (.long q2), .second, .val (.int p3), .val (.int p4), .val (.int p5), .val (.long v1), .second, .val (.long v3), .second, .val (.long v5), .second, .val (.int v11), .unset, .unset, .unset, .unset, .unset, .unset, .unset, .unset, .unset, .unset, .unset, .unset, .unset, .unset, .unset, .unset, .unset, .unset, .unset, .unset, .unset] [(.int v17)])) _
    refine XS.istore X0.here hx rfl (hb hby at_54) rfl (l' := #[.val (.long q0), .second, .val (.long q1), .second, .val (.long q2), .second, .val (.int p3), .val (.int p4), .val (.int p5), .val (.long v1), .second, .val (.long v3), .second, .val (.long v5), .second, .val (.int v11), .val (.int v17), .unset, .unset, .unset, .unset, .unset, .unset, .unset, .unset, .unset, .unset, .unset, .unset, .unset, .unset, .unset, .unset, .unset, .unset, .unset, .unset]) rfl ?_
    show Steps p.tables e below (s₁.setTop (mkF m 56 #[.val (.long q0), .second, .val (.long q1), .second, .val (.long q2), .second, .val (.int p3), .val (.int p4), .val (.int p5), .val (.long v1), .second, .val (.long v3), .second, .val (.long v5), .second, .val (.int v11), .val (.int v17), .unset, .unset, .unset, .unset, .unset, .unset, .unset, .unset, .unset, .unset, .unset, .unset, .unset, .unset, .unset, .unset, .unset, .unset, .unset, .unset] [])) _
    refine XS.iload X0.here hx rfl (hb hby at_56) rfl ?_
    show Steps p.tables e below (s₁.setTop (mkF m 58 #[.val (.long q0), .second, .val (.long q1), .second, .val (.long q2), .second, .val (.int p3), .val (.int p4), .val (.int p5), .val (.long v1), .second, .val (.long v3), .second, .val (.long v5), .second, .val (.int v11), .val (.int v17), .unset, .unset, .unset, .unset, .unset, .unset, .unset, .unset, .unset, .unset, .unset, .unset, .unset, .unset, .unset, .unset, .unset, .unset, .unset, .unset] [(.int p3)])) _
    refine XS.iconst X0.here hx rfl (hb hby at_58) ?_
    show Steps p.tables e below (s₁.setTop (mkF m 59 #[.val (.long q0), .second, .val (.long q1), .second, .val (.long q2), .second, .val (.int p3), .val (.int p4), .val (.int p5), .val (.long v1), .second, .val (.long v3), .second, .val (.long v5), .second, .val (.int v11), .val (.int v17), .unset, .unset, .unset, .unset, .unset, .unset, .unset, .unset, .unset, .unset, .unset, .unset, .unset, .unset, .unset, .unset, .unset, .unset, .unset, .unset] [(.int (4 : Int32)), (.int p3)])) _
    refine XS.iand X0.here hx rfl (hb hby at_59) rfl ?_
    exact k
  obtain ⟨v23, hv23⟩ : ∃ z : Int32, z = (if (p3 &&& (4 : Int32)) = (0 : Int32) then (0 : Int32) else (1 : Int32)) := ⟨_, rfl⟩
  have st24 : ∀ t, Steps p.tables e below (s₁.setTop (mkF m 68 #[.val (.long q0), .second, .val (.long q1), .second, .val (.long q2), .second, .val (.int p3), .val (.int p4), .val (.int p5), .val (.long v1), .second, .val (.long v3), .second, .val (.long v5), .second, .val (.int v11), .val (.int v17), .unset, .unset, .unset, .unset, .unset, .unset, .unset, .unset, .unset, .unset, .unset, .unset, .unset, .unset, .unset, .unset, .unset, .unset, .unset, .unset] [(.int v23)])) t → Steps p.tables e below (s₁.setTop (mkF m 60 #[.val (.long q0), .second, .val (.long q1), .second, .val (.long q2), .second, .val (.int p3), .val (.int p4), .val (.int p5), .val (.long v1), .second, .val (.long v3), .second, .val (.long v5), .second, .val (.int v11), .val (.int v17), .unset, .unset, .unset, .unset, .unset, .unset, .unset, .unset, .unset, .unset, .unset, .unset, .unset, .unset, .unset, .unset, .unset, .unset, .unset, .unset] [(.int (p3 &&& (4 : Int32)))])) t := by
    rw [hv23]
    by_cases hc60_20 : (p3 &&& (4 : Int32)) = (0 : Int32)
    · repeat rw [if_pos hc60_20]
      have st21 : ∀ t, Steps p.tables e below (s₁.setTop (mkF m 68 #[.val (.long q0), .second, .val (.long q1), .second, .val (.long q2), .second, .val (.int p3), .val (.int p4), .val (.int p5), .val (.long v1), .second, .val (.long v3), .second, .val (.long v5), .second, .val (.int v11), .val (.int v17), .unset, .unset, .unset, .unset, .unset, .unset, .unset, .unset, .unset, .unset, .unset, .unset, .unset, .unset, .unset, .unset, .unset, .unset, .unset, .unset] [(.int (0 : Int32))])) t → Steps p.tables e below (s₁.setTop (mkF m 60 #[.val (.long q0), .second, .val (.long q1), .second, .val (.long q2), .second, .val (.int p3), .val (.int p4), .val (.int p5), .val (.long v1), .second, .val (.long v3), .second, .val (.long v5), .second, .val (.int v11), .val (.int v17), .unset, .unset, .unset, .unset, .unset, .unset, .unset, .unset, .unset, .unset, .unset, .unset, .unset, .unset, .unset, .unset, .unset, .unset, .unset, .unset] [(.int (p3 &&& (4 : Int32)))])) t := by
        intro t k
        show Steps p.tables e below (s₁.setTop (mkF m 60 #[.val (.long q0), .second, .val (.long q1), .second, .val (.long q2), .second, .val (.int p3), .val (.int p4), .val (.int p5), .val (.long v1), .second, .val (.long v3), .second, .val (.long v5), .second, .val (.int v11), .val (.int v17), .unset, .unset, .unset, .unset, .unset, .unset, .unset, .unset, .unset, .unset, .unset, .unset, .unset, .unset, .unset, .unset, .unset, .unset, .unset, .unset] [(.int (p3 &&& (4 : Int32)))])) _
        refine XS.ifYes X0.here hx rfl (pc0 := 60) (pc' := 67) rfl (hb hby at_60) rfl ((if0 _ _).trans (teq hc60_20).1) (by decide) (by decide) ?_
        show Steps p.tables e below (s₁.setTop (mkF m 67 #[.val (.long q0), .second, .val (.long q1), .second, .val (.long q2), .second, .val (.int p3), .val (.int p4), .val (.int p5), .val (.long v1), .second, .val (.long v3), .second, .val (.long v5), .second, .val (.int v11), .val (.int v17), .unset, .unset, .unset, .unset, .unset, .unset, .unset, .unset, .unset, .unset, .unset, .unset, .unset, .unset, .unset, .unset, .unset, .unset, .unset, .unset] [])) _
        refine XS.iconst X0.here hx rfl (hb hby at_67) ?_
        exact k
      exact fun t k => st21 _ k
    · repeat rw [if_neg hc60_20]
      have st22 : ∀ t, Steps p.tables e below (s₁.setTop (mkF m 68 #[.val (.long q0), .second, .val (.long q1), .second, .val (.long q2), .second, .val (.int p3), .val (.int p4), .val (.int p5), .val (.long v1), .second, .val (.long v3), .second, .val (.long v5), .second, .val (.int v11), .val (.int v17), .unset, .unset, .unset, .unset, .unset, .unset, .unset, .unset, .unset, .unset, .unset, .unset, .unset, .unset, .unset, .unset, .unset, .unset, .unset, .unset] [(.int (1 : Int32))])) t → Steps p.tables e below (s₁.setTop (mkF m 60 #[.val (.long q0), .second, .val (.long q1), .second, .val (.long q2), .second, .val (.int p3), .val (.int p4), .val (.int p5), .val (.long v1), .second, .val (.long v3), .second, .val (.long v5), .second, .val (.int v11), .val (.int v17), .unset, .unset, .unset, .unset, .unset, .unset, .unset, .unset, .unset, .unset, .unset, .unset, .unset, .unset, .unset, .unset, .unset, .unset, .unset, .unset] [(.int (p3 &&& (4 : Int32)))])) t := by
        intro t k
        show Steps p.tables e below (s₁.setTop (mkF m 60 #[.val (.long q0), .second, .val (.long q1), .second, .val (.long q2), .second, .val (.int p3), .val (.int p4), .val (.int p5), .val (.long v1), .second, .val (.long v3), .second, .val (.long v5), .second, .val (.int v11), .val (.int v17), .unset, .unset, .unset, .unset, .unset, .unset, .unset, .unset, .unset, .unset, .unset, .unset, .unset, .unset, .unset, .unset, .unset, .unset, .unset, .unset] [(.int (p3 &&& (4 : Int32)))])) _
        refine XS.ifNo X0.here hx rfl (hb hby at_60) rfl ((if0 _ _).trans (feq hc60_20).1) ?_
        show Steps p.tables e below (s₁.setTop (mkF m 63 #[.val (.long q0), .second, .val (.long q1), .second, .val (.long q2), .second, .val (.int p3), .val (.int p4), .val (.int p5), .val (.long v1), .second, .val (.long v3), .second, .val (.long v5), .second, .val (.int v11), .val (.int v17), .unset, .unset, .unset, .unset, .unset, .unset, .unset, .unset, .unset, .unset, .unset, .unset, .unset, .unset, .unset, .unset, .unset, .unset, .unset, .unset] [])) _
        refine XS.iconst X0.here hx rfl (hb hby at_63) ?_
        show Steps p.tables e below (s₁.setTop (mkF m 64 #[.val (.long q0), .second, .val (.long q1), .second, .val (.long q2), .second, .val (.int p3), .val (.int p4), .val (.int p5), .val (.long v1), .second, .val (.long v3), .second, .val (.long v5), .second, .val (.int v11), .val (.int v17), .unset, .unset, .unset, .unset, .unset, .unset, .unset, .unset, .unset, .unset, .unset, .unset, .unset, .unset, .unset, .unset, .unset, .unset, .unset, .unset] [(.int (1 : Int32))])) _
        refine XS.goto X0.here hx rfl (pc0 := 64) (pc' := 68) rfl (hb hby at_64) (by decide) (by decide) ?_
        exact k
      exact fun t k => st22 _ k
  obtain ⟨v25, hv25⟩ : ∃ z : Int32, z = (p5 &&& (3 : Int32)) := ⟨_, rfl⟩
  have st26 : ∀ t, Steps p.tables e below (s₁.setTop (mkF m 76 #[.val (.long q0), .second, .val (.long q1), .second, .val (.long q2), .second, .val (.int p3), .val (.int p4), .val (.int p5), .val (.long v1), .second, .val (.long v3), .second, .val (.long v5), .second, .val (.int v11), .val (.int v17), .val (.int v23), .val (.int v25), .unset, .unset, .unset, .unset, .unset, .unset, .unset, .unset, .unset, .unset, .unset, .unset, .unset, .unset, .unset, .unset, .unset, .unset] [])) t → Steps p.tables e below (s₁.setTop (mkF m 68 #[.val (.long q0), .second, .val (.long q1), .second, .val (.long q2), .second, .val (.int p3), .val (.int p4), .val (.int p5), .val (.long v1), .second, .val (.long v3), .second, .val (.long v5), .second, .val (.int v11), .val (.int v17), .unset, .unset, .unset, .unset, .unset, .unset, .unset, .unset, .unset, .unset, .unset, .unset, .unset, .unset, .unset, .unset, .unset, .unset, .unset, .unset] [(.int v23)])) t := by
    rw [hv25]
    intro t k
    show Steps p.tables e below (s₁.setTop (mkF m 68 #[.val (.long q0), .second, .val (.long q1), .second, .val (.long q2), .second, .val (.int p3), .val (.int p4), .val (.int p5), .val (.long v1), .second, .val (.long v3), .second, .val (.long v5), .second, .val (.int v11), .val (.int v17), .unset, .unset, .unset, .unset, .unset, .unset, .unset, .unset, .unset, .unset, .unset, .unset, .unset, .unset, .unset, .unset, .unset, .unset, .unset, .unset] [(.int v23)])) _
    refine XS.istore X0.here hx rfl (hb hby at_68) rfl (l' := #[.val (.long q0), .second, .val (.long q1), .second, .val (.long q2), .second, .val (.int p3), .val (.int p4), .val (.int p5), .val (.long v1), .second, .val (.long v3), .second, .val (.long v5), .second, .val (.int v11), .val (.int v17), .val (.int v23), .unset, .unset, .unset, .unset, .unset, .unset, .unset, .unset, .unset, .unset, .unset, .unset, .unset, .unset, .unset, .unset, .unset, .unset, .unset]) rfl ?_
    show Steps p.tables e below (s₁.setTop (mkF m 70 #[.val (.long q0), .second, .val (.long q1), .second, .val (.long q2), .second, .val (.int p3), .val (.int p4), .val (.int p5), .val (.long v1), .second, .val (.long v3), .second, .val (.long v5), .second, .val (.int v11), .val (.int v17), .val (.int v23), .unset, .unset, .unset, .unset, .unset, .unset, .unset, .unset, .unset, .unset, .unset, .unset, .unset, .unset, .unset, .unset, .unset, .unset, .unset] [])) _
    refine XS.iload X0.here hx rfl (hb hby at_70) rfl ?_
    show Steps p.tables e below (s₁.setTop (mkF m 72 #[.val (.long q0), .second, .val (.long q1), .second, .val (.long q2), .second, .val (.int p3), .val (.int p4), .val (.int p5), .val (.long v1), .second, .val (.long v3), .second, .val (.long v5), .second, .val (.int v11), .val (.int v17), .val (.int v23), .unset, .unset, .unset, .unset, .unset, .unset, .unset, .unset, .unset, .unset, .unset, .unset, .unset, .unset, .unset, .unset, .unset, .unset, .unset] [(.int p5)])) _
    refine XS.iconst X0.here hx rfl (hb hby at_72) ?_
    show Steps p.tables e below (s₁.setTop (mkF m 73 #[.val (.long q0), .second, .val (.long q1), .second, .val (.long q2), .second, .val (.int p3), .val (.int p4), .val (.int p5), .val (.long v1), .second, .val (.long v3), .second, .val (.long v5), .second, .val (.int v11), .val (.int v17), .val (.int v23), .unset, .unset, .unset, .unset, .unset, .unset, .unset, .unset, .unset, .unset, .unset, .unset, .unset, .unset, .unset, .unset, .unset, .unset, .unset] [(.int (3 : Int32)), (.int p5)])) _
    refine XS.iand X0.here hx rfl (hb hby at_73) rfl ?_
    show Steps p.tables e below (s₁.setTop (mkF m 74 #[.val (.long q0), .second, .val (.long q1), .second, .val (.long q2), .second, .val (.int p3), .val (.int p4), .val (.int p5), .val (.long v1), .second, .val (.long v3), .second, .val (.long v5), .second, .val (.int v11), .val (.int v17), .val (.int v23), .unset, .unset, .unset, .unset, .unset, .unset, .unset, .unset, .unset, .unset, .unset, .unset, .unset, .unset, .unset, .unset, .unset, .unset, .unset] [(.int (p5 &&& (3 : Int32)))])) _
    refine XS.istore X0.here hx rfl (hb hby at_74) rfl (l' := #[.val (.long q0), .second, .val (.long q1), .second, .val (.long q2), .second, .val (.int p3), .val (.int p4), .val (.int p5), .val (.long v1), .second, .val (.long v3), .second, .val (.long v5), .second, .val (.int v11), .val (.int v17), .val (.int v23), .val (.int (p5 &&& (3 : Int32))), .unset, .unset, .unset, .unset, .unset, .unset, .unset, .unset, .unset, .unset, .unset, .unset, .unset, .unset, .unset, .unset, .unset, .unset]) rfl ?_
    exact k
  obtain ⟨v27, hv27⟩ : ∃ z : Int32, z = ((p4 &&& (2147483647 : Int32)) - ((p4 &&& (2147483647 : Int32)) / (6 : Int32)) * (6 : Int32)) := ⟨_, rfl⟩
  have st28 : ∀ t, Steps p.tables e below (s₁.setTop (mkF m 86 #[.val (.long q0), .second, .val (.long q1), .second, .val (.long q2), .second, .val (.int p3), .val (.int p4), .val (.int p5), .val (.long v1), .second, .val (.long v3), .second, .val (.long v5), .second, .val (.int v11), .val (.int v17), .val (.int v23), .val (.int v25), .val (.int v27), .unset, .unset, .unset, .unset, .unset, .unset, .unset, .unset, .unset, .unset, .unset, .unset, .unset, .unset, .unset, .unset, .unset] [])) t → Steps p.tables e below (s₁.setTop (mkF m 76 #[.val (.long q0), .second, .val (.long q1), .second, .val (.long q2), .second, .val (.int p3), .val (.int p4), .val (.int p5), .val (.long v1), .second, .val (.long v3), .second, .val (.long v5), .second, .val (.int v11), .val (.int v17), .val (.int v23), .val (.int v25), .unset, .unset, .unset, .unset, .unset, .unset, .unset, .unset, .unset, .unset, .unset, .unset, .unset, .unset, .unset, .unset, .unset, .unset] [])) t := by
    rw [hv27]
    intro t k
    show Steps p.tables e below (s₁.setTop (mkF m 76 #[.val (.long q0), .second, .val (.long q1), .second, .val (.long q2), .second, .val (.int p3), .val (.int p4), .val (.int p5), .val (.long v1), .second, .val (.long v3), .second, .val (.long v5), .second, .val (.int v11), .val (.int v17), .val (.int v23), .val (.int v25), .unset, .unset, .unset, .unset, .unset, .unset, .unset, .unset, .unset, .unset, .unset, .unset, .unset, .unset, .unset, .unset, .unset, .unset] [])) _
    refine XS.iload X0.here hx rfl (hb hby at_76) rfl ?_
    show Steps p.tables e below (s₁.setTop (mkF m 78 #[.val (.long q0), .second, .val (.long q1), .second, .val (.long q2), .second, .val (.int p3), .val (.int p4), .val (.int p5), .val (.long v1), .second, .val (.long v3), .second, .val (.long v5), .second, .val (.int v11), .val (.int v17), .val (.int v23), .val (.int v25), .unset, .unset, .unset, .unset, .unset, .unset, .unset, .unset, .unset, .unset, .unset, .unset, .unset, .unset, .unset, .unset, .unset, .unset] [(.int p4)])) _
    refine X0.ldcInt hx hown (mvT hZ (hw _ (List.mem_of_getElem? (i := 1) rfl))) (g := (mkF m 78 #[.val (.long q0), .second, .val (.long q1), .second, .val (.long q2), .second, .val (.int p3), .val (.int p4), .val (.int p5), .val (.long v1), .second, .val (.long v3), .second, .val (.long v5), .second, .val (.int v11), .val (.int v17), .val (.int v23), .val (.int v25), .unset, .unset, .unset, .unset, .unset, .unset, .unset, .unset, .unset, .unset, .unset, .unset, .unset, .unset, .unset, .unset, .unset, .unset] [(.int p4)])) rfl (hb hby at_78) _ ?_
    show Steps p.tables e below (s₁.setTop (mkF m 80 #[.val (.long q0), .second, .val (.long q1), .second, .val (.long q2), .second, .val (.int p3), .val (.int p4), .val (.int p5), .val (.long v1), .second, .val (.long v3), .second, .val (.long v5), .second, .val (.int v11), .val (.int v17), .val (.int v23), .val (.int v25), .unset, .unset, .unset, .unset, .unset, .unset, .unset, .unset, .unset, .unset, .unset, .unset, .unset, .unset, .unset, .unset, .unset, .unset] [(.int (2147483647 : Int32)), (.int p4)])) _
    refine XS.iand X0.here hx rfl (hb hby at_80) rfl ?_
    show Steps p.tables e below (s₁.setTop (mkF m 81 #[.val (.long q0), .second, .val (.long q1), .second, .val (.long q2), .second, .val (.int p3), .val (.int p4), .val (.int p5), .val (.long v1), .second, .val (.long v3), .second, .val (.long v5), .second, .val (.int v11), .val (.int v17), .val (.int v23), .val (.int v25), .unset, .unset, .unset, .unset, .unset, .unset, .unset, .unset, .unset, .unset, .unset, .unset, .unset, .unset, .unset, .unset, .unset, .unset] [(.int (p4 &&& (2147483647 : Int32)))])) _
    refine XS.bipush X0.here hx rfl (hb hby at_81) ?_
    show Steps p.tables e below (s₁.setTop (mkF m 83 #[.val (.long q0), .second, .val (.long q1), .second, .val (.long q2), .second, .val (.int p3), .val (.int p4), .val (.int p5), .val (.long v1), .second, .val (.long v3), .second, .val (.long v5), .second, .val (.int v11), .val (.int v17), .val (.int v23), .val (.int v25), .unset, .unset, .unset, .unset, .unset, .unset, .unset, .unset, .unset, .unset, .unset, .unset, .unset, .unset, .unset, .unset, .unset, .unset] [(.int (6 : Int32)), (.int (p4 &&& (2147483647 : Int32)))])) _
    refine XS.irem X0.here hx rfl (hb hby at_83) rfl (by decide) ?_
    show Steps p.tables e below (s₁.setTop (mkF m 84 #[.val (.long q0), .second, .val (.long q1), .second, .val (.long q2), .second, .val (.int p3), .val (.int p4), .val (.int p5), .val (.long v1), .second, .val (.long v3), .second, .val (.long v5), .second, .val (.int v11), .val (.int v17), .val (.int v23), .val (.int v25), .unset, .unset, .unset, .unset, .unset, .unset, .unset, .unset, .unset, .unset, .unset, .unset, .unset, .unset, .unset, .unset, .unset, .unset] [(.int ((p4 &&& (2147483647 : Int32)) - ((p4 &&& (2147483647 : Int32)) / (6 : Int32)) * (6 : Int32)))])) _
    refine XS.istore X0.here hx rfl (hb hby at_84) rfl (l' := #[.val (.long q0), .second, .val (.long q1), .second, .val (.long q2), .second, .val (.int p3), .val (.int p4), .val (.int p5), .val (.long v1), .second, .val (.long v3), .second, .val (.long v5), .second, .val (.int v11), .val (.int v17), .val (.int v23), .val (.int v25), .val (.int ((p4 &&& (2147483647 : Int32)) - ((p4 &&& (2147483647 : Int32)) / (6 : Int32)) * (6 : Int32))), .unset, .unset, .unset, .unset, .unset, .unset, .unset, .unset, .unset, .unset, .unset, .unset, .unset, .unset, .unset, .unset, .unset]) rfl ?_
    exact k
  obtain ⟨v29, hv29⟩ : ∃ z : Int32, z = (v27 / (2 : Int32)) := ⟨_, rfl⟩
  have st30 : ∀ t, Steps p.tables e below (s₁.setTop (mkF m 92 #[.val (.long q0), .second, .val (.long q1), .second, .val (.long q2), .second, .val (.int p3), .val (.int p4), .val (.int p5), .val (.long v1), .second, .val (.long v3), .second, .val (.long v5), .second, .val (.int v11), .val (.int v17), .val (.int v23), .val (.int v25), .val (.int v27), .val (.int v29), .unset, .unset, .unset, .unset, .unset, .unset, .unset, .unset, .unset, .unset, .unset, .unset, .unset, .unset, .unset, .unset] [])) t → Steps p.tables e below (s₁.setTop (mkF m 86 #[.val (.long q0), .second, .val (.long q1), .second, .val (.long q2), .second, .val (.int p3), .val (.int p4), .val (.int p5), .val (.long v1), .second, .val (.long v3), .second, .val (.long v5), .second, .val (.int v11), .val (.int v17), .val (.int v23), .val (.int v25), .val (.int v27), .unset, .unset, .unset, .unset, .unset, .unset, .unset, .unset, .unset, .unset, .unset, .unset, .unset, .unset, .unset, .unset, .unset] [])) t := by
    rw [hv29]
    intro t k
    show Steps p.tables e below (s₁.setTop (mkF m 86 #[.val (.long q0), .second, .val (.long q1), .second, .val (.long q2), .second, .val (.int p3), .val (.int p4), .val (.int p5), .val (.long v1), .second, .val (.long v3), .second, .val (.long v5), .second, .val (.int v11), .val (.int v17), .val (.int v23), .val (.int v25), .val (.int v27), .unset, .unset, .unset, .unset, .unset, .unset, .unset, .unset, .unset, .unset, .unset, .unset, .unset, .unset, .unset, .unset, .unset] [])) _
    refine XS.iload X0.here hx rfl (hb hby at_86) rfl ?_
    show Steps p.tables e below (s₁.setTop (mkF m 88 #[.val (.long q0), .second, .val (.long q1), .second, .val (.long q2), .second, .val (.int p3), .val (.int p4), .val (.int p5), .val (.long v1), .second, .val (.long v3), .second, .val (.long v5), .second, .val (.int v11), .val (.int v17), .val (.int v23), .val (.int v25), .val (.int v27), .unset, .unset, .unset, .unset, .unset, .unset, .unset, .unset, .unset, .unset, .unset, .unset, .unset, .unset, .unset, .unset, .unset] [(.int v27)])) _
    refine XS.iconst X0.here hx rfl (hb hby at_88) ?_
    show Steps p.tables e below (s₁.setTop (mkF m 89 #[.val (.long q0), .second, .val (.long q1), .second, .val (.long q2), .second, .val (.int p3), .val (.int p4), .val (.int p5), .val (.long v1), .second, .val (.long v3), .second, .val (.long v5), .second, .val (.int v11), .val (.int v17), .val (.int v23), .val (.int v25), .val (.int v27), .unset, .unset, .unset, .unset, .unset, .unset, .unset, .unset, .unset, .unset, .unset, .unset, .unset, .unset, .unset, .unset, .unset] [(.int (2 : Int32)), (.int v27)])) _
    refine XS.idiv X0.here hx rfl (hb hby at_89) rfl (by decide) ?_
    show Steps p.tables e below (s₁.setTop (mkF m 90 #[.val (.long q0), .second, .val (.long q1), .second, .val (.long q2), .second, .val (.int p3), .val (.int p4), .val (.int p5), .val (.long v1), .second, .val (.long v3), .second, .val (.long v5), .second, .val (.int v11), .val (.int v17), .val (.int v23), .val (.int v25), .val (.int v27), .unset, .unset, .unset, .unset, .unset, .unset, .unset, .unset, .unset, .unset, .unset, .unset, .unset, .unset, .unset, .unset, .unset] [(.int (v27 / (2 : Int32)))])) _
    refine XS.istore X0.here hx rfl (hb hby at_90) rfl (l' := #[.val (.long q0), .second, .val (.long q1), .second, .val (.long q2), .second, .val (.int p3), .val (.int p4), .val (.int p5), .val (.long v1), .second, .val (.long v3), .second, .val (.long v5), .second, .val (.int v11), .val (.int v17), .val (.int v23), .val (.int v25), .val (.int v27), .val (.int (v27 / (2 : Int32))), .unset, .unset, .unset, .unset, .unset, .unset, .unset, .unset, .unset, .unset, .unset, .unset, .unset, .unset, .unset, .unset]) rfl ?_
    exact k
  have st31 : ∀ t, Steps p.tables e below (s₁.setTop (mkF m 94 #[.val (.long q0), .second, .val (.long q1), .second, .val (.long q2), .second, .val (.int p3), .val (.int p4), .val (.int p5), .val (.long v1), .second, .val (.long v3), .second, .val (.long v5), .second, .val (.int v11), .val (.int v17), .val (.int v23), .val (.int v25), .val (.int v27), .val (.int v29), .unset, .unset, .unset, .unset, .unset, .unset, .unset, .unset, .unset, .unset, .unset, .unset, .unset, .unset, .unset, .unset] [(.int v29)])) t → Steps p.tables e below (s₁.setTop (mkF m 92 #[.val (.long q0), .second, .val (.long q1), .second, .val (.long q2), .second, .val (.int p3), .val (.int p4), .val (.int p5), .val (.long v1), .second, .val (.long v3), .second, .val (.long v5), .second, .val (.int v11), .val (.int v17), .val (.int v23), .val (.int v25), .val (.int v27), .val (.int v29), .unset, .unset, .unset, .unset, .unset, .unset, .unset, .unset, .unset, .unset, .unset, .unset, .unset, .unset, .unset, .unset] [])) t := by
    intro t k
    show Steps p.tables e below (s₁.setTop (mkF m 92 #[.val (.long q0), .second, .val (.long q1), .second, .val (.long q2), .second, .val (.int p3), .val (.int p4), .val (.int p5), .val (.long v1), .second, .val (.long v3), .second, .val (.long v5), .second, .val (.int v11), .val (.int v17), .val (.int v23), .val (.int v25), .val (.int v27), .val (.int v29), .unset, .unset, .unset, .unset, .unset, .unset, .unset, .unset, .unset, .unset, .unset, .unset, .unset, .unset, .unset, .unset] [])) _
    refine XS.iload X0.here hx rfl (hb hby at_92) rfl ?_
    exact k
  obtain ⟨v35, hv35⟩ : ∃ z : Int32, z = (if v29 = (0 : Int32) then (1 : Int32) else (0 : Int32)) := ⟨_, rfl⟩
  have st36 : ∀ t, Steps p.tables e below (s₁.setTop (mkF m 102 #[.val (.long q0), .second, .val (.long q1), .second, .val (.long q2), .second, .val (.int p3), .val (.int p4), .val (.int p5), .val (.long v1), .second, .val (.long v3), .second, .val (.long v5), .second, .val (.int v11), .val (.int v17), .val (.int v23), .val (.int v25), .val (.int v27), .val (.int v29), .unset, .unset, .unset, .unset, .unset, .unset, .unset, .unset, .unset, .unset, .unset, .unset, .unset, .unset, .unset, .unset] [(.int v35)])) t → Steps p.tables e below (s₁.setTop (mkF m 94 #[.val (.long q0), .second, .val (.long q1), .second, .val (.long q2), .second, .val (.int p3), .val (.int p4), .val (.int p5), .val (.long v1), .second, .val (.long v3), .second, .val (.long v5), .second, .val (.int v11), .val (.int v17), .val (.int v23), .val (.int v25), .val (.int v27), .val (.int v29), .unset, .unset, .unset, .unset, .unset, .unset, .unset, .unset, .unset, .unset, .unset, .unset, .unset, .unset, .unset, .unset] [(.int v29)])) t := by
    rw [hv35]
    by_cases hc94_32 : v29 = (0 : Int32)
    · repeat rw [if_pos hc94_32]
      have st33 : ∀ t, Steps p.tables e below (s₁.setTop (mkF m 102 #[.val (.long q0), .second, .val (.long q1), .second, .val (.long q2), .second, .val (.int p3), .val (.int p4), .val (.int p5), .val (.long v1), .second, .val (.long v3), .second, .val (.long v5), .second, .val (.int v11), .val (.int v17), .val (.int v23), .val (.int v25), .val (.int v27), .val (.int v29), .unset, .unset, .unset, .unset, .unset, .unset, .unset, .unset, .unset, .unset, .unset, .unset, .unset, .unset, .unset, .unset] [(.int (1 : Int32))])) t → Steps p.tables e below (s₁.setTop (mkF m 94 #[.val (.long q0), .second, .val (.long q1), .second, .val (.long q2), .second, .val (.int p3), .val (.int p4), .val (.int p5), .val (.long v1), .second, .val (.long v3), .second, .val (.long v5), .second, .val (.int v11), .val (.int v17), .val (.int v23), .val (.int v25), .val (.int v27), .val (.int v29), .unset, .unset, .unset, .unset, .unset, .unset, .unset, .unset, .unset, .unset, .unset, .unset, .unset, .unset, .unset, .unset] [(.int v29)])) t := by
        intro t k
        show Steps p.tables e below (s₁.setTop (mkF m 94 #[.val (.long q0), .second, .val (.long q1), .second, .val (.long q2), .second, .val (.int p3), .val (.int p4), .val (.int p5), .val (.long v1), .second, .val (.long v3), .second, .val (.long v5), .second, .val (.int v11), .val (.int v17), .val (.int v23), .val (.int v25), .val (.int v27), .val (.int v29), .unset, .unset, .unset, .unset, .unset, .unset, .unset, .unset, .unset, .unset, .unset, .unset, .unset, .unset, .unset, .unset] [(.int v29)])) _
        refine XS.ifNo X0.here hx rfl (hb hby at_94) rfl ((if0 _ _).trans (teq hc94_32).2) ?_
        show Steps p.tables e below (s₁.setTop (mkF m 97 #[.val (.long q0), .second, .val (.long q1), .second, .val (.long q2), .second, .val (.int p3), .val (.int p4), .val (.int p5), .val (.long v1), .second, .val (.long v3), .second, .val (.long v5), .second, .val (.int v11), .val (.int v17), .val (.int v23), .val (.int v25), .val (.int v27), .val (.int v29), .unset, .unset, .unset, .unset, .unset, .unset, .unset, .unset, .unset, .unset, .unset, .unset, .unset, .unset, .unset, .unset] [])) _
        refine XS.iconst X0.here hx rfl (hb hby at_97) ?_
        show Steps p.tables e below (s₁.setTop (mkF m 98 #[.val (.long q0), .second, .val (.long q1), .second, .val (.long q2), .second, .val (.int p3), .val (.int p4), .val (.int p5), .val (.long v1), .second, .val (.long v3), .second, .val (.long v5), .second, .val (.int v11), .val (.int v17), .val (.int v23), .val (.int v25), .val (.int v27), .val (.int v29), .unset, .unset, .unset, .unset, .unset, .unset, .unset, .unset, .unset, .unset, .unset, .unset, .unset, .unset, .unset, .unset] [(.int (1 : Int32))])) _
        refine XS.goto X0.here hx rfl (pc0 := 98) (pc' := 102) rfl (hb hby at_98) (by decide) (by decide) ?_
        exact k
      exact fun t k => st33 _ k
    · repeat rw [if_neg hc94_32]
      have st34 : ∀ t, Steps p.tables e below (s₁.setTop (mkF m 102 #[.val (.long q0), .second, .val (.long q1), .second, .val (.long q2), .second, .val (.int p3), .val (.int p4), .val (.int p5), .val (.long v1), .second, .val (.long v3), .second, .val (.long v5), .second, .val (.int v11), .val (.int v17), .val (.int v23), .val (.int v25), .val (.int v27), .val (.int v29), .unset, .unset, .unset, .unset, .unset, .unset, .unset, .unset, .unset, .unset, .unset, .unset, .unset, .unset, .unset, .unset] [(.int (0 : Int32))])) t → Steps p.tables e below (s₁.setTop (mkF m 94 #[.val (.long q0), .second, .val (.long q1), .second, .val (.long q2), .second, .val (.int p3), .val (.int p4), .val (.int p5), .val (.long v1), .second, .val (.long v3), .second, .val (.long v5), .second, .val (.int v11), .val (.int v17), .val (.int v23), .val (.int v25), .val (.int v27), .val (.int v29), .unset, .unset, .unset, .unset, .unset, .unset, .unset, .unset, .unset, .unset, .unset, .unset, .unset, .unset, .unset, .unset] [(.int v29)])) t := by
        intro t k
        show Steps p.tables e below (s₁.setTop (mkF m 94 #[.val (.long q0), .second, .val (.long q1), .second, .val (.long q2), .second, .val (.int p3), .val (.int p4), .val (.int p5), .val (.long v1), .second, .val (.long v3), .second, .val (.long v5), .second, .val (.int v11), .val (.int v17), .val (.int v23), .val (.int v25), .val (.int v27), .val (.int v29), .unset, .unset, .unset, .unset, .unset, .unset, .unset, .unset, .unset, .unset, .unset, .unset, .unset, .unset, .unset, .unset] [(.int v29)])) _
        refine XS.ifYes X0.here hx rfl (pc0 := 94) (pc' := 101) rfl (hb hby at_94) rfl ((if0 _ _).trans (feq hc94_32).2) (by decide) (by decide) ?_
        show Steps p.tables e below (s₁.setTop (mkF m 101 #[.val (.long q0), .second, .val (.long q1), .second, .val (.long q2), .second, .val (.int p3), .val (.int p4), .val (.int p5), .val (.long v1), .second, .val (.long v3), .second, .val (.long v5), .second, .val (.int v11), .val (.int v17), .val (.int v23), .val (.int v25), .val (.int v27), .val (.int v29), .unset, .unset, .unset, .unset, .unset, .unset, .unset, .unset, .unset, .unset, .unset, .unset, .unset, .unset, .unset, .unset] [])) _
        refine XS.iconst X0.here hx rfl (hb hby at_101) ?_
        exact k
      exact fun t k => st34 _ k
  have st37 : ∀ t, Steps p.tables e below (s₁.setTop (mkF m 107 #[.val (.long q0), .second, .val (.long q1), .second, .val (.long q2), .second, .val (.int p3), .val (.int p4), .val (.int p5), .val (.long v1), .second, .val (.long v3), .second, .val (.long v5), .second, .val (.int v11), .val (.int v17), .val (.int v23), .val (.int v25), .val (.int v27), .val (.int v29), .val (.int v35), .unset, .unset, .unset, .unset, .unset, .unset, .unset, .unset, .unset, .unset, .unset, .unset, .unset, .unset, .unset] [(.int (2 : Int32)), (.int v29)])) t → Steps p.tables e below (s₁.setTop (mkF m 102 #[.val (.long q0), .second, .val (.long q1), .second, .val (.long q2), .second, .val (.int p3), .val (.int p4), .val (.int p5), .val (.long v1), .second, .val (.long v3), .second, .val (.long v5), .second, .val (.int v11), .val (.int v17), .val (.int v23), .val (.int v25), .val (.int v27), .val (.int v29), .unset, .unset, .unset, .unset, .unset, .unset, .unset, .unset, .unset, .unset, .unset, .unset, .unset, .unset, .unset, .unset] [(.int v35)])) t := by
    intro t k
    show Steps p.tables e below (s₁.setTop (mkF m 102 #[.val (.long q0), .second, .val (.long q1), .second, .val (.long q2), .second, .val (.int p3), .val (.int p4), .val (.int p5), .val (.long v1), .second, .val (.long v3), .second, .val (.long v5), .second, .val (.int v11), .val (.int v17), .val (.int v23), .val (.int v25), .val (.int v27), .val (.int v29), .unset, .unset, .unset, .unset, .unset, .unset, .unset, .unset, .unset, .unset, .unset, .unset, .unset, .unset, .unset, .unset] [(.int v35)])) _
    refine XS.istore X0.here hx rfl (hb hby at_102) rfl (l' := #[.val (.long q0), .second, .val (.long q1), .second, .val (.long q2), .second, .val (.int p3), .val (.int p4), .val (.int p5), .val (.long v1), .second, .val (.long v3), .second, .val (.long v5), .second, .val (.int v11), .val (.int v17), .val (.int v23), .val (.int v25), .val (.int v27), .val (.int v29), .val (.int v35), .unset, .unset, .unset, .unset, .unset, .unset, .unset, .unset, .unset, .unset, .unset, .unset, .unset, .unset, .unset]) rfl ?_
    show Steps p.tables e below (s₁.setTop (mkF m 104 #[.val (.long q0), .second, .val (.long q1), .second, .val (.long q2), .second, .val (.int p3), .val (.int p4), .val (.int p5), .val (.long v1), .second, .val (.long v3), .second, .val (.long v5), .second, .val (.int v11), .val (.int v17), .val (.int v23), .val (.int v25), .val (.int v27), .val (.int v29), .val (.int v35), .unset, .unset, .unset, .unset, .unset, .unset, .unset, .unset, .unset, .unset, .unset, .unset, .unset, .unset, .unset] [])) _
    refine XS.iload X0.here hx rfl (hb hby at_104) rfl ?_
    show Steps p.tables e below (s₁.setTop (mkF m 106 #[.val (.long q0), .second, .val (.long q1), .second, .val (.long q2), .second, .val (.int p3), .val (.int p4), .val (.int p5), .val (.long v1), .second, .val (.long v3), .second, .val (.long v5), .second, .val (.int v11), .val (.int v17), .val (.int v23), .val (.int v25), .val (.int v27), .val (.int v29), .val (.int v35), .unset, .unset, .unset, .unset, .unset, .unset, .unset, .unset, .unset, .unset, .unset, .unset, .unset, .unset, .unset] [(.int v29)])) _
    refine XS.iconst X0.here hx rfl (hb hby at_106) ?_
    exact k
  obtain ⟨v41, hv41⟩ : ∃ z : Int32, z = (if v29 = (2 : Int32) then (1 : Int32) else (2 : Int32)) := ⟨_, rfl⟩
  have st42 : ∀ t, Steps p.tables e below (s₁.setTop (mkF m 115 #[.val (.long q0), .second, .val (.long q1), .second, .val (.long q2), .second, .val (.int p3), .val (.int p4), .val (.int p5), .val (.long v1), .second, .val (.long v3), .second, .val (.long v5), .second, .val (.int v11), .val (.int v17), .val (.int v23), .val (.int v25), .val (.int v27), .val (.int v29), .val (.int v35), .unset, .unset, .unset, .unset, .unset, .unset, .unset, .unset, .unset, .unset, .unset, .unset, .unset, .unset, .unset] [(.int v41)])) t → Steps p.tables e below (s₁.setTop (mkF m 107 #[.val (.long q0), .second, .val (.long q1), .second, .val (.long q2), .second, .val (.int p3), .val (.int p4), .val (.int p5), .val (.long v1), .second, .val (.long v3), .second, .val (.long v5), .second, .val (.int v11), .val (.int v17), .val (.int v23), .val (.int v25), .val (.int v27), .val (.int v29), .val (.int v35), .unset, .unset, .unset, .unset, .unset, .unset, .unset, .unset, .unset, .unset, .unset, .unset, .unset, .unset, .unset] [(.int (2 : Int32)), (.int v29)])) t := by
    rw [hv41]
    by_cases hc107_38 : v29 = (2 : Int32)
    · repeat rw [if_pos hc107_38]
      have st39 : ∀ t, Steps p.tables e below (s₁.setTop (mkF m 115 #[.val (.long q0), .second, .val (.long q1), .second, .val (.long q2), .second, .val (.int p3), .val (.int p4), .val (.int p5), .val (.long v1), .second, .val (.long v3), .second, .val (.long v5), .second, .val (.int v11), .val (.int v17), .val (.int v23), .val (.int v25), .val (.int v27), .val (.int v29), .val (.int v35), .unset, .unset, .unset, .unset, .unset, .unset, .unset, .unset, .unset, .unset, .unset, .unset, .unset, .unset, .unset] [(.int (1 : Int32))])) t → Steps p.tables e below (s₁.setTop (mkF m 107 #[.val (.long q0), .second, .val (.long q1), .second, .val (.long q2), .second, .val (.int p3), .val (.int p4), .val (.int p5), .val (.long v1), .second, .val (.long v3), .second, .val (.long v5), .second, .val (.int v11), .val (.int v17), .val (.int v23), .val (.int v25), .val (.int v27), .val (.int v29), .val (.int v35), .unset, .unset, .unset, .unset, .unset, .unset, .unset, .unset, .unset, .unset, .unset, .unset, .unset, .unset, .unset] [(.int (2 : Int32)), (.int v29)])) t := by
        intro t k
        show Steps p.tables e below (s₁.setTop (mkF m 107 #[.val (.long q0), .second, .val (.long q1), .second, .val (.long q2), .second, .val (.int p3), .val (.int p4), .val (.int p5), .val (.long v1), .second, .val (.long v3), .second, .val (.long v5), .second, .val (.int v11), .val (.int v17), .val (.int v23), .val (.int v25), .val (.int v27), .val (.int v29), .val (.int v35), .unset, .unset, .unset, .unset, .unset, .unset, .unset, .unset, .unset, .unset, .unset, .unset, .unset, .unset, .unset] [(.int (2 : Int32)), (.int v29)])) _
        refine XS.icmpNo X0.here hx rfl (hb hby at_107) rfl (teq hc107_38).2 ?_
        show Steps p.tables e below (s₁.setTop (mkF m 110 #[.val (.long q0), .second, .val (.long q1), .second, .val (.long q2), .second, .val (.int p3), .val (.int p4), .val (.int p5), .val (.long v1), .second, .val (.long v3), .second, .val (.long v5), .second, .val (.int v11), .val (.int v17), .val (.int v23), .val (.int v25), .val (.int v27), .val (.int v29), .val (.int v35), .unset, .unset, .unset, .unset, .unset, .unset, .unset, .unset, .unset, .unset, .unset, .unset, .unset, .unset, .unset] [])) _
        refine XS.iconst X0.here hx rfl (hb hby at_110) ?_
        show Steps p.tables e below (s₁.setTop (mkF m 111 #[.val (.long q0), .second, .val (.long q1), .second, .val (.long q2), .second, .val (.int p3), .val (.int p4), .val (.int p5), .val (.long v1), .second, .val (.long v3), .second, .val (.long v5), .second, .val (.int v11), .val (.int v17), .val (.int v23), .val (.int v25), .val (.int v27), .val (.int v29), .val (.int v35), .unset, .unset, .unset, .unset, .unset, .unset, .unset, .unset, .unset, .unset, .unset, .unset, .unset, .unset, .unset] [(.int (1 : Int32))])) _
        refine XS.goto X0.here hx rfl (pc0 := 111) (pc' := 115) rfl (hb hby at_111) (by decide) (by decide) ?_
        exact k
      exact fun t k => st39 _ k
    · repeat rw [if_neg hc107_38]
      have st40 : ∀ t, Steps p.tables e below (s₁.setTop (mkF m 115 #[.val (.long q0), .second, .val (.long q1), .second, .val (.long q2), .second, .val (.int p3), .val (.int p4), .val (.int p5), .val (.long v1), .second, .val (.long v3), .second, .val (.long v5), .second, .val (.int v11), .val (.int v17), .val (.int v23), .val (.int v25), .val (.int v27), .val (.int v29), .val (.int v35), .unset, .unset, .unset, .unset, .unset, .unset, .unset, .unset, .unset, .unset, .unset, .unset, .unset, .unset, .unset] [(.int (2 : Int32))])) t → Steps p.tables e below (s₁.setTop (mkF m 107 #[.val (.long q0), .second, .val (.long q1), .second, .val (.long q2), .second, .val (.int p3), .val (.int p4), .val (.int p5), .val (.long v1), .second, .val (.long v3), .second, .val (.long v5), .second, .val (.int v11), .val (.int v17), .val (.int v23), .val (.int v25), .val (.int v27), .val (.int v29), .val (.int v35), .unset, .unset, .unset, .unset, .unset, .unset, .unset, .unset, .unset, .unset, .unset, .unset, .unset, .unset, .unset] [(.int (2 : Int32)), (.int v29)])) t := by
        intro t k
        show Steps p.tables e below (s₁.setTop (mkF m 107 #[.val (.long q0), .second, .val (.long q1), .second, .val (.long q2), .second, .val (.int p3), .val (.int p4), .val (.int p5), .val (.long v1), .second, .val (.long v3), .second, .val (.long v5), .second, .val (.int v11), .val (.int v17), .val (.int v23), .val (.int v25), .val (.int v27), .val (.int v29), .val (.int v35), .unset, .unset, .unset, .unset, .unset, .unset, .unset, .unset, .unset, .unset, .unset, .unset, .unset, .unset, .unset] [(.int (2 : Int32)), (.int v29)])) _
        refine XS.icmpYes X0.here hx rfl (pc0 := 107) (pc' := 114) rfl (hb hby at_107) rfl (feq hc107_38).2 (by decide) (by decide) ?_
        show Steps p.tables e below (s₁.setTop (mkF m 114 #[.val (.long q0), .second, .val (.long q1), .second, .val (.long q2), .second, .val (.int p3), .val (.int p4), .val (.int p5), .val (.long v1), .second, .val (.long v3), .second, .val (.long v5), .second, .val (.int v11), .val (.int v17), .val (.int v23), .val (.int v25), .val (.int v27), .val (.int v29), .val (.int v35), .unset, .unset, .unset, .unset, .unset, .unset, .unset, .unset, .unset, .unset, .unset, .unset, .unset, .unset, .unset] [])) _
        refine XS.iconst X0.here hx rfl (hb hby at_114) ?_
        exact k
      exact fun t k => st40 _ k
  have st43 : ∀ t, Steps p.tables e below (s₁.setTop (mkF m 121 #[.val (.long q0), .second, .val (.long q1), .second, .val (.long q2), .second, .val (.int p3), .val (.int p4), .val (.int p5), .val (.long v1), .second, .val (.long v3), .second, .val (.long v5), .second, .val (.int v11), .val (.int v17), .val (.int v23), .val (.int v25), .val (.int v27), .val (.int v29), .val (.int v35), .val (.int v41), .unset, .unset, .unset, .unset, .unset, .unset, .unset, .unset, .unset, .unset, .unset, .unset, .unset, .unset] [(.int (v27 &&& (1 : Int32)))])) t → Steps p.tables e below (s₁.setTop (mkF m 115 #[.val (.long q0), .second, .val (.long q1), .second, .val (.long q2), .second, .val (.int p3), .val (.int p4), .val (.int p5), .val (.long v1), .second, .val (.long v3), .second, .val (.long v5), .second, .val (.int v11), .val (.int v17), .val (.int v23), .val (.int v25), .val (.int v27), .val (.int v29), .val (.int v35), .unset, .unset, .unset, .unset, .unset, .unset, .unset, .unset, .unset, .unset, .unset, .unset, .unset, .unset, .unset] [(.int v41)])) t := by
    intro t k
    show Steps p.tables e below (s₁.setTop (mkF m 115 #[.val (.long q0), .second, .val (.long q1), .second, .val (.long q2), .second, .val (.int p3), .val (.int p4), .val (.int p5), .val (.long v1), .second, .val (.long v3), .second, .val (.long v5), .second, .val (.int v11), .val (.int v17), .val (.int v23), .val (.int v25), .val (.int v27), .val (.int v29), .val (.int v35), .unset, .unset, .unset, .unset, .unset, .unset, .unset, .unset, .unset, .unset, .unset, .unset, .unset, .unset, .unset] [(.int v41)])) _
    refine XS.istore X0.here hx rfl (hb hby at_115) rfl (l' := #[.val (.long q0), .second, .val (.long q1), .second, .val (.long q2), .second, .val (.int p3), .val (.int p4), .val (.int p5), .val (.long v1), .second, .val (.long v3), .second, .val (.long v5), .second, .val (.int v11), .val (.int v17), .val (.int v23), .val (.int v25), .val (.int v27), .val (.int v29), .val (.int v35), .val (.int v41), .unset, .unset, .unset, .unset, .unset, .unset, .unset, .unset, .unset, .unset, .unset, .unset, .unset, .unset]) rfl ?_
    show Steps p.tables e below (s₁.setTop (mkF m 117 #[.val (.long q0), .second, .val (.long q1), .second, .val (.long q2), .second, .val (.int p3), .val (.int p4), .val (.int p5), .val (.long v1), .second, .val (.long v3), .second, .val (.long v5), .second, .val (.int v11), .val (.int v17), .val (.int v23), .val (.int v25), .val (.int v27), .val (.int v29), .val (.int v35), .val (.int v41), .unset, .unset, .unset, .unset, .unset, .unset, .unset, .unset, .unset, .unset, .unset, .unset, .unset, .unset] [])) _
    refine XS.iload X0.here hx rfl (hb hby at_117) rfl ?_
    show Steps p.tables e below (s₁.setTop (mkF m 119 #[.val (.long q0), .second, .val (.long q1), .second, .val (.long q2), .second, .val (.int p3), .val (.int p4), .val (.int p5), .val (.long v1), .second, .val (.long v3), .second, .val (.long v5), .second, .val (.int v11), .val (.int v17), .val (.int v23), .val (.int v25), .val (.int v27), .val (.int v29), .val (.int v35), .val (.int v41), .unset, .unset, .unset, .unset, .unset, .unset, .unset, .unset, .unset, .unset, .unset, .unset, .unset, .unset] [(.int v27)])) _
    refine XS.iconst X0.here hx rfl (hb hby at_119) ?_
    show Steps p.tables e below (s₁.setTop (mkF m 120 #[.val (.long q0), .second, .val (.long q1), .second, .val (.long q2), .second, .val (.int p3), .val (.int p4), .val (.int p5), .val (.long v1), .second, .val (.long v3), .second, .val (.long v5), .second, .val (.int v11), .val (.int v17), .val (.int v23), .val (.int v25), .val (.int v27), .val (.int v29), .val (.int v35), .val (.int v41), .unset, .unset, .unset, .unset, .unset, .unset, .unset, .unset, .unset, .unset, .unset, .unset, .unset, .unset] [(.int (1 : Int32)), (.int v27)])) _
    refine XS.iand X0.here hx rfl (hb hby at_120) rfl ?_
    exact k
  obtain ⟨v47, hv47⟩ : ∃ z : Int32, z = (if (v27 &&& (1 : Int32)) = (0 : Int32) then v35 else v41) := ⟨_, rfl⟩
  have st48 : ∀ t, Steps p.tables e below (s₁.setTop (mkF m 131 #[.val (.long q0), .second, .val (.long q1), .second, .val (.long q2), .second, .val (.int p3), .val (.int p4), .val (.int p5), .val (.long v1), .second, .val (.long v3), .second, .val (.long v5), .second, .val (.int v11), .val (.int v17), .val (.int v23), .val (.int v25), .val (.int v27), .val (.int v29), .val (.int v35), .val (.int v41), .unset, .unset, .unset, .unset, .unset, .unset, .unset, .unset, .unset, .unset, .unset, .unset, .unset, .unset] [(.int v47)])) t → Steps p.tables e below (s₁.setTop (mkF m 121 #[.val (.long q0), .second, .val (.long q1), .second, .val (.long q2), .second, .val (.int p3), .val (.int p4), .val (.int p5), .val (.long v1), .second, .val (.long v3), .second, .val (.long v5), .second, .val (.int v11), .val (.int v17), .val (.int v23), .val (.int v25), .val (.int v27), .val (.int v29), .val (.int v35), .val (.int v41), .unset, .unset, .unset, .unset, .unset, .unset, .unset, .unset, .unset, .unset, .unset, .unset, .unset, .unset] [(.int (v27 &&& (1 : Int32)))])) t := by
    rw [hv47]
    by_cases hc121_44 : (v27 &&& (1 : Int32)) = (0 : Int32)
    · repeat rw [if_pos hc121_44]
      have st45 : ∀ t, Steps p.tables e below (s₁.setTop (mkF m 131 #[.val (.long q0), .second, .val (.long q1), .second, .val (.long q2), .second, .val (.int p3), .val (.int p4), .val (.int p5), .val (.long v1), .second, .val (.long v3), .second, .val (.long v5), .second, .val (.int v11), .val (.int v17), .val (.int v23), .val (.int v25), .val (.int v27), .val (.int v29), .val (.int v35), .val (.int v41), .unset, .unset, .unset, .unset, .unset, .unset, .unset, .unset, .unset, .unset, .unset, .unset, .unset, .unset] [(.int v35)])) t → Steps p.tables e below (s₁.setTop (mkF m 121 #[.val (.long q0), .second, .val (.long q1), .second, .val (.long q2), .second, .val (.int p3), .val (.int p4), .val (.int p5), .val (.long v1), .second, .val (.long v3), .second, .val (.long v5), .second, .val (.int v11), .val (.int v17), .val (.int v23), .val (.int v25), .val (.int v27), .val (.int v29), .val (.int v35), .val (.int v41), .unset, .unset, .unset, .unset, .unset, .unset, .unset, .unset, .unset, .unset, .unset, .unset, .unset, .unset] [(.int (v27 &&& (1 : Int32)))])) t := by
        intro t k
        show Steps p.tables e below (s₁.setTop (mkF m 121 #[.val (.long q0), .second, .val (.long q1), .second, .val (.long q2), .second, .val (.int p3), .val (.int p4), .val (.int p5), .val (.long v1), .second, .val (.long v3), .second, .val (.long v5), .second, .val (.int v11), .val (.int v17), .val (.int v23), .val (.int v25), .val (.int v27), .val (.int v29), .val (.int v35), .val (.int v41), .unset, .unset, .unset, .unset, .unset, .unset, .unset, .unset, .unset, .unset, .unset, .unset, .unset, .unset] [(.int (v27 &&& (1 : Int32)))])) _
        refine XS.ifNo X0.here hx rfl (hb hby at_121) rfl ((if0 _ _).trans (teq hc121_44).2) ?_
        show Steps p.tables e below (s₁.setTop (mkF m 124 #[.val (.long q0), .second, .val (.long q1), .second, .val (.long q2), .second, .val (.int p3), .val (.int p4), .val (.int p5), .val (.long v1), .second, .val (.long v3), .second, .val (.long v5), .second, .val (.int v11), .val (.int v17), .val (.int v23), .val (.int v25), .val (.int v27), .val (.int v29), .val (.int v35), .val (.int v41), .unset, .unset, .unset, .unset, .unset, .unset, .unset, .unset, .unset, .unset, .unset, .unset, .unset, .unset] [])) _
        refine XS.iload X0.here hx rfl (hb hby at_124) rfl ?_
        show Steps p.tables e below (s₁.setTop (mkF m 126 #[.val (.long q0), .second, .val (.long q1), .second, .val (.long q2), .second, .val (.int p3), .val (.int p4), .val (.int p5), .val (.long v1), .second, .val (.long v3), .second, .val (.long v5), .second, .val (.int v11), .val (.int v17), .val (.int v23), .val (.int v25), .val (.int v27), .val (.int v29), .val (.int v35), .val (.int v41), .unset, .unset, .unset, .unset, .unset, .unset, .unset, .unset, .unset, .unset, .unset, .unset, .unset, .unset] [(.int v35)])) _
        refine XS.goto X0.here hx rfl (pc0 := 126) (pc' := 131) rfl (hb hby at_126) (by decide) (by decide) ?_
        exact k
      exact fun t k => st45 _ k
    · repeat rw [if_neg hc121_44]
      have st46 : ∀ t, Steps p.tables e below (s₁.setTop (mkF m 131 #[.val (.long q0), .second, .val (.long q1), .second, .val (.long q2), .second, .val (.int p3), .val (.int p4), .val (.int p5), .val (.long v1), .second, .val (.long v3), .second, .val (.long v5), .second, .val (.int v11), .val (.int v17), .val (.int v23), .val (.int v25), .val (.int v27), .val (.int v29), .val (.int v35), .val (.int v41), .unset, .unset, .unset, .unset, .unset, .unset, .unset, .unset, .unset, .unset, .unset, .unset, .unset, .unset] [(.int v41)])) t → Steps p.tables e below (s₁.setTop (mkF m 121 #[.val (.long q0), .second, .val (.long q1), .second, .val (.long q2), .second, .val (.int p3), .val (.int p4), .val (.int p5), .val (.long v1), .second, .val (.long v3), .second, .val (.long v5), .second, .val (.int v11), .val (.int v17), .val (.int v23), .val (.int v25), .val (.int v27), .val (.int v29), .val (.int v35), .val (.int v41), .unset, .unset, .unset, .unset, .unset, .unset, .unset, .unset, .unset, .unset, .unset, .unset, .unset, .unset] [(.int (v27 &&& (1 : Int32)))])) t := by
        intro t k
        show Steps p.tables e below (s₁.setTop (mkF m 121 #[.val (.long q0), .second, .val (.long q1), .second, .val (.long q2), .second, .val (.int p3), .val (.int p4), .val (.int p5), .val (.long v1), .second, .val (.long v3), .second, .val (.long v5), .second, .val (.int v11), .val (.int v17), .val (.int v23), .val (.int v25), .val (.int v27), .val (.int v29), .val (.int v35), .val (.int v41), .unset, .unset, .unset, .unset, .unset, .unset, .unset, .unset, .unset, .unset, .unset, .unset, .unset, .unset] [(.int (v27 &&& (1 : Int32)))])) _
        refine XS.ifYes X0.here hx rfl (pc0 := 121) (pc' := 129) rfl (hb hby at_121) rfl ((if0 _ _).trans (feq hc121_44).2) (by decide) (by decide) ?_
        show Steps p.tables e below (s₁.setTop (mkF m 129 #[.val (.long q0), .second, .val (.long q1), .second, .val (.long q2), .second, .val (.int p3), .val (.int p4), .val (.int p5), .val (.long v1), .second, .val (.long v3), .second, .val (.long v5), .second, .val (.int v11), .val (.int v17), .val (.int v23), .val (.int v25), .val (.int v27), .val (.int v29), .val (.int v35), .val (.int v41), .unset, .unset, .unset, .unset, .unset, .unset, .unset, .unset, .unset, .unset, .unset, .unset, .unset, .unset] [])) _
        refine XS.iload X0.here hx rfl (hb hby at_129) rfl ?_
        exact k
      exact fun t k => st46 _ k
  have st49 : ∀ t, Steps p.tables e below (s₁.setTop (mkF m 137 #[.val (.long q0), .second, .val (.long q1), .second, .val (.long q2), .second, .val (.int p3), .val (.int p4), .val (.int p5), .val (.long v1), .second, .val (.long v3), .second, .val (.long v5), .second, .val (.int v11), .val (.int v17), .val (.int v23), .val (.int v25), .val (.int v27), .val (.int v29), .val (.int v35), .val (.int v41), .val (.int v47), .unset, .unset, .unset, .unset, .unset, .unset, .unset, .unset, .unset, .unset, .unset, .unset, .unset] [(.int (v27 &&& (1 : Int32)))])) t → Steps p.tables e below (s₁.setTop (mkF m 131 #[.val (.long q0), .second, .val (.long q1), .second, .val (.long q2), .second, .val (.int p3), .val (.int p4), .val (.int p5), .val (.long v1), .second, .val (.long v3), .second, .val (.long v5), .second, .val (.int v11), .val (.int v17), .val (.int v23), .val (.int v25), .val (.int v27), .val (.int v29), .val (.int v35), .val (.int v41), .unset, .unset, .unset, .unset, .unset, .unset, .unset, .unset, .unset, .unset, .unset, .unset, .unset, .unset] [(.int v47)])) t := by
    intro t k
    show Steps p.tables e below (s₁.setTop (mkF m 131 #[.val (.long q0), .second, .val (.long q1), .second, .val (.long q2), .second, .val (.int p3), .val (.int p4), .val (.int p5), .val (.long v1), .second, .val (.long v3), .second, .val (.long v5), .second, .val (.int v11), .val (.int v17), .val (.int v23), .val (.int v25), .val (.int v27), .val (.int v29), .val (.int v35), .val (.int v41), .unset, .unset, .unset, .unset, .unset, .unset, .unset, .unset, .unset, .unset, .unset, .unset, .unset, .unset] [(.int v47)])) _
    refine XS.istore X0.here hx rfl (hb hby at_131) rfl (l' := #[.val (.long q0), .second, .val (.long q1), .second, .val (.long q2), .second, .val (.int p3), .val (.int p4), .val (.int p5), .val (.long v1), .second, .val (.long v3), .second, .val (.long v5), .second, .val (.int v11), .val (.int v17), .val (.int v23), .val (.int v25), .val (.int v27), .val (.int v29), .val (.int v35), .val (.int v41), .val (.int v47), .unset, .unset, .unset, .unset, .unset, .unset, .unset, .unset, .unset, .unset, .unset, .unset, .unset]) rfl ?_
    show Steps p.tables e below (s₁.setTop (mkF m 133 #[.val (.long q0), .second, .val (.long q1), .second, .val (.long q2), .second, .val (.int p3), .val (.int p4), .val (.int p5), .val (.long v1), .second, .val (.long v3), .second, .val (.long v5), .second, .val (.int v11), .val (.int v17), .val (.int v23), .val (.int v25), .val (.int v27), .val (.int v29), .val (.int v35), .val (.int v41), .val (.int v47), .unset, .unset, .unset, .unset, .unset, .unset, .unset, .unset, .unset, .unset, .unset, .unset, .unset] [])) _
    refine XS.iload X0.here hx rfl (hb hby at_133) rfl ?_
    show Steps p.tables e below (s₁.setTop (mkF m 135 #[.val (.long q0), .second, .val (.long q1), .second, .val (.long q2), .second, .val (.int p3), .val (.int p4), .val (.int p5), .val (.long v1), .second, .val (.long v3), .second, .val (.long v5), .second, .val (.int v11), .val (.int v17), .val (.int v23), .val (.int v25), .val (.int v27), .val (.int v29), .val (.int v35), .val (.int v41), .val (.int v47), .unset, .unset, .unset, .unset, .unset, .unset, .unset, .unset, .unset, .unset, .unset, .unset, .unset] [(.int v27)])) _
    refine XS.iconst X0.here hx rfl (hb hby at_135) ?_
    show Steps p.tables e below (s₁.setTop (mkF m 136 #[.val (.long q0), .second, .val (.long q1), .second, .val (.long q2), .second, .val (.int p3), .val (.int p4), .val (.int p5), .val (.long v1), .second, .val (.long v3), .second, .val (.long v5), .second, .val (.int v11), .val (.int v17), .val (.int v23), .val (.int v25), .val (.int v27), .val (.int v29), .val (.int v35), .val (.int v41), .val (.int v47), .unset, .unset, .unset, .unset, .unset, .unset, .unset, .unset, .unset, .unset, .unset, .unset, .unset] [(.int (1 : Int32)), (.int v27)])) _
    refine XS.iand X0.here hx rfl (hb hby at_136) rfl ?_
    exact k
  obtain ⟨v53, hv53⟩ : ∃ z : Int32, z = (if (v27 &&& (1 : Int32)) = (0 : Int32) then v41 else v35) := ⟨_, rfl⟩
  have st54 : ∀ t, Steps p.tables e below (s₁.setTop (mkF m 147 #[.val (.long q0), .second, .val (.long q1), .second, .val (.long q2), .second, .val (.int p3), .val (.int p4), .val (.int p5), .val (.long v1), .second, .val (.long v3), .second, .val (.long v5), .second, .val (.int v11), .val (.int v17), .val (.int v23), .val (.int v25), .val (.int v27), .val (.int v29), .val (.int v35), .val (.int v41), .val (.int v47), .unset, .unset, .unset, .unset, .unset, .unset, .unset, .unset, .unset, .unset, .unset, .unset, .unset] [(.int v53)])) t → Steps p.tables e below (s₁.setTop (mkF m 137 #[.val (.long q0), .second, .val (.long q1), .second, .val (.long q2), .second, .val (.int p3), .val (.int p4), .val (.int p5), .val (.long v1), .second, .val (.long v3), .second, .val (.long v5), .second, .val (.int v11), .val (.int v17), .val (.int v23), .val (.int v25), .val (.int v27), .val (.int v29), .val (.int v35), .val (.int v41), .val (.int v47), .unset, .unset, .unset, .unset, .unset, .unset, .unset, .unset, .unset, .unset, .unset, .unset, .unset] [(.int (v27 &&& (1 : Int32)))])) t := by
    rw [hv53]
    by_cases hc137_50 : (v27 &&& (1 : Int32)) = (0 : Int32)
    · repeat rw [if_pos hc137_50]
      have st51 : ∀ t, Steps p.tables e below (s₁.setTop (mkF m 147 #[.val (.long q0), .second, .val (.long q1), .second, .val (.long q2), .second, .val (.int p3), .val (.int p4), .val (.int p5), .val (.long v1), .second, .val (.long v3), .second, .val (.long v5), .second, .val (.int v11), .val (.int v17), .val (.int v23), .val (.int v25), .val (.int v27), .val (.int v29), .val (.int v35), .val (.int v41), .val (.int v47), .unset, .unset, .unset, .unset, .unset, .unset, .unset, .unset, .unset, .unset, .unset, .unset, .unset] [(.int v41)])) t → Steps p.tables e below (s₁.setTop (mkF m 137 #[.val (.long q0), .second, .val (.long q1), .second, .val (.long q2), .second, .val (.int p3), .val (.int p4), .val (.int p5), .val (.long v1), .second, .val (.long v3), .second, .val (.long v5), .second, .val (.int v11), .val (.int v17), .val (.int v23), .val (.int v25), .val (.int v27), .val (.int v29), .val (.int v35), .val (.int v41), .val (.int v47), .unset, .unset, .unset, .unset, .unset, .unset, .unset, .unset, .unset, .unset, .unset, .unset, .unset] [(.int (v27 &&& (1 : Int32)))])) t := by
        intro t k
        show Steps p.tables e below (s₁.setTop (mkF m 137 #[.val (.long q0), .second, .val (.long q1), .second, .val (.long q2), .second, .val (.int p3), .val (.int p4), .val (.int p5), .val (.long v1), .second, .val (.long v3), .second, .val (.long v5), .second, .val (.int v11), .val (.int v17), .val (.int v23), .val (.int v25), .val (.int v27), .val (.int v29), .val (.int v35), .val (.int v41), .val (.int v47), .unset, .unset, .unset, .unset, .unset, .unset, .unset, .unset, .unset, .unset, .unset, .unset, .unset] [(.int (v27 &&& (1 : Int32)))])) _
        refine XS.ifNo X0.here hx rfl (hb hby at_137) rfl ((if0 _ _).trans (teq hc137_50).2) ?_
        show Steps p.tables e below (s₁.setTop (mkF m 140 #[.val (.long q0), .second, .val (.long q1), .second, .val (.long q2), .second, .val (.int p3), .val (.int p4), .val (.int p5), .val (.long v1), .second, .val (.long v3), .second, .val (.long v5), .second, .val (.int v11), .val (.int v17), .val (.int v23), .val (.int v25), .val (.int v27), .val (.int v29), .val (.int v35), .val (.int v41), .val (.int v47), .unset, .unset, .unset, .unset, .unset, .unset, .unset, .unset, .unset, .unset, .unset, .unset, .unset] [])) _
        refine XS.iload X0.here hx rfl (hb hby at_140) rfl ?_
        show Steps p.tables e below (s₁.setTop (mkF m 142 #[.val (.long q0), .second, .val (.long q1), .second, .val (.long q2), .second, .val (.int p3), .val (.int p4), .val (.int p5), .val (.long v1), .second, .val (.long v3), .second, .val (.long v5), .second, .val (.int v11), .val (.int v17), .val (.int v23), .val (.int v25), .val (.int v27), .val (.int v29), .val (.int v35), .val (.int v41), .val (.int v47), .unset, .unset, .unset, .unset, .unset, .unset, .unset, .unset, .unset, .unset, .unset, .unset, .unset] [(.int v41)])) _
        refine XS.goto X0.here hx rfl (pc0 := 142) (pc' := 147) rfl (hb hby at_142) (by decide) (by decide) ?_
        exact k
      exact fun t k => st51 _ k
    · repeat rw [if_neg hc137_50]
      have st52 : ∀ t, Steps p.tables e below (s₁.setTop (mkF m 147 #[.val (.long q0), .second, .val (.long q1), .second, .val (.long q2), .second, .val (.int p3), .val (.int p4), .val (.int p5), .val (.long v1), .second, .val (.long v3), .second, .val (.long v5), .second, .val (.int v11), .val (.int v17), .val (.int v23), .val (.int v25), .val (.int v27), .val (.int v29), .val (.int v35), .val (.int v41), .val (.int v47), .unset, .unset, .unset, .unset, .unset, .unset, .unset, .unset, .unset, .unset, .unset, .unset, .unset] [(.int v35)])) t → Steps p.tables e below (s₁.setTop (mkF m 137 #[.val (.long q0), .second, .val (.long q1), .second, .val (.long q2), .second, .val (.int p3), .val (.int p4), .val (.int p5), .val (.long v1), .second, .val (.long v3), .second, .val (.long v5), .second, .val (.int v11), .val (.int v17), .val (.int v23), .val (.int v25), .val (.int v27), .val (.int v29), .val (.int v35), .val (.int v41), .val (.int v47), .unset, .unset, .unset, .unset, .unset, .unset, .unset, .unset, .unset, .unset, .unset, .unset, .unset] [(.int (v27 &&& (1 : Int32)))])) t := by
        intro t k
        show Steps p.tables e below (s₁.setTop (mkF m 137 #[.val (.long q0), .second, .val (.long q1), .second, .val (.long q2), .second, .val (.int p3), .val (.int p4), .val (.int p5), .val (.long v1), .second, .val (.long v3), .second, .val (.long v5), .second, .val (.int v11), .val (.int v17), .val (.int v23), .val (.int v25), .val (.int v27), .val (.int v29), .val (.int v35), .val (.int v41), .val (.int v47), .unset, .unset, .unset, .unset, .unset, .unset, .unset, .unset, .unset, .unset, .unset, .unset, .unset] [(.int (v27 &&& (1 : Int32)))])) _
        refine XS.ifYes X0.here hx rfl (pc0 := 137) (pc' := 145) rfl (hb hby at_137) rfl ((if0 _ _).trans (feq hc137_50).2) (by decide) (by decide) ?_
        show Steps p.tables e below (s₁.setTop (mkF m 145 #[.val (.long q0), .second, .val (.long q1), .second, .val (.long q2), .second, .val (.int p3), .val (.int p4), .val (.int p5), .val (.long v1), .second, .val (.long v3), .second, .val (.long v5), .second, .val (.int v11), .val (.int v17), .val (.int v23), .val (.int v25), .val (.int v27), .val (.int v29), .val (.int v35), .val (.int v41), .val (.int v47), .unset, .unset, .unset, .unset, .unset, .unset, .unset, .unset, .unset, .unset, .unset, .unset, .unset] [])) _
        refine XS.iload X0.here hx rfl (hb hby at_145) rfl ?_
        exact k
      exact fun t k => st52 _ k
  have st55 : ∀ t, Steps p.tables e below (s₁.setTop (mkF m 160 #[.val (.long q0), .second, .val (.long q1), .second, .val (.long q2), .second, .val (.int p3), .val (.int p4), .val (.int p5), .val (.long v1), .second, .val (.long v3), .second, .val (.long v5), .second, .val (.int v11), .val (.int v17), .val (.int v23), .val (.int v25), .val (.int v27), .val (.int v29), .val (.int v35), .val (.int v41), .val (.int v47), .val (.int v53), .unset, .unset, .unset, .unset, .unset, .unset, .unset, .unset, .unset, .unset, .unset, .unset] [(.int v25), (.int v53), (.int v47), (.int v29), (.int (0 : Int32)), (.int v11)])) t → Steps p.tables e below (s₁.setTop (mkF m 147 #[.val (.long q0), .second, .val (.long q1), .second, .val (.long q2), .second, .val (.int p3), .val (.int p4), .val (.int p5), .val (.long v1), .second, .val (.long v3), .second, .val (.long v5), .second, .val (.int v11), .val (.int v17), .val (.int v23), .val (.int v25), .val (.int v27), .val (.int v29), .val (.int v35), .val (.int v41), .val (.int v47), .unset, .unset, .unset, .unset, .unset, .unset, .unset, .unset, .unset, .unset, .unset, .unset, .unset] [(.int v53)])) t := by
    intro t k
    show Steps p.tables e below (s₁.setTop (mkF m 147 #[.val (.long q0), .second, .val (.long q1), .second, .val (.long q2), .second, .val (.int p3), .val (.int p4), .val (.int p5), .val (.long v1), .second, .val (.long v3), .second, .val (.long v5), .second, .val (.int v11), .val (.int v17), .val (.int v23), .val (.int v25), .val (.int v27), .val (.int v29), .val (.int v35), .val (.int v41), .val (.int v47), .unset, .unset, .unset, .unset, .unset, .unset, .unset, .unset, .unset, .unset, .unset, .unset, .unset] [(.int v53)])) _
    refine XS.istore X0.here hx rfl (hb hby at_147) rfl (l' := #[.val (.long q0), .second, .val (.long q1), .second, .val (.long q2), .second, .val (.int p3), .val (.int p4), .val (.int p5), .val (.long v1), .second, .val (.long v3), .second, .val (.long v5), .second, .val (.int v11), .val (.int v17), .val (.int v23), .val (.int v25), .val (.int v27), .val (.int v29), .val (.int v35), .val (.int v41), .val (.int v47), .val (.int v53), .unset, .unset, .unset, .unset, .unset, .unset, .unset, .unset, .unset, .unset, .unset, .unset]) rfl ?_
    show Steps p.tables e below (s₁.setTop (mkF m 149 #[.val (.long q0), .second, .val (.long q1), .second, .val (.long q2), .second, .val (.int p3), .val (.int p4), .val (.int p5), .val (.long v1), .second, .val (.long v3), .second, .val (.long v5), .second, .val (.int v11), .val (.int v17), .val (.int v23), .val (.int v25), .val (.int v27), .val (.int v29), .val (.int v35), .val (.int v41), .val (.int v47), .val (.int v53), .unset, .unset, .unset, .unset, .unset, .unset, .unset, .unset, .unset, .unset, .unset, .unset] [])) _
    refine XS.iload X0.here hx rfl (hb hby at_149) rfl ?_
    show Steps p.tables e below (s₁.setTop (mkF m 151 #[.val (.long q0), .second, .val (.long q1), .second, .val (.long q2), .second, .val (.int p3), .val (.int p4), .val (.int p5), .val (.long v1), .second, .val (.long v3), .second, .val (.long v5), .second, .val (.int v11), .val (.int v17), .val (.int v23), .val (.int v25), .val (.int v27), .val (.int v29), .val (.int v35), .val (.int v41), .val (.int v47), .val (.int v53), .unset, .unset, .unset, .unset, .unset, .unset, .unset, .unset, .unset, .unset, .unset, .unset] [(.int v11)])) _
    refine XS.iconst X0.here hx rfl (hb hby at_151) ?_
    show Steps p.tables e below (s₁.setTop (mkF m 152 #[.val (.long q0), .second, .val (.long q1), .second, .val (.long q2), .second, .val (.int p3), .val (.int p4), .val (.int p5), .val (.long v1), .second, .val (.long v3), .second, .val (.long v5), .second, .val (.int v11), .val (.int v17), .val (.int v23), .val (.int v25), .val (.int v27), .val (.int v29), .val (.int v35), .val (.int v41), .val (.int v47), .val (.int v53), .unset, .unset, .unset, .unset, .unset, .unset, .unset, .unset, .unset, .unset, .unset, .unset] [(.int (0 : Int32)), (.int v11)])) _
    refine XS.iload X0.here hx rfl (hb hby at_152) rfl ?_
    show Steps p.tables e below (s₁.setTop (mkF m 154 #[.val (.long q0), .second, .val (.long q1), .second, .val (.long q2), .second, .val (.int p3), .val (.int p4), .val (.int p5), .val (.long v1), .second, .val (.long v3), .second, .val (.long v5), .second, .val (.int v11), .val (.int v17), .val (.int v23), .val (.int v25), .val (.int v27), .val (.int v29), .val (.int v35), .val (.int v41), .val (.int v47), .val (.int v53), .unset, .unset, .unset, .unset, .unset, .unset, .unset, .unset, .unset, .unset, .unset, .unset] [(.int v29), (.int (0 : Int32)), (.int v11)])) _
    refine XS.iload X0.here hx rfl (hb hby at_154) rfl ?_
    show Steps p.tables e below (s₁.setTop (mkF m 156 #[.val (.long q0), .second, .val (.long q1), .second, .val (.long q2), .second, .val (.int p3), .val (.int p4), .val (.int p5), .val (.long v1), .second, .val (.long v3), .second, .val (.long v5), .second, .val (.int v11), .val (.int v17), .val (.int v23), .val (.int v25), .val (.int v27), .val (.int v29), .val (.int v35), .val (.int v41), .val (.int v47), .val (.int v53), .unset, .unset, .unset, .unset, .unset, .unset, .unset, .unset, .unset, .unset, .unset, .unset] [(.int v47), (.int v29), (.int (0 : Int32)), (.int v11)])) _
    refine XS.iload X0.here hx rfl (hb hby at_156) rfl ?_
    show Steps p.tables e below (s₁.setTop (mkF m 158 #[.val (.long q0), .second, .val (.long q1), .second, .val (.long q2), .second, .val (.int p3), .val (.int p4), .val (.int p5), .val (.long v1), .second, .val (.long v3), .second, .val (.long v5), .second, .val (.int v11), .val (.int v17), .val (.int v23), .val (.int v25), .val (.int v27), .val (.int v29), .val (.int v35), .val (.int v41), .val (.int v47), .val (.int v53), .unset, .unset, .unset, .unset, .unset, .unset, .unset, .unset, .unset, .unset, .unset, .unset] [(.int v53), (.int v47), (.int v29), (.int (0 : Int32)), (.int v11)])) _
    refine XS.iload X0.here hx rfl (hb hby at_158) rfl ?_
    exact k
  obtain ⟨_, _, ⟨T56, L56, k56, n56⟩, -, X56, ⟨Lc56, hQ56, l56, y56, z56⟩, st56⟩ := Jvm.LawKit.callS X0 hx (y := (⟨"com/example/evotempo/evotempo/problem/LinearFunctionFitnessAfterFlipsPinLaw", "flipped", "(IIIII)Z"⟩ : MethodName)) hown (mvT hZ (hw _ (List.mem_of_getElem? (i := 2) rfl))) (mvT hZ (hw _ (List.mem_of_getElem? (i := 3) rfl))) (mvT hZ (hw _ (List.mem_of_getElem? (i := 4) rfl))) (mvT hZ (hw _ (List.mem_of_getElem? (i := 5) rfl))) (by decide) (backOf (W := 1) (own_rm1 l Z a0 hw [] (0 : Int32) v29 v47 v53 v25 h0) hZ (hw _ (List.mem_of_getElem? (i := 5) rfl)) (hw _ (List.mem_of_getElem? (i := 4) rfl)) (by decide) (by decide)) (g := (mkF m 160 #[.val (.long q0), .second, .val (.long q1), .second, .val (.long q2), .second, .val (.int p3), .val (.int p4), .val (.int p5), .val (.long v1), .second, .val (.long v3), .second, .val (.long v5), .second, .val (.int v11), .val (.int v17), .val (.int v23), .val (.int v25), .val (.int v27), .val (.int v29), .val (.int v35), .val (.int v41), .val (.int v47), .val (.int v53), .unset, .unset, .unset, .unset, .unset, .unset, .unset, .unset, .unset, .unset, .unset, .unset] [(.int v25), (.int v53), (.int v47), (.int v29), (.int (0 : Int32)), (.int v11)])) rfl (by rw [hml]; rfl) (argsL := [(.int (0 : Int32)), (.int v29), (.int v47), (.int v53), (.int v25)]) (rest := [(.int v11)]) (lenOf own_pd1 rfl) rfl (by show 2 * 0 + _ ≤ _; exact Nat.le_of_eq rfl) (hb hby at_160) (fun _ _ => ⟨rfl, e0, (by decide : 0 + 0 ≤ _), (by decide : 0 + 0 ≤ _)⟩)
  dsimp only [Pt.U, Pt.locs, Pt.cells, Pt.slots] at X56 l56 y56 z56 st56 hQ56
  subst y56 z56
  obtain ⟨rfl, rfl, e56⟩ := hQ56
  have X56' : Stand p l e room_1 s m #[(.long q0), (.long q1), (.long q2), (.int p3), (.int p4), (.int p5)] below meth c T56 [] 0 0 := by rw [show L56 = [] from by rw [l56]; first | rfl | exact List.append_nil _] at X56; exact X56
  obtain ⟨v57, hv57⟩ : ∃ z : Int32, z = (own_F1 (0 : Int32) v29 v47 v53 v25) := ⟨_, rfl⟩
  rw [← hv57] at st56
  obtain ⟨v61, hv61⟩ : ∃ z : Int32, z = (if v11 = v57 then (0 : Int32) else (1 : Int32)) := ⟨_, rfl⟩
  have st62 : ∀ t, Steps p.tables e below (T56.setTop (mkF m 171 #[.val (.long q0), .second, .val (.long q1), .second, .val (.long q2), .second, .val (.int p3), .val (.int p4), .val (.int p5), .val (.long v1), .second, .val (.long v3), .second, .val (.long v5), .second, .val (.int v11), .val (.int v17), .val (.int v23), .val (.int v25), .val (.int v27), .val (.int v29), .val (.int v35), .val (.int v41), .val (.int v47), .val (.int v53), .unset, .unset, .unset, .unset, .unset, .unset, .unset, .unset, .unset, .unset, .unset, .unset] [(.int v61)])) t → Steps p.tables e below (T56.setTop (mkF m 163 #[.val (.long q0), .second, .val (.long q1), .second, .val (.long q2), .second, .val (.int p3), .val (.int p4), .val (.int p5), .val (.long v1), .second, .val (.long v3), .second, .val (.long v5), .second, .val (.int v11), .val (.int v17), .val (.int v23), .val (.int v25), .val (.int v27), .val (.int v29), .val (.int v35), .val (.int v41), .val (.int v47), .val (.int v53), .unset, .unset, .unset, .unset, .unset, .unset, .unset, .unset, .unset, .unset, .unset, .unset] [(.int v57), (.int v11)])) t := by
    rw [hv61]
    by_cases hc163_58 : v11 = v57
    · repeat rw [if_pos hc163_58]
      have st59 : ∀ t, Steps p.tables e below (T56.setTop (mkF m 171 #[.val (.long q0), .second, .val (.long q1), .second, .val (.long q2), .second, .val (.int p3), .val (.int p4), .val (.int p5), .val (.long v1), .second, .val (.long v3), .second, .val (.long v5), .second, .val (.int v11), .val (.int v17), .val (.int v23), .val (.int v25), .val (.int v27), .val (.int v29), .val (.int v35), .val (.int v41), .val (.int v47), .val (.int v53), .unset, .unset, .unset, .unset, .unset, .unset, .unset, .unset, .unset, .unset, .unset, .unset] [(.int (0 : Int32))])) t → Steps p.tables e below (T56.setTop (mkF m 163 #[.val (.long q0), .second, .val (.long q1), .second, .val (.long q2), .second, .val (.int p3), .val (.int p4), .val (.int p5), .val (.long v1), .second, .val (.long v3), .second, .val (.long v5), .second, .val (.int v11), .val (.int v17), .val (.int v23), .val (.int v25), .val (.int v27), .val (.int v29), .val (.int v35), .val (.int v41), .val (.int v47), .val (.int v53), .unset, .unset, .unset, .unset, .unset, .unset, .unset, .unset, .unset, .unset, .unset, .unset] [(.int v57), (.int v11)])) t := by
        intro t k
        show Steps p.tables e below (T56.setTop (mkF m 163 #[.val (.long q0), .second, .val (.long q1), .second, .val (.long q2), .second, .val (.int p3), .val (.int p4), .val (.int p5), .val (.long v1), .second, .val (.long v3), .second, .val (.long v5), .second, .val (.int v11), .val (.int v17), .val (.int v23), .val (.int v25), .val (.int v27), .val (.int v29), .val (.int v35), .val (.int v41), .val (.int v47), .val (.int v53), .unset, .unset, .unset, .unset, .unset, .unset, .unset, .unset, .unset, .unset, .unset, .unset] [(.int v57), (.int v11)])) _
        refine XS.icmpYes X56'.here hx rfl (pc0 := 163) (pc' := 170) rfl (hb hby at_163) rfl (teq hc163_58).1 (by decide) (by decide) ?_
        show Steps p.tables e below (T56.setTop (mkF m 170 #[.val (.long q0), .second, .val (.long q1), .second, .val (.long q2), .second, .val (.int p3), .val (.int p4), .val (.int p5), .val (.long v1), .second, .val (.long v3), .second, .val (.long v5), .second, .val (.int v11), .val (.int v17), .val (.int v23), .val (.int v25), .val (.int v27), .val (.int v29), .val (.int v35), .val (.int v41), .val (.int v47), .val (.int v53), .unset, .unset, .unset, .unset, .unset, .unset, .unset, .unset, .unset, .unset, .unset, .unset] [])) _
        refine XS.iconst X56'.here hx rfl (hb hby at_170) ?_
        exact k
      exact fun t k => st59 _ k
    · repeat rw [if_neg hc163_58]
      have st60 : ∀ t, Steps p.tables e below (T56.setTop (mkF m 171 #[.val (.long q0), .second, .val (.long q1), .second, .val (.long q2), .second, .val (.int p3), .val (.int p4), .val (.int p5), .val (.long v1), .second, .val (.long v3), .second, .val (.long v5), .second, .val (.int v11), .val (.int v17), .val (.int v23), .val (.int v25), .val (.int v27), .val (.int v29), .val (.int v35), .val (.int v41), .val (.int v47), .val (.int v53), .unset, .unset, .unset, .unset, .unset, .unset, .unset, .unset, .unset, .unset, .unset, .unset] [(.int (1 : Int32))])) t → Steps p.tables e below (T56.setTop (mkF m 163 #[.val (.long q0), .second, .val (.long q1), .second, .val (.long q2), .second, .val (.int p3), .val (.int p4), .val (.int p5), .val (.long v1), .second, .val (.long v3), .second, .val (.long v5), .second, .val (.int v11), .val (.int v17), .val (.int v23), .val (.int v25), .val (.int v27), .val (.int v29), .val (.int v35), .val (.int v41), .val (.int v47), .val (.int v53), .unset, .unset, .unset, .unset, .unset, .unset, .unset, .unset, .unset, .unset, .unset, .unset] [(.int v57), (.int v11)])) t := by
        intro t k
        show Steps p.tables e below (T56.setTop (mkF m 163 #[.val (.long q0), .second, .val (.long q1), .second, .val (.long q2), .second, .val (.int p3), .val (.int p4), .val (.int p5), .val (.long v1), .second, .val (.long v3), .second, .val (.long v5), .second, .val (.int v11), .val (.int v17), .val (.int v23), .val (.int v25), .val (.int v27), .val (.int v29), .val (.int v35), .val (.int v41), .val (.int v47), .val (.int v53), .unset, .unset, .unset, .unset, .unset, .unset, .unset, .unset, .unset, .unset, .unset, .unset] [(.int v57), (.int v11)])) _
        refine XS.icmpNo X56'.here hx rfl (hb hby at_163) rfl (feq hc163_58).1 ?_
        show Steps p.tables e below (T56.setTop (mkF m 166 #[.val (.long q0), .second, .val (.long q1), .second, .val (.long q2), .second, .val (.int p3), .val (.int p4), .val (.int p5), .val (.long v1), .second, .val (.long v3), .second, .val (.long v5), .second, .val (.int v11), .val (.int v17), .val (.int v23), .val (.int v25), .val (.int v27), .val (.int v29), .val (.int v35), .val (.int v41), .val (.int v47), .val (.int v53), .unset, .unset, .unset, .unset, .unset, .unset, .unset, .unset, .unset, .unset, .unset, .unset] [])) _
        refine XS.iconst X56'.here hx rfl (hb hby at_166) ?_
        show Steps p.tables e below (T56.setTop (mkF m 167 #[.val (.long q0), .second, .val (.long q1), .second, .val (.long q2), .second, .val (.int p3), .val (.int p4), .val (.int p5), .val (.long v1), .second, .val (.long v3), .second, .val (.long v5), .second, .val (.int v11), .val (.int v17), .val (.int v23), .val (.int v25), .val (.int v27), .val (.int v29), .val (.int v35), .val (.int v41), .val (.int v47), .val (.int v53), .unset, .unset, .unset, .unset, .unset, .unset, .unset, .unset, .unset, .unset, .unset, .unset] [(.int (1 : Int32))])) _
        refine XS.goto X56'.here hx rfl (pc0 := 167) (pc' := 171) rfl (hb hby at_167) (by decide) (by decide) ?_
        exact k
      exact fun t k => st60 _ k
  have st63 : ∀ t, Steps p.tables e below (T56.setTop (mkF m 184 #[.val (.long q0), .second, .val (.long q1), .second, .val (.long q2), .second, .val (.int p3), .val (.int p4), .val (.int p5), .val (.long v1), .second, .val (.long v3), .second, .val (.long v5), .second, .val (.int v11), .val (.int v17), .val (.int v23), .val (.int v25), .val (.int v27), .val (.int v29), .val (.int v35), .val (.int v41), .val (.int v47), .val (.int v53), .val (.int v61), .unset, .unset, .unset, .unset, .unset, .unset, .unset, .unset, .unset, .unset, .unset] [(.int v25), (.int v53), (.int v47), (.int v29), (.int (1 : Int32)), (.int v17)])) t → Steps p.tables e below (T56.setTop (mkF m 171 #[.val (.long q0), .second, .val (.long q1), .second, .val (.long q2), .second, .val (.int p3), .val (.int p4), .val (.int p5), .val (.long v1), .second, .val (.long v3), .second, .val (.long v5), .second, .val (.int v11), .val (.int v17), .val (.int v23), .val (.int v25), .val (.int v27), .val (.int v29), .val (.int v35), .val (.int v41), .val (.int v47), .val (.int v53), .unset, .unset, .unset, .unset, .unset, .unset, .unset, .unset, .unset, .unset, .unset, .unset] [(.int v61)])) t := by
    intro t k
    show Steps p.tables e below (T56.setTop (mkF m 171 #[.val (.long q0), .second, .val (.long q1), .second, .val (.long q2), .second, .val (.int p3), .val (.int p4), .val (.int p5), .val (.long v1), .second, .val (.long v3), .second, .val (.long v5), .second, .val (.int v11), .val (.int v17), .val (.int v23), .val (.int v25), .val (.int v27), .val (.int v29), .val (.int v35), .val (.int v41), .val (.int v47), .val (.int v53), .unset, .unset, .unset, .unset, .unset, .unset, .unset, .unset, .unset, .unset, .unset, .unset] [(.int v61)])) _
    refine XS.istore X56'.here hx rfl (hb hby at_171) rfl (l' := #[.val (.long q0), .second, .val (.long q1), .second, .val (.long q2), .second, .val (.int p3), .val (.int p4), .val (.int p5), .val (.long v1), .second, .val (.long v3), .second, .val (.long v5), .second, .val (.int v11), .val (.int v17), .val (.int v23), .val (.int v25), .val (.int v27), .val (.int v29), .val (.int v35), .val (.int v41), .val (.int v47), .val (.int v53), .val (.int v61), .unset, .unset, .unset, .unset, .unset, .unset, .unset, .unset, .unset, .unset, .unset]) rfl ?_
    show Steps p.tables e below (T56.setTop (mkF m 173 #[.val (.long q0), .second, .val (.long q1), .second, .val (.long q2), .second, .val (.int p3), .val (.int p4), .val (.int p5), .val (.long v1), .second, .val (.long v3), .second, .val (.long v5), .second, .val (.int v11), .val (.int v17), .val (.int v23), .val (.int v25), .val (.int v27), .val (.int v29), .val (.int v35), .val (.int v41), .val (.int v47), .val (.int v53), .val (.int v61), .unset, .unset, .unset, .unset, .unset, .unset, .unset, .unset, .unset, .unset, .unset] [])) _
    refine XS.iload X56'.here hx rfl (hb hby at_173) rfl ?_
    show Steps p.tables e below (T56.setTop (mkF m 175 #[.val (.long q0), .second, .val (.long q1), .second, .val (.long q2), .second, .val (.int p3), .val (.int p4), .val (.int p5), .val (.long v1), .second, .val (.long v3), .second, .val (.long v5), .second, .val (.int v11), .val (.int v17), .val (.int v23), .val (.int v25), .val (.int v27), .val (.int v29), .val (.int v35), .val (.int v41), .val (.int v47), .val (.int v53), .val (.int v61), .unset, .unset, .unset, .unset, .unset, .unset, .unset, .unset, .unset, .unset, .unset] [(.int v17)])) _
    refine XS.iconst X56'.here hx rfl (hb hby at_175) ?_
    show Steps p.tables e below (T56.setTop (mkF m 176 #[.val (.long q0), .second, .val (.long q1), .second, .val (.long q2), .second, .val (.int p3), .val (.int p4), .val (.int p5), .val (.long v1), .second, .val (.long v3), .second, .val (.long v5), .second, .val (.int v11), .val (.int v17), .val (.int v23), .val (.int v25), .val (.int v27), .val (.int v29), .val (.int v35), .val (.int v41), .val (.int v47), .val (.int v53), .val (.int v61), .unset, .unset, .unset, .unset, .unset, .unset, .unset, .unset, .unset, .unset, .unset] [(.int (1 : Int32)), (.int v17)])) _
    refine XS.iload X56'.here hx rfl (hb hby at_176) rfl ?_
    show Steps p.tables e below (T56.setTop (mkF m 178 #[.val (.long q0), .second, .val (.long q1), .second, .val (.long q2), .second, .val (.int p3), .val (.int p4), .val (.int p5), .val (.long v1), .second, .val (.long v3), .second, .val (.long v5), .second, .val (.int v11), .val (.int v17), .val (.int v23), .val (.int v25), .val (.int v27), .val (.int v29), .val (.int v35), .val (.int v41), .val (.int v47), .val (.int v53), .val (.int v61), .unset, .unset, .unset, .unset, .unset, .unset, .unset, .unset, .unset, .unset, .unset] [(.int v29), (.int (1 : Int32)), (.int v17)])) _
    refine XS.iload X56'.here hx rfl (hb hby at_178) rfl ?_
    show Steps p.tables e below (T56.setTop (mkF m 180 #[.val (.long q0), .second, .val (.long q1), .second, .val (.long q2), .second, .val (.int p3), .val (.int p4), .val (.int p5), .val (.long v1), .second, .val (.long v3), .second, .val (.long v5), .second, .val (.int v11), .val (.int v17), .val (.int v23), .val (.int v25), .val (.int v27), .val (.int v29), .val (.int v35), .val (.int v41), .val (.int v47), .val (.int v53), .val (.int v61), .unset, .unset, .unset, .unset, .unset, .unset, .unset, .unset, .unset, .unset, .unset] [(.int v47), (.int v29), (.int (1 : Int32)), (.int v17)])) _
    refine XS.iload X56'.here hx rfl (hb hby at_180) rfl ?_
    show Steps p.tables e below (T56.setTop (mkF m 182 #[.val (.long q0), .second, .val (.long q1), .second, .val (.long q2), .second, .val (.int p3), .val (.int p4), .val (.int p5), .val (.long v1), .second, .val (.long v3), .second, .val (.long v5), .second, .val (.int v11), .val (.int v17), .val (.int v23), .val (.int v25), .val (.int v27), .val (.int v29), .val (.int v35), .val (.int v41), .val (.int v47), .val (.int v53), .val (.int v61), .unset, .unset, .unset, .unset, .unset, .unset, .unset, .unset, .unset, .unset, .unset] [(.int v53), (.int v47), (.int v29), (.int (1 : Int32)), (.int v17)])) _
    refine XS.iload X56'.here hx rfl (hb hby at_182) rfl ?_
    exact k
  obtain ⟨_, _, ⟨T64, L64, k64, n64⟩, -, X64, ⟨Lc64, hQ64, l64, y64, z64⟩, st64⟩ := Jvm.LawKit.callS X56' hx (y := (⟨"com/example/evotempo/evotempo/problem/LinearFunctionFitnessAfterFlipsPinLaw", "flipped", "(IIIII)Z"⟩ : MethodName)) hown (mvT hZ (hw _ (List.mem_of_getElem? (i := 2) rfl))) (mvT hZ (hw _ (List.mem_of_getElem? (i := 3) rfl))) (mvT hZ (hw _ (List.mem_of_getElem? (i := 4) rfl))) (mvT hZ (hw _ (List.mem_of_getElem? (i := 5) rfl))) (by decide) (backOf (W := 1) (own_rm1 l Z a0 hw [] (1 : Int32) v29 v47 v53 v25 h0) hZ (hw _ (List.mem_of_getElem? (i := 5) rfl)) (hw _ (List.mem_of_getElem? (i := 4) rfl)) (by decide) (by decide)) (g := (mkF m 184 #[.val (.long q0), .second, .val (.long q1), .second, .val (.long q2), .second, .val (.int p3), .val (.int p4), .val (.int p5), .val (.long v1), .second, .val (.long v3), .second, .val (.long v5), .second, .val (.int v11), .val (.int v17), .val (.int v23), .val (.int v25), .val (.int v27), .val (.int v29), .val (.int v35), .val (.int v41), .val (.int v47), .val (.int v53), .val (.int v61), .unset, .unset, .unset, .unset, .unset, .unset, .unset, .unset, .unset, .unset, .unset] [(.int v25), (.int v53), (.int v47), (.int v29), (.int (1 : Int32)), (.int v17)])) rfl (by rw [hml]; rfl) (argsL := [(.int (1 : Int32)), (.int v29), (.int v47), (.int v53), (.int v25)]) (rest := [(.int v17)]) (lenOf own_pd1 rfl) rfl (by show 2 * 0 + _ ≤ _; exact Nat.le_of_eq rfl) (hb hby at_184) (fun _ _ => ⟨rfl, e56, (by decide : 0 + 0 ≤ _), (by decide : 0 + 0 ≤ _)⟩)
  dsimp only [Pt.U, Pt.locs, Pt.cells, Pt.slots] at X64 l64 y64 z64 st64 hQ64
  subst y64 z64
  obtain ⟨rfl, rfl, e64⟩ := hQ64
  have X64' : Stand p l e room_1 s m #[(.long q0), (.long q1), (.long q2), (.int p3), (.int p4), (.int p5)] below meth c T64 [] 0 0 := by rw [show L64 = [] from by rw [l64]; first | rfl | exact List.append_nil _] at X64; exact X64
  obtain ⟨v65, hv65⟩ : ∃ z : Int32, z = (own_F1 (1 : Int32) v29 v47 v53 v25) := ⟨_, rfl⟩
  rw [← hv65] at st64
  obtain ⟨v69, hv69⟩ : ∃ z : Int32, z = (if v17 = v65 then (0 : Int32) else (1 : Int32)) := ⟨_, rfl⟩
  have st70 : ∀ t, Steps p.tables e below (T64.setTop (mkF m 195 #[.val (.long q0), .second, .val (.long q1), .second, .val (.long q2), .second, .val (.int p3), .val (.int p4), .val (.int p5), .val (.long v1), .second, .val (.long v3), .second, .val (.long v5), .second, .val (.int v11), .val (.int v17), .val (.int v23), .val (.int v25), .val (.int v27), .val (.int v29), .val (.int v35), .val (.int v41), .val (.int v47), .val (.int v53), .val (.int v61), .unset, .unset, .unset, .unset, .unset, .unset, .unset, .unset, .unset, .unset, .unset] [(.int v69)])) t → Steps p.tables e below (T64.setTop (mkF m 187 #[.val (.long q0), .second, .val (.long q1), .second, .val (.long q2), .second, .val (.int p3), .val (.int p4), .val (.int p5), .val (.long v1), .second, .val (.long v3), .second, .val (.long v5), .second, .val (.int v11), .val (.int v17), .val (.int v23), .val (.int v25), .val (.int v27), .val (.int v29), .val (.int v35), .val (.int v41), .val (.int v47), .val (.int v53), .val (.int v61), .unset, .unset, .unset, .unset, .unset, .unset, .unset, .unset, .unset, .unset, .unset] [(.int v65), (.int v17)])) t := by
    rw [hv69]
    by_cases hc187_66 : v17 = v65
    · repeat rw [if_pos hc187_66]
      have st67 : ∀ t, Steps p.tables e below (T64.setTop (mkF m 195 #[.val (.long q0), .second, .val (.long q1), .second, .val (.long q2), .second, .val (.int p3), .val (.int p4), .val (.int p5), .val (.long v1), .second, .val (.long v3), .second, .val (.long v5), .second, .val (.int v11), .val (.int v17), .val (.int v23), .val (.int v25), .val (.int v27), .val (.int v29), .val (.int v35), .val (.int v41), .val (.int v47), .val (.int v53), .val (.int v61), .unset, .unset, .unset, .unset, .unset, .unset, .unset, .unset, .unset, .unset, .unset] [(.int (0 : Int32))])) t → Steps p.tables e below (T64.setTop (mkF m 187 #[.val (.long q0), .second, .val (.long q1), .second, .val (.long q2), .second, .val (.int p3), .val (.int p4), .val (.int p5), .val (.long v1), .second, .val (.long v3), .second, .val (.long v5), .second, .val (.int v11), .val (.int v17), .val (.int v23), .val (.int v25), .val (.int v27), .val (.int v29), .val (.int v35), .val (.int v41), .val (.int v47), .val (.int v53), .val (.int v61), .unset, .unset, .unset, .unset, .unset, .unset, .unset, .unset, .unset, .unset, .unset] [(.int v65), (.int v17)])) t := by
        intro t k
        show Steps p.tables e below (T64.setTop (mkF m 187 #[.val (.long q0), .second, .val (.long q1), .second, .val (.long q2), .second, .val (.int p3), .val (.int p4), .val (.int p5), .val (.long v1), .second, .val (.long v3), .second, .val (.long v5), .second, .val (.int v11), .val (.int v17), .val (.int v23), .val (.int v25), .val (.int v27), .val (.int v29), .val (.int v35), .val (.int v41), .val (.int v47), .val (.int v53), .val (.int v61), .unset, .unset, .unset, .unset, .unset, .unset, .unset, .unset, .unset, .unset, .unset] [(.int v65), (.int v17)])) _
        refine XS.icmpYes X64'.here hx rfl (pc0 := 187) (pc' := 194) rfl (hb hby at_187) rfl (teq hc187_66).1 (by decide) (by decide) ?_
        show Steps p.tables e below (T64.setTop (mkF m 194 #[.val (.long q0), .second, .val (.long q1), .second, .val (.long q2), .second, .val (.int p3), .val (.int p4), .val (.int p5), .val (.long v1), .second, .val (.long v3), .second, .val (.long v5), .second, .val (.int v11), .val (.int v17), .val (.int v23), .val (.int v25), .val (.int v27), .val (.int v29), .val (.int v35), .val (.int v41), .val (.int v47), .val (.int v53), .val (.int v61), .unset, .unset, .unset, .unset, .unset, .unset, .unset, .unset, .unset, .unset, .unset] [])) _
        refine XS.iconst X64'.here hx rfl (hb hby at_194) ?_
        exact k
      exact fun t k => st67 _ k
    · repeat rw [if_neg hc187_66]
      have st68 : ∀ t, Steps p.tables e below (T64.setTop (mkF m 195 #[.val (.long q0), .second, .val (.long q1), .second, .val (.long q2), .second, .val (.int p3), .val (.int p4), .val (.int p5), .val (.long v1), .second, .val (.long v3), .second, .val (.long v5), .second, .val (.int v11), .val (.int v17), .val (.int v23), .val (.int v25), .val (.int v27), .val (.int v29), .val (.int v35), .val (.int v41), .val (.int v47), .val (.int v53), .val (.int v61), .unset, .unset, .unset, .unset, .unset, .unset, .unset, .unset, .unset, .unset, .unset] [(.int (1 : Int32))])) t → Steps p.tables e below (T64.setTop (mkF m 187 #[.val (.long q0), .second, .val (.long q1), .second, .val (.long q2), .second, .val (.int p3), .val (.int p4), .val (.int p5), .val (.long v1), .second, .val (.long v3), .second, .val (.long v5), .second, .val (.int v11), .val (.int v17), .val (.int v23), .val (.int v25), .val (.int v27), .val (.int v29), .val (.int v35), .val (.int v41), .val (.int v47), .val (.int v53), .val (.int v61), .unset, .unset, .unset, .unset, .unset, .unset, .unset, .unset, .unset, .unset, .unset] [(.int v65), (.int v17)])) t := by
        intro t k
        show Steps p.tables e below (T64.setTop (mkF m 187 #[.val (.long q0), .second, .val (.long q1), .second, .val (.long q2), .second, .val (.int p3), .val (.int p4), .val (.int p5), .val (.long v1), .second, .val (.long v3), .second, .val (.long v5), .second, .val (.int v11), .val (.int v17), .val (.int v23), .val (.int v25), .val (.int v27), .val (.int v29), .val (.int v35), .val (.int v41), .val (.int v47), .val (.int v53), .val (.int v61), .unset, .unset, .unset, .unset, .unset, .unset, .unset, .unset, .unset, .unset, .unset] [(.int v65), (.int v17)])) _
        refine XS.icmpNo X64'.here hx rfl (hb hby at_187) rfl (feq hc187_66).1 ?_
        show Steps p.tables e below (T64.setTop (mkF m 190 #[.val (.long q0), .second, .val (.long q1), .second, .val (.long q2), .second, .val (.int p3), .val (.int p4), .val (.int p5), .val (.long v1), .second, .val (.long v3), .second, .val (.long v5), .second, .val (.int v11), .val (.int v17), .val (.int v23), .val (.int v25), .val (.int v27), .val (.int v29), .val (.int v35), .val (.int v41), .val (.int v47), .val (.int v53), .val (.int v61), .unset, .unset, .unset, .unset, .unset, .unset, .unset, .unset, .unset, .unset, .unset] [])) _
        refine XS.iconst X64'.here hx rfl (hb hby at_190) ?_
        show Steps p.tables e below (T64.setTop (mkF m 191 #[.val (.long q0), .second, .val (.long q1), .second, .val (.long q2), .second, .val (.int p3), .val (.int p4), .val (.int p5), .val (.long v1), .second, .val (.long v3), .second, .val (.long v5), .second, .val (.int v11), .val (.int v17), .val (.int v23), .val (.int v25), .val (.int v27), .val (.int v29), .val (.int v35), .val (.int v41), .val (.int v47), .val (.int v53), .val (.int v61), .unset, .unset, .unset, .unset, .unset, .unset, .unset, .unset, .unset, .unset, .unset] [(.int (1 : Int32))])) _
        refine XS.goto X64'.here hx rfl (pc0 := 191) (pc' := 195) rfl (hb hby at_191) (by decide) (by decide) ?_
        exact k
      exact fun t k => st68 _ k
  have st71 : ∀ t, Steps p.tables e below (T64.setTop (mkF m 208 #[.val (.long q0), .second, .val (.long q1), .second, .val (.long q2), .second, .val (.int p3), .val (.int p4), .val (.int p5), .val (.long v1), .second, .val (.long v3), .second, .val (.long v5), .second, .val (.int v11), .val (.int v17), .val (.int v23), .val (.int v25), .val (.int v27), .val (.int v29), .val (.int v35), .val (.int v41), .val (.int v47), .val (.int v53), .val (.int v61), .val (.int v69), .unset, .unset, .unset, .unset, .unset, .unset, .unset, .unset, .unset, .unset] [(.int v25), (.int v53), (.int v47), (.int v29), (.int (2 : Int32)), (.int v23)])) t → Steps p.tables e below (T64.setTop (mkF m 195 #[.val (.long q0), .second, .val (.long q1), .second, .val (.long q2), .second, .val (.int p3), .val (.int p4), .val (.int p5), .val (.long v1), .second, .val (.long v3), .second, .val (.long v5), .second, .val (.int v11), .val (.int v17), .val (.int v23), .val (.int v25), .val (.int v27), .val (.int v29), .val (.int v35), .val (.int v41), .val (.int v47), .val (.int v53), .val (.int v61), .unset, .unset, .unset, .unset, .unset, .unset, .unset, .unset, .unset, .unset, .unset] [(.int v69)])) t := by
    intro t k
    show Steps p.tables e below (T64.setTop (mkF m 195 #[.val (.long q0), .second, .val (.long q1), .second, .val (.long q2), .second, .val (.int p3), .val (.int p4), .val (.int p5), .val (.long v1), .second, .val (.long v3), .second, .val (.long v5), .second, .val (.int v11), .val (.int v17), .val (.int v23), .val (.int v25), .val (.int v27), .val (.int v29), .val (.int v35), .val (.int v41), .val (.int v47), .val (.int v53), .val (.int v61), .unset, .unset, .unset, .unset, .unset, .unset, .unset, .unset, .unset, .unset, .unset] [(.int v69)])) _
    refine XS.istore X64'.here hx rfl (hb hby at_195) rfl (l' := #[.val (.long q0), .second, .val (.long q1), .second, .val (.long q2), .second, .val (.int p3), .val (.int p4), .val (.int p5), .val (.long v1), .second, .val (.long v3), .second, .val (.long v5), .second, .val (.int v11), .val (.int v17), .val (.int v23), .val (.int v25), .val (.int v27), .val (.int v29), .val (.int v35), .val (.int v41), .val (.int v47), .val (.int v53), .val (.int v61), .val (.int v69), .unset, .unset, .unset, .unset, .unset, .unset, .unset, .unset, .unset, .unset]) rfl ?_
    show Steps p.tables e below (T64.setTop (mkF m 197 #[.val (.long q0), .second, .val (.long q1), .second, .val (.long q2), .second, .val (.int p3), .val (.int p4), .val (.int p5), .val (.long v1), .second, .val (.long v3), .second, .val (.long v5), .second, .val (.int v11), .val (.int v17), .val (.int v23), .val (.int v25), .val (.int v27), .val (.int v29), .val (.int v35), .val (.int v41), .val (.int v47), .val (.int v53), .val (.int v61), .val (.int v69), .unset, .unset, .unset, .unset, .unset, .unset, .unset, .unset, .unset, .unset] [])) _
    refine XS.iload X64'.here hx rfl (hb hby at_197) rfl ?_
    show Steps p.tables e below (T64.setTop (mkF m 199 #[.val (.long q0), .second, .val (.long q1), .second, .val (.long q2), .second, .val (.int p3), .val (.int p4), .val (.int p5), .val (.long v1), .second, .val (.long v3), .second, .val (.long v5), .second, .val (.int v11), .val (.int v17), .val (.int v23), .val (.int v25), .val (.int v27), .val (.int v29), .val (.int v35), .val (.int v41), .val (.int v47), .val (.int v53), .val (.int v61), .val (.int v69), .unset, .unset, .unset, .unset, .unset, .unset, .unset, .unset, .unset, .unset] [(.int v23)])) _
    refine XS.iconst X64'.here hx rfl (hb hby at_199) ?_
    show Steps p.tables e below (T64.setTop (mkF m 200 #[.val (.long q0), .second, .val (.long q1), .second, .val (.long q2), .second, .val (.int p3), .val (.int p4), .val (.int p5), .val (.long v1), .second, .val (.long v3), .second, .val (.long v5), .second, .val (.int v11), .val (.int v17), .val (.int v23), .val (.int v25), .val (.int v27), .val (.int v29), .val (.int v35), .val (.int v41), .val (.int v47), .val (.int v53), .val (.int v61), .val (.int v69), .unset, .unset, .unset, .unset, .unset, .unset, .unset, .unset, .unset, .unset] [(.int (2 : Int32)), (.int v23)])) _
    refine XS.iload X64'.here hx rfl (hb hby at_200) rfl ?_
    show Steps p.tables e below (T64.setTop (mkF m 202 #[.val (.long q0), .second, .val (.long q1), .second, .val (.long q2), .second, .val (.int p3), .val (.int p4), .val (.int p5), .val (.long v1), .second, .val (.long v3), .second, .val (.long v5), .second, .val (.int v11), .val (.int v17), .val (.int v23), .val (.int v25), .val (.int v27), .val (.int v29), .val (.int v35), .val (.int v41), .val (.int v47), .val (.int v53), .val (.int v61), .val (.int v69), .unset, .unset, .unset, .unset, .unset, .unset, .unset, .unset, .unset, .unset] [(.int v29), (.int (2 : Int32)), (.int v23)])) _
    refine XS.iload X64'.here hx rfl (hb hby at_202) rfl ?_
    show Steps p.tables e below (T64.setTop (mkF m 204 #[.val (.long q0), .second, .val (.long q1), .second, .val (.long q2), .second, .val (.int p3), .val (.int p4), .val (.int p5), .val (.long v1), .second, .val (.long v3), .second, .val (.long v5), .second, .val (.int v11), .val (.int v17), .val (.int v23), .val (.int v25), .val (.int v27), .val (.int v29), .val (.int v35), .val (.int v41), .val (.int v47), .val (.int v53), .val (.int v61), .val (.int v69), .unset, .unset, .unset, .unset, .unset, .unset, .unset, .unset, .unset, .unset] [(.int v47), (.int v29), (.int (2 : Int32)), (.int v23)])) _
    refine XS.iload X64'.here hx rfl (hb hby at_204) rfl ?_
    show Steps p.tables e below (T64.setTop (mkF m 206 #[.val (.long q0), .second, .val (.long q1), .second, .val (.long q2), .second, .val (.int p3), .val (.int p4), .val (.int p5), .val (.long v1), .second, .val (.long v3), .second, .val (.long v5), .second, .val (.int v11), .val (.int v17), .val (.int v23), .val (.int v25), .val (.int v27), .val (.int v29), .val (.int v35), .val (.int v41), .val (.int v47), .val (.int v53), .val (.int v61), .val (.int v69), .unset, .unset, .unset, .unset, .unset, .unset, .unset, .unset, .unset, .unset] [(.int v53), (.int v47), (.int v29), (.int (2 : Int32)), (.int v23)])) _
    refine XS.iload X64'.here hx rfl (hb hby at_206) rfl ?_
    exact k
  obtain ⟨_, _, ⟨T72, L72, k72, n72⟩, -, X72, ⟨Lc72, hQ72, l72, y72, z72⟩, st72⟩ := Jvm.LawKit.callS X64' hx (y := (⟨"com/example/evotempo/evotempo/problem/LinearFunctionFitnessAfterFlipsPinLaw", "flipped", "(IIIII)Z"⟩ : MethodName)) hown (mvT hZ (hw _ (List.mem_of_getElem? (i := 2) rfl))) (mvT hZ (hw _ (List.mem_of_getElem? (i := 3) rfl))) (mvT hZ (hw _ (List.mem_of_getElem? (i := 4) rfl))) (mvT hZ (hw _ (List.mem_of_getElem? (i := 5) rfl))) (by decide) (backOf (W := 1) (own_rm1 l Z a0 hw [] (2 : Int32) v29 v47 v53 v25 h0) hZ (hw _ (List.mem_of_getElem? (i := 5) rfl)) (hw _ (List.mem_of_getElem? (i := 4) rfl)) (by decide) (by decide)) (g := (mkF m 208 #[.val (.long q0), .second, .val (.long q1), .second, .val (.long q2), .second, .val (.int p3), .val (.int p4), .val (.int p5), .val (.long v1), .second, .val (.long v3), .second, .val (.long v5), .second, .val (.int v11), .val (.int v17), .val (.int v23), .val (.int v25), .val (.int v27), .val (.int v29), .val (.int v35), .val (.int v41), .val (.int v47), .val (.int v53), .val (.int v61), .val (.int v69), .unset, .unset, .unset, .unset, .unset, .unset, .unset, .unset, .unset, .unset] [(.int v25), (.int v53), (.int v47), (.int v29), (.int (2 : Int32)), (.int v23)])) rfl (by rw [hml]; rfl) (argsL := [(.int (2 : Int32)), (.int v29), (.int v47), (.int v53), (.int v25)]) (rest := [(.int v23)]) (lenOf own_pd1 rfl) rfl (by show 2 * 0 + _ ≤ _; exact Nat.le_of_eq rfl) (hb hby at_208) (fun _ _ => ⟨rfl, e64, (by decide : 0 + 0 ≤ _), (by decide : 0 + 0 ≤ _)⟩)
  dsimp only [Pt.U, Pt.locs, Pt.cells, Pt.slots] at X72 l72 y72 z72 st72 hQ72
  subst y72 z72
  obtain ⟨rfl, rfl, e72⟩ := hQ72
  have X72' : Stand p l e room_1 s m #[(.long q0), (.long q1), (.long q2), (.int p3), (.int p4), (.int p5)] below meth c T72 [] 0 0 := by rw [show L72 = [] from by rw [l72]; first | rfl | exact List.append_nil _] at X72; exact X72
  obtain ⟨v73, hv73⟩ : ∃ z : Int32, z = (own_F1 (2 : Int32) v29 v47 v53 v25) := ⟨_, rfl⟩
  rw [← hv73] at st72
  obtain ⟨v77, hv77⟩ : ∃ z : Int32, z = (if v23 = v73 then (0 : Int32) else (1 : Int32)) := ⟨_, rfl⟩
  have st78 : ∀ t, Steps p.tables e below (T72.setTop (mkF m 219 #[.val (.long q0), .second, .val (.long q1), .second, .val (.long q2), .second, .val (.int p3), .val (.int p4), .val (.int p5), .val (.long v1), .second, .val (.long v3), .second, .val (.long v5), .second, .val (.int v11), .val (.int v17), .val (.int v23), .val (.int v25), .val (.int v27), .val (.int v29), .val (.int v35), .val (.int v41), .val (.int v47), .val (.int v53), .val (.int v61), .val (.int v69), .unset, .unset, .unset, .unset, .unset, .unset, .unset, .unset, .unset, .unset] [(.int v77)])) t → Steps p.tables e below (T72.setTop (mkF m 211 #[.val (.long q0), .second, .val (.long q1), .second, .val (.long q2), .second, .val (.int p3), .val (.int p4), .val (.int p5), .val (.long v1), .second, .val (.long v3), .second, .val (.long v5), .second, .val (.int v11), .val (.int v17), .val (.int v23), .val (.int v25), .val (.int v27), .val (.int v29), .val (.int v35), .val (.int v41), .val (.int v47), .val (.int v53), .val (.int v61), .val (.int v69), .unset, .unset, .unset, .unset, .unset, .unset, .unset, .unset, .unset, .unset] [(.int v73), (.int v23)])) t := by
    rw [hv77]
    by_cases hc211_74 : v23 = v73
    · repeat rw [if_pos hc211_74]
      have st75 : ∀ t, Steps p.tables e below (T72.setTop (mkF m 219 #[.val (.long q0), .second, .val (.long q1), .second, .val (.long q2), .second, .val (.int p3), .val (.int p4), .val (.int p5), .val (.long v1), .second, .val (.long v3), .second, .val (.long v5), .second, .val (.int v11), .val (.int v17), .val (.int v23), .val (.int v25), .val (.int v27), .val (.int v29), .val (.int v35), .val (.int v41), .val (.int v47), .val (.int v53), .val (.int v61), .val (.int v69), .unset, .unset, .unset, .unset, .unset, .unset, .unset, .unset, .unset, .unset] [(.int (0 : Int32))])) t → Steps p.tables e below (T72.setTop (mkF m 211 #[.val (.long q0), .second, .val (.long q1), .second, .val (.long q2), .second, .val (.int p3), .val (.int p4), .val (.int p5), .val (.long v1), .second, .val (.long v3), .second, .val (.long v5), .second, .val (.int v11), .val (.int v17), .val (.int v23), .val (.int v25), .val (.int v27), .val (.int v29), .val (.int v35), .val (.int v41), .val (.int v47), .val (.int v53), .val (.int v61), .val (.int v69), .unset, .unset, .unset, .unset, .unset, .unset, .unset, .unset, .unset, .unset] [(.int v73), (.int v23)])) t := by
        intro t k
        show Steps p.tables e below (T72.setTop (mkF m 211 #[.val (.long q0), .second, .val (.long q1), .second, .val (.long q2), .second, .val (.int p3), .val (.int p4), .val (.int p5), .val (.long v1), .second, .val (.long v3), .second, .val (.long v5), .second, .val (.int v11), .val (.int v17), .val (.int v23), .val (.int v25), .val (.int v27), .val (.int v29), .val (.int v35), .val (.int v41), .val (.int v47), .val (.int v53), .val (.int v61), .val (.int v69), .unset, .unset, .unset, .unset, .unset, .unset, .unset, .unset, .unset, .unset] [(.int v73), (.int v23)])) _
        refine XS.icmpYes X72'.here hx rfl (pc0 := 211) (pc' := 218) rfl (hb hby at_211) rfl (teq hc211_74).1 (by decide) (by decide) ?_
        show Steps p.tables e below (T72.setTop (mkF m 218 #[.val (.long q0), .second, .val (.long q1), .second, .val (.long q2), .second, .val (.int p3), .val (.int p4), .val (.int p5), .val (.long v1), .second, .val (.long v3), .second, .val (.long v5), .second, .val (.int v11), .val (.int v17), .val (.int v23), .val (.int v25), .val (.int v27), .val (.int v29), .val (.int v35), .val (.int v41), .val (.int v47), .val (.int v53), .val (.int v61), .val (.int v69), .unset, .unset, .unset, .unset, .unset, .unset, .unset, .unset, .unset, .unset] [])) _
        refine XS.iconst X72'.here hx rfl (hb hby at_218) ?_
        exact k
      exact fun t k => st75 _ k
    · repeat rw [if_neg hc211_74]
      have st76 : ∀ t, Steps p.tables e below (T72.setTop (mkF m 219 #[.val (.long q0), .second, .val (.long q1), .second, .val (.long q2), .second, .val (.int p3), .val (.int p4), .val (.int p5), .val (.long v1), .second, .val (.long v3), .second, .val (.long v5), .second, .val (.int v11), .val (.int v17), .val (.int v23), .val (.int v25), .val (.int v27), .val (.int v29), .val (.int v35), .val (.int v41), .val (.int v47), .val (.int v53), .val (.int v61), .val (.int v69), .unset, .unset, .unset, .unset, .unset, .unset, .unset, .unset, .unset, .unset] [(.int (1 : Int32))])) t → Steps p.tables e below (T72.setTop (mkF m 211 #[.val (.long q0), .second, .val (.long q1), .second, .val (.long q2), .second, .val (.int p3), .val (.int p4), .val (.int p5), .val (.long v1), .second, .val (.long v3), .second, .val (.long v5), .second, .val (.int v11), .val (.int v17), .val (.int v23), .val (.int v25), .val (.int v27), .val (.int v29), .val (.int v35), .val (.int v41), .val (.int v47), .val (.int v53), .val (.int v61), .val (.int v69), .unset, .unset, .unset, .unset, .unset, .unset, .unset, .unset, .unset, .unset] [(.int v73), (.int v23)])) t := by
        intro t k
        show Steps p.tables e below (T72.setTop (mkF m 211 #[.val (.long q0), .second, .val (.long q1), .second, .val (.long q2), .second, .val (.int p3), .val (.int p4), .val (.int p5), .val (.long v1), .second, .val (.long v3), .second, .val (.long v5), .second, .val (.int v11), .val (.int v17), .val (.int v23), .val (.int v25), .val (.int v27), .val (.int v29), .val (.int v35), .val (.int v41), .val (.int v47), .val (.int v53), .val (.int v61), .val (.int v69), .unset, .unset, .unset, .unset, .unset, .unset, .unset, .unset, .unset, .unset] [(.int v73), (.int v23)])) _
        refine XS.icmpNo X72'.here hx rfl (hb hby at_211) rfl (feq hc211_74).1 ?_
        show Steps p.tables e below (T72.setTop (mkF m 214 #[.val (.long q0), .second, .val (.long q1), .second, .val (.long q2), .second, .val (.int p3), .val (.int p4), .val (.int p5), .val (.long v1), .second, .val (.long v3), .second, .val (.long v5), .second, .val (.int v11), .val (.int v17), .val (.int v23), .val (.int v25), .val (.int v27), .val (.int v29), .val (.int v35), .val (.int v41), .val (.int v47), .val (.int v53), .val (.int v61), .val (.int v69), .unset, .unset, .unset, .unset, .unset, .unset, .unset, .unset, .unset, .unset] [])) _
        refine XS.iconst X72'.here hx rfl (hb hby at_214) ?_
        show Steps p.tables e below (T72.setTop (mkF m 215 #[.val (.long q0), .second, .val (.long q1), .second, .val (.long q2), .second, .val (.int p3), .val (.int p4), .val (.int p5), .val (.long v1), .second, .val (.long v3), .second, .val (.long v5), .second, .val (.int v11), .val (.int v17), .val (.int v23), .val (.int v25), .val (.int v27), .val (.int v29), .val (.int v35), .val (.int v41), .val (.int v47), .val (.int v53), .val (.int v61), .val (.int v69), .unset, .unset, .unset, .unset, .unset, .unset, .unset, .unset, .unset, .unset] [(.int (1 : Int32))])) _
        refine XS.goto X72'.here hx rfl (pc0 := 215) (pc' := 219) rfl (hb hby at_215) (by decide) (by decide) ?_
        exact k
      exact fun t k => st76 _ k
  have st79 : ∀ t, Steps p.tables e below (T72.setTop (mkF m 223 #[.val (.long q0), .second, .val (.long q1), .second, .val (.long q2), .second, .val (.int p3), .val (.int p4), .val (.int p5), .val (.long v1), .second, .val (.long v3), .second, .val (.long v5), .second, .val (.int v11), .val (.int v17), .val (.int v23), .val (.int v25), .val (.int v27), .val (.int v29), .val (.int v35), .val (.int v41), .val (.int v47), .val (.int v53), .val (.int v61), .val (.int v69), .val (.int v77), .unset, .unset, .unset, .unset, .unset, .unset, .unset, .unset, .unset] [(.int v11)])) t → Steps p.tables e below (T72.setTop (mkF m 219 #[.val (.long q0), .second, .val (.long q1), .second, .val (.long q2), .second, .val (.int p3), .val (.int p4), .val (.int p5), .val (.long v1), .second, .val (.long v3), .second, .val (.long v5), .second, .val (.int v11), .val (.int v17), .val (.int v23), .val (.int v25), .val (.int v27), .val (.int v29), .val (.int v35), .val (.int v41), .val (.int v47), .val (.int v53), .val (.int v61), .val (.int v69), .unset, .unset, .unset, .unset, .unset, .unset, .unset, .unset, .unset, .unset] [(.int v77)])) t := by
    intro t k
    show Steps p.tables e below (T72.setTop (mkF m 219 #[.val (.long q0), .second, .val (.long q1), .second, .val (.long q2), .second, .val (.int p3), .val (.int p4), .val (.int p5), .val (.long v1), .second, .val (.long v3), .second, .val (.long v5), .second, .val (.int v11), .val (.int v17), .val (.int v23), .val (.int v25), .val (.int v27), .val (.int v29), .val (.int v35), .val (.int v41), .val (.int v47), .val (.int v53), .val (.int v61), .val (.int v69), .unset, .unset, .unset, .unset, .unset, .unset, .unset, .unset, .unset, .unset] [(.int v77)])) _
    refine XS.istore X72'.here hx rfl (hb hby at_219) rfl (l' := #[.val (.long q0), .second, .val (.long q1), .second, .val (.long q2), .second, .val (.int p3), .val (.int p4), .val (.int p5), .val (.long v1), .second, .val (.long v3), .second, .val (.long v5), .second, .val (.int v11), .val (.int v17), .val (.int v23), .val (.int v25), .val (.int v27), .val (.int v29), .val (.int v35), .val (.int v41), .val (.int v47), .val (.int v53), .val (.int v61), .val (.int v69), .val (.int v77), .unset, .unset, .unset, .unset, .unset, .unset, .unset, .unset, .unset]) rfl ?_
    show Steps p.tables e below (T72.setTop (mkF m 221 #[.val (.long q0), .second, .val (.long q1), .second, .val (.long q2), .second, .val (.int p3), .val (.int p4), .val (.int p5), .val (.long v1), .second, .val (.long v3), .second, .val (.long v5), .second, .val (.int v11), .val (.int v17), .val (.int v23), .val (.int v25), .val (.int v27), .val (.int v29), .val (.int v35), .val (.int v41), .val (.int v47), .val (.int v53), .val (.int v61), .val (.int v69), .val (.int v77), .unset, .unset, .unset, .unset, .unset, .unset, .unset, .unset, .unset] [])) _
    refine XS.iload X72'.here hx rfl (hb hby at_221) rfl ?_
    exact k
  obtain ⟨v83, hv83⟩ : ∃ z : Int64, z = (if v11 = (0 : Int32) then (0 : Int64) else v1) := ⟨_, rfl⟩
  have st84 : ∀ t, Steps p.tables e below (T72.setTop (mkF m 232 #[.val (.long q0), .second, .val (.long q1), .second, .val (.long q2), .second, .val (.int p3), .val (.int p4), .val (.int p5), .val (.long v1), .second, .val (.long v3), .second, .val (.long v5), .second, .val (.int v11), .val (.int v17), .val (.int v23), .val (.int v25), .val (.int v27), .val (.int v29), .val (.int v35), .val (.int v41), .val (.int v47), .val (.int v53), .val (.int v61), .val (.int v69), .val (.int v77), .unset, .unset, .unset, .unset, .unset, .unset, .unset, .unset, .unset] [(.long v83)])) t → Steps p.tables e below (T72.setTop (mkF m 223 #[.val (.long q0), .second, .val (.long q1), .second, .val (.long q2), .second, .val (.int p3), .val (.int p4), .val (.int p5), .val (.long v1), .second, .val (.long v3), .second, .val (.long v5), .second, .val (.int v11), .val (.int v17), .val (.int v23), .val (.int v25), .val (.int v27), .val (.int v29), .val (.int v35), .val (.int v41), .val (.int v47), .val (.int v53), .val (.int v61), .val (.int v69), .val (.int v77), .unset, .unset, .unset, .unset, .unset, .unset, .unset, .unset, .unset] [(.int v11)])) t := by
    rw [hv83]
    by_cases hc223_80 : v11 = (0 : Int32)
    · repeat rw [if_pos hc223_80]
      have st81 : ∀ t, Steps p.tables e below (T72.setTop (mkF m 232 #[.val (.long q0), .second, .val (.long q1), .second, .val (.long q2), .second, .val (.int p3), .val (.int p4), .val (.int p5), .val (.long v1), .second, .val (.long v3), .second, .val (.long v5), .second, .val (.int v11), .val (.int v17), .val (.int v23), .val (.int v25), .val (.int v27), .val (.int v29), .val (.int v35), .val (.int v41), .val (.int v47), .val (.int v53), .val (.int v61), .val (.int v69), .val (.int v77), .unset, .unset, .unset, .unset, .unset, .unset, .unset, .unset, .unset] [(.long (0 : Int64))])) t → Steps p.tables e below (T72.setTop (mkF m 223 #[.val (.long q0), .second, .val (.long q1), .second, .val (.long q2), .second, .val (.int p3), .val (.int p4), .val (.int p5), .val (.long v1), .second, .val (.long v3), .second, .val (.long v5), .second, .val (.int v11), .val (.int v17), .val (.int v23), .val (.int v25), .val (.int v27), .val (.int v29), .val (.int v35), .val (.int v41), .val (.int v47), .val (.int v53), .val (.int v61), .val (.int v69), .val (.int v77), .unset, .unset, .unset, .unset, .unset, .unset, .unset, .unset, .unset] [(.int v11)])) t := by
        intro t k
        show Steps p.tables e below (T72.setTop (mkF m 223 #[.val (.long q0), .second, .val (.long q1), .second, .val (.long q2), .second, .val (.int p3), .val (.int p4), .val (.int p5), .val (.long v1), .second, .val (.long v3), .second, .val (.long v5), .second, .val (.int v11), .val (.int v17), .val (.int v23), .val (.int v25), .val (.int v27), .val (.int v29), .val (.int v35), .val (.int v41), .val (.int v47), .val (.int v53), .val (.int v61), .val (.int v69), .val (.int v77), .unset, .unset, .unset, .unset, .unset, .unset, .unset, .unset, .unset] [(.int v11)])) _
        refine XS.ifYes X72'.here hx rfl (pc0 := 223) (pc' := 231) rfl (hb hby at_223) rfl ((if0 _ _).trans (teq hc223_80).1) (by decide) (by decide) ?_
        show Steps p.tables e below (T72.setTop (mkF m 231 #[.val (.long q0), .second, .val (.long q1), .second, .val (.long q2), .second, .val (.int p3), .val (.int p4), .val (.int p5), .val (.long v1), .second, .val (.long v3), .second, .val (.long v5), .second, .val (.int v11), .val (.int v17), .val (.int v23), .val (.int v25), .val (.int v27), .val (.int v29), .val (.int v35), .val (.int v41), .val (.int v47), .val (.int v53), .val (.int v61), .val (.int v69), .val (.int v77), .unset, .unset, .unset, .unset, .unset, .unset, .unset, .unset, .unset] [])) _
        refine XS.lconst X72'.here hx rfl (hb hby at_231) ?_
        exact k
      exact fun t k => st81 _ k
    · repeat rw [if_neg hc223_80]
      have st82 : ∀ t, Steps p.tables e below (T72.setTop (mkF m 232 #[.val (.long q0), .second, .val (.long q1), .second, .val (.long q2), .second, .val (.int p3), .val (.int p4), .val (.int p5), .val (.long v1), .second, .val (.long v3), .second, .val (.long v5), .second, .val (.int v11), .val (.int v17), .val (.int v23), .val (.int v25), .val (.int v27), .val (.int v29), .val (.int v35), .val (.int v41), .val (.int v47), .val (.int v53), .val (.int v61), .val (.int v69), .val (.int v77), .unset, .unset, .unset, .unset, .unset, .unset, .unset, .unset, .unset] [(.long v1)])) t → Steps p.tables e below (T72.setTop (mkF m 223 #[.val (.long q0), .second, .val (.long q1), .second, .val (.long q2), .second, .val (.int p3), .val (.int p4), .val (.int p5), .val (.long v1), .second, .val (.long v3), .second, .val (.long v5), .second, .val (.int v11), .val (.int v17), .val (.int v23), .val (.int v25), .val (.int v27), .val (.int v29), .val (.int v35), .val (.int v41), .val (.int v47), .val (.int v53), .val (.int v61), .val (.int v69), .val (.int v77), .unset, .unset, .unset, .unset, .unset, .unset, .unset, .unset, .unset] [(.int v11)])) t := by
        intro t k
        show Steps p.tables e below (T72.setTop (mkF m 223 #[.val (.long q0), .second, .val (.long q1), .second, .val (.long q2), .second, .val (.int p3), .val (.int p4), .val (.int p5), .val (.long v1), .second, .val (.long v3), .second, .val (.long v5), .second, .val (.int v11), .val (.int v17), .val (.int v23), .val (.int v25), .val (.int v27), .val (.int v29), .val (.int v35), .val (.int v41), .val (.int v47), .val (.int v53), .val (.int v61), .val (.int v69), .val (.int v77), .unset, .unset, .unset, .unset, .unset, .unset, .unset, .unset, .unset] [(.int v11)])) _
        refine XS.ifNo X72'.here hx rfl (hb hby at_223) rfl ((if0 _ _).trans (feq hc223_80).1) ?_
        show Steps p.tables e below (T72.setTop (mkF m 226 #[.val (.long q0), .second, .val (.long q1), .second, .val (.long q2), .second, .val (.int p3), .val (.int p4), .val (.int p5), .val (.long v1), .second, .val (.long v3), .second, .val (.long v5), .second, .val (.int v11), .val (.int v17), .val (.int v23), .val (.int v25), .val (.int v27), .val (.int v29), .val (.int v35), .val (.int v41), .val (.int v47), .val (.int v53), .val (.int v61), .val (.int v69), .val (.int v77), .unset, .unset, .unset, .unset, .unset, .unset, .unset, .unset, .unset] [])) _
        refine XS.lload X72'.here hx rfl (hb hby at_226) rfl ?_
        show Steps p.tables e below (T72.setTop (mkF m 228 #[.val (.long q0), .second, .val (.long q1), .second, .val (.long q2), .second, .val (.int p3), .val (.int p4), .val (.int p5), .val (.long v1), .second, .val (.long v3), .second, .val (.long v5), .second, .val (.int v11), .val (.int v17), .val (.int v23), .val (.int v25), .val (.int v27), .val (.int v29), .val (.int v35), .val (.int v41), .val (.int v47), .val (.int v53), .val (.int v61), .val (.int v69), .val (.int v77), .unset, .unset, .unset, .unset, .unset, .unset, .unset, .unset, .unset] [(.long v1)])) _
        refine XS.goto X72'.here hx rfl (pc0 := 228) (pc' := 232) rfl (hb hby at_228) (by decide) (by decide) ?_
        exact k
      exact fun t k => st82 _ k
  have st85 : ∀ t, Steps p.tables e below (T72.setTop (mkF m 234 #[.val (.long q0), .second, .val (.long q1), .second, .val (.long q2), .second, .val (.int p3), .val (.int p4), .val (.int p5), .val (.long v1), .second, .val (.long v3), .second, .val (.long v5), .second, .val (.int v11), .val (.int v17), .val (.int v23), .val (.int v25), .val (.int v27), .val (.int v29), .val (.int v35), .val (.int v41), .val (.int v47), .val (.int v53), .val (.int v61), .val (.int v69), .val (.int v77), .unset, .unset, .unset, .unset, .unset, .unset, .unset, .unset, .unset] [(.int v17), (.long v83)])) t → Steps p.tables e below (T72.setTop (mkF m 232 #[.val (.long q0), .second, .val (.long q1), .second, .val (.long q2), .second, .val (.int p3), .val (.int p4), .val (.int p5), .val (.long v1), .second, .val (.long v3), .second, .val (.long v5), .second, .val (.int v11), .val (.int v17), .val (.int v23), .val (.int v25), .val (.int v27), .val (.int v29), .val (.int v35), .val (.int v41), .val (.int v47), .val (.int v53), .val (.int v61), .val (.int v69), .val (.int v77), .unset, .unset, .unset, .unset, .unset, .unset, .unset, .unset, .unset] [(.long v83)])) t := by
    intro t k
    show Steps p.tables e below (T72.setTop (mkF m 232 #[.val (.long q0), .second, .val (.long q1), .second, .val (.long q2), .second, .val (.int p3), .val (.int p4), .val (.int p5), .val (.long v1), .second, .val (.long v3), .second, .val (.long v5), .second, .val (.int v11), .val (.int v17), .val (.int v23), .val (.int v25), .val (.int v27), .val (.int v29), .val (.int v35), .val (.int v41), .val (.int v47), .val (.int v53), .val (.int v61), .val (.int v69), .val (.int v77), .unset, .unset, .unset, .unset, .unset, .unset, .unset, .unset, .unset] [(.long v83)])) _
    refine XS.iload X72'.here hx rfl (hb hby at_232) rfl ?_
    exact k
  obtain ⟨v89, hv89⟩ : ∃ z : Int64, z = (if v17 = (0 : Int32) then (0 : Int64) else v3) := ⟨_, rfl⟩
  have st90 : ∀ t, Steps p.tables e below (T72.setTop (mkF m 243 #[.val (.long q0), .second, .val (.long q1), .second, .val (.long q2), .second, .val (.int p3), .val (.int p4), .val (.int p5), .val (.long v1), .second, .val (.long v3), .second, .val (.long v5), .second, .val (.int v11), .val (.int v17), .val (.int v23), .val (.int v25), .val (.int v27), .val (.int v29), .val (.int v35), .val (.int v41), .val (.int v47), .val (.int v53), .val (.int v61), .val (.int v69), .val (.int v77), .unset, .unset, .unset, .unset, .unset, .unset, .unset, .unset, .unset] [(.long v89), (.long v83)])) t → Steps p.tables e below (T72.setTop (mkF m 234 #[.val (.long q0), .second, .val (.long q1), .second, .val (.long q2), .second, .val (.int p3), .val (.int p4), .val (.int p5), .val (.long v1), .second, .val (.long v3), .second, .val (.long v5), .second, .val (.int v11), .val (.int v17), .val (.int v23), .val (.int v25), .val (.int v27), .val (.int v29), .val (.int v35), .val (.int v41), .val (.int v47), .val (.int v53), .val (.int v61), .val (.int v69), .val (.int v77), .unset, .unset, .unset, .unset, .unset, .unset, .unset, .unset, .unset] [(.int v17), (.long v83)])) t := by
    rw [hv89]
    by_cases hc234_86 : v17 = (0 : Int32)
    · repeat rw [if_pos hc234_86]
      have st87 : ∀ t, Steps p.tables e below (T72.setTop (mkF m 243 #[.val (.long q0), .second, .val (.long q1), .second, .val (.long q2), .second, .val (.int p3), .val (.int p4), .val (.int p5), .val (.long v1), .second, .val (.long v3), .second, .val (.long v5), .second, .val (.int v11), .val (.int v17), .val (.int v23), .val (.int v25), .val (.int v27), .val (.int v29), .val (.int v35), .val (.int v41), .val (.int v47), .val (.int v53), .val (.int v61), .val (.int v69), .val (.int v77), .unset, .unset, .unset, .unset, .unset, .unset, .unset, .unset, .unset] [(.long (0 : Int64)), (.long v83)])) t → Steps p.tables e below (T72.setTop (mkF m 234 #[.val (.long q0), .second, .val (.long q1), .second, .val (.long q2), .second, .val (.int p3), .val (.int p4), .val (.int p5), .val (.long v1), .second, .val (.long v3), .second, .val (.long v5), .second, .val (.int v11), .val (.int v17), .val (.int v23), .val (.int v25), .val (.int v27), .val (.int v29), .val (.int v35), .val (.int v41), .val (.int v47), .val (.int v53), .val (.int v61), .val (.int v69), .val (.int v77), .unset, .unset, .unset, .unset, .unset, .unset, .unset, .unset, .unset] [(.int v17), (.long v83)])) t := by
        intro t k
        show Steps p.tables e below (T72.setTop (mkF m 234 #[.val (.long q0), .second, .val (.long q1), .second, .val (.long q2), .second, .val (.int p3), .val (.int p4), .val (.int p5), .val (.long v1), .second, .val (.long v3), .second, .val (.long v5), .second, .val (.int v11), .val (.int v17), .val (.int v23), .val (.int v25), .val (.int v27), .val (.int v29), .val (.int v35), .val (.int v41), .val (.int v47), .val (.int v53), .val (.int v61), .val (.int v69), .val (.int v77), .unset, .unset, .unset, .unset, .unset, .unset, .unset, .unset, .unset] [(.int v17), (.long v83)])) _
        refine XS.ifYes X72'.here hx rfl (pc0 := 234) (pc' := 242) rfl (hb hby at_234) rfl ((if0 _ _).trans (teq hc234_86).1) (by decide) (by decide) ?_
        show Steps p.tables e below (T72.setTop (mkF m 242 #[.val (.long q0), .second, .val (.long q1), .second, .val (.long q2), .second, .val (.int p3), .val (.int p4), .val (.int p5), .val (.long v1), .second, .val (.long v3), .second, .val (.long v5), .second, .val (.int v11), .val (.int v17), .val (.int v23), .val (.int v25), .val (.int v27), .val (.int v29), .val (.int v35), .val (.int v41), .val (.int v47), .val (.int v53), .val (.int v61), .val (.int v69), .val (.int v77), .unset, .unset, .unset, .unset, .unset, .unset, .unset, .unset, .unset] [(.long v83)])) _
        refine XS.lconst X72'.here hx rfl (hb hby at_242) ?_
        exact k
      exact fun t k => st87 _ k
    · repeat rw [if_neg hc234_86]
      have st88 : ∀ t, Steps p.tables e below (T72.setTop (mkF m 243 #[.val (.long q0), .second, .val (.long q1), .second, .val (.long q2), .second, .val (.int p3), .val (.int p4), .val (.int p5), .val (.long v1), .second, .val (.long v3), .second, .val (.long v5), .second, .val (.int v11), .val (.int v17), .val (.int v23), .val (.int v25), .val (.int v27), .val (.int v29), .val (.int v35), .val (.int v41), .val (.int v47), .val (.int v53), .val (.int v61), .val (.int v69), .val (.int v77), .unset, .unset, .unset, .unset, .unset, .unset, .unset, .unset, .unset] [(.long v3), (.long v83)])) t → Steps p.tables e below (T72.setTop (mkF m 234 #[.val (.long q0), .second, .val (.long q1), .second, .val (.long q2), .second, .val (.int p3), .val (.int p4), .val (.int p5), .val (.long v1), .second, .val (.long v3), .second, .val (.long v5), .second, .val (.int v11), .val (.int v17), .val (.int v23), .val (.int v25), .val (.int v27), .val (.int v29), .val (.int v35), .val (.int v41), .val (.int v47), .val (.int v53), .val (.int v61), .val (.int v69), .val (.int v77), .unset, .unset, .unset, .unset, .unset, .unset, .unset, .unset, .unset] [(.int v17), (.long v83)])) t := by
        intro t k
        show Steps p.tables e below (T72.setTop (mkF m 234 #[.val (.long q0), .second, .val (.long q1), .second, .val (.long q2), .second, .val (.int p3), .val (.int p4), .val (.int p5), .val (.long v1), .second, .val (.long v3), .second, .val (.long v5), .second, .val (.int v11), .val (.int v17), .val (.int v23), .val (.int v25), .val (.int v27), .val (.int v29), .val (.int v35), .val (.int v41), .val (.int v47), .val (.int v53), .val (.int v61), .val (.int v69), .val (.int v77), .unset, .unset, .unset, .unset, .unset, .unset, .unset, .unset, .unset] [(.int v17), (.long v83)])) _
        refine XS.ifNo X72'.here hx rfl (hb hby at_234) rfl ((if0 _ _).trans (feq hc234_86).1) ?_
        show Steps p.tables e below (T72.setTop (mkF m 237 #[.val (.long q0), .second, .val (.long q1), .second, .val (.long q2), .second, .val (.int p3), .val (.int p4), .val (.int p5), .val (.long v1), .second, .val (.long v3), .second, .val (.long v5), .second, .val (.int v11), .val (.int v17), .val (.int v23), .val (.int v25), .val (.int v27), .val (.int v29), .val (.int v35), .val (.int v41), .val (.int v47), .val (.int v53), .val (.int v61), .val (.int v69), .val (.int v77), .unset, .unset, .unset, .unset, .unset, .unset, .unset, .unset, .unset] [(.long v83)])) _
        refine XS.lload X72'.here hx rfl (hb hby at_237) rfl ?_
        show Steps p.tables e below (T72.setTop (mkF m 239 #[.val (.long q0), .second, .val (.long q1), .second, .val (.long q2), .second, .val (.int p3), .val (.int p4), .val (.int p5), .val (.long v1), .second, .val (.long v3), .second, .val (.long v5), .second, .val (.int v11), .val (.int v17), .val (.int v23), .val (.int v25), .val (.int v27), .val (.int v29), .val (.int v35), .val (.int v41), .val (.int v47), .val (.int v53), .val (.int v61), .val (.int v69), .val (.int v77), .unset, .unset, .unset, .unset, .unset, .unset, .unset, .unset, .unset] [(.long v3), (.long v83)])) _
        refine XS.goto X72'.here hx rfl (pc0 := 239) (pc' := 243) rfl (hb hby at_239) (by decide) (by decide) ?_
        exact k
      exact fun t k => st88 _ k
  have st91 : ∀ t, Steps p.tables e below (T72.setTop (mkF m 246 #[.val (.long q0), .second, .val (.long q1), .second, .val (.long q2), .second, .val (.int p3), .val (.int p4), .val (.int p5), .val (.long v1), .second, .val (.long v3), .second, .val (.long v5), .second, .val (.int v11), .val (.int v17), .val (.int v23), .val (.int v25), .val (.int v27), .val (.int v29), .val (.int v35), .val (.int v41), .val (.int v47), .val (.int v53), .val (.int v61), .val (.int v69), .val (.int v77), .unset, .unset, .unset, .unset, .unset, .unset, .unset, .unset, .unset] [(.int v23), (.long (v83 + v89))])) t → Steps p.tables e below (T72.setTop (mkF m 243 #[.val (.long q0), .second, .val (.long q1), .second, .val (.long q2), .second, .val (.int p3), .val (.int p4), .val (.int p5), .val (.long v1), .second, .val (.long v3), .second, .val (.long v5), .second, .val (.int v11), .val (.int v17), .val (.int v23), .val (.int v25), .val (.int v27), .val (.int v29), .val (.int v35), .val (.int v41), .val (.int v47), .val (.int v53), .val (.int v61), .val (.int v69), .val (.int v77), .unset, .unset, .unset, .unset, .unset, .unset, .unset, .unset, .unset] [(.long v89), (.long v83)])) t := by
    intro t k
    show Steps p.tables e below (T72.setTop (mkF m 243 #[.val (.long q0), .second, .val (.long q1), .second, .val (.long q2), .second, .val (.int p3), .val (.int p4), .val (.int p5), .val (.long v1), .second, .val (.long v3), .second, .val (.long v5), .second, .val (.int v11), .val (.int v17), .val (.int v23), .val (.int v25), .val (.int v27), .val (.int v29), .val (.int v35), .val (.int v41), .val (.int v47), .val (.int v53), .val (.int v61), .val (.int v69), .val (.int v77), .unset, .unset, .unset, .unset, .unset, .unset, .unset, .unset, .unset] [(.long v89), (.long v83)])) _
    refine XS.ladd X72'.here hx rfl (hb hby at_243) rfl ?_
    show Steps p.tables e below (T72.setTop (mkF m 244 #[.val (.long q0), .second, .val (.long q1), .second, .val (.long q2), .second, .val (.int p3), .val (.int p4), .val (.int p5), .val (.long v1), .second, .val (.long v3), .second, .val (.long v5), .second, .val (.int v11), .val (.int v17), .val (.int v23), .val (.int v25), .val (.int v27), .val (.int v29), .val (.int v35), .val (.int v41), .val (.int v47), .val (.int v53), .val (.int v61), .val (.int v69), .val (.int v77), .unset, .unset, .unset, .unset, .unset, .unset, .unset, .unset, .unset] [(.long (v83 + v89))])) _
    refine XS.iload X72'.here hx rfl (hb hby at_244) rfl ?_
    exact k
  obtain ⟨v95, hv95⟩ : ∃ z : Int64, z = (if v23 = (0 : Int32) then (0 : Int64) else v5) := ⟨_, rfl⟩
  obtain ⟨v96, hv96⟩ : ∃ z : Int64, z = (v83 + v89) := ⟨_, rfl⟩
  have st97 : ∀ t, Steps p.tables e below (T72.setTop (mkF m 255 #[.val (.long q0), .second, .val (.long q1), .second, .val (.long q2), .second, .val (.int p3), .val (.int p4), .val (.int p5), .val (.long v1), .second, .val (.long v3), .second, .val (.long v5), .second, .val (.int v11), .val (.int v17), .val (.int v23), .val (.int v25), .val (.int v27), .val (.int v29), .val (.int v35), .val (.int v41), .val (.int v47), .val (.int v53), .val (.int v61), .val (.int v69), .val (.int v77), .unset, .unset, .unset, .unset, .unset, .unset, .unset, .unset, .unset] [(.long v95), (.long v96)])) t → Steps p.tables e below (T72.setTop (mkF m 246 #[.val (.long q0), .second, .val (.long q1), .second, .val (.long q2), .second, .val (.int p3), .val (.int p4), .val (.int p5), .val (.long v1), .second, .val (.long v3), .second, .val (.long v5), .second, .val (.int v11), .val (.int v17), .val (.int v23), .val (.int v25), .val (.int v27), .val (.int v29), .val (.int v35), .val (.int v41), .val (.int v47), .val (.int v53), .val (.int v61), .val (.int v69), .val (.int v77), .unset, .unset, .unset, .unset, .unset, .unset, .unset, .unset, .unset] [(.int v23), (.long (v83 + v89))])) t := by
    rw [hv95]
    rw [hv96]
    by_cases hc246_92 : v23 = (0 : Int32)
    · repeat rw [if_pos hc246_92]
      have st93 : ∀ t, Steps p.tables e below (T72.setTop (mkF m 255 #[.val (.long q0), .second, .val (.long q1), .second, .val (.long q2), .second, .val (.int p3), .val (.int p4), .val (.int p5), .val (.long v1), .second, .val (.long v3), .second, .val (.long v5), .second, .val (.int v11), .val (.int v17), .val (.int v23), .val (.int v25), .val (.int v27), .val (.int v29), .val (.int v35), .val (.int v41), .val (.int v47), .val (.int v53), .val (.int v61), .val (.int v69), .val (.int v77), .unset, .unset, .unset, .unset, .unset, .unset, .unset, .unset, .unset] [(.long (0 : Int64)), (.long (v83 + v89))])) t → Steps p.tables e below (T72.setTop (mkF m 246 #[.val (.long q0), .second, .val (.long q1), .second, .val (.long q2), .second, .val (.int p3), .val (.int p4), .val (.int p5), .val (.long v1), .second, .val (.long v3), .second, .val (.long v5), .second, .val (.int v11), .val (.int v17), .val (.int v23), .val (.int v25), .val (.int v27), .val (.int v29), .val (.int v35), .val (.int v41), .val (.int v47), .val (.int v53), .val (.int v61), .val (.int v69), .val (.int v77), .unset, .unset, .unset, .unset, .unset, .unset, .unset, .unset, .unset] [(.int v23), (.long (v83 + v89))])) t := by
        intro t k
        show Steps p.tables e below (T72.setTop (mkF m 246 #[.val (.long q0), .second, .val (.long q1), .second, .val (.long q2), .second, .val (.int p3), .val (.int p4), .val (.int p5), .val (.long v1), .second, .val (.long v3), .second, .val (.long v5), .second, .val (.int v11), .val (.int v17), .val (.int v23), .val (.int v25), .val (.int v27), .val (.int v29), .val (.int v35), .val (.int v41), .val (.int v47), .val (.int v53), .val (.int v61), .val (.int v69), .val (.int v77), .unset, .unset, .unset, .unset, .unset, .unset, .unset, .unset, .unset] [(.int v23), (.long (v83 + v89))])) _
        refine XS.ifYes X72'.here hx rfl (pc0 := 246) (pc' := 254) rfl (hb hby at_246) rfl ((if0 _ _).trans (teq hc246_92).1) (by decide) (by decide) ?_
        show Steps p.tables e below (T72.setTop (mkF m 254 #[.val (.long q0), .second, .val (.long q1), .second, .val (.long q2), .second, .val (.int p3), .val (.int p4), .val (.int p5), .val (.long v1), .second, .val (.long v3), .second, .val (.long v5), .second, .val (.int v11), .val (.int v17), .val (.int v23), .val (.int v25), .val (.int v27), .val (.int v29), .val (.int v35), .val (.int v41), .val (.int v47), .val (.int v53), .val (.int v61), .val (.int v69), .val (.int v77), .unset, .unset, .unset, .unset, .unset, .unset, .unset, .unset, .unset] [(.long (v83 + v89))])) _
        refine XS.lconst X72'.here hx rfl (hb hby at_254) ?_
        exact k
      exact fun t k => st93 _ k
    · repeat rw [if_neg hc246_92]
      have st94 : ∀ t, Steps p.tables e below (T72.setTop (mkF m 255 #[.val (.long q0), .second, .val (.long q1), .second, .val (.long q2), .second, .val (.int p3), .val (.int p4), .val (.int p5), .val (.long v1), .second, .val (.long v3), .second, .val (.long v5), .second, .val (.int v11), .val (.int v17), .val (.int v23), .val (.int v25), .val (.int v27), .val (.int v29), .val (.int v35), .val (.int v41), .val (.int v47), .val (.int v53), .val (.int v61), .val (.int v69), .val (.int v77), .unset, .unset, .unset, .unset, .unset, .unset, .unset, .unset, .unset] [(.long v5), (.long (v83 + v89))])) t → Steps p.tables e below (T72.setTop (mkF m 246 #[.val (.long q0), .second, .val (.long q1), .second, .val (.long q2), .second, .val (.int p3), .val (.int p4), .val (.int p5), .val (.long v1), .second, .val (.long v3), .second, .val (.long v5), .second, .val (.int v11), .val (.int v17), .val (.int v23), .val (.int v25), .val (.int v27), .val (.int v29), .val (.int v35), .val (.int v41), .val (.int v47), .val (.int v53), .val (.int v61), .val (.int v69), .val (.int v77), .unset, .unset, .unset, .unset, .unset, .unset, .unset, .unset, .unset] [(.int v23), (.long (v83 + v89))])) t := by
        intro t k
        show Steps p.tables e below (T72.setTop (mkF m 246 #[.val (.long q0), .second, .val (.long q1), .second, .val (.long q2), .second, .val (.int p3), .val (.int p4), .val (.int p5), .val (.long v1), .second, .val (.long v3), .second, .val (.long v5), .second, .val (.int v11), .val (.int v17), .val (.int v23), .val (.int v25), .val (.int v27), .val (.int v29), .val (.int v35), .val (.int v41), .val (.int v47), .val (.int v53), .val (.int v61), .val (.int v69), .val (.int v77), .unset, .unset, .unset, .unset, .unset, .unset, .unset, .unset, .unset] [(.int v23), (.long (v83 + v89))])) _
        refine XS.ifNo X72'.here hx rfl (hb hby at_246) rfl ((if0 _ _).trans (feq hc246_92).1) ?_
        show Steps p.tables e below (T72.setTop (mkF m 249 #[.val (.long q0), .second, .val (.long q1), .second, .val (.long q2), .second, .val (.int p3), .val (.int p4), .val (.int p5), .val (.long v1), .second, .val (.long v3), .second, .val (.long v5), .second, .val (.int v11), .val (.int v17), .val (.int v23), .val (.int v25), .val (.int v27), .val (.int v29), .val (.int v35), .val (.int v41), .val (.int v47), .val (.int v53), .val (.int v61), .val (.int v69), .val (.int v77), .unset, .unset, .unset, .unset, .unset, .unset, .unset, .unset, .unset] [(.long (v83 + v89))])) _
        refine XS.lload X72'.here hx rfl (hb hby at_249) rfl ?_
        show Steps p.tables e below (T72.setTop (mkF m 251 #[.val (.long q0), .second, .val (.long q1), .second, .val (.long q2), .second, .val (.int p3), .val (.int p4), .val (.int p5), .val (.long v1), .second, .val (.long v3), .second, .val (.long v5), .second, .val (.int v11), .val (.int v17), .val (.int v23), .val (.int v25), .val (.int v27), .val (.int v29), .val (.int v35), .val (.int v41), .val (.int v47), .val (.int v53), .val (.int v61), .val (.int v69), .val (.int v77), .unset, .unset, .unset, .unset, .unset, .unset, .unset, .unset, .unset] [(.long v5), (.long (v83 + v89))])) _
        refine XS.goto X72'.here hx rfl (pc0 := 251) (pc' := 255) rfl (hb hby at_251) (by decide) (by decide) ?_
        exact k
      exact fun t k => st94 _ k
  obtain ⟨v98, hv98⟩ : ∃ z : Int64, z = (v96 + v95) := ⟨_, rfl⟩
  have st99 : ∀ t, Steps p.tables e below (T72.setTop (mkF m 258 #[.val (.long q0), .second, .val (.long q1), .second, .val (.long q2), .second, .val (.int p3), .val (.int p4), .val (.int p5), .val (.long v1), .second, .val (.long v3), .second, .val (.long v5), .second, .val (.int v11), .val (.int v17), .val (.int v23), .val (.int v25), .val (.int v27), .val (.int v29), .val (.int v35), .val (.int v41), .val (.int v47), .val (.int v53), .val (.int v61), .val (.int v69), .val (.int v77), .val (.long v98), .second, .unset, .unset, .unset, .unset, .unset, .unset, .unset] [])) t → Steps p.tables e below (T72.setTop (mkF m 255 #[.val (.long q0), .second, .val (.long q1), .second, .val (.long q2), .second, .val (.int p3), .val (.int p4), .val (.int p5), .val (.long v1), .second, .val (.long v3), .second, .val (.long v5), .second, .val (.int v11), .val (.int v17), .val (.int v23), .val (.int v25), .val (.int v27), .val (.int v29), .val (.int v35), .val (.int v41), .val (.int v47), .val (.int v53), .val (.int v61), .val (.int v69), .val (.int v77), .unset, .unset, .unset, .unset, .unset, .unset, .unset, .unset, .unset] [(.long v95), (.long v96)])) t := by
    rw [hv98]
    intro t k
    show Steps p.tables e below (T72.setTop (mkF m 255 #[.val (.long q0), .second, .val (.long q1), .second, .val (.long q2), .second, .val (.int p3), .val (.int p4), .val (.int p5), .val (.long v1), .second, .val (.long v3), .second, .val (.long v5), .second, .val (.int v11), .val (.int v17), .val (.int v23), .val (.int v25), .val (.int v27), .val (.int v29), .val (.int v35), .val (.int v41), .val (.int v47), .val (.int v53), .val (.int v61), .val (.int v69), .val (.int v77), .unset, .unset, .unset, .unset, .unset, .unset, .unset, .unset, .unset] [(.long v95), (.long v96)])) _
    refine XS.ladd X72'.here hx rfl (hb hby at_255) rfl ?_
    show Steps p.tables e below (T72.setTop (mkF m 256 #[.val (.long q0), .second, .val (.long q1), .second, .val (.long q2), .second, .val (.int p3), .val (.int p4), .val (.int p5), .val (.long v1), .second, .val (.long v3), .second, .val (.long v5), .second, .val (.int v11), .val (.int v17), .val (.int v23), .val (.int v25), .val (.int v27), .val (.int v29), .val (.int v35), .val (.int v41), .val (.int v47), .val (.int v53), .val (.int v61), .val (.int v69), .val (.int v77), .unset, .unset, .unset, .unset, .unset, .unset, .unset, .unset, .unset] [(.long (v96 + v95))])) _
    refine XS.lstore X72'.here hx rfl (hb hby at_256) rfl (l' := #[.val (.long q0), .second, .val (.long q1), .second, .val (.long q2), .second, .val (.int p3), .val (.int p4), .val (.int p5), .val (.long v1), .second, .val (.long v3), .second, .val (.long v5), .second, .val (.int v11), .val (.int v17), .val (.int v23), .val (.int v25), .val (.int v27), .val (.int v29), .val (.int v35), .val (.int v41), .val (.int v47), .val (.int v53), .val (.int v61), .val (.int v69), .val (.int v77), .val (.long (v96 + v95)), .second, .unset, .unset, .unset, .unset, .unset, .unset, .unset]) rfl ?_
    exact k
  have st100 : ∀ t, Steps p.tables e below (T72.setTop (mkF m 260 #[.val (.long q0), .second, .val (.long q1), .second, .val (.long q2), .second, .val (.int p3), .val (.int p4), .val (.int p5), .val (.long v1), .second, .val (.long v3), .second, .val (.long v5), .second, .val (.int v11), .val (.int v17), .val (.int v23), .val (.int v25), .val (.int v27), .val (.int v29), .val (.int v35), .val (.int v41), .val (.int v47), .val (.int v53), .val (.int v61), .val (.int v69), .val (.int v77), .val (.long v98), .second, .unset, .unset, .unset, .unset, .unset, .unset, .unset] [(.int v61)])) t → Steps p.tables e below (T72.setTop (mkF m 258 #[.val (.long q0), .second, .val (.long q1), .second, .val (.long q2), .second, .val (.int p3), .val (.int p4), .val (.int p5), .val (.long v1), .second, .val (.long v3), .second, .val (.long v5), .second, .val (.int v11), .val (.int v17), .val (.int v23), .val (.int v25), .val (.int v27), .val (.int v29), .val (.int v35), .val (.int v41), .val (.int v47), .val (.int v53), .val (.int v61), .val (.int v69), .val (.int v77), .val (.long v98), .second, .unset, .unset, .unset, .unset, .unset, .unset, .unset] [])) t := by
    intro t k
    show Steps p.tables e below (T72.setTop (mkF m 258 #[.val (.long q0), .second, .val (.long q1), .second, .val (.long q2), .second, .val (.int p3), .val (.int p4), .val (.int p5), .val (.long v1), .second, .val (.long v3), .second, .val (.long v5), .second, .val (.int v11), .val (.int v17), .val (.int v23), .val (.int v25), .val (.int v27), .val (.int v29), .val (.int v35), .val (.int v41), .val (.int v47), .val (.int v53), .val (.int v61), .val (.int v69), .val (.int v77), .val (.long v98), .second, .unset, .unset, .unset, .unset, .unset, .unset, .unset] [])) _
    refine XS.iload X72'.here hx rfl (hb hby at_258) rfl ?_
    exact k
  obtain ⟨v104, hv104⟩ : ∃ z : Int64, z = (if v61 = (0 : Int32) then (0 : Int64) else v1) := ⟨_, rfl⟩
  have st105 : ∀ t, Steps p.tables e below (T72.setTop (mkF m 269 #[.val (.long q0), .second, .val (.long q1), .second, .val (.long q2), .second, .val (.int p3), .val (.int p4), .val (.int p5), .val (.long v1), .second, .val (.long v3), .second, .val (.long v5), .second, .val (.int v11), .val (.int v17), .val (.int v23), .val (.int v25), .val (.int v27), .val (.int v29), .val (.int v35), .val (.int v41), .val (.int v47), .val (.int v53), .val (.int v61), .val (.int v69), .val (.int v77), .val (.long v98), .second, .unset, .unset, .unset, .unset, .unset, .unset, .unset] [(.long v104)])) t → Steps p.tables e below (T72.setTop (mkF m 260 #[.val (.long q0), .second, .val (.long q1), .second, .val (.long q2), .second, .val (.int p3), .val (.int p4), .val (.int p5), .val (.long v1), .second, .val (.long v3), .second, .val (.long v5), .second, .val (.int v11), .val (.int v17), .val (.int v23), .val (.int v25), .val (.int v27), .val (.int v29), .val (.int v35), .val (.int v41), .val (.int v47), .val (.int v53), .val (.int v61), .val (.int v69), .val (.int v77), .val (.long v98), .second, .unset, .unset, .unset, .unset, .unset, .unset, .unset] [(.int v61)])) t := by
    rw [hv104]
    by_cases hc260_101 : v61 = (0 : Int32)
    · repeat rw [if_pos hc260_101]
      have st102 : ∀ t, Steps p.tables e below (T72.setTop (mkF m 269 #[.val (.long q0), .second, .val (.long q1), .second, .val (.long q2), .second, .val (.int p3), .val (.int p4), .val (.int p5), .val (.long v1), .second, .val (.long v3), .second, .val (.long v5), .second, .val (.int v11), .val (.int v17), .val (.int v23), .val (.int v25), .val (.int v27), .val (.int v29), .val (.int v35), .val (.int v41), .val (.int v47), .val (.int v53), .val (.int v61), .val (.int v69), .val (.int v77), .val (.long v98), .second, .unset, .unset, .unset, .unset, .unset, .unset, .unset] [(.long (0 : Int64))])) t → Steps p.tables e below (T72.setTop (mkF m 260 #[.val (.long q0), .second, .val (.long q1), .second, .val (.long q2), .second, .val (.int p3), .val (.int p4), .val (.int p5), .val (.long v1), .second, .val (.long v3), .second, .val (.long v5), .second, .val (.int v11), .val (.int v17), .val (.int v23), .val (.int v25), .val (.int v27), .val (.int v29), .val (.int v35), .val (.int v41), .val (.int v47), .val (.int v53), .val (.int v61), .val (.int v69), .val (.int v77), .val (.long v98), .second, .unset, .unset, .unset, .unset, .unset, .unset, .unset] [(.int v61)])) t := by
        intro t k
        show Steps p.tables e below (T72.setTop (mkF m 260 #[.val (.long q0), .second, .val (.long q1), .second, .val (.long q2), .second, .val (.int p3), .val (.int p4), .val (.int p5), .val (.long v1), .second, .val (.long v3), .second, .val (.long v5), .second, .val (.int v11), .val (.int v17), .val (.int v23), .val (.int v25), .val (.int v27), .val (.int v29), .val (.int v35), .val (.int v41), .val (.int v47), .val (.int v53), .val (.int v61), .val (.int v69), .val (.int v77), .val (.long v98), .second, .unset, .unset, .unset, .unset, .unset, .unset, .unset] [(.int v61)])) _
        refine XS.ifYes X72'.here hx rfl (pc0 := 260) (pc' := 268) rfl (hb hby at_260) rfl ((if0 _ _).trans (teq hc260_101).1) (by decide) (by decide) ?_
        show Steps p.tables e below (T72.setTop (mkF m 268 #[.val (.long q0), .second, .val (.long q1), .second, .val (.long q2), .second, .val (.int p3), .val (.int p4), .val (.int p5), .val (.long v1), .second, .val (.long v3), .second, .val (.long v5), .second, .val (.int v11), .val (.int v17), .val (.int v23), .val (.int v25), .val (.int v27), .val (.int v29), .val (.int v35), .val (.int v41), .val (.int v47), .val (.int v53), .val (.int v61), .val (.int v69), .val (.int v77), .val (.long v98), .second, .unset, .unset, .unset, .unset, .unset, .unset, .unset] [])) _
        refine XS.lconst X72'.here hx rfl (hb hby at_268) ?_
        exact k
      exact fun t k => st102 _ k
    · repeat rw [if_neg hc260_101]
      have st103 : ∀ t, Steps p.tables e below (T72.setTop (mkF m 269 #[.val (.long q0), .second, .val (.long q1), .second, .val (.long q2), .second, .val (.int p3), .val (.int p4), .val (.int p5), .val (.long v1), .second, .val (.long v3), .second, .val (.long v5), .second, .val (.int v11), .val (.int v17), .val (.int v23), .val (.int v25), .val (.int v27), .val (.int v29), .val (.int v35), .val (.int v41), .val (.int v47), .val (.int v53), .val (.int v61), .val (.int v69), .val (.int v77), .val (.long v98), .second, .unset, .unset, .unset, .unset, .unset, .unset, .unset] [(.long v1)])) t → Steps p.tables e below (T72.setTop (mkF m 260 #[.val (.long q0), .second, .val (.long q1), .second, .val (.long q2), .second, .val (.int p3), .val (.int p4), .val (.int p5), .val (.long v1), .second, .val (.long v3), .second, .val (.long v5), .second, .val (.int v11), .val (.int v17), .val (.int v23), .val (.int v25), .val (.int v27), .val (.int v29), .val (.int v35), .val (.int v41), .val (.int v47), .val (.int v53), .val (.int v61), .val (.int v69), .val (.int v77), .val (.long v98), .second, .unset, .unset, .unset, .unset, .unset, .unset, .unset] [(.int v61)])) t := by
        intro t k
        show Steps p.tables e below (T72.setTop (mkF m 260 #[.val (.long q0), .second, .val (.long q1), .second, .val (.long q2), .second, .val (.int p3), .val (.int p4), .val (.int p5), .val (.long v1), .second, .val (.long v3), .second, .val (.long v5), .second, .val (.int v11), .val (.int v17), .val (.int v23), .val (.int v25), .val (.int v27), .val (.int v29), .val (.int v35), .val (.int v41), .val (.int v47), .val (.int v53), .val (.int v61), .val (.int v69), .val (.int v77), .val (.long v98), .second, .unset, .unset, .unset, .unset, .unset, .unset, .unset] [(.int v61)])) _
        refine XS.ifNo X72'.here hx rfl (hb hby at_260) rfl ((if0 _ _).trans (feq hc260_101).1) ?_
        show Steps p.tables e below (T72.setTop (mkF m 263 #[.val (.long q0), .second, .val (.long q1), .second, .val (.long q2), .second, .val (.int p3), .val (.int p4), .val (.int p5), .val (.long v1), .second, .val (.long v3), .second, .val (.long v5), .second, .val (.int v11), .val (.int v17), .val (.int v23), .val (.int v25), .val (.int v27), .val (.int v29), .val (.int v35), .val (.int v41), .val (.int v47), .val (.int v53), .val (.int v61), .val (.int v69), .val (.int v77), .val (.long v98), .second, .unset, .unset, .unset, .unset, .unset, .unset, .unset] [])) _
        refine XS.lload X72'.here hx rfl (hb hby at_263) rfl ?_
        show Steps p.tables e below (T72.setTop (mkF m 265 #[.val (.long q0), .second, .val (.long q1), .second, .val (.long q2), .second, .val (.int p3), .val (.int p4), .val (.int p5), .val (.long v1), .second, .val (.long v3), .second, .val (.long v5), .second, .val (.int v11), .val (.int v17), .val (.int v23), .val (.int v25), .val (.int v27), .val (.int v29), .val (.int v35), .val (.int v41), .val (.int v47), .val (.int v53), .val (.int v61), .val (.int v69), .val (.int v77), .val (.long v98), .second, .unset, .unset, .unset, .unset, .unset, .unset, .unset] [(.long v1)])) _
        refine XS.goto X72'.here hx rfl (pc0 := 265) (pc' := 269) rfl (hb hby at_265) (by decide) (by decide) ?_
        exact k
      exact fun t k => st103 _ k
  have st106 : ∀ t, Steps p.tables e below (T72.setTop (mkF m 271 #[.val (.long q0), .second, .val (.long q1), .second, .val (.long q2), .second, .val (.int p3), .val (.int p4), .val (.int p5), .val (.long v1), .second, .val (.long v3), .second, .val (.long v5), .second, .val (.int v11), .val (.int v17), .val (.int v23), .val (.int v25), .val (.int v27), .val (.int v29), .val (.int v35), .val (.int v41), .val (.int v47), .val (.int v53), .val (.int v61), .val (.int v69), .val (.int v77), .val (.long v98), .second, .unset, .unset, .unset, .unset, .unset, .unset, .unset] [(.int v69), (.long v104)])) t → Steps p.tables e below (T72.setTop (mkF m 269 #[.val (.long q0), .second, .val (.long q1), .second, .val (.long q2), .second, .val (.int p3), .val (.int p4), .val (.int p5), .val (.long v1), .second, .val (.long v3), .second, .val (.long v5), .second, .val (.int v11), .val (.int v17), .val (.int v23), .val (.int v25), .val (.int v27), .val (.int v29), .val (.int v35), .val (.int v41), .val (.int v47), .val (.int v53), .val (.int v61), .val (.int v69), .val (.int v77), .val (.long v98), .second, .unset, .unset, .unset, .unset, .unset, .unset, .unset] [(.long v104)])) t := by
    intro t k
    show Steps p.tables e below (T72.setTop (mkF m 269 #[.val (.long q0), .second, .val (.long q1), .second, .val (.long q2), .second, .val (.int p3), .val (.int p4), .val (.int p5), .val (.long v1), .second, .val (.long v3), .second, .val (.long v5), .second, .val (.int v11), .val (.int v17), .val (.int v23), .val (.int v25), .val (.int v27), .val (.int v29), .val (.int v35), .val (.int v41), .val (.int v47), .val (.int v53), .val (.int v61), .val (.int v69), .val (.int v77), .val (.long v98), .second, .unset, .unset, .unset, .unset, .unset, .unset, .unset] [(.long v104)])) _
    refine XS.iload X72'.here hx rfl (hb hby at_269) rfl ?_
    exact k
  obtain ⟨v110, hv110⟩ : ∃ z : Int64, z = (if v69 = (0 : Int32) then (0 : Int64) else v3) := ⟨_, rfl⟩
  have st111 : ∀ t, Steps p.tables e below (T72.setTop (mkF m 280 #[.val (.long q0), .second, .val (.long q1), .second, .val (.long q2), .second, .val (.int p3), .val (.int p4), .val (.int p5), .val (.long v1), .second, .val (.long v3), .second, .val (.long v5), .second, .val (.int v11), .val (.int v17), .val (.int v23), .val (.int v25), .val (.int v27), .val (.int v29), .val (.int v35), .val (.int v41), .val (.int v47), .val (.int v53), .val (.int v61), .val (.int v69), .val (.int v77), .val (.long v98), .second, .unset, .unset, .unset, .unset, .unset, .unset, .unset] [(.long v110), (.long v104)])) t → Steps p.tables e below (T72.setTop (mkF m 271 #[.val (.long q0), .second, .val (.long q1), .second, .val (.long q2), .second, .val (.int p3), .val (.int p4), .val (.int p5), .val (.long v1), .second, .val (.long v3), .second, .val (.long v5), .second, .val (.int v11), .val (.int v17), .val (.int v23), .val (.int v25), .val (.int v27), .val (.int v29), .val (.int v35), .val (.int v41), .val (.int v47), .val (.int v53), .val (.int v61), .val (.int v69), .val (.int v77), .val (.long v98), .second, .unset, .unset, .unset, .unset, .unset, .unset, .unset] [(.int v69), (.long v104)])) t := by
    rw [hv110]
    by_cases hc271_107 : v69 = (0 : Int32)
    · repeat rw [if_pos hc271_107]
      have st108 : ∀ t, Steps p.tables e below (T72.setTop (mkF m 280 #[.val (.long q0), .second, .val (.long q1), .second, .val (.long q2), .second, .val (.int p3), .val (.int p4), .val (.int p5), .val (.long v1), .second, .val (.long v3), .second, .val (.long v5), .second, .val (.int v11), .val (.int v17), .val (.int v23), .val (.int v25), .val (.int v27), .val (.int v29), .val (.int v35), .val (.int v41), .val (.int v47), .val (.int v53), .val (.int v61), .val (.int v69), .val (.int v77), .val (.long v98), .second, .unset, .unset, .unset, .unset, .unset, .unset, .unset] [(.long (0 : Int64)), (.long v104)])) t → Steps p.tables e below (T72.setTop (mkF m 271 #[.val (.long q0), .second, .val (.long q1), .second, .val (.long q2), .second, .val (.int p3), .val (.int p4), .val (.int p5), .val (.long v1), .second, .val (.long v3), .second, .val (.long v5), .second, .val (.int v11), .val (.int v17), .val (.int v23), .val (.int v25), .val (.int v27), .val (.int v29), .val (.int v35), .val (.int v41), .val (.int v47), .val (.int v53), .val (.int v61), .val (.int v69), .val (.int v77), .val (.long v98), .second, .unset, .unset, .unset, .unset, .unset, .unset, .unset] [(.int v69), (.long v104)])) t := by
        intro t k
        show Steps p.tables e below (T72.setTop (mkF m 271 #[.val (.long q0), .second, .val (.long q1), .second, .val (.long q2), .second, .val (.int p3), .val (.int p4), .val (.int p5), .val (.long v1), .second, .val (.long v3), .second, .val (.long v5), .second, .val (.int v11), .val (.int v17), .val (.int v23), .val (.int v25), .val (.int v27), .val (.int v29), .val (.int v35), .val (.int v41), .val (.int v47), .val (.int v53), .val (.int v61), .val (.int v69), .val (.int v77), .val (.long v98), .second, .unset, .unset, .unset, .unset, .unset, .unset, .unset] [(.int v69), (.long v104)])) _
        refine XS.ifYes X72'.here hx rfl (pc0 := 271) (pc' := 279) rfl (hb hby at_271) rfl ((if0 _ _).trans (teq hc271_107).1) (by decide) (by decide) ?_
        show Steps p.tables e below (T72.setTop (mkF m 279 #[.val (.long q0), .second, .val (.long q1), .second, .val (.long q2), .second, .val (.int p3), .val (.int p4), .val (.int p5), .val (.long v1), .second, .val (.long v3), .second, .val (.long v5), .second, .val (.int v11), .val (.int v17), .val (.int v23), .val (.int v25), .val (.int v27), .val (.int v29), .val (.int v35), .val (.int v41), .val (.int v47), .val (.int v53), .val (.int v61), .val (.int v69), .val (.int v77), .val (.long v98), .second, .unset, .unset, .unset, .unset, .unset, .unset, .unset] [(.long v104)])) _
        refine XS.lconst X72'.here hx rfl (hb hby at_279) ?_
        exact k
      exact fun t k => st108 _ k
    · repeat rw [if_neg hc271_107]
      have st109 : ∀ t, Steps p.tables e below (T72.setTop (mkF m 280 #[.val (.long q0), .second, .val (.long q1), .second, .val (.long q2), .second, .val (.int p3), .val (.int p4), .val (.int p5), .val (.long v1), .second, .val (.long v3), .second, .val (.long v5), .second, .val (.int v11), .val (.int v17), .val (.int v23), .val (.int v25), .val (.int v27), .val (.int v29), .val (.int v35), .val (.int v41), .val (.int v47), .val (.int v53), .val (.int v61), .val (.int v69), .val (.int v77), .val (.long v98), .second, .unset, .unset, .unset, .unset, .unset, .unset, .unset] [(.long v3), (.long v104)])) t → Steps p.tables e below (T72.setTop (mkF m 271 #[.val (.long q0), .second, .val (.long q1), .second, .val (.long q2), .second, .val (.int p3), .val (.int p4), .val (.int p5), .val (.long v1), .second, .val (.long v3), .second, .val (.long v5), .second, .val (.int v11), .val (.int v17), .val (.int v23), .val (.int v25), .val (.int v27), .val (.int v29), .val (.int v35), .val (.int v41), .val (.int v47), .val (.int v53), .val (.int v61), .val (.int v69), .val (.int v77), .val (.long v98), .second, .unset, .unset, .unset, .unset, .unset, .unset, .unset] [(.int v69), (.long v104)])) t := by
        intro t k
        show Steps p.tables e below (T72.setTop (mkF m 271 #[.val (.long q0), .second, .val (.long q1), .second, .val (.long q2), .second, .val (.int p3), .val (.int p4), .val (.int p5), .val (.long v1), .second, .val (.long v3), .second, .val (.long v5), .second, .val (.int v11), .val (.int v17), .val (.int v23), .val (.int v25), .val (.int v27), .val (.int v29), .val (.int v35), .val (.int v41), .val (.int v47), .val (.int v53), .val (.int v61), .val (.int v69), .val (.int v77), .val (.long v98), .second, .unset, .unset, .unset, .unset, .unset, .unset, .unset] [(.int v69), (.long v104)])) _
        refine XS.ifNo X72'.here hx rfl (hb hby at_271) rfl ((if0 _ _).trans (feq hc271_107).1) ?_
        show Steps p.tables e below (T72.setTop (mkF m 274 #[.val (.long q0), .second, .val (.long q1), .second, .val (.long q2), .second, .val (.int p3), .val (.int p4), .val (.int p5), .val (.long v1), .second, .val (.long v3), .second, .val (.long v5), .second, .val (.int v11), .val (.int v17), .val (.int v23), .val (.int v25), .val (.int v27), .val (.int v29), .val (.int v35), .val (.int v41), .val (.int v47), .val (.int v53), .val (.int v61), .val (.int v69), .val (.int v77), .val (.long v98), .second, .unset, .unset, .unset, .unset, .unset, .unset, .unset] [(.long v104)])) _
        refine XS.lload X72'.here hx rfl (hb hby at_274) rfl ?_
        show Steps p.tables e below (T72.setTop (mkF m 276 #[.val (.long q0), .second, .val (.long q1), .second, .val (.long q2), .second, .val (.int p3), .val (.int p4), .val (.int p5), .val (.long v1), .second, .val (.long v3), .second, .val (.long v5), .second, .val (.int v11), .val (.int v17), .val (.int v23), .val (.int v25), .val (.int v27), .val (.int v29), .val (.int v35), .val (.int v41), .val (.int v47), .val (.int v53), .val (.int v61), .val (.int v69), .val (.int v77), .val (.long v98), .second, .unset, .unset, .unset, .unset, .unset, .unset, .unset] [(.long v3), (.long v104)])) _
        refine XS.goto X72'.here hx rfl (pc0 := 276) (pc' := 280) rfl (hb hby at_276) (by decide) (by decide) ?_
        exact k
      exact fun t k => st109 _ k
  have st112 : ∀ t, Steps p.tables e below (T72.setTop (mkF m 283 #[.val (.long q0), .second, .val (.long q1), .second, .val (.long q2), .second, .val (.int p3), .val (.int p4), .val (.int p5), .val (.long v1), .second, .val (.long v3), .second, .val (.long v5), .second, .val (.int v11), .val (.int v17), .val (.int v23), .val (.int v25), .val (.int v27), .val (.int v29), .val (.int v35), .val (.int v41), .val (.int v47), .val (.int v53), .val (.int v61), .val (.int v69), .val (.int v77), .val (.long v98), .second, .unset, .unset, .unset, .unset, .unset, .unset, .unset] [(.int v77), (.long (v104 + v110))])) t → Steps p.tables e below (T72.setTop (mkF m 280 #[.val (.long q0), .second, .val (.long q1), .second, .val (.long q2), .second, .val (.int p3), .val (.int p4), .val (.int p5), .val (.long v1), .second, .val (.long v3), .second, .val (.long v5), .second, .val (.int v11), .val (.int v17), .val (.int v23), .val (.int v25), .val (.int v27), .val (.int v29), .val (.int v35), .val (.int v41), .val (.int v47), .val (.int v53), .val (.int v61), .val (.int v69), .val (.int v77), .val (.long v98), .second, .unset, .unset, .unset, .unset, .unset, .unset, .unset] [(.long v110), (.long v104)])) t := by
    intro t k
    show Steps p.tables e below (T72.setTop (mkF m 280 #[.val (.long q0), .second, .val (.long q1), .second, .val (.long q2), .second, .val (.int p3), .val (.int p4), .val (.int p5), .val (.long v1), .second, .val (.long v3), .second, .val (.long v5), .second, .val (.int v11), .val (.int v17), .val (.int v23), .val (.int v25), .val (.int v27), .val (.int v29), .val (.int v35), .val (.int v41), .val (.int v47), .val (.int v53), .val (.int v61), .val (.int v69), .val (.int v77), .val (.long v98), .second, .unset, .unset, .unset, .unset, .unset, .unset, .unset] [(.long v110), (.long v104)])) _
    refine XS.ladd X72'.here hx rfl (hb hby at_280) rfl ?_
    show Steps p.tables e below (T72.setTop (mkF m 281 #[.val (.long q0), .second, .val (.long q1), .second, .val (.long q2), .second, .val (.int p3), .val (.int p4), .val (.int p5), .val (.long v1), .second, .val (.long v3), .second, .val (.long v5), .second, .val (.int v11), .val (.int v17), .val (.int v23), .val (.int v25), .val (.int v27), .val (.int v29), .val (.int v35), .val (.int v41), .val (.int v47), .val (.int v53), .val (.int v61), .val (.int v69), .val (.int v77), .val (.long v98), .second, .unset, .unset, .unset, .unset, .unset, .unset, .unset] [(.long (v104 + v110))])) _
    refine XS.iload X72'.here hx rfl (hb hby at_281) rfl ?_
    exact k
  obtain ⟨v116, hv116⟩ : ∃ z : Int64, z = (if v77 = (0 : Int32) then (0 : Int64) else v5) := ⟨_, rfl⟩
  obtain ⟨v117, hv117⟩ : ∃ z : Int64, z = (v104 + v110) := ⟨_, rfl⟩
  have st118 : ∀ t, Steps p.tables e below (T72.setTop (mkF m 292 #[.val (.long q0), .second, .val (.long q1), .second, .val (.long q2), .second, .val (.int p3), .val (.int p4), .val (.int p5), .val (.long v1), .second, .val (.long v3), .second, .val (.long v5), .second, .val (.int v11), .val (.int v17), .val (.int v23), .val (.int v25), .val (.int v27), .val (.int v29), .val (.int v35), .val (.int v41), .val (.int v47), .val (.int v53), .val (.int v61), .val (.int v69), .val (.int v77), .val (.long v98), .second, .unset, .unset, .unset, .unset, .unset, .unset, .unset] [(.long v116), (.long v117)])) t → Steps p.tables e below (T72.setTop (mkF m 283 #[.val (.long q0), .second, .val (.long q1), .second, .val (.long q2), .second, .val (.int p3), .val (.int p4), .val (.int p5), .val (.long v1), .second, .val (.long v3), .second, .val (.long v5), .second, .val (.int v11), .val (.int v17), .val (.int v23), .val (.int v25), .val (.int v27), .val (.int v29), .val (.int v35), .val (.int v41), .val (.int v47), .val (.int v53), .val (.int v61), .val (.int v69), .val (.int v77), .val (.long v98), .second, .unset, .unset, .unset, .unset, .unset, .unset, .unset] [(.int v77), (.long (v104 + v110))])) t := by
    rw [hv116]
    rw [hv117]
    by_cases hc283_113 : v77 = (0 : Int32)
    · repeat rw [if_pos hc283_113]
      have st114 : ∀ t, Steps p.tables e below (T72.setTop (mkF m 292 #[.val (.long q0), .second, .val (.long q1), .second, .val (.long q2), .second, .val (.int p3), .val (.int p4), .val (.int p5), .val (.long v1), .second, .val (.long v3), .second, .val (.long v5), .second, .val (.int v11), .val (.int v17), .val (.int v23), .val (.int v25), .val (.int v27), .val (.int v29), .val (.int v35), .val (.int v41), .val (.int v47), .val (.int v53), .val (.int v61), .val (.int v69), .val (.int v77), .val (.long v98), .second, .unset, .unset, .unset, .unset, .unset, .unset, .unset] [(.long (0 : Int64)), (.long (v104 + v110))])) t → Steps p.tables e below (T72.setTop (mkF m 283 #[.val (.long q0), .second, .val (.long q1), .second, .val (.long q2), .second, .val (.int p3), .val (.int p4), .val (.int p5), .val (.long v1), .second, .val (.long v3), .second, .val (.long v5), .second, .val (.int v11), .val (.int v17), .val (.int v23), .val (.int v25), .val (.int v27), .val (.int v29), .val (.int v35), .val (.int v41), .val (.int v47), .val (.int v53), .val (.int v61), .val (.int v69), .val (.int v77), .val (.long v98), .second, .unset, .unset, .unset, .unset, .unset, .unset, .unset] [(.int v77), (.long (v104 + v110))])) t := by
        intro t k
        show Steps p.tables e below (T72.setTop (mkF m 283 #[.val (.long q0), .second, .val (.long q1), .second, .val (.long q2), .second, .val (.int p3), .val (.int p4), .val (.int p5), .val (.long v1), .second, .val (.long v3), .second, .val (.long v5), .second, .val (.int v11), .val (.int v17), .val (.int v23), .val (.int v25), .val (.int v27), .val (.int v29), .val (.int v35), .val (.int v41), .val (.int v47), .val (.int v53), .val (.int v61), .val (.int v69), .val (.int v77), .val (.long v98), .second, .unset, .unset, .unset, .unset, .unset, .unset, .unset] [(.int v77), (.long (v104 + v110))])) _
        refine XS.ifYes X72'.here hx rfl (pc0 := 283) (pc' := 291) rfl (hb hby at_283) rfl ((if0 _ _).trans (teq hc283_113).1) (by decide) (by decide) ?_
        show Steps p.tables e below (T72.setTop (mkF m 291 #[.val (.long q0), .second, .val (.long q1), .second, .val (.long q2), .second, .val (.int p3), .val (.int p4), .val (.int p5), .val (.long v1), .second, .val (.long v3), .second, .val (.long v5), .second, .val (.int v11), .val (.int v17), .val (.int v23), .val (.int v25), .val (.int v27), .val (.int v29), .val (.int v35), .val (.int v41), .val (.int v47), .val (.int v53), .val (.int v61), .val (.int v69), .val (.int v77), .val (.long v98), .second, .unset, .unset, .unset, .unset, .unset, .unset, .unset] [(.long (v104 + v110))])) _
        refine XS.lconst X72'.here hx rfl (hb hby at_291) ?_
        exact k
      exact fun t k => st114 _ k
    · repeat rw [if_neg hc283_113]
      have st115 : ∀ t, Steps p.tables e below (T72.setTop (mkF m 292 #[.val (.long q0), .second, .val (.long q1), .second, .val (.long q2), .second, .val (.int p3), .val (.int p4), .val (.int p5), .val (.long v1), .second, .val (.long v3), .second, .val (.long v5), .second, .val (.int v11), .val (.int v17), .val (.int v23), .val (.int v25), .val (.int v27), .val (.int v29), .val (.int v35), .val (.int v41), .val (.int v47), .val (.int v53), .val (.int v61), .val (.int v69), .val (.int v77), .val (.long v98), .second, .unset, .unset, .unset, .unset, .unset, .unset, .unset] [(.long v5), (.long (v104 + v110))])) t → Steps p.tables e below (T72.setTop (mkF m 283 #[.val (.long q0), .second, .val (.long q1), .second, .val (.long q2), .second, .val (.int p3), .val (.int p4), .val (.int p5), .val (.long v1), .second, .val (.long v3), .second, .val (.long v5), .second, .val (.int v11), .val (.int v17), .val (.int v23), .val (.int v25), .val (.int v27), .val (.int v29), .val (.int v35), .val (.int v41), .val (.int v47), .val (.int v53), .val (.int v61), .val (.int v69), .val (.int v77), .val (.long v98), .second, .unset, .unset, .unset, .unset, .unset, .unset, .unset] [(.int v77), (.long (v104 + v110))])) t := by
        intro t k
        show Steps p.tables e below (T72.setTop (mkF m 283 #[.val (.long q0), .second, .val (.long q1), .second, .val (.long q2), .second, .val (.int p3), .val (.int p4), .val (.int p5), .val (.long v1), .second, .val (.long v3), .second, .val (.long v5), .second, .val (.int v11), .val (.int v17), .val (.int v23), .val (.int v25), .val (.int v27), .val (.int v29), .val (.int v35), .val (.int v41), .val (.int v47), .val (.int v53), .val (.int v61), .val (.int v69), .val (.int v77), .val (.long v98), .second, .unset, .unset, .unset, .unset, .unset, .unset, .unset] [(.int v77), (.long (v104 + v110))])) _
        refine XS.ifNo X72'.here hx rfl (hb hby at_283) rfl ((if0 _ _).trans (feq hc283_113).1) ?_
        show Steps p.tables e below (T72.setTop (mkF m 286 #[.val (.long q0), .second, .val (.long q1), .second, .val (.long q2), .second, .val (.int p3), .val (.int p4), .val (.int p5), .val (.long v1), .second, .val (.long v3), .second, .val (.long v5), .second, .val (.int v11), .val (.int v17), .val (.int v23), .val (.int v25), .val (.int v27), .val (.int v29), .val (.int v35), .val (.int v41), .val (.int v47), .val (.int v53), .val (.int v61), .val (.int v69), .val (.int v77), .val (.long v98), .second, .unset, .unset, .unset, .unset, .unset, .unset, .unset] [(.long (v104 + v110))])) _
        refine XS.lload X72'.here hx rfl (hb hby at_286) rfl ?_
        show Steps p.tables e below (T72.setTop (mkF m 288 #[.val (.long q0), .second, .val (.long q1), .second, .val (.long q2), .second, .val (.int p3), .val (.int p4), .val (.int p5), .val (.long v1), .second, .val (.long v3), .second, .val (.long v5), .second, .val (.int v11), .val (.int v17), .val (.int v23), .val (.int v25), .val (.int v27), .val (.int v29), .val (.int v35), .val (.int v41), .val (.int v47), .val (.int v53), .val (.int v61), .val (.int v69), .val (.int v77), .val (.long v98), .second, .unset, .unset, .unset, .unset, .unset, .unset, .unset] [(.long v5), (.long (v104 + v110))])) _
        refine XS.goto X72'.here hx rfl (pc0 := 288) (pc' := 292) rfl (hb hby at_288) (by decide) (by decide) ?_
        exact k
      exact fun t k => st115 _ k
  obtain ⟨v119, hv119⟩ : ∃ z : Int64, z = (v117 + v116) := ⟨_, rfl⟩
  have st120 : ∀ t, Steps p.tables e below (T72.setTop (mkF m 295 #[.val (.long q0), .second, .val (.long q1), .second, .val (.long q2), .second, .val (.int p3), .val (.int p4), .val (.int p5), .val (.long v1), .second, .val (.long v3), .second, .val (.long v5), .second, .val (.int v11), .val (.int v17), .val (.int v23), .val (.int v25), .val (.int v27), .val (.int v29), .val (.int v35), .val (.int v41), .val (.int v47), .val (.int v53), .val (.int v61), .val (.int v69), .val (.int v77), .val (.long v98), .second, .val (.long v119), .second, .unset, .unset, .unset, .unset, .unset] [])) t → Steps p.tables e below (T72.setTop (mkF m 292 #[.val (.long q0), .second, .val (.long q1), .second, .val (.long q2), .second, .val (.int p3), .val (.int p4), .val (.int p5), .val (.long v1), .second, .val (.long v3), .second, .val (.long v5), .second, .val (.int v11), .val (.int v17), .val (.int v23), .val (.int v25), .val (.int v27), .val (.int v29), .val (.int v35), .val (.int v41), .val (.int v47), .val (.int v53), .val (.int v61), .val (.int v69), .val (.int v77), .val (.long v98), .second, .unset, .unset, .unset, .unset, .unset, .unset, .unset] [(.long v116), (.long v117)])) t := by
    rw [hv119]
    intro t k
    show Steps p.tables e below (T72.setTop (mkF m 292 #[.val (.long q0), .second, .val (.long q1), .second, .val (.long q2), .second, .val (.int p3), .val (.int p4), .val (.int p5), .val (.long v1), .second, .val (.long v3), .second, .val (.long v5), .second, .val (.int v11), .val (.int v17), .val (.int v23), .val (.int v25), .val (.int v27), .val (.int v29), .val (.int v35), .val (.int v41), .val (.int v47), .val (.int v53), .val (.int v61), .val (.int v69), .val (.int v77), .val (.long v98), .second, .unset, .unset, .unset, .unset, .unset, .unset, .unset] [(.long v116), (.long v117)])) _
    refine XS.ladd X72'.here hx rfl (hb hby at_292) rfl ?_
    show Steps p.tables e below (T72.setTop (mkF m 293 #[.val (.long q0), .second, .val (.long q1), .second, .val (.long q2), .second, .val (.int p3), .val (.int p4), .val (.int p5), .val (.long v1), .second, .val (.long v3), .second, .val (.long v5), .second, .val (.int v11), .val (.int v17), .val (.int v23), .val (.int v25), .val (.int v27), .val (.int v29), .val (.int v35), .val (.int v41), .val (.int v47), .val (.int v53), .val (.int v61), .val (.int v69), .val (.int v77), .val (.long v98), .second, .unset, .unset, .unset, .unset, .unset, .unset, .unset] [(.long (v117 + v116))])) _
    refine XS.lstore X72'.here hx rfl (hb hby at_293) rfl (l' := #[.val (.long q0), .second, .val (.long q1), .second, .val (.long q2), .second, .val (.int p3), .val (.int p4), .val (.int p5), .val (.long v1), .second, .val (.long v3), .second, .val (.long v5), .second, .val (.int v11), .val (.int v17), .val (.int v23), .val (.int v25), .val (.int v27), .val (.int v29), .val (.int v35), .val (.int v41), .val (.int v47), .val (.int v53), .val (.int v61), .val (.int v69), .val (.int v77), .val (.long v98), .second, .val (.long (v117 + v116)), .second, .unset, .unset, .unset, .unset, .unset]) rfl ?_
    exact k
  obtain ⟨T121, h121, b121, X121, e121, K121, q121, E121, D121, st121⟩ := own_new X72' hx hZ hown (hw _ (List.mem_of_getElem? (i := 6) rfl)) (hw _ (List.mem_of_getElem? (i := 7) rfl)) (hw _ (List.mem_of_getElem? (i := 8) rfl)) e72 (g := (mkF m 295 #[.val (.long q0), .second, .val (.long q1), .second, .val (.long q2), .second, .val (.int p3), .val (.int p4), .val (.int p5), .val (.long v1), .second, .val (.long v3), .second, .val (.long v5), .second, .val (.int v11), .val (.int v17), .val (.int v23), .val (.int v25), .val (.int v27), .val (.int v29), .val (.int v35), .val (.int v41), .val (.int v47), .val (.int v53), .val (.int v61), .val (.int v69), .val (.int v77), .val (.long v98), .second, .val (.long v119), .second, .unset, .unset, .unset, .unset, .unset] [])) rfl (hb hby at_295) (by decide) (by decide)
  have X121 : Stand p l e room_1 s m #[(.long q0), (.long q1), (.long q2), (.int p3), (.int p4), (.int p5)] below meth c T121 [] 1 2 := X121
  have F121_weights : Fld Z h121 b121 "com/example/evotempo/evotempo/problem/LinearFunction" "weights" "[J" .null := D121 (Or.inr (hw _ (List.mem_of_getElem? (i := 30) rfl))) (ty := (.array .long)) (by decide)
  have F121_optimum : Fld Z h121 b121 "com/example/evotempo/evotempo/problem/LinearFunction" "optimum" "J" (.long (0 : Int64)) := D121 (Or.inr (hw _ (List.mem_of_getElem? (i := 32) rfl))) (ty := .long) (by decide)
  have g_b121 : n0 ≤ b121 := Nat.le_trans Z0 q121
  have Zp122 : n0 ≤ h121.size := Nat.le_trans Z0 K121.1
  have st123 : ∀ t, Steps p.tables e below (T121.setTop (mkF m 300 #[.val (.long q0), .second, .val (.long q1), .second, .val (.long q2), .second, .val (.int p3), .val (.int p4), .val (.int p5), .val (.long v1), .second, .val (.long v3), .second, .val (.long v5), .second, .val (.int v11), .val (.int v17), .val (.int v23), .val (.int v25), .val (.int v27), .val (.int v29), .val (.int v35), .val (.int v41), .val (.int v47), .val (.int v53), .val (.int v61), .val (.int v69), .val (.int v77), .val (.long v98), .second, .val (.long v119), .second, .unset, .unset, .unset, .unset, .unset] [(.int (3 : Int32)), (.ref b121), (.ref b121)])) t → Steps p.tables e below (T121.setTop (mkF m 298 #[.val (.long q0), .second, .val (.long q1), .second, .val (.long q2), .second, .val (.int p3), .val (.int p4), .val (.int p5), .val (.long v1), .second, .val (.long v3), .second, .val (.long v5), .second, .val (.int v11), .val (.int v17), .val (.int v23), .val (.int v25), .val (.int v27), .val (.int v29), .val (.int v35), .val (.int v41), .val (.int v47), .val (.int v53), .val (.int v61), .val (.int v69), .val (.int v77), .val (.long v98), .second, .val (.long v119), .second, .unset, .unset, .unset, .unset, .unset] [(.ref b121)])) t := by
    intro t k
    show Steps p.tables e below (T121.setTop (mkF m 298 #[.val (.long q0), .second, .val (.long q1), .second, .val (.long q2), .second, .val (.int p3), .val (.int p4), .val (.int p5), .val (.long v1), .second, .val (.long v3), .second, .val (.long v5), .second, .val (.int v11), .val (.int v17), .val (.int v23), .val (.int v25), .val (.int v27), .val (.int v29), .val (.int v35), .val (.int v41), .val (.int v47), .val (.int v53), .val (.int v61), .val (.int v69), .val (.int v77), .val (.long v98), .second, .val (.long v119), .second, .unset, .unset, .unset, .unset, .unset] [(.ref b121)])) _
    refine XS.dup X121.here hx rfl (hb hby at_298) rfl rfl ?_
    show Steps p.tables e below (T121.setTop (mkF m 299 #[.val (.long q0), .second, .val (.long q1), .second, .val (.long q2), .second, .val (.int p3), .val (.int p4), .val (.int p5), .val (.long v1), .second, .val (.long v3), .second, .val (.long v5), .second, .val (.int v11), .val (.int v17), .val (.int v23), .val (.int v25), .val (.int v27), .val (.int v29), .val (.int v35), .val (.int v41), .val (.int v47), .val (.int v53), .val (.int v61), .val (.int v69), .val (.int v77), .val (.long v98), .second, .val (.long v119), .second, .unset, .unset, .unset, .unset, .unset] [(.ref b121), (.ref b121)])) _
    refine XS.iconst X121.here hx rfl (hb hby at_299) ?_
    exact k
  obtain ⟨T124, h124, b124, X124, e124, K124, q124, V124, Ex124, st124⟩ := own_newJE X121 hx hZ (hw _ (List.mem_of_getElem? (i := 9) rfl)) e121 (g := (mkF m 300 #[.val (.long q0), .second, .val (.long q1), .second, .val (.long q2), .second, .val (.int p3), .val (.int p4), .val (.int p5), .val (.long v1), .second, .val (.long v3), .second, .val (.long v5), .second, .val (.int v11), .val (.int v17), .val (.int v23), .val (.int v25), .val (.int v27), .val (.int v29), .val (.int v35), .val (.int v41), .val (.int v47), .val (.int v53), .val (.int v61), .val (.int v69), .val (.int v77), .val (.long v98), .second, .val (.long v119), .second, .unset, .unset, .unset, .unset, .unset] [(.int (3 : Int32)), (.ref b121), (.ref b121)])) rfl (hb hby at_300) rfl (3) (by decide) (cap := 3) (by decide) (by decide) (by decide) (by decide)
  have X124 : Stand p l e room_1 s m #[(.long q0), (.long q1), (.long q2), (.int p3), (.int p4), (.int p5)] below meth c T124 [] 2 5 := X124
  have V124 : own_JA Z h124 b124 ([(0 : Int64), (0 : Int64), (0 : Int64)] : List Int64) := V124
  have ne_b121_b124 : b121 ≠ b124 := own_ne E121.lt q124
  have g_b124 : n0 ≤ b124 := Nat.le_trans Zp122 q124
  have f125 : Exa Z h124 b121 "com/example/evotempo/evotempo/problem/LinearFunction" := E121.keep K124
  have f126 : Fld Z h124 b121 "com/example/evotempo/evotempo/problem/LinearFunction" "weights" "[J" .null := F121_weights.keep K124 nin0
  have f127 : Fld Z h124 b121 "com/example/evotempo/evotempo/problem/LinearFunction" "optimum" "J" (.long (0 : Int64)) := F121_optimum.keep K124 nin0
  have Zp128 : n0 ≤ h124.size := Nat.le_trans Zp122 K124.1
  have st129 : ∀ t, Steps p.tables e below (T124.setTop (mkF m 306 #[.val (.long q0), .second, .val (.long q1), .second, .val (.long q2), .second, .val (.int p3), .val (.int p4), .val (.int p5), .val (.long v1), .second, .val (.long v3), .second, .val (.long v5), .second, .val (.int v11), .val (.int v17), .val (.int v23), .val (.int v25), .val (.int v27), .val (.int v29), .val (.int v35), .val (.int v41), .val (.int v47), .val (.int v53), .val (.int v61), .val (.int v69), .val (.int v77), .val (.long v98), .second, .val (.long v119), .second, .unset, .unset, .unset, .unset, .unset] [(.long v1), (.int (0 : Int32)), (.ref b124), (.ref b124), (.ref b121), (.ref b121)])) t → Steps p.tables e below (T124.setTop (mkF m 302 #[.val (.long q0), .second, .val (.long q1), .second, .val (.long q2), .second, .val (.int p3), .val (.int p4), .val (.int p5), .val (.long v1), .second, .val (.long v3), .second, .val (.long v5), .second, .val (.int v11), .val (.int v17), .val (.int v23), .val (.int v25), .val (.int v27), .val (.int v29), .val (.int v35), .val (.int v41), .val (.int v47), .val (.int v53), .val (.int v61), .val (.int v69), .val (.int v77), .val (.long v98), .second, .val (.long v119), .second, .unset, .unset, .unset, .unset, .unset] [(.ref b124), (.ref b121), (.ref b121)])) t := by
    intro t k
    show Steps p.tables e below (T124.setTop (mkF m 302 #[.val (.long q0), .second, .val (.long q1), .second, .val (.long q2), .second, .val (.int p3), .val (.int p4), .val (.int p5), .val (.long v1), .second, .val (.long v3), .second, .val (.long v5), .second, .val (.int v11), .val (.int v17), .val (.int v23), .val (.int v25), .val (.int v27), .val (.int v29), .val (.int v35), .val (.int v41), .val (.int v47), .val (.int v53), .val (.int v61), .val (.int v69), .val (.int v77), .val (.long v98), .second, .val (.long v119), .second, .unset, .unset, .unset, .unset, .unset] [(.ref b124), (.ref b121), (.ref b121)])) _
    refine XS.dup X124.here hx rfl (hb hby at_302) rfl rfl ?_
    show Steps p.tables e below (T124.setTop (mkF m 303 #[.val (.long q0), .second, .val (.long q1), .second, .val (.long q2), .second, .val (.int p3), .val (.int p4), .val (.int p5), .val (.long v1), .second, .val (.long v3), .second, .val (.long v5), .second, .val (.int v11), .val (.int v17), .val (.int v23), .val (.int v25), .val (.int v27), .val (.int v29), .val (.int v35), .val (.int v41), .val (.int v47), .val (.int v53), .val (.int v61), .val (.int v69), .val (.int v77), .val (.long v98), .second, .val (.long v119), .second, .unset, .unset, .unset, .unset, .unset] [(.ref b124), (.ref b124), (.ref b121), (.ref b121)])) _
    refine XS.iconst X124.here hx rfl (hb hby at_303) ?_
    show Steps p.tables e below (T124.setTop (mkF m 304 #[.val (.long q0), .second, .val (.long q1), .second, .val (.long q2), .second, .val (.int p3), .val (.int p4), .val (.int p5), .val (.long v1), .second, .val (.long v3), .second, .val (.long v5), .second, .val (.int v11), .val (.int v17), .val (.int v23), .val (.int v25), .val (.int v27), .val (.int v29), .val (.int v35), .val (.int v41), .val (.int v47), .val (.int v53), .val (.int v61), .val (.int v69), .val (.int v77), .val (.long v98), .second, .val (.long v119), .second, .unset, .unset, .unset, .unset, .unset] [(.int (0 : Int32)), (.ref b124), (.ref b124), (.ref b121), (.ref b121)])) _
    refine XS.lload X124.here hx rfl (hb hby at_304) rfl ?_
    exact k
  obtain ⟨T130, h130, L130, X130, N130, e130, K130, V130, st130⟩ := own_lastoreJ X124 hx hZ N0 e124 V124 (j := (0 : Int32)) (own_in (m := 3) rfl (by decide)) g_b124 (g := (mkF m 306 #[.val (.long q0), .second, .val (.long q1), .second, .val (.long q2), .second, .val (.int p3), .val (.int p4), .val (.int p5), .val (.long v1), .second, .val (.long v3), .second, .val (.long v5), .second, .val (.int v11), .val (.int v17), .val (.int v23), .val (.int v25), .val (.int v27), .val (.int v29), .val (.int v35), .val (.int v41), .val (.int v47), .val (.int v53), .val (.int v61), .val (.int v69), .val (.int v77), .val (.long v98), .second, .val (.long v119), .second, .unset, .unset, .unset, .unset, .unset] [(.long v1), (.int (0 : Int32)), (.ref b124), (.ref b124), (.ref b121), (.ref b121)])) rfl rfl (hb hby at_306)
  have V130 : own_JA Z h130 b124 ([v1, (0 : Int64), (0 : Int64)] : List Int64) := V130
  have f131 : Exa Z h130 b121 "com/example/evotempo/evotempo/problem/LinearFunction" := f125.keep K130
  have f132 : Fld Z h130 b121 "com/example/evotempo/evotempo/problem/LinearFunction" "weights" "[J" .null := f126.keep K130 (ninS ne_b121_b124 nin0)
  have f133 : Fld Z h130 b121 "com/example/evotempo/evotempo/problem/LinearFunction" "optimum" "J" (.long (0 : Int64)) := f127.keep K130 (ninS ne_b121_b124 nin0)
  have f134 : Exa Z h130 b124 "[J" := Ex124.keep K130
  have Zp135 : n0 ≤ h130.size := Nat.le_trans Zp128 K130.1
  have st136 : ∀ t, Steps p.tables e below (T130.setTop (mkF m 311 #[.val (.long q0), .second, .val (.long q1), .second, .val (.long q2), .second, .val (.int p3), .val (.int p4), .val (.int p5), .val (.long v1), .second, .val (.long v3), .second, .val (.long v5), .second, .val (.int v11), .val (.int v17), .val (.int v23), .val (.int v25), .val (.int v27), .val (.int v29), .val (.int v35), .val (.int v41), .val (.int v47), .val (.int v53), .val (.int v61), .val (.int v69), .val (.int v77), .val (.long v98), .second, .val (.long v119), .second, .unset, .unset, .unset, .unset, .unset] [(.long v3), (.int (1 : Int32)), (.ref b124), (.ref b124), (.ref b121), (.ref b121)])) t → Steps p.tables e below (T130.setTop (mkF m 307 #[.val (.long q0), .second, .val (.long q1), .second, .val (.long q2), .second, .val (.int p3), .val (.int p4), .val (.int p5), .val (.long v1), .second, .val (.long v3), .second, .val (.long v5), .second, .val (.int v11), .val (.int v17), .val (.int v23), .val (.int v25), .val (.int v27), .val (.int v29), .val (.int v35), .val (.int v41), .val (.int v47), .val (.int v53), .val (.int v61), .val (.int v69), .val (.int v77), .val (.long v98), .second, .val (.long v119), .second, .unset, .unset, .unset, .unset, .unset] [(.ref b124), (.ref b121), (.ref b121)])) t := by
    intro t k
    show Steps p.tables e below (T130.setTop (mkF m 307 #[.val (.long q0), .second, .val (.long q1), .second, .val (.long q2), .second, .val (.int p3), .val (.int p4), .val (.int p5), .val (.long v1), .second, .val (.long v3), .second, .val (.long v5), .second, .val (.int v11), .val (.int v17), .val (.int v23), .val (.int v25), .val (.int v27), .val (.int v29), .val (.int v35), .val (.int v41), .val (.int v47), .val (.int v53), .val (.int v61), .val (.int v69), .val (.int v77), .val (.long v98), .second, .val (.long v119), .second, .unset, .unset, .unset, .unset, .unset] [(.ref b124), (.ref b121), (.ref b121)])) _
    refine XS.dup X130.here hx rfl (hb hby at_307) rfl rfl ?_
    show Steps p.tables e below (T130.setTop (mkF m 308 #[.val (.long q0), .second, .val (.long q1), .second, .val (.long q2), .second, .val (.int p3), .val (.int p4), .val (.int p5), .val (.long v1), .second, .val (.long v3), .second, .val (.long v5), .second, .val (.int v11), .val (.int v17), .val (.int v23), .val (.int v25), .val (.int v27), .val (.int v29), .val (.int v35), .val (.int v41), .val (.int v47), .val (.int v53), .val (.int v61), .val (.int v69), .val (.int v77), .val (.long v98), .second, .val (.long v119), .second, .unset, .unset, .unset, .unset, .unset] [(.ref b124), (.ref b124), (.ref b121), (.ref b121)])) _
    refine XS.iconst X130.here hx rfl (hb hby at_308) ?_
    show Steps p.tables e below (T130.setTop (mkF m 309 #[.val (.long q0), .second, .val (.long q1), .second, .val (.long q2), .second, .val (.int p3), .val (.int p4), .val (.int p5), .val (.long v1), .second, .val (.long v3), .second, .val (.long v5), .second, .val (.int v11), .val (.int v17), .val (.int v23), .val (.int v25), .val (.int v27), .val (.int v29), .val (.int v35), .val (.int v41), .val (.int v47), .val (.int v53), .val (.int v61), .val (.int v69), .val (.int v77), .val (.long v98), .second, .val (.long v119), .second, .unset, .unset, .unset, .unset, .unset] [(.int (1 : Int32)), (.ref b124), (.ref b124), (.ref b121), (.ref b121)])) _
    refine XS.lload X130.here hx rfl (hb hby at_309) rfl ?_
    exact k
  obtain ⟨T137, h137, L137, X137, N137, e137, K137, V137, st137⟩ := own_lastoreJ X130 hx hZ N130 e130 V130 (j := (1 : Int32)) (own_in (m := 3) rfl (by decide)) g_b124 (g := (mkF m 311 #[.val (.long q0), .second, .val (.long q1), .second, .val (.long q2), .second, .val (.int p3), .val (.int p4), .val (.int p5), .val (.long v1), .second, .val (.long v3), .second, .val (.long v5), .second, .val (.int v11), .val (.int v17), .val (.int v23), .val (.int v25), .val (.int v27), .val (.int v29), .val (.int v35), .val (.int v41), .val (.int v47), .val (.int v53), .val (.int v61), .val (.int v69), .val (.int v77), .val (.long v98), .second, .val (.long v119), .second, .unset, .unset, .unset, .unset, .unset] [(.long v3), (.int (1 : Int32)), (.ref b124), (.ref b124), (.ref b121), (.ref b121)])) rfl rfl (hb hby at_311)
  have V137 : own_JA Z h137 b124 ([v1, v3, (0 : Int64)] : List Int64) := V137
  have f138 : Exa Z h137 b121 "com/example/evotempo/evotempo/problem/LinearFunction" := f131.keep K137
  have f139 : Fld Z h137 b121 "com/example/evotempo/evotempo/problem/LinearFunction" "weights" "[J" .null := f132.keep K137 (ninS ne_b121_b124 nin0)
  have f140 : Fld Z h137 b121 "com/example/evotempo/evotempo/problem/LinearFunction" "optimum" "J" (.long (0 : Int64)) := f133.keep K137 (ninS ne_b121_b124 nin0)
  have f141 : Exa Z h137 b124 "[J" := f134.keep K137
  have Zp142 : n0 ≤ h137.size := Nat.le_trans Zp135 K137.1
  have st143 : ∀ t, Steps p.tables e below (T137.setTop (mkF m 316 #[.val (.long q0), .second, .val (.long q1), .second, .val (.long q2), .second, .val (.int p3), .val (.int p4), .val (.int p5), .val (.long v1), .second, .val (.long v3), .second, .val (.long v5), .second, .val (.int v11), .val (.int v17), .val (.int v23), .val (.int v25), .val (.int v27), .val (.int v29), .val (.int v35), .val (.int v41), .val (.int v47), .val (.int v53), .val (.int v61), .val (.int v69), .val (.int v77), .val (.long v98), .second, .val (.long v119), .second, .unset, .unset, .unset, .unset, .unset] [(.long v5), (.int (2 : Int32)), (.ref b124), (.ref b124), (.ref b121), (.ref b121)])) t → Steps p.tables e below (T137.setTop (mkF m 312 #[.val (.long q0), .second, .val (.long q1), .second, .val (.long q2), .second, .val (.int p3), .val (.int p4), .val (.int p5), .val (.long v1), .second, .val (.long v3), .second, .val (.long v5), .second, .val (.int v11), .val (.int v17), .val (.int v23), .val (.int v25), .val (.int v27), .val (.int v29), .val (.int v35), .val (.int v41), .val (.int v47), .val (.int v53), .val (.int v61), .val (.int v69), .val (.int v77), .val (.long v98), .second, .val (.long v119), .second, .unset, .unset, .unset, .unset, .unset] [(.ref b124), (.ref b121), (.ref b121)])) t := by
    intro t k
    show Steps p.tables e below (T137.setTop (mkF m 312 #[.val (.long q0), .second, .val (.long q1), .second, .val (.long q2), .second, .val (.int p3), .val (.int p4), .val (.int p5), .val (.long v1), .second, .val (.long v3), .second, .val (.long v5), .second, .val (.int v11), .val (.int v17), .val (.int v23), .val (.int v25), .val (.int v27), .val (.int v29), .val (.int v35), .val (.int v41), .val (.int v47), .val (.int v53), .val (.int v61), .val (.int v69), .val (.int v77), .val (.long v98), .second, .val (.long v119), .second, .unset, .unset, .unset, .unset, .unset] [(.ref b124), (.ref b121), (.ref b121)])) _
    refine XS.dup X137.here hx rfl (hb hby at_312) rfl rfl ?_
    show Steps p.tables e below (T137.setTop (mkF m 313 #[.val (.long q0), .second, .val (.long q1), .second, .val (.long q2), .second, .val (.int p3), .val (.int p4), .val (.int p5), .val (.long v1), .second, .val (.long v3), .second, .val (.long v5), .second, .val (.int v11), .val (.int v17), .val (.int v23), .val (.int v25), .val (.int v27), .val (.int v29), .val (.int v35), .val (.int v41), .val (.int v47), .val (.int v53), .val (.int v61), .val (.int v69), .val (.int v77), .val (.long v98), .second, .val (.long v119), .second, .unset, .unset, .unset, .unset, .unset] [(.ref b124), (.ref b124), (.ref b121), (.ref b121)])) _
    refine XS.iconst X137.here hx rfl (hb hby at_313) ?_
    show Steps p.tables e below (T137.setTop (mkF m 314 #[.val (.long q0), .second, .val (.long q1), .second, .val (.long q2), .second, .val (.int p3), .val (.int p4), .val (.int p5), .val (.long v1), .second, .val (.long v3), .second, .val (.long v5), .second, .val (.int v11), .val (.int v17), .val (.int v23), .val (.int v25), .val (.int v27), .val (.int v29), .val (.int v35), .val (.int v41), .val (.int v47), .val (.int v53), .val (.int v61), .val (.int v69), .val (.int v77), .val (.long v98), .second, .val (.long v119), .second, .unset, .unset, .unset, .unset, .unset] [(.int (2 : Int32)), (.ref b124), (.ref b124), (.ref b121), (.ref b121)])) _
    refine XS.lload X137.here hx rfl (hb hby at_314) rfl ?_
    exact k
  obtain ⟨T144, h144, L144, X144, N144, e144, K144, V144, st144⟩ := own_lastoreJ X137 hx hZ N137 e137 V137 (j := (2 : Int32)) (own_in (m := 3) rfl (by decide)) g_b124 (g := (mkF m 316 #[.val (.long q0), .second, .val (.long q1), .second, .val (.long q2), .second, .val (.int p3), .val (.int p4), .val (.int p5), .val (.long v1), .second, .val (.long v3), .second, .val (.long v5), .second, .val (.int v11), .val (.int v17), .val (.int v23), .val (.int v25), .val (.int v27), .val (.int v29), .val (.int v35), .val (.int v41), .val (.int v47), .val (.int v53), .val (.int v61), .val (.int v69), .val (.int v77), .val (.long v98), .second, .val (.long v119), .second, .unset, .unset, .unset, .unset, .unset] [(.long v5), (.int (2 : Int32)), (.ref b124), (.ref b124), (.ref b121), (.ref b121)])) rfl rfl (hb hby at_316)
  have V144 : own_JA Z h144 b124 ([v1, v3, v5] : List Int64) := V144
  have f145 : Exa Z h144 b121 "com/example/evotempo/evotempo/problem/LinearFunction" := f138.keep K144
  have f146 : Fld Z h144 b121 "com/example/evotempo/evotempo/problem/LinearFunction" "weights" "[J" .null := f139.keep K144 (ninS ne_b121_b124 nin0)
  have f147 : Fld Z h144 b121 "com/example/evotempo/evotempo/problem/LinearFunction" "optimum" "J" (.long (0 : Int64)) := f140.keep K144 (ninS ne_b121_b124 nin0)
  have f148 : Exa Z h144 b124 "[J" := f141.keep K144
  have Zp149 : n0 ≤ h144.size := Nat.le_trans Zp142 K144.1
  obtain ⟨_, _, ⟨T150, L150, k150, n150⟩, -, X150, ⟨Lc150, hQ150, l150, y150, z150⟩, st150⟩ := X144.specialBackH hx (y := (⟨"com/example/evotempo/evotempo/problem/LinearFunction", "<init>", "([J)V"⟩ : MethodName)) rfl hown (mvT hZ (hw _ (List.mem_of_getElem? (i := 10) rfl))) (mvT hZ (hw _ (List.mem_of_getElem? (i := 11) rfl))) (mvT hZ (hw _ (List.mem_of_getElem? (i := 12) rfl))) (by decide) (backOfWith (W := 1) (own_rm2 l Z a0 hw [] b121 b124 v1 v3 v5 h144 n0 Zp149 f145 f146 f147 f148 V144 g_b121 (Ne.symm ne_b121_b124) (own_h0_151 (q0 := q0) (q1 := q1) (q2 := q2) (p3 := p3) (p4 := p4) (p5 := p5) hv1 hv3 hv5 hv11 hv17 hv23 hv25 hv27 hv29 hv35 hv41 hv47 hv53 hv57 hv61 hv65 hv69 hv73 hv77 hv83 hv89 hv95 hv96 hv98 hv104 hv110 hv116 hv117 hv119) (own_h0_152 (q0 := q0) (q1 := q1) (q2 := q2) (p3 := p3) (p4 := p4) (p5 := p5) hv1 hv3 hv5 hv11 hv17 hv23 hv25 hv27 hv29 hv35 hv41 hv47 hv53 hv57 hv61 hv65 hv69 hv73 hv77 hv83 hv89 hv95 hv96 hv98 hv104 hv110 hv116 hv117 hv119) (own_h0_153 (q0 := q0) (q1 := q1) (q2 := q2) (p3 := p3) (p4 := p4) (p5 := p5) hv1 hv3 hv5 hv11 hv17 hv23 hv25 hv27 hv29 hv35 hv41 hv47 hv53 hv57 hv61 hv65 hv69 hv73 hv77 hv83 hv89 hv95 hv96 hv98 hv104 hv110 hv116 hv117 hv119) (own_h0_154 (q0 := q0) (q1 := q1) (q2 := q2) (p3 := p3) (p4 := p4) (p5 := p5) hv1 hv3 hv5 hv11 hv17 hv23 hv25 hv27 hv29 hv35 hv41 hv47 hv53 hv57 hv61 hv65 hv69 hv73 hv77 hv83 hv89 hv95 hv96 hv98 hv104 hv110 hv116 hv117 hv119) (own_h0_155 (q0 := q0) (q1 := q1) (q2 := q2) (p3 := p3) (p4 := p4) (p5 := p5) hv1 hv3 hv5 hv11 hv17 hv23 hv25 hv27 hv29 hv35 hv41 hv47 hv53 hv57 hv61 hv65 hv69 hv73 hv77 hv83 hv89 hv95 hv96 hv98 hv104 hv110 hv116 hv117 hv119) (own_h0_156 (q0 := q0) (q1 := q1) (q2 := q2) (p3 := p3) (p4 := p4) (p5 := p5) hv1 hv3 hv5 hv11 hv17 hv23 hv25 hv27 hv29 hv35 hv41 hv47 hv53 hv57 hv61 hv65 hv69 hv73 hv77 hv83 hv89 hv95 hv96 hv98 hv104 hv110 hv116 hv117 hv119)) hZ (hw _ (List.mem_of_getElem? (i := 12) rfl)) (hw _ (List.mem_of_getElem? (i := 8) rfl)) (by decide) (by decide)) (g := (mkF m 317 #[.val (.long q0), .second, .val (.long q1), .second, .val (.long q2), .second, .val (.int p3), .val (.int p4), .val (.int p5), .val (.long v1), .second, .val (.long v3), .second, .val (.long v5), .second, .val (.int v11), .val (.int v17), .val (.int v23), .val (.int v25), .val (.int v27), .val (.int v29), .val (.int v35), .val (.int v41), .val (.int v47), .val (.int v53), .val (.int v61), .val (.int v69), .val (.int v77), .val (.long v98), .second, .val (.long v119), .second, .unset, .unset, .unset, .unset, .unset] [(.ref b124), (.ref b121), (.ref b121)])) rfl (by rw [hml]; rfl) (Steps.refl _) (a := b121) (argsL := [(.ref b124)]) (rest := [(.ref b121)]) (lenOf own_pd2 rfl) rfl (by show 2 * 0 + _ ≤ _; exact Nat.le_of_eq rfl) (hb hby at_317) (fun _ _ => ⟨rfl, e144, (by decide : 2 + 1 ≤ _), (by decide : 5 + 3 ≤ _)⟩)
  dsimp only [Pt.U, Pt.locs, Pt.cells, Pt.slots] at X150 l150 y150 z150 st150 hQ150
  subst y150 z150
  obtain ⟨b150, rfl, Nq150, K150, q150, Q150_0, Q150_1, Q150_2, -⟩ := hQ150
  have N150 : Fr n0 L150 := by rw [l150]; exact Fr.app N144 Nq150
  have X150' : Stand p l e room_1 s m #[(.long q0), (.long q1), (.long q2), (.int p3), (.int p4), (.int p5)] below meth c T150 L150 3 8 := X150
  have ne_b121_b150 : b121 ≠ b150 := own_ne f145.lt q150
  have ne_b124_b150 : b124 ≠ b150 := own_ne f148.lt q150
  have g_b150 : n0 ≤ b150 := Nat.le_trans Zp149 q150
  have f157 : Exa Z T150.heap b124 "[J" := f148.keep K150
  have f158 : own_JA Z T150.heap b124 ([v1, v3, v5] : List Int64) := V144.keep K150 (ninS (Ne.symm ne_b121_b124) nin0)
  have Zp159 : n0 ≤ T150.heap.size := Nat.le_trans Zp149 K150.1
  have st150 : ∀ t, Steps p.tables e below (T150.setTop (mkF m 320 #[.val (.long q0), .second, .val (.long q1), .second, .val (.long q2), .second, .val (.int p3), .val (.int p4), .val (.int p5), .val (.long v1), .second, .val (.long v3), .second, .val (.long v5), .second, .val (.int v11), .val (.int v17), .val (.int v23), .val (.int v25), .val (.int v27), .val (.int v29), .val (.int v35), .val (.int v41), .val (.int v47), .val (.int v53), .val (.int v61), .val (.int v69), .val (.int v77), .val (.long v98), .second, .val (.long v119), .second, .unset, .unset, .unset, .unset, .unset] [(.ref b121)])) t → Steps p.tables e below (T144.setTop (mkF m 317 #[.val (.long q0), .second, .val (.long q1), .second, .val (.long q2), .second, .val (.int p3), .val (.int p4), .val (.int p5), .val (.long v1), .second, .val (.long v3), .second, .val (.long v5), .second, .val (.int v11), .val (.int v17), .val (.int v23), .val (.int v25), .val (.int v27), .val (.int v29), .val (.int v35), .val (.int v41), .val (.int v47), .val (.int v53), .val (.int v61), .val (.int v69), .val (.int v77), .val (.long v98), .second, .val (.long v119), .second, .unset, .unset, .unset, .unset, .unset] [(.ref b124), (.ref b121), (.ref b121)])) t := fun t k => st150.trans k
  have st160 : ∀ t, Steps p.tables e below (T150.setTop (mkF m 323 #[.val (.long q0), .second, .val (.long q1), .second, .val (.long q2), .second, .val (.int p3), .val (.int p4), .val (.int p5), .val (.long v1), .second, .val (.long v3), .second, .val (.long v5), .second, .val (.int v11), .val (.int v17), .val (.int v23), .val (.int v25), .val (.int v27), .val (.int v29), .val (.int v35), .val (.int v41), .val (.int v47), .val (.int v53), .val (.int v61), .val (.int v69), .val (.int v77), .val (.long v98), .second, .val (.long v119), .second, .val (.ref b121), .unset, .unset, .unset, .unset] [(.int (3 : Int32))])) t → Steps p.tables e below (T150.setTop (mkF m 320 #[.val (.long q0), .second, .val (.long q1), .second, .val (.long q2), .second, .val (.int p3), .val (.int p4), .val (.int p5), .val (.long v1), .second, .val (.long v3), .second, .val (.long v5), .second, .val (.int v11), .val (.int v17), .val (.int v23), .val (.int v25), .val (.int v27), .val (.int v29), .val (.int v35), .val (.int v41), .val (.int v47), .val (.int v53), .val (.int v61), .val (.int v69), .val (.int v77), .val (.long v98), .second, .val (.long v119), .second, .unset, .unset, .unset, .unset, .unset] [(.ref b121)])) t := by
    intro t k
    show Steps p.tables e below (T150.setTop (mkF m 320 #[.val (.long q0), .second, .val (.long q1), .second, .val (.long q2), .second, .val (.int p3), .val (.int p4), .val (.int p5), .val (.long v1), .second, .val (.long v3), .second, .val (.long v5), .second, .val (.int v11), .val (.int v17), .val (.int v23), .val (.int v25), .val (.int v27), .val (.int v29), .val (.int v35), .val (.int v41), .val (.int v47), .val (.int v53), .val (.int v61), .val (.int v69), .val (.int v77), .val (.long v98), .second, .val (.long v119), .second, .unset, .unset, .unset, .unset, .unset] [(.ref b121)])) _
    refine XS.astore X150'.here hx rfl (hb hby at_320) rfl rfl (l' := #[.val (.long q0), .second, .val (.long q1), .second, .val (.long q2), .second, .val (.int p3), .val (.int p4), .val (.int p5), .val (.long v1), .second, .val (.long v3), .second, .val (.long v5), .second, .val (.int v11), .val (.int v17), .val (.int v23), .val (.int v25), .val (.int v27), .val (.int v29), .val (.int v35), .val (.int v41), .val (.int v47), .val (.int v53), .val (.int v61), .val (.int v69), .val (.int v77), .val (.long v98), .second, .val (.long v119), .second, .val (.ref b121), .unset, .unset, .unset, .unset]) rfl ?_
    show Steps p.tables e below (T150.setTop (mkF m 322 #[.val (.long q0), .second, .val (.long q1), .second, .val (.long q2), .second, .val (.int p3), .val (.int p4), .val (.int p5), .val (.long v1), .second, .val (.long v3), .second, .val (.long v5), .second, .val (.int v11), .val (.int v17), .val (.int v23), .val (.int v25), .val (.int v27), .val (.int v29), .val (.int v35), .val (.int v41), .val (.int v47), .val (.int v53), .val (.int v61), .val (.int v69), .val (.int v77), .val (.long v98), .second, .val (.long v119), .second, .val (.ref b121), .unset, .unset, .unset, .unset] [])) _
    refine XS.iconst X150'.here hx rfl (hb hby at_322) ?_
    exact k
  obtain ⟨T161, h161, b161, X161, e161, K161, q161, V161, st161⟩ := own_newA X150' hx hZ (ty := .boolean) rfl (hw _ (List.mem_of_getElem? (i := 33) rfl)) rfl (rfl : T150.heap = T150.heap) (g := (mkF m 323 #[.val (.long q0), .second, .val (.long q1), .second, .val (.long q2), .second, .val (.int p3), .val (.int p4), .val (.int p5), .val (.long v1), .second, .val (.long v3), .second, .val (.long v5), .second, .val (.int v11), .val (.int v17), .val (.int v23), .val (.int v25), .val (.int v27), .val (.int v29), .val (.int v35), .val (.int v41), .val (.int v47), .val (.int v53), .val (.int v61), .val (.int v69), .val (.int v77), .val (.long v98), .second, .val (.long v119), .second, .val (.ref b121), .unset, .unset, .unset, .unset] [(.int (3 : Int32))])) rfl (hb hby at_323) rfl (3) (by decide) (cap := 3) (by decide) (by decide) (by decide) (by decide)
  have X161 : Stand p l e room_1 s m #[(.long q0), (.long q1), (.long q2), (.int p3), (.int p4), (.int p5)] below meth c T161 L150 4 11 := X161
  have V161 : own_IA Z h161 b161 .boolean ([(0 : Int32), (0 : Int32), (0 : Int32)] : List Int32) := V161
  have ne_b124_b161 : b124 ≠ b161 := own_ne f157.lt q161
  have ne_b121_b161 : b121 ≠ b161 := own_ne Q150_0.lt q161
  have ne_b150_b161 : b150 ≠ b161 := own_ne Q150_2.lt q161
  have g_b161 : n0 ≤ b161 := Nat.le_trans Zp159 q161
  have f162 : Exa Z h161 b124 "[J" := f157.keep K161
  have f163 : own_JA Z h161 b124 ([v1, v3, v5] : List Int64) := f158.keep K161 nin0
  have f164 : Exa Z h161 b121 "com/example/evotempo/evotempo/problem/LinearFunction" := Q150_0.keep K161
  have f165 : Fld Z h161 b121 "com/example/evotempo/evotempo/problem/LinearFunction" "weights" "[J" (.ref b150) := Q150_1.keep K161 nin0
  have f166 : own_JA Z h161 b150 ([v1, v3, v5] : List Int64) := Q150_2.keep K161 nin0
  have Zp167 : n0 ≤ h161.size := Nat.le_trans Zp159 K161.1
  have st168 : ∀ t, Steps p.tables e below (T161.setTop (mkF m 329 #[.val (.long q0), .second, .val (.long q1), .second, .val (.long q2), .second, .val (.int p3), .val (.int p4), .val (.int p5), .val (.long v1), .second, .val (.long v3), .second, .val (.long v5), .second, .val (.int v11), .val (.int v17), .val (.int v23), .val (.int v25), .val (.int v27), .val (.int v29), .val (.int v35), .val (.int v41), .val (.int v47), .val (.int v53), .val (.int v61), .val (.int v69), .val (.int v77), .val (.long v98), .second, .val (.long v119), .second, .val (.ref b121), .unset, .unset, .unset, .unset] [(.int v11), (.int (0 : Int32)), (.ref b161), (.ref b161)])) t → Steps p.tables e below (T161.setTop (mkF m 325 #[.val (.long q0), .second, .val (.long q1), .second, .val (.long q2), .second, .val (.int p3), .val (.int p4), .val (.int p5), .val (.long v1), .second, .val (.long v3), .second, .val (.long v5), .second, .val (.int v11), .val (.int v17), .val (.int v23), .val (.int v25), .val (.int v27), .val (.int v29), .val (.int v35), .val (.int v41), .val (.int v47), .val (.int v53), .val (.int v61), .val (.int v69), .val (.int v77), .val (.long v98), .second, .val (.long v119), .second, .val (.ref b121), .unset, .unset, .unset, .unset] [(.ref b161)])) t := by
    intro t k
    show Steps p.tables e below (T161.setTop (mkF m 325 #[.val (.long q0), .second, .val (.long q1), .second, .val (.long q2), .second, .val (.int p3), .val (.int p4), .val (.int p5), .val (.long v1), .second, .val (.long v3), .second, .val (.long v5), .second, .val (.int v11), .val (.int v17), .val (.int v23), .val (.int v25), .val (.int v27), .val (.int v29), .val (.int v35), .val (.int v41), .val (.int v47), .val (.int v53), .val (.int v61), .val (.int v69), .val (.int v77), .val (.long v98), .second, .val (.long v119), .second, .val (.ref b121), .unset, .unset, .unset, .unset] [(.ref b161)])) _
    refine XS.dup X161.here hx rfl (hb hby at_325) rfl rfl ?_
    show Steps p.tables e below (T161.setTop (mkF m 326 #[.val (.long q0), .second, .val (.long q1), .second, .val (.long q2), .second, .val (.int p3), .val (.int p4), .val (.int p5), .val (.long v1), .second, .val (.long v3), .second, .val (.long v5), .second, .val (.int v11), .val (.int v17), .val (.int v23), .val (.int v25), .val (.int v27), .val (.int v29), .val (.int v35), .val (.int v41), .val (.int v47), .val (.int v53), .val (.int v61), .val (.int v69), .val (.int v77), .val (.long v98), .second, .val (.long v119), .second, .val (.ref b121), .unset, .unset, .unset, .unset] [(.ref b161), (.ref b161)])) _
    refine XS.iconst X161.here hx rfl (hb hby at_326) ?_
    show Steps p.tables e below (T161.setTop (mkF m 327 #[.val (.long q0), .second, .val (.long q1), .second, .val (.long q2), .second, .val (.int p3), .val (.int p4), .val (.int p5), .val (.long v1), .second, .val (.long v3), .second, .val (.long v5), .second, .val (.int v11), .val (.int v17), .val (.int v23), .val (.int v25), .val (.int v27), .val (.int v29), .val (.int v35), .val (.int v41), .val (.int v47), .val (.int v53), .val (.int v61), .val (.int v69), .val (.int v77), .val (.long v98), .second, .val (.long v119), .second, .val (.ref b121), .unset, .unset, .unset, .unset] [(.int (0 : Int32)), (.ref b161), (.ref b161)])) _
    refine XS.iload X161.here hx rfl (hb hby at_327) rfl ?_
    exact k
  obtain ⟨T169, h169, L169, X169, N169, e169, K169, V169, st169⟩ := own_bastoreZ X161 hx hZ N150 e161 V161 (j := (0 : Int32)) (own_in (m := 3) rfl (by decide)) g_b161 (g := (mkF m 329 #[.val (.long q0), .second, .val (.long q1), .second, .val (.long q2), .second, .val (.int p3), .val (.int p4), .val (.int p5), .val (.long v1), .second, .val (.long v3), .second, .val (.long v5), .second, .val (.int v11), .val (.int v17), .val (.int v23), .val (.int v25), .val (.int v27), .val (.int v29), .val (.int v35), .val (.int v41), .val (.int v47), .val (.int v53), .val (.int v61), .val (.int v69), .val (.int v77), .val (.long v98), .second, .val (.long v119), .second, .val (.ref b121), .unset, .unset, .unset, .unset] [(.int v11), (.int (0 : Int32)), (.ref b161), (.ref b161)])) rfl rfl (hb hby at_329)
  have V169 : own_IA Z h169 b161 .boolean ([(nar .boolean v11), (0 : Int32), (0 : Int32)] : List Int32) := V169
  have f170 : Exa Z h169 b124 "[J" := f162.keep K169
  have f171 : own_JA Z h169 b124 ([v1, v3, v5] : List Int64) := f163.keep K169 (ninS ne_b124_b161 nin0)
  have f172 : Exa Z h169 b121 "com/example/evotempo/evotempo/problem/LinearFunction" := f164.keep K169
  have f173 : Fld Z h169 b121 "com/example/evotempo/evotempo/problem/LinearFunction" "weights" "[J" (.ref b150) := f165.keep K169 (ninS ne_b121_b161 nin0)
  have f174 : own_JA Z h169 b150 ([v1, v3, v5] : List Int64) := f166.keep K169 (ninS ne_b150_b161 nin0)
  have Zp175 : n0 ≤ h169.size := Nat.le_trans Zp167 K169.1
  have st176 : ∀ t, Steps p.tables e below (T169.setTop (mkF m 334 #[.val (.long q0), .second, .val (.long q1), .second, .val (.long q2), .second, .val (.int p3), .val (.int p4), .val (.int p5), .val (.long v1), .second, .val (.long v3), .second, .val (.long v5), .second, .val (.int v11), .val (.int v17), .val (.int v23), .val (.int v25), .val (.int v27), .val (.int v29), .val (.int v35), .val (.int v41), .val (.int v47), .val (.int v53), .val (.int v61), .val (.int v69), .val (.int v77), .val (.long v98), .second, .val (.long v119), .second, .val (.ref b121), .unset, .unset, .unset, .unset] [(.int v17), (.int (1 : Int32)), (.ref b161), (.ref b161)])) t → Steps p.tables e below (T169.setTop (mkF m 330 #[.val (.long q0), .second, .val (.long q1), .second, .val (.long q2), .second, .val (.int p3), .val (.int p4), .val (.int p5), .val (.long v1), .second, .val (.long v3), .second, .val (.long v5), .second, .val (.int v11), .val (.int v17), .val (.int v23), .val (.int v25), .val (.int v27), .val (.int v29), .val (.int v35), .val (.int v41), .val (.int v47), .val (.int v53), .val (.int v61), .val (.int v69), .val (.int v77), .val (.long v98), .second, .val (.long v119), .second, .val (.ref b121), .unset, .unset, .unset, .unset] [(.ref b161)])) t := by
    intro t k
    show Steps p.tables e below (T169.setTop (mkF m 330 #[.val (.long q0), .second, .val (.long q1), .second, .val (.long q2), .second, .val (.int p3), .val (.int p4), .val (.int p5), .val (.long v1), .second, .val (.long v3), .second, .val (.long v5), .second, .val (.int v11), .val (.int v17), .val (.int v23), .val (.int v25), .val (.int v27), .val (.int v29), .val (.int v35), .val (.int v41), .val (.int v47), .val (.int v53), .val (.int v61), .val (.int v69), .val (.int v77), .val (.long v98), .second, .val (.long v119), .second, .val (.ref b121), .unset, .unset, .unset, .unset] [(.ref b161)])) _
    refine XS.dup X169.here hx rfl (hb hby at_330) rfl rfl ?_
    show Steps p.tables e below (T169.setTop (mkF m 331 #[.val (.long q0), .second, .val (.long q1), .second, .val (.long q2), .second, .val (.int p3), .val (.int p4), .val (.int p5), .val (.long v1), .second, .val (.long v3), .second, .val (.long v5), .second, .val (.int v11), .val (.int v17), .val (.int v23), .val (.int v25), .val (.int v27), .val (.int v29), .val (.int v35), .val (.int v41), .val (.int v47), .val (.int v53), .val (.int v61), .val (.int v69), .val (.int v77), .val (.long v98), .second, .val (.long v119), .second, .val (.ref b121), .unset, .unset, .unset, .unset] [(.ref b161), (.ref b161)])) _
    refine XS.iconst X169.here hx rfl (hb hby at_331) ?_
    show Steps p.tables e below (T169.setTop (mkF m 332 #[.val (.long q0), .second, .val (.long q1), .second, .val (.long q2), .second, .val (.int p3), .val (.int p4), .val (.int p5), .val (.long v1), .second, .val (.long v3), .second, .val (.long v5), .second, .val (.int v11), .val (.int v17), .val (.int v23), .val (.int v25), .val (.int v27), .val (.int v29), .val (.int v35), .val (.int v41), .val (.int v47), .val (.int v53), .val (.int v61), .val (.int v69), .val (.int v77), .val (.long v98), .second, .val (.long v119), .second, .val (.ref b121), .unset, .unset, .unset, .unset] [(.int (1 : Int32)), (.ref b161), (.ref b161)])) _
    refine XS.iload X169.here hx rfl (hb hby at_332) rfl ?_
    exact k
  obtain ⟨T177, h177, L177, X177, N177, e177, K177, V177, st177⟩ := own_bastoreZ X169 hx hZ N169 e169 V169 (j := (1 : Int32)) (own_in (m := 3) rfl (by decide)) g_b161 (g := (mkF m 334 #[.val (.long q0), .second, .val (.long q1), .second, .val (.long q2), .second, .val (.int p3), .val (.int p4), .val (.int p5), .val (.long v1), .second, .val (.long v3), .second, .val (.long v5), .second, .val (.int v11), .val (.int v17), .val (.int v23), .val (.int v25), .val (.int v27), .val (.int v29), .val (.int v35), .val (.int v41), .val (.int v47), .val (.int v53), .val (.int v61), .val (.int v69), .val (.int v77), .val (.long v98), .second, .val (.long v119), .second, .val (.ref b121), .unset, .unset, .unset, .unset] [(.int v17), (.int (1 : Int32)), (.ref b161), (.ref b161)])) rfl rfl (hb hby at_334)
  have V177 : own_IA Z h177 b161 .boolean ([(nar .boolean v11), (nar .boolean v17), (0 : Int32)] : List Int32) := V177
  have f178 : Exa Z h177 b124 "[J" := f170.keep K177
  have f179 : own_JA Z h177 b124 ([v1, v3, v5] : List Int64) := f171.keep K177 (ninS ne_b124_b161 nin0)
  have f180 : Exa Z h177 b121 "com/example/evotempo/evotempo/problem/LinearFunction" := f172.keep K177
  have f181 : Fld Z h177 b121 "com/example/evotempo/evotempo/problem/LinearFunction" "weights" "[J" (.ref b150) := f173.keep K177 (ninS ne_b121_b161 nin0)
  have f182 : own_JA Z h177 b150 ([v1, v3, v5] : List Int64) := f174.keep K177 (ninS ne_b150_b161 nin0)
  have Zp183 : n0 ≤ h177.size := Nat.le_trans Zp175 K177.1
  have st184 : ∀ t, Steps p.tables e below (T177.setTop (mkF m 339 #[.val (.long q0), .second, .val (.long q1), .second, .val (.long q2), .second, .val (.int p3), .val (.int p4), .val (.int p5), .val (.long v1), .second, .val (.long v3), .second, .val (.long v5), .second, .val (.int v11), .val (.int v17), .val (.int v23), .val (.int v25), .val (.int v27), .val (.int v29), .val (.int v35), .val (.int v41), .val (.int v47), .val (.int v53), .val (.int v61), .val (.int v69), .val (.int v77), .val (.long v98), .second, .val (.long v119), .second, .val (.ref b121), .unset, .unset, .unset, .unset] [(.int v23), (.int (2 : Int32)), (.ref b161), (.ref b161)])) t → Steps p.tables e below (T177.setTop (mkF m 335 #[.val (.long q0), .second, .val (.long q1), .second, .val (.long q2), .second, .val (.int p3), .val (.int p4), .val (.int p5), .val (.long v1), .second, .val (.long v3), .second, .val (.long v5), .second, .val (.int v11), .val (.int v17), .val (.int v23), .val (.int v25), .val (.int v27), .val (.int v29), .val (.int v35), .val (.int v41), .val (.int v47), .val (.int v53), .val (.int v61), .val (.int v69), .val (.int v77), .val (.long v98), .second, .val (.long v119), .second, .val (.ref b121), .unset, .unset, .unset, .unset] [(.ref b161)])) t := by
    intro t k
    show Steps p.tables e below (T177.setTop (mkF m 335 #[.val (.long q0), .second, .val (.long q1), .second, .val (.long q2), .second, .val (.int p3), .val (.int p4), .val (.int p5), .val (.long v1), .second, .val (.long v3), .second, .val (.long v5), .second, .val (.int v11), .val (.int v17), .val (.int v23), .val (.int v25), .val (.int v27), .val (.int v29), .val (.int v35), .val (.int v41), .val (.int v47), .val (.int v53), .val (.int v61), .val (.int v69), .val (.int v77), .val (.long v98), .second, .val (.long v119), .second, .val (.ref b121), .unset, .unset, .unset, .unset] [(.ref b161)])) _
    refine XS.dup X177.here hx rfl (hb hby at_335) rfl rfl ?_
    show Steps p.tables e below (T177.setTop (mkF m 336 #[.val (.long q0), .second, .val (.long q1), .second, .val (.long q2), .second, .val (.int p3), .val (.int p4), .val (.int p5), .val (.long v1), .second, .val (.long v3), .second, .val (.long v5), .second, .val (.int v11), .val (.int v17), .val (.int v23), .val (.int v25), .val (.int v27), .val (.int v29), .val (.int v35), .val (.int v41), .val (.int v47), .val (.int v53), .val (.int v61), .val (.int v69), .val (.int v77), .val (.long v98), .second, .val (.long v119), .second, .val (.ref b121), .unset, .unset, .unset, .unset] [(.ref b161), (.ref b161)])) _
    refine XS.iconst X177.here hx rfl (hb hby at_336) ?_
    show Steps p.tables e below (T177.setTop (mkF m 337 #[.val (.long q0), .second, .val (.long q1), .second, .val (.long q2), .second, .val (.int p3), .val (.int p4), .val (.int p5), .val (.long v1), .second, .val (.long v3), .second, .val (.long v5), .second, .val (.int v11), .val (.int v17), .val (.int v23), .val (.int v25), .val (.int v27), .val (.int v29), .val (.int v35), .val (.int v41), .val (.int v47), .val (.int v53), .val (.int v61), .val (.int v69), .val (.int v77), .val (.long v98), .second, .val (.long v119), .second, .val (.ref b121), .unset, .unset, .unset, .unset] [(.int (2 : Int32)), (.ref b161), (.ref b161)])) _
    refine XS.iload X177.here hx rfl (hb hby at_337) rfl ?_
    exact k
  obtain ⟨T185, h185, L185, X185, N185, e185, K185, V185, st185⟩ := own_bastoreZ X177 hx hZ N177 e177 V177 (j := (2 : Int32)) (own_in (m := 3) rfl (by decide)) g_b161 (g := (mkF m 339 #[.val (.long q0), .second, .val (.long q1), .second, .val (.long q2), .second, .val (.int p3), .val (.int p4), .val (.int p5), .val (.long v1), .second, .val (.long v3), .second, .val (.long v5), .second, .val (.int v11), .val (.int v17), .val (.int v23), .val (.int v25), .val (.int v27), .val (.int v29), .val (.int v35), .val (.int v41), .val (.int v47), .val (.int v53), .val (.int v61), .val (.int v69), .val (.int v77), .val (.long v98), .second, .val (.long v119), .second, .val (.ref b121), .unset, .unset, .unset, .unset] [(.int v23), (.int (2 : Int32)), (.ref b161), (.ref b161)])) rfl rfl (hb hby at_339)
  have V185 : own_IA Z h185 b161 .boolean ([(nar .boolean v11), (nar .boolean v17), (nar .boolean v23)] : List Int32) := V185
  have f186 : Exa Z h185 b124 "[J" := f178.keep K185
  have f187 : own_JA Z h185 b124 ([v1, v3, v5] : List Int64) := f179.keep K185 (ninS ne_b124_b161 nin0)
  have f188 : Exa Z h185 b121 "com/example/evotempo/evotempo/problem/LinearFunction" := f180.keep K185
  have f189 : Fld Z h185 b121 "com/example/evotempo/evotempo/problem/LinearFunction" "weights" "[J" (.ref b150) := f181.keep K185 (ninS ne_b121_b161 nin0)
  have f190 : own_JA Z h185 b150 ([v1, v3, v5] : List Int64) := f182.keep K185 (ninS ne_b150_b161 nin0)
  have Zp191 : n0 ≤ h185.size := Nat.le_trans Zp183 K185.1
  have st192 : ∀ t, Steps p.tables e below (T185.setTop (mkF m 343 #[.val (.long q0), .second, .val (.long q1), .second, .val (.long q2), .second, .val (.int p3), .val (.int p4), .val (.int p5), .val (.long v1), .second, .val (.long v3), .second, .val (.long v5), .second, .val (.int v11), .val (.int v17), .val (.int v23), .val (.int v25), .val (.int v27), .val (.int v29), .val (.int v35), .val (.int v41), .val (.int v47), .val (.int v53), .val (.int v61), .val (.int v69), .val (.int v77), .val (.long v98), .second, .val (.long v119), .second, .val (.ref b121), .val (.ref b161), .unset, .unset, .unset] [(.int (3 : Int32))])) t → Steps p.tables e below (T185.setTop (mkF m 340 #[.val (.long q0), .second, .val (.long q1), .second, .val (.long q2), .second, .val (.int p3), .val (.int p4), .val (.int p5), .val (.long v1), .second, .val (.long v3), .second, .val (.long v5), .second, .val (.int v11), .val (.int v17), .val (.int v23), .val (.int v25), .val (.int v27), .val (.int v29), .val (.int v35), .val (.int v41), .val (.int v47), .val (.int v53), .val (.int v61), .val (.int v69), .val (.int v77), .val (.long v98), .second, .val (.long v119), .second, .val (.ref b121), .unset, .unset, .unset, .unset] [(.ref b161)])) t := by
    intro t k
    show Steps p.tables e below (T185.setTop (mkF m 340 #[.val (.long q0), .second, .val (.long q1), .second, .val (.long q2), .second, .val (.int p3), .val (.int p4), .val (.int p5), .val (.long v1), .second, .val (.long v3), .second, .val (.long v5), .second, .val (.int v11), .val (.int v17), .val (.int v23), .val (.int v25), .val (.int v27), .val (.int v29), .val (.int v35), .val (.int v41), .val (.int v47), .val (.int v53), .val (.int v61), .val (.int v69), .val (.int v77), .val (.long v98), .second, .val (.long v119), .second, .val (.ref b121), .unset, .unset, .unset, .unset] [(.ref b161)])) _
    refine XS.astore X185.here hx rfl (hb hby at_340) rfl rfl (l' := #[.val (.long q0), .second, .val (.long q1), .second, .val (.long q2), .second, .val (.int p3), .val (.int p4), .val (.int p5), .val (.long v1), .second, .val (.long v3), .second, .val (.long v5), .second, .val (.int v11), .val (.int v17), .val (.int v23), .val (.int v25), .val (.int v27), .val (.int v29), .val (.int v35), .val (.int v41), .val (.int v47), .val (.int v53), .val (.int v61), .val (.int v69), .val (.int v77), .val (.long v98), .second, .val (.long v119), .second, .val (.ref b121), .val (.ref b161), .unset, .unset, .unset]) rfl ?_
    show Steps p.tables e below (T185.setTop (mkF m 342 #[.val (.long q0), .second, .val (.long q1), .second, .val (.long q2), .second, .val (.int p3), .val (.int p4), .val (.int p5), .val (.long v1), .second, .val (.long v3), .second, .val (.long v5), .second, .val (.int v11), .val (.int v17), .val (.int v23), .val (.int v25), .val (.int v27), .val (.int v29), .val (.int v35), .val (.int v41), .val (.int v47), .val (.int v53), .val (.int v61), .val (.int v69), .val (.int v77), .val (.long v98), .second, .val (.long v119), .second, .val (.ref b121), .val (.ref b161), .unset, .unset, .unset] [])) _
    refine XS.iconst X185.here hx rfl (hb hby at_342) ?_
    exact k
  obtain ⟨T193, h193, b193, X193, e193, K193, q193, V193, st193⟩ := own_newA X185 hx hZ (ty := .int) rfl (hw _ (List.mem_of_getElem? (i := 34) rfl)) rfl e185 (g := (mkF m 343 #[.val (.long q0), .second, .val (.long q1), .second, .val (.long q2), .second, .val (.int p3), .val (.int p4), .val (.int p5), .val (.long v1), .second, .val (.long v3), .second, .val (.long v5), .second, .val (.int v11), .val (.int v17), .val (.int v23), .val (.int v25), .val (.int v27), .val (.int v29), .val (.int v35), .val (.int v41), .val (.int v47), .val (.int v53), .val (.int v61), .val (.int v69), .val (.int v77), .val (.long v98), .second, .val (.long v119), .second, .val (.ref b121), .val (.ref b161), .unset, .unset, .unset] [(.int (3 : Int32))])) rfl (hb hby at_343) rfl (3) (by decide) (cap := 3) (by decide) (by decide) (by decide) (by decide)
  have X193 : Stand p l e room_1 s m #[(.long q0), (.long q1), (.long q2), (.int p3), (.int p4), (.int p5)] below meth c T193 L185 5 14 := X193
  have V193 : own_IA Z h193 b193 .int ([(0 : Int32), (0 : Int32), (0 : Int32)] : List Int32) := V193
  have ne_b124_b193 : b124 ≠ b193 := own_ne f186.lt q193
  have ne_b121_b193 : b121 ≠ b193 := own_ne f188.lt q193
  have ne_b150_b193 : b150 ≠ b193 := own_ne f190.lt q193
  have ne_b161_b193 : b161 ≠ b193 := own_ne V185.lt q193
  have g_b193 : n0 ≤ b193 := Nat.le_trans Zp191 q193
  have f194 : Exa Z h193 b124 "[J" := f186.keep K193
  have f195 : own_JA Z h193 b124 ([v1, v3, v5] : List Int64) := f187.keep K193 nin0
  have f196 : Exa Z h193 b121 "com/example/evotempo/evotempo/problem/LinearFunction" := f188.keep K193
  have f197 : Fld Z h193 b121 "com/example/evotempo/evotempo/problem/LinearFunction" "weights" "[J" (.ref b150) := f189.keep K193 nin0
  have f198 : own_JA Z h193 b150 ([v1, v3, v5] : List Int64) := f190.keep K193 nin0
  have f199 : own_IA Z h193 b161 .boolean ([(nar .boolean v11), (nar .boolean v17), (nar .boolean v23)] : List Int32) := V185.keep K193 nin0
  have Zp200 : n0 ≤ h193.size := Nat.le_trans Zp191 K193.1
  have st201 : ∀ t, Steps p.tables e below (T193.setTop (mkF m 349 #[.val (.long q0), .second, .val (.long q1), .second, .val (.long q2), .second, .val (.int p3), .val (.int p4), .val (.int p5), .val (.long v1), .second, .val (.long v3), .second, .val (.long v5), .second, .val (.int v11), .val (.int v17), .val (.int v23), .val (.int v25), .val (.int v27), .val (.int v29), .val (.int v35), .val (.int v41), .val (.int v47), .val (.int v53), .val (.int v61), .val (.int v69), .val (.int v77), .val (.long v98), .second, .val (.long v119), .second, .val (.ref b121), .val (.ref b161), .unset, .unset, .unset] [(.int v29), (.int (0 : Int32)), (.ref b193), (.ref b193)])) t → Steps p.tables e below (T193.setTop (mkF m 345 #[.val (.long q0), .second, .val (.long q1), .second, .val (.long q2), .second, .val (.int p3), .val (.int p4), .val (.int p5), .val (.long v1), .second, .val (.long v3), .second, .val (.long v5), .second, .val (.int v11), .val (.int v17), .val (.int v23), .val (.int v25), .val (.int v27), .val (.int v29), .val (.int v35), .val (.int v41), .val (.int v47), .val (.int v53), .val (.int v61), .val (.int v69), .val (.int v77), .val (.long v98), .second, .val (.long v119), .second, .val (.ref b121), .val (.ref b161), .unset, .unset, .unset] [(.ref b193)])) t := by
    intro t k
    show Steps p.tables e below (T193.setTop (mkF m 345 #[.val (.long q0), .second, .val (.long q1), .second, .val (.long q2), .second, .val (.int p3), .val (.int p4), .val (.int p5), .val (.long v1), .second, .val (.long v3), .second, .val (.long v5), .second, .val (.int v11), .val (.int v17), .val (.int v23), .val (.int v25), .val (.int v27), .val (.int v29), .val (.int v35), .val (.int v41), .val (.int v47), .val (.int v53), .val (.int v61), .val (.int v69), .val (.int v77), .val (.long v98), .second, .val (.long v119), .second, .val (.ref b121), .val (.ref b161), .unset, .unset, .unset] [(.ref b193)])) _
    refine XS.dup X193.here hx rfl (hb hby at_345) rfl rfl ?_
    show Steps p.tables e below (T193.setTop (mkF m 346 #[.val (.long q0), .second, .val (.long q1), .second, .val (.long q2), .second, .val (.int p3), .val (.int p4), .val (.int p5), .val (.long v1), .second, .val (.long v3), .second, .val (.long v5), .second, .val (.int v11), .val (.int v17), .val (.int v23), .val (.int v25), .val (.int v27), .val (.int v29), .val (.int v35), .val (.int v41), .val (.int v47), .val (.int v53), .val (.int v61), .val (.int v69), .val (.int v77), .val (.long v98), .second, .val (.long v119), .second, .val (.ref b121), .val (.ref b161), .unset, .unset, .unset] [(.ref b193), (.ref b193)])) _
    refine XS.iconst X193.here hx rfl (hb hby at_346) ?_
    show Steps p.tables e below (T193.setTop (mkF m 347 #[.val (.long q0), .second, .val (.long q1), .second, .val (.long q2), .second, .val (.int p3), .val (.int p4), .val (.int p5), .val (.long v1), .second, .val (.long v3), .second, .val (.long v5), .second, .val (.int v11), .val (.int v17), .val (.int v23), .val (.int v25), .val (.int v27), .val (.int v29), .val (.int v35), .val (.int v41), .val (.int v47), .val (.int v53), .val (.int v61), .val (.int v69), .val (.int v77), .val (.long v98), .second, .val (.long v119), .second, .val (.ref b121), .val (.ref b161), .unset, .unset, .unset] [(.int (0 : Int32)), (.ref b193), (.ref b193)])) _
    refine XS.iload X193.here hx rfl (hb hby at_347) rfl ?_
    exact k
  obtain ⟨T202, h202, L202, X202, N202, e202, K202, V202, st202⟩ := own_iastoreI X193 hx hZ N185 e193 V193 (j := (0 : Int32)) (own_in (m := 3) rfl (by decide)) g_b193 (g := (mkF m 349 #[.val (.long q0), .second, .val (.long q1), .second, .val (.long q2), .second, .val (.int p3), .val (.int p4), .val (.int p5), .val (.long v1), .second, .val (.long v3), .second, .val (.long v5), .second, .val (.int v11), .val (.int v17), .val (.int v23), .val (.int v25), .val (.int v27), .val (.int v29), .val (.int v35), .val (.int v41), .val (.int v47), .val (.int v53), .val (.int v61), .val (.int v69), .val (.int v77), .val (.long v98), .second, .val (.long v119), .second, .val (.ref b121), .val (.ref b161), .unset, .unset, .unset] [(.int v29), (.int (0 : Int32)), (.ref b193), (.ref b193)])) rfl rfl (hb hby at_349)
  have V202 : own_IA Z h202 b193 .int ([v29, (0 : Int32), (0 : Int32)] : List Int32) := V202
  have f203 : Exa Z h202 b124 "[J" := f194.keep K202
  have f204 : own_JA Z h202 b124 ([v1, v3, v5] : List Int64) := f195.keep K202 (ninS ne_b124_b193 nin0)
  have f205 : Exa Z h202 b121 "com/example/evotempo/evotempo/problem/LinearFunction" := f196.keep K202
  have f206 : Fld Z h202 b121 "com/example/evotempo/evotempo/problem/LinearFunction" "weights" "[J" (.ref b150) := f197.keep K202 (ninS ne_b121_b193 nin0)
  have f207 : own_JA Z h202 b150 ([v1, v3, v5] : List Int64) := f198.keep K202 (ninS ne_b150_b193 nin0)
  have f208 : own_IA Z h202 b161 .boolean ([(nar .boolean v11), (nar .boolean v17), (nar .boolean v23)] : List Int32) := f199.keep K202 (ninS ne_b161_b193 nin0)
  have Zp209 : n0 ≤ h202.size := Nat.le_trans Zp200 K202.1
  have st210 : ∀ t, Steps p.tables e below (T202.setTop (mkF m 354 #[.val (.long q0), .second, .val (.long q1), .second, .val (.long q2), .second, .val (.int p3), .val (.int p4), .val (.int p5), .val (.long v1), .second, .val (.long v3), .second, .val (.long v5), .second, .val (.int v11), .val (.int v17), .val (.int v23), .val (.int v25), .val (.int v27), .val (.int v29), .val (.int v35), .val (.int v41), .val (.int v47), .val (.int v53), .val (.int v61), .val (.int v69), .val (.int v77), .val (.long v98), .second, .val (.long v119), .second, .val (.ref b121), .val (.ref b161), .unset, .unset, .unset] [(.int v47), (.int (1 : Int32)), (.ref b193), (.ref b193)])) t → Steps p.tables e below (T202.setTop (mkF m 350 #[.val (.long q0), .second, .val (.long q1), .second, .val (.long q2), .second, .val (.int p3), .val (.int p4), .val (.int p5), .val (.long v1), .second, .val (.long v3), .second, .val (.long v5), .second, .val (.int v11), .val (.int v17), .val (.int v23), .val (.int v25), .val (.int v27), .val (.int v29), .val (.int v35), .val (.int v41), .val (.int v47), .val (.int v53), .val (.int v61), .val (.int v69), .val (.int v77), .val (.long v98), .second, .val (.long v119), .second, .val (.ref b121), .val (.ref b161), .unset, .unset, .unset] [(.ref b193)])) t := by
    intro t k
    show Steps p.tables e below (T202.setTop (mkF m 350 #[.val (.long q0), .second, .val (.long q1), .second, .val (.long q2), .second, .val (.int p3), .val (.int p4), .val (.int p5), .val (.long v1), .second, .val (.long v3), .second, .val (.long v5), .second, .val (.int v11), .val (.int v17), .val (.int v23), .val (.int v25), .val (.int v27), .val (.int v29), .val (.int v35), .val (.int v41), .val (.int v47), .val (.int v53), .val (.int v61), .val (.int v69), .val (.int v77), .val (.long v98), .second, .val (.long v119), .second, .val (.ref b121), .val (.ref b161), .unset, .unset, .unset] [(.ref b193)])) _
    refine XS.dup X202.here hx rfl (hb hby at_350) rfl rfl ?_
    show Steps p.tables e below (T202.setTop (mkF m 351 #[.val (.long q0), .second, .val (.long q1), .second, .val (.long q2), .second, .val (.int p3), .val (.int p4), .val (.int p5), .val (.long v1), .second, .val (.long v3), .second, .val (.long v5), .second, .val (.int v11), .val (.int v17), .val (.int v23), .val (.int v25), .val (.int v27), .val (.int v29), .val (.int v35), .val (.int v41), .val (.int v47), .val (.int v53), .val (.int v61), .val (.int v69), .val (.int v77), .val (.long v98), .second, .val (.long v119), .second, .val (.ref b121), .val (.ref b161), .unset, .unset, .unset] [(.ref b193), (.ref b193)])) _
    refine XS.iconst X202.here hx rfl (hb hby at_351) ?_
    show Steps p.tables e below (T202.setTop (mkF m 352 #[.val (.long q0), .second, .val (.long q1), .second, .val (.long q2), .second, .val (.int p3), .val (.int p4), .val (.int p5), .val (.long v1), .second, .val (.long v3), .second, .val (.long v5), .second, .val (.int v11), .val (.int v17), .val (.int v23), .val (.int v25), .val (.int v27), .val (.int v29), .val (.int v35), .val (.int v41), .val (.int v47), .val (.int v53), .val (.int v61), .val (.int v69), .val (.int v77), .val (.long v98), .second, .val (.long v119), .second, .val (.ref b121), .val (.ref b161), .unset, .unset, .unset] [(.int (1 : Int32)), (.ref b193), (.ref b193)])) _
    refine XS.iload X202.here hx rfl (hb hby at_352) rfl ?_
    exact k
  obtain ⟨T211, h211, L211, X211, N211, e211, K211, V211, st211⟩ := own_iastoreI X202 hx hZ N202 e202 V202 (j := (1 : Int32)) (own_in (m := 3) rfl (by decide)) g_b193 (g := (mkF m 354 #[.val (.long q0), .second, .val (.long q1), .second, .val (.long q2), .second, .val (.int p3), .val (.int p4), .val (.int p5), .val (.long v1), .second, .val (.long v3), .second, .val (.long v5), .second, .val (.int v11), .val (.int v17), .val (.int v23), .val (.int v25), .val (.int v27), .val (.int v29), .val (.int v35), .val (.int v41), .val (.int v47), .val (.int v53), .val (.int v61), .val (.int v69), .val (.int v77), .val (.long v98), .second, .val (.long v119), .second, .val (.ref b121), .val (.ref b161), .unset, .unset, .unset] [(.int v47), (.int (1 : Int32)), (.ref b193), (.ref b193)])) rfl rfl (hb hby at_354)
  have V211 : own_IA Z h211 b193 .int ([v29, v47, (0 : Int32)] : List Int32) := V211
  have f212 : Exa Z h211 b124 "[J" := f203.keep K211
  have f213 : own_JA Z h211 b124 ([v1, v3, v5] : List Int64) := f204.keep K211 (ninS ne_b124_b193 nin0)
  have f214 : Exa Z h211 b121 "com/example/evotempo/evotempo/problem/LinearFunction" := f205.keep K211
  have f215 : Fld Z h211 b121 "com/example/evotempo/evotempo/problem/LinearFunction" "weights" "[J" (.ref b150) := f206.keep K211 (ninS ne_b121_b193 nin0)
  have f216 : own_JA Z h211 b150 ([v1, v3, v5] : List Int64) := f207.keep K211 (ninS ne_b150_b193 nin0)
  have f217 : own_IA Z h211 b161 .boolean ([(nar .boolean v11), (nar .boolean v17), (nar .boolean v23)] : List Int32) := f208.keep K211 (ninS ne_b161_b193 nin0)
  have Zp218 : n0 ≤ h211.size := Nat.le_trans Zp209 K211.1
  have st219 : ∀ t, Steps p.tables e below (T211.setTop (mkF m 359 #[.val (.long q0), .second, .val (.long q1), .second, .val (.long q2), .second, .val (.int p3), .val (.int p4), .val (.int p5), .val (.long v1), .second, .val (.long v3), .second, .val (.long v5), .second, .val (.int v11), .val (.int v17), .val (.int v23), .val (.int v25), .val (.int v27), .val (.int v29), .val (.int v35), .val (.int v41), .val (.int v47), .val (.int v53), .val (.int v61), .val (.int v69), .val (.int v77), .val (.long v98), .second, .val (.long v119), .second, .val (.ref b121), .val (.ref b161), .unset, .unset, .unset] [(.int v53), (.int (2 : Int32)), (.ref b193), (.ref b193)])) t → Steps p.tables e below (T211.setTop (mkF m 355 #[.val (.long q0), .second, .val (.long q1), .second, .val (.long q2), .second, .val (.int p3), .val (.int p4), .val (.int p5), .val (.long v1), .second, .val (.long v3), .second, .val (.long v5), .second, .val (.int v11), .val (.int v17), .val (.int v23), .val (.int v25), .val (.int v27), .val (.int v29), .val (.int v35), .val (.int v41), .val (.int v47), .val (.int v53), .val (.int v61), .val (.int v69), .val (.int v77), .val (.long v98), .second, .val (.long v119), .second, .val (.ref b121), .val (.ref b161), .unset, .unset, .unset] [(.ref b193)])) t := by
    intro t k
    show Steps p.tables e below (T211.setTop (mkF m 355 #[.val (.long q0), .second, .val (.long q1), .second, .val (.long q2), .second, .val (.int p3), .val (.int p4), .val (.int p5), .val (.long v1), .second, .val (.long v3), .second, .val (.long v5), .second, .val (.int v11), .val (.int v17), .val (.int v23), .val (.int v25), .val (.int v27), .val (.int v29), .val (.int v35), .val (.int v41), .val (.int v47), .val (.int v53), .val (.int v61), .val (.int v69), .val (.int v77), .val (.long v98), .second, .val (.long v119), .second, .val (.ref b121), .val (.ref b161), .unset, .unset, .unset] [(.ref b193)])) _
    refine XS.dup X211.here hx rfl (hb hby at_355) rfl rfl ?_
    show Steps p.tables e below (T211.setTop (mkF m 356 #[.val (.long q0), .second, .val (.long q1), .second, .val (.long q2), .second, .val (.int p3), .val (.int p4), .val (.int p5), .val (.long v1), .second, .val (.long v3), .second, .val (.long v5), .second, .val (.int v11), .val (.int v17), .val (.int v23), .val (.int v25), .val (.int v27), .val (.int v29), .val (.int v35), .val (.int v41), .val (.int v47), .val (.int v53), .val (.int v61), .val (.int v69), .val (.int v77), .val (.long v98), .second, .val (.long v119), .second, .val (.ref b121), .val (.ref b161), .unset, .unset, .unset] [(.ref b193), (.ref b193)])) _
    refine XS.iconst X211.here hx rfl (hb hby at_356) ?_
    show Steps p.tables e below (T211.setTop (mkF m 357 #[.val (.long q0), .second, .val (.long q1), .second, .val (.long q2), .second, .val (.int p3), .val (.int p4), .val (.int p5), .val (.long v1), .second, .val (.long v3), .second, .val (.long v5), .second, .val (.int v11), .val (.int v17), .val (.int v23), .val (.int v25), .val (.int v27), .val (.int v29), .val (.int v35), .val (.int v41), .val (.int v47), .val (.int v53), .val (.int v61), .val (.int v69), .val (.int v77), .val (.long v98), .second, .val (.long v119), .second, .val (.ref b121), .val (.ref b161), .unset, .unset, .unset] [(.int (2 : Int32)), (.ref b193), (.ref b193)])) _
    refine XS.iload X211.here hx rfl (hb hby at_357) rfl ?_
    exact k
  obtain ⟨T220, h220, L220, X220, N220, e220, K220, V220, st220⟩ := own_iastoreI X211 hx hZ N211 e211 V211 (j := (2 : Int32)) (own_in (m := 3) rfl (by decide)) g_b193 (g := (mkF m 359 #[.val (.long q0), .second, .val (.long q1), .second, .val (.long q2), .second, .val (.int p3), .val (.int p4), .val (.int p5), .val (.long v1), .second, .val (.long v3), .second, .val (.long v5), .second, .val (.int v11), .val (.int v17), .val (.int v23), .val (.int v25), .val (.int v27), .val (.int v29), .val (.int v35), .val (.int v41), .val (.int v47), .val (.int v53), .val (.int v61), .val (.int v69), .val (.int v77), .val (.long v98), .second, .val (.long v119), .second, .val (.ref b121), .val (.ref b161), .unset, .unset, .unset] [(.int v53), (.int (2 : Int32)), (.ref b193), (.ref b193)])) rfl rfl (hb hby at_359)
  have V220 : own_IA Z h220 b193 .int ([v29, v47, v53] : List Int32) := V220
  have f221 : Exa Z h220 b124 "[J" := f212.keep K220
  have f222 : own_JA Z h220 b124 ([v1, v3, v5] : List Int64) := f213.keep K220 (ninS ne_b124_b193 nin0)
  have f223 : Exa Z h220 b121 "com/example/evotempo/evotempo/problem/LinearFunction" := f214.keep K220
  have f224 : Fld Z h220 b121 "com/example/evotempo/evotempo/problem/LinearFunction" "weights" "[J" (.ref b150) := f215.keep K220 (ninS ne_b121_b193 nin0)
  have f225 : own_JA Z h220 b150 ([v1, v3, v5] : List Int64) := f216.keep K220 (ninS ne_b150_b193 nin0)
  have f226 : own_IA Z h220 b161 .boolean ([(nar .boolean v11), (nar .boolean v17), (nar .boolean v23)] : List Int32) := f217.keep K220 (ninS ne_b161_b193 nin0)
  have Zp227 : n0 ≤ h220.size := Nat.le_trans Zp218 K220.1
  have st228 : ∀ t, Steps p.tables e below (T220.setTop (mkF m 372 #[.val (.long q0), .second, .val (.long q1), .second, .val (.long q2), .second, .val (.int p3), .val (.int p4), .val (.int p5), .val (.long v1), .second, .val (.long v3), .second, .val (.long v5), .second, .val (.int v11), .val (.int v17), .val (.int v23), .val (.int v25), .val (.int v27), .val (.int v29), .val (.int v35), .val (.int v41), .val (.int v47), .val (.int v53), .val (.int v61), .val (.int v69), .val (.int v77), .val (.long v98), .second, .val (.long v119), .second, .val (.ref b121), .val (.ref b161), .val (.ref b193), .unset, .unset] [(.int v25), (.ref b193), (.long v98), (.ref b161), (.ref b121)])) t → Steps p.tables e below (T220.setTop (mkF m 360 #[.val (.long q0), .second, .val (.long q1), .second, .val (.long q2), .second, .val (.int p3), .val (.int p4), .val (.int p5), .val (.long v1), .second, .val (.long v3), .second, .val (.long v5), .second, .val (.int v11), .val (.int v17), .val (.int v23), .val (.int v25), .val (.int v27), .val (.int v29), .val (.int v35), .val (.int v41), .val (.int v47), .val (.int v53), .val (.int v61), .val (.int v69), .val (.int v77), .val (.long v98), .second, .val (.long v119), .second, .val (.ref b121), .val (.ref b161), .unset, .unset, .unset] [(.ref b193)])) t := by
    intro t k
    show Steps p.tables e below (T220.setTop (mkF m 360 #[.val (.long q0), .second, .val (.long q1), .second, .val (.long q2), .second, .val (.int p3), .val (.int p4), .val (.int p5), .val (.long v1), .second, .val (.long v3), .second, .val (.long v5), .second, .val (.int v11), .val (.int v17), .val (.int v23), .val (.int v25), .val (.int v27), .val (.int v29), .val (.int v35), .val (.int v41), .val (.int v47), .val (.int v53), .val (.int v61), .val (.int v69), .val (.int v77), .val (.long v98), .second, .val (.long v119), .second, .val (.ref b121), .val (.ref b161), .unset, .unset, .unset] [(.ref b193)])) _
    refine XS.astore X220.here hx rfl (hb hby at_360) rfl rfl (l' := #[.val (.long q0), .second, .val (.long q1), .second, .val (.long q2), .second, .val (.int p3), .val (.int p4), .val (.int p5), .val (.long v1), .second, .val (.long v3), .second, .val (.long v5), .second, .val (.int v11), .val (.int v17), .val (.int v23), .val (.int v25), .val (.int v27), .val (.int v29), .val (.int v35), .val (.int v41), .val (.int v47), .val (.int v53), .val (.int v61), .val (.int v69), .val (.int v77), .val (.long v98), .second, .val (.long v119), .second, .val (.ref b121), .val (.ref b161), .val (.ref b193), .unset, .unset]) rfl ?_
    show Steps p.tables e below (T220.setTop (mkF m 362 #[.val (.long q0), .second, .val (.long q1), .second, .val (.long q2), .second, .val (.int p3), .val (.int p4), .val (.int p5), .val (.long v1), .second, .val (.long v3), .second, .val (.long v5), .second, .val (.int v11), .val (.int v17), .val (.int v23), .val (.int v25), .val (.int v27), .val (.int v29), .val (.int v35), .val (.int v41), .val (.int v47), .val (.int v53), .val (.int v61), .val (.int v69), .val (.int v77), .val (.long v98), .second, .val (.long v119), .second, .val (.ref b121), .val (.ref b161), .val (.ref b193), .unset, .unset] [])) _
    refine XS.aload X220.here hx rfl (hb hby at_362) rfl rfl ?_
    show Steps p.tables e below (T220.setTop (mkF m 364 #[.val (.long q0), .second, .val (.long q1), .second, .val (.long q2), .second, .val (.int p3), .val (.int p4), .val (.int p5), .val (.long v1), .second, .val (.long v3), .second, .val (.long v5), .second, .val (.int v11), .val (.int v17), .val (.int v23), .val (.int v25), .val (.int v27), .val (.int v29), .val (.int v35), .val (.int v41), .val (.int v47), .val (.int v53), .val (.int v61), .val (.int v69), .val (.int v77), .val (.long v98), .second, .val (.long v119), .second, .val (.ref b121), .val (.ref b161), .val (.ref b193), .unset, .unset] [(.ref b121)])) _
    refine XS.aload X220.here hx rfl (hb hby at_364) rfl rfl ?_
    show Steps p.tables e below (T220.setTop (mkF m 366 #[.val (.long q0), .second, .val (.long q1), .second, .val (.long q2), .second, .val (.int p3), .val (.int p4), .val (.int p5), .val (.long v1), .second, .val (.long v3), .second, .val (.long v5), .second, .val (.int v11), .val (.int v17), .val (.int v23), .val (.int v25), .val (.int v27), .val (.int v29), .val (.int v35), .val (.int v41), .val (.int v47), .val (.int v53), .val (.int v61), .val (.int v69), .val (.int v77), .val (.long v98), .second, .val (.long v119), .second, .val (.ref b121), .val (.ref b161), .val (.ref b193), .unset, .unset] [(.ref b161), (.ref b121)])) _
    refine XS.lload X220.here hx rfl (hb hby at_366) rfl ?_
    show Steps p.tables e below (T220.setTop (mkF m 368 #[.val (.long q0), .second, .val (.long q1), .second, .val (.long q2), .second, .val (.int p3), .val (.int p4), .val (.int p5), .val (.long v1), .second, .val (.long v3), .second, .val (.long v5), .second, .val (.int v11), .val (.int v17), .val (.int v23), .val (.int v25), .val (.int v27), .val (.int v29), .val (.int v35), .val (.int v41), .val (.int v47), .val (.int v53), .val (.int v61), .val (.int v69), .val (.int v77), .val (.long v98), .second, .val (.long v119), .second, .val (.ref b121), .val (.ref b161), .val (.ref b193), .unset, .unset] [(.long v98), (.ref b161), (.ref b121)])) _
    refine XS.aload X220.here hx rfl (hb hby at_368) rfl rfl ?_
    show Steps p.tables e below (T220.setTop (mkF m 370 #[.val (.long q0), .second, .val (.long q1), .second, .val (.long q2), .second, .val (.int p3), .val (.int p4), .val (.int p5), .val (.long v1), .second, .val (.long v3), .second, .val (.long v5), .second, .val (.int v11), .val (.int v17), .val (.int v23), .val (.int v25), .val (.int v27), .val (.int v29), .val (.int v35), .val (.int v41), .val (.int v47), .val (.int v53), .val (.int v61), .val (.int v69), .val (.int v77), .val (.long v98), .second, .val (.long v119), .second, .val (.ref b121), .val (.ref b161), .val (.ref b193), .unset, .unset] [(.ref b193), (.long v98), (.ref b161), (.ref b121)])) _
    refine XS.iload X220.here hx rfl (hb hby at_370) rfl ?_
    exact k
  obtain ⟨cq229, kq229, q229a, q229b, q229c⟩ := isOf hZ e220 f223
  obtain ⟨_, _, ⟨T229, L229, k229, n229⟩, -, X229, ⟨Lc229, hQ229, l229, y229, z229⟩, st229⟩ := X220.virtualBack hx (y := (⟨"com/example/evotempo/evotempo/problem/LinearFunction", "fitnessAfterFlips", "([ZJ[II)J"⟩ : MethodName)) (z := (⟨"com/example/evotempo/evotempo/problem/LinearFunction", "fitnessAfterFlips", "([ZJ[II)J"⟩ : MethodName)) hown (mvT hZ (hw _ (List.mem_of_getElem? (i := 35) rfl))) (mvT hZ (hw _ (List.mem_of_getElem? (i := 36) rfl))) (notFace_of_selects (args := #[]) (mvT hZ (hw _ (List.mem_of_getElem? (i := 38) rfl)))) (mvT hZ (hw _ (List.mem_of_getElem? (i := 38) rfl))) (mvT hZ (hw _ (List.mem_of_getElem? (i := 37) rfl))) (by decide) (backOf (W := 0) (own_rm5 l Z a0 hw [] b121 b161 v98 b193 v25 b150 ([v1, v3, v5] : List Int64) ([(nar .boolean v11), (nar .boolean v17), (nar .boolean v23)] : List Int32) ([v29, v47, v53] : List Int32) h220 n0 Zp227 f224 f225 f226 V220 (own_h0_230 (q0 := q0) (q1 := q1) (q2 := q2) (p3 := p3) (p4 := p4) (p5 := p5) hv1 hv3 hv5 hv11 hv17 hv23 hv25 hv27 hv29 hv35 hv41 hv47 hv53 hv57 hv61 hv65 hv69 hv73 hv77 hv83 hv89 hv95 hv96 hv98 hv104 hv110 hv116 hv117 hv119) (own_h0_231 (q0 := q0) (q1 := q1) (q2 := q2) (p3 := p3) (p4 := p4) (p5 := p5) hv1 hv3 hv5 hv11 hv17 hv23 hv25 hv27 hv29 hv35 hv41 hv47 hv53 hv57 hv61 hv65 hv69 hv73 hv77 hv83 hv89 hv95 hv96 hv98 hv104 hv110 hv116 hv117 hv119) (own_h0_232 (q0 := q0) (q1 := q1) (q2 := q2) (p3 := p3) (p4 := p4) (p5 := p5) hv1 hv3 hv5 hv11 hv17 hv23 hv25 hv27 hv29 hv35 hv41 hv47 hv53 hv57 hv61 hv65 hv69 hv73 hv77 hv83 hv89 hv95 hv96 hv98 hv104 hv110 hv116 hv117 hv119)) hZ (hw _ (List.mem_of_getElem? (i := 39) rfl)) (hw _ (List.mem_of_getElem? (i := 8) rfl)) (by decide) (by decide)) q229a q229c (g := (mkF m 372 #[.val (.long q0), .second, .val (.long q1), .second, .val (.long q2), .second, .val (.int p3), .val (.int p4), .val (.int p5), .val (.long v1), .second, .val (.long v3), .second, .val (.long v5), .second, .val (.int v11), .val (.int v17), .val (.int v23), .val (.int v25), .val (.int v27), .val (.int v29), .val (.int v35), .val (.int v41), .val (.int v47), .val (.int v53), .val (.int v61), .val (.int v69), .val (.int v77), .val (.long v98), .second, .val (.long v119), .second, .val (.ref b121), .val (.ref b161), .val (.ref b193), .unset, .unset] [(.int v25), (.ref b193), (.long v98), (.ref b161), (.ref b121)])) rfl (by rw [hml]; rfl) (Steps.refl _) (argsL := [(.ref b161), (.long v98), (.ref b193), (.int v25)]) (rest := []) (lenOf own_pd3 rfl) rfl (by show 2 * 0 + _ ≤ _; exact Nat.le_of_eq rfl) (hb hby at_372) (fun _ _ => ⟨rfl, e220, (by decide : 5 + 0 ≤ _), (by decide : 14 + 0 ≤ _)⟩)
  dsimp only [Pt.U, Pt.locs, Pt.cells, Pt.slots] at X229 l229 y229 z229 st229 hQ229
  subst y229 z229
  obtain ⟨rfl, rfl, e229⟩ := hQ229
  have X229' : Stand p l e room_1 s m #[(.long q0), (.long q1), (.long q2), (.int p3), (.int p4), (.int p5)] below meth c T229 L220 5 14 := by rw [show L229 = L220 from by rw [l229]; first | rfl | exact List.append_nil _] at X229; exact X229
  have st229 : ∀ t, Steps p.tables e below (T229.setTop (mkF m 375 #[.val (.long q0), .second, .val (.long q1), .second, .val (.long q2), .second, .val (.int p3), .val (.int p4), .val (.int p5), .val (.long v1), .second, .val (.long v3), .second, .val (.long v5), .second, .val (.int v11), .val (.int v17), .val (.int v23), .val (.int v25), .val (.int v27), .val (.int v29), .val (.int v35), .val (.int v41), .val (.int v47), .val (.int v53), .val (.int v61), .val (.int v69), .val (.int v77), .val (.long v98), .second, .val (.long v119), .second, .val (.ref b121), .val (.ref b161), .val (.ref b193), .unset, .unset] [(.long (own_F5 v98 v25 ([v1, v3, v5] : List Int64) ([(nar .boolean v11), (nar .boolean v17), (nar .boolean v23)] : List Int32) ([v29, v47, v53] : List Int32)))])) t → Steps p.tables e below (T220.setTop (mkF m 372 #[.val (.long q0), .second, .val (.long q1), .second, .val (.long q2), .second, .val (.int p3), .val (.int p4), .val (.int p5), .val (.long v1), .second, .val (.long v3), .second, .val (.long v5), .second, .val (.int v11), .val (.int v17), .val (.int v23), .val (.int v25), .val (.int v27), .val (.int v29), .val (.int v35), .val (.int v41), .val (.int v47), .val (.int v53), .val (.int v61), .val (.int v69), .val (.int v77), .val (.long v98), .second, .val (.long v119), .second, .val (.ref b121), .val (.ref b161), .val (.ref b193), .unset, .unset] [(.int v25), (.ref b193), (.long v98), (.ref b161), (.ref b121)])) t := fun t k => st229.trans k
  obtain ⟨v233, hv233⟩ : ∃ z : Int64, z = (own_F5 v98 v25 ([v1, v3, v5] : List Int64) ([(nar .boolean v11), (nar .boolean v17), (nar .boolean v23)] : List Int32) ([v29, v47, v53] : List Int32)) := ⟨_, rfl⟩
  rw [← hv233] at st229
  have st234 : ∀ t, Steps p.tables e below (T229.setTop (mkF m 382 #[.val (.long q0), .second, .val (.long q1), .second, .val (.long q2), .second, .val (.int p3), .val (.int p4), .val (.int p5), .val (.long v1), .second, .val (.long v3), .second, .val (.long v5), .second, .val (.int v11), .val (.int v17), .val (.int v23), .val (.int v25), .val (.int v27), .val (.int v29), .val (.int v35), .val (.int v41), .val (.int v47), .val (.int v53), .val (.int v61), .val (.int v69), .val (.int v77), .val (.long v98), .second, .val (.long v119), .second, .val (.ref b121), .val (.ref b161), .val (.ref b193), .val (.long v233), .second] [(.int (lcmpW v233 v119))])) t → Steps p.tables e below (T229.setTop (mkF m 375 #[.val (.long q0), .second, .val (.long q1), .second, .val (.long q2), .second, .val (.int p3), .val (.int p4), .val (.int p5), .val (.long v1), .second, .val (.long v3), .second, .val (.long v5), .second, .val (.int v11), .val (.int v17), .val (.int v23), .val (.int v25), .val (.int v27), .val (.int v29), .val (.int v35), .val (.int v41), .val (.int v47), .val (.int v53), .val (.int v61), .val (.int v69), .val (.int v77), .val (.long v98), .second, .val (.long v119), .second, .val (.ref b121), .val (.ref b161), .val (.ref b193), .unset, .unset] [(.long v233)])) t := by
    intro t k
    show Steps p.tables e below (T229.setTop (mkF m 375 #[.val (.long q0), .second, .val (.long q1), .second, .val (.long q2), .second, .val (.int p3), .val (.int p4), .val (.int p5), .val (.long v1), .second, .val (.long v3), .second, .val (.long v5), .second, .val (.int v11), .val (.int v17), .val (.int v23), .val (.int v25), .val (.int v27), .val (.int v29), .val (.int v35), .val (.int v41), .val (.int v47), .val (.int v53), .val (.int v61), .val (.int v69), .val (.int v77), .val (.long v98), .second, .val (.long v119), .second, .val (.ref b121), .val (.ref b161), .val (.ref b193), .unset, .unset] [(.long v233)])) _
    refine XS.lstore X229'.here hx rfl (hb hby at_375) rfl (l' := #[.val (.long q0), .second, .val (.long q1), .second, .val (.long q2), .second, .val (.int p3), .val (.int p4), .val (.int p5), .val (.long v1), .second, .val (.long v3), .second, .val (.long v5), .second, .val (.int v11), .val (.int v17), .val (.int v23), .val (.int v25), .val (.int v27), .val (.int v29), .val (.int v35), .val (.int v41), .val (.int v47), .val (.int v53), .val (.int v61), .val (.int v69), .val (.int v77), .val (.long v98), .second, .val (.long v119), .second, .val (.ref b121), .val (.ref b161), .val (.ref b193), .val (.long v233), .second]) rfl ?_
    show Steps p.tables e below (T229.setTop (mkF m 377 #[.val (.long q0), .second, .val (.long q1), .second, .val (.long q2), .second, .val (.int p3), .val (.int p4), .val (.int p5), .val (.long v1), .second, .val (.long v3), .second, .val (.long v5), .second, .val (.int v11), .val (.int v17), .val (.int v23), .val (.int v25), .val (.int v27), .val (.int v29), .val (.int v35), .val (.int v41), .val (.int v47), .val (.int v53), .val (.int v61), .val (.int v69), .val (.int v77), .val (.long v98), .second, .val (.long v119), .second, .val (.ref b121), .val (.ref b161), .val (.ref b193), .val (.long v233), .second] [])) _
    refine XS.lload X229'.here hx rfl (hb hby at_377) rfl ?_
    show Steps p.tables e below (T229.setTop (mkF m 379 #[.val (.long q0), .second, .val (.long q1), .second, .val (.long q2), .second, .val (.int p3), .val (.int p4), .val (.int p5), .val (.long v1), .second, .val (.long v3), .second, .val (.long v5), .second, .val (.int v11), .val (.int v17), .val (.int v23), .val (.int v25), .val (.int v27), .val (.int v29), .val (.int v35), .val (.int v41), .val (.int v47), .val (.int v53), .val (.int v61), .val (.int v69), .val (.int v77), .val (.long v98), .second, .val (.long v119), .second, .val (.ref b121), .val (.ref b161), .val (.ref b193), .val (.long v233), .second] [(.long v233)])) _
    refine XS.lload X229'.here hx rfl (hb hby at_379) rfl ?_
    show Steps p.tables e below (T229.setTop (mkF m 381 #[.val (.long q0), .second, .val (.long q1), .second, .val (.long q2), .second, .val (.int p3), .val (.int p4), .val (.int p5), .val (.long v1), .second, .val (.long v3), .second, .val (.long v5), .second, .val (.int v11), .val (.int v17), .val (.int v23), .val (.int v25), .val (.int v27), .val (.int v29), .val (.int v35), .val (.int v41), .val (.int v47), .val (.int v53), .val (.int v61), .val (.int v69), .val (.int v77), .val (.long v98), .second, .val (.long v119), .second, .val (.ref b121), .val (.ref b161), .val (.ref b193), .val (.long v233), .second] [(.long v119), (.long v233)])) _
    refine XS.lcmp X229'.here hx rfl (hb hby at_381) rfl ?_
    exact k
  refine own_End.go (fun t k => st2 _ (st4 _ (st6 _ (st7 _ (st12 _ (st13 _ (st18 _ (st19 _ (st24 _ (st26 _ (st28 _ (st30 _ (st31 _ (st36 _ (st37 _ (st42 _ (st43 _ (st48 _ (st49 _ (st54 _ (st55 _ (st56 _ (st62 _ (st63 _ (st64 _ (st70 _ (st71 _ (st72 _ (st78 _ (st79 _ (st84 _ (st85 _ (st90 _ (st91 _ (st97 _ (st99 _ (st100 _ (st105 _ (st106 _ (st111 _ (st112 _ (st118 _ (st120 _ (st121 _ (st123 _ (st124 _ (st129 _ (st130 _ (st136 _ (st137 _ (st143 _ (st144 _ (st150 _ (st160 _ (st161 _ (st168 _ (st169 _ (st176 _ (st177 _ (st184 _ (st185 _ (st192 _ (st193 _ (st201 _ (st202 _ (st210 _ (st211 _ (st219 _ (st220 _ (st228 _ (st229 _ (st234 _ k)))))))))))))))))))))))))))))))))))))))))))))))))))))))))))))))))))))))) ?_
  by_cases hc382_235 : v233 = v119
  · have st236 : ∀ t, Steps p.tables e below (T229.setTop (mkF m 391 #[.val (.long q0), .second, .val (.long q1), .second, .val (.long q2), .second, .val (.int p3), .val (.int p4), .val (.int p5), .val (.long v1), .second, .val (.long v3), .second, .val (.long v5), .second, .val (.int v11), .val (.int v17), .val (.int v23), .val (.int v25), .val (.int v27), .val (.int v29), .val (.int v35), .val (.int v41), .val (.int v47), .val (.int v53), .val (.int v61), .val (.int v69), .val (.int v77), .val (.long v98), .second, .val (.long v119), .second, .val (.ref b121), .val (.ref b161), .val (.ref b193), .val (.long v233), .second] [(.int v11), (.int (nar .boolean v11))])) t → Steps p.tables e below (T229.setTop (mkF m 382 #[.val (.long q0), .second, .val (.long q1), .second, .val (.long q2), .second, .val (.int p3), .val (.int p4), .val (.int p5), .val (.long v1), .second, .val (.long v3), .second, .val (.long v5), .second, .val (.int v11), .val (.int v17), .val (.int v23), .val (.int v25), .val (.int v27), .val (.int v29), .val (.int v35), .val (.int v41), .val (.int v47), .val (.int v53), .val (.int v61), .val (.int v69), .val (.int v77), .val (.long v98), .second, .val (.long v119), .second, .val (.ref b121), .val (.ref b161), .val (.ref b193), .val (.long v233), .second] [(.int (lcmpW v233 v119))])) t := by
      intro t k
      show Steps p.tables e below (T229.setTop (mkF m 382 #[.val (.long q0), .second, .val (.long q1), .second, .val (.long q2), .second, .val (.int p3), .val (.int p4), .val (.int p5), .val (.long v1), .second, .val (.long v3), .second, .val (.long v5), .second, .val (.int v11), .val (.int v17), .val (.int v23), .val (.int v25), .val (.int v27), .val (.int v29), .val (.int v35), .val (.int v41), .val (.int v47), .val (.int v53), .val (.int v61), .val (.int v69), .val (.int v77), .val (.long v98), .second, .val (.long v119), .second, .val (.ref b121), .val (.ref b161), .val (.ref b193), .val (.long v233), .second] [(.int (lcmpW v233 v119))])) _
      refine XS.ifNo X229'.here hx rfl (hb hby at_382) rfl ((if0 _ _).trans (teq ((lw_eq v233 v119).mpr hc382_235)).2) ?_
      show Steps p.tables e below (T229.setTop (mkF m 385 #[.val (.long q0), .second, .val (.long q1), .second, .val (.long q2), .second, .val (.int p3), .val (.int p4), .val (.int p5), .val (.long v1), .second, .val (.long v3), .second, .val (.long v5), .second, .val (.int v11), .val (.int v17), .val (.int v23), .val (.int v25), .val (.int v27), .val (.int v29), .val (.int v35), .val (.int v41), .val (.int v47), .val (.int v53), .val (.int v61), .val (.int v69), .val (.int v77), .val (.long v98), .second, .val (.long v119), .second, .val (.ref b121), .val (.ref b161), .val (.ref b193), .val (.long v233), .second] [])) _
      refine XS.aload X229'.here hx rfl (hb hby at_385) rfl rfl ?_
      show Steps p.tables e below (T229.setTop (mkF m 387 #[.val (.long q0), .second, .val (.long q1), .second, .val (.long q2), .second, .val (.int p3), .val (.int p4), .val (.int p5), .val (.long v1), .second, .val (.long v3), .second, .val (.long v5), .second, .val (.int v11), .val (.int v17), .val (.int v23), .val (.int v25), .val (.int v27), .val (.int v29), .val (.int v35), .val (.int v41), .val (.int v47), .val (.int v53), .val (.int v61), .val (.int v69), .val (.int v77), .val (.long v98), .second, .val (.long v119), .second, .val (.ref b121), .val (.ref b161), .val (.ref b193), .val (.long v233), .second] [(.ref b161)])) _
      refine XS.iconst X229'.here hx rfl (hb hby at_387) ?_
      show Steps p.tables e below (T229.setTop (mkF m 388 #[.val (.long q0), .second, .val (.long q1), .second, .val (.long q2), .second, .val (.int p3), .val (.int p4), .val (.int p5), .val (.long v1), .second, .val (.long v3), .second, .val (.long v5), .second, .val (.int v11), .val (.int v17), .val (.int v23), .val (.int v25), .val (.int v27), .val (.int v29), .val (.int v35), .val (.int v41), .val (.int v47), .val (.int v53), .val (.int v61), .val (.int v69), .val (.int v77), .val (.long v98), .second, .val (.long v119), .second, .val (.ref b121), .val (.ref b161), .val (.ref b193), .val (.long v233), .second] [(.int (0 : Int32)), (.ref b161)])) _
      refine own_baloadZ X229' hx hZ e229 f226 (j := (0 : Int32)) (own_in (m := 3) rfl (by decide)) (g := (mkF m 388 #[.val (.long q0), .second, .val (.long q1), .second, .val (.long q2), .second, .val (.int p3), .val (.int p4), .val (.int p5), .val (.long v1), .second, .val (.long v3), .second, .val (.long v5), .second, .val (.int v11), .val (.int v17), .val (.int v23), .val (.int v25), .val (.int v27), .val (.int v29), .val (.int v35), .val (.int v41), .val (.int v47), .val (.int v53), .val (.int v61), .val (.int v69), .val (.int v77), .val (.long v98), .second, .val (.long v119), .second, .val (.ref b121), .val (.ref b161), .val (.ref b193), .val (.long v233), .second] [(.int (0 : Int32)), (.ref b161)])) rfl rfl (hb hby at_388) _ ?_
      show Steps p.tables e below (T229.setTop (mkF m 389 #[.val (.long q0), .second, .val (.long q1), .second, .val (.long q2), .second, .val (.int p3), .val (.int p4), .val (.int p5), .val (.long v1), .second, .val (.long v3), .second, .val (.long v5), .second, .val (.int v11), .val (.int v17), .val (.int v23), .val (.int v25), .val (.int v27), .val (.int v29), .val (.int v35), .val (.int v41), .val (.int v47), .val (.int v53), .val (.int v61), .val (.int v69), .val (.int v77), .val (.long v98), .second, .val (.long v119), .second, .val (.ref b121), .val (.ref b161), .val (.ref b193), .val (.long v233), .second] [(.int (nar .boolean v11))])) _
      refine XS.iload X229'.here hx rfl (hb hby at_389) rfl ?_
      exact k
    refine own_End.go (fun t k => st236 _ k) ?_
    by_cases hc391_237 : (nar .boolean v11) = v11
    · have st238 : ∀ t, Steps p.tables e below (T229.setTop (mkF m 400 #[.val (.long q0), .second, .val (.long q1), .second, .val (.long q2), .second, .val (.int p3), .val (.int p4), .val (.int p5), .val (.long v1), .second, .val (.long v3), .second, .val (.long v5), .second, .val (.int v11), .val (.int v17), .val (.int v23), .val (.int v25), .val (.int v27), .val (.int v29), .val (.int v35), .val (.int v41), .val (.int v47), .val (.int v53), .val (.int v61), .val (.int v69), .val (.int v77), .val (.long v98), .second, .val (.long v119), .second, .val (.ref b121), .val (.ref b161), .val (.ref b193), .val (.long v233), .second] [(.int v17), (.int (nar .boolean v17))])) t → Steps p.tables e below (T229.setTop (mkF m 391 #[.val (.long q0), .second, .val (.long q1), .second, .val (.long q2), .second, .val (.int p3), .val (.int p4), .val (.int p5), .val (.long v1), .second, .val (.long v3), .second, .val (.long v5), .second, .val (.int v11), .val (.int v17), .val (.int v23), .val (.int v25), .val (.int v27), .val (.int v29), .val (.int v35), .val (.int v41), .val (.int v47), .val (.int v53), .val (.int v61), .val (.int v69), .val (.int v77), .val (.long v98), .second, .val (.long v119), .second, .val (.ref b121), .val (.ref b161), .val (.ref b193), .val (.long v233), .second] [(.int v11), (.int (nar .boolean v11))])) t := by
        intro t k
        show Steps p.tables e below (T229.setTop (mkF m 391 #[.val (.long q0), .second, .val (.long q1), .second, .val (.long q2), .second, .val (.int p3), .val (.int p4), .val (.int p5), .val (.long v1), .second, .val (.long v3), .second, .val (.long v5), .second, .val (.int v11), .val (.int v17), .val (.int v23), .val (.int v25), .val (.int v27), .val (.int v29), .val (.int v35), .val (.int v41), .val (.int v47), .val (.int v53), .val (.int v61), .val (.int v69), .val (.int v77), .val (.long v98), .second, .val (.long v119), .second, .val (.ref b121), .val (.ref b161), .val (.ref b193), .val (.long v233), .second] [(.int v11), (.int (nar .boolean v11))])) _
        refine XS.icmpNo X229'.here hx rfl (hb hby at_391) rfl (teq hc391_237).2 ?_
        show Steps p.tables e below (T229.setTop (mkF m 394 #[.val (.long q0), .second, .val (.long q1), .second, .val (.long q2), .second, .val (.int p3), .val (.int p4), .val (.int p5), .val (.long v1), .second, .val (.long v3), .second, .val (.long v5), .second, .val (.int v11), .val (.int v17), .val (.int v23), .val (.int v25), .val (.int v27), .val (.int v29), .val (.int v35), .val (.int v41), .val (.int v47), .val (.int v53), .val (.int v61), .val (.int v69), .val (.int v77), .val (.long v98), .second, .val (.long v119), .second, .val (.ref b121), .val (.ref b161), .val (.ref b193), .val (.long v233), .second] [])) _
        refine XS.aload X229'.here hx rfl (hb hby at_394) rfl rfl ?_
        show Steps p.tables e below (T229.setTop (mkF m 396 #[.val (.long q0), .second, .val (.long q1), .second, .val (.long q2), .second, .val (.int p3), .val (.int p4), .val (.int p5), .val (.long v1), .second, .val (.long v3), .second, .val (.long v5), .second, .val (.int v11), .val (.int v17), .val (.int v23), .val (.int v25), .val (.int v27), .val (.int v29), .val (.int v35), .val (.int v41), .val (.int v47), .val (.int v53), .val (.int v61), .val (.int v69), .val (.int v77), .val (.long v98), .second, .val (.long v119), .second, .val (.ref b121), .val (.ref b161), .val (.ref b193), .val (.long v233), .second] [(.ref b161)])) _
        refine XS.iconst X229'.here hx rfl (hb hby at_396) ?_
        show Steps p.tables e below (T229.setTop (mkF m 397 #[.val (.long q0), .second, .val (.long q1), .second, .val (.long q2), .second, .val (.int p3), .val (.int p4), .val (.int p5), .val (.long v1), .second, .val (.long v3), .second, .val (.long v5), .second, .val (.int v11), .val (.int v17), .val (.int v23), .val (.int v25), .val (.int v27), .val (.int v29), .val (.int v35), .val (.int v41), .val (.int v47), .val (.int v53), .val (.int v61), .val (.int v69), .val (.int v77), .val (.long v98), .second, .val (.long v119), .second, .val (.ref b121), .val (.ref b161), .val (.ref b193), .val (.long v233), .second] [(.int (1 : Int32)), (.ref b161)])) _
        refine own_baloadZ X229' hx hZ e229 f226 (j := (1 : Int32)) (own_in (m := 3) rfl (by decide)) (g := (mkF m 397 #[.val (.long q0), .second, .val (.long q1), .second, .val (.long q2), .second, .val (.int p3), .val (.int p4), .val (.int p5), .val (.long v1), .second, .val (.long v3), .second, .val (.long v5), .second, .val (.int v11), .val (.int v17), .val (.int v23), .val (.int v25), .val (.int v27), .val (.int v29), .val (.int v35), .val (.int v41), .val (.int v47), .val (.int v53), .val (.int v61), .val (.int v69), .val (.int v77), .val (.long v98), .second, .val (.long v119), .second, .val (.ref b121), .val (.ref b161), .val (.ref b193), .val (.long v233), .second] [(.int (1 : Int32)), (.ref b161)])) rfl rfl (hb hby at_397) _ ?_
        show Steps p.tables e below (T229.setTop (mkF m 398 #[.val (.long q0), .second, .val (.long q1), .second, .val (.long q2), .second, .val (.int p3), .val (.int p4), .val (.int p5), .val (.long v1), .second, .val (.long v3), .second, .val (.long v5), .second, .val (.int v11), .val (.int v17), .val (.int v23), .val (.int v25), .val (.int v27), .val (.int v29), .val (.int v35), .val (.int v41), .val (.int v47), .val (.int v53), .val (.int v61), .val (.int v69), .val (.int v77), .val (.long v98), .second, .val (.long v119), .second, .val (.ref b121), .val (.ref b161), .val (.ref b193), .val (.long v233), .second] [(.int (nar .boolean v17))])) _
        refine XS.iload X229'.here hx rfl (hb hby at_398) rfl ?_
        exact k
      refine own_End.go (fun t k => st238 _ k) ?_
      by_cases hc400_239 : (nar .boolean v17) = v17
      · have st240 : ∀ t, Steps p.tables e below (T229.setTop (mkF m 409 #[.val (.long q0), .second, .val (.long q1), .second, .val (.long q2), .second, .val (.int p3), .val (.int p4), .val (.int p5), .val (.long v1), .second, .val (.long v3), .second, .val (.long v5), .second, .val (.int v11), .val (.int v17), .val (.int v23), .val (.int v25), .val (.int v27), .val (.int v29), .val (.int v35), .val (.int v41), .val (.int v47), .val (.int v53), .val (.int v61), .val (.int v69), .val (.int v77), .val (.long v98), .second, .val (.long v119), .second, .val (.ref b121), .val (.ref b161), .val (.ref b193), .val (.long v233), .second] [(.int v23), (.int (nar .boolean v23))])) t → Steps p.tables e below (T229.setTop (mkF m 400 #[.val (.long q0), .second, .val (.long q1), .second, .val (.long q2), .second, .val (.int p3), .val (.int p4), .val (.int p5), .val (.long v1), .second, .val (.long v3), .second, .val (.long v5), .second, .val (.int v11), .val (.int v17), .val (.int v23), .val (.int v25), .val (.int v27), .val (.int v29), .val (.int v35), .val (.int v41), .val (.int v47), .val (.int v53), .val (.int v61), .val (.int v69), .val (.int v77), .val (.long v98), .second, .val (.long v119), .second, .val (.ref b121), .val (.ref b161), .val (.ref b193), .val (.long v233), .second] [(.int v17), (.int (nar .boolean v17))])) t := by
          intro t k
          show Steps p.tables e below (T229.setTop (mkF m 400 #[.val (.long q0), .second, .val (.long q1), .second, .val (.long q2), .second, .val (.int p3), .val (.int p4), .val (.int p5), .val (.long v1), .second, .val (.long v3), .second, .val (.long v5), .second, .val (.int v11), .val (.int v17), .val (.int v23), .val (.int v25), .val (.int v27), .val (.int v29), .val (.int v35), .val (.int v41), .val (.int v47), .val (.int v53), .val (.int v61), .val (.int v69), .val (.int v77), .val (.long v98), .second, .val (.long v119), .second, .val (.ref b121), .val (.ref b161), .val (.ref b193), .val (.long v233), .second] [(.int v17), (.int (nar .boolean v17))])) _
          refine XS.icmpNo X229'.here hx rfl (hb hby at_400) rfl (teq hc400_239).2 ?_
          show Steps p.tables e below (T229.setTop (mkF m 403 #[.val (.long q0), .second, .val (.long q1), .second, .val (.long q2), .second, .val (.int p3), .val (.int p4), .val (.int p5), .val (.long v1), .second, .val (.long v3), .second, .val (.long v5), .second, .val (.int v11), .val (.int v17), .val (.int v23), .val (.int v25), .val (.int v27), .val (.int v29), .val (.int v35), .val (.int v41), .val (.int v47), .val (.int v53), .val (.int v61), .val (.int v69), .val (.int v77), .val (.long v98), .second, .val (.long v119), .second, .val (.ref b121), .val (.ref b161), .val (.ref b193), .val (.long v233), .second] [])) _
          refine XS.aload X229'.here hx rfl (hb hby at_403) rfl rfl ?_
          show Steps p.tables e below (T229.setTop (mkF m 405 #[.val (.long q0), .second, .val (.long q1), .second, .val (.long q2), .second, .val (.int p3), .val (.int p4), .val (.int p5), .val (.long v1), .second, .val (.long v3), .second, .val (.long v5), .second, .val (.int v11), .val (.int v17), .val (.int v23), .val (.int v25), .val (.int v27), .val (.int v29), .val (.int v35), .val (.int v41), .val (.int v47), .val (.int v53), .val (.int v61), .val (.int v69), .val (.int v77), .val (.long v98), .second, .val (.long v119), .second, .val (.ref b121), .val (.ref b161), .val (.ref b193), .val (.long v233), .second] [(.ref b161)])) _
          refine XS.iconst X229'.here hx rfl (hb hby at_405) ?_
          show Steps p.tables e below (T229.setTop (mkF m 406 #[.val (.long q0), .second, .val (.long q1), .second, .val (.long q2), .second, .val (.int p3), .val (.int p4), .val (.int p5), .val (.long v1), .second, .val (.long v3), .second, .val (.long v5), .second, .val (.int v11), .val (.int v17), .val (.int v23), .val (.int v25), .val (.int v27), .val (.int v29), .val (.int v35), .val (.int v41), .val (.int v47), .val (.int v53), .val (.int v61), .val (.int v69), .val (.int v77), .val (.long v98), .second, .val (.long v119), .second, .val (.ref b121), .val (.ref b161), .val (.ref b193), .val (.long v233), .second] [(.int (2 : Int32)), (.ref b161)])) _
          refine own_baloadZ X229' hx hZ e229 f226 (j := (2 : Int32)) (own_in (m := 3) rfl (by decide)) (g := (mkF m 406 #[.val (.long q0), .second, .val (.long q1), .second, .val (.long q2), .second, .val (.int p3), .val (.int p4), .val (.int p5), .val (.long v1), .second, .val (.long v3), .second, .val (.long v5), .second, .val (.int v11), .val (.int v17), .val (.int v23), .val (.int v25), .val (.int v27), .val (.int v29), .val (.int v35), .val (.int v41), .val (.int v47), .val (.int v53), .val (.int v61), .val (.int v69), .val (.int v77), .val (.long v98), .second, .val (.long v119), .second, .val (.ref b121), .val (.ref b161), .val (.ref b193), .val (.long v233), .second] [(.int (2 : Int32)), (.ref b161)])) rfl rfl (hb hby at_406) _ ?_
          show Steps p.tables e below (T229.setTop (mkF m 407 #[.val (.long q0), .second, .val (.long q1), .second, .val (.long q2), .second, .val (.int p3), .val (.int p4), .val (.int p5), .val (.long v1), .second, .val (.long v3), .second, .val (.long v5), .second, .val (.int v11), .val (.int v17), .val (.int v23), .val (.int v25), .val (.int v27), .val (.int v29), .val (.int v35), .val (.int v41), .val (.int v47), .val (.int v53), .val (.int v61), .val (.int v69), .val (.int v77), .val (.long v98), .second, .val (.long v119), .second, .val (.ref b121), .val (.ref b161), .val (.ref b193), .val (.long v233), .second] [(.int (nar .boolean v23))])) _
          refine XS.iload X229'.here hx rfl (hb hby at_407) rfl ?_
          exact k
        refine own_End.go (fun t k => st240 _ k) ?_
        by_cases hc409_241 : (nar .boolean v23) = v23
        · have st242 : ∀ t, Steps p.tables e below (T229.setTop (mkF m 444 #[.val (.long q0), .second, .val (.long q1), .second, .val (.long q2), .second, .val (.int p3), .val (.int p4), .val (.int p5), .val (.long v1), .second, .val (.long v3), .second, .val (.long v5), .second, .val (.int v11), .val (.int v17), .val (.int v23), .val (.int v25), .val (.int v27), .val (.int v29), .val (.int v35), .val (.int v41), .val (.int v47), .val (.int v53), .val (.int v61), .val (.int v69), .val (.int v77), .val (.long v98), .second, .val (.long v119), .second, .val (.ref b121), .val (.ref b161), .val (.ref b193), .val (.long v233), .second] [(.int (1 : Int32))])) t → Steps p.tables e below (T229.setTop (mkF m 409 #[.val (.long q0), .second, .val (.long q1), .second, .val (.long q2), .second, .val (.int p3), .val (.int p4), .val (.int p5), .val (.long v1), .second, .val (.long v3), .second, .val (.long v5), .second, .val (.int v11), .val (.int v17), .val (.int v23), .val (.int v25), .val (.int v27), .val (.int v29), .val (.int v35), .val (.int v41), .val (.int v47), .val (.int v53), .val (.int v61), .val (.int v69), .val (.int v77), .val (.long v98), .second, .val (.long v119), .second, .val (.ref b121), .val (.ref b161), .val (.ref b193), .val (.long v233), .second] [(.int v23), (.int (nar .boolean v23))])) t := by
            intro t k
            show Steps p.tables e below (T229.setTop (mkF m 409 #[.val (.long q0), .second, .val (.long q1), .second, .val (.long q2), .second, .val (.int p3), .val (.int p4), .val (.int p5), .val (.long v1), .second, .val (.long v3), .second, .val (.long v5), .second, .val (.int v11), .val (.int v17), .val (.int v23), .val (.int v25), .val (.int v27), .val (.int v29), .val (.int v35), .val (.int v41), .val (.int v47), .val (.int v53), .val (.int v61), .val (.int v69), .val (.int v77), .val (.long v98), .second, .val (.long v119), .second, .val (.ref b121), .val (.ref b161), .val (.ref b193), .val (.long v233), .second] [(.int v23), (.int (nar .boolean v23))])) _
            refine XS.icmpNo X229'.here hx rfl (hb hby at_409) rfl (teq hc409_241).2 ?_
            show Steps p.tables e below (T229.setTop (mkF m 412 #[.val (.long q0), .second, .val (.long q1), .second, .val (.long q2), .second, .val (.int p3), .val (.int p4), .val (.int p5), .val (.long v1), .second, .val (.long v3), .second, .val (.long v5), .second, .val (.int v11), .val (.int v17), .val (.int v23), .val (.int v25), .val (.int v27), .val (.int v29), .val (.int v35), .val (.int v41), .val (.int v47), .val (.int v53), .val (.int v61), .val (.int v69), .val (.int v77), .val (.long v98), .second, .val (.long v119), .second, .val (.ref b121), .val (.ref b161), .val (.ref b193), .val (.long v233), .second] [])) _
            refine XS.aload X229'.here hx rfl (hb hby at_412) rfl rfl ?_
            show Steps p.tables e below (T229.setTop (mkF m 414 #[.val (.long q0), .second, .val (.long q1), .second, .val (.long q2), .second, .val (.int p3), .val (.int p4), .val (.int p5), .val (.long v1), .second, .val (.long v3), .second, .val (.long v5), .second, .val (.int v11), .val (.int v17), .val (.int v23), .val (.int v25), .val (.int v27), .val (.int v29), .val (.int v35), .val (.int v41), .val (.int v47), .val (.int v53), .val (.int v61), .val (.int v69), .val (.int v77), .val (.long v98), .second, .val (.long v119), .second, .val (.ref b121), .val (.ref b161), .val (.ref b193), .val (.long v233), .second] [(.ref b193)])) _
            refine XS.iconst X229'.here hx rfl (hb hby at_414) ?_
            show Steps p.tables e below (T229.setTop (mkF m 415 #[.val (.long q0), .second, .val (.long q1), .second, .val (.long q2), .second, .val (.int p3), .val (.int p4), .val (.int p5), .val (.long v1), .second, .val (.long v3), .second, .val (.long v5), .second, .val (.int v11), .val (.int v17), .val (.int v23), .val (.int v25), .val (.int v27), .val (.int v29), .val (.int v35), .val (.int v41), .val (.int v47), .val (.int v53), .val (.int v61), .val (.int v69), .val (.int v77), .val (.long v98), .second, .val (.long v119), .second, .val (.ref b121), .val (.ref b161), .val (.ref b193), .val (.long v233), .second] [(.int (0 : Int32)), (.ref b193)])) _
            refine own_ialoadI X229' hx hZ e229 V220 (j := (0 : Int32)) (own_in (m := 3) rfl (by decide)) (g := (mkF m 415 #[.val (.long q0), .second, .val (.long q1), .second, .val (.long q2), .second, .val (.int p3), .val (.int p4), .val (.int p5), .val (.long v1), .second, .val (.long v3), .second, .val (.long v5), .second, .val (.int v11), .val (.int v17), .val (.int v23), .val (.int v25), .val (.int v27), .val (.int v29), .val (.int v35), .val (.int v41), .val (.int v47), .val (.int v53), .val (.int v61), .val (.int v69), .val (.int v77), .val (.long v98), .second, .val (.long v119), .second, .val (.ref b121), .val (.ref b161), .val (.ref b193), .val (.long v233), .second] [(.int (0 : Int32)), (.ref b193)])) rfl rfl (hb hby at_415) _ ?_
            show Steps p.tables e below (T229.setTop (mkF m 416 #[.val (.long q0), .second, .val (.long q1), .second, .val (.long q2), .second, .val (.int p3), .val (.int p4), .val (.int p5), .val (.long v1), .second, .val (.long v3), .second, .val (.long v5), .second, .val (.int v11), .val (.int v17), .val (.int v23), .val (.int v25), .val (.int v27), .val (.int v29), .val (.int v35), .val (.int v41), .val (.int v47), .val (.int v53), .val (.int v61), .val (.int v69), .val (.int v77), .val (.long v98), .second, .val (.long v119), .second, .val (.ref b121), .val (.ref b161), .val (.ref b193), .val (.long v233), .second] [(.int v29)])) _
            refine XS.iload X229'.here hx rfl (hb hby at_416) rfl ?_
            show Steps p.tables e below (T229.setTop (mkF m 418 #[.val (.long q0), .second, .val (.long q1), .second, .val (.long q2), .second, .val (.int p3), .val (.int p4), .val (.int p5), .val (.long v1), .second, .val (.long v3), .second, .val (.long v5), .second, .val (.int v11), .val (.int v17), .val (.int v23), .val (.int v25), .val (.int v27), .val (.int v29), .val (.int v35), .val (.int v41), .val (.int v47), .val (.int v53), .val (.int v61), .val (.int v69), .val (.int v77), .val (.long v98), .second, .val (.long v119), .second, .val (.ref b121), .val (.ref b161), .val (.ref b193), .val (.long v233), .second] [(.int v29), (.int v29)])) _
            refine XS.icmpNo X229'.here hx rfl (hb hby at_418) rfl (teq (rfl : v29 = v29)).2 ?_
            show Steps p.tables e below (T229.setTop (mkF m 421 #[.val (.long q0), .second, .val (.long q1), .second, .val (.long q2), .second, .val (.int p3), .val (.int p4), .val (.int p5), .val (.long v1), .second, .val (.long v3), .second, .val (.long v5), .second, .val (.int v11), .val (.int v17), .val (.int v23), .val (.int v25), .val (.int v27), .val (.int v29), .val (.int v35), .val (.int v41), .val (.int v47), .val (.int v53), .val (.int v61), .val (.int v69), .val (.int v77), .val (.long v98), .second, .val (.long v119), .second, .val (.ref b121), .val (.ref b161), .val (.ref b193), .val (.long v233), .second] [])) _
            refine XS.aload X229'.here hx rfl (hb hby at_421) rfl rfl ?_
            show Steps p.tables e below (T229.setTop (mkF m 423 #[.val (.long q0), .second, .val (.long q1), .second, .val (.long q2), .second, .val (.int p3), .val (.int p4), .val (.int p5), .val (.long v1), .second, .val (.long v3), .second, .val (.long v5), .second, .val (.int v11), .val (.int v17), .val (.int v23), .val (.int v25), .val (.int v27), .val (.int v29), .val (.int v35), .val (.int v41), .val (.int v47), .val (.int v53), .val (.int v61), .val (.int v69), .val (.int v77), .val (.long v98), .second, .val (.long v119), .second, .val (.ref b121), .val (.ref b161), .val (.ref b193), .val (.long v233), .second] [(.ref b193)])) _
            refine XS.iconst X229'.here hx rfl (hb hby at_423) ?_
            show Steps p.tables e below (T229.setTop (mkF m 424 #[.val (.long q0), .second, .val (.long q1), .second, .val (.long q2), .second, .val (.int p3), .val (.int p4), .val (.int p5), .val (.long v1), .second, .val (.long v3), .second, .val (.long v5), .second, .val (.int v11), .val (.int v17), .val (.int v23), .val (.int v25), .val (.int v27), .val (.int v29), .val (.int v35), .val (.int v41), .val (.int v47), .val (.int v53), .val (.int v61), .val (.int v69), .val (.int v77), .val (.long v98), .second, .val (.long v119), .second, .val (.ref b121), .val (.ref b161), .val (.ref b193), .val (.long v233), .second] [(.int (1 : Int32)), (.ref b193)])) _
            refine own_ialoadI X229' hx hZ e229 V220 (j := (1 : Int32)) (own_in (m := 3) rfl (by decide)) (g := (mkF m 424 #[.val (.long q0), .second, .val (.long q1), .second, .val (.long q2), .second, .val (.int p3), .val (.int p4), .val (.int p5), .val (.long v1), .second, .val (.long v3), .second, .val (.long v5), .second, .val (.int v11), .val (.int v17), .val (.int v23), .val (.int v25), .val (.int v27), .val (.int v29), .val (.int v35), .val (.int v41), .val (.int v47), .val (.int v53), .val (.int v61), .val (.int v69), .val (.int v77), .val (.long v98), .second, .val (.long v119), .second, .val (.ref b121), .val (.ref b161), .val (.ref b193), .val (.long v233), .second] [(.int (1 : Int32)), (.ref b193)])) rfl rfl (hb hby at_424) _ ?_
            show Steps p.tables e below (T229.setTop (mkF m 425 #[.val (.long q0), .second, .val (.long q1), .second, .val (.long q2), .second, .val (.int p3), .val (.int p4), .val (.int p5), .val (.long v1), .second, .val (.long v3), .second, .val (.long v5), .second, .val (.int v11), .val (.int v17), .val (.int v23), .val (.int v25), .val (.int v27), .val (.int v29), .val (.int v35), .val (.int v41), .val (.int v47), .val (.int v53), .val (.int v61), .val (.int v69), .val (.int v77), .val (.long v98), .second, .val (.long v119), .second, .val (.ref b121), .val (.ref b161), .val (.ref b193), .val (.long v233), .second] [(.int v47)])) _
            refine XS.iload X229'.here hx rfl (hb hby at_425) rfl ?_
            show Steps p.tables e below (T229.setTop (mkF m 427 #[.val (.long q0), .second, .val (.long q1), .second, .val (.long q2), .second, .val (.int p3), .val (.int p4), .val (.int p5), .val (.long v1), .second, .val (.long v3), .second, .val (.long v5), .second, .val (.int v11), .val (.int v17), .val (.int v23), .val (.int v25), .val (.int v27), .val (.int v29), .val (.int v35), .val (.int v41), .val (.int v47), .val (.int v53), .val (.int v61), .val (.int v69), .val (.int v77), .val (.long v98), .second, .val (.long v119), .second, .val (.ref b121), .val (.ref b161), .val (.ref b193), .val (.long v233), .second] [(.int v47), (.int v47)])) _
            refine XS.icmpNo X229'.here hx rfl (hb hby at_427) rfl (teq (rfl : v47 = v47)).2 ?_
            show Steps p.tables e below (T229.setTop (mkF m 430 #[.val (.long q0), .second, .val (.long q1), .second, .val (.long q2), .second, .val (.int p3), .val (.int p4), .val (.int p5), .val (.long v1), .second, .val (.long v3), .second, .val (.long v5), .second, .val (.int v11), .val (.int v17), .val (.int v23), .val (.int v25), .val (.int v27), .val (.int v29), .val (.int v35), .val (.int v41), .val (.int v47), .val (.int v53), .val (.int v61), .val (.int v69), .val (.int v77), .val (.long v98), .second, .val (.long v119), .second, .val (.ref b121), .val (.ref b161), .val (.ref b193), .val (.long v233), .second] [])) _
            refine XS.aload X229'.here hx rfl (hb hby at_430) rfl rfl ?_
            show Steps p.tables e below (T229.setTop (mkF m 432 #[.val (.long q0), .second, .val (.long q1), .second, .val (.long q2), .second, .val (.int p3), .val (.int p4), .val (.int p5), .val (.long v1), .second, .val (.long v3), .second, .val (.long v5), .second, .val (.int v11), .val (.int v17), .val (.int v23), .val (.int v25), .val (.int v27), .val (.int v29), .val (.int v35), .val (.int v41), .val (.int v47), .val (.int v53), .val (.int v61), .val (.int v69), .val (.int v77), .val (.long v98), .second, .val (.long v119), .second, .val (.ref b121), .val (.ref b161), .val (.ref b193), .val (.long v233), .second] [(.ref b193)])) _
            refine XS.iconst X229'.here hx rfl (hb hby at_432) ?_
            show Steps p.tables e below (T229.setTop (mkF m 433 #[.val (.long q0), .second, .val (.long q1), .second, .val (.long q2), .second, .val (.int p3), .val (.int p4), .val (.int p5), .val (.long v1), .second, .val (.long v3), .second, .val (.long v5), .second, .val (.int v11), .val (.int v17), .val (.int v23), .val (.int v25), .val (.int v27), .val (.int v29), .val (.int v35), .val (.int v41), .val (.int v47), .val (.int v53), .val (.int v61), .val (.int v69), .val (.int v77), .val (.long v98), .second, .val (.long v119), .second, .val (.ref b121), .val (.ref b161), .val (.ref b193), .val (.long v233), .second] [(.int (2 : Int32)), (.ref b193)])) _
            refine own_ialoadI X229' hx hZ e229 V220 (j := (2 : Int32)) (own_in (m := 3) rfl (by decide)) (g := (mkF m 433 #[.val (.long q0), .second, .val (.long q1), .second, .val (.long q2), .second, .val (.int p3), .val (.int p4), .val (.int p5), .val (.long v1), .second, .val (.long v3), .second, .val (.long v5), .second, .val (.int v11), .val (.int v17), .val (.int v23), .val (.int v25), .val (.int v27), .val (.int v29), .val (.int v35), .val (.int v41), .val (.int v47), .val (.int v53), .val (.int v61), .val (.int v69), .val (.int v77), .val (.long v98), .second, .val (.long v119), .second, .val (.ref b121), .val (.ref b161), .val (.ref b193), .val (.long v233), .second] [(.int (2 : Int32)), (.ref b193)])) rfl rfl (hb hby at_433) _ ?_
            show Steps p.tables e below (T229.setTop (mkF m 434 #[.val (.long q0), .second, .val (.long q1), .second, .val (.long q2), .second, .val (.int p3), .val (.int p4), .val (.int p5), .val (.long v1), .second, .val (.long v3), .second, .val (.long v5), .second, .val (.int v11), .val (.int v17), .val (.int v23), .val (.int v25), .val (.int v27), .val (.int v29), .val (.int v35), .val (.int v41), .val (.int v47), .val (.int v53), .val (.int v61), .val (.int v69), .val (.int v77), .val (.long v98), .second, .val (.long v119), .second, .val (.ref b121), .val (.ref b161), .val (.ref b193), .val (.long v233), .second] [(.int v53)])) _
            refine XS.iload X229'.here hx rfl (hb hby at_434) rfl ?_
            show Steps p.tables e below (T229.setTop (mkF m 436 #[.val (.long q0), .second, .val (.long q1), .second, .val (.long q2), .second, .val (.int p3), .val (.int p4), .val (.int p5), .val (.long v1), .second, .val (.long v3), .second, .val (.long v5), .second, .val (.int v11), .val (.int v17), .val (.int v23), .val (.int v25), .val (.int v27), .val (.int v29), .val (.int v35), .val (.int v41), .val (.int v47), .val (.int v53), .val (.int v61), .val (.int v69), .val (.int v77), .val (.long v98), .second, .val (.long v119), .second, .val (.ref b121), .val (.ref b161), .val (.ref b193), .val (.long v233), .second] [(.int v53), (.int v53)])) _
            refine XS.icmpNo X229'.here hx rfl (hb hby at_436) rfl (teq (rfl : v53 = v53)).2 ?_
            show Steps p.tables e below (T229.setTop (mkF m 439 #[.val (.long q0), .second, .val (.long q1), .second, .val (.long q2), .second, .val (.int p3), .val (.int p4), .val (.int p5), .val (.long v1), .second, .val (.long v3), .second, .val (.long v5), .second, .val (.int v11), .val (.int v17), .val (.int v23), .val (.int v25), .val (.int v27), .val (.int v29), .val (.int v35), .val (.int v41), .val (.int v47), .val (.int v53), .val (.int v61), .val (.int v69), .val (.int v77), .val (.long v98), .second, .val (.long v119), .second, .val (.ref b121), .val (.ref b161), .val (.ref b193), .val (.long v233), .second] [])) _
            refine XS.iconst X229'.here hx rfl (hb hby at_439) ?_
            show Steps p.tables e below (T229.setTop (mkF m 440 #[.val (.long q0), .second, .val (.long q1), .second, .val (.long q2), .second, .val (.int p3), .val (.int p4), .val (.int p5), .val (.long v1), .second, .val (.long v3), .second, .val (.long v5), .second, .val (.int v11), .val (.int v17), .val (.int v23), .val (.int v25), .val (.int v27), .val (.int v29), .val (.int v35), .val (.int v41), .val (.int v47), .val (.int v53), .val (.int v61), .val (.int v69), .val (.int v77), .val (.long v98), .second, .val (.long v119), .second, .val (.ref b121), .val (.ref b161), .val (.ref b193), .val (.long v233), .second] [(.int (1 : Int32))])) _
            refine XS.goto X229'.here hx rfl (pc0 := 440) (pc' := 444) rfl (hb hby at_440) (by decide) (by decide) ?_
            exact k
          refine own_End.go (fun t k => st242 _ k) ?_
          exact own_leafN X229' hx Bd.notSynchronized (t := .boolean) Bd.returns (by simp) (hb hby at_444) ⟨congrArg (fun z => some (Value.int z)) (own_e0_243 hv1 hv3 hv5 hv11 hv17 hv23 hv25 hv27 hv29 hv35 hv41 hv47 hv53 hv57 hv61 hv65 hv69 hv73 hv77 hv83 hv89 hv95 hv96 hv98 hv104 hv110 hv116 hv117 hv119 hv233 hc382_235 hc391_237 hc400_239 hc409_241), N220⟩ (by decide) (by decide)
        · have st244 : ∀ t, Steps p.tables e below (T229.setTop (mkF m 444 #[.val (.long q0), .second, .val (.long q1), .second, .val (.long q2), .second, .val (.int p3), .val (.int p4), .val (.int p5), .val (.long v1), .second, .val (.long v3), .second, .val (.long v5), .second, .val (.int v11), .val (.int v17), .val (.int v23), .val (.int v25), .val (.int v27), .val (.int v29), .val (.int v35), .val (.int v41), .val (.int v47), .val (.int v53), .val (.int v61), .val (.int v69), .val (.int v77), .val (.long v98), .second, .val (.long v119), .second, .val (.ref b121), .val (.ref b161), .val (.ref b193), .val (.long v233), .second] [(.int (0 : Int32))])) t → Steps p.tables e below (T229.setTop (mkF m 409 #[.val (.long q0), .second, .val (.long q1), .second, .val (.long q2), .second, .val (.int p3), .val (.int p4), .val (.int p5), .val (.long v1), .second, .val (.long v3), .second, .val (.long v5), .second, .val (.int v11), .val (.int v17), .val (.int v23), .val (.int v25), .val (.int v27), .val (.int v29), .val (.int v35), .val (.int v41), .val (.int v47), .val (.int v53), .val (.int v61), .val (.int v69), .val (.int v77), .val (.long v98), .second, .val (.long v119), .second, .val (.ref b121), .val (.ref b161), .val (.ref b193), .val (.long v233), .second] [(.int v23), (.int (nar .boolean v23))])) t := by
            intro t k
            show Steps p.tables e below (T229.setTop (mkF m 409 #[.val (.long q0), .second, .val (.long q1), .second, .val (.long q2), .second, .val (.int p3), .val (.int p4), .val (.int p5), .val (.long v1), .second, .val (.long v3), .second, .val (.long v5), .second, .val (.int v11), .val (.int v17), .val (.int v23), .val (.int v25), .val (.int v27), .val (.int v29), .val (.int v35), .val (.int v41), .val (.int v47), .val (.int v53), .val (.int v61), .val (.int v69), .val (.int v77), .val (.long v98), .second, .val (.long v119), .second, .val (.ref b121), .val (.ref b161), .val (.ref b193), .val (.long v233), .second] [(.int v23), (.int (nar .boolean v23))])) _
            refine XS.icmpYes X229'.here hx rfl (pc0 := 409) (pc' := 443) rfl (hb hby at_409) rfl (feq hc409_241).2 (by decide) (by decide) ?_
            show Steps p.tables e below (T229.setTop (mkF m 443 #[.val (.long q0), .second, .val (.long q1), .second, .val (.long q2), .second, .val (.int p3), .val (.int p4), .val (.int p5), .val (.long v1), .second, .val (.long v3), .second, .val (.long v5), .second, .val (.int v11), .val (.int v17), .val (.int v23), .val (.int v25), .val (.int v27), .val (.int v29), .val (.int v35), .val (.int v41), .val (.int v47), .val (.int v53), .val (.int v61), .val (.int v69), .val (.int v77), .val (.long v98), .second, .val (.long v119), .second, .val (.ref b121), .val (.ref b161), .val (.ref b193), .val (.long v233), .second] [])) _
            refine XS.iconst X229'.here hx rfl (hb hby at_443) ?_
            exact k
          refine own_End.go (fun t k => st244 _ k) ?_
          exact own_leafN X229' hx Bd.notSynchronized (t := .boolean) Bd.returns (by simp) (hb hby at_444) ⟨congrArg (fun z => some (Value.int z)) (own_e0_245 hv1 hv3 hv5 hv11 hv17 hv23 hv25 hv27 hv29 hv35 hv41 hv47 hv53 hv57 hv61 hv65 hv69 hv73 hv77 hv83 hv89 hv95 hv96 hv98 hv104 hv110 hv116 hv117 hv119 hv233 hc382_235 hc391_237 hc400_239 hc409_241), N220⟩ (by decide) (by decide)
      · have st246 : ∀ t, Steps p.tables e below (T229.setTop (mkF m 444 #[.val (.long q0), .second, .val (.long q1), .second, .val (.long q2), .second, .val (.int p3), .val (.int p4), .val (.int p5), .val (.long v1), .second, .val (.long v3), .second, .val (.long v5), .second, .val (.int v11), .val (.int v17), .val (.int v23), .val (.int v25), .val (.int v27), .val (.int v29), .val (.int v35), .val (.int v41), .val (.int v47), .val (.int v53), .val (.int v61), .val (.int v69), .val (.int v77), .val (.long v98), .second, .val (.long v119), .second, .val (.ref b121), .val (.ref b161), .val (.ref b193), .val (.long v233), .second] [(.int (0 : Int32))])) t → Steps p.tables e below (T229.setTop (mkF m 400 #[.val (.long q0), .second, .val (.long q1), .second, .val (.long q2), .second, .val (.int p3), .val (.int p4), .val (.int p5), .val (.long v1), .second, .val (.long v3), .second, .val (.long v5), .second, .val (.int v11), .val (.int v17), .val (.int v23), .val (.int v25), .val (.int v27), .val (.int v29), .val (.int v35), .val (.int v41), .val (.int v47), .val (.int v53), .val (.int v61), .val (.int v69), .val (.int v77), .val (.long v98), .second, .val (.long v119), .second, .val (.ref b121), .val (.ref b161), .val (.ref b193), .val (.long v233), .second] [(.int v17), (.int (nar .boolean v17))])) t := by
          intro t k
          show Steps p.tables e below (T229.setTop (mkF m 400 #[.val (.long q0), .second, .val (.long q1), .second, .val (.long q2), .second, .val (.int p3), .val (.int p4), .val (.int p5), .val (.long v1), .second, .val (.long v3), .second, .val (.long v5), .second, .val (.int v11), .val (.int v17), .val (.int v23), .val (.int v25), .val (.int v27), .val (.int v29), .val (.int v35), .val (.int v41), .val (.int v47), .val (.int v53), .val (.int v61), .val (.int v69), .val (.int v77), .val (.long v98), .second, .val (.long v119), .second, .val (.ref b121), .val (.ref b161), .val (.ref b193), .val (.long v233), .second] [(.int v17), (.int (nar .boolean v17))])) _
          refine XS.icmpYes X229'.here hx rfl (pc0 := 400) (pc' := 443) rfl (hb hby at_400) rfl (feq hc400_239).2 (by decide) (by decide) ?_
          show Steps p.tables e below (T229.setTop (mkF m 443 #[.val (.long q0), .second, .val (.long q1), .second, .val (.long q2), .second, .val (.int p3), .val (.int p4), .val (.int p5), .val (.long v1), .second, .val (.long v3), .second, .val (.long v5), .second, .val (.int v11), .val (.int v17), .val (.int v23), .val (.int v25), .val (.int v27), .val (.int v29), .val (.int v35), .val (.int v41), .val (.int v47), .val (.int v53), .val (.int v61), .val (.int v69), .val (.int v77), .val (.long v98), .second, .val (.long v119), .second, .val (.ref b121), .val (.ref b161), .val (.ref b193), .val (.long v233), .second] [])) _
          refine XS.iconst X229'.here hx rfl (hb hby at_443) ?_
          exact k
        refine own_End.go (fun t k => st246 _ k) ?_
        exact own_leafN X229' hx Bd.notSynchronized (t := .boolean) Bd.returns (by simp) (hb hby at_444) ⟨congrArg (fun z => some (Value.int z)) (own_e0_247 hv1 hv3 hv5 hv11 hv17 hv23 hv25 hv27 hv29 hv35 hv41 hv47 hv53 hv57 hv61 hv65 hv69 hv73 hv77 hv83 hv89 hv95 hv96 hv98 hv104 hv110 hv116 hv117 hv119 hv233 hc382_235 hc391_237 hc400_239), N220⟩ (by decide) (by decide)
    · have st248 : ∀ t, Steps p.tables e below (T229.setTop (mkF m 444 #[.val (.long q0), .second, .val (.long q1), .second, .val (.long q2), .second, .val (.int p3), .val (.int p4), .val (.int p5), .val (.long v1), .second, .val (.long v3), .second, .val (.long v5), .second, .val (.int v11), .val (.int v17), .val (.int v23), .val (.int v25), .val (.int v27), .val (.int v29), .val (.int v35), .val (.int v41), .val (.int v47), .val (.int v53), .val (.int v61), .val (.int v69), .val (.int v77), .val (.long v98), .second, .val (.long v119), .second, .val (.ref b121), .val (.ref b161), .val (.ref b193), .val (.long v233), .second] [(.int (0 : Int32))])) t → Steps p.tables e below (T229.setTop (mkF m 391 #[.val (.long q0), .second, .val (.long q1), .second, .val (.long q2), .second, .val (.int p3), .val (.int p4), .val (.int p5), .val (.long v1), .second, .val (.long v3), .second, .val (.long v5), .second, .val (.int v11), .val (.int v17), .val (.int v23), .val (.int v25), .val (.int v27), .val (.int v29), .val (.int v35), .val (.int v41), .val (.int v47), .val (.int v53), .val (.int v61), .val (.int v69), .val (.int v77), .val (.long v98), .second, .val (.long v119), .second, .val (.ref b121), .val (.ref b161), .val (.ref b193), .val (.long v233), .second] [(.int v11), (.int (nar .boolean v11))])) t := by
        intro t k
        show Steps p.tables e below (T229.setTop (mkF m 391 #[.val (.long q0), .second, .val (.long q1), .second, .val (.long q2), .second, .val (.int p3), .val (.int p4), .val (.int p5), .val (.long v1), .second, .val (.long v3), .second, .val (.long v5), .second, .val (.int v11), .val (.int v17), .val (.int v23), .val (.int v25), .val (.int v27), .val (.int v29), .val (.int v35), .val (.int v41), .val (.int v47), .val (.int v53), .val (.int v61), .val (.int v69), .val (.int v77), .val (.long v98), .second, .val (.long v119), .second, .val (.ref b121), .val (.ref b161), .val (.ref b193), .val (.long v233), .second] [(.int v11), (.int (nar .boolean v11))])) _
        refine XS.icmpYes X229'.here hx rfl (pc0 := 391) (pc' := 443) rfl (hb hby at_391) rfl (feq hc391_237).2 (by decide) (by decide) ?_
        show Steps p.tables e below (T229.setTop (mkF m 443 #[.val (.long q0), .second, .val (.long q1), .second, .val (.long q2), .second, .val (.int p3), .val (.int p4), .val (.int p5), .val (.long v1), .second, .val (.long v3), .second, .val (.long v5), .second, .val (.int v11), .val (.int v17), .val (.int v23), .val (.int v25), .val (.int v27), .val (.int v29), .val (.int v35), .val (.int v41), .val (.int v47), .val (.int v53), .val (.int v61), .val (.int v69), .val (.int v77), .val (.long v98), .second, .val (.long v119), .second, .val (.ref b121), .val (.ref b161), .val (.ref b193), .val (.long v233), .second] [])) _
        refine XS.iconst X229'.here hx rfl (hb hby at_443) ?_
        exact k
      refine own_End.go (fun t k => st248 _ k) ?_
      exact own_leafN X229' hx Bd.notSynchronized (t := .boolean) Bd.returns (by simp) (hb hby at_444) ⟨congrArg (fun z => some (Value.int z)) (own_e0_249 hv1 hv3 hv5 hv11 hv17 hv23 hv25 hv27 hv29 hv35 hv41 hv47 hv53 hv57 hv61 hv65 hv69 hv73 hv77 hv83 hv89 hv95 hv96 hv98 hv104 hv110 hv116 hv117 hv119 hv233 hc382_235 hc391_237), N220⟩ (by decide) (by decide)
  · have st250 : ∀ t, Steps p.tables e below (T229.setTop (mkF m 444 #[.val (.long q0), .second, .val (.long q1), .second, .val (.long q2), .second, .val (.int p3), .val (.int p4), .val (.int p5), .val (.long v1), .second, .val (.long v3), .second, .val (.long v5), .second, .val (.int v11), .val (.int v17), .val (.int v23), .val (.int v25), .val (.int v27), .val (.int v29), .val (.int v35), .val (.int v41), .val (.int v47), .val (.int v53), .val (.int v61), .val (.int v69), .val (.int v77), .val (.long v98), .second, .val (.long v119), .second, .val (.ref b121), .val (.ref b161), .val (.ref b193), .val (.long v233), .second] [(.int (0 : Int32))])) t → Steps p.tables e below (T229.setTop (mkF m 382 #[.val (.long q0), .second, .val (.long q1), .second, .val (.long q2), .second, .val (.int p3), .val (.int p4), .val (.int p5), .val (.long v1), .second, .val (.long v3), .second, .val (.long v5), .second, .val (.int v11), .val (.int v17), .val (.int v23), .val (.int v25), .val (.int v27), .val (.int v29), .val (.int v35), .val (.int v41), .val (.int v47), .val (.int v53), .val (.int v61), .val (.int v69), .val (.int v77), .val (.long v98), .second, .val (.long v119), .second, .val (.ref b121), .val (.ref b161), .val (.ref b193), .val (.long v233), .second] [(.int (lcmpW v233 v119))])) t := by
      intro t k
      show Steps p.tables e below (T229.setTop (mkF m 382 #[.val (.long q0), .second, .val (.long q1), .second, .val (.long q2), .second, .val (.int p3), .val (.int p4), .val (.int p5), .val (.long v1), .second, .val (.long v3), .second, .val (.long v5), .second, .val (.int v11), .val (.int v17), .val (.int v23), .val (.int v25), .val (.int v27), .val (.int v29), .val (.int v35), .val (.int v41), .val (.int v47), .val (.int v53), .val (.int v61), .val (.int v69), .val (.int v77), .val (.long v98), .second, .val (.long v119), .second, .val (.ref b121), .val (.ref b161), .val (.ref b193), .val (.long v233), .second] [(.int (lcmpW v233 v119))])) _
      refine XS.ifYes X229'.here hx rfl (pc0 := 382) (pc' := 443) rfl (hb hby at_382) rfl ((if0 _ _).trans (feq (mt (lw_eq v233 v119).mp hc382_235)).2) (by decide) (by decide) ?_
      show Steps p.tables e below (T229.setTop (mkF m 443 #[.val (.long q0), .second, .val (.long q1), .second, .val (.long q2), .second, .val (.int p3), .val (.int p4), .val (.int p5), .val (.long v1), .second, .val (.long v3), .second, .val (.long v5), .second, .val (.int v11), .val (.int v17), .val (.int v23), .val (.int v25), .val (.int v27), .val (.int v29), .val (.int v35), .val (.int v41), .val (.int v47), .val (.int v53), .val (.int v61), .val (.int v69), .val (.int v77), .val (.long v98), .second, .val (.long v119), .second, .val (.ref b121), .val (.ref b161), .val (.ref b193), .val (.long v233), .second] [])) _
      refine XS.iconst X229'.here hx rfl (hb hby at_443) ?_
      exact k
    refine own_End.go (fun t k => st250 _ k) ?_
    exact own_leafN X229' hx Bd.notSynchronized (t := .boolean) Bd.returns (by simp) (hb hby at_444) ⟨congrArg (fun z => some (Value.int z)) (own_e0_251 hv1 hv3 hv5 hv11 hv17 hv23 hv25 hv27 hv29 hv35 hv41 hv47 hv53 hv57 hv61 hv65 hv69 hv73 hv77 hv83 hv89 hv95 hv96 hv98 hv104 hv110 hv116 hv117 hv119 hv233 hc382_235), N220⟩ (by decide) (by decide)
def own_H (v1 v3 v5 : Int64) (v27 v25 v11 v17 v23 : Int32) : Int32 :=
  let v29 : Int32 := (v27 / (2 : Int32))
  let v35 : Int32 := (if v29 = (0 : Int32) then (1 : Int32) else (0 : Int32))
  let v41 : Int32 := (if v29 = (2 : Int32) then (1 : Int32) else (2 : Int32))
  let v47 : Int32 := (if (v27 &&& (1 : Int32)) = (0 : Int32) then v35 else v41)
  let v53 : Int32 := (if (v27 &&& (1 : Int32)) = (0 : Int32) then v41 else v35)
  let v57 : Int32 := (own_F1 (0 : Int32) v29 v47 v53 v25)
  let v61 : Int32 := (if v11 = v57 then (0 : Int32) else (1 : Int32))
  let v65 : Int32 := (own_F1 (1 : Int32) v29 v47 v53 v25)
  let v69 : Int32 := (if v17 = v65 then (0 : Int32) else (1 : Int32))
  let v73 : Int32 := (own_F1 (2 : Int32) v29 v47 v53 v25)
  let v77 : Int32 := (if v23 = v73 then (0 : Int32) else (1 : Int32))
  let v83 : Int64 := (if v11 = (0 : Int32) then (0 : Int64) else v1)
  let v89 : Int64 := (if v17 = (0 : Int32) then (0 : Int64) else v3)
  let v95 : Int64 := (if v23 = (0 : Int32) then (0 : Int64) else v5)
  let v96 : Int64 := (v83 + v89)
  let v98 : Int64 := (v96 + v95)
  let v104 : Int64 := (if v61 = (0 : Int32) then (0 : Int64) else v1)
  let v110 : Int64 := (if v69 = (0 : Int32) then (0 : Int64) else v3)
  let v116 : Int64 := (if v77 = (0 : Int32) then (0 : Int64) else v5)
  let v117 : Int64 := (v104 + v110)
  let v119 : Int64 := (v117 + v116)
  let v233 : Int64 := (own_F5 v98 v25 ([v1, v3, v5] : List Int64) ([(nar .boolean v11), (nar .boolean v17), (nar .boolean v23)] : List Int32) ([v29, v47, v53] : List Int32))
  if v233 = v119 then
    if (nar .boolean v11) = v11 then
      if (nar .boolean v17) = v17 then
        if (nar .boolean v23) = v23 then (1 : Int32) else (0 : Int32)
      else (0 : Int32)
    else (0 : Int32)
  else (0 : Int32)
theorem own_red (q0 q1 q2 : Int64) (p3 p4 p5 : Int32) : own_F0 q0 q1 q2 p3 p4 p5 = own_H ((q0 &&& (1152921504606846975 : Int64)) + (1 : Int64)) ((q1 &&& (1152921504606846975 : Int64)) + (1 : Int64)) ((q2 &&& (1152921504606846975 : Int64)) + (1 : Int64)) ((p4 &&& (2147483647 : Int32)) - ((p4 &&& (2147483647 : Int32)) / (6 : Int32)) * (6 : Int32)) (p5 &&& (3 : Int32)) (if (p3 &&& (1 : Int32)) = (0 : Int32) then (0 : Int32) else (1 : Int32)) (if (p3 &&& (2 : Int32)) = (0 : Int32) then (0 : Int32) else (1 : Int32)) (if (p3 &&& (4 : Int32)) = (0 : Int32) then (0 : Int32) else (1 : Int32)) := rfl
theorem own_c_0_0_000 (w0 w1 w2 : Int64) : own_H w0 w1 w2 0 0 0 0 0 = 1 := rfl
theorem own_c_0_0_001 (w0 w1 w2 : Int64) : own_H w0 w1 w2 0 0 0 0 1 = 1 := (if_pos (show (((0 + 0) + w2) : Int64) = ((0 + 0) + w2) from rfl)).trans rfl
theorem own_c_0_0_010 (w0 w1 w2 : Int64) : own_H w0 w1 w2 0 0 0 1 0 = 1 := (if_pos (show (((0 + w1) + 0) : Int64) = ((0 + w1) + 0) from rfl)).trans rfl
theorem own_c_0_0_011 (w0 w1 w2 : Int64) : own_H w0 w1 w2 0 0 0 1 1 = 1 := (if_pos (show (((0 + w1) + w2) : Int64) = ((0 + w1) + w2) from rfl)).trans rfl
theorem own_c_0_0_100 (w0 w1 w2 : Int64) : own_H w0 w1 w2 0 0 1 0 0 = 1 := (if_pos (show (((w0 + 0) + 0) : Int64) = ((w0 + 0) + 0) from rfl)).trans rfl
theorem own_c_0_0_101 (w0 w1 w2 : Int64) : own_H w0 w1 w2 0 0 1 0 1 = 1 := (if_pos (show (((w0 + 0) + w2) : Int64) = ((w0 + 0) + w2) from rfl)).trans rfl
theorem own_c_0_0_110 (w0 w1 w2 : Int64) : own_H w0 w1 w2 0 0 1 1 0 = 1 := (if_pos (show (((w0 + w1) + 0) : Int64) = ((w0 + w1) + 0) from rfl)).trans rfl
theorem own_c_0_0_111 (w0 w1 w2 : Int64) : own_H w0 w1 w2 0 0 1 1 1 = 1 := (if_pos (show (((w0 + w1) + w2) : Int64) = ((w0 + w1) + w2) from rfl)).trans rfl
theorem own_c_0_1_000 (w0 w1 w2 : Int64) : own_H w0 w1 w2 0 1 0 0 0 = 1 := (if_pos (show ((((0 + 0) + 0) + w0) : Int64) = ((w0 + 0) + 0) from by grind)).trans rfl
theorem own_c_0_1_001 (w0 w1 w2 : Int64) : own_H w0 w1 w2 0 1 0 0 1 = 1 := (if_pos (show ((((0 + 0) + w2) + w0) : Int64) = ((w0 + 0) + w2) from by grind)).trans rfl
theorem own_c_0_1_010 (w0 w1 w2 : Int64) : own_H w0 w1 w2 0 1 0 1 0 = 1 := (if_pos (show ((((0 + w1) + 0) + w0) : Int64) = ((w0 + w1) + 0) from by grind)).trans rfl
theorem own_c_0_1_011 (w0 w1 w2 : Int64) : own_H w0 w1 w2 0 1 0 1 1 = 1 := (if_pos (show ((((0 + w1) + w2) + w0) : Int64) = ((w0 + w1) + w2) from by grind)).trans rfl
theorem own_c_0_1_100 (w0 w1 w2 : Int64) : own_H w0 w1 w2 0 1 1 0 0 = 1 := (if_pos (show ((((w0 + 0) + 0) + (-w0)) : Int64) = ((0 + 0) + 0) from by grind)).trans rfl
theorem own_c_0_1_101 (w0 w1 w2 : Int64) : own_H w0 w1 w2 0 1 1 0 1 = 1 := (if_pos (show ((((w0 + 0) + w2) + (-w0)) : Int64) = ((0 + 0) + w2) from by grind)).trans rfl
theorem own_c_0_1_110 (w0 w1 w2 : Int64) : own_H w0 w1 w2 0 1 1 1 0 = 1 := (if_pos (show ((((w0 + w1) + 0) + (-w0)) : Int64) = ((0 + w1) + 0) from by grind)).trans rfl
theorem own_c_0_1_111 (w0 w1 w2 : Int64) : own_H w0 w1 w2 0 1 1 1 1 = 1 := (if_pos (show ((((w0 + w1) + w2) + (-w0)) : Int64) = ((0 + w1) + w2) from by grind)).trans rfl
theorem own_c_0_2_000 (w0 w1 w2 : Int64) : own_H w0 w1 w2 0 2 0 0 0 = 1 := (if_pos (show (((((0 + 0) + 0) + w0) + w1) : Int64) = ((w0 + w1) + 0) from by grind)).trans rfl
theorem own_c_0_2_001 (w0 w1 w2 : Int64) : own_H w0 w1 w2 0 2 0 0 1 = 1 := (if_pos (show (((((0 + 0) + w2) + w0) + w1) : Int64) = ((w0 + w1) + w2) from by grind)).trans rfl
theorem own_c_0_2_010 (w0 w1 w2 : Int64) : own_H w0 w1 w2 0 2 0 1 0 = 1 := (if_pos (show (((((0 + w1) + 0) + w0) + (-w1)) : Int64) = ((w0 + 0) + 0) from by grind)).trans rfl
theorem own_c_0_2_011 (w0 w1 w2 : Int64) : own_H w0 w1 w2 0 2 0 1 1 = 1 := (if_pos (show (((((0 + w1) + w2) + w0) + (-w1)) : Int64) = ((w0 + 0) + w2) from by grind)).trans rfl
theorem own_c_0_2_100 (w0 w1 w2 : Int64) : own_H w0 w1 w2 0 2 1 0 0 = 1 := (if_pos (show (((((w0 + 0) + 0) + (-w0)) + w1) : Int64) = ((0 + w1) + 0) from by grind)).trans rfl
theorem own_c_0_2_101 (w0 w1 w2 : Int64) : own_H w0 w1 w2 0 2 1 0 1 = 1 := (if_pos (show (((((w0 + 0) + w2) + (-w0)) + w1) : Int64) = ((0 + w1) + w2) from by grind)).trans rfl
theorem own_c_0_2_110 (w0 w1 w2 : Int64) : own_H w0 w1 w2 0 2 1 1 0 = 1 := (if_pos (show (((((w0 + w1) + 0) + (-w0)) + (-w1)) : Int64) = ((0 + 0) + 0) from by grind)).trans rfl
theorem own_c_0_2_111 (w0 w1 w2 : Int64) : own_H w0 w1 w2 0 2 1 1 1 = 1 := (if_pos (show (((((w0 + w1) + w2) + (-w0)) + (-w1)) : Int64) = ((0 + 0) + w2) from by grind)).trans rfl
theorem own_c_0_3_000 (w0 w1 w2 : Int64) : own_H w0 w1 w2 0 3 0 0 0 = 1 := (if_pos (show ((((((0 + 0) + 0) + w0) + w1) + w2) : Int64) = ((w0 + w1) + w2) from by grind)).trans rfl
theorem own_c_0_3_001 (w0 w1 w2 : Int64) : own_H w0 w1 w2 0 3 0 0 1 = 1 := (if_pos (show ((((((0 + 0) + w2) + w0) + w1) + (-w2)) : Int64) = ((w0 + w1) + 0) from by grind)).trans rfl
theorem own_c_0_3_010 (w0 w1 w2 : Int64) : own_H w0 w1 w2 0 3 0 1 0 = 1 := (if_pos (show ((((((0 + w1) + 0) + w0) + (-w1)) + w2) : Int64) = ((w0 + 0) + w2) from by grind)).trans rfl
theorem own_c_0_3_011 (w0 w1 w2 : Int64) : own_H w0 w1 w2 0 3 0 1 1 = 1 := (if_pos (show ((((((0 + w1) + w2) + w0) + (-w1)) + (-w2)) : Int64) = ((w0 + 0) + 0) from by grind)).trans rfl
theorem own_c_0_3_100 (w0 w1 w2 : Int64) : own_H w0 w1 w2 0 3 1 0 0 = 1 := (if_pos (show ((((((w0 + 0) + 0) + (-w0)) + w1) + w2) : Int64) = ((0 + w1) + w2) from by grind)).trans rfl
theorem own_c_0_3_101 (w0 w1 w2 : Int64) : own_H w0 w1 w2 0 3 1 0 1 = 1 := (if_pos (show ((((((w0 + 0) + w2) + (-w0)) + w1) + (-w2)) : Int64) = ((0 + w1) + 0) from by grind)).trans rfl
theorem own_c_0_3_110 (w0 w1 w2 : Int64) : own_H w0 w1 w2 0 3 1 1 0 = 1 := (if_pos (show ((((((w0 + w1) + 0) + (-w0)) + (-w1)) + w2) : Int64) = ((0 + 0) + w2) from by grind)).trans rfl
theorem own_c_0_3_111 (w0 w1 w2 : Int64) : own_H w0 w1 w2 0 3 1 1 1 = 1 := (if_pos (show ((((((w0 + w1) + w2) + (-w0)) + (-w1)) + (-w2)) : Int64) = ((0 + 0) + 0) from by grind)).trans rfl
theorem own_c_1_0_000 (w0 w1 w2 : Int64) : own_H w0 w1 w2 1 0 0 0 0 = 1 := rfl
theorem own_c_1_0_001 (w0 w1 w2 : Int64) : own_H w0 w1 w2 1 0 0 0 1 = 1 := (if_pos (show (((0 + 0) + w2) : Int64) = ((0 + 0) + w2) from rfl)).trans rfl
theorem own_c_1_0_010 (w0 w1 w2 : Int64) : own_H w0 w1 w2 1 0 0 1 0 = 1 := (if_pos (show (((0 + w1) + 0) : Int64) = ((0 + w1) + 0) from rfl)).trans rfl
theorem own_c_1_0_011 (w0 w1 w2 : Int64) : own_H w0 w1 w2 1 0 0 1 1 = 1 := (if_pos (show (((0 + w1) + w2) : Int64) = ((0 + w1) + w2) from rfl)).trans rfl
theorem own_c_1_0_100 (w0 w1 w2 : Int64) : own_H w0 w1 w2 1 0 1 0 0 = 1 := (if_pos (show (((w0 + 0) + 0) : Int64) = ((w0 + 0) + 0) from rfl)).trans rfl
theorem own_c_1_0_101 (w0 w1 w2 : Int64) : own_H w0 w1 w2 1 0 1 0 1 = 1 := (if_pos (show (((w0 + 0) + w2) : Int64) = ((w0 + 0) + w2) from rfl)).trans rfl
theorem own_c_1_0_110 (w0 w1 w2 : Int64) : own_H w0 w1 w2 1 0 1 1 0 = 1 := (if_pos (show (((w0 + w1) + 0) : Int64) = ((w0 + w1) + 0) from rfl)).trans rfl
theorem own_c_1_0_111 (w0 w1 w2 : Int64) : own_H w0 w1 w2 1 0 1 1 1 = 1 := (if_pos (show (((w0 + w1) + w2) : Int64) = ((w0 + w1) + w2) from rfl)).trans rfl
theorem own_c_1_1_000 (w0 w1 w2 : Int64) : own_H w0 w1 w2 1 1 0 0 0 = 1 := (if_pos (show ((((0 + 0) + 0) + w0) : Int64) = ((w0 + 0) + 0) from by grind)).trans rfl
theorem own_c_1_1_001 (w0 w1 w2 : Int64) : own_H w0 w1 w2 1 1 0 0 1 = 1 := (if_pos (show ((((0 + 0) + w2) + w0) : Int64) = ((w0 + 0) + w2) from by grind)).trans rfl
theorem own_c_1_1_010 (w0 w1 w2 : Int64) : own_H w0 w1 w2 1 1 0 1 0 = 1 := (if_pos (show ((((0 + w1) + 0) + w0) : Int64) = ((w0 + w1) + 0) from by grind)).trans rfl
theorem own_c_1_1_011 (w0 w1 w2 : Int64) : own_H w0 w1 w2 1 1 0 1 1 = 1 := (if_pos (show ((((0 + w1) + w2) + w0) : Int64) = ((w0 + w1) + w2) from by grind)).trans rfl
theorem own_c_1_1_100 (w0 w1 w2 : Int64) : own_H w0 w1 w2 1 1 1 0 0 = 1 := (if_pos (show ((((w0 + 0) + 0) + (-w0)) : Int64) = ((0 + 0) + 0) from by grind)).trans rfl
theorem own_c_1_1_101 (w0 w1 w2 : Int64) : own_H w0 w1 w2 1 1 1 0 1 = 1 := (if_pos (show ((((w0 + 0) + w2) + (-w0)) : Int64) = ((0 + 0) + w2) from by grind)).trans rfl
theorem own_c_1_1_110 (w0 w1 w2 : Int64) : own_H w0 w1 w2 1 1 1 1 0 = 1 := (if_pos (show ((((w0 + w1) + 0) + (-w0)) : Int64) = ((0 + w1) + 0) from by grind)).trans rfl
theorem own_c_1_1_111 (w0 w1 w2 : Int64) : own_H w0 w1 w2 1 1 1 1 1 = 1 := (if_pos (show ((((w0 + w1) + w2) + (-w0)) : Int64) = ((0 + w1) + w2) from by grind)).trans rfl
theorem own_c_1_2_000 (w0 w1 w2 : Int64) : own_H w0 w1 w2 1 2 0 0 0 = 1 := (if_pos (show (((((0 + 0) + 0) + w0) + w2) : Int64) = ((w0 + 0) + w2) from by grind)).trans rfl
theorem own_c_1_2_001 (w0 w1 w2 : Int64) : own_H w0 w1 w2 1 2 0 0 1 = 1 := (if_pos (show (((((0 + 0) + w2) + w0) + (-w2)) : Int64) = ((w0 + 0) + 0) from by grind)).trans rfl
theorem own_c_1_2_010 (w0 w1 w2 : Int64) : own_H w0 w1 w2 1 2 0 1 0 = 1 := (if_pos (show (((((0 + w1) + 0) + w0) + w2) : Int64) = ((w0 + w1) + w2) from by grind)).trans rfl
theorem own_c_1_2_011 (w0 w1 w2 : Int64) : own_H w0 w1 w2 1 2 0 1 1 = 1 := (if_pos (show (((((0 + w1) + w2) + w0) + (-w2)) : Int64) = ((w0 + w1) + 0) from by grind)).trans rfl
theorem own_c_1_2_100 (w0 w1 w2 : Int64) : own_H w0 w1 w2 1 2 1 0 0 = 1 := (if_pos (show (((((w0 + 0) + 0) + (-w0)) + w2) : Int64) = ((0 + 0) + w2) from by grind)).trans rfl
theorem own_c_1_2_101 (w0 w1 w2 : Int64) : own_H w0 w1 w2 1 2 1 0 1 = 1 := (if_pos (show (((((w0 + 0) + w2) + (-w0)) + (-w2)) : Int64) = ((0 + 0) + 0) from by grind)).trans rfl
theorem own_c_1_2_110 (w0 w1 w2 : Int64) : own_H w0 w1 w2 1 2 1 1 0 = 1 := (if_pos (show (((((w0 + w1) + 0) + (-w0)) + w2) : Int64) = ((0 + w1) + w2) from by grind)).trans rfl
theorem own_c_1_2_111 (w0 w1 w2 : Int64) : own_H w0 w1 w2 1 2 1 1 1 = 1 := (if_pos (show (((((w0 + w1) + w2) + (-w0)) + (-w2)) : Int64) = ((0 + w1) + 0) from by grind)).trans rfl
theorem own_c_1_3_000 (w0 w1 w2 : Int64) : own_H w0 w1 w2 1 3 0 0 0 = 1 := (if_pos (show ((((((0 + 0) + 0) + w0) + w2) + w1) : Int64) = ((w0 + w1) + w2) from by grind)).trans rfl
theorem own_c_1_3_001 (w0 w1 w2 : Int64) : own_H w0 w1 w2 1 3 0 0 1 = 1 := (if_pos (show ((((((0 + 0) + w2) + w0) + (-w2)) + w1) : Int64) = ((w0 + w1) + 0) from by grind)).trans rfl
theorem own_c_1_3_010 (w0 w1 w2 : Int64) : own_H w0 w1 w2 1 3 0 1 0 = 1 := (if_pos (show ((((((0 + w1) + 0) + w0) + w2) + (-w1)) : Int64) = ((w0 + 0) + w2) from by grind)).trans rfl
theorem own_c_1_3_011 (w0 w1 w2 : Int64) : own_H w0 w1 w2 1 3 0 1 1 = 1 := (if_pos (show ((((((0 + w1) + w2) + w0) + (-w2)) + (-w1)) : Int64) = ((w0 + 0) + 0) from by grind)).trans rfl
theorem own_c_1_3_100 (w0 w1 w2 : Int64) : own_H w0 w1 w2 1 3 1 0 0 = 1 := (if_pos (show ((((((w0 + 0) + 0) + (-w0)) + w2) + w1) : Int64) = ((0 + w1) + w2) from by grind)).trans rfl
theorem own_c_1_3_101 (w0 w1 w2 : Int64) : own_H w0 w1 w2 1 3 1 0 1 = 1 := (if_pos (show ((((((w0 + 0) + w2) + (-w0)) + (-w2)) + w1) : Int64) = ((0 + w1) + 0) from by grind)).trans rfl
theorem own_c_1_3_110 (w0 w1 w2 : Int64) : own_H w0 w1 w2 1 3 1 1 0 = 1 := (if_pos (show ((((((w0 + w1) + 0) + (-w0)) + w2) + (-w1)) : Int64) = ((0 + 0) + w2) from by grind)).trans rfl
theorem own_c_1_3_111 (w0 w1 w2 : Int64) : own_H w0 w1 w2 1 3 1 1 1 = 1 := (if_pos (show ((((((w0 + w1) + w2) + (-w0)) + (-w2)) + (-w1)) : Int64) = ((0 + 0) + 0) from by grind)).trans rfl
theorem own_c_2_0_000 (w0 w1 w2 : Int64) : own_H w0 w1 w2 2 0 0 0 0 = 1 := rfl
theorem own_c_2_0_001 (w0 w1 w2 : Int64) : own_H w0 w1 w2 2 0 0 0 1 = 1 := (if_pos (show (((0 + 0) + w2) : Int64) = ((0 + 0) + w2) from rfl)).trans rfl
theorem own_c_2_0_010 (w0 w1 w2 : Int64) : own_H w0 w1 w2 2 0 0 1 0 = 1 := (if_pos (show (((0 + w1) + 0) : Int64) = ((0 + w1) + 0) from rfl)).trans rfl
theorem own_c_2_0_011 (w0 w1 w2 : Int64) : own_H w0 w1 w2 2 0 0 1 1 = 1 := (if_pos (show (((0 + w1) + w2) : Int64) = ((0 + w1) + w2) from rfl)).trans rfl
theorem own_c_2_0_100 (w0 w1 w2 : Int64) : own_H w0 w1 w2 2 0 1 0 0 = 1 := (if_pos (show (((w0 + 0) + 0) : Int64) = ((w0 + 0) + 0) from rfl)).trans rfl
theorem own_c_2_0_101 (w0 w1 w2 : Int64) : own_H w0 w1 w2 2 0 1 0 1 = 1 := (if_pos (show (((w0 + 0) + w2) : Int64) = ((w0 + 0) + w2) from rfl)).trans rfl
theorem own_c_2_0_110 (w0 w1 w2 : Int64) : own_H w0 w1 w2 2 0 1 1 0 = 1 := (if_pos (show (((w0 + w1) + 0) : Int64) = ((w0 + w1) + 0) from rfl)).trans rfl
theorem own_c_2_0_111 (w0 w1 w2 : Int64) : own_H w0 w1 w2 2 0 1 1 1 = 1 := (if_pos (show (((w0 + w1) + w2) : Int64) = ((w0 + w1) + w2) from rfl)).trans rfl
theorem own_c_2_1_000 (w0 w1 w2 : Int64) : own_H w0 w1 w2 2 1 0 0 0 = 1 := (if_pos (show ((((0 + 0) + 0) + w1) : Int64) = ((0 + w1) + 0) from by grind)).trans rfl
theorem own_c_2_1_001 (w0 w1 w2 : Int64) : own_H w0 w1 w2 2 1 0 0 1 = 1 := (if_pos (show ((((0 + 0) + w2) + w1) : Int64) = ((0 + w1) + w2) from by grind)).trans rfl
theorem own_c_2_1_010 (w0 w1 w2 : Int64) : own_H w0 w1 w2 2 1 0 1 0 = 1 := (if_pos (show ((((0 + w1) + 0) + (-w1)) : Int64) = ((0 + 0) + 0) from by grind)).trans rfl
theorem own_c_2_1_011 (w0 w1 w2 : Int64) : own_H w0 w1 w2 2 1 0 1 1 = 1 := (if_pos (show ((((0 + w1) + w2) + (-w1)) : Int64) = ((0 + 0) + w2) from by grind)).trans rfl
theorem own_c_2_1_100 (w0 w1 w2 : Int64) : own_H w0 w1 w2 2 1 1 0 0 = 1 := (if_pos (show ((((w0 + 0) + 0) + w1) : Int64) = ((w0 + w1) + 0) from by grind)).trans rfl
theorem own_c_2_1_101 (w0 w1 w2 : Int64) : own_H w0 w1 w2 2 1 1 0 1 = 1 := (if_pos (show ((((w0 + 0) + w2) + w1) : Int64) = ((w0 + w1) + w2) from by grind)).trans rfl
theorem own_c_2_1_110 (w0 w1 w2 : Int64) : own_H w0 w1 w2 2 1 1 1 0 = 1 := (if_pos (show ((((w0 + w1) + 0) + (-w1)) : Int64) = ((w0 + 0) + 0) from by grind)).trans rfl
theorem own_c_2_1_111 (w0 w1 w2 : Int64) : own_H w0 w1 w2 2 1 1 1 1 = 1 := (if_pos (show ((((w0 + w1) + w2) + (-w1)) : Int64) = ((w0 + 0) + w2) from by grind)).trans rfl
theorem own_c_2_2_000 (w0 w1 w2 : Int64) : own_H w0 w1 w2 2 2 0 0 0 = 1 := (if_pos (show (((((0 + 0) + 0) + w1) + w0) : Int64) = ((w0 + w1) + 0) from by grind)).trans rfl
theorem own_c_2_2_001 (w0 w1 w2 : Int64) : own_H w0 w1 w2 2 2 0 0 1 = 1 := (if_pos (show (((((0 + 0) + w2) + w1) + w0) : Int64) = ((w0 + w1) + w2) from by grind)).trans rfl
theorem own_c_2_2_010 (w0 w1 w2 : Int64) : own_H w0 w1 w2 2 2 0 1 0 = 1 := (if_pos (show (((((0 + w1) + 0) + (-w1)) + w0) : Int64) = ((w0 + 0) + 0) from by grind)).trans rfl
theorem own_c_2_2_011 (w0 w1 w2 : Int64) : own_H w0 w1 w2 2 2 0 1 1 = 1 := (if_pos (show (((((0 + w1) + w2) + (-w1)) + w0) : Int64) = ((w0 + 0) + w2) from by grind)).trans rfl
theorem own_c_2_2_100 (w0 w1 w2 : Int64) : own_H w0 w1 w2 2 2 1 0 0 = 1 := (if_pos (show (((((w0 + 0) + 0) + w1) + (-w0)) : Int64) = ((0 + w1) + 0) from by grind)).trans rfl
theorem own_c_2_2_101 (w0 w1 w2 : Int64) : own_H w0 w1 w2 2 2 1 0 1 = 1 := (if_pos (show (((((w0 + 0) + w2) + w1) + (-w0)) : Int64) = ((0 + w1) + w2) from by grind)).trans rfl
theorem own_c_2_2_110 (w0 w1 w2 : Int64) : own_H w0 w1 w2 2 2 1 1 0 = 1 := (if_pos (show (((((w0 + w1) + 0) + (-w1)) + (-w0)) : Int64) = ((0 + 0) + 0) from by grind)).trans rfl
theorem own_c_2_2_111 (w0 w1 w2 : Int64) : own_H w0 w1 w2 2 2 1 1 1 = 1 := (if_pos (show (((((w0 + w1) + w2) + (-w1)) + (-w0)) : Int64) = ((0 + 0) + w2) from by grind)).trans rfl
theorem own_c_2_3_000 (w0 w1 w2 : Int64) : own_H w0 w1 w2 2 3 0 0 0 = 1 := (if_pos (show ((((((0 + 0) + 0) + w1) + w0) + w2) : Int64) = ((w0 + w1) + w2) from by grind)).trans rfl
theorem own_c_2_3_001 (w0 w1 w2 : Int64) : own_H w0 w1 w2 2 3 0 0 1 = 1 := (if_pos (show ((((((0 + 0) + w2) + w1) + w0) + (-w2)) : Int64) = ((w0 + w1) + 0) from by grind)).trans rfl
theorem own_c_2_3_010 (w0 w1 w2 : Int64) : own_H w0 w1 w2 2 3 0 1 0 = 1 := (if_pos (show ((((((0 + w1) + 0) + (-w1)) + w0) + w2) : Int64) = ((w0 + 0) + w2) from by grind)).trans rfl
theorem own_c_2_3_011 (w0 w1 w2 : Int64) : own_H w0 w1 w2 2 3 0 1 1 = 1 := (if_pos (show ((((((0 + w1) + w2) + (-w1)) + w0) + (-w2)) : Int64) = ((w0 + 0) + 0) from by grind)).trans rfl
theorem own_c_2_3_100 (w0 w1 w2 : Int64) : own_H w0 w1 w2 2 3 1 0 0 = 1 := (if_pos (show ((((((w0 + 0) + 0) + w1) + (-w0)) + w2) : Int64) = ((0 + w1) + w2) from by grind)).trans rfl
theorem own_c_2_3_101 (w0 w1 w2 : Int64) : own_H w0 w1 w2 2 3 1 0 1 = 1 := (if_pos (show ((((((w0 + 0) + w2) + w1) + (-w0)) + (-w2)) : Int64) = ((0 + w1) + 0) from by grind)).trans rfl
theorem own_c_2_3_110 (w0 w1 w2 : Int64) : own_H w0 w1 w2 2 3 1 1 0 = 1 := (if_pos (show ((((((w0 + w1) + 0) + (-w1)) + (-w0)) + w2) : Int64) = ((0 + 0) + w2) from by grind)).trans rfl
theorem own_c_2_3_111 (w0 w1 w2 : Int64) : own_H w0 w1 w2 2 3 1 1 1 = 1 := (if_pos (show ((((((w0 + w1) + w2) + (-w1)) + (-w0)) + (-w2)) : Int64) = ((0 + 0) + 0) from by grind)).trans rfl
theorem own_c_3_0_000 (w0 w1 w2 : Int64) : own_H w0 w1 w2 3 0 0 0 0 = 1 := rfl
theorem own_c_3_0_001 (w0 w1 w2 : Int64) : own_H w0 w1 w2 3 0 0 0 1 = 1 := (if_pos (show (((0 + 0) + w2) : Int64) = ((0 + 0) + w2) from rfl)).trans rfl
theorem own_c_3_0_010 (w0 w1 w2 : Int64) : own_H w0 w1 w2 3 0 0 1 0 = 1 := (if_pos (show (((0 + w1) + 0) : Int64) = ((0 + w1) + 0) from rfl)).trans rfl
theorem own_c_3_0_011 (w0 w1 w2 : Int64) : own_H w0 w1 w2 3 0 0 1 1 = 1 := (if_pos (show (((0 + w1) + w2) : Int64) = ((0 + w1) + w2) from rfl)).trans rfl
theorem own_c_3_0_100 (w0 w1 w2 : Int64) : own_H w0 w1 w2 3 0 1 0 0 = 1 := (if_pos (show (((w0 + 0) + 0) : Int64) = ((w0 + 0) + 0) from rfl)).trans rfl
theorem own_c_3_0_101 (w0 w1 w2 : Int64) : own_H w0 w1 w2 3 0 1 0 1 = 1 := (if_pos (show (((w0 + 0) + w2) : Int64) = ((w0 + 0) + w2) from rfl)).trans rfl
theorem own_c_3_0_110 (w0 w1 w2 : Int64) : own_H w0 w1 w2 3 0 1 1 0 = 1 := (if_pos (show (((w0 + w1) + 0) : Int64) = ((w0 + w1) + 0) from rfl)).trans rfl
theorem own_c_3_0_111 (w0 w1 w2 : Int64) : own_H w0 w1 w2 3 0 1 1 1 = 1 := (if_pos (show (((w0 + w1) + w2) : Int64) = ((w0 + w1) + w2) from rfl)).trans rfl
theorem own_c_3_1_000 (w0 w1 w2 : Int64) : own_H w0 w1 w2 3 1 0 0 0 = 1 := (if_pos (show ((((0 + 0) + 0) + w1) : Int64) = ((0 + w1) + 0) from by grind)).trans rfl
theorem own_c_3_1_001 (w0 w1 w2 : Int64) : own_H w0 w1 w2 3 1 0 0 1 = 1 := (if_pos (show ((((0 + 0) + w2) + w1) : Int64) = ((0 + w1) + w2) from by grind)).trans rfl
theorem own_c_3_1_010 (w0 w1 w2 : Int64) : own_H w0 w1 w2 3 1 0 1 0 = 1 := (if_pos (show ((((0 + w1) + 0) + (-w1)) : Int64) = ((0 + 0) + 0) from by grind)).trans rfl
theorem own_c_3_1_011 (w0 w1 w2 : Int64) : own_H w0 w1 w2 3 1 0 1 1 = 1 := (if_pos (show ((((0 + w1) + w2) + (-w1)) : Int64) = ((0 + 0) + w2) from by grind)).trans rfl
theorem own_c_3_1_100 (w0 w1 w2 : Int64) : own_H w0 w1 w2 3 1 1 0 0 = 1 := (if_pos (show ((((w0 + 0) + 0) + w1) : Int64) = ((w0 + w1) + 0) from by grind)).trans rfl
theorem own_c_3_1_101 (w0 w1 w2 : Int64) : own_H w0 w1 w2 3 1 1 0 1 = 1 := (if_pos (show ((((w0 + 0) + w2) + w1) : Int64) = ((w0 + w1) + w2) from by grind)).trans rfl
theorem own_c_3_1_110 (w0 w1 w2 : Int64) : own_H w0 w1 w2 3 1 1 1 0 = 1 := (if_pos (show ((((w0 + w1) + 0) + (-w1)) : Int64) = ((w0 + 0) + 0) from by grind)).trans rfl
theorem own_c_3_1_111 (w0 w1 w2 : Int64) : own_H w0 w1 w2 3 1 1 1 1 = 1 := (if_pos (show ((((w0 + w1) + w2) + (-w1)) : Int64) = ((w0 + 0) + w2) from by grind)).trans rfl
theorem own_c_3_2_000 (w0 w1 w2 : Int64) : own_H w0 w1 w2 3 2 0 0 0 = 1 := (if_pos (show (((((0 + 0) + 0) + w1) + w2) : Int64) = ((0 + w1) + w2) from by grind)).trans rfl
theorem own_c_3_2_001 (w0 w1 w2 : Int64) : own_H w0 w1 w2 3 2 0 0 1 = 1 := (if_pos (show (((((0 + 0) + w2) + w1) + (-w2)) : Int64) = ((0 + w1) + 0) from by grind)).trans rfl
theorem own_c_3_2_010 (w0 w1 w2 : Int64) : own_H w0 w1 w2 3 2 0 1 0 = 1 := (if_pos (show (((((0 + w1) + 0) + (-w1)) + w2) : Int64) = ((0 + 0) + w2) from by grind)).trans rfl
theorem own_c_3_2_011 (w0 w1 w2 : Int64) : own_H w0 w1 w2 3 2 0 1 1 = 1 := (if_pos (show (((((0 + w1) + w2) + (-w1)) + (-w2)) : Int64) = ((0 + 0) + 0) from by grind)).trans rfl
theorem own_c_3_2_100 (w0 w1 w2 : Int64) : own_H w0 w1 w2 3 2 1 0 0 = 1 := (if_pos (show (((((w0 + 0) + 0) + w1) + w2) : Int64) = ((w0 + w1) + w2) from by grind)).trans rfl
theorem own_c_3_2_101 (w0 w1 w2 : Int64) : own_H w0 w1 w2 3 2 1 0 1 = 1 := (if_pos (show (((((w0 + 0) + w2) + w1) + (-w2)) : Int64) = ((w0 + w1) + 0) from by grind)).trans rfl
theorem own_c_3_2_110 (w0 w1 w2 : Int64) : own_H w0 w1 w2 3 2 1 1 0 = 1 := (if_pos (show (((((w0 + w1) + 0) + (-w1)) + w2) : Int64) = ((w0 + 0) + w2) from by grind)).trans rfl
theorem own_c_3_2_111 (w0 w1 w2 : Int64) : own_H w0 w1 w2 3 2 1 1 1 = 1 := (if_pos (show (((((w0 + w1) + w2) + (-w1)) + (-w2)) : Int64) = ((w0 + 0) + 0) from by grind)).trans rfl
theorem own_c_3_3_000 (w0 w1 w2 : Int64) : own_H w0 w1 w2 3 3 0 0 0 = 1 := (if_pos (show ((((((0 + 0) + 0) + w1) + w2) + w0) : Int64) = ((w0 + w1) + w2) from by grind)).trans rfl
theorem own_c_3_3_001 (w0 w1 w2 : Int64) : own_H w0 w1 w2 3 3 0 0 1 = 1 := (if_pos (show ((((((0 + 0) + w2) + w1) + (-w2)) + w0) : Int64) = ((w0 + w1) + 0) from by grind)).trans rfl
theorem own_c_3_3_010 (w0 w1 w2 : Int64) : own_H w0 w1 w2 3 3 0 1 0 = 1 := (if_pos (show ((((((0 + w1) + 0) + (-w1)) + w2) + w0) : Int64) = ((w0 + 0) + w2) from by grind)).trans rfl
theorem own_c_3_3_011 (w0 w1 w2 : Int64) : own_H w0 w1 w2 3 3 0 1 1 = 1 := (if_pos (show ((((((0 + w1) + w2) + (-w1)) + (-w2)) + w0) : Int64) = ((w0 + 0) + 0) from by grind)).trans rfl
theorem own_c_3_3_100 (w0 w1 w2 : Int64) : own_H w0 w1 w2 3 3 1 0 0 = 1 := (if_pos (show ((((((w0 + 0) + 0) + w1) + w2) + (-w0)) : Int64) = ((0 + w1) + w2) from by grind)).trans rfl
theorem own_c_3_3_101 (w0 w1 w2 : Int64) : own_H w0 w1 w2 3 3 1 0 1 = 1 := (if_pos (show ((((((w0 + 0) + w2) + w1) + (-w2)) + (-w0)) : Int64) = ((0 + w1) + 0) from by grind)).trans rfl
theorem own_c_3_3_110 (w0 w1 w2 : Int64) : own_H w0 w1 w2 3 3 1 1 0 = 1 := (if_pos (show ((((((w0 + w1) + 0) + (-w1)) + w2) + (-w0)) : Int64) = ((0 + 0) + w2) from by grind)).trans rfl
theorem own_c_3_3_111 (w0 w1 w2 : Int64) : own_H w0 w1 w2 3 3 1 1 1 = 1 := (if_pos (show ((((((w0 + w1) + w2) + (-w1)) + (-w2)) + (-w0)) : Int64) = ((0 + 0) + 0) from by grind)).trans rfl
theorem own_c_4_0_000 (w0 w1 w2 : Int64) : own_H w0 w1 w2 4 0 0 0 0 = 1 := rfl
theorem own_c_4_0_001 (w0 w1 w2 : Int64) : own_H w0 w1 w2 4 0 0 0 1 = 1 := (if_pos (show (((0 + 0) + w2) : Int64) = ((0 + 0) + w2) from rfl)).trans rfl
theorem own_c_4_0_010 (w0 w1 w2 : Int64) : own_H w0 w1 w2 4 0 0 1 0 = 1 := (if_pos (show (((0 + w1) + 0) : Int64) = ((0 + w1) + 0) from rfl)).trans rfl
theorem own_c_4_0_011 (w0 w1 w2 : Int64) : own_H w0 w1 w2 4 0 0 1 1 = 1 := (if_pos (show (((0 + w1) + w2) : Int64) = ((0 + w1) + w2) from rfl)).trans rfl
theorem own_c_4_0_100 (w0 w1 w2 : Int64) : own_H w0 w1 w2 4 0 1 0 0 = 1 := (if_pos (show (((w0 + 0) + 0) : Int64) = ((w0 + 0) + 0) from rfl)).trans rfl
theorem own_c_4_0_101 (w0 w1 w2 : Int64) : own_H w0 w1 w2 4 0 1 0 1 = 1 := (if_pos (show (((w0 + 0) + w2) : Int64) = ((w0 + 0) + w2) from rfl)).trans rfl
theorem own_c_4_0_110 (w0 w1 w2 : Int64) : own_H w0 w1 w2 4 0 1 1 0 = 1 := (if_pos (show (((w0 + w1) + 0) : Int64) = ((w0 + w1) + 0) from rfl)).trans rfl
theorem own_c_4_0_111 (w0 w1 w2 : Int64) : own_H w0 w1 w2 4 0 1 1 1 = 1 := (if_pos (show (((w0 + w1) + w2) : Int64) = ((w0 + w1) + w2) from rfl)).trans rfl
theorem own_c_4_1_000 (w0 w1 w2 : Int64) : own_H w0 w1 w2 4 1 0 0 0 = 1 := (if_pos (show ((((0 + 0) + 0) + w2) : Int64) = ((0 + 0) + w2) from by grind)).trans rfl
theorem own_c_4_1_001 (w0 w1 w2 : Int64) : own_H w0 w1 w2 4 1 0 0 1 = 1 := (if_pos (show ((((0 + 0) + w2) + (-w2)) : Int64) = ((0 + 0) + 0) from by grind)).trans rfl
theorem own_c_4_1_010 (w0 w1 w2 : Int64) : own_H w0 w1 w2 4 1 0 1 0 = 1 := (if_pos (show ((((0 + w1) + 0) + w2) : Int64) = ((0 + w1) + w2) from by grind)).trans rfl
theorem own_c_4_1_011 (w0 w1 w2 : Int64) : own_H w0 w1 w2 4 1 0 1 1 = 1 := (if_pos (show ((((0 + w1) + w2) + (-w2)) : Int64) = ((0 + w1) + 0) from by grind)).trans rfl
theorem own_c_4_1_100 (w0 w1 w2 : Int64) : own_H w0 w1 w2 4 1 1 0 0 = 1 := (if_pos (show ((((w0 + 0) + 0) + w2) : Int64) = ((w0 + 0) + w2) from by grind)).trans rfl
theorem own_c_4_1_101 (w0 w1 w2 : Int64) : own_H w0 w1 w2 4 1 1 0 1 = 1 := (if_pos (show ((((w0 + 0) + w2) + (-w2)) : Int64) = ((w0 + 0) + 0) from by grind)).trans rfl
theorem own_c_4_1_110 (w0 w1 w2 : Int64) : own_H w0 w1 w2 4 1 1 1 0 = 1 := (if_pos (show ((((w0 + w1) + 0) + w2) : Int64) = ((w0 + w1) + w2) from by grind)).trans rfl
theorem own_c_4_1_111 (w0 w1 w2 : Int64) : own_H w0 w1 w2 4 1 1 1 1 = 1 := (if_pos (show ((((w0 + w1) + w2) + (-w2)) : Int64) = ((w0 + w1) + 0) from by grind)).trans rfl
theorem own_c_4_2_000 (w0 w1 w2 : Int64) : own_H w0 w1 w2 4 2 0 0 0 = 1 := (if_pos (show (((((0 + 0) + 0) + w2) + w0) : Int64) = ((w0 + 0) + w2) from by grind)).trans rfl
theorem own_c_4_2_001 (w0 w1 w2 : Int64) : own_H w0 w1 w2 4 2 0 0 1 = 1 := (if_pos (show (((((0 + 0) + w2) + (-w2)) + w0) : Int64) = ((w0 + 0) + 0) from by grind)).trans rfl
theorem own_c_4_2_010 (w0 w1 w2 : Int64) : own_H w0 w1 w2 4 2 0 1 0 = 1 := (if_pos (show (((((0 + w1) + 0) + w2) + w0) : Int64) = ((w0 + w1) + w2) from by grind)).trans rfl
theorem own_c_4_2_011 (w0 w1 w2 : Int64) : own_H w0 w1 w2 4 2 0 1 1 = 1 := (if_pos (show (((((0 + w1) + w2) + (-w2)) + w0) : Int64) = ((w0 + w1) + 0) from by grind)).trans rfl
theorem own_c_4_2_100 (w0 w1 w2 : Int64) : own_H w0 w1 w2 4 2 1 0 0 = 1 := (if_pos (show (((((w0 + 0) + 0) + w2) + (-w0)) : Int64) = ((0 + 0) + w2) from by grind)).trans rfl
theorem own_c_4_2_101 (w0 w1 w2 : Int64) : own_H w0 w1 w2 4 2 1 0 1 = 1 := (if_pos (show (((((w0 + 0) + w2) + (-w2)) + (-w0)) : Int64) = ((0 + 0) + 0) from by grind)).trans rfl
theorem own_c_4_2_110 (w0 w1 w2 : Int64) : own_H w0 w1 w2 4 2 1 1 0 = 1 := (if_pos (show (((((w0 + w1) + 0) + w2) + (-w0)) : Int64) = ((0 + w1) + w2) from by grind)).trans rfl
theorem own_c_4_2_111 (w0 w1 w2 : Int64) : own_H w0 w1 w2 4 2 1 1 1 = 1 := (if_pos (show (((((w0 + w1) + w2) + (-w2)) + (-w0)) : Int64) = ((0 + w1) + 0) from by grind)).trans rfl
theorem own_c_4_3_000 (w0 w1 w2 : Int64) : own_H w0 w1 w2 4 3 0 0 0 = 1 := (if_pos (show ((((((0 + 0) + 0) + w2) + w0) + w1) : Int64) = ((w0 + w1) + w2) from by grind)).trans rfl
theorem own_c_4_3_001 (w0 w1 w2 : Int64) : own_H w0 w1 w2 4 3 0 0 1 = 1 := (if_pos (show ((((((0 + 0) + w2) + (-w2)) + w0) + w1) : Int64) = ((w0 + w1) + 0) from by grind)).trans rfl
theorem own_c_4_3_010 (w0 w1 w2 : Int64) : own_H w0 w1 w2 4 3 0 1 0 = 1 := (if_pos (show ((((((0 + w1) + 0) + w2) + w0) + (-w1)) : Int64) = ((w0 + 0) + w2) from by grind)).trans rfl
theorem own_c_4_3_011 (w0 w1 w2 : Int64) : own_H w0 w1 w2 4 3 0 1 1 = 1 := (if_pos (show ((((((0 + w1) + w2) + (-w2)) + w0) + (-w1)) : Int64) = ((w0 + 0) + 0) from by grind)).trans rfl
theorem own_c_4_3_100 (w0 w1 w2 : Int64) : own_H w0 w1 w2 4 3 1 0 0 = 1 := (if_pos (show ((((((w0 + 0) + 0) + w2) + (-w0)) + w1) : Int64) = ((0 + w1) + w2) from by grind)).trans rfl
theorem own_c_4_3_101 (w0 w1 w2 : Int64) : own_H w0 w1 w2 4 3 1 0 1 = 1 := (if_pos (show ((((((w0 + 0) + w2) + (-w2)) + (-w0)) + w1) : Int64) = ((0 + w1) + 0) from by grind)).trans rfl
theorem own_c_4_3_110 (w0 w1 w2 : Int64) : own_H w0 w1 w2 4 3 1 1 0 = 1 := (if_pos (show ((((((w0 + w1) + 0) + w2) + (-w0)) + (-w1)) : Int64) = ((0 + 0) + w2) from by grind)).trans rfl
theorem own_c_4_3_111 (w0 w1 w2 : Int64) : own_H w0 w1 w2 4 3 1 1 1 = 1 := (if_pos (show ((((((w0 + w1) + w2) + (-w2)) + (-w0)) + (-w1)) : Int64) = ((0 + 0) + 0) from by grind)).trans rfl
theorem own_c_5_0_000 (w0 w1 w2 : Int64) : own_H w0 w1 w2 5 0 0 0 0 = 1 := rfl
theorem own_c_5_0_001 (w0 w1 w2 : Int64) : own_H w0 w1 w2 5 0 0 0 1 = 1 := (if_pos (show (((0 + 0) + w2) : Int64) = ((0 + 0) + w2) from rfl)).trans rfl
theorem own_c_5_0_010 (w0 w1 w2 : Int64) : own_H w0 w1 w2 5 0 0 1 0 = 1 := (if_pos (show (((0 + w1) + 0) : Int64) = ((0 + w1) + 0) from rfl)).trans rfl
theorem own_c_5_0_011 (w0 w1 w2 : Int64) : own_H w0 w1 w2 5 0 0 1 1 = 1 := (if_pos (show (((0 + w1) + w2) : Int64) = ((0 + w1) + w2) from rfl)).trans rfl
theorem own_c_5_0_100 (w0 w1 w2 : Int64) : own_H w0 w1 w2 5 0 1 0 0 = 1 := (if_pos (show (((w0 + 0) + 0) : Int64) = ((w0 + 0) + 0) from rfl)).trans rfl
theorem own_c_5_0_101 (w0 w1 w2 : Int64) : own_H w0 w1 w2 5 0 1 0 1 = 1 := (if_pos (show (((w0 + 0) + w2) : Int64) = ((w0 + 0) + w2) from rfl)).trans rfl
theorem own_c_5_0_110 (w0 w1 w2 : Int64) : own_H w0 w1 w2 5 0 1 1 0 = 1 := (if_pos (show (((w0 + w1) + 0) : Int64) = ((w0 + w1) + 0) from rfl)).trans rfl
theorem own_c_5_0_111 (w0 w1 w2 : Int64) : own_H w0 w1 w2 5 0 1 1 1 = 1 := (if_pos (show (((w0 + w1) + w2) : Int64) = ((w0 + w1) + w2) from rfl)).trans rfl
theorem own_c_5_1_000 (w0 w1 w2 : Int64) : own_H w0 w1 w2 5 1 0 0 0 = 1 := (if_pos (show ((((0 + 0) + 0) + w2) : Int64) = ((0 + 0) + w2) from by grind)).trans rfl
theorem own_c_5_1_001 (w0 w1 w2 : Int64) : own_H w0 w1 w2 5 1 0 0 1 = 1 := (if_pos (show ((((0 + 0) + w2) + (-w2)) : Int64) = ((0 + 0) + 0) from by grind)).trans rfl
theorem own_c_5_1_010 (w0 w1 w2 : Int64) : own_H w0 w1 w2 5 1 0 1 0 = 1 := (if_pos (show ((((0 + w1) + 0) + w2) : Int64) = ((0 + w1) + w2) from by grind)).trans rfl
theorem own_c_5_1_011 (w0 w1 w2 : Int64) : own_H w0 w1 w2 5 1 0 1 1 = 1 := (if_pos (show ((((0 + w1) + w2) + (-w2)) : Int64) = ((0 + w1) + 0) from by grind)).trans rfl
theorem own_c_5_1_100 (w0 w1 w2 : Int64) : own_H w0 w1 w2 5 1 1 0 0 = 1 := (if_pos (show ((((w0 + 0) + 0) + w2) : Int64) = ((w0 + 0) + w2) from by grind)).trans rfl
theorem own_c_5_1_101 (w0 w1 w2 : Int64) : own_H w0 w1 w2 5 1 1 0 1 = 1 := (if_pos (show ((((w0 + 0) + w2) + (-w2)) : Int64) = ((w0 + 0) + 0) from by grind)).trans rfl
theorem own_c_5_1_110 (w0 w1 w2 : Int64) : own_H w0 w1 w2 5 1 1 1 0 = 1 := (if_pos (show ((((w0 + w1) + 0) + w2) : Int64) = ((w0 + w1) + w2) from by grind)).trans rfl
theorem own_c_5_1_111 (w0 w1 w2 : Int64) : own_H w0 w1 w2 5 1 1 1 1 = 1 := (if_pos (show ((((w0 + w1) + w2) + (-w2)) : Int64) = ((w0 + w1) + 0) from by grind)).trans rfl
theorem own_c_5_2_000 (w0 w1 w2 : Int64) : own_H w0 w1 w2 5 2 0 0 0 = 1 := (if_pos (show (((((0 + 0) + 0) + w2) + w1) : Int64) = ((0 + w1) + w2) from by grind)).trans rfl
theorem own_c_5_2_001 (w0 w1 w2 : Int64) : own_H w0 w1 w2 5 2 0 0 1 = 1 := (if_pos (show (((((0 + 0) + w2) + (-w2)) + w1) : Int64) = ((0 + w1) + 0) from by grind)).trans rfl
theorem own_c_5_2_010 (w0 w1 w2 : Int64) : own_H w0 w1 w2 5 2 0 1 0 = 1 := (if_pos (show (((((0 + w1) + 0) + w2) + (-w1)) : Int64) = ((0 + 0) + w2) from by grind)).trans rfl
theorem own_c_5_2_011 (w0 w1 w2 : Int64) : own_H w0 w1 w2 5 2 0 1 1 = 1 := (if_pos (show (((((0 + w1) + w2) + (-w2)) + (-w1)) : Int64) = ((0 + 0) + 0) from by grind)).trans rfl
theorem own_c_5_2_100 (w0 w1 w2 : Int64) : own_H w0 w1 w2 5 2 1 0 0 = 1 := (if_pos (show (((((w0 + 0) + 0) + w2) + w1) : Int64) = ((w0 + w1) + w2) from by grind)).trans rfl
theorem own_c_5_2_101 (w0 w1 w2 : Int64) : own_H w0 w1 w2 5 2 1 0 1 = 1 := (if_pos (show (((((w0 + 0) + w2) + (-w2)) + w1) : Int64) = ((w0 + w1) + 0) from by grind)).trans rfl
theorem own_c_5_2_110 (w0 w1 w2 : Int64) : own_H w0 w1 w2 5 2 1 1 0 = 1 := (if_pos (show (((((w0 + w1) + 0) + w2) + (-w1)) : Int64) = ((w0 + 0) + w2) from by grind)).trans rfl
theorem own_c_5_2_111 (w0 w1 w2 : Int64) : own_H w0 w1 w2 5 2 1 1 1 = 1 := (if_pos (show (((((w0 + w1) + w2) + (-w2)) + (-w1)) : Int64) = ((w0 + 0) + 0) from by grind)).trans rfl
theorem own_c_5_3_000 (w0 w1 w2 : Int64) : own_H w0 w1 w2 5 3 0 0 0 = 1 := (if_pos (show ((((((0 + 0) + 0) + w2) + w1) + w0) : Int64) = ((w0 + w1) + w2) from by grind)).trans rfl
theorem own_c_5_3_001 (w0 w1 w2 : Int64) : own_H w0 w1 w2 5 3 0 0 1 = 1 := (if_pos (show ((((((0 + 0) + w2) + (-w2)) + w1) + w0) : Int64) = ((w0 + w1) + 0) from by grind)).trans rfl
theorem own_c_5_3_010 (w0 w1 w2 : Int64) : own_H w0 w1 w2 5 3 0 1 0 = 1 := (if_pos (show ((((((0 + w1) + 0) + w2) + (-w1)) + w0) : Int64) = ((w0 + 0) + w2) from by grind)).trans rfl
theorem own_c_5_3_011 (w0 w1 w2 : Int64) : own_H w0 w1 w2 5 3 0 1 1 = 1 := (if_pos (show ((((((0 + w1) + w2) + (-w2)) + (-w1)) + w0) : Int64) = ((w0 + 0) + 0) from by grind)).trans rfl
theorem own_c_5_3_100 (w0 w1 w2 : Int64) : own_H w0 w1 w2 5 3 1 0 0 = 1 := (if_pos (show ((((((w0 + 0) + 0) + w2) + w1) + (-w0)) : Int64) = ((0 + w1) + w2) from by grind)).trans rfl
theorem own_c_5_3_101 (w0 w1 w2 : Int64) : own_H w0 w1 w2 5 3 1 0 1 = 1 := (if_pos (show ((((((w0 + 0) + w2) + (-w2)) + w1) + (-w0)) : Int64) = ((0 + w1) + 0) from by grind)).trans rfl
theorem own_c_5_3_110 (w0 w1 w2 : Int64) : own_H w0 w1 w2 5 3 1 1 0 = 1 := (if_pos (show ((((((w0 + w1) + 0) + w2) + (-w1)) + (-w0)) : Int64) = ((0 + 0) + w2) from by grind)).trans rfl
theorem own_c_5_3_111 (w0 w1 w2 : Int64) : own_H w0 w1 w2 5 3 1 1 1 = 1 := (if_pos (show ((((((w0 + w1) + w2) + (-w2)) + (-w1)) + (-w0)) : Int64) = ((0 + 0) + 0) from by grind)).trans rfl
theorem own_all (w0 w1 w2 : Int64) {P c a b d : Int32} (hP : P = 0 ∨ P = 1 ∨ P = 2 ∨ P = 3 ∨ P = 4 ∨ P = 5) (hc : c = 0 ∨ c = 1 ∨ c = 2 ∨ c = 3) (ha : a = 0 ∨ a = 1) (hb : b = 0 ∨ b = 1) (hd : d = 0 ∨ d = 1) : own_H w0 w1 w2 P c a b d = 1 := by
  rcases hP with rfl | rfl | rfl | rfl | rfl | rfl
  · rcases hc with rfl | rfl | rfl | rfl
    · rcases ha with rfl | rfl <;> rcases hb with rfl | rfl <;> rcases hd with rfl | rfl
      · exact own_c_0_0_000 w0 w1 w2
      · exact own_c_0_0_001 w0 w1 w2
      · exact own_c_0_0_010 w0 w1 w2
      · exact own_c_0_0_011 w0 w1 w2
      · exact own_c_0_0_100 w0 w1 w2
      · exact own_c_0_0_101 w0 w1 w2
      · exact own_c_0_0_110 w0 w1 w2
      · exact own_c_0_0_111 w0 w1 w2
    · rcases ha with rfl | rfl <;> rcases hb with rfl | rfl <;> rcases hd with rfl | rfl
      · exact own_c_0_1_000 w0 w1 w2
      · exact own_c_0_1_001 w0 w1 w2
      · exact own_c_0_1_010 w0 w1 w2
      · exact own_c_0_1_011 w0 w1 w2
      · exact own_c_0_1_100 w0 w1 w2
      · exact own_c_0_1_101 w0 w1 w2
      · exact own_c_0_1_110 w0 w1 w2
      · exact own_c_0_1_111 w0 w1 w2
    · rcases ha with rfl | rfl <;> rcases hb with rfl | rfl <;> rcases hd with rfl | rfl
      · exact own_c_0_2_000 w0 w1 w2
      · exact own_c_0_2_001 w0 w1 w2
      · exact own_c_0_2_010 w0 w1 w2
      · exact own_c_0_2_011 w0 w1 w2
      · exact own_c_0_2_100 w0 w1 w2
      · exact own_c_0_2_101 w0 w1 w2
      · exact own_c_0_2_110 w0 w1 w2
      · exact own_c_0_2_111 w0 w1 w2
    · rcases ha with rfl | rfl <;> rcases hb with rfl | rfl <;> rcases hd with rfl | rfl
      · exact own_c_0_3_000 w0 w1 w2
      · exact own_c_0_3_001 w0 w1 w2
      · exact own_c_0_3_010 w0 w1 w2
      · exact own_c_0_3_011 w0 w1 w2
      · exact own_c_0_3_100 w0 w1 w2
      · exact own_c_0_3_101 w0 w1 w2
      · exact own_c_0_3_110 w0 w1 w2
      · exact own_c_0_3_111 w0 w1 w2
  · rcases hc with rfl | rfl | rfl | rfl
    · rcases ha with rfl | rfl <;> rcases hb with rfl | rfl <;> rcases hd with rfl | rfl
      · exact own_c_1_0_000 w0 w1 w2
      · exact own_c_1_0_001 w0 w1 w2
      · exact own_c_1_0_010 w0 w1 w2
      · exact own_c_1_0_011 w0 w1 w2
      · exact own_c_1_0_100 w0 w1 w2
      · exact own_c_1_0_101 w0 w1 w2
      · exact own_c_1_0_110 w0 w1 w2
      · exact own_c_1_0_111 w0 w1 w2
    · rcases ha with rfl | rfl <;> rcases hb with rfl | rfl <;> rcases hd with rfl | rfl
      · exact own_c_1_1_000 w0 w1 w2
      · exact own_c_1_1_001 w0 w1 w2
      · exact own_c_1_1_010 w0 w1 w2
      · exact own_c_1_1_011 w0 w1 w2
      · exact own_c_1_1_100 w0 w1 w2
      · exact own_c_1_1_101 w0 w1 w2
      · exact own_c_1_1_110 w0 w1 w2
      · exact own_c_1_1_111 w0 w1 w2
    · rcases ha with rfl | rfl <;> rcases hb with rfl | rfl <;> rcases hd with rfl | rfl
      · exact own_c_1_2_000 w0 w1 w2
      · exact own_c_1_2_001 w0 w1 w2
      · exact own_c_1_2_010 w0 w1 w2
      · exact own_c_1_2_011 w0 w1 w2
      · exact own_c_1_2_100 w0 w1 w2
      · exact own_c_1_2_101 w0 w1 w2
      · exact own_c_1_2_110 w0 w1 w2
      · exact own_c_1_2_111 w0 w1 w2
    · rcases ha with rfl | rfl <;> rcases hb with rfl | rfl <;> rcases hd with rfl | rfl
      · exact own_c_1_3_000 w0 w1 w2
      · exact own_c_1_3_001 w0 w1 w2
      · exact own_c_1_3_010 w0 w1 w2
      · exact own_c_1_3_011 w0 w1 w2
      · exact own_c_1_3_100 w0 w1 w2
      · exact own_c_1_3_101 w0 w1 w2
      · exact own_c_1_3_110 w0 w1 w2
      · exact own_c_1_3_111 w0 w1 w2
  · rcases hc with rfl | rfl | rfl | rfl
    · rcases ha with rfl | rfl <;> rcases hb with rfl | rfl <;> rcases hd with rfl | rfl
      · exact own_c_2_0_000 w0 w1 w2
      · exact own_c_2_0_001 w0 w1 w2
      · exact own_c_2_0_010 w0 w1 w2
      · exact own_c_2_0_011 w0 w1 w2
      · exact own_c_2_0_100 w0 w1 w2
      · exact own_c_2_0_101 w0 w1 w2
      · exact own_c_2_0_110 w0 w1 w2
      · exact own_c_2_0_111 w0 w1 w2
    · rcases ha with rfl | rfl <;> rcases hb with rfl | rfl <;> rcases hd with rfl | rfl
      · exact own_c_2_1_000 w0 w1 w2
      · exact own_c_2_1_001 w0 w1 w2
      · exact own_c_2_1_010 w0 w1 w2
      · exact own_c_2_1_011 w0 w1 w2
      · exact own_c_2_1_100 w0 w1 w2
      · exact own_c_2_1_101 w0 w1 w2
      · exact own_c_2_1_110 w0 w1 w2
      · exact own_c_2_1_111 w0 w1 w2
    · rcases ha with rfl | rfl <;> rcases hb with rfl | rfl <;> rcases hd with rfl | rfl
      · exact own_c_2_2_000 w0 w1 w2
      · exact own_c_2_2_001 w0 w1 w2
      · exact own_c_2_2_010 w0 w1 w2
      · exact own_c_2_2_011 w0 w1 w2
      · exact own_c_2_2_100 w0 w1 w2
      · exact own_c_2_2_101 w0 w1 w2
      · exact own_c_2_2_110 w0 w1 w2
      · exact own_c_2_2_111 w0 w1 w2
    · rcases ha with rfl | rfl <;> rcases hb with rfl | rfl <;> rcases hd with rfl | rfl
      · exact own_c_2_3_000 w0 w1 w2
      · exact own_c_2_3_001 w0 w1 w2
      · exact own_c_2_3_010 w0 w1 w2
      · exact own_c_2_3_011 w0 w1 w2
      · exact own_c_2_3_100 w0 w1 w2
      · exact own_c_2_3_101 w0 w1 w2
      · exact own_c_2_3_110 w0 w1 w2
      · exact own_c_2_3_111 w0 w1 w2
  · rcases hc with rfl | rfl | rfl | rfl
    · rcases ha with rfl | rfl <;> rcases hb with rfl | rfl <;> rcases hd with rfl | rfl
      · exact own_c_3_0_000 w0 w1 w2
      · exact own_c_3_0_001 w0 w1 w2
      · exact own_c_3_0_010 w0 w1 w2
      · exact own_c_3_0_011 w0 w1 w2
      · exact own_c_3_0_100 w0 w1 w2
      · exact own_c_3_0_101 w0 w1 w2
      · exact own_c_3_0_110 w0 w1 w2
      · exact own_c_3_0_111 w0 w1 w2
    · rcases ha with rfl | rfl <;> rcases hb with rfl | rfl <;> rcases hd with rfl | rfl
      · exact own_c_3_1_000 w0 w1 w2
      · exact own_c_3_1_001 w0 w1 w2
      · exact own_c_3_1_010 w0 w1 w2
      · exact own_c_3_1_011 w0 w1 w2
      · exact own_c_3_1_100 w0 w1 w2
      · exact own_c_3_1_101 w0 w1 w2
      · exact own_c_3_1_110 w0 w1 w2
      · exact own_c_3_1_111 w0 w1 w2
    · rcases ha with rfl | rfl <;> rcases hb with rfl | rfl <;> rcases hd with rfl | rfl
      · exact own_c_3_2_000 w0 w1 w2
      · exact own_c_3_2_001 w0 w1 w2
      · exact own_c_3_2_010 w0 w1 w2
      · exact own_c_3_2_011 w0 w1 w2
      · exact own_c_3_2_100 w0 w1 w2
      · exact own_c_3_2_101 w0 w1 w2
      · exact own_c_3_2_110 w0 w1 w2
      · exact own_c_3_2_111 w0 w1 w2
    · rcases ha with rfl | rfl <;> rcases hb with rfl | rfl <;> rcases hd with rfl | rfl
      · exact own_c_3_3_000 w0 w1 w2
      · exact own_c_3_3_001 w0 w1 w2
      · exact own_c_3_3_010 w0 w1 w2
      · exact own_c_3_3_011 w0 w1 w2
      · exact own_c_3_3_100 w0 w1 w2
      · exact own_c_3_3_101 w0 w1 w2
      · exact own_c_3_3_110 w0 w1 w2
      · exact own_c_3_3_111 w0 w1 w2
  · rcases hc with rfl | rfl | rfl | rfl
    · rcases ha with rfl | rfl <;> rcases hb with rfl | rfl <;> rcases hd with rfl | rfl
      · exact own_c_4_0_000 w0 w1 w2
      · exact own_c_4_0_001 w0 w1 w2
      · exact own_c_4_0_010 w0 w1 w2
      · exact own_c_4_0_011 w0 w1 w2
      · exact own_c_4_0_100 w0 w1 w2
      · exact own_c_4_0_101 w0 w1 w2
      · exact own_c_4_0_110 w0 w1 w2
      · exact own_c_4_0_111 w0 w1 w2
    · rcases ha with rfl | rfl <;> rcases hb with rfl | rfl <;> rcases hd with rfl | rfl
      · exact own_c_4_1_000 w0 w1 w2
      · exact own_c_4_1_001 w0 w1 w2
      · exact own_c_4_1_010 w0 w1 w2
      · exact own_c_4_1_011 w0 w1 w2
      · exact own_c_4_1_100 w0 w1 w2
      · exact own_c_4_1_101 w0 w1 w2
      · exact own_c_4_1_110 w0 w1 w2
      · exact own_c_4_1_111 w0 w1 w2
    · rcases ha with rfl | rfl <;> rcases hb with rfl | rfl <;> rcases hd with rfl | rfl
      · exact own_c_4_2_000 w0 w1 w2
      · exact own_c_4_2_001 w0 w1 w2
      · exact own_c_4_2_010 w0 w1 w2
      · exact own_c_4_2_011 w0 w1 w2
      · exact own_c_4_2_100 w0 w1 w2
      · exact own_c_4_2_101 w0 w1 w2
      · exact own_c_4_2_110 w0 w1 w2
      · exact own_c_4_2_111 w0 w1 w2
    · rcases ha with rfl | rfl <;> rcases hb with rfl | rfl <;> rcases hd with rfl | rfl
      · exact own_c_4_3_000 w0 w1 w2
      · exact own_c_4_3_001 w0 w1 w2
      · exact own_c_4_3_010 w0 w1 w2
      · exact own_c_4_3_011 w0 w1 w2
      · exact own_c_4_3_100 w0 w1 w2
      · exact own_c_4_3_101 w0 w1 w2
      · exact own_c_4_3_110 w0 w1 w2
      · exact own_c_4_3_111 w0 w1 w2
  · rcases hc with rfl | rfl | rfl | rfl
    · rcases ha with rfl | rfl <;> rcases hb with rfl | rfl <;> rcases hd with rfl | rfl
      · exact own_c_5_0_000 w0 w1 w2
      · exact own_c_5_0_001 w0 w1 w2
      · exact own_c_5_0_010 w0 w1 w2
      · exact own_c_5_0_011 w0 w1 w2
      · exact own_c_5_0_100 w0 w1 w2
      · exact own_c_5_0_101 w0 w1 w2
      · exact own_c_5_0_110 w0 w1 w2
      · exact own_c_5_0_111 w0 w1 w2
    · rcases ha with rfl | rfl <;> rcases hb with rfl | rfl <;> rcases hd with rfl | rfl
      · exact own_c_5_1_000 w0 w1 w2
      · exact own_c_5_1_001 w0 w1 w2
      · exact own_c_5_1_010 w0 w1 w2
      · exact own_c_5_1_011 w0 w1 w2
      · exact own_c_5_1_100 w0 w1 w2
      · exact own_c_5_1_101 w0 w1 w2
      · exact own_c_5_1_110 w0 w1 w2
      · exact own_c_5_1_111 w0 w1 w2
    · rcases ha with rfl | rfl <;> rcases hb with rfl | rfl <;> rcases hd with rfl | rfl
      · exact own_c_5_2_000 w0 w1 w2
      · exact own_c_5_2_001 w0 w1 w2
      · exact own_c_5_2_010 w0 w1 w2
      · exact own_c_5_2_011 w0 w1 w2
      · exact own_c_5_2_100 w0 w1 w2
      · exact own_c_5_2_101 w0 w1 w2
      · exact own_c_5_2_110 w0 w1 w2
      · exact own_c_5_2_111 w0 w1 w2
    · rcases ha with rfl | rfl <;> rcases hb with rfl | rfl <;> rcases hd with rfl | rfl
      · exact own_c_5_3_000 w0 w1 w2
      · exact own_c_5_3_001 w0 w1 w2
      · exact own_c_5_3_010 w0 w1 w2
      · exact own_c_5_3_011 w0 w1 w2
      · exact own_c_5_3_100 w0 w1 w2
      · exact own_c_5_3_101 w0 w1 w2
      · exact own_c_5_3_110 w0 w1 w2
      · exact own_c_5_3_111 w0 w1 w2
theorem own_01 (Q : Prop) [Decidable Q] : (if Q then (0 : Int32) else (1 : Int32)) = 0 ∨ (if Q then (0 : Int32) else (1 : Int32)) = 1 := by
  split
  · exact Or.inl rfl
  · exact Or.inr rfl
theorem own_plain (q0 q1 q2 : Int64) (p3 p4 p5 : Int32) : own_F0 q0 q1 q2 p3 p4 p5 = 1 := by
  rw [own_red]
  refine own_all _ _ _ ?_ ?_ (own_01 _) (own_01 _) (own_01 _)
  · obtain ⟨n, hn⟩ : ∃ z : Int32, z = ((p4 &&& (2147483647 : Int32)) - ((p4 &&& (2147483647 : Int32)) / (6 : Int32)) * (6 : Int32)) := ⟨_, rfl⟩
    have hb := own_six hn
    rw [← hn]
    rcases (by omega : n.toInt = 0 ∨ n.toInt = 1 ∨ n.toInt = 2 ∨ n.toInt = 3 ∨ n.toInt = 4 ∨ n.toInt = 5) with h | h | h | h | h | h
    · exact Or.inl (Int32.toInt_inj.mp h)
    · exact Or.inr (Or.inl (Int32.toInt_inj.mp h))
    · exact Or.inr (Or.inr (Or.inl (Int32.toInt_inj.mp h)))
    · exact Or.inr (Or.inr (Or.inr (Or.inl (Int32.toInt_inj.mp h))))
    · exact Or.inr (Or.inr (Or.inr (Or.inr (Or.inl (Int32.toInt_inj.mp h)))))
    · exact Or.inr (Or.inr (Or.inr (Or.inr (Or.inr (Int32.toInt_inj.mp h)))))
  · obtain ⟨n, hn⟩ : ∃ z : Int32, z = (p5 &&& (3 : Int32)) := ⟨_, rfl⟩
    have hb := own_c3 hn
    rw [← hn]
    rcases (by omega : n.toInt = 0 ∨ n.toInt = 1 ∨ n.toInt = 2 ∨ n.toInt = 3) with h | h | h | h
    · exact Or.inl (Int32.toInt_inj.mp h)
    · exact Or.inr (Or.inl (Int32.toInt_inj.mp h))
    · exact Or.inr (Or.inr (Or.inl (Int32.toInt_inj.mp h)))
    · exact Or.inr (Or.inr (Or.inr (Int32.toInt_inj.mp h)))

set_option maxRecDepth 65536 in
set_option maxHeartbeats 40000000 in
theorem comes_1 {Post : Tables → Env → Array Value → State → Outcome → State → Prop} (hpost : ∀ tb e args s v u, (limb_1_1.after args s (.returned v) u = true ∧ limb_1_2.after args s (.returned v) u = true ∧ True) → FrameEnd s (.returned v) u (Jvm.fieldLocs frame_1_writes args s ++ Jvm.arrayLocs frame_1_arrays args s ++ Jvm.staticLocs frame_1_statics s) 24 128 → Post tb e args s (.returned v) u) :
    ArmFor flags0 classFile x code maxLocals ret World_1 tables_1 room_1 Calls_1 rest_1 Pre_1 Post := by
  intro l hfl _ _ p e ha hc hk s m args below hf hA hF happ hP
  obtain ⟨hcalls, hrest, hpre⟩ := hP
  obtain ⟨-, -, -, hnamed, -, -, -, hat⟩ := (Spec.applies_iff hf).mp happ
  obtain ⟨hg, hn⟩ := and_e (Cond.before_iff.mp (show (Jvm.Cond.and given_1 narrow_1).before args s = true from hpre))
  obtain ⟨g1, g2⟩ := and_e hg
  obtain ⟨ga0, gb0⟩ := and_e g2
  obtain ⟨ga1, gb1⟩ := and_e gb0
  obtain ⟨ga2, gb2⟩ := and_e gb1
  obtain ⟨ga3, gb3⟩ := and_e gb2
  obtain ⟨ga4, gb4⟩ := and_e gb3
  obtain ⟨w0, w1, w2, w3, w4, w5, rfl⟩ : ∃ w0 w1 w2 w3 w4 w5 : Value, args = #[w0, w1, w2, w3, w4, w5] := by
    have hs : args.size = 6 := by simpa [Cond.value, given_1] using g1
    obtain ⟨L⟩ := args
    match L, hs with
    | [w0, w1, w2, w3, w4, w5], _ => exact ⟨w0, w1, w2, w3, w4, w5, rfl⟩
  have hw := fun d (hd : d ∈ tables_1) => atoms_spec (ws := Jvm.Cond.code x code maxLocals ret :: tables_1) hat d (List.mem_cons_of_mem _ hd)
  obtain ⟨i0, ei0⟩ := isL_v ga0
  obtain rfl : w0 = (.long i0) := Option.some.inj ei0
  obtain ⟨i1, ei1⟩ := isL_v ga1
  obtain rfl : w1 = (.long i1) := Option.some.inj ei1
  obtain ⟨i2, ei2⟩ := isL_v ga2
  obtain rfl : w2 = (.long i2) := Option.some.inj ei2
  obtain ⟨i3, ei3⟩ := is_v ga3
  obtain rfl : w3 = (.int i3) := Option.some.inj ei3
  obtain ⟨i4, ei4⟩ := is_v ga4
  obtain rfl : w4 = (.int i4) := Option.some.inj ei4
  obtain ⟨i5, ei5⟩ := is_v gb4
  obtain rfl : w5 = (.int i5) := Option.some.inj ei5
  obtain ⟨n, o, h1, h2, h3, _, L, rfl, ⟨hv, N⟩, hq⟩ := own_rm0 l s _ hw tables_1 i0 i1 i2 i3 i4 i5 s.heap s.heap.size (Nat.le_refl _) p e ha hc hk s m _ below hf ((Spec.applies_iff_loose hf).mp happ).1 ⟨rfl, State.Warmed39.refl s, rfl⟩ trivial
  rw [own_plain i0 i1 i2 i3 i4 i5] at hv
  subst hv
  refine ⟨n, _, h1, h2, h3, hpost _ _ _ _ _ _ ⟨Cond.after_iff.mpr rfl, Cond.after_iff.mpr (eq_i res_at (Term.int_eval (1)) rfl), trivial⟩ ⟨hq.1, hq.2.1, (hq.2.2.sift fun y hy => Or.inr (N y hy)).mono (by decide) (by decide)⟩⟩
theorem main_1_1 : Claimed_1_1 := comes_1 fun _ _ _ _ _ _ h hF => ⟨h.1, hF⟩
theorem main_1_2 : Claimed_1_2 := comes_1 fun _ _ _ _ _ _ h hF => ⟨h.2.1, hF⟩
end Jvm.Pilot.@@N@@
namespace Jvm.Pilot.@@N@@
open Jvm Jvm.ClassFile Sem Op Lib Jvm.Free Jvm.Stand Jvm.Pilot.@@N@@.Jvm.D
/-! MADE BY PROGRAM (witnessworld.py) out of the Statement's table words and the real class files: 15 classes; the members and pool entries that the words name. The judged class is class 1, her method 2. -/
namespace start1
open Jvm.ClassFile
def u (s : String) : CpInfo := .utf8 (stringToUtf16 s)
/-- a pool by its gaps: so many unusable entries, then the entry; so many at the end -/
def gap : Nat → List CpInfo → List CpInfo
  | 0, r => r
  | n + 1, r => .unusable :: gap n r
def poolList (es : List (Nat × CpInfo)) (last : Nat) : List CpInfo := es.foldr (fun e r => gap e.1 (e.2 :: r)) (gap last [])
def pool (es : List (Nat × CpInfo)) (last : Nat) : Array CpInfo := ⟨poolList es last⟩
def fileOf (pool : Array CpInfo) (this : Nat) (attrs : Array Attribute := #[]) (ms : Array MethodInfo := #[]) (fl : Nat := 33) (sup : Nat := 0) (ifs : Array Nat := #[]) (fds : Array FieldInfo := #[]) : ClassFile where
  minorVersion := 0
  majorVersion := 65
  constantPool := pool
  accessFlags := fl
  thisClass := this
  superClass := sup
  interfaces := ifs
  fields := fds
  methods := ms
  attributes := attrs
def plain (name : String) (sup : Option ClassId) : Class where
  name := name
  kind := .ordinary
  loader := none
  accessFlags := 33
  super := sup
  interfaces := #[]
  cf := none
  fields := #[]
  methods := #[]
  instanceTypes := #[]
  staticTypes := #[]
  resolved := #[]
  callSites := []
  init := .initialized
  statics := none
  mirror := none

def pool0 : Array CpInfo := pool [(5, u "<init>"), (0, u "()V"), (1, .class_ 10), (1, u "java/lang/Object"), (85, u "clone"), (0, u "()Ljava/lang/Object;")] 26

def k0c0 : Code := { maxStack := 0, maxLocals := 1, code := object_method_1_code, exceptionTable := #[], attributes := #[] }
def k0m0 : Method := { name := "<init>", desc := "()V", sig := { parameters := [], returnType := none }, accessFlags := 1, code := some k0c0 }
def k0m1 : Method := { name := "clone", desc := "()Ljava/lang/Object;", sig := { parameters := [], returnType := some (.object "java/lang/Object") }, accessFlags := 260, code := none }
/-- java/lang/Object -/
def k0 : Class := { plain "java/lang/Object" none with
  accessFlags := 33
  interfaces := #[]
  cf := some (fileOf pool0 8 #[] #[{ accessFlags := 1, nameIndex := 5, descriptorIndex := 6, attributes := #[] }, { accessFlags := 260, nameIndex := 96, descriptorIndex := 97, attributes := #[] }] 33 0 #[] #[])
  fields := #[]
  methods := #[k0m0, k0m1]
  instanceTypes := #[]
  staticTypes := #[]
  resolved := Array.replicate 124 none
  statics := none }

def pool1 : Array CpInfo := pool [(2, .class_ 4), (1, u "java/lang/Object"), (0, u "<init>"), (0, u "()V"), (0, .long 1152921504606846975), (1, .integer 2147483647), (0, .methodref 11 12), (0, .class_ 13), (0, .nameAndType 14 15), (0, u "com/example/evotempo/evotempo/problem/LinearFunctionFitnessAfterFlipsPinLaw"), (0, u "flipped"), (0, u "(IIIII)Z"), (0, .class_ 17), (0, u "com/example/evotempo/evotempo/problem/LinearFunction"), (0, .methodref 16 19), (0, .nameAndType 5 20), (0, u "([J)V"), (0, .methodref 16 22), (0, .nameAndType 23 24), (0, u "fitnessAfterFlips"), (0, u "([ZJ[II)J"), (3, u "law"), (0, u "(JJJIII)Z")] 6

def k1m0 : Method := { name := "<init>", desc := "()V", sig := { parameters := [], returnType := none }, accessFlags := 1, code := none }
def k1c1 : Code := { maxStack := 2, maxLocals := 5, code := method_2_code, exceptionTable := #[], attributes := #[] }
def k1m1 : Method := { name := "flipped", desc := "(IIIII)Z", sig := { parameters := [.int, .int, .int, .int, .int], returnType := some .boolean }, accessFlags := 10, code := some k1c1 }
def k1c2 : Code := { maxStack := 7, maxLocals := 37, code := code, exceptionTable := #[], attributes := #[] }
def k1m2 : Method := { name := "law", desc := "(JJJIII)Z", sig := { parameters := [.long, .long, .long, .int, .int, .int], returnType := some .boolean }, accessFlags := 9, code := some k1c2 }
/-- com/example/evotempo/evotempo/problem/LinearFunctionFitnessAfterFlipsPinLaw -/
def k1 : Class := { plain "com/example/evotempo/evotempo/problem/LinearFunctionFitnessAfterFlipsPinLaw" (some 0) with
  accessFlags := 49
  interfaces := #[]
  cf := some (fileOf pool1 11 #[] #[{ accessFlags := 1, nameIndex := 5, descriptorIndex := 6, attributes := #[] }, { accessFlags := 10, nameIndex := 14, descriptorIndex := 15, attributes := #[] }, { accessFlags := 9, nameIndex := 28, descriptorIndex := 29, attributes := #[] }] 49 2 #[] #[])
  fields := #[]
  methods := #[k1m0, k1m1, k1m2]
  instanceTypes := #[]
  staticTypes := #[]
  resolved := Array.replicate 36 none
  statics := none }

def pool2 : Array CpInfo := pool [(1, .class_ 2), (0, u "com/example/evotempo/evotempo/problem/Problem"), (0, .class_ 4), (0, u "java/lang/Object")] 10

/-- com/example/evotempo/evotempo/problem/Problem -/
def k2 : Class := { plain "com/example/evotempo/evotempo/problem/Problem" (some 0) with
  accessFlags := 1537
  interfaces := #[]
  cf := some (fileOf pool2 1 #[] #[] 1537 3 #[] #[])
  fields := #[]
  methods := #[]
  instanceTypes := #[]
  staticTypes := #[]
  resolved := Array.replicate 15 none
  statics := none }

def pool3 : Array CpInfo := pool [(1, .methodref 2 3), (0, .class_ 4), (0, .nameAndType 5 6), (0, u "java/lang/Object"), (0, u "<init>"), (0, u "()V"), (11, .methodref 19 20), (0, .class_ 21), (0, .nameAndType 22 23), (0, u "java/lang/Math"), (0, u "addExact"), (0, u "(JJ)J"), (9, .methodref 34 35), (0, .class_ 36), (0, .nameAndType 37 38), (0, u "[J"), (0, u "clone"), (0, u "()Ljava/lang/Object;"), (0, .fieldref 40 41), (0, .class_ 42), (0, .nameAndType 43 36), (0, u "com/example/evotempo/evotempo/problem/LinearFunction"), (0, u "weights"), (0, .fieldref 40 45), (0, .nameAndType 46 47), (0, u "optimum"), (0, u "J"), (17, u "([J)V"), (105, .class_ 172), (0, u "com/example/evotempo/evotempo/problem/Problem"), (0, u "LONGEST_WEIGHT"), (0, u "I"), (21, u "fitnessAfterFlips"), (0, u "([ZJ[II)J")] 51

def k3c0 : Code := { maxStack := 5, maxLocals := 6, code := prog_74_method_1_code, exceptionTable := #[{ startPc := 61, endPc := 70, handlerPc := 73, catchType := 24 }], attributes := #[] }
def k3m0 : Method := { name := "<init>", desc := "([J)V", sig := { parameters := [(.array .long)], returnType := none }, accessFlags := 1, code := some k3c0 }
def k3c1 : Code := { maxStack := 4, maxLocals := 10, code := prog_74_method_7_code, exceptionTable := #[], attributes := #[] }
def k3m1 : Method := { name := "fitnessAfterFlips", desc := "([ZJ[II)J", sig := { parameters := [(.array .boolean), .long, (.array .int), .int], returnType := some .long }, accessFlags := 1, code := some k3c1 }
/-- com/example/evotempo/evotempo/problem/LinearFunction -/
def k3 : Class := { plain "com/example/evotempo/evotempo/problem/LinearFunction" (some 0) with
  accessFlags := 49
  interfaces := #[2]
  cf := some (fileOf pool3 40 #[] #[{ accessFlags := 1, nameIndex := 5, descriptorIndex := 65, attributes := #[] }, { accessFlags := 1, nameIndex := 196, descriptorIndex := 197, attributes := #[] }] 49 2 #[171] #[{ accessFlags := 26, nameIndex := 173, descriptorIndex := 174, attributes := #[] }, { accessFlags := 18, nameIndex := 43, descriptorIndex := 36, attributes := #[] }, { accessFlags := 18, nameIndex := 46, descriptorIndex := 47, attributes := #[] }])
  fields := #[{ name := "LONGEST_WEIGHT", type := .int, accessFlags := 26, slot := 0, constantValue := 0 }, { name := "weights", type := (.array .long), accessFlags := 18, slot := 0, constantValue := 0 }, { name := "optimum", type := .long, accessFlags := 18, slot := 1, constantValue := 0 }]
  methods := #[k3m0, k3m1]
  instanceTypes := #[(.array .long), .long]
  staticTypes := #[.int]
  resolved := Array.replicate 249 none
  statics := none }

def pool4 : Array CpInfo := pool [(1, .class_ 2), (0, u "java/lang/Math"), (1, .class_ 6), (1, u "java/lang/Object"), (0, u "<init>"), (0, u "()V"), (89, .class_ 100), (1, u "java/lang/Math$RandomNumberGeneratorHolder"), (20, u "(JJ)J"), (50, u "negativeZeroFloatBits"), (0, u "J"), (2, u "negativeZeroDoubleBits"), (68, u "$assertionsDisabled"), (0, u "Z"), (91, u "twoToTheDoubleScaleDown"), (0, u "D"), (4, u "twoToTheDoubleScaleUp"), (9, u "E"), (3, u "PI"), (2, u "TAU"), (2, u "DEGREES_TO_RADIANS"), (0, u "RADIANS_TO_DEGREES"), (27, u "addExact")] 66

def k4m0 : Method := { name := "<init>", desc := "()V", sig := { parameters := [], returnType := none }, accessFlags := 2, code := none }
def k4c1 : Code := { maxStack := 6, maxLocals := 6, code := jdk_29_method_25_code, exceptionTable := #[], attributes := #[] }
def k4m1 : Method := { name := "addExact", desc := "(JJ)J", sig := { parameters := [.long, .long], returnType := some .long }, accessFlags := 9, code := some k4c1 }
/-- java/lang/Math -/
def k4 : Class := { plain "java/lang/Math" (some 0) with
  accessFlags := 49
  interfaces := #[]
  cf := some (fileOf pool4 1 #[.nestMembers #[98]] #[{ accessFlags := 2, nameIndex := 7, descriptorIndex := 8, attributes := #[] }, { accessFlags := 9, nameIndex := 393, descriptorIndex := 121, attributes := #[] }] 49 4 #[] #[{ accessFlags := 25, nameIndex := 354, descriptorIndex := 339, attributes := #[] }, { accessFlags := 25, nameIndex := 358, descriptorIndex := 339, attributes := #[] }, { accessFlags := 25, nameIndex := 361, descriptorIndex := 339, attributes := #[] }, { accessFlags := 26, nameIndex := 364, descriptorIndex := 339, attributes := #[] }, { accessFlags := 26, nameIndex := 365, descriptorIndex := 339, attributes := #[] }, { accessFlags := 26, nameIndex := 172, descriptorIndex := 173, attributes := #[] }, { accessFlags := 26, nameIndex := 176, descriptorIndex := 173, attributes := #[] }, { accessFlags := 8, nameIndex := 344, descriptorIndex := 339, attributes := #[] }, { accessFlags := 8, nameIndex := 338, descriptorIndex := 339, attributes := #[] }, { accessFlags := 4120, nameIndex := 245, descriptorIndex := 246, attributes := #[] }])
  fields := #[{ name := "E", type := .double, accessFlags := 25, slot := 0, constantValue := 0 }, { name := "PI", type := .double, accessFlags := 25, slot := 1, constantValue := 0 }, { name := "TAU", type := .double, accessFlags := 25, slot := 2, constantValue := 0 }, { name := "DEGREES_TO_RADIANS", type := .double, accessFlags := 26, slot := 3, constantValue := 0 }, { name := "RADIANS_TO_DEGREES", type := .double, accessFlags := 26, slot := 4, constantValue := 0 }, { name := "negativeZeroFloatBits", type := .long, accessFlags := 26, slot := 5, constantValue := 0 }, { name := "negativeZeroDoubleBits", type := .long, accessFlags := 26, slot := 6, constantValue := 0 }, { name := "twoToTheDoubleScaleUp", type := .double, accessFlags := 8, slot := 7, constantValue := 0 }, { name := "twoToTheDoubleScaleDown", type := .double, accessFlags := 8, slot := 8, constantValue := 0 }, { name := "$assertionsDisabled", type := .boolean, accessFlags := 4120, slot := 9, constantValue := 0 }]
  methods := #[k4m0, k4m1]
  instanceTypes := #[]
  staticTypes := #[.double, .double, .double, .double, .double, .long, .long, .double, .double, .boolean]
  resolved := Array.replicate 460 none
  statics := none }

def pool5 : Array CpInfo := pool [(1, .class_ 2), (0, u "java/lang/Cloneable"), (0, .class_ 4), (0, u "java/lang/Object")] 2

/-- java/lang/Cloneable -/
def k5 : Class := { plain "java/lang/Cloneable" (some 0) with
  accessFlags := 1537
  interfaces := #[]
  cf := some (fileOf pool5 1 #[] #[] 1537 3 #[] #[])
  fields := #[]
  methods := #[]
  instanceTypes := #[]
  staticTypes := #[]
  resolved := Array.replicate 7 none
  statics := none }

def pool6 : Array CpInfo := pool [(1, u "java/io/Serializable"), (0, .class_ 1), (0, u "java/lang/Object"), (0, .class_ 3)] 3

/-- java/io/Serializable -/
def k6 : Class := { plain "java/io/Serializable" (some 0) with
  accessFlags := 1537
  interfaces := #[]
  cf := some (fileOf pool6 2 #[] #[] 1537 4 #[] #[])
  fields := #[]
  methods := #[]
  instanceTypes := #[]
  staticTypes := #[]
  resolved := Array.replicate 8 none
  statics := none }

/-- the primitive boolean -/
def k7 : Class := { plain "boolean" none with kind := .primitive 'Z', accessFlags := 0x411 }
/-- [Z -/
def k8 : Class := { plain "[Z" (some 0) with kind := .array 7 .boolean, interfaces := #[5, 6], accessFlags := 1041 }

/-- the primitive byte -/
def k9 : Class := { plain "byte" none with kind := .primitive 'B', accessFlags := 0x411 }
/-- [B -/
def k10 : Class := { plain "[B" (some 0) with kind := .array 9 .byte, interfaces := #[5, 6], accessFlags := 1041 }

/-- the primitive int -/
def k11 : Class := { plain "int" none with kind := .primitive 'I', accessFlags := 0x411 }
/-- [I -/
def k12 : Class := { plain "[I" (some 0) with kind := .array 11 .int, interfaces := #[5, 6], accessFlags := 1041 }

/-- the primitive long -/
def k13 : Class := { plain "long" none with kind := .primitive 'J', accessFlags := 0x411 }
/-- [J -/
def k14 : Class := { plain "[J" (some 0) with kind := .array 13 .long, interfaces := #[5, 6], accessFlags := 1041 }

def heap : Heap := #[]
def classes : Array Class := #[k0, k1, k2, k3, k4, k5, k6, k7, k8, k9, k10, k11, k12, k13, k14]
def interned : List (Array UInt16 × Addr) := []
def slotsUsed : Nat := 0
def theMethod : MethodId := ⟨1, 2⟩
def args0 : Array Value := #[.long 5, .long 5, .long 5, .int 5, .int 5, .int 5]
def aboutOver (below : List Frame) : State where
  vm := { classes := classes, interned := interned.toArray }
  heap := heap
  slotsUsed := slotsUsed
  threads := #[{ frames := .invoking theMethod args0 :: below }]
def below0 : List Frame := [.native { method := ⟨0, 0⟩, args := #[] }]
def about1 : State := aboutOver below0
def p0 : Program := .bare "" "" ""
def e0 : Env := launch0.env 0 0 0
theorem w_frames : about1.frames = Frame.invoking theMethod args0 :: below0 := rfl
set_option maxRecDepth 65536 in
theorem w_args : argsFit about1.vm theMethod args0 = true := by decide +kernel
set_option maxRecDepth 65536 in
theorem w_heap : heapFits about1 = true := by decide +kernel
set_option maxRecDepth 65536 in
theorem w_runnable : about1.curStatus? = some .runnable := by decide +kernel
set_option maxRecDepth 65536 in
theorem w_alone : about1.alone = true := by decide +kernel
set_option maxRecDepth 65536 in
theorem w_named : about1.methodNamed? x = some theMethod := by decide +kernel
set_option maxRecDepth 65536 in
theorem w_hears : about1.hears theMethod below0 = true := by decide +kernel
set_option maxRecDepth 65536 in
theorem w_ripe : about1.ripe theMethod args0 below0 = true := by decide +kernel
theorem w_running : about1.status = .running := rfl
set_option maxRecDepth 65536 in
theorem w_room : about1.hasRoom e0.platform room_1 = true :=
  launch0.hasRoom_least _ room_1 (by decide +kernel) (by decide +kernel) (by decide +kernel) (by decide +kernel) (by decide +kernel) (by decide +kernel)
theorem allAtoms_all (ts : List Jvm.Cond) (a : Array Jvm.Value) (st : Jvm.State) : (allAtoms ts).before a st = ts.all (fun c => c.before a st) := by
  induction ts with
  | nil => rfl
  | cons c t ih =>
    show (Jvm.Cond.and c (allAtoms t)).before a st = _
    rw [Jvm.Cond.before_and, ih, List.all_cons]
def words1 : List Jvm.Cond := Jvm.Cond.code x code maxLocals ret :: tables_1
/-- a 'code' word, met by the world's own term for the bytes: nothing is compared byte by byte -/
theorem code_word {y : MethodName} {bytes : ByteArray} {mx : Nat} {rt : Option FieldType} {a : Array Value} {s : State} {m : MethodId} {meth : Method} {c : Code} (h1 : s.methodNamed? y = some m) (h2 : s.vm.method? m = some meth) (h3 : meth.code = some c) (h4 : c.code = bytes)
    (h5 : (c.maxLocals == mx && c.exceptionTable.isEmpty && decide (c.maxStack ≤ mostOperands) && decide (meth.sig.returnType = rt) && !meth.locks && decide (parseMethodDescriptor y.desc = some meth.sig)) = true) : (Jvm.Cond.code y bytes mx rt).before a s = true := by
  simp only [Bool.and_eq_true, beq_iff_eq, Bool.not_eq_true', decide_eq_true_eq] at h5
  obtain ⟨⟨⟨⟨⟨g1, g2⟩, g3⟩, g4⟩, g5⟩, g6⟩ := h5
  simp [Cond.before, Cond.holds, Cond.value, h1, h2, h3, h4, g1, g2, g3, g4, g5, g6]
def isCode : Jvm.Cond → Bool
  | .code _ _ _ _ => true
  | _ => false
theorem all_split {L : List Jvm.Cond} {P : Jvm.Cond → Bool} (h1 : L.all (fun c => isCode c || P c) = true) (h2 : ∀ c ∈ L.filter isCode, P c = true) : L.all P = true := by
  refine List.all_eq_true.mpr fun c hc => ?_
  have h := List.all_eq_true.mp h1 c hc
  rcases Bool.eq_false_or_eq_true (isCode c) with hi | hi
  · exact h2 c (List.mem_filter.mpr ⟨hc, hi⟩)
  · simpa [hi] using h
set_option maxRecDepth 65536 in
theorem w_c0 : (Jvm.Cond.code x code maxLocals ret).before args0 about1 = true := code_word (m := ⟨1, 2⟩) (meth := k1m2) (c := k1c2) (by decide +kernel) rfl rfl rfl (by decide +kernel)
set_option maxRecDepth 65536 in
theorem w_c1 : (Jvm.Cond.code ({ cls := "com/example/evotempo/evotempo/problem/LinearFunctionFitnessAfterFlipsPinLaw", name := "flipped", desc := "(IIIII)Z" } : Jvm.MethodName) method_2_code (5 : Nat) (Option.some Jvm.ClassFile.FieldType.boolean)).before args0 about1 = true := code_word (m := ⟨1, 1⟩) (meth := k1m1) (c := k1c1) (by decide +kernel) rfl rfl rfl (by decide +kernel)
set_option maxRecDepth 65536 in
theorem w_c2 : (Jvm.Cond.code ({ cls := "java/lang/Object", name := "<init>", desc := "()V" } : Jvm.MethodName) object_method_1_code (1 : Nat) (Option.none : Option Jvm.ClassFile.FieldType)).before args0 about1 = true := code_word (m := ⟨0, 0⟩) (meth := k0m0) (c := k0c0) (by decide +kernel) rfl rfl rfl (by decide +kernel)
set_option maxRecDepth 65536 in
theorem w_c3 : (Jvm.Cond.code ({ cls := "java/lang/Math", name := "addExact", desc := "(JJ)J" } : Jvm.MethodName) jdk_29_method_25_code (6 : Nat) (Option.some Jvm.ClassFile.FieldType.long)).before args0 about1 = true := code_word (m := ⟨4, 1⟩) (meth := k4m1) (c := k4c1) (by decide +kernel) rfl rfl rfl (by decide +kernel)
set_option maxRecDepth 65536 in
theorem w_c4 : (Jvm.Cond.code ({ cls := "com/example/evotempo/evotempo/problem/LinearFunction", name := "fitnessAfterFlips", desc := "([ZJ[II)J" } : Jvm.MethodName) prog_74_method_7_code (10 : Nat) (Option.some Jvm.ClassFile.FieldType.long)).before args0 about1 = true := code_word (m := ⟨3, 1⟩) (meth := k3m1) (c := k3c1) (by decide +kernel) rfl rfl rfl (by decide +kernel)
def codes1 : List Jvm.Cond := [Jvm.Cond.code x code maxLocals ret, Jvm.Cond.code ({ cls := "com/example/evotempo/evotempo/problem/LinearFunctionFitnessAfterFlipsPinLaw", name := "flipped", desc := "(IIIII)Z" } : Jvm.MethodName) method_2_code (5 : Nat) (Option.some Jvm.ClassFile.FieldType.boolean), Jvm.Cond.code ({ cls := "java/lang/Object", name := "<init>", desc := "()V" } : Jvm.MethodName) object_method_1_code (1 : Nat) (Option.none : Option Jvm.ClassFile.FieldType), Jvm.Cond.code ({ cls := "java/lang/Math", name := "addExact", desc := "(JJ)J" } : Jvm.MethodName) jdk_29_method_25_code (6 : Nat) (Option.some Jvm.ClassFile.FieldType.long), Jvm.Cond.code ({ cls := "com/example/evotempo/evotempo/problem/LinearFunction", name := "fitnessAfterFlips", desc := "([ZJ[II)J" } : Jvm.MethodName) prog_74_method_7_code (10 : Nat) (Option.some Jvm.ClassFile.FieldType.long)]
set_option maxRecDepth 65536 in
theorem codes_eq : words1.filter isCode = codes1 := rfl
theorem w_codes : ∀ c ∈ words1.filter isCode, c.before args0 about1 = true := by
  rw [codes_eq]
  intro c hc
  simp only [codes1, List.mem_cons, List.not_mem_nil, or_false] at hc
  rcases hc with rfl | rfl | rfl | rfl | rfl
  · exact w_c0
  · exact w_c1
  · exact w_c2
  · exact w_c3
  · exact w_c4
set_option maxRecDepth 65536 in
theorem w_t1 : (words1.take 24).all (fun c => isCode c || c.before args0 about1) = true := by decide +kernel
set_option maxRecDepth 65536 in
theorem w_t2 : (words1.drop 24).all (fun c => isCode c || c.before args0 about1) = true := by decide +kernel
theorem w_tables : (allAtoms (Jvm.Cond.code x code maxLocals ret :: tables_1)).before args0 about1 = true := by
  rw [allAtoms_all]
  show words1.all (fun c => c.before args0 about1) = true
  refine all_split ?_ w_codes
  rw [← List.take_append_drop 24 words1, List.all_append, w_t1, w_t2]
  rfl
set_option maxRecDepth 65536 in
theorem w_case : (Jvm.Cond.and given_1 narrow_1).before args0 about1 = true := by decide +kernel
theorem w_applies : (headSpec (Jvm.Cond.code x code maxLocals ret :: tables_1) room_1).applies x e0.platform about1 = true :=
  (Spec.applies_iff w_frames).mpr ⟨w_running, w_runnable, w_alone, w_named, w_hears, w_ripe, w_room, w_tables⟩
theorem atStart : AtStart classFile x code maxLocals ret World_1 tables_1 room_1 Calls_1 rest_1 Pre_1 launch0 p0 e0 about1 theMethod args0 below0 :=
  ⟨lists_1, trivial, launch0.admits_env _ _ _, launch0.least_env, fairChoices_fair.cas, fairChoices_fair.clock, w_frames, w_args, w_heap, w_applies, trivial, trivial, w_case⟩
end start1
theorem witness_1 : WitnessClaimed_1 := ⟨start1.p0, start1.e0, start1.about1, start1.theMethod, start1.args0, start1.below0, start1.atStart⟩
end Jvm.Pilot.@@N@@
