import JvmDerived
import JvmDerived.Pilot.@@N@@Statement
import JvmDerived.Pilot.@@N@@Code
set_option linter.unusedVariables false
set_option linter.unusedSimpArgs false
namespace Jvm.RoadKit
open Sem ClassFile Op Lib Jvm.Stand Jvm.Free Jvm.LawKit
section New
variable {p : Program} {l : Launch} {e : Env} {R : Room} {s : State} {m : MethodId} {args : Array Value} {below : List Frame} {meth : Method} {c : Code} {T : State} {locs : List Loc} {cells slots : Nat}
theorem retI (X : Stand p l e R s m args below meth c T locs cells slots) (hx : p.tables.exec = Jvm.exec) {pc : Nat} {Ls : Array Slot} {z : Int32} {rest : List Value} (hret : meth.sig.returnType = some .int) (hd : decode c.code pc = .ok (.ireturn, 1)) {fs : List Frame}
    (hl : ∀ (f : JFrame) (acts : List Action), f.method = m → f.locked = none → f.entered = [] → (doReturn e (T.setTop f) acts (some (.int z))).1 = T.setFrames fs) : Steps p.tables e below (T.setTop (mkF m pc Ls (.int z :: rest))) (T.setFrames fs) := by
  have hm' : T.vm.method? m = some meth := X.method'
  have hn : narrow .int (.int z) = .int z := rfl
  show Steps p.tables e below (T.setTop { method := m, pc := pc, locals := Ls, stack := _ :: rest, locked := none }) _
  jvm_step X.here [X.here.top, hx, hd, hm', hret, hn]
  first | (intro acts; rw [hl _ acts rfl rfl rfl]) | rw [hl _ _ rfl rfl rfl]
  exact Steps.refl _
theorem retJ (X : Stand p l e R s m args below meth c T locs cells slots) (hx : p.tables.exec = Jvm.exec) {pc : Nat} {Ls : Array Slot} {z : Int64} {rest : List Value} (hret : meth.sig.returnType = some .long) (hd : decode c.code pc = .ok (.lreturn, 1)) {fs : List Frame}
    (hl : ∀ (f : JFrame) (acts : List Action), f.method = m → f.locked = none → f.entered = [] → (doReturn e (T.setTop f) acts (some (.long z))).1 = T.setFrames fs) : Steps p.tables e below (T.setTop (mkF m pc Ls (.long z :: rest))) (T.setFrames fs) := by
  have hm' : T.vm.method? m = some meth := X.method'
  show Steps p.tables e below (T.setTop { method := m, pc := pc, locals := Ls, stack := _ :: rest, locked := none }) _
  jvm_step X.here [X.here.top, hx, hd, hm', hret]
  first | (intro acts; rw [hl _ acts rfl rfl rfl]) | rw [hl _ _ rfl rfl rfl]
  exact Steps.refl _
theorem retR (X : Stand p l e R s m args below meth c T locs cells slots) (hx : p.tables.exec = Jvm.exec) {pc : Nat} {Ls : Array Slot} {z : Addr} {t : FieldType} {rest : List Value} (hret : meth.sig.returnType = some t) (ht : t.isReference = true) (hd : decode c.code pc = .ok (.areturn, 1)) {fs : List Frame}
    (hl : ∀ (f : JFrame) (acts : List Action), f.method = m → f.locked = none → f.entered = [] → (doReturn e (T.setTop f) acts (some (.ref z))).1 = T.setFrames fs) : Steps p.tables e below (T.setTop (mkF m pc Ls (.ref z :: rest))) (T.setFrames fs) := by
  have hm' : T.vm.method? m = some meth := X.method'
  show Steps p.tables e below (T.setTop { method := m, pc := pc, locals := Ls, stack := _ :: rest, locked := none }) _
  jvm_step X.here [X.here.top, hx, hd, hm', hret, Value.isRef, ht]
  first | (intro acts; rw [hl _ acts rfl rfl rfl]) | rw [hl _ _ rfl rfl rfl]
  exact Steps.refl _
end New
end Jvm.RoadKit
namespace Jvm.Pilot.@@N@@
open Jvm Jvm.ClassFile Sem Op Lib Jvm.Free Jvm.Stand Jvm.LawKit Jvm.RoadKit Bundle Jvm.Pilot.@@N@@.Jvm.D
/-- from the frame g, where T stands, the body comes to its end, and its end is as QQ says -/
def own_End (p : Program) (e : Env) (below : List Frame) (s : State) (QQ : Option Value → Heap → List Loc → Prop) (rc rs : Nat) (T : State) (g : JFrame) : Prop :=
  ∃ s₂ o, Steps p.tables e below (T.setTop g) s₂ ∧ s₂.status = .running ∧ Ended s₂ below o ∧ ∃ v L, o = .returned v ∧ QQ v s₂.heap L ∧ FrameEnd s o s₂ L rc rs
section Own
variable {p : Program} {l : Launch} {e : Env} {R : Room} {s : State} {m : MethodId} {args : Array Value} {below : List Frame} {meth : Method} {c : Code} {T T' : State} {locs : List Loc} {cells slots : Nat} {QQ : Option Value → Heap → List Loc → Prop} {rc rs : Nat}
theorem own_End.go {g g' : JFrame} (st : ∀ t, Steps p.tables e below (T'.setTop g') t → Steps p.tables e below (T.setTop g) t) (h : own_End p e below s QQ rc rs T' g') : own_End p e below s QQ rc rs T g := by
  obtain ⟨s2, o, a, b⟩ := h
  exact ⟨s2, o, st _ a, b⟩
theorem own_leafI (X : Stand p l e R s m args below meth c T locs cells slots) (hx : p.tables.exec = Jvm.exec) (hk : meth.locks = false) {pc : Nat} {Ls : Array Slot} {z : Int32} {rest : List Value} (hret : meth.sig.returnType = some .int) (hd : decode c.code pc = .ok (.ireturn, 1)) (hq : QQ (some (.int z)) T.heap locs) (h1 : cells ≤ rc) (h2 : slots ≤ rs) : own_End p e below s QQ rc rs T (mkF m pc Ls (.int z :: rest)) := by
  obtain ⟨fs, hr, hrun, hended, hW, hsame⟩ := X.leave (v := some (.int z)) (fun h => by rw [hret] at h; cases h) hk
  exact ⟨_, _, retI X hx hret hd hr, hrun, hended, _, _, rfl, hq, ⟨_, rfl⟩, hW, hsame.mono h1 h2⟩
theorem own_leafN (X : Stand p l e R s m args below meth c T locs cells slots) (hx : p.tables.exec = Jvm.exec) (hk : meth.locks = false) {pc : Nat} {Ls : Array Slot} {z : Int32} {t : FieldType} {rest : List Value} (hret : meth.sig.returnType = some t) (ht : t = .boolean ∨ t = .byte ∨ t = .char ∨ t = .short) (hd : decode c.code pc = .ok (.ireturn, 1)) (hq : QQ (some (.int (nar t z))) T.heap locs) (h1 : cells ≤ rc) (h2 : slots ≤ rs) : own_End p e below s QQ rc rs T (mkF m pc Ls (.int z :: rest)) := by
  obtain ⟨fs, hr, hrun, hended, hW, hsame⟩ := X.leave (v := some (.int (nar t z))) (fun h => by rw [hret] at h; cases h) hk
  exact ⟨_, _, retN X hx hret ht hd hr, hrun, hended, _, _, rfl, hq, ⟨_, rfl⟩, hW, hsame.mono h1 h2⟩
theorem own_leafJ (X : Stand p l e R s m args below meth c T locs cells slots) (hx : p.tables.exec = Jvm.exec) (hk : meth.locks = false) {pc : Nat} {Ls : Array Slot} {z : Int64} {rest : List Value} (hret : meth.sig.returnType = some .long) (hd : decode c.code pc = .ok (.lreturn, 1)) (hq : QQ (some (.long z)) T.heap locs) (h1 : cells ≤ rc) (h2 : slots ≤ rs) : own_End p e below s QQ rc rs T (mkF m pc Ls (.long z :: rest)) := by
  obtain ⟨fs, hr, hrun, hended, hW, hsame⟩ := X.leave (v := some (.long z)) (fun h => by rw [hret] at h; cases h) hk
  exact ⟨_, _, retJ X hx hret hd hr, hrun, hended, _, _, rfl, hq, ⟨_, rfl⟩, hW, hsame.mono h1 h2⟩
theorem own_leafR (X : Stand p l e R s m args below meth c T locs cells slots) (hx : p.tables.exec = Jvm.exec) (hk : meth.locks = false) {pc : Nat} {Ls : Array Slot} {z : Addr} {t : FieldType} {rest : List Value} (hret : meth.sig.returnType = some t) (ht : t.isReference = true) (hd : decode c.code pc = .ok (.areturn, 1)) (hq : QQ (some (.ref z)) T.heap locs) (h1 : cells ≤ rc) (h2 : slots ≤ rs) : own_End p e below s QQ rc rs T (mkF m pc Ls (.ref z :: rest)) := by
  obtain ⟨fs, hr, hrun, hended, hW, hsame⟩ := X.leave (v := some (.ref z)) (fun h => by rw [hret] at h; cases h) hk
  exact ⟨_, _, retR X hx hret ht hd hr, hrun, hended, _, _, rfl, hq, ⟨_, rfl⟩, hW, hsame.mono h1 h2⟩
theorem own_leafV (X : Stand p l e R s m args below meth c T locs cells slots) (hx : p.tables.exec = Jvm.exec) (hk : meth.locks = false) {pc : Nat} {Ls : Array Slot} (hret : meth.sig.returnType = none) (hd : decode c.code pc = .ok (.return_, 1)) (hq : QQ none T.heap locs) (h1 : cells ≤ rc) (h2 : slots ≤ rs) : own_End p e below s QQ rc rs T (mkF m pc Ls []) := by
  obtain ⟨fs, hr, hrun, hended, hW, hsame⟩ := X.leave (v := none) (fun _ => rfl) hk
  exact ⟨_, _, X.returnOut hx hret hd hr, hrun, hended, _, _, rfl, hq, ⟨_, rfl⟩, hW, hsame.mono h1 h2⟩
end Own
theorem own_nb0 : nar .boolean (0 : Int32) = 0 := by decide
theorem own_nb1 : nar .boolean (1 : Int32) = 1 := by decide
theorem own_oneif {P : Prop} [Decidable P] {x y : Slot} (hx : One x) (hy : One y) : One (if P then x else y) := by split <;> assumption

/-! arrays as lists; one step, one row -/
def own_IA (Z : State) (h : Heap) (a : Addr) (ty : FieldType) (L : List Int32) : Prop := ∃ k n, Arv Z h a k ty n (L.map Value.int) (.int 0) ∧ n.toInt = (L.length : Int)
def own_JA (Z : State) (h : Heap) (a : Addr) (L : List Int64) : Prop := ∃ k n, Arv Z h a k .long n (L.map Value.long) (.long 0) ∧ n.toInt = (L.length : Int)
theorem own_IA.keep {Z : State} {h h' : Heap} {a : Addr} {ty : FieldType} {L : List Int32} {ws : List Addr} (V : own_IA Z h a ty L) (K : Keep h h' ws) (q : a ∉ ws) : own_IA Z h' a ty L := by
  obtain ⟨k, n, A, e⟩ := V; exact ⟨k, n, A.keep K q, e⟩
theorem own_JA.keep {Z : State} {h h' : Heap} {a : Addr} {L : List Int64} {ws : List Addr} (V : own_JA Z h a L) (K : Keep h h' ws) (q : a ∉ ws) : own_JA Z h' a L := by
  obtain ⟨k, n, A, e⟩ := V; exact ⟨k, n, A.keep K q, e⟩
theorem own_IA.lt {Z : State} {h : Heap} {a : Addr} {ty : FieldType} {L : List Int32} (V : own_IA Z h a ty L) : a < h.size := by
  obtain ⟨k, n, A, e⟩ := V; exact A.lt
theorem own_JA.lt {Z : State} {h : Heap} {a : Addr} {L : List Int64} (V : own_JA Z h a L) : a < h.size := by
  obtain ⟨k, n, A, e⟩ := V; exact A.lt
theorem own_IA.len {Z : State} {h : Heap} {a : Addr} {ty : FieldType} {L : List Int32} (V : own_IA Z h a ty L) : (L.length : Int) < 2147483648 := by
  obtain ⟨k, n, A, e⟩ := V; have := rng32 n; omega
theorem own_keepE {h h' : Heap} (E : Ext h h') : Keep h h' [] := (Keep.refl h []).ext E
theorem own_ne {h : Heap} {x y : Addr} (hx : x < h.size) (hy : h.size ≤ y) : x ≠ y := Nat.ne_of_lt (Nat.lt_of_lt_of_le hx hy)
theorem own_clamp {j : Int32} (h : 0 ≤ j.toInt) : j.toNatClampNeg = j.toInt.toNat := rfl
theorem own_lt0 {n : Int32} (h : 0 ≤ n.toInt) : ¬ n < 0 := by
  rw [Int32.lt_iff_toInt_lt]; have : (0 : Int32).toInt = 0 := by decide
  omega
theorem own_in {j : Int32} {n m : Nat} (hn : n = m) (h : 0 ≤ j.toInt ∧ j.toInt < (m : Int)) : 0 ≤ j.toInt ∧ j.toInt < (n : Int) := hn ▸ h
theorem own_mapD (L : List Int32) (i : Nat) : (L.map Value.int).getD i (.int 0) = .int (L.getD i 0) := by
  simp only [List.getD_eq_getElem?_getD, List.getElem?_map]; cases L[i]? <;> rfl
theorem own_mapDJ (L : List Int64) (i : Nat) : (L.map Value.long).getD i (.long 0) = .long (L.getD i 0) := by
  simp only [List.getD_eq_getElem?_getD, List.getElem?_map]; cases L[i]? <;> rfl
theorem own_mapS {α β : Type} (f : α → β) (L : List α) (i : Nat) (x : α) : (L.map f).set i (f x) = (L.set i x).map f := by
  induction L generalizing i with
  | nil => rfl
  | cons y L ih => cases i with
    | zero => rfl
    | succ i => simp only [List.map_cons, List.set_cons_succ, ih]
section Heap
variable {p : Program} {l : Launch} {e : Env} {R : Room} {s : State} {m : MethodId} {args : Array Value} {below : List Frame} {meth : Method} {c : Code} {T : State} {locs : List Loc} {cells slots : Nat} {Z : State} {a0 : Array Value} {h : Heap} {n0 : Nat}
/-- newarray of ints, bytes, booleans, chars, shorts -/
theorem own_newA (X : Stand p l e R s m args below meth c T locs cells slots) (hx : p.tables.exec = Jvm.exec) (hZ : Z.Warmed39 s.vm) {aty : ArrayType} {ty : FieldType} (hty : newarray.typeOf aty = ty) (w : (Cond.arrayClass ty).before a0 Z = true) (hd0 : defaultValue ty = .int 0) (eT : T.heap = h) {g : JFrame} (hg : g.method = m) (hd : decode c.code g.pc = .ok (.newarray aty, 2)) {n : Int32} {rest : List Value} (hs : g.stack = .int n :: rest)
    (len : Nat) (hn : n.toInt = len) {cap : Nat} (hcap : len ≤ cap) (hb : cap * 8 ≤ 536870912) (hc : cells + 1 ≤ R.cells) (hl : slots + cap ≤ R.slots) :
    ∃ T' h' a, Stand p l e R s m args below meth c T' locs (cells + 1) (slots + cap) ∧ T'.heap = h' ∧ Keep h h' [] ∧ h.size ≤ a ∧ own_IA Z h' a ty (List.replicate len 0) ∧
      ∀ target, Steps p.tables e below (T'.setTop { g with pc := g.pc + 2, stack := .ref a :: rest }) target → Steps p.tables e below (T.setTop g) target := by
  subst hty
  have h0 : ¬ n < 0 := own_lt0 (by omega)
  obtain ⟨T', h', cA, X', e', E, A, st⟩ := newP X hx hZ w eT hg hd hs h0 (cap := cap) (by show n.toInt.toNat ≤ cap; omega) hb hc hl
  refine ⟨T', h', h.size, X', e', own_keepE E, Nat.le_refl _, ⟨cA, n, ?_, ?_⟩, st⟩
  · have V := (Arv.new A h0).pad (pad_rep [] _ len)
    rw [hd0] at V
    simpa using V
  · simpa using hn
theorem own_newJ (X : Stand p l e R s m args below meth c T locs cells slots) (hx : p.tables.exec = Jvm.exec) (hZ : Z.Warmed39 s.vm) (w : (Cond.arrayClass .long).before a0 Z = true) (eT : T.heap = h) {g : JFrame} (hg : g.method = m) (hd : decode c.code g.pc = .ok (.newarray .long, 2)) {n : Int32} {rest : List Value} (hs : g.stack = .int n :: rest)
    (len : Nat) (hn : n.toInt = len) {cap : Nat} (hcap : len ≤ cap) (hb : cap * 8 ≤ 536870912) (hc : cells + 1 ≤ R.cells) (hl : slots + cap ≤ R.slots) :
    ∃ T' h' a, Stand p l e R s m args below meth c T' locs (cells + 1) (slots + cap) ∧ T'.heap = h' ∧ Keep h h' [] ∧ h.size ≤ a ∧ own_JA Z h' a (List.replicate len 0) ∧
      ∀ target, Steps p.tables e below (T'.setTop { g with pc := g.pc + 2, stack := .ref a :: rest }) target → Steps p.tables e below (T.setTop g) target := by
  have h0 : ¬ n < 0 := own_lt0 (by omega)
  obtain ⟨T', h', cA, X', e', E, A, st⟩ := newP X hx hZ (aty := .long) w eT hg hd hs h0 (cap := cap) (by show n.toInt.toNat ≤ cap; omega) hb hc hl
  refine ⟨T', h', h.size, X', e', own_keepE E, Nat.le_refl _, ⟨cA, n, ?_, ?_⟩, st⟩
  · have V := (Arv.new A h0).pad (pad_rep [] _ len)
    have hd0 : defaultValue (newarray.typeOf .long) = .long 0 := rfl
    rw [hd0] at V
    have V' : Arv Z h' h.size cA .long n ([] ++ List.replicate len (Value.long 0)) (.long 0) := V
    simpa using V'
  · simpa using hn
theorem own_bounds {Z : State} {h : Heap} {a : Addr} {cl : Cell} {n j : Int32} {len : Nat} (S : cl.slots.size = n.toNatClampNeg) (hn : n.toInt = (len : Int)) (hj : 0 ≤ j.toInt ∧ j.toInt < (len : Int)) : ¬ (j < 0 ∨ cl.slots.size ≤ j.toNatClampNeg) := by
  have hn' : n.toNatClampNeg = n.toInt.toNat := rfl
  have hj' : j.toNatClampNeg = j.toInt.toNat := rfl
  rintro (q | q)
  · exact own_lt0 hj.1 q
  · omega
theorem own_ialoadI (X : Stand p l e R s m args below meth c T locs cells slots) (hx : p.tables.exec = Jvm.exec) (hZ : Z.Warmed39 s.vm) (eT : T.heap = h) {a : Addr} {L : List Int32} (V : own_IA Z h a .int L) {j : Int32} (hj : 0 ≤ j.toInt ∧ j.toInt < (L.length : Int)) {g : JFrame} (hg : g.method = m) {rest : List Value} (hs : g.stack = .int j :: .ref a :: rest) (hd : decode c.code g.pc = .ok (.iaload, 1)) :
    ∀ target, Steps p.tables e below (T.setTop { g with pc := g.pc + 1, stack := .int (L.getD j.toInt.toNat 0) :: rest }) target → Steps p.tables e below (T.setTop g) target := by
  obtain ⟨k, n, ⟨cl, A, q1, S, q3, H, G⟩, hn⟩ := V
  have hb := own_bounds (Z := Z) (h := h) (a := a) S hn hj
  exact X.iaload hx (j := j) (v := .int (L.getD j.toInt.toNat 0)) (by rw [eT]; exact A.1) (State.isArrayOf_alike hZ.alike A.2.1) A.2.2 hb (H.at hb (own_mapD L _)) hg hs hd
theorem own_baloadB (X : Stand p l e R s m args below meth c T locs cells slots) (hx : p.tables.exec = Jvm.exec) (hZ : Z.Warmed39 s.vm) (eT : T.heap = h) {a : Addr} {L : List Int32} (V : own_IA Z h a .byte L) {j : Int32} (hj : 0 ≤ j.toInt ∧ j.toInt < (L.length : Int)) {g : JFrame} (hg : g.method = m) {rest : List Value} (hs : g.stack = .int j :: .ref a :: rest) (hd : decode c.code g.pc = .ok (.baload, 1)) :
    ∀ target, Steps p.tables e below (T.setTop { g with pc := g.pc + 1, stack := .int (L.getD j.toInt.toNat 0) :: rest }) target → Steps p.tables e below (T.setTop g) target := by
  obtain ⟨k, n, ⟨cl, A, q1, S, q3, H, G⟩, hn⟩ := V
  have hb := own_bounds (Z := Z) (h := h) (a := a) S hn hj
  exact X.baloadBytes hx (j := j) (v := .int (L.getD j.toInt.toNat 0)) (by rw [eT]; exact A.1) (State.isArrayOf_alike hZ.alike A.2.1) A.2.2 hb (H.at hb (own_mapD L _)) hg hs hd
theorem own_baloadZ (X : Stand p l e R s m args below meth c T locs cells slots) (hx : p.tables.exec = Jvm.exec) (hZ : Z.Warmed39 s.vm) (eT : T.heap = h) {a : Addr} {L : List Int32} (V : own_IA Z h a .boolean L) {j : Int32} (hj : 0 ≤ j.toInt ∧ j.toInt < (L.length : Int)) {g : JFrame} (hg : g.method = m) {rest : List Value} (hs : g.stack = .int j :: .ref a :: rest) (hd : decode c.code g.pc = .ok (.baload, 1)) :
    ∀ target, Steps p.tables e below (T.setTop { g with pc := g.pc + 1, stack := .int (L.getD j.toInt.toNat 0) :: rest }) target → Steps p.tables e below (T.setTop g) target := by
  obtain ⟨k, n, ⟨cl, A, q1, S, q3, H, G⟩, hn⟩ := V
  have hb := own_bounds (Z := Z) (h := h) (a := a) S hn hj
  exact X.baloadBooleans hx (j := j) (v := .int (L.getD j.toInt.toNat 0)) (by rw [eT]; exact A.1) (State.isArrayOf_alike hZ.alike A.2.1) A.2.2 hb (H.at hb (own_mapD L _)) hg hs hd
theorem own_laloadJ (X : Stand p l e R s m args below meth c T locs cells slots) (hx : p.tables.exec = Jvm.exec) (hZ : Z.Warmed39 s.vm) (eT : T.heap = h) {a : Addr} {L : List Int64} (V : own_JA Z h a L) {j : Int32} (hj : 0 ≤ j.toInt ∧ j.toInt < (L.length : Int)) {g : JFrame} (hg : g.method = m) {rest : List Value} (hs : g.stack = .int j :: .ref a :: rest) (hd : decode c.code g.pc = .ok (.laload, 1)) :
    ∀ target, Steps p.tables e below (T.setTop { g with pc := g.pc + 1, stack := .long (L.getD j.toInt.toNat 0) :: rest }) target → Steps p.tables e below (T.setTop g) target := by
  obtain ⟨k, n, ⟨cl, A, q1, S, q3, H, G⟩, hn⟩ := V
  have hb := own_bounds (Z := Z) (h := h) (a := a) S hn hj
  exact X.laload hx (j := j) (v := .long (L.getD j.toInt.toNat 0)) (by rw [eT]; exact A.1) (State.isArrayOf_alike hZ.alike A.2.1) A.2.2 hb (H.at hb (own_mapDJ L _)) hg hs hd
theorem own_lenI (X : Stand p l e R s m args below meth c T locs cells slots) (hx : p.tables.exec = Jvm.exec) (hZ : Z.Warmed39 s.vm) (eT : T.heap = h) {a : Addr} {ty : FieldType} {L : List Int32} (V : own_IA Z h a ty L) {g : JFrame} (hg : g.method = m) {rest : List Value} (hs : g.stack = .ref a :: rest) (hd : decode c.code g.pc = .ok (.arraylength, 1)) :
    ∀ target, Steps p.tables e below (T.setTop { g with pc := g.pc + 1, stack := .int (Int32.ofNat L.length) :: rest }) target → Steps p.tables e below (T.setTop g) target := by
  have hl := V.len
  obtain ⟨k, n, ⟨cl, A, q1, S, q3, H, G⟩, hn⟩ := V
  intro t k
  refine X.arraylength hx (by rw [eT]; exact A.1) (State.isArrayOf_alike hZ.alike A.2.1) hg hs hd t ?_
  rw [len_of S q3]
  have e : n = Int32.ofNat L.length := by
    rw [← Int32.toInt_inj, Int32.toInt_ofNat_of_lt (by omega)]; exact hn
  rw [e]; exact k
theorem own_lenJ (X : Stand p l e R s m args below meth c T locs cells slots) (hx : p.tables.exec = Jvm.exec) (hZ : Z.Warmed39 s.vm) (eT : T.heap = h) {a : Addr} {L : List Int64} (V : own_JA Z h a L) {g : JFrame} (hg : g.method = m) {rest : List Value} (hs : g.stack = .ref a :: rest) (hd : decode c.code g.pc = .ok (.arraylength, 1)) :
    ∀ target, Steps p.tables e below (T.setTop { g with pc := g.pc + 1, stack := .int (Int32.ofNat L.length) :: rest }) target → Steps p.tables e below (T.setTop g) target := by
  obtain ⟨k, n, ⟨cl, A, q1, S, q3, H, G⟩, hn⟩ := V
  have hl := rng32 n
  intro t k
  refine X.arraylength hx (by rw [eT]; exact A.1) (State.isArrayOf_alike hZ.alike A.2.1) hg hs hd t ?_
  rw [len_of S q3]
  have e : n = Int32.ofNat L.length := by
    rw [← Int32.toInt_inj, Int32.toInt_ofNat_of_lt (by omega)]; exact hn
  rw [e]; exact k
theorem own_iastoreI (X : Stand p l e R s m args below meth c T locs cells slots) (hx : p.tables.exec = Jvm.exec) (hZ : Z.Warmed39 s.vm) (N : Fr n0 locs) (eT : T.heap = h) {a : Addr} {L : List Int32} (V : own_IA Z h a .int L) {j x : Int32} (hj : 0 ≤ j.toInt ∧ j.toInt < (L.length : Int)) (ha : n0 ≤ a) {g : JFrame} (hg : g.method = m) {rest : List Value} (hs : g.stack = .int x :: .int j :: .ref a :: rest) (hd : decode c.code g.pc = .ok (.iastore, 1)) :
    ∃ T' h' locs', Stand p l e R s m args below meth c T' locs' cells slots ∧ Fr n0 locs' ∧ T'.heap = h' ∧ Keep h h' [a] ∧ own_IA Z h' a .int (L.set j.toInt.toNat x) ∧
      ∀ target, Steps p.tables e below (T'.setTop { g with pc := g.pc + 1, stack := rest }) target → Steps p.tables e below (T.setTop g) target := by
  obtain ⟨k, n, ⟨cl, A, q1, S, q3, H, G⟩, hn⟩ := V
  have hb := own_bounds (Z := Z) (h := h) (a := a) S hn hj
  obtain ⟨T', h', X', e', W, st⟩ := stI X hx hZ eT A (j := j) hb hg hs hd
  have V' := Arv.set A q1 S q3 H G (v := .int x) rfl W j.toInt.toNat rfl (by simp only [List.length_map]; omega)
  rw [own_mapS] at V'
  exact ⟨T', h', _, X', Fr.snoc X' N ha, e', Keep.of_wr W, ⟨k, n, V', by simpa using hn⟩, st⟩
theorem own_bastoreB (X : Stand p l e R s m args below meth c T locs cells slots) (hx : p.tables.exec = Jvm.exec) (hZ : Z.Warmed39 s.vm) (N : Fr n0 locs) (eT : T.heap = h) {a : Addr} {L : List Int32} (V : own_IA Z h a .byte L) {j x : Int32} (hj : 0 ≤ j.toInt ∧ j.toInt < (L.length : Int)) (ha : n0 ≤ a) {g : JFrame} (hg : g.method = m) {rest : List Value} (hs : g.stack = .int x :: .int j :: .ref a :: rest) (hd : decode c.code g.pc = .ok (.bastore, 1)) :
    ∃ T' h' locs', Stand p l e R s m args below meth c T' locs' cells slots ∧ Fr n0 locs' ∧ T'.heap = h' ∧ Keep h h' [a] ∧ own_IA Z h' a .byte (L.set j.toInt.toNat (nar .byte x)) ∧
      ∀ target, Steps p.tables e below (T'.setTop { g with pc := g.pc + 1, stack := rest }) target → Steps p.tables e below (T.setTop g) target := by
  obtain ⟨k, n, ⟨cl, A, q1, S, q3, H, G⟩, hn⟩ := V
  have hb := own_bounds (Z := Z) (h := h) (a := a) S hn hj
  obtain ⟨T', h', X', e', W, st⟩ := stB X hx hZ eT A (j := j) hb hg hs hd
  have V' := Arv.set A q1 S q3 H G (v := .int (nar .byte x)) (fits_nar_byte _) W j.toInt.toNat rfl (by simp only [List.length_map]; omega)
  rw [own_mapS] at V'
  exact ⟨T', h', _, X', Fr.snoc X' N ha, e', Keep.of_wr W, ⟨k, n, V', by simpa using hn⟩, st⟩
theorem own_bastoreZ (X : Stand p l e R s m args below meth c T locs cells slots) (hx : p.tables.exec = Jvm.exec) (hZ : Z.Warmed39 s.vm) (N : Fr n0 locs) (eT : T.heap = h) {a : Addr} {L : List Int32} (V : own_IA Z h a .boolean L) {j x : Int32} (hj : 0 ≤ j.toInt ∧ j.toInt < (L.length : Int)) (ha : n0 ≤ a) {g : JFrame} (hg : g.method = m) {rest : List Value} (hs : g.stack = .int x :: .int j :: .ref a :: rest) (hd : decode c.code g.pc = .ok (.bastore, 1)) :
    ∃ T' h' locs', Stand p l e R s m args below meth c T' locs' cells slots ∧ Fr n0 locs' ∧ T'.heap = h' ∧ Keep h h' [a] ∧ own_IA Z h' a .boolean (L.set j.toInt.toNat (nar .boolean x)) ∧
      ∀ target, Steps p.tables e below (T'.setTop { g with pc := g.pc + 1, stack := rest }) target → Steps p.tables e below (T.setTop g) target := by
  obtain ⟨k, n, ⟨cl, A, q1, S, q3, H, G⟩, hn⟩ := V
  have hb := own_bounds (Z := Z) (h := h) (a := a) S hn hj
  obtain ⟨T', h', X', e', W, st⟩ := stZ X hx hZ eT A (j := j) hb hg hs hd
  have V' := Arv.set A q1 S q3 H G (v := .int (nar .boolean x)) (fits_nar_bool _) W j.toInt.toNat rfl (by simp only [List.length_map]; omega)
  rw [own_mapS] at V'
  exact ⟨T', h', _, X', Fr.snoc X' N ha, e', Keep.of_wr W, ⟨k, n, V', by simpa using hn⟩, st⟩
theorem own_lastoreJ (X : Stand p l e R s m args below meth c T locs cells slots) (hx : p.tables.exec = Jvm.exec) (hZ : Z.Warmed39 s.vm) (N : Fr n0 locs) (eT : T.heap = h) {a : Addr} {L : List Int64} (V : own_JA Z h a L) {j : Int32} {x : Int64} (hj : 0 ≤ j.toInt ∧ j.toInt < (L.length : Int)) (ha : n0 ≤ a) {g : JFrame} (hg : g.method = m) {rest : List Value} (hs : g.stack = .long x :: .int j :: .ref a :: rest) (hd : decode c.code g.pc = .ok (.lastore, 1)) :
    ∃ T' h' locs', Stand p l e R s m args below meth c T' locs' cells slots ∧ Fr n0 locs' ∧ T'.heap = h' ∧ Keep h h' [a] ∧ own_JA Z h' a (L.set j.toInt.toNat x) ∧
      ∀ target, Steps p.tables e below (T'.setTop { g with pc := g.pc + 1, stack := rest }) target → Steps p.tables e below (T.setTop g) target := by
  obtain ⟨k, n, ⟨cl, A, q1, S, q3, H, G⟩, hn⟩ := V
  have hb := own_bounds (Z := Z) (h := h) (a := a) S hn hj
  obtain ⟨T', h', X', e', W, st⟩ := stJ X hx hZ eT A (j := j) hb hg hs hd
  have V' := Arv.set A q1 S q3 H G (v := .long x) rfl W j.toInt.toNat rfl (by simp only [List.length_map]; omega)
  rw [own_mapS] at V'
  exact ⟨T', h', _, X', Fr.snoc X' N ha, e', Keep.of_wr W, ⟨k, n, V', by simpa using hn⟩, st⟩
/-- new -/
theorem own_new (X : Stand p l e R s m args below meth c T locs cells slots) (hx : p.tables.exec = Jvm.exec) (hZ : Z.Warmed39 s.vm) {own C : String} {index n : Nat} (hown : s.vm.findClass own = some m.cls) (w : (Cond.classLink own index C).before a0 Z = true) (wi : (Cond.instantiable C n).before a0 Z = true) (wz : (Cond.initialized C).before a0 Z = true) (eT : T.heap = h)
    {g : JFrame} (hg : g.method = m) (hd : decode c.code g.pc = .ok (.new index, 3)) (hc : cells + 1 ≤ R.cells) (hl : slots + n ≤ R.slots) :
    ∃ T' h' a, Stand p l e R s m args below meth c T' locs (cells + 1) (slots + n) ∧ T'.heap = h' ∧ Keep h h' [] ∧ h.size ≤ a ∧ Exa Z h' a C ∧ (∀ {O nm d : String} {ty : FieldType}, Laid Z a0 C O nm d → parseFieldDescriptor d = some ty → Fld Z h' a O nm d (defaultValue ty)) ∧
      ∀ target, Steps p.tables e below (T'.setTop { g with pc := g.pc + 3, stack := .ref a :: g.stack }) target → Steps p.tables e below (T.setTop g) target := by
  obtain ⟨T', h', X', e', E, A, D, -, st⟩ := newO X hx hZ hown w wi wz eT hg hd hc hl
  exact ⟨T', h', h.size, X', e', own_keepE E, Nat.le_refl _, A, D, st⟩
end Heap
theorem own_irem (x y : Int32) : x - (x / y) * y = x % y := by
  have lo (z : Int32) : Int32.minValue.toInt ≤ z.toInt := z.minValue_le_toInt
  have hi (z : Int32) : z.toInt ≤ Int32.maxValue.toInt := z.toInt_le
  have d := Int32.ofInt_tdiv (a := x.toInt) (b := y.toInt) (lo x) (hi x) (lo y) (hi y)
  have m := Int32.ofInt_tmod (a := x.toInt) (b := y.toInt) (lo x) (hi x) (lo y) (hi y)
  simp only [Int32.ofInt_toInt] at d m
  have e : x.toInt.tmod y.toInt = x.toInt - (x.toInt.tdiv y.toInt) * y.toInt := by
    have := Int.tmod_add_mul_tdiv x.toInt y.toInt
    rw [Int.mul_comm (x.toInt.tdiv y.toInt)]; omega
  rw [← d, ← m, e, Int32.ofInt_sub, Int32.ofInt_mul, Int32.ofInt_toInt, Int32.ofInt_toInt]
theorem own_remP (x d : Int32) (k : Int) (hd : d.toInt = k) (h : 0 ≤ x.toInt) : (x - (x / d) * d).toInt = x.toInt % k := by
  rw [own_irem]; exact (c_irem x d k hd).1 h
theorem own_mask31 (x : Int32) : (x &&& (2147483647 : Int32)).toInt = x.toInt % 2147483648 := by
  have : (x &&& (2147483647 : Int32)).toInt = x.toInt % (2 ^ 31 : Nat) := c_mask x 2147483647 31 (by decide) (by decide)
  omega
theorem own_succ {x y : Int32} (h : y = x + (1 : Int32)) (hb : x.toInt < 2147483647) : y.toInt = x.toInt + 1 := by
  subst h
  have a := c_iadd x 1
  have r := rng32 (x + 1)
  have r' := rng32 x
  have z : (1 : Int32).toInt = 1 := by decide
  omega
theorem own_ofN {v : Int32} {n : Nat} (h : v = Int32.ofNat n) (hn : n < 2147483648) : v.toInt = n := by
  subst h; exact Int32.toInt_ofNat_of_lt hn
theorem own_z0 : (0 : Int32).toInt = 0 := by decide

theorem own_ltl {i n : Int32} {k : Nat} (hc : i < n) (h : n.toInt ≤ (k : Int)) : i.toInt < (k : Int) := by
  rw [Int32.lt_iff_toInt_lt] at hc; omega
theorem own_pd0 : parseMethodDescriptor "(II)Z" = some ⟨[.int, .int], some .boolean⟩ := by decide +kernel
theorem own_pd1 : parseMethodDescriptor "(II)J" = some ⟨[.int, .int], some .long⟩ := by decide +kernel
theorem own_pd2 : parseMethodDescriptor "(I)V" = some ⟨[.int], none⟩ := by decide +kernel
theorem own_pd3 : parseMethodDescriptor "([Z)J" = some ⟨[(.array .boolean)], some .long⟩ := by decide +kernel
theorem own_pd4 : parseMethodDescriptor "([ZI)Z" = some ⟨[(.array .boolean), .int], some .boolean⟩ := by decide +kernel
theorem own_d1_0 : decode method_3_code 0 = .ok (.iload_n 0, 1) := by decide +kernel
theorem own_d1_1 : decode method_3_code 1 = .ok (.iload_n 1, 1) := by decide +kernel
theorem own_d1_2 : decode method_3_code 2 = .ok (.iushr, 1) := by decide +kernel
theorem own_d1_3 : decode method_3_code 3 = .ok (.iconst 1, 1) := by decide +kernel
theorem own_d1_4 : decode method_3_code 4 = .ok (.iand, 1) := by decide +kernel
theorem own_d1_5 : decode method_3_code 5 = .ok (.ifCond .eq 7, 3) := by decide +kernel
theorem own_d1_8 : decode method_3_code 8 = .ok (.iconst 1, 1) := by decide +kernel
theorem own_d1_9 : decode method_3_code 9 = .ok (.goto 4, 3) := by decide +kernel
theorem own_d1_12 : decode method_3_code 12 = .ok (.iconst 0, 1) := by decide +kernel
theorem own_d1_13 : decode method_3_code 13 = .ok (.ireturn, 1) := by decide +kernel
theorem own_pn1 : plainName "com/example/evotempo/evotempo/problem/OneMaxFitnessPinLaw" = true := by first | (simp [plainName, overriddenIn]; done) | decide +kernel
theorem own_ef1 (m : MethodId) (p0 : Int32) (p1 : Int32) : entryFrame m #[(.int p0), (.int p1)] 2 = mkF m 0 #[.val (.int p0), .val (.int p1)] [] := by first | (simp [entryFrame, mkF, argsToLocals, Value.category]; done) | rfl
abbrev own_R1 : Room := { frames := 0, cells := 0, slots := 0, locals := 0 }
def own_F1 (p0 : Int32) (p1 : Int32) : Int32 :=
  if (((p0.toUInt32 >>> (p1 &&& 31).toUInt32).toInt32) &&& (1 : Int32)) = (0 : Int32) then
    (0 : Int32)
  else
    (1 : Int32)
def own_Q1 (p0 : Int32) (p1 : Int32) (h0 : Heap) (vz : Option Value) (h : Heap) (Lz : List Loc) : Prop :=  vz = some (.int (own_F1 p0 p1)) ∧ Lz = [] ∧ h = h0
theorem own_e1_4 {p0 : Int32} {p1 : Int32} (hc5_2 : (((p0.toUInt32 >>> (p1 &&& 31).toUInt32).toInt32) &&& (1 : Int32)) = (0 : Int32)) : (nar .boolean (0 : Int32)) = (own_F1 p0 p1) := by
  rw [own_nb0]
  skip
  first
    | (simp only [own_F1, if_pos hc5_2]; done)
    | (exfalso; contradiction)
theorem own_e1_6 {p0 : Int32} {p1 : Int32} (hc5_2 : ¬ ((((p0.toUInt32 >>> (p1 &&& 31).toUInt32).toInt32) &&& (1 : Int32)) = (0 : Int32))) : (nar .boolean (1 : Int32)) = (own_F1 p0 p1) := by
  rw [own_nb1]
  skip
  first
    | (simp only [own_F1, if_neg hc5_2]; done)
    | (exfalso; contradiction)
set_option maxRecDepth 65536 in
set_option maxHeartbeats 40000000 in
theorem own_rm1 (l : Launch) (Z : State) (a0 : Array Value) (hw : ∀ d ∈ tables_1, d.before a0 Z = true) (ws : List Jvm.Cond) (p0 : Int32) (p1 : Int32) (h0 : Heap) :
    MetFree l (⟨"com/example/evotempo/evotempo/problem/OneMaxFitnessPinLaw", "bit", "(II)Z"⟩ : MethodName) (head1 (Jvm.Cond.code (⟨"com/example/evotempo/evotempo/problem/OneMaxFitnessPinLaw", "bit", "(II)Z"⟩ : MethodName) method_3_code 2 (some .boolean) :: ws) own_R1) (fun a U => a = #[(.int p0), (.int p1)] ∧ Z.Warmed39 U.vm ∧ U.heap = h0) (fun _ _ _ _ _ => True) (fun _ U o U' => ∃ vz Lz, o = .returned vz ∧ own_Q1 p0 p1 h0 vz U'.heap Lz ∧ FrameEnd U o U' Lz own_R1.cells own_R1.slots) := by
  refine MetFree.of_bodySF (plainFor_of_name own_pn1) hisR ?_
  intro p e s m args below meth c s₁ Bd hml0 hP hK
  obtain ⟨rfl, hZ, hh⟩ := hP
  have hx := Bd.exec
  have hby := Bd.bytes
  have hml : c.maxLocals = 2 := hml0
  have hown : s.vm.findClass "com/example/evotempo/evotempo/problem/OneMaxFitnessPinLaw" = some m.cls := findClass_of_methodNamed Bd.named
  have hnm := (name_of_methodNamed Bd.named Bd.method).1
  have X0 : Stand p l e own_R1 s m #[(.int p0), (.int p1)] below meth c s₁ [] 0 0 := Stand.of_body Bd
  have e0 : s₁.heap = h0 := by rw [← hh, Bd.state]; rfl
  show own_End p e below s (fun vz h Lz => vz = some (.int (own_F1 p0 p1)) ∧ Lz = [] ∧ h = h0) own_R1.cells own_R1.slots s₁ (entryFrame m #[(.int p0), (.int p1)] 2)
  refine own_End.go (fun t k => castTop (own_ef1 m p0 p1) k) ?_
  show own_End p e below s _ _ _ s₁ (mkF m 0 #[.val (.int p0), .val (.int p1)] [])
  have st1 : ∀ t, Steps p.tables e below (s₁.setTop (mkF m 5 #[.val (.int p0), .val (.int p1)] [(.int (((p0.toUInt32 >>> (p1 &&& 31).toUInt32).toInt32) &&& (1 : Int32)))])) t → Steps p.tables e below (s₁.setTop (mkF m 0 #[.val (.int p0), .val (.int p1)] [])) t := by
    intro t k
    show Steps p.tables e below (s₁.setTop (mkF m 0 #[.val (.int p0), .val (.int p1)] [])) _
    refine XS.iloadN X0.here hx rfl (hb hby own_d1_0) rfl ?_
    show Steps p.tables e below (s₁.setTop (mkF m 1 #[.val (.int p0), .val (.int p1)] [(.int p0)])) _
    refine XS.iloadN X0.here hx rfl (hb hby own_d1_1) rfl ?_
    show Steps p.tables e below (s₁.setTop (mkF m 2 #[.val (.int p0), .val (.int p1)] [(.int p1), (.int p0)])) _
    refine XS.iushr X0.here hx rfl (hb hby own_d1_2) rfl ?_
    show Steps p.tables e below (s₁.setTop (mkF m 3 #[.val (.int p0), .val (.int p1)] [(.int ((p0.toUInt32 >>> (p1 &&& 31).toUInt32).toInt32))])) _
    refine XS.iconst X0.here hx rfl (hb hby own_d1_3) ?_
    show Steps p.tables e below (s₁.setTop (mkF m 4 #[.val (.int p0), .val (.int p1)] [(.int (1 : Int32)), (.int ((p0.toUInt32 >>> (p1 &&& 31).toUInt32).toInt32))])) _
    refine XS.iand X0.here hx rfl (hb hby own_d1_4) rfl ?_
    exact k
  refine own_End.go (fun t k => st1 _ k) ?_
  by_cases hc5_2 : (((p0.toUInt32 >>> (p1 &&& 31).toUInt32).toInt32) &&& (1 : Int32)) = (0 : Int32)
  · have st3 : ∀ t, Steps p.tables e below (s₁.setTop (mkF m 13 #[.val (.int p0), .val (.int p1)] [(.int (0 : Int32))])) t → Steps p.tables e below (s₁.setTop (mkF m 5 #[.val (.int p0), .val (.int p1)] [(.int (((p0.toUInt32 >>> (p1 &&& 31).toUInt32).toInt32) &&& (1 : Int32)))])) t := by
      intro t k
      show Steps p.tables e below (s₁.setTop (mkF m 5 #[.val (.int p0), .val (.int p1)] [(.int (((p0.toUInt32 >>> (p1 &&& 31).toUInt32).toInt32) &&& (1 : Int32)))])) _
      refine XS.ifYes X0.here hx rfl (pc0 := 5) (pc' := 12) rfl (hb hby own_d1_5) rfl ((if0 _ _).trans (teq hc5_2).1) (by decide) (by decide) ?_
      show Steps p.tables e below (s₁.setTop (mkF m 12 #[.val (.int p0), .val (.int p1)] [])) _
      refine XS.iconst X0.here hx rfl (hb hby own_d1_12) ?_
      exact k
    refine own_End.go (fun t k => st3 _ k) ?_
    exact own_leafN X0 hx Bd.notSynchronized (t := .boolean) Bd.returns (by simp) (hb hby own_d1_13) ⟨congrArg (fun z => some (Value.int z)) (own_e1_4 hc5_2), rfl, e0⟩ (by decide) (by decide)
  · have st5 : ∀ t, Steps p.tables e below (s₁.setTop (mkF m 13 #[.val (.int p0), .val (.int p1)] [(.int (1 : Int32))])) t → Steps p.tables e below (s₁.setTop (mkF m 5 #[.val (.int p0), .val (.int p1)] [(.int (((p0.toUInt32 >>> (p1 &&& 31).toUInt32).toInt32) &&& (1 : Int32)))])) t := by
      intro t k
      show Steps p.tables e below (s₁.setTop (mkF m 5 #[.val (.int p0), .val (.int p1)] [(.int (((p0.toUInt32 >>> (p1 &&& 31).toUInt32).toInt32) &&& (1 : Int32)))])) _
      refine XS.ifNo X0.here hx rfl (hb hby own_d1_5) rfl ((if0 _ _).trans (feq hc5_2).1) ?_
      show Steps p.tables e below (s₁.setTop (mkF m 8 #[.val (.int p0), .val (.int p1)] [])) _
      refine XS.iconst X0.here hx rfl (hb hby own_d1_8) ?_
      show Steps p.tables e below (s₁.setTop (mkF m 9 #[.val (.int p0), .val (.int p1)] [(.int (1 : Int32))])) _
      refine XS.goto X0.here hx rfl (pc0 := 9) (pc' := 13) rfl (hb hby own_d1_9) (by decide) (by decide) ?_
      exact k
    refine own_End.go (fun t k => st5 _ k) ?_
    exact own_leafN X0 hx Bd.notSynchronized (t := .boolean) Bd.returns (by simp) (hb hby own_d1_13) ⟨congrArg (fun z => some (Value.int z)) (own_e1_6 hc5_2), rfl, e0⟩ (by decide) (by decide)
theorem own_d2_0 : decode method_4_code 0 = .ok (.iload_n 0, 1) := by decide +kernel
theorem own_d2_1 : decode method_4_code 1 = .ok (.iload_n 1, 1) := by decide +kernel
theorem own_d2_2 : decode method_4_code 2 = .ok (.iushr, 1) := by decide +kernel
theorem own_d2_3 : decode method_4_code 3 = .ok (.iconst 1, 1) := by decide +kernel
theorem own_d2_4 : decode method_4_code 4 = .ok (.iand, 1) := by decide +kernel
theorem own_d2_5 : decode method_4_code 5 = .ok (.i2l, 1) := by decide +kernel
theorem own_d2_6 : decode method_4_code 6 = .ok (.lreturn, 1) := by decide +kernel
theorem own_pn2 : plainName "com/example/evotempo/evotempo/problem/OneMaxFitnessPinLaw" = true := by first | (simp [plainName, overriddenIn]; done) | decide +kernel
theorem own_ef2 (m : MethodId) (p0 : Int32) (p1 : Int32) : entryFrame m #[(.int p0), (.int p1)] 2 = mkF m 0 #[.val (.int p0), .val (.int p1)] [] := by first | (simp [entryFrame, mkF, argsToLocals, Value.category]; done) | rfl
abbrev own_R2 : Room := { frames := 0, cells := 0, slots := 0, locals := 0 }
def own_F2 (p0 : Int32) (p1 : Int32) : Int64 :=
  ((((p0.toUInt32 >>> (p1 &&& 31).toUInt32).toInt32) &&& (1 : Int32)).toInt64)
def own_Q2 (p0 : Int32) (p1 : Int32) (h0 : Heap) (vz : Option Value) (h : Heap) (Lz : List Loc) : Prop :=  vz = some (.long (own_F2 p0 p1)) ∧ Lz = [] ∧ h = h0
theorem own_e2_2 {p0 : Int32} {p1 : Int32} : ((((p0.toUInt32 >>> (p1 &&& 31).toUInt32).toInt32) &&& (1 : Int32)).toInt64) = (own_F2 p0 p1) := by
  skip
  first
    | (simp only [own_F2]; done)
    | (exfalso; contradiction)
set_option maxRecDepth 65536 in
set_option maxHeartbeats 40000000 in
theorem own_rm2 (l : Launch) (Z : State) (a0 : Array Value) (hw : ∀ d ∈ tables_1, d.before a0 Z = true) (ws : List Jvm.Cond) (p0 : Int32) (p1 : Int32) (h0 : Heap) :
    MetFree l (⟨"com/example/evotempo/evotempo/problem/OneMaxFitnessPinLaw", "b", "(II)J"⟩ : MethodName) (head1 (Jvm.Cond.code (⟨"com/example/evotempo/evotempo/problem/OneMaxFitnessPinLaw", "b", "(II)J"⟩ : MethodName) method_4_code 2 (some .long) :: ws) own_R2) (fun a U => a = #[(.int p0), (.int p1)] ∧ Z.Warmed39 U.vm ∧ U.heap = h0) (fun _ _ _ _ _ => True) (fun _ U o U' => ∃ vz Lz, o = .returned vz ∧ own_Q2 p0 p1 h0 vz U'.heap Lz ∧ FrameEnd U o U' Lz own_R2.cells own_R2.slots) := by
  refine MetFree.of_bodySF (plainFor_of_name own_pn2) hisR ?_
  intro p e s m args below meth c s₁ Bd hml0 hP hK
  obtain ⟨rfl, hZ, hh⟩ := hP
  have hx := Bd.exec
  have hby := Bd.bytes
  have hml : c.maxLocals = 2 := hml0
  have hown : s.vm.findClass "com/example/evotempo/evotempo/problem/OneMaxFitnessPinLaw" = some m.cls := findClass_of_methodNamed Bd.named
  have hnm := (name_of_methodNamed Bd.named Bd.method).1
  have X0 : Stand p l e own_R2 s m #[(.int p0), (.int p1)] below meth c s₁ [] 0 0 := Stand.of_body Bd
  have e0 : s₁.heap = h0 := by rw [← hh, Bd.state]; rfl
  show own_End p e below s (fun vz h Lz => vz = some (.long (own_F2 p0 p1)) ∧ Lz = [] ∧ h = h0) own_R2.cells own_R2.slots s₁ (entryFrame m #[(.int p0), (.int p1)] 2)
  refine own_End.go (fun t k => castTop (own_ef2 m p0 p1) k) ?_
  show own_End p e below s _ _ _ s₁ (mkF m 0 #[.val (.int p0), .val (.int p1)] [])
  have st1 : ∀ t, Steps p.tables e below (s₁.setTop (mkF m 6 #[.val (.int p0), .val (.int p1)] [(.long ((((p0.toUInt32 >>> (p1 &&& 31).toUInt32).toInt32) &&& (1 : Int32)).toInt64))])) t → Steps p.tables e below (s₁.setTop (mkF m 0 #[.val (.int p0), .val (.int p1)] [])) t := by
    intro t k
    show Steps p.tables e below (s₁.setTop (mkF m 0 #[.val (.int p0), .val (.int p1)] [])) _
    refine XS.iloadN X0.here hx rfl (hb hby own_d2_0) rfl ?_
    show Steps p.tables e below (s₁.setTop (mkF m 1 #[.val (.int p0), .val (.int p1)] [(.int p0)])) _
    refine XS.iloadN X0.here hx rfl (hb hby own_d2_1) rfl ?_
    show Steps p.tables e below (s₁.setTop (mkF m 2 #[.val (.int p0), .val (.int p1)] [(.int p1), (.int p0)])) _
    refine XS.iushr X0.here hx rfl (hb hby own_d2_2) rfl ?_
    show Steps p.tables e below (s₁.setTop (mkF m 3 #[.val (.int p0), .val (.int p1)] [(.int ((p0.toUInt32 >>> (p1 &&& 31).toUInt32).toInt32))])) _
    refine XS.iconst X0.here hx rfl (hb hby own_d2_3) ?_
    show Steps p.tables e below (s₁.setTop (mkF m 4 #[.val (.int p0), .val (.int p1)] [(.int (1 : Int32)), (.int ((p0.toUInt32 >>> (p1 &&& 31).toUInt32).toInt32))])) _
    refine XS.iand X0.here hx rfl (hb hby own_d2_4) rfl ?_
    show Steps p.tables e below (s₁.setTop (mkF m 5 #[.val (.int p0), .val (.int p1)] [(.int (((p0.toUInt32 >>> (p1 &&& 31).toUInt32).toInt32) &&& (1 : Int32)))])) _
    refine XS.i2l X0.here hx rfl (hb hby own_d2_5) rfl ?_
    exact k
  refine own_End.go (fun t k => st1 _ k) ?_
  exact own_leafJ X0 hx Bd.notSynchronized Bd.returns (hb hby own_d2_6) ⟨congrArg (fun z => some (Value.long z)) (own_e2_2), rfl, e0⟩ (by decide) (by decide)
theorem own_d3_0 : decode prog_75_method_1_code 0 = .ok (.aload_n 0, 1) := by decide +kernel
theorem own_d3_1 : decode prog_75_method_1_code 1 = .ok (.invokespecial 1, 3) := by decide +kernel
theorem own_d3_4 : decode prog_75_method_1_code 4 = .ok (.iload_n 1, 1) := by decide +kernel
theorem own_d3_5 : decode prog_75_method_1_code 5 = .ok (.iconst 1, 1) := by decide +kernel
theorem own_d3_6 : decode prog_75_method_1_code 6 = .ok (.if_icmp .ge 17, 3) := by decide +kernel
theorem own_d3_23 : decode prog_75_method_1_code 23 = .ok (.aload_n 0, 1) := by decide +kernel
theorem own_d3_24 : decode prog_75_method_1_code 24 = .ok (.iload_n 1, 1) := by decide +kernel
theorem own_d3_25 : decode prog_75_method_1_code 25 = .ok (.putfield 16, 3) := by decide +kernel
theorem own_d3_28 : decode prog_75_method_1_code 28 = .ok (.return_, 1) := by decide +kernel
theorem own_pn3 : plainName "com/example/evotempo/evotempo/problem/OneMax" = true := by first | (simp [plainName, overriddenIn]; done) | decide +kernel
theorem own_ef3 (m : MethodId) (o0 : Addr) (p1 : Int32) : entryFrame m #[(.ref o0), (.int p1)] 2 = mkF m 0 #[.val (.ref o0), .val (.int p1)] [] := by first | (simp [entryFrame, mkF, argsToLocals, Value.category]; done) | rfl
abbrev own_R3 : Room := { frames := 1, cells := 0, slots := 0, locals := 12 }
def own_Q3 (Z : State) (o0 : Addr) (p1 : Int32) (h0 : Heap) (n0 : Nat) (vz : Option Value) (h : Heap) (Lz : List Loc) : Prop := vz = none ∧ Fr n0 Lz ∧ Keep h0 h [o0] ∧ Exa Z h o0 "com/example/evotempo/evotempo/problem/OneMax" ∧ Fld Z h o0 "com/example/evotempo/evotempo/problem/OneMax" "n" "I" (.int p1) ∧ True
set_option maxRecDepth 65536 in
set_option maxHeartbeats 40000000 in
theorem own_rm3 (l : Launch) (Z : State) (a0 : Array Value) (hw : ∀ d ∈ tables_1, d.before a0 Z = true) (ws : List Jvm.Cond) (o0 : Addr) (p1 : Int32) (h0 : Heap) (n0 : Nat) (Z0 : n0 ≤ h0.size) (E_o0 : Exa Z h0 o0 "com/example/evotempo/evotempo/problem/OneMax") (F_o0_n : Fld Z h0 o0 "com/example/evotempo/evotempo/problem/OneMax" "n" "I" (.int (0 : Int32))) (g_o0 : n0 ≤ o0) (hp : ¬ p1 < (1 : Int32)) :
    MetFree l (⟨"com/example/evotempo/evotempo/problem/OneMax", "<init>", "(I)V"⟩ : MethodName) (head1 (Jvm.Cond.code (⟨"com/example/evotempo/evotempo/problem/OneMax", "<init>", "(I)V"⟩ : MethodName) prog_75_method_1_code 2 none :: ws) own_R3) (fun a U => a = #[(.ref o0), (.int p1)] ∧ Z.Warmed39 U.vm ∧ U.heap = h0) (fun _ _ _ _ _ => True) (fun _ U o U' => ∃ vz Lz, o = .returned vz ∧ own_Q3 Z o0 p1 h0 n0 vz U'.heap Lz ∧ FrameEnd U o U' Lz own_R3.cells own_R3.slots) := by
  refine MetFree.of_bodySF (plainFor_of_name own_pn3) hisR ?_
  intro p e s m args below meth c s₁ Bd hml0 hP hK
  obtain ⟨rfl, hZ, hh⟩ := hP
  have hx := Bd.exec
  have hby := Bd.bytes
  have hml : c.maxLocals = 2 := hml0
  have hown : s.vm.findClass "com/example/evotempo/evotempo/problem/OneMax" = some m.cls := findClass_of_methodNamed Bd.named
  have hnm := (name_of_methodNamed Bd.named Bd.method).1
  have X0 : Stand p l e own_R3 s m #[(.ref o0), (.int p1)] below meth c s₁ [] 0 0 := Stand.of_body Bd
  have e0 : s₁.heap = h0 := by rw [← hh, Bd.state]; rfl
  show own_End p e below s (fun vz h Lz => vz = none ∧ Fr n0 Lz ∧ Keep h0 h [o0] ∧ Exa Z h o0 "com/example/evotempo/evotempo/problem/OneMax" ∧ Fld Z h o0 "com/example/evotempo/evotempo/problem/OneMax" "n" "I" (.int p1) ∧ True) own_R3.cells own_R3.slots s₁ (entryFrame m #[(.ref o0), (.int p1)] 2)
  refine own_End.go (fun t k => castTop (own_ef3 m o0 p1) k) ?_
  show own_End p e below s _ _ _ s₁ (mkF m 0 #[.val (.ref o0), .val (.int p1)] [])
  have N0 := Fr.nil n0
  have K0 : Keep h0 h0 [o0] := Keep.refl h0 _
  have st1 : ∀ t, Steps p.tables e below (s₁.setTop (mkF m 1 #[.val (.ref o0), .val (.int p1)] [(.ref o0)])) t → Steps p.tables e below (s₁.setTop (mkF m 0 #[.val (.ref o0), .val (.int p1)] [])) t := by
    intro t k
    show Steps p.tables e below (s₁.setTop (mkF m 0 #[.val (.ref o0), .val (.int p1)] [])) _
    refine XS.aloadN X0.here hx rfl (hb hby own_d3_0) rfl rfl ?_
    exact k
  obtain ⟨T2, X2, e2, st2⟩ := initO X0 hx hZ hown (hw _ (List.mem_of_getElem? (i := 14) rfl)) (hw _ (List.mem_of_getElem? (i := 15) rfl)) (hw _ (List.mem_of_getElem? (i := 16) rfl)) e0 (g := (mkF m 1 #[.val (.ref o0), .val (.int p1)] [(.ref o0)])) rfl (by rw [hml]; rfl) rfl (hb hby own_d3_1) (by decide) (W := 0) (by show 2 * 0 + _ ≤ _; exact Nat.le_of_eq rfl) (by decide)
  have st3 : ∀ t, Steps p.tables e below (T2.setTop (mkF m 25 #[.val (.ref o0), .val (.int p1)] [(.int p1), (.ref o0)])) t → Steps p.tables e below (T2.setTop (mkF m 4 #[.val (.ref o0), .val (.int p1)] [])) t := by
    intro t k
    show Steps p.tables e below (T2.setTop (mkF m 4 #[.val (.ref o0), .val (.int p1)] [])) _
    refine XS.iloadN X2.here hx rfl (hb hby own_d3_4) rfl ?_
    show Steps p.tables e below (T2.setTop (mkF m 5 #[.val (.ref o0), .val (.int p1)] [(.int p1)])) _
    refine XS.iconst X2.here hx rfl (hb hby own_d3_5) ?_
    show Steps p.tables e below (T2.setTop (mkF m 6 #[.val (.ref o0), .val (.int p1)] [(.int (1 : Int32)), (.int p1)])) _
    refine XS.icmpYes X2.here hx rfl (pc0 := 6) (pc' := 23) rfl (hb hby own_d3_6) rfl (flt hp).2.1 (by decide) (by decide) ?_
    show Steps p.tables e below (T2.setTop (mkF m 23 #[.val (.ref o0), .val (.int p1)] [])) _
    refine XS.aloadN X2.here hx rfl (hb hby own_d3_23) rfl rfl ?_
    show Steps p.tables e below (T2.setTop (mkF m 24 #[.val (.ref o0), .val (.int p1)] [(.ref o0)])) _
    refine XS.iloadN X2.here hx rfl (hb hby own_d3_24) rfl ?_
    exact k
  obtain ⟨T4, h4, X4, e4, W4, st4⟩ := putF X2 hx hZ hown (host := "") (Or.inl (hw _ (List.mem_of_getElem? (i := 17) rfl))) Via.refl e2 F_o0_n E_o0 (Or.inr ⟨(hw _ (List.mem_of_getElem? (i := 18) rfl)), rfl, hnm⟩) (hw _ (List.mem_of_getElem? (i := 9) rfl)) (ty := .int) (by decide) rfl rfl (g := (mkF m 25 #[.val (.ref o0), .val (.int p1)] [(.int p1), (.ref o0)])) rfl rfl (hb hby own_d3_25)
  obtain ⟨L4, X4, N4⟩ : ∃ L : List Loc, Stand p l e own_R3 s m #[(.ref o0), (.int p1)] below meth c T4 L 0 0 ∧ Fr n0 L := ⟨_, X4, Fr.snoc X4 N0 g_o0⟩
  have K4 := Keep.of_wr W4
  have Fw4 : Fld Z h4 o0 "com/example/evotempo/evotempo/problem/OneMax" "n" "I" (.int p1) := F_o0_n.same W4
  have Ew4 : Exa Z h4 o0 "com/example/evotempo/evotempo/problem/OneMax" := E_o0.wr W4
  have Zp5 : n0 ≤ h4.size := Nat.le_trans Z0 K4.1
  have Kz5 : Keep h0 h4 [o0] := K0.trans K4 (allS (Or.inl (List.mem_of_getElem? (i := 0) rfl)) all0)
  refine own_End.go (fun t k => st1 _ (st2 _ (st3 _ (st4 _ k)))) ?_
  exact own_leafV X4 hx Bd.notSynchronized Bd.returns (hb hby own_d3_28) ⟨rfl, N4, (by rw [e4]; exact Kz5), (by rw [e4]; exact Ew4), (by rw [e4]; exact Fw4), trivial⟩ (by decide) (by decide)
theorem own_os5_25 {z0 : Value} {z1 : Value} {z2 : Value} {z4 : Value} {z5 : Value} {z6 : Value} {s7 : Slot} {v : Int32} (h : One s7) : storeLocals #[.val z0, .val z1, .val z2, .second, .val z4, .val z5, .val z6, s7] 7 (.int v) = some #[.val z0, .val z1, .val z2, .second, .val z4, .val z5, .val z6, .val (.int v)] := by
  rcases h with rfl | ⟨w, rfl, hw⟩
  · rfl
  · cases w <;> first | rfl | (simp [Value.category] at hw)
theorem own_d5_0 : decode prog_75_method_3_code 0 = .ok (.lconst 0, 1) := by decide +kernel
theorem own_d5_1 : decode prog_75_method_3_code 1 = .ok (.lstore_n 2, 1) := by decide +kernel
theorem own_d5_2 : decode prog_75_method_3_code 2 = .ok (.aload_n 1, 1) := by decide +kernel
theorem own_d5_3 : decode prog_75_method_3_code 3 = .ok (.astore 4, 2) := by decide +kernel
theorem own_d5_5 : decode prog_75_method_3_code 5 = .ok (.aload 4, 2) := by decide +kernel
theorem own_d5_7 : decode prog_75_method_3_code 7 = .ok (.arraylength, 1) := by decide +kernel
theorem own_d5_8 : decode prog_75_method_3_code 8 = .ok (.istore 5, 2) := by decide +kernel
theorem own_d5_10 : decode prog_75_method_3_code 10 = .ok (.iconst 0, 1) := by decide +kernel
theorem own_d5_11 : decode prog_75_method_3_code 11 = .ok (.istore 6, 2) := by decide +kernel
theorem own_d5_13 : decode prog_75_method_3_code 13 = .ok (.iload 6, 2) := by decide +kernel
theorem own_d5_15 : decode prog_75_method_3_code 15 = .ok (.iload 5, 2) := by decide +kernel
theorem own_d5_17 : decode prog_75_method_3_code 17 = .ok (.if_icmp .ge 25, 3) := by decide +kernel
theorem own_d5_20 : decode prog_75_method_3_code 20 = .ok (.aload 4, 2) := by decide +kernel
theorem own_d5_22 : decode prog_75_method_3_code 22 = .ok (.iload 6, 2) := by decide +kernel
theorem own_d5_24 : decode prog_75_method_3_code 24 = .ok (.baload, 1) := by decide +kernel
theorem own_d5_25 : decode prog_75_method_3_code 25 = .ok (.istore 7, 2) := by decide +kernel
theorem own_d5_27 : decode prog_75_method_3_code 27 = .ok (.iload 7, 2) := by decide +kernel
theorem own_d5_29 : decode prog_75_method_3_code 29 = .ok (.ifCond .eq 7, 3) := by decide +kernel
theorem own_d5_32 : decode prog_75_method_3_code 32 = .ok (.lload_n 2, 1) := by decide +kernel
theorem own_d5_33 : decode prog_75_method_3_code 33 = .ok (.lconst 1, 1) := by decide +kernel
theorem own_d5_34 : decode prog_75_method_3_code 34 = .ok (.ladd, 1) := by decide +kernel
theorem own_d5_35 : decode prog_75_method_3_code 35 = .ok (.lstore_n 2, 1) := by decide +kernel
theorem own_d5_36 : decode prog_75_method_3_code 36 = .ok (.iinc 6 1, 3) := by decide +kernel
theorem own_d5_39 : decode prog_75_method_3_code 39 = .ok (.goto (-26), 3) := by decide +kernel
theorem own_d5_42 : decode prog_75_method_3_code 42 = .ok (.lload_n 2, 1) := by decide +kernel
theorem own_d5_43 : decode prog_75_method_3_code 43 = .ok (.lreturn, 1) := by decide +kernel
theorem own_pn5 : plainName "com/example/evotempo/evotempo/problem/OneMax" = true := by first | (simp [plainName, overriddenIn]; done) | decide +kernel
theorem own_ef5 (m : MethodId) (o0 : Addr) (o1 : Addr) : entryFrame m #[(.ref o0), (.ref o1)] 8 = mkF m 0 #[.val (.ref o0), .val (.ref o1), .unset, .unset, .unset, .unset, .unset, .unset] [] := by first | (simp [entryFrame, mkF, argsToLocals, Value.category]; done) | rfl
abbrev own_R5 : Room := { frames := 0, cells := 0, slots := 0, locals := 0 }
def own_P5_13_0 (L : List Int32) (v1 : Int32) : Nat → Int64 → Int32 → Int64
  | 0, _, _ => 0
  | fuel + 1, acc, i =>
    if i < v1 then
      let v6 : Int32 := (List.getD L (i).toInt.toNat 0)
      let v12 : Int64 := (if v6 = (0 : Int32) then acc else (acc + (1 : Int64)))
      let v14 : Int32 := (i + (1 : Int32))
      (own_P5_13_0 L v1 fuel v12 v14)
    else
      acc
theorem own_e5_17 {L : List Int32} {v1 : Int32} {fuel : Nat} {acc : Int64} {i : Int32} {v6 : Int32} {v12 : Int64} {v14 : Int32} (hv6 : v6 = (List.getD L (i).toInt.toNat 0)) (hv12 : v12 = (if v6 = (0 : Int32) then acc else (acc + (1 : Int64)))) (hv14 : v14 = (i + (1 : Int32))) (hc17_5 : i < v1) : (own_P5_13_0 L v1 fuel v12 v14) = (own_P5_13_0 L v1 (fuel + 1) acc i) := by
  subst hv6 hv12 hv14
  first
    | (simp only [own_P5_13_0, if_pos hc17_5]; done)
    | (exfalso; contradiction)
theorem own_e5_19 {L : List Int32} {v1 : Int32} {fuel : Nat} {acc : Int64} {i : Int32} (hc17_5 : ¬ (i < v1)) : acc = (own_P5_13_0 L v1 (fuel + 1) acc i) := by
  skip
  first
    | (simp only [own_P5_13_0, if_neg hc17_5]; done)
    | (exfalso; contradiction)
set_option maxRecDepth 65536 in
set_option maxHeartbeats 40000000 in
theorem own_lp5_13 {p : Program} {l : Launch} {e : Env} {s : State} {m : MethodId} {below : List Frame} {meth : Method} {c : Code} {Z : State} {a0 : Array Value} {h0 : Heap} {n0 : Nat} (hx : p.tables.exec = Jvm.exec) (hZ : Z.Warmed39 s.vm) (hw : ∀ d ∈ tables_1, d.before a0 Z = true) (hby : c.code = prog_75_method_3_code) (hml : c.maxLocals = 8) (hown : s.vm.findClass "com/example/evotempo/evotempo/problem/OneMax" = some m.cls) (hnm : meth.name = "fitness") (hret : meth.sig.returnType = (some .long)) (hk : meth.locks = false) (o0 : Addr) (o1 : Addr) (L : List Int32) (v1 : Int32) :
    ∀ (fuel : Nat) (T : State) (acc : Int64) (i : Int32) (s7 : Slot) (X : Stand p l e own_R5 s m #[(.ref o0), (.ref o1)] below meth c T [] 0 0) (eT : T.heap = h0) (f_0 : own_IA Z h0 o1 .boolean L) (h_s7 : One s7) (i0 : v1.toInt = (L.length : Int)) (i1 : 0 ≤ i.toInt) (i2 : i.toInt ≤ v1.toInt) (hf : v1.toInt - i.toInt < (fuel : Int)), own_End p e below s (fun vz h Lz => vz = some (.long (own_P5_13_0 L v1 fuel acc i)) ∧ Lz = [] ∧ h = h0) own_R5.cells own_R5.slots T (mkF m 13 #[.val (.ref o0), .val (.ref o1), .val (.long acc), .second, .val (.ref o1), .val (.int v1), .val (.int i), s7] []) := by
  intro fuel
  induction fuel with
  | zero =>
    intro T acc i s7 X eT f_0 h_s7 i0 i1 i2 hf
    exfalso
    omega
  | succ fuel ih =>
    intro T acc i s7 X eT f_0 h_s7 i0 i1 i2 hf
    have st4 : ∀ t, Steps p.tables e below (T.setTop (mkF m 17 #[.val (.ref o0), .val (.ref o1), .val (.long acc), .second, .val (.ref o1), .val (.int v1), .val (.int i), s7] [(.int v1), (.int i)])) t → Steps p.tables e below (T.setTop (mkF m 13 #[.val (.ref o0), .val (.ref o1), .val (.long acc), .second, .val (.ref o1), .val (.int v1), .val (.int i), s7] [])) t := by
      intro t k
      show Steps p.tables e below (T.setTop (mkF m 13 #[.val (.ref o0), .val (.ref o1), .val (.long acc), .second, .val (.ref o1), .val (.int v1), .val (.int i), s7] [])) _
      refine XS.iload X.here hx rfl (hb hby own_d5_13) rfl ?_
      show Steps p.tables e below (T.setTop (mkF m 15 #[.val (.ref o0), .val (.ref o1), .val (.long acc), .second, .val (.ref o1), .val (.int v1), .val (.int i), s7] [(.int i)])) _
      refine XS.iload X.here hx rfl (hb hby own_d5_15) rfl ?_
      exact k
    refine own_End.go (fun t k => st4 _ k) ?_
    by_cases hc17_5 : i < v1
    · obtain ⟨v6, hv6⟩ : ∃ z : Int32, z = (List.getD L (i).toInt.toNat 0) := ⟨_, rfl⟩
      have st7 : ∀ t, Steps p.tables e below (T.setTop (mkF m 27 #[.val (.ref o0), .val (.ref o1), .val (.long acc), .second, .val (.ref o1), .val (.int v1), .val (.int i), .val (.int v6)] [])) t → Steps p.tables e below (T.setTop (mkF m 17 #[.val (.ref o0), .val (.ref o1), .val (.long acc), .second, .val (.ref o1), .val (.int v1), .val (.int i), s7] [(.int v1), (.int i)])) t := by
        rw [hv6]
        intro t k
        show Steps p.tables e below (T.setTop (mkF m 17 #[.val (.ref o0), .val (.ref o1), .val (.long acc), .second, .val (.ref o1), .val (.int v1), .val (.int i), s7] [(.int v1), (.int i)])) _
        refine XS.icmpNo X.here hx rfl (hb hby own_d5_17) rfl (tlt hc17_5).2.1 ?_
        show Steps p.tables e below (T.setTop (mkF m 20 #[.val (.ref o0), .val (.ref o1), .val (.long acc), .second, .val (.ref o1), .val (.int v1), .val (.int i), s7] [])) _
        refine XS.aload X.here hx rfl (hb hby own_d5_20) rfl rfl ?_
        show Steps p.tables e below (T.setTop (mkF m 22 #[.val (.ref o0), .val (.ref o1), .val (.long acc), .second, .val (.ref o1), .val (.int v1), .val (.int i), s7] [(.ref o1)])) _
        refine XS.iload X.here hx rfl (hb hby own_d5_22) rfl ?_
        show Steps p.tables e below (T.setTop (mkF m 24 #[.val (.ref o0), .val (.ref o1), .val (.long acc), .second, .val (.ref o1), .val (.int v1), .val (.int i), s7] [(.int i), (.ref o1)])) _
        refine own_baloadZ X hx hZ eT f_0 (j := i) ⟨i1, own_ltl hc17_5 (Int.le_of_eq i0)⟩ (g := (mkF m 24 #[.val (.ref o0), .val (.ref o1), .val (.long acc), .second, .val (.ref o1), .val (.int v1), .val (.int i), s7] [(.int i), (.ref o1)])) rfl rfl (hb hby own_d5_24) _ ?_
        show Steps p.tables e below (T.setTop (mkF m 25 #[.val (.ref o0), .val (.ref o1), .val (.long acc), .second, .val (.ref o1), .val (.int v1), .val (.int i), s7] [(.int (List.getD L (i).toInt.toNat 0))])) _
        refine XS.istore X.here hx rfl (hb hby own_d5_25) rfl (l' := #[.val (.ref o0), .val (.ref o1), .val (.long acc), .second, .val (.ref o1), .val (.int v1), .val (.int i), .val (.int (List.getD L (i).toInt.toNat 0))]) (own_os5_25 h_s7) ?_
        exact k
      have st8 : ∀ t, Steps p.tables e below (T.setTop (mkF m 29 #[.val (.ref o0), .val (.ref o1), .val (.long acc), .second, .val (.ref o1), .val (.int v1), .val (.int i), .val (.int v6)] [(.int v6)])) t → Steps p.tables e below (T.setTop (mkF m 27 #[.val (.ref o0), .val (.ref o1), .val (.long acc), .second, .val (.ref o1), .val (.int v1), .val (.int i), .val (.int v6)] [])) t := by
        intro t k
        show Steps p.tables e below (T.setTop (mkF m 27 #[.val (.ref o0), .val (.ref o1), .val (.long acc), .second, .val (.ref o1), .val (.int v1), .val (.int i), .val (.int v6)] [])) _
        refine XS.iload X.here hx rfl (hb hby own_d5_27) rfl ?_
        exact k
      obtain ⟨v12, hv12⟩ : ∃ z : Int64, z = (if v6 = (0 : Int32) then acc else (acc + (1 : Int64))) := ⟨_, rfl⟩
      have st13 : ∀ t, Steps p.tables e below (T.setTop (mkF m 36 #[.val (.ref o0), .val (.ref o1), .val (.long v12), .second, .val (.ref o1), .val (.int v1), .val (.int i), .val (.int v6)] [])) t → Steps p.tables e below (T.setTop (mkF m 29 #[.val (.ref o0), .val (.ref o1), .val (.long acc), .second, .val (.ref o1), .val (.int v1), .val (.int i), .val (.int v6)] [(.int v6)])) t := by
        rw [hv12]
        by_cases hc29_9 : v6 = (0 : Int32)
        · repeat rw [if_pos hc29_9]
          have st10 : ∀ t, Steps p.tables e below (T.setTop (mkF m 36 #[.val (.ref o0), .val (.ref o1), .val (.long acc), .second, .val (.ref o1), .val (.int v1), .val (.int i), .val (.int v6)] [])) t → Steps p.tables e below (T.setTop (mkF m 29 #[.val (.ref o0), .val (.ref o1), .val (.long acc), .second, .val (.ref o1), .val (.int v1), .val (.int i), .val (.int v6)] [(.int v6)])) t := by
            intro t k
            show Steps p.tables e below (T.setTop (mkF m 29 #[.val (.ref o0), .val (.ref o1), .val (.long acc), .second, .val (.ref o1), .val (.int v1), .val (.int i), .val (.int v6)] [(.int v6)])) _
            refine XS.ifYes X.here hx rfl (pc0 := 29) (pc' := 36) rfl (hb hby own_d5_29) rfl ((if0 _ _).trans (teq hc29_9).1) (by decide) (by decide) ?_
            exact k
          exact fun t k => st10 _ k
        · repeat rw [if_neg hc29_9]
          have st11 : ∀ t, Steps p.tables e below (T.setTop (mkF m 36 #[.val (.ref o0), .val (.ref o1), .val (.long (acc + (1 : Int64))), .second, .val (.ref o1), .val (.int v1), .val (.int i), .val (.int v6)] [])) t → Steps p.tables e below (T.setTop (mkF m 29 #[.val (.ref o0), .val (.ref o1), .val (.long acc), .second, .val (.ref o1), .val (.int v1), .val (.int i), .val (.int v6)] [(.int v6)])) t := by
            intro t k
            show Steps p.tables e below (T.setTop (mkF m 29 #[.val (.ref o0), .val (.ref o1), .val (.long acc), .second, .val (.ref o1), .val (.int v1), .val (.int i), .val (.int v6)] [(.int v6)])) _
            refine XS.ifNo X.here hx rfl (hb hby own_d5_29) rfl ((if0 _ _).trans (feq hc29_9).1) ?_
            show Steps p.tables e below (T.setTop (mkF m 32 #[.val (.ref o0), .val (.ref o1), .val (.long acc), .second, .val (.ref o1), .val (.int v1), .val (.int i), .val (.int v6)] [])) _
            refine XS.lloadN X.here hx rfl (hb hby own_d5_32) rfl ?_
            show Steps p.tables e below (T.setTop (mkF m 33 #[.val (.ref o0), .val (.ref o1), .val (.long acc), .second, .val (.ref o1), .val (.int v1), .val (.int i), .val (.int v6)] [(.long acc)])) _
            refine XS.lconst X.here hx rfl (hb hby own_d5_33) ?_
            show Steps p.tables e below (T.setTop (mkF m 34 #[.val (.ref o0), .val (.ref o1), .val (.long acc), .second, .val (.ref o1), .val (.int v1), .val (.int i), .val (.int v6)] [(.long (1 : Int64)), (.long acc)])) _
            refine XS.ladd X.here hx rfl (hb hby own_d5_34) rfl ?_
            show Steps p.tables e below (T.setTop (mkF m 35 #[.val (.ref o0), .val (.ref o1), .val (.long acc), .second, .val (.ref o1), .val (.int v1), .val (.int i), .val (.int v6)] [(.long (acc + (1 : Int64)))])) _
            refine XS.lstoreN X.here hx rfl (hb hby own_d5_35) rfl (l' := #[.val (.ref o0), .val (.ref o1), .val (.long (acc + (1 : Int64))), .second, .val (.ref o1), .val (.int v1), .val (.int i), .val (.int v6)]) rfl ?_
            exact k
          exact fun t k => st11 _ k
      obtain ⟨v14, hv14⟩ : ∃ z : Int32, z = (i + (1 : Int32)) := ⟨_, rfl⟩
      have st15 : ∀ t, Steps p.tables e below (T.setTop (mkF m 39 #[.val (.ref o0), .val (.ref o1), .val (.long v12), .second, .val (.ref o1), .val (.int v1), .val (.int v14), .val (.int v6)] [])) t → Steps p.tables e below (T.setTop (mkF m 36 #[.val (.ref o0), .val (.ref o1), .val (.long v12), .second, .val (.ref o1), .val (.int v1), .val (.int i), .val (.int v6)] [])) t := by
        rw [hv14]
        intro t k
        show Steps p.tables e below (T.setTop (mkF m 36 #[.val (.ref o0), .val (.ref o1), .val (.long v12), .second, .val (.ref o1), .val (.int v1), .val (.int i), .val (.int v6)] [])) _
        refine XS.iinc X.here hx rfl (hb hby own_d5_36) rfl (l' := #[.val (.ref o0), .val (.ref o1), .val (.long v12), .second, .val (.ref o1), .val (.int v1), .val (.int (i + (1 : Int32))), .val (.int v6)]) rfl ?_
        exact k
      have st16 : ∀ t, Steps p.tables e below (T.setTop (mkF m 13 #[.val (.ref o0), .val (.ref o1), .val (.long v12), .second, .val (.ref o1), .val (.int v1), .val (.int v14), .val (.int v6)] [])) t → Steps p.tables e below (T.setTop (mkF m 39 #[.val (.ref o0), .val (.ref o1), .val (.long v12), .second, .val (.ref o1), .val (.int v1), .val (.int v14), .val (.int v6)] [])) t := by
        intro t k
        show Steps p.tables e below (T.setTop (mkF m 39 #[.val (.ref o0), .val (.ref o1), .val (.long v12), .second, .val (.ref o1), .val (.int v1), .val (.int v14), .val (.int v6)] [])) _
        refine XS.goto X.here hx rfl (pc0 := 39) (pc' := 13) rfl (hb hby own_d5_39) (by decide) (by decide) ?_
        exact k
      refine own_End.go (fun t k => st7 _ (st8 _ (st13 _ (st15 _ (st16 _ k))))) ?_
      rw [← (own_e5_17 hv6 hv12 hv14 hc17_5)]
      exact ih T v12 v14 (.val (.int v6)) X eT f_0 (One.val rfl) i0 (by have c := hc17_5; rw [Int32.lt_iff_toInt_lt] at c; have e := own_succ hv14 (by have := rng32 v1; omega); omega) (by have c := hc17_5; rw [Int32.lt_iff_toInt_lt] at c; have e := own_succ hv14 (by have := rng32 v1; omega); omega) (by have c := hc17_5; rw [Int32.lt_iff_toInt_lt] at c; have e := own_succ hv14 (by have := rng32 v1; omega); omega)
    · have st18 : ∀ t, Steps p.tables e below (T.setTop (mkF m 43 #[.val (.ref o0), .val (.ref o1), .val (.long acc), .second, .val (.ref o1), .val (.int v1), .val (.int i), s7] [(.long acc)])) t → Steps p.tables e below (T.setTop (mkF m 17 #[.val (.ref o0), .val (.ref o1), .val (.long acc), .second, .val (.ref o1), .val (.int v1), .val (.int i), s7] [(.int v1), (.int i)])) t := by
        intro t k
        show Steps p.tables e below (T.setTop (mkF m 17 #[.val (.ref o0), .val (.ref o1), .val (.long acc), .second, .val (.ref o1), .val (.int v1), .val (.int i), s7] [(.int v1), (.int i)])) _
        refine XS.icmpYes X.here hx rfl (pc0 := 17) (pc' := 42) rfl (hb hby own_d5_17) rfl (flt hc17_5).2.1 (by decide) (by decide) ?_
        show Steps p.tables e below (T.setTop (mkF m 42 #[.val (.ref o0), .val (.ref o1), .val (.long acc), .second, .val (.ref o1), .val (.int v1), .val (.int i), s7] [])) _
        refine XS.lloadN X.here hx rfl (hb hby own_d5_42) rfl ?_
        exact k
      refine own_End.go (fun t k => st18 _ k) ?_
      exact own_leafJ X hx hk hret (hb hby own_d5_43) ⟨congrArg (fun z => some (Value.long z)) (own_e5_19 hc17_5), rfl, eT⟩ (by decide) (by decide)
def own_F5 (L : List Int32) : Int64 :=
  let v1 : Int32 := (Int32.ofNat (List.length L))
  (own_P5_13_0 L v1 (L.length + 1) (0 : Int64) (0 : Int32))
def own_Q5 (Z : State) (o0 : Addr) (o1 : Addr) (L : List Int32) (h0 : Heap) (n0 : Nat) (vz : Option Value) (h : Heap) (Lz : List Loc) : Prop := vz = some (.long (own_F5 L)) ∧ Lz = [] ∧ h = h0
theorem own_e5_20 {L : List Int32} {v1 : Int32} (hv1 : v1 = (Int32.ofNat (List.length L))) : (own_P5_13_0 L v1 (L.length + 1) (0 : Int64) (0 : Int32)) = (own_F5 L) := by
  subst hv1
  first
    | (simp only [own_F5]; done)
    | (exfalso; contradiction)
set_option maxRecDepth 65536 in
set_option maxHeartbeats 40000000 in
theorem own_rm5 (l : Launch) (Z : State) (a0 : Array Value) (hw : ∀ d ∈ tables_1, d.before a0 Z = true) (ws : List Jvm.Cond) (o0 : Addr) (o1 : Addr) (L : List Int32) (h0 : Heap) (n0 : Nat) (Z0 : n0 ≤ h0.size) (V_o1 : own_IA Z h0 o1 .boolean L) :
    MetFree l (⟨"com/example/evotempo/evotempo/problem/OneMax", "fitness", "([Z)J"⟩ : MethodName) (head1 (Jvm.Cond.code (⟨"com/example/evotempo/evotempo/problem/OneMax", "fitness", "([Z)J"⟩ : MethodName) prog_75_method_3_code 8 (some .long) :: ws) own_R5) (fun a U => a = #[(.ref o0), (.ref o1)] ∧ Z.Warmed39 U.vm ∧ U.heap = h0) (fun _ _ _ _ _ => True) (fun _ U o U' => ∃ vz Lz, o = .returned vz ∧ own_Q5 Z o0 o1 L h0 n0 vz U'.heap Lz ∧ FrameEnd U o U' Lz own_R5.cells own_R5.slots) := by
  refine MetFree.of_bodySF (plainFor_of_name own_pn5) hisR ?_
  intro p e s m args below meth c s₁ Bd hml0 hP hK
  obtain ⟨rfl, hZ, hh⟩ := hP
  have hx := Bd.exec
  have hby := Bd.bytes
  have hml : c.maxLocals = 8 := hml0
  have hown : s.vm.findClass "com/example/evotempo/evotempo/problem/OneMax" = some m.cls := findClass_of_methodNamed Bd.named
  have hnm := (name_of_methodNamed Bd.named Bd.method).1
  have X0 : Stand p l e own_R5 s m #[(.ref o0), (.ref o1)] below meth c s₁ [] 0 0 := Stand.of_body Bd
  have e0 : s₁.heap = h0 := by rw [← hh, Bd.state]; rfl
  show own_End p e below s (fun vz h Lz => vz = some (.long (own_F5 L)) ∧ Lz = [] ∧ h = h0) own_R5.cells own_R5.slots s₁ (entryFrame m #[(.ref o0), (.ref o1)] 8)
  refine own_End.go (fun t k => castTop (own_ef5 m o0 o1) k) ?_
  show own_End p e below s _ _ _ s₁ (mkF m 0 #[.val (.ref o0), .val (.ref o1), .unset, .unset, .unset, .unset, .unset, .unset] [])
  have N0 := Fr.nil n0
  have K0 : Keep h0 h0 [] := Keep.refl h0 _
  obtain ⟨v1, hv1⟩ : ∃ z : Int32, z = (Int32.ofNat (List.length L)) := ⟨_, rfl⟩
  have st2 : ∀ t, Steps p.tables e below (s₁.setTop (mkF m 10 #[.val (.ref o0), .val (.ref o1), .val (.long (0 : Int64)), .second, .val (.ref o1), .val (.int v1), .unset, .unset] [])) t → Steps p.tables e below (s₁.setTop (mkF m 0 #[.val (.ref o0), .val (.ref o1), .unset, .unset, .unset, .unset, .unset, .unset] [])) t := by
    rw [hv1]
    intro t k
    show Steps p.tables e below (s₁.setTop (mkF m 0 #[.val (.ref o0), .val (.ref o1), .unset, .unset, .unset, .unset, .unset, .unset] [])) _
    refine XS.lconst X0.here hx rfl (hb hby own_d5_0) ?_
    show Steps p.tables e below (s₁.setTop (mkF m 1 #[.val (.ref o0), .val (.ref o1), .unset, .unset, .unset, .unset, .unset, .unset] [(.long (0 : Int64))])) _
    refine XS.lstoreN X0.here hx rfl (hb hby own_d5_1) rfl (l' := #[.val (.ref o0), .val (.ref o1), .val (.long (0 : Int64)), .second, .unset, .unset, .unset, .unset]) rfl ?_
    show Steps p.tables e below (s₁.setTop (mkF m 2 #[.val (.ref o0), .val (.ref o1), .val (.long (0 : Int64)), .second, .unset, .unset, .unset, .unset] [])) _
    refine XS.aloadN X0.here hx rfl (hb hby own_d5_2) rfl rfl ?_
    show Steps p.tables e below (s₁.setTop (mkF m 3 #[.val (.ref o0), .val (.ref o1), .val (.long (0 : Int64)), .second, .unset, .unset, .unset, .unset] [(.ref o1)])) _
    refine XS.astore X0.here hx rfl (hb hby own_d5_3) rfl rfl (l' := #[.val (.ref o0), .val (.ref o1), .val (.long (0 : Int64)), .second, .val (.ref o1), .unset, .unset, .unset]) rfl ?_
    show Steps p.tables e below (s₁.setTop (mkF m 5 #[.val (.ref o0), .val (.ref o1), .val (.long (0 : Int64)), .second, .val (.ref o1), .unset, .unset, .unset] [])) _
    refine XS.aload X0.here hx rfl (hb hby own_d5_5) rfl rfl ?_
    show Steps p.tables e below (s₁.setTop (mkF m 7 #[.val (.ref o0), .val (.ref o1), .val (.long (0 : Int64)), .second, .val (.ref o1), .unset, .unset, .unset] [(.ref o1)])) _
    refine own_lenI X0 hx hZ e0 V_o1 (g := (mkF m 7 #[.val (.ref o0), .val (.ref o1), .val (.long (0 : Int64)), .second, .val (.ref o1), .unset, .unset, .unset] [(.ref o1)])) rfl rfl (hb hby own_d5_7) _ ?_
    show Steps p.tables e below (s₁.setTop (mkF m 8 #[.val (.ref o0), .val (.ref o1), .val (.long (0 : Int64)), .second, .val (.ref o1), .unset, .unset, .unset] [(.int (Int32.ofNat (List.length L)))])) _
    refine XS.istore X0.here hx rfl (hb hby own_d5_8) rfl (l' := #[.val (.ref o0), .val (.ref o1), .val (.long (0 : Int64)), .second, .val (.ref o1), .val (.int (Int32.ofNat (List.length L))), .unset, .unset]) rfl ?_
    exact k
  have st3 : ∀ t, Steps p.tables e below (s₁.setTop (mkF m 13 #[.val (.ref o0), .val (.ref o1), .val (.long (0 : Int64)), .second, .val (.ref o1), .val (.int v1), .val (.int (0 : Int32)), .unset] [])) t → Steps p.tables e below (s₁.setTop (mkF m 10 #[.val (.ref o0), .val (.ref o1), .val (.long (0 : Int64)), .second, .val (.ref o1), .val (.int v1), .unset, .unset] [])) t := by
    intro t k
    show Steps p.tables e below (s₁.setTop (mkF m 10 #[.val (.ref o0), .val (.ref o1), .val (.long (0 : Int64)), .second, .val (.ref o1), .val (.int v1), .unset, .unset] [])) _
    refine XS.iconst X0.here hx rfl (hb hby own_d5_10) ?_
    show Steps p.tables e below (s₁.setTop (mkF m 11 #[.val (.ref o0), .val (.ref o1), .val (.long (0 : Int64)), .second, .val (.ref o1), .val (.int v1), .unset, .unset] [(.int (0 : Int32))])) _
    refine XS.istore X0.here hx rfl (hb hby own_d5_11) rfl (l' := #[.val (.ref o0), .val (.ref o1), .val (.long (0 : Int64)), .second, .val (.ref o1), .val (.int v1), .val (.int (0 : Int32)), .unset]) rfl ?_
    exact k
  refine own_End.go (fun t k => st2 _ (st3 _ k)) ?_
  rw [← (own_e5_20 hv1)]
  exact own_lp5_13 (n0 := n0) hx hZ hw hby hml hown hnm Bd.returns Bd.notSynchronized o0 o1 L v1 (L.length + 1) s₁ (0 : Int64) (0 : Int32) (.unset) X0 e0 V_o1 One.u (own_ofN hv1 (by have := V_o1.len; omega)) (by decide) (by have := own_ofN hv1 (by have := V_o1.len; omega); have := own_z0; omega) (by have := own_ofN hv1 (by have := V_o1.len; omega); have := own_z0; omega)
theorem own_d6_0 : decode method_5_code 0 = .ok (.aload_n 0, 1) := by decide +kernel
theorem own_d6_1 : decode method_5_code 1 = .ok (.iconst 0, 1) := by decide +kernel
theorem own_d6_2 : decode method_5_code 2 = .ok (.baload, 1) := by decide +kernel
theorem own_d6_3 : decode method_5_code 3 = .ok (.iload_n 1, 1) := by decide +kernel
theorem own_d6_4 : decode method_5_code 4 = .ok (.iconst 0, 1) := by decide +kernel
theorem own_d6_5 : decode method_5_code 5 = .ok (.invokestatic 7, 3) := by decide +kernel
theorem own_d6_8 : decode method_5_code 8 = .ok (.if_icmp .ne 101, 3) := by decide +kernel
theorem own_d6_11 : decode method_5_code 11 = .ok (.aload_n 0, 1) := by decide +kernel
theorem own_d6_12 : decode method_5_code 12 = .ok (.iconst 1, 1) := by decide +kernel
theorem own_d6_13 : decode method_5_code 13 = .ok (.baload, 1) := by decide +kernel
theorem own_d6_14 : decode method_5_code 14 = .ok (.iload_n 1, 1) := by decide +kernel
theorem own_d6_15 : decode method_5_code 15 = .ok (.iconst 1, 1) := by decide +kernel
theorem own_d6_16 : decode method_5_code 16 = .ok (.invokestatic 7, 3) := by decide +kernel
theorem own_d6_19 : decode method_5_code 19 = .ok (.if_icmp .ne 90, 3) := by decide +kernel
theorem own_d6_22 : decode method_5_code 22 = .ok (.aload_n 0, 1) := by decide +kernel
theorem own_d6_23 : decode method_5_code 23 = .ok (.iconst 2, 1) := by decide +kernel
theorem own_d6_24 : decode method_5_code 24 = .ok (.baload, 1) := by decide +kernel
theorem own_d6_25 : decode method_5_code 25 = .ok (.iload_n 1, 1) := by decide +kernel
theorem own_d6_26 : decode method_5_code 26 = .ok (.iconst 2, 1) := by decide +kernel
theorem own_d6_27 : decode method_5_code 27 = .ok (.invokestatic 7, 3) := by decide +kernel
theorem own_d6_30 : decode method_5_code 30 = .ok (.if_icmp .ne 79, 3) := by decide +kernel
theorem own_d6_33 : decode method_5_code 33 = .ok (.aload_n 0, 1) := by decide +kernel
theorem own_d6_34 : decode method_5_code 34 = .ok (.iconst 3, 1) := by decide +kernel
theorem own_d6_35 : decode method_5_code 35 = .ok (.baload, 1) := by decide +kernel
theorem own_d6_36 : decode method_5_code 36 = .ok (.iload_n 1, 1) := by decide +kernel
theorem own_d6_37 : decode method_5_code 37 = .ok (.iconst 3, 1) := by decide +kernel
theorem own_d6_38 : decode method_5_code 38 = .ok (.invokestatic 7, 3) := by decide +kernel
theorem own_d6_41 : decode method_5_code 41 = .ok (.if_icmp .ne 68, 3) := by decide +kernel
theorem own_d6_44 : decode method_5_code 44 = .ok (.aload_n 0, 1) := by decide +kernel
theorem own_d6_45 : decode method_5_code 45 = .ok (.iconst 4, 1) := by decide +kernel
theorem own_d6_46 : decode method_5_code 46 = .ok (.baload, 1) := by decide +kernel
theorem own_d6_47 : decode method_5_code 47 = .ok (.iload_n 1, 1) := by decide +kernel
theorem own_d6_48 : decode method_5_code 48 = .ok (.iconst 4, 1) := by decide +kernel
theorem own_d6_49 : decode method_5_code 49 = .ok (.invokestatic 7, 3) := by decide +kernel
theorem own_d6_52 : decode method_5_code 52 = .ok (.if_icmp .ne 57, 3) := by decide +kernel
theorem own_d6_55 : decode method_5_code 55 = .ok (.aload_n 0, 1) := by decide +kernel
theorem own_d6_56 : decode method_5_code 56 = .ok (.iconst 5, 1) := by decide +kernel
theorem own_d6_57 : decode method_5_code 57 = .ok (.baload, 1) := by decide +kernel
theorem own_d6_58 : decode method_5_code 58 = .ok (.iload_n 1, 1) := by decide +kernel
theorem own_d6_59 : decode method_5_code 59 = .ok (.iconst 5, 1) := by decide +kernel
theorem own_d6_60 : decode method_5_code 60 = .ok (.invokestatic 7, 3) := by decide +kernel
theorem own_d6_63 : decode method_5_code 63 = .ok (.if_icmp .ne 46, 3) := by decide +kernel
theorem own_d6_66 : decode method_5_code 66 = .ok (.aload_n 0, 1) := by decide +kernel
theorem own_d6_67 : decode method_5_code 67 = .ok (.bipush 6, 2) := by decide +kernel
theorem own_d6_69 : decode method_5_code 69 = .ok (.baload, 1) := by decide +kernel
theorem own_d6_70 : decode method_5_code 70 = .ok (.iload_n 1, 1) := by decide +kernel
theorem own_d6_71 : decode method_5_code 71 = .ok (.bipush 6, 2) := by decide +kernel
theorem own_d6_73 : decode method_5_code 73 = .ok (.invokestatic 7, 3) := by decide +kernel
theorem own_d6_76 : decode method_5_code 76 = .ok (.if_icmp .ne 33, 3) := by decide +kernel
theorem own_d6_79 : decode method_5_code 79 = .ok (.aload_n 0, 1) := by decide +kernel
theorem own_d6_80 : decode method_5_code 80 = .ok (.bipush 7, 2) := by decide +kernel
theorem own_d6_82 : decode method_5_code 82 = .ok (.baload, 1) := by decide +kernel
theorem own_d6_83 : decode method_5_code 83 = .ok (.iload_n 1, 1) := by decide +kernel
theorem own_d6_84 : decode method_5_code 84 = .ok (.bipush 7, 2) := by decide +kernel
theorem own_d6_86 : decode method_5_code 86 = .ok (.invokestatic 7, 3) := by decide +kernel
theorem own_d6_89 : decode method_5_code 89 = .ok (.if_icmp .ne 20, 3) := by decide +kernel
theorem own_d6_92 : decode method_5_code 92 = .ok (.aload_n 0, 1) := by decide +kernel
theorem own_d6_93 : decode method_5_code 93 = .ok (.bipush 8, 2) := by decide +kernel
theorem own_d6_95 : decode method_5_code 95 = .ok (.baload, 1) := by decide +kernel
theorem own_d6_96 : decode method_5_code 96 = .ok (.iload_n 1, 1) := by decide +kernel
theorem own_d6_97 : decode method_5_code 97 = .ok (.bipush 8, 2) := by decide +kernel
theorem own_d6_99 : decode method_5_code 99 = .ok (.invokestatic 7, 3) := by decide +kernel
theorem own_d6_102 : decode method_5_code 102 = .ok (.if_icmp .ne 7, 3) := by decide +kernel
theorem own_d6_105 : decode method_5_code 105 = .ok (.iconst 1, 1) := by decide +kernel
theorem own_d6_106 : decode method_5_code 106 = .ok (.goto 4, 3) := by decide +kernel
theorem own_d6_109 : decode method_5_code 109 = .ok (.iconst 0, 1) := by decide +kernel
theorem own_d6_110 : decode method_5_code 110 = .ok (.ireturn, 1) := by decide +kernel
theorem own_pn6 : plainName "com/example/evotempo/evotempo/problem/OneMaxFitnessPinLaw" = true := by first | (simp [plainName, overriddenIn]; done) | decide +kernel
theorem own_ef6 (m : MethodId) (o0 : Addr) (p1 : Int32) : entryFrame m #[(.ref o0), (.int p1)] 2 = mkF m 0 #[.val (.ref o0), .val (.int p1)] [] := by first | (simp [entryFrame, mkF, argsToLocals, Value.category]; done) | rfl
abbrev own_R6 : Room := { frames := 1, cells := 0, slots := 0, locals := 14 }
def own_F6 (p1 : Int32) (L : List Int32) : Int32 :=
  let v3 : Int32 := (own_F1 p1 (0 : Int32))
  if (List.getD L ((0 : Int32)).toInt.toNat 0) = v3 then
    let v7 : Int32 := (own_F1 p1 (1 : Int32))
    if (List.getD L ((1 : Int32)).toInt.toNat 0) = v7 then
      let v11 : Int32 := (own_F1 p1 (2 : Int32))
      if (List.getD L ((2 : Int32)).toInt.toNat 0) = v11 then
        let v15 : Int32 := (own_F1 p1 (3 : Int32))
        if (List.getD L ((3 : Int32)).toInt.toNat 0) = v15 then
          let v19 : Int32 := (own_F1 p1 (4 : Int32))
          if (List.getD L ((4 : Int32)).toInt.toNat 0) = v19 then
            let v23 : Int32 := (own_F1 p1 (5 : Int32))
            if (List.getD L ((5 : Int32)).toInt.toNat 0) = v23 then
              let v27 : Int32 := (own_F1 p1 (6 : Int32))
              if (List.getD L ((6 : Int32)).toInt.toNat 0) = v27 then
                let v31 : Int32 := (own_F1 p1 (7 : Int32))
                if (List.getD L ((7 : Int32)).toInt.toNat 0) = v31 then
                  let v35 : Int32 := (own_F1 p1 (8 : Int32))
                  if (List.getD L ((8 : Int32)).toInt.toNat 0) = v35 then
                    (1 : Int32)
                  else
                    (0 : Int32)
                else
                  (0 : Int32)
              else
                (0 : Int32)
            else
              (0 : Int32)
          else
            (0 : Int32)
        else
          (0 : Int32)
      else
        (0 : Int32)
    else
      (0 : Int32)
  else
    (0 : Int32)
def own_Q6 (Z : State) (o0 : Addr) (p1 : Int32) (L : List Int32) (h0 : Heap) (n0 : Nat) (vz : Option Value) (h : Heap) (Lz : List Loc) : Prop := vz = some (.int (own_F6 p1 L)) ∧ Lz = [] ∧ h = h0
theorem own_e6_38 {p1 : Int32} {L : List Int32} {v3 : Int32} {v7 : Int32} {v11 : Int32} {v15 : Int32} {v19 : Int32} {v23 : Int32} {v27 : Int32} {v31 : Int32} {v35 : Int32} (hv3 : v3 = (own_F1 p1 (0 : Int32))) (hv7 : v7 = (own_F1 p1 (1 : Int32))) (hv11 : v11 = (own_F1 p1 (2 : Int32))) (hv15 : v15 = (own_F1 p1 (3 : Int32))) (hv19 : v19 = (own_F1 p1 (4 : Int32))) (hv23 : v23 = (own_F1 p1 (5 : Int32))) (hv27 : v27 = (own_F1 p1 (6 : Int32))) (hv31 : v31 = (own_F1 p1 (7 : Int32))) (hv35 : v35 = (own_F1 p1 (8 : Int32))) (hc8_4 : (List.getD L ((0 : Int32)).toInt.toNat 0) = v3) (hc19_8 : (List.getD L ((1 : Int32)).toInt.toNat 0) = v7) (hc30_12 : (List.getD L ((2 : Int32)).toInt.toNat 0) = v11) (hc41_16 : (List.getD L ((3 : Int32)).toInt.toNat 0) = v15) (hc52_20 : (List.getD L ((4 : Int32)).toInt.toNat 0) = v19) (hc63_24 : (List.getD L ((5 : Int32)).toInt.toNat 0) = v23) (hc76_28 : (List.getD L ((6 : Int32)).toInt.toNat 0) = v27) (hc89_32 : (List.getD L ((7 : Int32)).toInt.toNat 0) = v31) (hc102_36 : (List.getD L ((8 : Int32)).toInt.toNat 0) = v35) : (nar .boolean (1 : Int32)) = (own_F6 p1 L) := by
  rw [own_nb1]
  subst hv3 hv7 hv11 hv15 hv19 hv23 hv27 hv31 hv35
  first
    | (simp only [own_F6, if_pos hc8_4, if_pos hc19_8, if_pos hc30_12, if_pos hc41_16, if_pos hc52_20, if_pos hc63_24, if_pos hc76_28, if_pos hc89_32, if_pos hc102_36]; done)
    | (exfalso; contradiction)
theorem own_e6_40 {p1 : Int32} {L : List Int32} {v3 : Int32} {v7 : Int32} {v11 : Int32} {v15 : Int32} {v19 : Int32} {v23 : Int32} {v27 : Int32} {v31 : Int32} {v35 : Int32} (hv3 : v3 = (own_F1 p1 (0 : Int32))) (hv7 : v7 = (own_F1 p1 (1 : Int32))) (hv11 : v11 = (own_F1 p1 (2 : Int32))) (hv15 : v15 = (own_F1 p1 (3 : Int32))) (hv19 : v19 = (own_F1 p1 (4 : Int32))) (hv23 : v23 = (own_F1 p1 (5 : Int32))) (hv27 : v27 = (own_F1 p1 (6 : Int32))) (hv31 : v31 = (own_F1 p1 (7 : Int32))) (hv35 : v35 = (own_F1 p1 (8 : Int32))) (hc8_4 : (List.getD L ((0 : Int32)).toInt.toNat 0) = v3) (hc19_8 : (List.getD L ((1 : Int32)).toInt.toNat 0) = v7) (hc30_12 : (List.getD L ((2 : Int32)).toInt.toNat 0) = v11) (hc41_16 : (List.getD L ((3 : Int32)).toInt.toNat 0) = v15) (hc52_20 : (List.getD L ((4 : Int32)).toInt.toNat 0) = v19) (hc63_24 : (List.getD L ((5 : Int32)).toInt.toNat 0) = v23) (hc76_28 : (List.getD L ((6 : Int32)).toInt.toNat 0) = v27) (hc89_32 : (List.getD L ((7 : Int32)).toInt.toNat 0) = v31) (hc102_36 : ¬ ((List.getD L ((8 : Int32)).toInt.toNat 0) = v35)) : (nar .boolean (0 : Int32)) = (own_F6 p1 L) := by
  rw [own_nb0]
  subst hv3 hv7 hv11 hv15 hv19 hv23 hv27 hv31 hv35
  first
    | (simp only [own_F6, if_pos hc8_4, if_pos hc19_8, if_pos hc30_12, if_pos hc41_16, if_pos hc52_20, if_pos hc63_24, if_pos hc76_28, if_pos hc89_32, if_neg hc102_36]; done)
    | (exfalso; contradiction)
theorem own_e6_42 {p1 : Int32} {L : List Int32} {v3 : Int32} {v7 : Int32} {v11 : Int32} {v15 : Int32} {v19 : Int32} {v23 : Int32} {v27 : Int32} {v31 : Int32} (hv3 : v3 = (own_F1 p1 (0 : Int32))) (hv7 : v7 = (own_F1 p1 (1 : Int32))) (hv11 : v11 = (own_F1 p1 (2 : Int32))) (hv15 : v15 = (own_F1 p1 (3 : Int32))) (hv19 : v19 = (own_F1 p1 (4 : Int32))) (hv23 : v23 = (own_F1 p1 (5 : Int32))) (hv27 : v27 = (own_F1 p1 (6 : Int32))) (hv31 : v31 = (own_F1 p1 (7 : Int32))) (hc8_4 : (List.getD L ((0 : Int32)).toInt.toNat 0) = v3) (hc19_8 : (List.getD L ((1 : Int32)).toInt.toNat 0) = v7) (hc30_12 : (List.getD L ((2 : Int32)).toInt.toNat 0) = v11) (hc41_16 : (List.getD L ((3 : Int32)).toInt.toNat 0) = v15) (hc52_20 : (List.getD L ((4 : Int32)).toInt.toNat 0) = v19) (hc63_24 : (List.getD L ((5 : Int32)).toInt.toNat 0) = v23) (hc76_28 : (List.getD L ((6 : Int32)).toInt.toNat 0) = v27) (hc89_32 : ¬ ((List.getD L ((7 : Int32)).toInt.toNat 0) = v31)) : (nar .boolean (0 : Int32)) = (own_F6 p1 L) := by
  rw [own_nb0]
  subst hv3 hv7 hv11 hv15 hv19 hv23 hv27 hv31
  first
    | (simp only [own_F6, if_pos hc8_4, if_pos hc19_8, if_pos hc30_12, if_pos hc41_16, if_pos hc52_20, if_pos hc63_24, if_pos hc76_28, if_neg hc89_32]; done)
    | (exfalso; contradiction)
theorem own_e6_44 {p1 : Int32} {L : List Int32} {v3 : Int32} {v7 : Int32} {v11 : Int32} {v15 : Int32} {v19 : Int32} {v23 : Int32} {v27 : Int32} (hv3 : v3 = (own_F1 p1 (0 : Int32))) (hv7 : v7 = (own_F1 p1 (1 : Int32))) (hv11 : v11 = (own_F1 p1 (2 : Int32))) (hv15 : v15 = (own_F1 p1 (3 : Int32))) (hv19 : v19 = (own_F1 p1 (4 : Int32))) (hv23 : v23 = (own_F1 p1 (5 : Int32))) (hv27 : v27 = (own_F1 p1 (6 : Int32))) (hc8_4 : (List.getD L ((0 : Int32)).toInt.toNat 0) = v3) (hc19_8 : (List.getD L ((1 : Int32)).toInt.toNat 0) = v7) (hc30_12 : (List.getD L ((2 : Int32)).toInt.toNat 0) = v11) (hc41_16 : (List.getD L ((3 : Int32)).toInt.toNat 0) = v15) (hc52_20 : (List.getD L ((4 : Int32)).toInt.toNat 0) = v19) (hc63_24 : (List.getD L ((5 : Int32)).toInt.toNat 0) = v23) (hc76_28 : ¬ ((List.getD L ((6 : Int32)).toInt.toNat 0) = v27)) : (nar .boolean (0 : Int32)) = (own_F6 p1 L) := by
  rw [own_nb0]
  subst hv3 hv7 hv11 hv15 hv19 hv23 hv27
  first
    | (simp only [own_F6, if_pos hc8_4, if_pos hc19_8, if_pos hc30_12, if_pos hc41_16, if_pos hc52_20, if_pos hc63_24, if_neg hc76_28]; done)
    | (exfalso; contradiction)
theorem own_e6_46 {p1 : Int32} {L : List Int32} {v3 : Int32} {v7 : Int32} {v11 : Int32} {v15 : Int32} {v19 : Int32} {v23 : Int32} (hv3 : v3 = (own_F1 p1 (0 : Int32))) (hv7 : v7 = (own_F1 p1 (1 : Int32))) (hv11 : v11 = (own_F1 p1 (2 : Int32))) (hv15 : v15 = (own_F1 p1 (3 : Int32))) (hv19 : v19 = (own_F1 p1 (4 : Int32))) (hv23 : v23 = (own_F1 p1 (5 : Int32))) (hc8_4 : (List.getD L ((0 : Int32)).toInt.toNat 0) = v3) (hc19_8 : (List.getD L ((1 : Int32)).toInt.toNat 0) = v7) (hc30_12 : (List.getD L ((2 : Int32)).toInt.toNat 0) = v11) (hc41_16 : (List.getD L ((3 : Int32)).toInt.toNat 0) = v15) (hc52_20 : (List.getD L ((4 : Int32)).toInt.toNat 0) = v19) (hc63_24 : ¬ ((List.getD L ((5 : Int32)).toInt.toNat 0) = v23)) : (nar .boolean (0 : Int32)) = (own_F6 p1 L) := by
  rw [own_nb0]
  subst hv3 hv7 hv11 hv15 hv19 hv23
  first
    | (simp only [own_F6, if_pos hc8_4, if_pos hc19_8, if_pos hc30_12, if_pos hc41_16, if_pos hc52_20, if_neg hc63_24]; done)
    | (exfalso; contradiction)
theorem own_e6_48 {p1 : Int32} {L : List Int32} {v3 : Int32} {v7 : Int32} {v11 : Int32} {v15 : Int32} {v19 : Int32} (hv3 : v3 = (own_F1 p1 (0 : Int32))) (hv7 : v7 = (own_F1 p1 (1 : Int32))) (hv11 : v11 = (own_F1 p1 (2 : Int32))) (hv15 : v15 = (own_F1 p1 (3 : Int32))) (hv19 : v19 = (own_F1 p1 (4 : Int32))) (hc8_4 : (List.getD L ((0 : Int32)).toInt.toNat 0) = v3) (hc19_8 : (List.getD L ((1 : Int32)).toInt.toNat 0) = v7) (hc30_12 : (List.getD L ((2 : Int32)).toInt.toNat 0) = v11) (hc41_16 : (List.getD L ((3 : Int32)).toInt.toNat 0) = v15) (hc52_20 : ¬ ((List.getD L ((4 : Int32)).toInt.toNat 0) = v19)) : (nar .boolean (0 : Int32)) = (own_F6 p1 L) := by
  rw [own_nb0]
  subst hv3 hv7 hv11 hv15 hv19
  first
    | (simp only [own_F6, if_pos hc8_4, if_pos hc19_8, if_pos hc30_12, if_pos hc41_16, if_neg hc52_20]; done)
    | (exfalso; contradiction)
theorem own_e6_50 {p1 : Int32} {L : List Int32} {v3 : Int32} {v7 : Int32} {v11 : Int32} {v15 : Int32} (hv3 : v3 = (own_F1 p1 (0 : Int32))) (hv7 : v7 = (own_F1 p1 (1 : Int32))) (hv11 : v11 = (own_F1 p1 (2 : Int32))) (hv15 : v15 = (own_F1 p1 (3 : Int32))) (hc8_4 : (List.getD L ((0 : Int32)).toInt.toNat 0) = v3) (hc19_8 : (List.getD L ((1 : Int32)).toInt.toNat 0) = v7) (hc30_12 : (List.getD L ((2 : Int32)).toInt.toNat 0) = v11) (hc41_16 : ¬ ((List.getD L ((3 : Int32)).toInt.toNat 0) = v15)) : (nar .boolean (0 : Int32)) = (own_F6 p1 L) := by
  rw [own_nb0]
  subst hv3 hv7 hv11 hv15
  first
    | (simp only [own_F6, if_pos hc8_4, if_pos hc19_8, if_pos hc30_12, if_neg hc41_16]; done)
    | (exfalso; contradiction)
theorem own_e6_52 {p1 : Int32} {L : List Int32} {v3 : Int32} {v7 : Int32} {v11 : Int32} (hv3 : v3 = (own_F1 p1 (0 : Int32))) (hv7 : v7 = (own_F1 p1 (1 : Int32))) (hv11 : v11 = (own_F1 p1 (2 : Int32))) (hc8_4 : (List.getD L ((0 : Int32)).toInt.toNat 0) = v3) (hc19_8 : (List.getD L ((1 : Int32)).toInt.toNat 0) = v7) (hc30_12 : ¬ ((List.getD L ((2 : Int32)).toInt.toNat 0) = v11)) : (nar .boolean (0 : Int32)) = (own_F6 p1 L) := by
  rw [own_nb0]
  subst hv3 hv7 hv11
  first
    | (simp only [own_F6, if_pos hc8_4, if_pos hc19_8, if_neg hc30_12]; done)
    | (exfalso; contradiction)
theorem own_e6_54 {p1 : Int32} {L : List Int32} {v3 : Int32} {v7 : Int32} (hv3 : v3 = (own_F1 p1 (0 : Int32))) (hv7 : v7 = (own_F1 p1 (1 : Int32))) (hc8_4 : (List.getD L ((0 : Int32)).toInt.toNat 0) = v3) (hc19_8 : ¬ ((List.getD L ((1 : Int32)).toInt.toNat 0) = v7)) : (nar .boolean (0 : Int32)) = (own_F6 p1 L) := by
  rw [own_nb0]
  subst hv3 hv7
  first
    | (simp only [own_F6, if_pos hc8_4, if_neg hc19_8]; done)
    | (exfalso; contradiction)
theorem own_e6_56 {p1 : Int32} {L : List Int32} {v3 : Int32} (hv3 : v3 = (own_F1 p1 (0 : Int32))) (hc8_4 : ¬ ((List.getD L ((0 : Int32)).toInt.toNat 0) = v3)) : (nar .boolean (0 : Int32)) = (own_F6 p1 L) := by
  rw [own_nb0]
  subst hv3
  first
    | (simp only [own_F6, if_neg hc8_4]; done)
    | (exfalso; contradiction)
set_option maxRecDepth 65536 in
set_option maxHeartbeats 40000000 in
theorem own_rm6 (l : Launch) (Z : State) (a0 : Array Value) (hw : ∀ d ∈ tables_1, d.before a0 Z = true) (ws : List Jvm.Cond) (o0 : Addr) (p1 : Int32) (L : List Int32) (h0 : Heap) (n0 : Nat) (Z0 : n0 ≤ h0.size) (V_o0 : own_IA Z h0 o0 .boolean L) (hL : L.length = 9) :
    MetFree l (⟨"com/example/evotempo/evotempo/problem/OneMaxFitnessPinLaw", "unchanged", "([ZI)Z"⟩ : MethodName) (head1 (Jvm.Cond.code (⟨"com/example/evotempo/evotempo/problem/OneMaxFitnessPinLaw", "unchanged", "([ZI)Z"⟩ : MethodName) method_5_code 2 (some .boolean) :: ws) own_R6) (fun a U => a = #[(.ref o0), (.int p1)] ∧ Z.Warmed39 U.vm ∧ U.heap = h0) (fun _ _ _ _ _ => True) (fun _ U o U' => ∃ vz Lz, o = .returned vz ∧ own_Q6 Z o0 p1 L h0 n0 vz U'.heap Lz ∧ FrameEnd U o U' Lz own_R6.cells own_R6.slots) := by
  refine MetFree.of_bodySF (plainFor_of_name own_pn6) hisR ?_
  intro p e s m args below meth c s₁ Bd hml0 hP hK
  obtain ⟨rfl, hZ, hh⟩ := hP
  have hx := Bd.exec
  have hby := Bd.bytes
  have hml : c.maxLocals = 2 := hml0
  have hown : s.vm.findClass "com/example/evotempo/evotempo/problem/OneMaxFitnessPinLaw" = some m.cls := findClass_of_methodNamed Bd.named
  have hnm := (name_of_methodNamed Bd.named Bd.method).1
  have X0 : Stand p l e own_R6 s m #[(.ref o0), (.int p1)] below meth c s₁ [] 0 0 := Stand.of_body Bd
  have e0 : s₁.heap = h0 := by rw [← hh, Bd.state]; rfl
  show own_End p e below s (fun vz h Lz => vz = some (.int (own_F6 p1 L)) ∧ Lz = [] ∧ h = h0) own_R6.cells own_R6.slots s₁ (entryFrame m #[(.ref o0), (.int p1)] 2)
  refine own_End.go (fun t k => castTop (own_ef6 m o0 p1) k) ?_
  show own_End p e below s _ _ _ s₁ (mkF m 0 #[.val (.ref o0), .val (.int p1)] [])
  have N0 := Fr.nil n0
  have K0 : Keep h0 h0 [] := Keep.refl h0 _
  have st1 : ∀ t, Steps p.tables e below (s₁.setTop (mkF m 5 #[.val (.ref o0), .val (.int p1)] [(.int (0 : Int32)), (.int p1), (.int (List.getD L ((0 : Int32)).toInt.toNat 0))])) t → Steps p.tables e below (s₁.setTop (mkF m 0 #[.val (.ref o0), .val (.int p1)] [])) t := by
    intro t k
    show Steps p.tables e below (s₁.setTop (mkF m 0 #[.val (.ref o0), .val (.int p1)] [])) _
    refine XS.aloadN X0.here hx rfl (hb hby own_d6_0) rfl rfl ?_
    show Steps p.tables e below (s₁.setTop (mkF m 1 #[.val (.ref o0), .val (.int p1)] [(.ref o0)])) _
    refine XS.iconst X0.here hx rfl (hb hby own_d6_1) ?_
    show Steps p.tables e below (s₁.setTop (mkF m 2 #[.val (.ref o0), .val (.int p1)] [(.int (0 : Int32)), (.ref o0)])) _
    refine own_baloadZ X0 hx hZ e0 V_o0 (j := (0 : Int32)) (own_in (m := 9) hL (by decide)) (g := (mkF m 2 #[.val (.ref o0), .val (.int p1)] [(.int (0 : Int32)), (.ref o0)])) rfl rfl (hb hby own_d6_2) _ ?_
    show Steps p.tables e below (s₁.setTop (mkF m 3 #[.val (.ref o0), .val (.int p1)] [(.int (List.getD L ((0 : Int32)).toInt.toNat 0))])) _
    refine XS.iloadN X0.here hx rfl (hb hby own_d6_3) rfl ?_
    show Steps p.tables e below (s₁.setTop (mkF m 4 #[.val (.ref o0), .val (.int p1)] [(.int p1), (.int (List.getD L ((0 : Int32)).toInt.toNat 0))])) _
    refine XS.iconst X0.here hx rfl (hb hby own_d6_4) ?_
    exact k
  obtain ⟨_, _, ⟨T2, L2, k2, n2⟩, -, X2, ⟨Lc2, hQ2, l2, y2, z2⟩, st2⟩ := Jvm.LawKit.callS X0 hx (y := (⟨"com/example/evotempo/evotempo/problem/OneMaxFitnessPinLaw", "bit", "(II)Z"⟩ : MethodName)) hown (mvT hZ (hw _ (List.mem_of_getElem? (i := 1) rfl))) (mvT hZ (hw _ (List.mem_of_getElem? (i := 2) rfl))) (mvT hZ (hw _ (List.mem_of_getElem? (i := 3) rfl))) (mvT hZ (hw _ (List.mem_of_getElem? (i := 4) rfl))) (by decide) (backOf (W := 1) (own_rm1 l Z a0 hw [] p1 (0 : Int32) h0) hZ (hw _ (List.mem_of_getElem? (i := 4) rfl)) (hw _ (List.mem_of_getElem? (i := 3) rfl)) (by decide) (by decide)) (g := (mkF m 5 #[.val (.ref o0), .val (.int p1)] [(.int (0 : Int32)), (.int p1), (.int (List.getD L ((0 : Int32)).toInt.toNat 0))])) rfl (by rw [hml]; rfl) (argsL := [(.int p1), (.int (0 : Int32))]) (rest := [(.int (List.getD L ((0 : Int32)).toInt.toNat 0))]) (lenOf own_pd0 rfl) rfl (by show 2 * 0 + _ ≤ _; exact Nat.le_of_eq rfl) (hb hby own_d6_5) (fun _ _ => ⟨rfl, e0, (by decide : 0 + 0 ≤ _), (by decide : 0 + 0 ≤ _)⟩)
  dsimp only [Pt.U, Pt.locs, Pt.cells, Pt.slots] at X2 l2 y2 z2 st2 hQ2
  subst y2 z2
  obtain ⟨rfl, rfl, e2⟩ := hQ2
  have X2' : Stand p l e own_R6 s m #[(.ref o0), (.int p1)] below meth c T2 [] 0 0 := by rw [show L2 = [] from by rw [l2]; first | rfl | exact List.append_nil _] at X2; exact X2
  obtain ⟨v3, hv3⟩ : ∃ z : Int32, z = (own_F1 p1 (0 : Int32)) := ⟨_, rfl⟩
  rw [← hv3] at st2
  refine own_End.go (fun t k => st1 _ (st2 _ k)) ?_
  by_cases hc8_4 : (List.getD L ((0 : Int32)).toInt.toNat 0) = v3
  · have st5 : ∀ t, Steps p.tables e below (T2.setTop (mkF m 16 #[.val (.ref o0), .val (.int p1)] [(.int (1 : Int32)), (.int p1), (.int (List.getD L ((1 : Int32)).toInt.toNat 0))])) t → Steps p.tables e below (T2.setTop (mkF m 8 #[.val (.ref o0), .val (.int p1)] [(.int v3), (.int (List.getD L ((0 : Int32)).toInt.toNat 0))])) t := by
      intro t k
      show Steps p.tables e below (T2.setTop (mkF m 8 #[.val (.ref o0), .val (.int p1)] [(.int v3), (.int (List.getD L ((0 : Int32)).toInt.toNat 0))])) _
      refine XS.icmpNo X2'.here hx rfl (hb hby own_d6_8) rfl (teq hc8_4).2 ?_
      show Steps p.tables e below (T2.setTop (mkF m 11 #[.val (.ref o0), .val (.int p1)] [])) _
      refine XS.aloadN X2'.here hx rfl (hb hby own_d6_11) rfl rfl ?_
      show Steps p.tables e below (T2.setTop (mkF m 12 #[.val (.ref o0), .val (.int p1)] [(.ref o0)])) _
      refine XS.iconst X2'.here hx rfl (hb hby own_d6_12) ?_
      show Steps p.tables e below (T2.setTop (mkF m 13 #[.val (.ref o0), .val (.int p1)] [(.int (1 : Int32)), (.ref o0)])) _
      refine own_baloadZ X2' hx hZ e2 V_o0 (j := (1 : Int32)) (own_in (m := 9) hL (by decide)) (g := (mkF m 13 #[.val (.ref o0), .val (.int p1)] [(.int (1 : Int32)), (.ref o0)])) rfl rfl (hb hby own_d6_13) _ ?_
      show Steps p.tables e below (T2.setTop (mkF m 14 #[.val (.ref o0), .val (.int p1)] [(.int (List.getD L ((1 : Int32)).toInt.toNat 0))])) _
      refine XS.iloadN X2'.here hx rfl (hb hby own_d6_14) rfl ?_
      show Steps p.tables e below (T2.setTop (mkF m 15 #[.val (.ref o0), .val (.int p1)] [(.int p1), (.int (List.getD L ((1 : Int32)).toInt.toNat 0))])) _
      refine XS.iconst X2'.here hx rfl (hb hby own_d6_15) ?_
      exact k
    obtain ⟨_, _, ⟨T6, L6, k6, n6⟩, -, X6, ⟨Lc6, hQ6, l6, y6, z6⟩, st6⟩ := Jvm.LawKit.callS X2' hx (y := (⟨"com/example/evotempo/evotempo/problem/OneMaxFitnessPinLaw", "bit", "(II)Z"⟩ : MethodName)) hown (mvT hZ (hw _ (List.mem_of_getElem? (i := 1) rfl))) (mvT hZ (hw _ (List.mem_of_getElem? (i := 2) rfl))) (mvT hZ (hw _ (List.mem_of_getElem? (i := 3) rfl))) (mvT hZ (hw _ (List.mem_of_getElem? (i := 4) rfl))) (by decide) (backOf (W := 1) (own_rm1 l Z a0 hw [] p1 (1 : Int32) h0) hZ (hw _ (List.mem_of_getElem? (i := 4) rfl)) (hw _ (List.mem_of_getElem? (i := 3) rfl)) (by decide) (by decide)) (g := (mkF m 16 #[.val (.ref o0), .val (.int p1)] [(.int (1 : Int32)), (.int p1), (.int (List.getD L ((1 : Int32)).toInt.toNat 0))])) rfl (by rw [hml]; rfl) (argsL := [(.int p1), (.int (1 : Int32))]) (rest := [(.int (List.getD L ((1 : Int32)).toInt.toNat 0))]) (lenOf own_pd0 rfl) rfl (by show 2 * 0 + _ ≤ _; exact Nat.le_of_eq rfl) (hb hby own_d6_16) (fun _ _ => ⟨rfl, e2, (by decide : 0 + 0 ≤ _), (by decide : 0 + 0 ≤ _)⟩)
    dsimp only [Pt.U, Pt.locs, Pt.cells, Pt.slots] at X6 l6 y6 z6 st6 hQ6
    subst y6 z6
    obtain ⟨rfl, rfl, e6⟩ := hQ6
    have X6' : Stand p l e own_R6 s m #[(.ref o0), (.int p1)] below meth c T6 [] 0 0 := by rw [show L6 = [] from by rw [l6]; first | rfl | exact List.append_nil _] at X6; exact X6
    obtain ⟨v7, hv7⟩ : ∃ z : Int32, z = (own_F1 p1 (1 : Int32)) := ⟨_, rfl⟩
    rw [← hv7] at st6
    refine own_End.go (fun t k => st5 _ (st6 _ k)) ?_
    by_cases hc19_8 : (List.getD L ((1 : Int32)).toInt.toNat 0) = v7
    · have st9 : ∀ t, Steps p.tables e below (T6.setTop (mkF m 27 #[.val (.ref o0), .val (.int p1)] [(.int (2 : Int32)), (.int p1), (.int (List.getD L ((2 : Int32)).toInt.toNat 0))])) t → Steps p.tables e below (T6.setTop (mkF m 19 #[.val (.ref o0), .val (.int p1)] [(.int v7), (.int (List.getD L ((1 : Int32)).toInt.toNat 0))])) t := by
        intro t k
        show Steps p.tables e below (T6.setTop (mkF m 19 #[.val (.ref o0), .val (.int p1)] [(.int v7), (.int (List.getD L ((1 : Int32)).toInt.toNat 0))])) _
        refine XS.icmpNo X6'.here hx rfl (hb hby own_d6_19) rfl (teq hc19_8).2 ?_
        show Steps p.tables e below (T6.setTop (mkF m 22 #[.val (.ref o0), .val (.int p1)] [])) _
        refine XS.aloadN X6'.here hx rfl (hb hby own_d6_22) rfl rfl ?_
        show Steps p.tables e below (T6.setTop (mkF m 23 #[.val (.ref o0), .val (.int p1)] [(.ref o0)])) _
        refine XS.iconst X6'.here hx rfl (hb hby own_d6_23) ?_
        show Steps p.tables e below (T6.setTop (mkF m 24 #[.val (.ref o0), .val (.int p1)] [(.int (2 : Int32)), (.ref o0)])) _
        refine own_baloadZ X6' hx hZ e6 V_o0 (j := (2 : Int32)) (own_in (m := 9) hL (by decide)) (g := (mkF m 24 #[.val (.ref o0), .val (.int p1)] [(.int (2 : Int32)), (.ref o0)])) rfl rfl (hb hby own_d6_24) _ ?_
        show Steps p.tables e below (T6.setTop (mkF m 25 #[.val (.ref o0), .val (.int p1)] [(.int (List.getD L ((2 : Int32)).toInt.toNat 0))])) _
        refine XS.iloadN X6'.here hx rfl (hb hby own_d6_25) rfl ?_
        show Steps p.tables e below (T6.setTop (mkF m 26 #[.val (.ref o0), .val (.int p1)] [(.int p1), (.int (List.getD L ((2 : Int32)).toInt.toNat 0))])) _
        refine XS.iconst X6'.here hx rfl (hb hby own_d6_26) ?_
        exact k
      obtain ⟨_, _, ⟨T10, L10, k10, n10⟩, -, X10, ⟨Lc10, hQ10, l10, y10, z10⟩, st10⟩ := Jvm.LawKit.callS X6' hx (y := (⟨"com/example/evotempo/evotempo/problem/OneMaxFitnessPinLaw", "bit", "(II)Z"⟩ : MethodName)) hown (mvT hZ (hw _ (List.mem_of_getElem? (i := 1) rfl))) (mvT hZ (hw _ (List.mem_of_getElem? (i := 2) rfl))) (mvT hZ (hw _ (List.mem_of_getElem? (i := 3) rfl))) (mvT hZ (hw _ (List.mem_of_getElem? (i := 4) rfl))) (by decide) (backOf (W := 1) (own_rm1 l Z a0 hw [] p1 (2 : Int32) h0) hZ (hw _ (List.mem_of_getElem? (i := 4) rfl)) (hw _ (List.mem_of_getElem? (i := 3) rfl)) (by decide) (by decide)) (g := (mkF m 27 #[.val (.ref o0), .val (.int p1)] [(.int (2 : Int32)), (.int p1), (.int (List.getD L ((2 : Int32)).toInt.toNat 0))])) rfl (by rw [hml]; rfl) (argsL := [(.int p1), (.int (2 : Int32))]) (rest := [(.int (List.getD L ((2 : Int32)).toInt.toNat 0))]) (lenOf own_pd0 rfl) rfl (by show 2 * 0 + _ ≤ _; exact Nat.le_of_eq rfl) (hb hby own_d6_27) (fun _ _ => ⟨rfl, e6, (by decide : 0 + 0 ≤ _), (by decide : 0 + 0 ≤ _)⟩)
      dsimp only [Pt.U, Pt.locs, Pt.cells, Pt.slots] at X10 l10 y10 z10 st10 hQ10
      subst y10 z10
      obtain ⟨rfl, rfl, e10⟩ := hQ10
      have X10' : Stand p l e own_R6 s m #[(.ref o0), (.int p1)] below meth c T10 [] 0 0 := by rw [show L10 = [] from by rw [l10]; first | rfl | exact List.append_nil _] at X10; exact X10
      obtain ⟨v11, hv11⟩ : ∃ z : Int32, z = (own_F1 p1 (2 : Int32)) := ⟨_, rfl⟩
      rw [← hv11] at st10
      refine own_End.go (fun t k => st9 _ (st10 _ k)) ?_
      by_cases hc30_12 : (List.getD L ((2 : Int32)).toInt.toNat 0) = v11
      · have st13 : ∀ t, Steps p.tables e below (T10.setTop (mkF m 38 #[.val (.ref o0), .val (.int p1)] [(.int (3 : Int32)), (.int p1), (.int (List.getD L ((3 : Int32)).toInt.toNat 0))])) t → Steps p.tables e below (T10.setTop (mkF m 30 #[.val (.ref o0), .val (.int p1)] [(.int v11), (.int (List.getD L ((2 : Int32)).toInt.toNat 0))])) t := by
          intro t k
          show Steps p.tables e below (T10.setTop (mkF m 30 #[.val (.ref o0), .val (.int p1)] [(.int v11), (.int (List.getD L ((2 : Int32)).toInt.toNat 0))])) _
          refine XS.icmpNo X10'.here hx rfl (hb hby own_d6_30) rfl (teq hc30_12).2 ?_
          show Steps p.tables e below (T10.setTop (mkF m 33 #[.val (.ref o0), .val (.int p1)] [])) _
          refine XS.aloadN X10'.here hx rfl (hb hby own_d6_33) rfl rfl ?_
          show Steps p.tables e below (T10.setTop (mkF m 34 #[.val (.ref o0), .val (.int p1)] [(.ref o0)])) _
          refine XS.iconst X10'.here hx rfl (hb hby own_d6_34) ?_
          show Steps p.tables e below (T10.setTop (mkF m 35 #[.val (.ref o0), .val (.int p1)] [(.int (3 : Int32)), (.ref o0)])) _
          refine own_baloadZ X10' hx hZ e10 V_o0 (j := (3 : Int32)) (own_in (m := 9) hL (by decide)) (g := (mkF m 35 #[.val (.ref o0), .val (.int p1)] [(.int (3 : Int32)), (.ref o0)])) rfl rfl (hb hby own_d6_35) _ ?_
          show Steps p.tables e below (T10.setTop (mkF m 36 #[.val (.ref o0), .val (.int p1)] [(.int (List.getD L ((3 : Int32)).toInt.toNat 0))])) _
          refine XS.iloadN X10'.here hx rfl (hb hby own_d6_36) rfl ?_
          show Steps p.tables e below (T10.setTop (mkF m 37 #[.val (.ref o0), .val (.int p1)] [(.int p1), (.int (List.getD L ((3 : Int32)).toInt.toNat 0))])) _
          refine XS.iconst X10'.here hx rfl (hb hby own_d6_37) ?_
          exact k
        obtain ⟨_, _, ⟨T14, L14, k14, n14⟩, -, X14, ⟨Lc14, hQ14, l14, y14, z14⟩, st14⟩ := Jvm.LawKit.callS X10' hx (y := (⟨"com/example/evotempo/evotempo/problem/OneMaxFitnessPinLaw", "bit", "(II)Z"⟩ : MethodName)) hown (mvT hZ (hw _ (List.mem_of_getElem? (i := 1) rfl))) (mvT hZ (hw _ (List.mem_of_getElem? (i := 2) rfl))) (mvT hZ (hw _ (List.mem_of_getElem? (i := 3) rfl))) (mvT hZ (hw _ (List.mem_of_getElem? (i := 4) rfl))) (by decide) (backOf (W := 1) (own_rm1 l Z a0 hw [] p1 (3 : Int32) h0) hZ (hw _ (List.mem_of_getElem? (i := 4) rfl)) (hw _ (List.mem_of_getElem? (i := 3) rfl)) (by decide) (by decide)) (g := (mkF m 38 #[.val (.ref o0), .val (.int p1)] [(.int (3 : Int32)), (.int p1), (.int (List.getD L ((3 : Int32)).toInt.toNat 0))])) rfl (by rw [hml]; rfl) (argsL := [(.int p1), (.int (3 : Int32))]) (rest := [(.int (List.getD L ((3 : Int32)).toInt.toNat 0))]) (lenOf own_pd0 rfl) rfl (by show 2 * 0 + _ ≤ _; exact Nat.le_of_eq rfl) (hb hby own_d6_38) (fun _ _ => ⟨rfl, e10, (by decide : 0 + 0 ≤ _), (by decide : 0 + 0 ≤ _)⟩)
        dsimp only [Pt.U, Pt.locs, Pt.cells, Pt.slots] at X14 l14 y14 z14 st14 hQ14
        subst y14 z14
        obtain ⟨rfl, rfl, e14⟩ := hQ14
        have X14' : Stand p l e own_R6 s m #[(.ref o0), (.int p1)] below meth c T14 [] 0 0 := by rw [show L14 = [] from by rw [l14]; first | rfl | exact List.append_nil _] at X14; exact X14
        obtain ⟨v15, hv15⟩ : ∃ z : Int32, z = (own_F1 p1 (3 : Int32)) := ⟨_, rfl⟩
        rw [← hv15] at st14
        refine own_End.go (fun t k => st13 _ (st14 _ k)) ?_
        by_cases hc41_16 : (List.getD L ((3 : Int32)).toInt.toNat 0) = v15
        · have st17 : ∀ t, Steps p.tables e below (T14.setTop (mkF m 49 #[.val (.ref o0), .val (.int p1)] [(.int (4 : Int32)), (.int p1), (.int (List.getD L ((4 : Int32)).toInt.toNat 0))])) t → Steps p.tables e below (T14.setTop (mkF m 41 #[.val (.ref o0), .val (.int p1)] [(.int v15), (.int (List.getD L ((3 : Int32)).toInt.toNat 0))])) t := by
            intro t k
            show Steps p.tables e below (T14.setTop (mkF m 41 #[.val (.ref o0), .val (.int p1)] [(.int v15), (.int (List.getD L ((3 : Int32)).toInt.toNat 0))])) _
            refine XS.icmpNo X14'.here hx rfl (hb hby own_d6_41) rfl (teq hc41_16).2 ?_
            show Steps p.tables e below (T14.setTop (mkF m 44 #[.val (.ref o0), .val (.int p1)] [])) _
            refine XS.aloadN X14'.here hx rfl (hb hby own_d6_44) rfl rfl ?_
            show Steps p.tables e below (T14.setTop (mkF m 45 #[.val (.ref o0), .val (.int p1)] [(.ref o0)])) _
            refine XS.iconst X14'.here hx rfl (hb hby own_d6_45) ?_
            show Steps p.tables e below (T14.setTop (mkF m 46 #[.val (.ref o0), .val (.int p1)] [(.int (4 : Int32)), (.ref o0)])) _
            refine own_baloadZ X14' hx hZ e14 V_o0 (j := (4 : Int32)) (own_in (m := 9) hL (by decide)) (g := (mkF m 46 #[.val (.ref o0), .val (.int p1)] [(.int (4 : Int32)), (.ref o0)])) rfl rfl (hb hby own_d6_46) _ ?_
            show Steps p.tables e below (T14.setTop (mkF m 47 #[.val (.ref o0), .val (.int p1)] [(.int (List.getD L ((4 : Int32)).toInt.toNat 0))])) _
            refine XS.iloadN X14'.here hx rfl (hb hby own_d6_47) rfl ?_
            show Steps p.tables e below (T14.setTop (mkF m 48 #[.val (.ref o0), .val (.int p1)] [(.int p1), (.int (List.getD L ((4 : Int32)).toInt.toNat 0))])) _
            refine XS.iconst X14'.here hx rfl (hb hby own_d6_48) ?_
            exact k
          obtain ⟨_, _, ⟨T18, L18, k18, n18⟩, -, X18, ⟨Lc18, hQ18, l18, y18, z18⟩, st18⟩ := Jvm.LawKit.callS X14' hx (y := (⟨"com/example/evotempo/evotempo/problem/OneMaxFitnessPinLaw", "bit", "(II)Z"⟩ : MethodName)) hown (mvT hZ (hw _ (List.mem_of_getElem? (i := 1) rfl))) (mvT hZ (hw _ (List.mem_of_getElem? (i := 2) rfl))) (mvT hZ (hw _ (List.mem_of_getElem? (i := 3) rfl))) (mvT hZ (hw _ (List.mem_of_getElem? (i := 4) rfl))) (by decide) (backOf (W := 1) (own_rm1 l Z a0 hw [] p1 (4 : Int32) h0) hZ (hw _ (List.mem_of_getElem? (i := 4) rfl)) (hw _ (List.mem_of_getElem? (i := 3) rfl)) (by decide) (by decide)) (g := (mkF m 49 #[.val (.ref o0), .val (.int p1)] [(.int (4 : Int32)), (.int p1), (.int (List.getD L ((4 : Int32)).toInt.toNat 0))])) rfl (by rw [hml]; rfl) (argsL := [(.int p1), (.int (4 : Int32))]) (rest := [(.int (List.getD L ((4 : Int32)).toInt.toNat 0))]) (lenOf own_pd0 rfl) rfl (by show 2 * 0 + _ ≤ _; exact Nat.le_of_eq rfl) (hb hby own_d6_49) (fun _ _ => ⟨rfl, e14, (by decide : 0 + 0 ≤ _), (by decide : 0 + 0 ≤ _)⟩)
          dsimp only [Pt.U, Pt.locs, Pt.cells, Pt.slots] at X18 l18 y18 z18 st18 hQ18
          subst y18 z18
          obtain ⟨rfl, rfl, e18⟩ := hQ18
          have X18' : Stand p l e own_R6 s m #[(.ref o0), (.int p1)] below meth c T18 [] 0 0 := by rw [show L18 = [] from by rw [l18]; first | rfl | exact List.append_nil _] at X18; exact X18
          obtain ⟨v19, hv19⟩ : ∃ z : Int32, z = (own_F1 p1 (4 : Int32)) := ⟨_, rfl⟩
          rw [← hv19] at st18
          refine own_End.go (fun t k => st17 _ (st18 _ k)) ?_
          by_cases hc52_20 : (List.getD L ((4 : Int32)).toInt.toNat 0) = v19
          · have st21 : ∀ t, Steps p.tables e below (T18.setTop (mkF m 60 #[.val (.ref o0), .val (.int p1)] [(.int (5 : Int32)), (.int p1), (.int (List.getD L ((5 : Int32)).toInt.toNat 0))])) t → Steps p.tables e below (T18.setTop (mkF m 52 #[.val (.ref o0), .val (.int p1)] [(.int v19), (.int (List.getD L ((4 : Int32)).toInt.toNat 0))])) t := by
              intro t k
              show Steps p.tables e below (T18.setTop (mkF m 52 #[.val (.ref o0), .val (.int p1)] [(.int v19), (.int (List.getD L ((4 : Int32)).toInt.toNat 0))])) _
              refine XS.icmpNo X18'.here hx rfl (hb hby own_d6_52) rfl (teq hc52_20).2 ?_
              show Steps p.tables e below (T18.setTop (mkF m 55 #[.val (.ref o0), .val (.int p1)] [])) _
              refine XS.aloadN X18'.here hx rfl (hb hby own_d6_55) rfl rfl ?_
              show Steps p.tables e below (T18.setTop (mkF m 56 #[.val (.ref o0), .val (.int p1)] [(.ref o0)])) _
              refine XS.iconst X18'.here hx rfl (hb hby own_d6_56) ?_
              show Steps p.tables e below (T18.setTop (mkF m 57 #[.val (.ref o0), .val (.int p1)] [(.int (5 : Int32)), (.ref o0)])) _
              refine own_baloadZ X18' hx hZ e18 V_o0 (j := (5 : Int32)) (own_in (m := 9) hL (by decide)) (g := (mkF m 57 #[.val (.ref o0), .val (.int p1)] [(.int (5 : Int32)), (.ref o0)])) rfl rfl (hb hby own_d6_57) _ ?_
              show Steps p.tables e below (T18.setTop (mkF m 58 #[.val (.ref o0), .val (.int p1)] [(.int (List.getD L ((5 : Int32)).toInt.toNat 0))])) _
              refine XS.iloadN X18'.here hx rfl (hb hby own_d6_58) rfl ?_
              show Steps p.tables e below (T18.setTop (mkF m 59 #[.val (.ref o0), .val (.int p1)] [(.int p1), (.int (List.getD L ((5 : Int32)).toInt.toNat 0))])) _
              refine XS.iconst X18'.here hx rfl (hb hby own_d6_59) ?_
              exact k
            obtain ⟨_, _, ⟨T22, L22, k22, n22⟩, -, X22, ⟨Lc22, hQ22, l22, y22, z22⟩, st22⟩ := Jvm.LawKit.callS X18' hx (y := (⟨"com/example/evotempo/evotempo/problem/OneMaxFitnessPinLaw", "bit", "(II)Z"⟩ : MethodName)) hown (mvT hZ (hw _ (List.mem_of_getElem? (i := 1) rfl))) (mvT hZ (hw _ (List.mem_of_getElem? (i := 2) rfl))) (mvT hZ (hw _ (List.mem_of_getElem? (i := 3) rfl))) (mvT hZ (hw _ (List.mem_of_getElem? (i := 4) rfl))) (by decide) (backOf (W := 1) (own_rm1 l Z a0 hw [] p1 (5 : Int32) h0) hZ (hw _ (List.mem_of_getElem? (i := 4) rfl)) (hw _ (List.mem_of_getElem? (i := 3) rfl)) (by decide) (by decide)) (g := (mkF m 60 #[.val (.ref o0), .val (.int p1)] [(.int (5 : Int32)), (.int p1), (.int (List.getD L ((5 : Int32)).toInt.toNat 0))])) rfl (by rw [hml]; rfl) (argsL := [(.int p1), (.int (5 : Int32))]) (rest := [(.int (List.getD L ((5 : Int32)).toInt.toNat 0))]) (lenOf own_pd0 rfl) rfl (by show 2 * 0 + _ ≤ _; exact Nat.le_of_eq rfl) (hb hby own_d6_60) (fun _ _ => ⟨rfl, e18, (by decide : 0 + 0 ≤ _), (by decide : 0 + 0 ≤ _)⟩)
            dsimp only [Pt.U, Pt.locs, Pt.cells, Pt.slots] at X22 l22 y22 z22 st22 hQ22
            subst y22 z22
            obtain ⟨rfl, rfl, e22⟩ := hQ22
            have X22' : Stand p l e own_R6 s m #[(.ref o0), (.int p1)] below meth c T22 [] 0 0 := by rw [show L22 = [] from by rw [l22]; first | rfl | exact List.append_nil _] at X22; exact X22
            obtain ⟨v23, hv23⟩ : ∃ z : Int32, z = (own_F1 p1 (5 : Int32)) := ⟨_, rfl⟩
            rw [← hv23] at st22
            refine own_End.go (fun t k => st21 _ (st22 _ k)) ?_
            by_cases hc63_24 : (List.getD L ((5 : Int32)).toInt.toNat 0) = v23
            · have st25 : ∀ t, Steps p.tables e below (T22.setTop (mkF m 73 #[.val (.ref o0), .val (.int p1)] [(.int (6 : Int32)), (.int p1), (.int (List.getD L ((6 : Int32)).toInt.toNat 0))])) t → Steps p.tables e below (T22.setTop (mkF m 63 #[.val (.ref o0), .val (.int p1)] [(.int v23), (.int (List.getD L ((5 : Int32)).toInt.toNat 0))])) t := by
                intro t k
                show Steps p.tables e below (T22.setTop (mkF m 63 #[.val (.ref o0), .val (.int p1)] [(.int v23), (.int (List.getD L ((5 : Int32)).toInt.toNat 0))])) _
                refine XS.icmpNo X22'.here hx rfl (hb hby own_d6_63) rfl (teq hc63_24).2 ?_
                show Steps p.tables e below (T22.setTop (mkF m 66 #[.val (.ref o0), .val (.int p1)] [])) _
                refine XS.aloadN X22'.here hx rfl (hb hby own_d6_66) rfl rfl ?_
                show Steps p.tables e below (T22.setTop (mkF m 67 #[.val (.ref o0), .val (.int p1)] [(.ref o0)])) _
                refine XS.bipush X22'.here hx rfl (hb hby own_d6_67) ?_
                show Steps p.tables e below (T22.setTop (mkF m 69 #[.val (.ref o0), .val (.int p1)] [(.int (6 : Int32)), (.ref o0)])) _
                refine own_baloadZ X22' hx hZ e22 V_o0 (j := (6 : Int32)) (own_in (m := 9) hL (by decide)) (g := (mkF m 69 #[.val (.ref o0), .val (.int p1)] [(.int (6 : Int32)), (.ref o0)])) rfl rfl (hb hby own_d6_69) _ ?_
                show Steps p.tables e below (T22.setTop (mkF m 70 #[.val (.ref o0), .val (.int p1)] [(.int (List.getD L ((6 : Int32)).toInt.toNat 0))])) _
                refine XS.iloadN X22'.here hx rfl (hb hby own_d6_70) rfl ?_
                show Steps p.tables e below (T22.setTop (mkF m 71 #[.val (.ref o0), .val (.int p1)] [(.int p1), (.int (List.getD L ((6 : Int32)).toInt.toNat 0))])) _
                refine XS.bipush X22'.here hx rfl (hb hby own_d6_71) ?_
                exact k
              obtain ⟨_, _, ⟨T26, L26, k26, n26⟩, -, X26, ⟨Lc26, hQ26, l26, y26, z26⟩, st26⟩ := Jvm.LawKit.callS X22' hx (y := (⟨"com/example/evotempo/evotempo/problem/OneMaxFitnessPinLaw", "bit", "(II)Z"⟩ : MethodName)) hown (mvT hZ (hw _ (List.mem_of_getElem? (i := 1) rfl))) (mvT hZ (hw _ (List.mem_of_getElem? (i := 2) rfl))) (mvT hZ (hw _ (List.mem_of_getElem? (i := 3) rfl))) (mvT hZ (hw _ (List.mem_of_getElem? (i := 4) rfl))) (by decide) (backOf (W := 1) (own_rm1 l Z a0 hw [] p1 (6 : Int32) h0) hZ (hw _ (List.mem_of_getElem? (i := 4) rfl)) (hw _ (List.mem_of_getElem? (i := 3) rfl)) (by decide) (by decide)) (g := (mkF m 73 #[.val (.ref o0), .val (.int p1)] [(.int (6 : Int32)), (.int p1), (.int (List.getD L ((6 : Int32)).toInt.toNat 0))])) rfl (by rw [hml]; rfl) (argsL := [(.int p1), (.int (6 : Int32))]) (rest := [(.int (List.getD L ((6 : Int32)).toInt.toNat 0))]) (lenOf own_pd0 rfl) rfl (by show 2 * 0 + _ ≤ _; exact Nat.le_of_eq rfl) (hb hby own_d6_73) (fun _ _ => ⟨rfl, e22, (by decide : 0 + 0 ≤ _), (by decide : 0 + 0 ≤ _)⟩)
              dsimp only [Pt.U, Pt.locs, Pt.cells, Pt.slots] at X26 l26 y26 z26 st26 hQ26
              subst y26 z26
              obtain ⟨rfl, rfl, e26⟩ := hQ26
              have X26' : Stand p l e own_R6 s m #[(.ref o0), (.int p1)] below meth c T26 [] 0 0 := by rw [show L26 = [] from by rw [l26]; first | rfl | exact List.append_nil _] at X26; exact X26
              obtain ⟨v27, hv27⟩ : ∃ z : Int32, z = (own_F1 p1 (6 : Int32)) := ⟨_, rfl⟩
              rw [← hv27] at st26
              refine own_End.go (fun t k => st25 _ (st26 _ k)) ?_
              by_cases hc76_28 : (List.getD L ((6 : Int32)).toInt.toNat 0) = v27
              · have st29 : ∀ t, Steps p.tables e below (T26.setTop (mkF m 86 #[.val (.ref o0), .val (.int p1)] [(.int (7 : Int32)), (.int p1), (.int (List.getD L ((7 : Int32)).toInt.toNat 0))])) t → Steps p.tables e below (T26.setTop (mkF m 76 #[.val (.ref o0), .val (.int p1)] [(.int v27), (.int (List.getD L ((6 : Int32)).toInt.toNat 0))])) t := by
                  intro t k
                  show Steps p.tables e below (T26.setTop (mkF m 76 #[.val (.ref o0), .val (.int p1)] [(.int v27), (.int (List.getD L ((6 : Int32)).toInt.toNat 0))])) _
                  refine XS.icmpNo X26'.here hx rfl (hb hby own_d6_76) rfl (teq hc76_28).2 ?_
                  show Steps p.tables e below (T26.setTop (mkF m 79 #[.val (.ref o0), .val (.int p1)] [])) _
                  refine XS.aloadN X26'.here hx rfl (hb hby own_d6_79) rfl rfl ?_
                  show Steps p.tables e below (T26.setTop (mkF m 80 #[.val (.ref o0), .val (.int p1)] [(.ref o0)])) _
                  refine XS.bipush X26'.here hx rfl (hb hby own_d6_80) ?_
                  show Steps p.tables e below (T26.setTop (mkF m 82 #[.val (.ref o0), .val (.int p1)] [(.int (7 : Int32)), (.ref o0)])) _
                  refine own_baloadZ X26' hx hZ e26 V_o0 (j := (7 : Int32)) (own_in (m := 9) hL (by decide)) (g := (mkF m 82 #[.val (.ref o0), .val (.int p1)] [(.int (7 : Int32)), (.ref o0)])) rfl rfl (hb hby own_d6_82) _ ?_
                  show Steps p.tables e below (T26.setTop (mkF m 83 #[.val (.ref o0), .val (.int p1)] [(.int (List.getD L ((7 : Int32)).toInt.toNat 0))])) _
                  refine XS.iloadN X26'.here hx rfl (hb hby own_d6_83) rfl ?_
                  show Steps p.tables e below (T26.setTop (mkF m 84 #[.val (.ref o0), .val (.int p1)] [(.int p1), (.int (List.getD L ((7 : Int32)).toInt.toNat 0))])) _
                  refine XS.bipush X26'.here hx rfl (hb hby own_d6_84) ?_
                  exact k
                obtain ⟨_, _, ⟨T30, L30, k30, n30⟩, -, X30, ⟨Lc30, hQ30, l30, y30, z30⟩, st30⟩ := Jvm.LawKit.callS X26' hx (y := (⟨"com/example/evotempo/evotempo/problem/OneMaxFitnessPinLaw", "bit", "(II)Z"⟩ : MethodName)) hown (mvT hZ (hw _ (List.mem_of_getElem? (i := 1) rfl))) (mvT hZ (hw _ (List.mem_of_getElem? (i := 2) rfl))) (mvT hZ (hw _ (List.mem_of_getElem? (i := 3) rfl))) (mvT hZ (hw _ (List.mem_of_getElem? (i := 4) rfl))) (by decide) (backOf (W := 1) (own_rm1 l Z a0 hw [] p1 (7 : Int32) h0) hZ (hw _ (List.mem_of_getElem? (i := 4) rfl)) (hw _ (List.mem_of_getElem? (i := 3) rfl)) (by decide) (by decide)) (g := (mkF m 86 #[.val (.ref o0), .val (.int p1)] [(.int (7 : Int32)), (.int p1), (.int (List.getD L ((7 : Int32)).toInt.toNat 0))])) rfl (by rw [hml]; rfl) (argsL := [(.int p1), (.int (7 : Int32))]) (rest := [(.int (List.getD L ((7 : Int32)).toInt.toNat 0))]) (lenOf own_pd0 rfl) rfl (by show 2 * 0 + _ ≤ _; exact Nat.le_of_eq rfl) (hb hby own_d6_86) (fun _ _ => ⟨rfl, e26, (by decide : 0 + 0 ≤ _), (by decide : 0 + 0 ≤ _)⟩)
                dsimp only [Pt.U, Pt.locs, Pt.cells, Pt.slots] at X30 l30 y30 z30 st30 hQ30
                subst y30 z30
                obtain ⟨rfl, rfl, e30⟩ := hQ30
                have X30' : Stand p l e own_R6 s m #[(.ref o0), (.int p1)] below meth c T30 [] 0 0 := by rw [show L30 = [] from by rw [l30]; first | rfl | exact List.append_nil _] at X30; exact X30
                obtain ⟨v31, hv31⟩ : ∃ z : Int32, z = (own_F1 p1 (7 : Int32)) := ⟨_, rfl⟩
                rw [← hv31] at st30
                refine own_End.go (fun t k => st29 _ (st30 _ k)) ?_
                by_cases hc89_32 : (List.getD L ((7 : Int32)).toInt.toNat 0) = v31
                · have st33 : ∀ t, Steps p.tables e below (T30.setTop (mkF m 99 #[.val (.ref o0), .val (.int p1)] [(.int (8 : Int32)), (.int p1), (.int (List.getD L ((8 : Int32)).toInt.toNat 0))])) t → Steps p.tables e below (T30.setTop (mkF m 89 #[.val (.ref o0), .val (.int p1)] [(.int v31), (.int (List.getD L ((7 : Int32)).toInt.toNat 0))])) t := by
                    intro t k
                    show Steps p.tables e below (T30.setTop (mkF m 89 #[.val (.ref o0), .val (.int p1)] [(.int v31), (.int (List.getD L ((7 : Int32)).toInt.toNat 0))])) _
                    refine XS.icmpNo X30'.here hx rfl (hb hby own_d6_89) rfl (teq hc89_32).2 ?_
                    show Steps p.tables e below (T30.setTop (mkF m 92 #[.val (.ref o0), .val (.int p1)] [])) _
                    refine XS.aloadN X30'.here hx rfl (hb hby own_d6_92) rfl rfl ?_
                    show Steps p.tables e below (T30.setTop (mkF m 93 #[.val (.ref o0), .val (.int p1)] [(.ref o0)])) _
                    refine XS.bipush X30'.here hx rfl (hb hby own_d6_93) ?_
                    show Steps p.tables e below (T30.setTop (mkF m 95 #[.val (.ref o0), .val (.int p1)] [(.int (8 : Int32)), (.ref o0)])) _
                    refine own_baloadZ X30' hx hZ e30 V_o0 (j := (8 : Int32)) (own_in (m := 9) hL (by decide)) (g := (mkF m 95 #[.val (.ref o0), .val (.int p1)] [(.int (8 : Int32)), (.ref o0)])) rfl rfl (hb hby own_d6_95) _ ?_
                    show Steps p.tables e below (T30.setTop (mkF m 96 #[.val (.ref o0), .val (.int p1)] [(.int (List.getD L ((8 : Int32)).toInt.toNat 0))])) _
                    refine XS.iloadN X30'.here hx rfl (hb hby own_d6_96) rfl ?_
                    show Steps p.tables e below (T30.setTop (mkF m 97 #[.val (.ref o0), .val (.int p1)] [(.int p1), (.int (List.getD L ((8 : Int32)).toInt.toNat 0))])) _
                    refine XS.bipush X30'.here hx rfl (hb hby own_d6_97) ?_
                    exact k
                  obtain ⟨_, _, ⟨T34, L34, k34, n34⟩, -, X34, ⟨Lc34, hQ34, l34, y34, z34⟩, st34⟩ := Jvm.LawKit.callS X30' hx (y := (⟨"com/example/evotempo/evotempo/problem/OneMaxFitnessPinLaw", "bit", "(II)Z"⟩ : MethodName)) hown (mvT hZ (hw _ (List.mem_of_getElem? (i := 1) rfl))) (mvT hZ (hw _ (List.mem_of_getElem? (i := 2) rfl))) (mvT hZ (hw _ (List.mem_of_getElem? (i := 3) rfl))) (mvT hZ (hw _ (List.mem_of_getElem? (i := 4) rfl))) (by decide) (backOf (W := 1) (own_rm1 l Z a0 hw [] p1 (8 : Int32) h0) hZ (hw _ (List.mem_of_getElem? (i := 4) rfl)) (hw _ (List.mem_of_getElem? (i := 3) rfl)) (by decide) (by decide)) (g := (mkF m 99 #[.val (.ref o0), .val (.int p1)] [(.int (8 : Int32)), (.int p1), (.int (List.getD L ((8 : Int32)).toInt.toNat 0))])) rfl (by rw [hml]; rfl) (argsL := [(.int p1), (.int (8 : Int32))]) (rest := [(.int (List.getD L ((8 : Int32)).toInt.toNat 0))]) (lenOf own_pd0 rfl) rfl (by show 2 * 0 + _ ≤ _; exact Nat.le_of_eq rfl) (hb hby own_d6_99) (fun _ _ => ⟨rfl, e30, (by decide : 0 + 0 ≤ _), (by decide : 0 + 0 ≤ _)⟩)
                  dsimp only [Pt.U, Pt.locs, Pt.cells, Pt.slots] at X34 l34 y34 z34 st34 hQ34
                  subst y34 z34
                  obtain ⟨rfl, rfl, e34⟩ := hQ34
                  have X34' : Stand p l e own_R6 s m #[(.ref o0), (.int p1)] below meth c T34 [] 0 0 := by rw [show L34 = [] from by rw [l34]; first | rfl | exact List.append_nil _] at X34; exact X34
                  obtain ⟨v35, hv35⟩ : ∃ z : Int32, z = (own_F1 p1 (8 : Int32)) := ⟨_, rfl⟩
                  rw [← hv35] at st34
                  refine own_End.go (fun t k => st33 _ (st34 _ k)) ?_
                  by_cases hc102_36 : (List.getD L ((8 : Int32)).toInt.toNat 0) = v35
                  · have st37 : ∀ t, Steps p.tables e below (T34.setTop (mkF m 110 #[.val (.ref o0), .val (.int p1)] [(.int (1 : Int32))])) t → Steps p.tables e below (T34.setTop (mkF m 102 #[.val (.ref o0), .val (.int p1)] [(.int v35), (.int (List.getD L ((8 : Int32)).toInt.toNat 0))])) t := by
                      intro t k
                      show Steps p.tables e below (T34.setTop (mkF m 102 #[.val (.ref o0), .val (.int p1)] [(.int v35), (.int (List.getD L ((8 : Int32)).toInt.toNat 0))])) _
                      refine XS.icmpNo X34'.here hx rfl (hb hby own_d6_102) rfl (teq hc102_36).2 ?_
                      show Steps p.tables e below (T34.setTop (mkF m 105 #[.val (.ref o0), .val (.int p1)] [])) _
                      refine XS.iconst X34'.here hx rfl (hb hby own_d6_105) ?_
                      show Steps p.tables e below (T34.setTop (mkF m 106 #[.val (.ref o0), .val (.int p1)] [(.int (1 : Int32))])) _
                      refine XS.goto X34'.here hx rfl (pc0 := 106) (pc' := 110) rfl (hb hby own_d6_106) (by decide) (by decide) ?_
                      exact k
                    refine own_End.go (fun t k => st37 _ k) ?_
                    exact own_leafN X34' hx Bd.notSynchronized (t := .boolean) Bd.returns (by simp) (hb hby own_d6_110) ⟨congrArg (fun z => some (Value.int z)) (own_e6_38 hv3 hv7 hv11 hv15 hv19 hv23 hv27 hv31 hv35 hc8_4 hc19_8 hc30_12 hc41_16 hc52_20 hc63_24 hc76_28 hc89_32 hc102_36), rfl, e34⟩ (by decide) (by decide)
                  · have st39 : ∀ t, Steps p.tables e below (T34.setTop (mkF m 110 #[.val (.ref o0), .val (.int p1)] [(.int (0 : Int32))])) t → Steps p.tables e below (T34.setTop (mkF m 102 #[.val (.ref o0), .val (.int p1)] [(.int v35), (.int (List.getD L ((8 : Int32)).toInt.toNat 0))])) t := by
                      intro t k
                      show Steps p.tables e below (T34.setTop (mkF m 102 #[.val (.ref o0), .val (.int p1)] [(.int v35), (.int (List.getD L ((8 : Int32)).toInt.toNat 0))])) _
                      refine XS.icmpYes X34'.here hx rfl (pc0 := 102) (pc' := 109) rfl (hb hby own_d6_102) rfl (feq hc102_36).2 (by decide) (by decide) ?_
                      show Steps p.tables e below (T34.setTop (mkF m 109 #[.val (.ref o0), .val (.int p1)] [])) _
                      refine XS.iconst X34'.here hx rfl (hb hby own_d6_109) ?_
                      exact k
                    refine own_End.go (fun t k => st39 _ k) ?_
                    exact own_leafN X34' hx Bd.notSynchronized (t := .boolean) Bd.returns (by simp) (hb hby own_d6_110) ⟨congrArg (fun z => some (Value.int z)) (own_e6_40 hv3 hv7 hv11 hv15 hv19 hv23 hv27 hv31 hv35 hc8_4 hc19_8 hc30_12 hc41_16 hc52_20 hc63_24 hc76_28 hc89_32 hc102_36), rfl, e34⟩ (by decide) (by decide)
                · have st41 : ∀ t, Steps p.tables e below (T30.setTop (mkF m 110 #[.val (.ref o0), .val (.int p1)] [(.int (0 : Int32))])) t → Steps p.tables e below (T30.setTop (mkF m 89 #[.val (.ref o0), .val (.int p1)] [(.int v31), (.int (List.getD L ((7 : Int32)).toInt.toNat 0))])) t := by
                    intro t k
                    show Steps p.tables e below (T30.setTop (mkF m 89 #[.val (.ref o0), .val (.int p1)] [(.int v31), (.int (List.getD L ((7 : Int32)).toInt.toNat 0))])) _
                    refine XS.icmpYes X30'.here hx rfl (pc0 := 89) (pc' := 109) rfl (hb hby own_d6_89) rfl (feq hc89_32).2 (by decide) (by decide) ?_
                    show Steps p.tables e below (T30.setTop (mkF m 109 #[.val (.ref o0), .val (.int p1)] [])) _
                    refine XS.iconst X30'.here hx rfl (hb hby own_d6_109) ?_
                    exact k
                  refine own_End.go (fun t k => st41 _ k) ?_
                  exact own_leafN X30' hx Bd.notSynchronized (t := .boolean) Bd.returns (by simp) (hb hby own_d6_110) ⟨congrArg (fun z => some (Value.int z)) (own_e6_42 hv3 hv7 hv11 hv15 hv19 hv23 hv27 hv31 hc8_4 hc19_8 hc30_12 hc41_16 hc52_20 hc63_24 hc76_28 hc89_32), rfl, e30⟩ (by decide) (by decide)
              · have st43 : ∀ t, Steps p.tables e below (T26.setTop (mkF m 110 #[.val (.ref o0), .val (.int p1)] [(.int (0 : Int32))])) t → Steps p.tables e below (T26.setTop (mkF m 76 #[.val (.ref o0), .val (.int p1)] [(.int v27), (.int (List.getD L ((6 : Int32)).toInt.toNat 0))])) t := by
                  intro t k
                  show Steps p.tables e below (T26.setTop (mkF m 76 #[.val (.ref o0), .val (.int p1)] [(.int v27), (.int (List.getD L ((6 : Int32)).toInt.toNat 0))])) _
                  refine XS.icmpYes X26'.here hx rfl (pc0 := 76) (pc' := 109) rfl (hb hby own_d6_76) rfl (feq hc76_28).2 (by decide) (by decide) ?_
                  show Steps p.tables e below (T26.setTop (mkF m 109 #[.val (.ref o0), .val (.int p1)] [])) _
                  refine XS.iconst X26'.here hx rfl (hb hby own_d6_109) ?_
                  exact k
                refine own_End.go (fun t k => st43 _ k) ?_
                exact own_leafN X26' hx Bd.notSynchronized (t := .boolean) Bd.returns (by simp) (hb hby own_d6_110) ⟨congrArg (fun z => some (Value.int z)) (own_e6_44 hv3 hv7 hv11 hv15 hv19 hv23 hv27 hc8_4 hc19_8 hc30_12 hc41_16 hc52_20 hc63_24 hc76_28), rfl, e26⟩ (by decide) (by decide)
            · have st45 : ∀ t, Steps p.tables e below (T22.setTop (mkF m 110 #[.val (.ref o0), .val (.int p1)] [(.int (0 : Int32))])) t → Steps p.tables e below (T22.setTop (mkF m 63 #[.val (.ref o0), .val (.int p1)] [(.int v23), (.int (List.getD L ((5 : Int32)).toInt.toNat 0))])) t := by
                intro t k
                show Steps p.tables e below (T22.setTop (mkF m 63 #[.val (.ref o0), .val (.int p1)] [(.int v23), (.int (List.getD L ((5 : Int32)).toInt.toNat 0))])) _
                refine XS.icmpYes X22'.here hx rfl (pc0 := 63) (pc' := 109) rfl (hb hby own_d6_63) rfl (feq hc63_24).2 (by decide) (by decide) ?_
                show Steps p.tables e below (T22.setTop (mkF m 109 #[.val (.ref o0), .val (.int p1)] [])) _
                refine XS.iconst X22'.here hx rfl (hb hby own_d6_109) ?_
                exact k
              refine own_End.go (fun t k => st45 _ k) ?_
              exact own_leafN X22' hx Bd.notSynchronized (t := .boolean) Bd.returns (by simp) (hb hby own_d6_110) ⟨congrArg (fun z => some (Value.int z)) (own_e6_46 hv3 hv7 hv11 hv15 hv19 hv23 hc8_4 hc19_8 hc30_12 hc41_16 hc52_20 hc63_24), rfl, e22⟩ (by decide) (by decide)
          · have st47 : ∀ t, Steps p.tables e below (T18.setTop (mkF m 110 #[.val (.ref o0), .val (.int p1)] [(.int (0 : Int32))])) t → Steps p.tables e below (T18.setTop (mkF m 52 #[.val (.ref o0), .val (.int p1)] [(.int v19), (.int (List.getD L ((4 : Int32)).toInt.toNat 0))])) t := by
              intro t k
              show Steps p.tables e below (T18.setTop (mkF m 52 #[.val (.ref o0), .val (.int p1)] [(.int v19), (.int (List.getD L ((4 : Int32)).toInt.toNat 0))])) _
              refine XS.icmpYes X18'.here hx rfl (pc0 := 52) (pc' := 109) rfl (hb hby own_d6_52) rfl (feq hc52_20).2 (by decide) (by decide) ?_
              show Steps p.tables e below (T18.setTop (mkF m 109 #[.val (.ref o0), .val (.int p1)] [])) _
              refine XS.iconst X18'.here hx rfl (hb hby own_d6_109) ?_
              exact k
            refine own_End.go (fun t k => st47 _ k) ?_
            exact own_leafN X18' hx Bd.notSynchronized (t := .boolean) Bd.returns (by simp) (hb hby own_d6_110) ⟨congrArg (fun z => some (Value.int z)) (own_e6_48 hv3 hv7 hv11 hv15 hv19 hc8_4 hc19_8 hc30_12 hc41_16 hc52_20), rfl, e18⟩ (by decide) (by decide)
        · have st49 : ∀ t, Steps p.tables e below (T14.setTop (mkF m 110 #[.val (.ref o0), .val (.int p1)] [(.int (0 : Int32))])) t → Steps p.tables e below (T14.setTop (mkF m 41 #[.val (.ref o0), .val (.int p1)] [(.int v15), (.int (List.getD L ((3 : Int32)).toInt.toNat 0))])) t := by
            intro t k
            show Steps p.tables e below (T14.setTop (mkF m 41 #[.val (.ref o0), .val (.int p1)] [(.int v15), (.int (List.getD L ((3 : Int32)).toInt.toNat 0))])) _
            refine XS.icmpYes X14'.here hx rfl (pc0 := 41) (pc' := 109) rfl (hb hby own_d6_41) rfl (feq hc41_16).2 (by decide) (by decide) ?_
            show Steps p.tables e below (T14.setTop (mkF m 109 #[.val (.ref o0), .val (.int p1)] [])) _
            refine XS.iconst X14'.here hx rfl (hb hby own_d6_109) ?_
            exact k
          refine own_End.go (fun t k => st49 _ k) ?_
          exact own_leafN X14' hx Bd.notSynchronized (t := .boolean) Bd.returns (by simp) (hb hby own_d6_110) ⟨congrArg (fun z => some (Value.int z)) (own_e6_50 hv3 hv7 hv11 hv15 hc8_4 hc19_8 hc30_12 hc41_16), rfl, e14⟩ (by decide) (by decide)
      · have st51 : ∀ t, Steps p.tables e below (T10.setTop (mkF m 110 #[.val (.ref o0), .val (.int p1)] [(.int (0 : Int32))])) t → Steps p.tables e below (T10.setTop (mkF m 30 #[.val (.ref o0), .val (.int p1)] [(.int v11), (.int (List.getD L ((2 : Int32)).toInt.toNat 0))])) t := by
          intro t k
          show Steps p.tables e below (T10.setTop (mkF m 30 #[.val (.ref o0), .val (.int p1)] [(.int v11), (.int (List.getD L ((2 : Int32)).toInt.toNat 0))])) _
          refine XS.icmpYes X10'.here hx rfl (pc0 := 30) (pc' := 109) rfl (hb hby own_d6_30) rfl (feq hc30_12).2 (by decide) (by decide) ?_
          show Steps p.tables e below (T10.setTop (mkF m 109 #[.val (.ref o0), .val (.int p1)] [])) _
          refine XS.iconst X10'.here hx rfl (hb hby own_d6_109) ?_
          exact k
        refine own_End.go (fun t k => st51 _ k) ?_
        exact own_leafN X10' hx Bd.notSynchronized (t := .boolean) Bd.returns (by simp) (hb hby own_d6_110) ⟨congrArg (fun z => some (Value.int z)) (own_e6_52 hv3 hv7 hv11 hc8_4 hc19_8 hc30_12), rfl, e10⟩ (by decide) (by decide)
    · have st53 : ∀ t, Steps p.tables e below (T6.setTop (mkF m 110 #[.val (.ref o0), .val (.int p1)] [(.int (0 : Int32))])) t → Steps p.tables e below (T6.setTop (mkF m 19 #[.val (.ref o0), .val (.int p1)] [(.int v7), (.int (List.getD L ((1 : Int32)).toInt.toNat 0))])) t := by
        intro t k
        show Steps p.tables e below (T6.setTop (mkF m 19 #[.val (.ref o0), .val (.int p1)] [(.int v7), (.int (List.getD L ((1 : Int32)).toInt.toNat 0))])) _
        refine XS.icmpYes X6'.here hx rfl (pc0 := 19) (pc' := 109) rfl (hb hby own_d6_19) rfl (feq hc19_8).2 (by decide) (by decide) ?_
        show Steps p.tables e below (T6.setTop (mkF m 109 #[.val (.ref o0), .val (.int p1)] [])) _
        refine XS.iconst X6'.here hx rfl (hb hby own_d6_109) ?_
        exact k
      refine own_End.go (fun t k => st53 _ k) ?_
      exact own_leafN X6' hx Bd.notSynchronized (t := .boolean) Bd.returns (by simp) (hb hby own_d6_110) ⟨congrArg (fun z => some (Value.int z)) (own_e6_54 hv3 hv7 hc8_4 hc19_8), rfl, e6⟩ (by decide) (by decide)
  · have st55 : ∀ t, Steps p.tables e below (T2.setTop (mkF m 110 #[.val (.ref o0), .val (.int p1)] [(.int (0 : Int32))])) t → Steps p.tables e below (T2.setTop (mkF m 8 #[.val (.ref o0), .val (.int p1)] [(.int v3), (.int (List.getD L ((0 : Int32)).toInt.toNat 0))])) t := by
      intro t k
      show Steps p.tables e below (T2.setTop (mkF m 8 #[.val (.ref o0), .val (.int p1)] [(.int v3), (.int (List.getD L ((0 : Int32)).toInt.toNat 0))])) _
      refine XS.icmpYes X2'.here hx rfl (pc0 := 8) (pc' := 109) rfl (hb hby own_d6_8) rfl (feq hc8_4).2 (by decide) (by decide) ?_
      show Steps p.tables e below (T2.setTop (mkF m 109 #[.val (.ref o0), .val (.int p1)] [])) _
      refine XS.iconst X2'.here hx rfl (hb hby own_d6_109) ?_
      exact k
    refine own_End.go (fun t k => st55 _ k) ?_
    exact own_leafN X2' hx Bd.notSynchronized (t := .boolean) Bd.returns (by simp) (hb hby own_d6_110) ⟨congrArg (fun z => some (Value.int z)) (own_e6_56 hv3 hc8_4), rfl, e2⟩ (by decide) (by decide)
theorem own_pn0 : plainName "com/example/evotempo/evotempo/problem/OneMaxFitnessPinLaw" = true := by first | (simp [plainName, overriddenIn]; done) | decide +kernel
theorem own_ef0 (m : MethodId) (p0 : Int32) (p1 : Int32) : entryFrame m #[(.int p0), (.int p1)] maxLocals = mkF m 0 #[.val (.int p0), .val (.int p1), .unset, .unset, .unset, .unset, .unset, .unset, .unset, .unset, .unset, .unset, .unset, .unset] [] := by first | (simp [entryFrame, mkF, argsToLocals, Value.category, maxLocals]; done) | rfl
def own_F0 (p0 : Int32) (p1 : Int32) : Int32 :=
  let v6 : Int32 := (own_F1 p0 (0 : Int32))
  let v11 : Int32 := (own_F1 p0 (1 : Int32))
  let v16 : Int32 := (own_F1 p0 (2 : Int32))
  let v21 : Int32 := (own_F1 p0 (3 : Int32))
  let v26 : Int32 := (own_F1 p0 (4 : Int32))
  let v31 : Int32 := (own_F1 p0 (5 : Int32))
  let v36 : Int32 := (own_F1 p0 (6 : Int32))
  let v41 : Int32 := (own_F1 p0 (7 : Int32))
  let v46 : Int32 := (own_F1 p0 (8 : Int32))
  let v57 : Int32 := (if (p1 &&& (1 : Int32)) = (0 : Int32) then (0 : Int32) else (1 : Int32))
  let v64 : Int64 := (own_F2 p0 (0 : Int32))
  let v67 : Int64 := (own_F2 p0 (1 : Int32))
  let v70 : Int64 := (own_F2 p0 (2 : Int32))
  let v73 : Int64 := (own_F2 p0 (3 : Int32))
  let v76 : Int64 := (own_F2 p0 (4 : Int32))
  let v79 : Int64 := (own_F2 p0 (5 : Int32))
  let v82 : Int64 := (own_F2 p0 (6 : Int32))
  let v85 : Int64 := (own_F2 p0 (7 : Int32))
  let v88 : Int64 := (own_F2 p0 (8 : Int32))
  let v89 : Int64 := ((((((((v64 + v67) + v70) + v73) + v76) + v79) + v82) + v85) + v88)
  let v91 : Int64 := ((p1 &&& (1 : Int32)).toInt64)
  let v118 : Int64 := (own_F5 ([(nar .boolean v6), (nar .boolean v11), (nar .boolean v16), (nar .boolean v21), (nar .boolean v26), (nar .boolean v31), (nar .boolean v36), (nar .boolean v41), (nar .boolean v46)] : List Int32))
  let v121 : Int64 := (own_F5 ([(nar .boolean v57)] : List Int32))
  if v118 = v89 then
    if v121 = v91 then
      let v128 : Int32 := (own_F6 p0 ([(nar .boolean v6), (nar .boolean v11), (nar .boolean v16), (nar .boolean v21), (nar .boolean v26), (nar .boolean v31), (nar .boolean v36), (nar .boolean v41), (nar .boolean v46)] : List Int32))
      if v128 = (0 : Int32) then
        (0 : Int32)
      else
        let v136 : Int32 := (if (p1 &&& (1 : Int32)) = (0 : Int32) then (0 : Int32) else (1 : Int32))
        let v137 : Int32 := (nar .boolean v57)
        if v137 = v136 then
          (1 : Int32)
        else
          (0 : Int32)
    else
      (0 : Int32)
  else
    (0 : Int32)
def own_Q0 (Z : State) (p0 : Int32) (p1 : Int32) (h0 : Heap) (n0 : Nat) (vz : Option Value) (h : Heap) (Lz : List Loc) : Prop := vz = some (.int (own_F0 p0 p1)) ∧ Fr n0 Lz
theorem own_e0_131 {p0 : Int32} {p1 : Int32} {v6 : Int32} {v11 : Int32} {v16 : Int32} {v21 : Int32} {v26 : Int32} {v31 : Int32} {v36 : Int32} {v41 : Int32} {v46 : Int32} {v57 : Int32} {v64 : Int64} {v67 : Int64} {v70 : Int64} {v73 : Int64} {v76 : Int64} {v79 : Int64} {v82 : Int64} {v85 : Int64} {v88 : Int64} {v89 : Int64} {v91 : Int64} {v118 : Int64} {v121 : Int64} {v128 : Int32} (hv6 : v6 = (own_F1 p0 (0 : Int32))) (hv11 : v11 = (own_F1 p0 (1 : Int32))) (hv16 : v16 = (own_F1 p0 (2 : Int32))) (hv21 : v21 = (own_F1 p0 (3 : Int32))) (hv26 : v26 = (own_F1 p0 (4 : Int32))) (hv31 : v31 = (own_F1 p0 (5 : Int32))) (hv36 : v36 = (own_F1 p0 (6 : Int32))) (hv41 : v41 = (own_F1 p0 (7 : Int32))) (hv46 : v46 = (own_F1 p0 (8 : Int32))) (hv57 : v57 = (if (p1 &&& (1 : Int32)) = (0 : Int32) then (0 : Int32) else (1 : Int32))) (hv64 : v64 = (own_F2 p0 (0 : Int32))) (hv67 : v67 = (own_F2 p0 (1 : Int32))) (hv70 : v70 = (own_F2 p0 (2 : Int32))) (hv73 : v73 = (own_F2 p0 (3 : Int32))) (hv76 : v76 = (own_F2 p0 (4 : Int32))) (hv79 : v79 = (own_F2 p0 (5 : Int32))) (hv82 : v82 = (own_F2 p0 (6 : Int32))) (hv85 : v85 = (own_F2 p0 (7 : Int32))) (hv88 : v88 = (own_F2 p0 (8 : Int32))) (hv89 : v89 = ((((((((v64 + v67) + v70) + v73) + v76) + v79) + v82) + v85) + v88)) (hv91 : v91 = ((p1 &&& (1 : Int32)).toInt64)) (hv118 : v118 = (own_F5 ([(nar .boolean v6), (nar .boolean v11), (nar .boolean v16), (nar .boolean v21), (nar .boolean v26), (nar .boolean v31), (nar .boolean v36), (nar .boolean v41), (nar .boolean v46)] : List Int32))) (hv121 : v121 = (own_F5 ([(nar .boolean v57)] : List Int32))) (hv128 : v128 = (own_F6 p0 ([(nar .boolean v6), (nar .boolean v11), (nar .boolean v16), (nar .boolean v21), (nar .boolean v26), (nar .boolean v31), (nar .boolean v36), (nar .boolean v41), (nar .boolean v46)] : List Int32))) (hc207_123 : v118 = v89) (hc215_125 : v121 = v91) (hc223_129 : v128 = (0 : Int32)) : (nar .boolean (0 : Int32)) = (own_F0 p0 p1) := by
  rw [own_nb0]
  subst hv6 hv11 hv16 hv21 hv26 hv31 hv36 hv41 hv46 hv57 hv64 hv67 hv70 hv73 hv76 hv79 hv82 hv85 hv88 hv89 hv91 hv118 hv121 hv128
  first
    | (simp only [own_F0, if_pos hc207_123, if_pos hc215_125, if_pos hc223_129]; done)
    | (exfalso; contradiction)
theorem own_e0_141 {p0 : Int32} {p1 : Int32} {v6 : Int32} {v11 : Int32} {v16 : Int32} {v21 : Int32} {v26 : Int32} {v31 : Int32} {v36 : Int32} {v41 : Int32} {v46 : Int32} {v57 : Int32} {v64 : Int64} {v67 : Int64} {v70 : Int64} {v73 : Int64} {v76 : Int64} {v79 : Int64} {v82 : Int64} {v85 : Int64} {v88 : Int64} {v89 : Int64} {v91 : Int64} {v118 : Int64} {v121 : Int64} {v128 : Int32} {v136 : Int32} {v137 : Int32} (hv6 : v6 = (own_F1 p0 (0 : Int32))) (hv11 : v11 = (own_F1 p0 (1 : Int32))) (hv16 : v16 = (own_F1 p0 (2 : Int32))) (hv21 : v21 = (own_F1 p0 (3 : Int32))) (hv26 : v26 = (own_F1 p0 (4 : Int32))) (hv31 : v31 = (own_F1 p0 (5 : Int32))) (hv36 : v36 = (own_F1 p0 (6 : Int32))) (hv41 : v41 = (own_F1 p0 (7 : Int32))) (hv46 : v46 = (own_F1 p0 (8 : Int32))) (hv57 : v57 = (if (p1 &&& (1 : Int32)) = (0 : Int32) then (0 : Int32) else (1 : Int32))) (hv64 : v64 = (own_F2 p0 (0 : Int32))) (hv67 : v67 = (own_F2 p0 (1 : Int32))) (hv70 : v70 = (own_F2 p0 (2 : Int32))) (hv73 : v73 = (own_F2 p0 (3 : Int32))) (hv76 : v76 = (own_F2 p0 (4 : Int32))) (hv79 : v79 = (own_F2 p0 (5 : Int32))) (hv82 : v82 = (own_F2 p0 (6 : Int32))) (hv85 : v85 = (own_F2 p0 (7 : Int32))) (hv88 : v88 = (own_F2 p0 (8 : Int32))) (hv89 : v89 = ((((((((v64 + v67) + v70) + v73) + v76) + v79) + v82) + v85) + v88)) (hv91 : v91 = ((p1 &&& (1 : Int32)).toInt64)) (hv118 : v118 = (own_F5 ([(nar .boolean v6), (nar .boolean v11), (nar .boolean v16), (nar .boolean v21), (nar .boolean v26), (nar .boolean v31), (nar .boolean v36), (nar .boolean v41), (nar .boolean v46)] : List Int32))) (hv121 : v121 = (own_F5 ([(nar .boolean v57)] : List Int32))) (hv128 : v128 = (own_F6 p0 ([(nar .boolean v6), (nar .boolean v11), (nar .boolean v16), (nar .boolean v21), (nar .boolean v26), (nar .boolean v31), (nar .boolean v36), (nar .boolean v41), (nar .boolean v46)] : List Int32))) (hv136 : v136 = (if (p1 &&& (1 : Int32)) = (0 : Int32) then (0 : Int32) else (1 : Int32))) (hv137 : v137 = (nar .boolean v57)) (hc207_123 : v118 = v89) (hc215_125 : v121 = v91) (hc223_129 : ¬ (v128 = (0 : Int32))) (hc240_139 : v137 = v136) : (nar .boolean (1 : Int32)) = (own_F0 p0 p1) := by
  rw [own_nb1]
  subst hv6 hv11 hv16 hv21 hv26 hv31 hv36 hv41 hv46 hv57 hv64 hv67 hv70 hv73 hv76 hv79 hv82 hv85 hv88 hv89 hv91 hv118 hv121 hv128 hv136 hv137
  first
    | (simp only [own_F0, if_pos hc207_123, if_pos hc215_125, if_neg hc223_129, if_pos hc240_139]; done)
    | (exfalso; contradiction)
theorem own_e0_143 {p0 : Int32} {p1 : Int32} {v6 : Int32} {v11 : Int32} {v16 : Int32} {v21 : Int32} {v26 : Int32} {v31 : Int32} {v36 : Int32} {v41 : Int32} {v46 : Int32} {v57 : Int32} {v64 : Int64} {v67 : Int64} {v70 : Int64} {v73 : Int64} {v76 : Int64} {v79 : Int64} {v82 : Int64} {v85 : Int64} {v88 : Int64} {v89 : Int64} {v91 : Int64} {v118 : Int64} {v121 : Int64} {v128 : Int32} {v136 : Int32} {v137 : Int32} (hv6 : v6 = (own_F1 p0 (0 : Int32))) (hv11 : v11 = (own_F1 p0 (1 : Int32))) (hv16 : v16 = (own_F1 p0 (2 : Int32))) (hv21 : v21 = (own_F1 p0 (3 : Int32))) (hv26 : v26 = (own_F1 p0 (4 : Int32))) (hv31 : v31 = (own_F1 p0 (5 : Int32))) (hv36 : v36 = (own_F1 p0 (6 : Int32))) (hv41 : v41 = (own_F1 p0 (7 : Int32))) (hv46 : v46 = (own_F1 p0 (8 : Int32))) (hv57 : v57 = (if (p1 &&& (1 : Int32)) = (0 : Int32) then (0 : Int32) else (1 : Int32))) (hv64 : v64 = (own_F2 p0 (0 : Int32))) (hv67 : v67 = (own_F2 p0 (1 : Int32))) (hv70 : v70 = (own_F2 p0 (2 : Int32))) (hv73 : v73 = (own_F2 p0 (3 : Int32))) (hv76 : v76 = (own_F2 p0 (4 : Int32))) (hv79 : v79 = (own_F2 p0 (5 : Int32))) (hv82 : v82 = (own_F2 p0 (6 : Int32))) (hv85 : v85 = (own_F2 p0 (7 : Int32))) (hv88 : v88 = (own_F2 p0 (8 : Int32))) (hv89 : v89 = ((((((((v64 + v67) + v70) + v73) + v76) + v79) + v82) + v85) + v88)) (hv91 : v91 = ((p1 &&& (1 : Int32)).toInt64)) (hv118 : v118 = (own_F5 ([(nar .boolean v6), (nar .boolean v11), (nar .boolean v16), (nar .boolean v21), (nar .boolean v26), (nar .boolean v31), (nar .boolean v36), (nar .boolean v41), (nar .boolean v46)] : List Int32))) (hv121 : v121 = (own_F5 ([(nar .boolean v57)] : List Int32))) (hv128 : v128 = (own_F6 p0 ([(nar .boolean v6), (nar .boolean v11), (nar .boolean v16), (nar .boolean v21), (nar .boolean v26), (nar .boolean v31), (nar .boolean v36), (nar .boolean v41), (nar .boolean v46)] : List Int32))) (hv136 : v136 = (if (p1 &&& (1 : Int32)) = (0 : Int32) then (0 : Int32) else (1 : Int32))) (hv137 : v137 = (nar .boolean v57)) (hc207_123 : v118 = v89) (hc215_125 : v121 = v91) (hc223_129 : ¬ (v128 = (0 : Int32))) (hc240_139 : ¬ (v137 = v136)) : (nar .boolean (0 : Int32)) = (own_F0 p0 p1) := by
  rw [own_nb0]
  subst hv6 hv11 hv16 hv21 hv26 hv31 hv36 hv41 hv46 hv57 hv64 hv67 hv70 hv73 hv76 hv79 hv82 hv85 hv88 hv89 hv91 hv118 hv121 hv128 hv136 hv137
  first
    | (simp only [own_F0, if_pos hc207_123, if_pos hc215_125, if_neg hc223_129, if_neg hc240_139]; done)
    | (exfalso; contradiction)
theorem own_e0_145 {p0 : Int32} {p1 : Int32} {v6 : Int32} {v11 : Int32} {v16 : Int32} {v21 : Int32} {v26 : Int32} {v31 : Int32} {v36 : Int32} {v41 : Int32} {v46 : Int32} {v57 : Int32} {v64 : Int64} {v67 : Int64} {v70 : Int64} {v73 : Int64} {v76 : Int64} {v79 : Int64} {v82 : Int64} {v85 : Int64} {v88 : Int64} {v89 : Int64} {v91 : Int64} {v118 : Int64} {v121 : Int64} (hv6 : v6 = (own_F1 p0 (0 : Int32))) (hv11 : v11 = (own_F1 p0 (1 : Int32))) (hv16 : v16 = (own_F1 p0 (2 : Int32))) (hv21 : v21 = (own_F1 p0 (3 : Int32))) (hv26 : v26 = (own_F1 p0 (4 : Int32))) (hv31 : v31 = (own_F1 p0 (5 : Int32))) (hv36 : v36 = (own_F1 p0 (6 : Int32))) (hv41 : v41 = (own_F1 p0 (7 : Int32))) (hv46 : v46 = (own_F1 p0 (8 : Int32))) (hv57 : v57 = (if (p1 &&& (1 : Int32)) = (0 : Int32) then (0 : Int32) else (1 : Int32))) (hv64 : v64 = (own_F2 p0 (0 : Int32))) (hv67 : v67 = (own_F2 p0 (1 : Int32))) (hv70 : v70 = (own_F2 p0 (2 : Int32))) (hv73 : v73 = (own_F2 p0 (3 : Int32))) (hv76 : v76 = (own_F2 p0 (4 : Int32))) (hv79 : v79 = (own_F2 p0 (5 : Int32))) (hv82 : v82 = (own_F2 p0 (6 : Int32))) (hv85 : v85 = (own_F2 p0 (7 : Int32))) (hv88 : v88 = (own_F2 p0 (8 : Int32))) (hv89 : v89 = ((((((((v64 + v67) + v70) + v73) + v76) + v79) + v82) + v85) + v88)) (hv91 : v91 = ((p1 &&& (1 : Int32)).toInt64)) (hv118 : v118 = (own_F5 ([(nar .boolean v6), (nar .boolean v11), (nar .boolean v16), (nar .boolean v21), (nar .boolean v26), (nar .boolean v31), (nar .boolean v36), (nar .boolean v41), (nar .boolean v46)] : List Int32))) (hv121 : v121 = (own_F5 ([(nar .boolean v57)] : List Int32))) (hc207_123 : v118 = v89) (hc215_125 : ¬ (v121 = v91)) : (nar .boolean (0 : Int32)) = (own_F0 p0 p1) := by
  rw [own_nb0]
  subst hv6 hv11 hv16 hv21 hv26 hv31 hv36 hv41 hv46 hv57 hv64 hv67 hv70 hv73 hv76 hv79 hv82 hv85 hv88 hv89 hv91 hv118 hv121
  first
    | (simp only [own_F0, if_pos hc207_123, if_neg hc215_125]; done)
    | (exfalso; contradiction)
theorem own_e0_147 {p0 : Int32} {p1 : Int32} {v6 : Int32} {v11 : Int32} {v16 : Int32} {v21 : Int32} {v26 : Int32} {v31 : Int32} {v36 : Int32} {v41 : Int32} {v46 : Int32} {v57 : Int32} {v64 : Int64} {v67 : Int64} {v70 : Int64} {v73 : Int64} {v76 : Int64} {v79 : Int64} {v82 : Int64} {v85 : Int64} {v88 : Int64} {v89 : Int64} {v91 : Int64} {v118 : Int64} {v121 : Int64} (hv6 : v6 = (own_F1 p0 (0 : Int32))) (hv11 : v11 = (own_F1 p0 (1 : Int32))) (hv16 : v16 = (own_F1 p0 (2 : Int32))) (hv21 : v21 = (own_F1 p0 (3 : Int32))) (hv26 : v26 = (own_F1 p0 (4 : Int32))) (hv31 : v31 = (own_F1 p0 (5 : Int32))) (hv36 : v36 = (own_F1 p0 (6 : Int32))) (hv41 : v41 = (own_F1 p0 (7 : Int32))) (hv46 : v46 = (own_F1 p0 (8 : Int32))) (hv57 : v57 = (if (p1 &&& (1 : Int32)) = (0 : Int32) then (0 : Int32) else (1 : Int32))) (hv64 : v64 = (own_F2 p0 (0 : Int32))) (hv67 : v67 = (own_F2 p0 (1 : Int32))) (hv70 : v70 = (own_F2 p0 (2 : Int32))) (hv73 : v73 = (own_F2 p0 (3 : Int32))) (hv76 : v76 = (own_F2 p0 (4 : Int32))) (hv79 : v79 = (own_F2 p0 (5 : Int32))) (hv82 : v82 = (own_F2 p0 (6 : Int32))) (hv85 : v85 = (own_F2 p0 (7 : Int32))) (hv88 : v88 = (own_F2 p0 (8 : Int32))) (hv89 : v89 = ((((((((v64 + v67) + v70) + v73) + v76) + v79) + v82) + v85) + v88)) (hv91 : v91 = ((p1 &&& (1 : Int32)).toInt64)) (hv118 : v118 = (own_F5 ([(nar .boolean v6), (nar .boolean v11), (nar .boolean v16), (nar .boolean v21), (nar .boolean v26), (nar .boolean v31), (nar .boolean v36), (nar .boolean v41), (nar .boolean v46)] : List Int32))) (hv121 : v121 = (own_F5 ([(nar .boolean v57)] : List Int32))) (hc207_123 : ¬ (v118 = v89)) : (nar .boolean (0 : Int32)) = (own_F0 p0 p1) := by
  rw [own_nb0]
  subst hv6 hv11 hv16 hv21 hv26 hv31 hv36 hv41 hv46 hv57 hv64 hv67 hv70 hv73 hv76 hv79 hv82 hv85 hv88 hv89 hv91 hv118 hv121
  first
    | (simp only [own_F0, if_neg hc207_123]; done)
    | (exfalso; contradiction)
set_option maxRecDepth 65536 in
set_option maxHeartbeats 40000000 in
theorem own_rm0 (l : Launch) (Z : State) (a0 : Array Value) (hw : ∀ d ∈ tables_1, d.before a0 Z = true) (ws : List Jvm.Cond) (p0 : Int32) (p1 : Int32) (h0 : Heap) (n0 : Nat) (Z0 : n0 ≤ h0.size) :
    MetFree l x (head1 (Jvm.Cond.code x code maxLocals ret :: ws) room_1) (fun a U => a = #[(.int p0), (.int p1)] ∧ Z.Warmed39 U.vm ∧ U.heap = h0) (fun _ _ _ _ _ => True) (fun _ U o U' => ∃ vz Lz, o = .returned vz ∧ own_Q0 Z p0 p1 h0 n0 vz U'.heap Lz ∧ FrameEnd U o U' Lz room_1.cells room_1.slots) := by
  refine MetFree.of_bodySF (plainFor_of_name own_pn0) hisR ?_
  intro p e s m args below meth c s₁ Bd hml0 hP hK
  obtain ⟨rfl, hZ, hh⟩ := hP
  have hx := Bd.exec
  have hby := Bd.bytes
  have hml : c.maxLocals = 14 := hml0
  have hown : s.vm.findClass "com/example/evotempo/evotempo/problem/OneMaxFitnessPinLaw" = some m.cls := findClass_of_methodNamed Bd.named
  have hnm := (name_of_methodNamed Bd.named Bd.method).1
  have X0 : Stand p l e room_1 s m #[(.int p0), (.int p1)] below meth c s₁ [] 0 0 := Stand.of_body Bd
  have e0 : s₁.heap = h0 := by rw [← hh, Bd.state]; rfl
  show own_End p e below s (fun vz h Lz => vz = some (.int (own_F0 p0 p1)) ∧ Fr n0 Lz) room_1.cells room_1.slots s₁ (entryFrame m #[(.int p0), (.int p1)] maxLocals)
  refine own_End.go (fun t k => castTop (own_ef0 m p0 p1) k) ?_
  show own_End p e below s _ _ _ s₁ (mkF m 0 #[.val (.int p0), .val (.int p1), .unset, .unset, .unset, .unset, .unset, .unset, .unset, .unset, .unset, .unset, .unset, .unset] [])
  have N0 := Fr.nil n0
  have st1 : ∀ t, Steps p.tables e below (s₁.setTop (mkF m 2 #[.val (.int p0), .val (.int p1), .unset, .unset, .unset, .unset, .unset, .unset, .unset, .unset, .unset, .unset, .unset, .unset] [(.int (9 : Int32))])) t → Steps p.tables e below (s₁.setTop (mkF m 0 #[.val (.int p0), .val (.int p1), .unset, .unset, .unset, .unset, .unset, .unset, .unset, .unset, .unset, .unset, .unset, .unset] [])) t := by
    intro t k
    show Steps p.tables e below (s₁.setTop (mkF m 0 #[.val (.int p0), .val (.int p1), .unset, .unset, .unset, .unset, .unset, .unset, .unset, .unset, .unset, .unset, .unset, .unset] [])) _
    refine XS.bipush X0.here hx rfl (hb hby at_0) ?_
    exact k
  obtain ⟨T2, h2, b2, X2, e2, K2, q2, V2, st2⟩ := own_newA X0 hx hZ (ty := .boolean) rfl (hw _ (List.mem_of_getElem? (i := 0) rfl)) rfl e0 (g := (mkF m 2 #[.val (.int p0), .val (.int p1), .unset, .unset, .unset, .unset, .unset, .unset, .unset, .unset, .unset, .unset, .unset, .unset] [(.int (9 : Int32))])) rfl (hb hby at_2) rfl (9) (by decide) (cap := 9) (by decide) (by decide) (by decide) (by decide)
  have X2 : Stand p l e room_1 s m #[(.int p0), (.int p1)] below meth c T2 [] 1 9 := X2
  have V2 : own_IA Z h2 b2 .boolean ([(0 : Int32), (0 : Int32), (0 : Int32), (0 : Int32), (0 : Int32), (0 : Int32), (0 : Int32), (0 : Int32), (0 : Int32)] : List Int32) := V2
  have g_b2 : n0 ≤ b2 := Nat.le_trans Z0 q2
  have Zp3 : n0 ≤ h2.size := Nat.le_trans Z0 K2.1
  have st4 : ∀ t, Steps p.tables e below (T2.setTop (mkF m 9 #[.val (.int p0), .val (.int p1), .val (.ref b2), .unset, .unset, .unset, .unset, .unset, .unset, .unset, .unset, .unset, .unset, .unset] [(.int (0 : Int32)), (.int p0), (.int (0 : Int32)), (.ref b2)])) t → Steps p.tables e below (T2.setTop (mkF m 4 #[.val (.int p0), .val (.int p1), .unset, .unset, .unset, .unset, .unset, .unset, .unset, .unset, .unset, .unset, .unset, .unset] [(.ref b2)])) t := by
    intro t k
    show Steps p.tables e below (T2.setTop (mkF m 4 #[.val (.int p0), .val (.int p1), .unset, .unset, .unset, .unset, .unset, .unset, .unset, .unset, .unset, .unset, .unset, .unset] [(.ref b2)])) _
    refine XS.astoreN X2.here hx rfl (hb hby at_4) rfl rfl (l' := #[.val (.int p0), .val (.int p1), .val (.ref b2), .unset, .unset, .unset, .unset, .unset, .unset, .unset, .unset, .unset, .unset, .unset]) rfl ?_
    show Steps p.tables e below (T2.setTop (mkF m 5 #[.val (.int p0), .val (.int p1), .val (.ref b2), .unset, .unset, .unset, .unset, .unset, .unset, .unset, .unset, .unset, .unset, .unset] [])) _
    refine XS.aloadN X2.here hx rfl (hb hby at_5) rfl rfl ?_
    show Steps p.tables e below (T2.setTop (mkF m 6 #[.val (.int p0), .val (.int p1), .val (.ref b2), .unset, .unset, .unset, .unset, .unset, .unset, .unset, .unset, .unset, .unset, .unset] [(.ref b2)])) _
    refine XS.iconst X2.here hx rfl (hb hby at_6) ?_
    show Steps p.tables e below (T2.setTop (mkF m 7 #[.val (.int p0), .val (.int p1), .val (.ref b2), .unset, .unset, .unset, .unset, .unset, .unset, .unset, .unset, .unset, .unset, .unset] [(.int (0 : Int32)), (.ref b2)])) _
    refine XS.iloadN X2.here hx rfl (hb hby at_7) rfl ?_
    show Steps p.tables e below (T2.setTop (mkF m 8 #[.val (.int p0), .val (.int p1), .val (.ref b2), .unset, .unset, .unset, .unset, .unset, .unset, .unset, .unset, .unset, .unset, .unset] [(.int p0), (.int (0 : Int32)), (.ref b2)])) _
    refine XS.iconst X2.here hx rfl (hb hby at_8) ?_
    exact k
  obtain ⟨_, _, ⟨T5, L5, k5, n5⟩, -, X5, ⟨Lc5, hQ5, l5, y5, z5⟩, st5⟩ := Jvm.LawKit.callS X2 hx (y := (⟨"com/example/evotempo/evotempo/problem/OneMaxFitnessPinLaw", "bit", "(II)Z"⟩ : MethodName)) hown (mvT hZ (hw _ (List.mem_of_getElem? (i := 1) rfl))) (mvT hZ (hw _ (List.mem_of_getElem? (i := 2) rfl))) (mvT hZ (hw _ (List.mem_of_getElem? (i := 3) rfl))) (mvT hZ (hw _ (List.mem_of_getElem? (i := 4) rfl))) (by decide) (backOf (W := 2) (own_rm1 l Z a0 hw [] p0 (0 : Int32) h2) hZ (hw _ (List.mem_of_getElem? (i := 4) rfl)) (hw _ (List.mem_of_getElem? (i := 3) rfl)) (by decide) (by decide)) (g := (mkF m 9 #[.val (.int p0), .val (.int p1), .val (.ref b2), .unset, .unset, .unset, .unset, .unset, .unset, .unset, .unset, .unset, .unset, .unset] [(.int (0 : Int32)), (.int p0), (.int (0 : Int32)), (.ref b2)])) rfl (by rw [hml]; rfl) (argsL := [(.int p0), (.int (0 : Int32))]) (rest := [(.int (0 : Int32)), (.ref b2)]) (lenOf own_pd0 rfl) rfl (by show 2 * 0 + _ ≤ _; exact Nat.le_of_eq rfl) (hb hby at_9) (fun _ _ => ⟨rfl, e2, (by decide : 1 + 0 ≤ _), (by decide : 9 + 0 ≤ _)⟩)
  dsimp only [Pt.U, Pt.locs, Pt.cells, Pt.slots] at X5 l5 y5 z5 st5 hQ5
  subst y5 z5
  obtain ⟨rfl, rfl, e5⟩ := hQ5
  have X5' : Stand p l e room_1 s m #[(.int p0), (.int p1)] below meth c T5 [] 1 9 := by rw [show L5 = [] from by rw [l5]; first | rfl | exact List.append_nil _] at X5; exact X5
  obtain ⟨v6, hv6⟩ : ∃ z : Int32, z = (own_F1 p0 (0 : Int32)) := ⟨_, rfl⟩
  rw [← hv6] at st5
  obtain ⟨T7, h7, L7, X7, N7, e7, K7, V7, st7⟩ := own_bastoreZ X5' hx hZ N0 e5 V2 (j := (0 : Int32)) (own_in (m := 9) rfl (by decide)) g_b2 (g := (mkF m 12 #[.val (.int p0), .val (.int p1), .val (.ref b2), .unset, .unset, .unset, .unset, .unset, .unset, .unset, .unset, .unset, .unset, .unset] [(.int v6), (.int (0 : Int32)), (.ref b2)])) rfl rfl (hb hby at_12)
  have V7 : own_IA Z h7 b2 .boolean ([(nar .boolean v6), (0 : Int32), (0 : Int32), (0 : Int32), (0 : Int32), (0 : Int32), (0 : Int32), (0 : Int32), (0 : Int32)] : List Int32) := V7
  have Zp8 : n0 ≤ h7.size := Nat.le_trans Zp3 K7.1
  have st9 : ∀ t, Steps p.tables e below (T7.setTop (mkF m 17 #[.val (.int p0), .val (.int p1), .val (.ref b2), .unset, .unset, .unset, .unset, .unset, .unset, .unset, .unset, .unset, .unset, .unset] [(.int (1 : Int32)), (.int p0), (.int (1 : Int32)), (.ref b2)])) t → Steps p.tables e below (T7.setTop (mkF m 13 #[.val (.int p0), .val (.int p1), .val (.ref b2), .unset, .unset, .unset, .unset, .unset, .unset, .unset, .unset, .unset, .unset, .unset] [])) t := by
    intro t k
    show Steps p.tables e below (T7.setTop (mkF m 13 #[.val (.int p0), .val (.int p1), .val (.ref b2), .unset, .unset, .unset, .unset, .unset, .unset, .unset, .unset, .unset, .unset, .unset] [])) _
    refine XS.aloadN X7.here hx rfl (hb hby at_13) rfl rfl ?_
    show Steps p.tables e below (T7.setTop (mkF m 14 #[.val (.int p0), .val (.int p1), .val (.ref b2), .unset, .unset, .unset, .unset, .unset, .unset, .unset, .unset, .unset, .unset, .unset] [(.ref b2)])) _
    refine XS.iconst X7.here hx rfl (hb hby at_14) ?_
    show Steps p.tables e below (T7.setTop (mkF m 15 #[.val (.int p0), .val (.int p1), .val (.ref b2), .unset, .unset, .unset, .unset, .unset, .unset, .unset, .unset, .unset, .unset, .unset] [(.int (1 : Int32)), (.ref b2)])) _
    refine XS.iloadN X7.here hx rfl (hb hby at_15) rfl ?_
    show Steps p.tables e below (T7.setTop (mkF m 16 #[.val (.int p0), .val (.int p1), .val (.ref b2), .unset, .unset, .unset, .unset, .unset, .unset, .unset, .unset, .unset, .unset, .unset] [(.int p0), (.int (1 : Int32)), (.ref b2)])) _
    refine XS.iconst X7.here hx rfl (hb hby at_16) ?_
    exact k
  obtain ⟨_, _, ⟨T10, L10, k10, n10⟩, -, X10, ⟨Lc10, hQ10, l10, y10, z10⟩, st10⟩ := Jvm.LawKit.callS X7 hx (y := (⟨"com/example/evotempo/evotempo/problem/OneMaxFitnessPinLaw", "bit", "(II)Z"⟩ : MethodName)) hown (mvT hZ (hw _ (List.mem_of_getElem? (i := 1) rfl))) (mvT hZ (hw _ (List.mem_of_getElem? (i := 2) rfl))) (mvT hZ (hw _ (List.mem_of_getElem? (i := 3) rfl))) (mvT hZ (hw _ (List.mem_of_getElem? (i := 4) rfl))) (by decide) (backOf (W := 2) (own_rm1 l Z a0 hw [] p0 (1 : Int32) h7) hZ (hw _ (List.mem_of_getElem? (i := 4) rfl)) (hw _ (List.mem_of_getElem? (i := 3) rfl)) (by decide) (by decide)) (g := (mkF m 17 #[.val (.int p0), .val (.int p1), .val (.ref b2), .unset, .unset, .unset, .unset, .unset, .unset, .unset, .unset, .unset, .unset, .unset] [(.int (1 : Int32)), (.int p0), (.int (1 : Int32)), (.ref b2)])) rfl (by rw [hml]; rfl) (argsL := [(.int p0), (.int (1 : Int32))]) (rest := [(.int (1 : Int32)), (.ref b2)]) (lenOf own_pd0 rfl) rfl (by show 2 * 0 + _ ≤ _; exact Nat.le_of_eq rfl) (hb hby at_17) (fun _ _ => ⟨rfl, e7, (by decide : 1 + 0 ≤ _), (by decide : 9 + 0 ≤ _)⟩)
  dsimp only [Pt.U, Pt.locs, Pt.cells, Pt.slots] at X10 l10 y10 z10 st10 hQ10
  subst y10 z10
  obtain ⟨rfl, rfl, e10⟩ := hQ10
  have X10' : Stand p l e room_1 s m #[(.int p0), (.int p1)] below meth c T10 L7 1 9 := by rw [show L10 = L7 from by rw [l10]; first | rfl | exact List.append_nil _] at X10; exact X10
  obtain ⟨v11, hv11⟩ : ∃ z : Int32, z = (own_F1 p0 (1 : Int32)) := ⟨_, rfl⟩
  rw [← hv11] at st10
  obtain ⟨T12, h12, L12, X12, N12, e12, K12, V12, st12⟩ := own_bastoreZ X10' hx hZ N7 e10 V7 (j := (1 : Int32)) (own_in (m := 9) rfl (by decide)) g_b2 (g := (mkF m 20 #[.val (.int p0), .val (.int p1), .val (.ref b2), .unset, .unset, .unset, .unset, .unset, .unset, .unset, .unset, .unset, .unset, .unset] [(.int v11), (.int (1 : Int32)), (.ref b2)])) rfl rfl (hb hby at_20)
  have V12 : own_IA Z h12 b2 .boolean ([(nar .boolean v6), (nar .boolean v11), (0 : Int32), (0 : Int32), (0 : Int32), (0 : Int32), (0 : Int32), (0 : Int32), (0 : Int32)] : List Int32) := V12
  have Zp13 : n0 ≤ h12.size := Nat.le_trans Zp8 K12.1
  have st14 : ∀ t, Steps p.tables e below (T12.setTop (mkF m 25 #[.val (.int p0), .val (.int p1), .val (.ref b2), .unset, .unset, .unset, .unset, .unset, .unset, .unset, .unset, .unset, .unset, .unset] [(.int (2 : Int32)), (.int p0), (.int (2 : Int32)), (.ref b2)])) t → Steps p.tables e below (T12.setTop (mkF m 21 #[.val (.int p0), .val (.int p1), .val (.ref b2), .unset, .unset, .unset, .unset, .unset, .unset, .unset, .unset, .unset, .unset, .unset] [])) t := by
    intro t k
    show Steps p.tables e below (T12.setTop (mkF m 21 #[.val (.int p0), .val (.int p1), .val (.ref b2), .unset, .unset, .unset, .unset, .unset, .unset, .unset, .unset, .unset, .unset, .unset] [])) _
    refine XS.aloadN X12.here hx rfl (hb hby at_21) rfl rfl ?_
    show Steps p.tables e below (T12.setTop (mkF m 22 #[.val (.int p0), .val (.int p1), .val (.ref b2), .unset, .unset, .unset, .unset, .unset, .unset, .unset, .unset, .unset, .unset, .unset] [(.ref b2)])) _
    refine XS.iconst X12.here hx rfl (hb hby at_22) ?_
    show Steps p.tables e below (T12.setTop (mkF m 23 #[.val (.int p0), .val (.int p1), .val (.ref b2), .unset, .unset, .unset, .unset, .unset, .unset, .unset, .unset, .unset, .unset, .unset] [(.int (2 : Int32)), (.ref b2)])) _
    refine XS.iloadN X12.here hx rfl (hb hby at_23) rfl ?_
    show Steps p.tables e below (T12.setTop (mkF m 24 #[.val (.int p0), .val (.int p1), .val (.ref b2), .unset, .unset, .unset, .unset, .unset, .unset, .unset, .unset, .unset, .unset, .unset] [(.int p0), (.int (2 : Int32)), (.ref b2)])) _
    refine XS.iconst X12.here hx rfl (hb hby at_24) ?_
    exact k
  obtain ⟨_, _, ⟨T15, L15, k15, n15⟩, -, X15, ⟨Lc15, hQ15, l15, y15, z15⟩, st15⟩ := Jvm.LawKit.callS X12 hx (y := (⟨"com/example/evotempo/evotempo/problem/OneMaxFitnessPinLaw", "bit", "(II)Z"⟩ : MethodName)) hown (mvT hZ (hw _ (List.mem_of_getElem? (i := 1) rfl))) (mvT hZ (hw _ (List.mem_of_getElem? (i := 2) rfl))) (mvT hZ (hw _ (List.mem_of_getElem? (i := 3) rfl))) (mvT hZ (hw _ (List.mem_of_getElem? (i := 4) rfl))) (by decide) (backOf (W := 2) (own_rm1 l Z a0 hw [] p0 (2 : Int32) h12) hZ (hw _ (List.mem_of_getElem? (i := 4) rfl)) (hw _ (List.mem_of_getElem? (i := 3) rfl)) (by decide) (by decide)) (g := (mkF m 25 #[.val (.int p0), .val (.int p1), .val (.ref b2), .unset, .unset, .unset, .unset, .unset, .unset, .unset, .unset, .unset, .unset, .unset] [(.int (2 : Int32)), (.int p0), (.int (2 : Int32)), (.ref b2)])) rfl (by rw [hml]; rfl) (argsL := [(.int p0), (.int (2 : Int32))]) (rest := [(.int (2 : Int32)), (.ref b2)]) (lenOf own_pd0 rfl) rfl (by show 2 * 0 + _ ≤ _; exact Nat.le_of_eq rfl) (hb hby at_25) (fun _ _ => ⟨rfl, e12, (by decide : 1 + 0 ≤ _), (by decide : 9 + 0 ≤ _)⟩)
  dsimp only [Pt.U, Pt.locs, Pt.cells, Pt.slots] at X15 l15 y15 z15 st15 hQ15
  subst y15 z15
  obtain ⟨rfl, rfl, e15⟩ := hQ15
  have X15' : Stand p l e room_1 s m #[(.int p0), (.int p1)] below meth c T15 L12 1 9 := by rw [show L15 = L12 from by rw [l15]; first | rfl | exact List.append_nil _] at X15; exact X15
  obtain ⟨v16, hv16⟩ : ∃ z : Int32, z = (own_F1 p0 (2 : Int32)) := ⟨_, rfl⟩
  rw [← hv16] at st15
  obtain ⟨T17, h17, L17, X17, N17, e17, K17, V17, st17⟩ := own_bastoreZ X15' hx hZ N12 e15 V12 (j := (2 : Int32)) (own_in (m := 9) rfl (by decide)) g_b2 (g := (mkF m 28 #[.val (.int p0), .val (.int p1), .val (.ref b2), .unset, .unset, .unset, .unset, .unset, .unset, .unset, .unset, .unset, .unset, .unset] [(.int v16), (.int (2 : Int32)), (.ref b2)])) rfl rfl (hb hby at_28)
  have V17 : own_IA Z h17 b2 .boolean ([(nar .boolean v6), (nar .boolean v11), (nar .boolean v16), (0 : Int32), (0 : Int32), (0 : Int32), (0 : Int32), (0 : Int32), (0 : Int32)] : List Int32) := V17
  have Zp18 : n0 ≤ h17.size := Nat.le_trans Zp13 K17.1
  have st19 : ∀ t, Steps p.tables e below (T17.setTop (mkF m 33 #[.val (.int p0), .val (.int p1), .val (.ref b2), .unset, .unset, .unset, .unset, .unset, .unset, .unset, .unset, .unset, .unset, .unset] [(.int (3 : Int32)), (.int p0), (.int (3 : Int32)), (.ref b2)])) t → Steps p.tables e below (T17.setTop (mkF m 29 #[.val (.int p0), .val (.int p1), .val (.ref b2), .unset, .unset, .unset, .unset, .unset, .unset, .unset, .unset, .unset, .unset, .unset] [])) t := by
    intro t k
    show Steps p.tables e below (T17.setTop (mkF m 29 #[.val (.int p0), .val (.int p1), .val (.ref b2), .unset, .unset, .unset, .unset, .unset, .unset, .unset, .unset, .unset, .unset, .unset] [])) _
    refine XS.aloadN X17.here hx rfl (hb hby at_29) rfl rfl ?_
    show Steps p.tables e below (T17.setTop (mkF m 30 #[.val (.int p0), .val (.int p1), .val (.ref b2), .unset, .unset, .unset, .unset, .unset, .unset, .unset, .unset, .unset, .unset, .unset] [(.ref b2)])) _
    refine XS.iconst X17.here hx rfl (hb hby at_30) ?_
    show Steps p.tables e below (T17.setTop (mkF m 31 #[.val (.int p0), .val (.int p1), .val (.ref b2), .unset, .unset, .unset, .unset, .unset, .unset, .unset, .unset, .unset, .unset, .unset] [(.int (3 : Int32)), (.ref b2)])) _
    refine XS.iloadN X17.here hx rfl (hb hby at_31) rfl ?_
    show Steps p.tables e below (T17.setTop (mkF m 32 #[.val (.int p0), .val (.int p1), .val (.ref b2), .unset, .unset, .unset, .unset, .unset, .unset, .unset, .unset, .unset, .unset, .unset] [(.int p0), (.int (3 : Int32)), (.ref b2)])) _
    refine XS.iconst X17.here hx rfl (hb hby at_32) ?_
    exact k
  obtain ⟨_, _, ⟨T20, L20, k20, n20⟩, -, X20, ⟨Lc20, hQ20, l20, y20, z20⟩, st20⟩ := Jvm.LawKit.callS X17 hx (y := (⟨"com/example/evotempo/evotempo/problem/OneMaxFitnessPinLaw", "bit", "(II)Z"⟩ : MethodName)) hown (mvT hZ (hw _ (List.mem_of_getElem? (i := 1) rfl))) (mvT hZ (hw _ (List.mem_of_getElem? (i := 2) rfl))) (mvT hZ (hw _ (List.mem_of_getElem? (i := 3) rfl))) (mvT hZ (hw _ (List.mem_of_getElem? (i := 4) rfl))) (by decide) (backOf (W := 2) (own_rm1 l Z a0 hw [] p0 (3 : Int32) h17) hZ (hw _ (List.mem_of_getElem? (i := 4) rfl)) (hw _ (List.mem_of_getElem? (i := 3) rfl)) (by decide) (by decide)) (g := (mkF m 33 #[.val (.int p0), .val (.int p1), .val (.ref b2), .unset, .unset, .unset, .unset, .unset, .unset, .unset, .unset, .unset, .unset, .unset] [(.int (3 : Int32)), (.int p0), (.int (3 : Int32)), (.ref b2)])) rfl (by rw [hml]; rfl) (argsL := [(.int p0), (.int (3 : Int32))]) (rest := [(.int (3 : Int32)), (.ref b2)]) (lenOf own_pd0 rfl) rfl (by show 2 * 0 + _ ≤ _; exact Nat.le_of_eq rfl) (hb hby at_33) (fun _ _ => ⟨rfl, e17, (by decide : 1 + 0 ≤ _), (by decide : 9 + 0 ≤ _)⟩)
  dsimp only [Pt.U, Pt.locs, Pt.cells, Pt.slots] at X20 l20 y20 z20 st20 hQ20
  subst y20 z20
  obtain ⟨rfl, rfl, e20⟩ := hQ20
  have X20' : Stand p l e room_1 s m #[(.int p0), (.int p1)] below meth c T20 L17 1 9 := by rw [show L20 = L17 from by rw [l20]; first | rfl | exact List.append_nil _] at X20; exact X20
  obtain ⟨v21, hv21⟩ : ∃ z : Int32, z = (own_F1 p0 (3 : Int32)) := ⟨_, rfl⟩
  rw [← hv21] at st20
  obtain ⟨T22, h22, L22, X22, N22, e22, K22, V22, st22⟩ := own_bastoreZ X20' hx hZ N17 e20 V17 (j := (3 : Int32)) (own_in (m := 9) rfl (by decide)) g_b2 (g := (mkF m 36 #[.val (.int p0), .val (.int p1), .val (.ref b2), .unset, .unset, .unset, .unset, .unset, .unset, .unset, .unset, .unset, .unset, .unset] [(.int v21), (.int (3 : Int32)), (.ref b2)])) rfl rfl (hb hby at_36)
  have V22 : own_IA Z h22 b2 .boolean ([(nar .boolean v6), (nar .boolean v11), (nar .boolean v16), (nar .boolean v21), (0 : Int32), (0 : Int32), (0 : Int32), (0 : Int32), (0 : Int32)] : List Int32) := V22
  have Zp23 : n0 ≤ h22.size := Nat.le_trans Zp18 K22.1
  have st24 : ∀ t, Steps p.tables e below (T22.setTop (mkF m 41 #[.val (.int p0), .val (.int p1), .val (.ref b2), .unset, .unset, .unset, .unset, .unset, .unset, .unset, .unset, .unset, .unset, .unset] [(.int (4 : Int32)), (.int p0), (.int (4 : Int32)), (.ref b2)])) t → Steps p.tables e below (T22.setTop (mkF m 37 #[.val (.int p0), .val (.int p1), .val (.ref b2), .unset, .unset, .unset, .unset, .unset, .unset, .unset, .unset, .unset, .unset, .unset] [])) t := by
    intro t k
    show Steps p.tables e below (T22.setTop (mkF m 37 #[.val (.int p0), .val (.int p1), .val (.ref b2), .unset, .unset, .unset, .unset, .unset, .unset, .unset, .unset, .unset, .unset, .unset] [])) _
    refine XS.aloadN X22.here hx rfl (hb hby at_37) rfl rfl ?_
    show Steps p.tables e below (T22.setTop (mkF m 38 #[.val (.int p0), .val (.int p1), .val (.ref b2), .unset, .unset, .unset, .unset, .unset, .unset, .unset, .unset, .unset, .unset, .unset] [(.ref b2)])) _
    refine XS.iconst X22.here hx rfl (hb hby at_38) ?_
    show Steps p.tables e below (T22.setTop (mkF m 39 #[.val (.int p0), .val (.int p1), .val (.ref b2), .unset, .unset, .unset, .unset, .unset, .unset, .unset, .unset, .unset, .unset, .unset] [(.int (4 : Int32)), (.ref b2)])) _
    refine XS.iloadN X22.here hx rfl (hb hby at_39) rfl ?_
    show Steps p.tables e below (T22.setTop (mkF m 40 #[.val (.int p0), .val (.int p1), .val (.ref b2), .unset, .unset, .unset, .unset, .unset, .unset, .unset, .unset, .unset, .unset, .unset] [(.int p0), (.int (4 : Int32)), (.ref b2)])) _
    refine XS.iconst X22.here hx rfl (hb hby at_40) ?_
    exact k
  obtain ⟨_, _, ⟨T25, L25, k25, n25⟩, -, X25, ⟨Lc25, hQ25, l25, y25, z25⟩, st25⟩ := Jvm.LawKit.callS X22 hx (y := (⟨"com/example/evotempo/evotempo/problem/OneMaxFitnessPinLaw", "bit", "(II)Z"⟩ : MethodName)) hown (mvT hZ (hw _ (List.mem_of_getElem? (i := 1) rfl))) (mvT hZ (hw _ (List.mem_of_getElem? (i := 2) rfl))) (mvT hZ (hw _ (List.mem_of_getElem? (i := 3) rfl))) (mvT hZ (hw _ (List.mem_of_getElem? (i := 4) rfl))) (by decide) (backOf (W := 2) (own_rm1 l Z a0 hw [] p0 (4 : Int32) h22) hZ (hw _ (List.mem_of_getElem? (i := 4) rfl)) (hw _ (List.mem_of_getElem? (i := 3) rfl)) (by decide) (by decide)) (g := (mkF m 41 #[.val (.int p0), .val (.int p1), .val (.ref b2), .unset, .unset, .unset, .unset, .unset, .unset, .unset, .unset, .unset, .unset, .unset] [(.int (4 : Int32)), (.int p0), (.int (4 : Int32)), (.ref b2)])) rfl (by rw [hml]; rfl) (argsL := [(.int p0), (.int (4 : Int32))]) (rest := [(.int (4 : Int32)), (.ref b2)]) (lenOf own_pd0 rfl) rfl (by show 2 * 0 + _ ≤ _; exact Nat.le_of_eq rfl) (hb hby at_41) (fun _ _ => ⟨rfl, e22, (by decide : 1 + 0 ≤ _), (by decide : 9 + 0 ≤ _)⟩)
  dsimp only [Pt.U, Pt.locs, Pt.cells, Pt.slots] at X25 l25 y25 z25 st25 hQ25
  subst y25 z25
  obtain ⟨rfl, rfl, e25⟩ := hQ25
  have X25' : Stand p l e room_1 s m #[(.int p0), (.int p1)] below meth c T25 L22 1 9 := by rw [show L25 = L22 from by rw [l25]; first | rfl | exact List.append_nil _] at X25; exact X25
  obtain ⟨v26, hv26⟩ : ∃ z : Int32, z = (own_F1 p0 (4 : Int32)) := ⟨_, rfl⟩
  rw [← hv26] at st25
  obtain ⟨T27, h27, L27, X27, N27, e27, K27, V27, st27⟩ := own_bastoreZ X25' hx hZ N22 e25 V22 (j := (4 : Int32)) (own_in (m := 9) rfl (by decide)) g_b2 (g := (mkF m 44 #[.val (.int p0), .val (.int p1), .val (.ref b2), .unset, .unset, .unset, .unset, .unset, .unset, .unset, .unset, .unset, .unset, .unset] [(.int v26), (.int (4 : Int32)), (.ref b2)])) rfl rfl (hb hby at_44)
  have V27 : own_IA Z h27 b2 .boolean ([(nar .boolean v6), (nar .boolean v11), (nar .boolean v16), (nar .boolean v21), (nar .boolean v26), (0 : Int32), (0 : Int32), (0 : Int32), (0 : Int32)] : List Int32) := V27
  have Zp28 : n0 ≤ h27.size := Nat.le_trans Zp23 K27.1
  have st29 : ∀ t, Steps p.tables e below (T27.setTop (mkF m 49 #[.val (.int p0), .val (.int p1), .val (.ref b2), .unset, .unset, .unset, .unset, .unset, .unset, .unset, .unset, .unset, .unset, .unset] [(.int (5 : Int32)), (.int p0), (.int (5 : Int32)), (.ref b2)])) t → Steps p.tables e below (T27.setTop (mkF m 45 #[.val (.int p0), .val (.int p1), .val (.ref b2), .unset, .unset, .unset, .unset, .unset, .unset, .unset, .unset, .unset, .unset, .unset] [])) t := by
    intro t k
    show Steps p.tables e below (T27.setTop (mkF m 45 #[.val (.int p0), .val (.int p1), .val (.ref b2), .unset, .unset, .unset, .unset, .unset, .unset, .unset, .unset, .unset, .unset, .unset] [])) _
    refine XS.aloadN X27.here hx rfl (hb hby at_45) rfl rfl ?_
    show Steps p.tables e below (T27.setTop (mkF m 46 #[.val (.int p0), .val (.int p1), .val (.ref b2), .unset, .unset, .unset, .unset, .unset, .unset, .unset, .unset, .unset, .unset, .unset] [(.ref b2)])) _
    refine XS.iconst X27.here hx rfl (hb hby at_46) ?_
    show Steps p.tables e below (T27.setTop (mkF m 47 #[.val (.int p0), .val (.int p1), .val (.ref b2), .unset, .unset, .unset, .unset, .unset, .unset, .unset, .unset, .unset, .unset, .unset] [(.int (5 : Int32)), (.ref b2)])) _
    refine XS.iloadN X27.here hx rfl (hb hby at_47) rfl ?_
    show Steps p.tables e below (T27.setTop (mkF m 48 #[.val (.int p0), .val (.int p1), .val (.ref b2), .unset, .unset, .unset, .unset, .unset, .unset, .unset, .unset, .unset, .unset, .unset] [(.int p0), (.int (5 : Int32)), (.ref b2)])) _
    refine XS.iconst X27.here hx rfl (hb hby at_48) ?_
    exact k
  obtain ⟨_, _, ⟨T30, L30, k30, n30⟩, -, X30, ⟨Lc30, hQ30, l30, y30, z30⟩, st30⟩ := Jvm.LawKit.callS X27 hx (y := (⟨"com/example/evotempo/evotempo/problem/OneMaxFitnessPinLaw", "bit", "(II)Z"⟩ : MethodName)) hown (mvT hZ (hw _ (List.mem_of_getElem? (i := 1) rfl))) (mvT hZ (hw _ (List.mem_of_getElem? (i := 2) rfl))) (mvT hZ (hw _ (List.mem_of_getElem? (i := 3) rfl))) (mvT hZ (hw _ (List.mem_of_getElem? (i := 4) rfl))) (by decide) (backOf (W := 2) (own_rm1 l Z a0 hw [] p0 (5 : Int32) h27) hZ (hw _ (List.mem_of_getElem? (i := 4) rfl)) (hw _ (List.mem_of_getElem? (i := 3) rfl)) (by decide) (by decide)) (g := (mkF m 49 #[.val (.int p0), .val (.int p1), .val (.ref b2), .unset, .unset, .unset, .unset, .unset, .unset, .unset, .unset, .unset, .unset, .unset] [(.int (5 : Int32)), (.int p0), (.int (5 : Int32)), (.ref b2)])) rfl (by rw [hml]; rfl) (argsL := [(.int p0), (.int (5 : Int32))]) (rest := [(.int (5 : Int32)), (.ref b2)]) (lenOf own_pd0 rfl) rfl (by show 2 * 0 + _ ≤ _; exact Nat.le_of_eq rfl) (hb hby at_49) (fun _ _ => ⟨rfl, e27, (by decide : 1 + 0 ≤ _), (by decide : 9 + 0 ≤ _)⟩)
  dsimp only [Pt.U, Pt.locs, Pt.cells, Pt.slots] at X30 l30 y30 z30 st30 hQ30
  subst y30 z30
  obtain ⟨rfl, rfl, e30⟩ := hQ30
  have X30' : Stand p l e room_1 s m #[(.int p0), (.int p1)] below meth c T30 L27 1 9 := by rw [show L30 = L27 from by rw [l30]; first | rfl | exact List.append_nil _] at X30; exact X30
  obtain ⟨v31, hv31⟩ : ∃ z : Int32, z = (own_F1 p0 (5 : Int32)) := ⟨_, rfl⟩
  rw [← hv31] at st30
  obtain ⟨T32, h32, L32, X32, N32, e32, K32, V32, st32⟩ := own_bastoreZ X30' hx hZ N27 e30 V27 (j := (5 : Int32)) (own_in (m := 9) rfl (by decide)) g_b2 (g := (mkF m 52 #[.val (.int p0), .val (.int p1), .val (.ref b2), .unset, .unset, .unset, .unset, .unset, .unset, .unset, .unset, .unset, .unset, .unset] [(.int v31), (.int (5 : Int32)), (.ref b2)])) rfl rfl (hb hby at_52)
  have V32 : own_IA Z h32 b2 .boolean ([(nar .boolean v6), (nar .boolean v11), (nar .boolean v16), (nar .boolean v21), (nar .boolean v26), (nar .boolean v31), (0 : Int32), (0 : Int32), (0 : Int32)] : List Int32) := V32
  have Zp33 : n0 ≤ h32.size := Nat.le_trans Zp28 K32.1
  have st34 : ∀ t, Steps p.tables e below (T32.setTop (mkF m 59 #[.val (.int p0), .val (.int p1), .val (.ref b2), .unset, .unset, .unset, .unset, .unset, .unset, .unset, .unset, .unset, .unset, .unset] [(.int (6 : Int32)), (.int p0), (.int (6 : Int32)), (.ref b2)])) t → Steps p.tables e below (T32.setTop (mkF m 53 #[.val (.int p0), .val (.int p1), .val (.ref b2), .unset, .unset, .unset, .unset, .unset, .unset, .unset, .unset, .unset, .unset, .unset] [])) t := by
    intro t k
    show Steps p.tables e below (T32.setTop (mkF m 53 #[.val (.int p0), .val (.int p1), .val (.ref b2), .unset, .unset, .unset, .unset, .unset, .unset, .unset, .unset, .unset, .unset, .unset] [])) _
    refine XS.aloadN X32.here hx rfl (hb hby at_53) rfl rfl ?_
    show Steps p.tables e below (T32.setTop (mkF m 54 #[.val (.int p0), .val (.int p1), .val (.ref b2), .unset, .unset, .unset, .unset, .unset, .unset, .unset, .unset, .unset, .unset, .unset] [(.ref b2)])) _
    refine XS.bipush X32.here hx rfl (hb hby at_54) ?_
    show Steps p.tables e below (T32.setTop (mkF m 56 #[.val (.int p0), .val (.int p1), .val (.ref b2), .unset, .unset, .unset, .unset, .unset, .unset, .unset, .unset, .unset, .unset, .unset] [(.int (6 : Int32)), (.ref b2)])) _
    refine XS.iloadN X32.here hx rfl (hb hby at_56) rfl ?_
    show Steps p.tables e below (T32.setTop (mkF m 57 #[.val (.int p0), .val (.int p1), .val (.ref b2), .unset, .unset, .unset, .unset, .unset, .unset, .unset, .unset, .unset, .unset, .unset] [(.int p0), (.int (6 : Int32)), (.ref b2)])) _
    refine XS.bipush X32.here hx rfl (hb hby at_57) ?_
    exact k
  obtain ⟨_, _, ⟨T35, L35, k35, n35⟩, -, X35, ⟨Lc35, hQ35, l35, y35, z35⟩, st35⟩ := Jvm.LawKit.callS X32 hx (y := (⟨"com/example/evotempo/evotempo/problem/OneMaxFitnessPinLaw", "bit", "(II)Z"⟩ : MethodName)) hown (mvT hZ (hw _ (List.mem_of_getElem? (i := 1) rfl))) (mvT hZ (hw _ (List.mem_of_getElem? (i := 2) rfl))) (mvT hZ (hw _ (List.mem_of_getElem? (i := 3) rfl))) (mvT hZ (hw _ (List.mem_of_getElem? (i := 4) rfl))) (by decide) (backOf (W := 2) (own_rm1 l Z a0 hw [] p0 (6 : Int32) h32) hZ (hw _ (List.mem_of_getElem? (i := 4) rfl)) (hw _ (List.mem_of_getElem? (i := 3) rfl)) (by decide) (by decide)) (g := (mkF m 59 #[.val (.int p0), .val (.int p1), .val (.ref b2), .unset, .unset, .unset, .unset, .unset, .unset, .unset, .unset, .unset, .unset, .unset] [(.int (6 : Int32)), (.int p0), (.int (6 : Int32)), (.ref b2)])) rfl (by rw [hml]; rfl) (argsL := [(.int p0), (.int (6 : Int32))]) (rest := [(.int (6 : Int32)), (.ref b2)]) (lenOf own_pd0 rfl) rfl (by show 2 * 0 + _ ≤ _; exact Nat.le_of_eq rfl) (hb hby at_59) (fun _ _ => ⟨rfl, e32, (by decide : 1 + 0 ≤ _), (by decide : 9 + 0 ≤ _)⟩)
  dsimp only [Pt.U, Pt.locs, Pt.cells, Pt.slots] at X35 l35 y35 z35 st35 hQ35
  subst y35 z35
  obtain ⟨rfl, rfl, e35⟩ := hQ35
  have X35' : Stand p l e room_1 s m #[(.int p0), (.int p1)] below meth c T35 L32 1 9 := by rw [show L35 = L32 from by rw [l35]; first | rfl | exact List.append_nil _] at X35; exact X35
  obtain ⟨v36, hv36⟩ : ∃ z : Int32, z = (own_F1 p0 (6 : Int32)) := ⟨_, rfl⟩
  rw [← hv36] at st35
  obtain ⟨T37, h37, L37, X37, N37, e37, K37, V37, st37⟩ := own_bastoreZ X35' hx hZ N32 e35 V32 (j := (6 : Int32)) (own_in (m := 9) rfl (by decide)) g_b2 (g := (mkF m 62 #[.val (.int p0), .val (.int p1), .val (.ref b2), .unset, .unset, .unset, .unset, .unset, .unset, .unset, .unset, .unset, .unset, .unset] [(.int v36), (.int (6 : Int32)), (.ref b2)])) rfl rfl (hb hby at_62)
  have V37 : own_IA Z h37 b2 .boolean ([(nar .boolean v6), (nar .boolean v11), (nar .boolean v16), (nar .boolean v21), (nar .boolean v26), (nar .boolean v31), (nar .boolean v36), (0 : Int32), (0 : Int32)] : List Int32) := V37
  have Zp38 : n0 ≤ h37.size := Nat.le_trans Zp33 K37.1
  have st39 : ∀ t, Steps p.tables e below (T37.setTop (mkF m 69 #[.val (.int p0), .val (.int p1), .val (.ref b2), .unset, .unset, .unset, .unset, .unset, .unset, .unset, .unset, .unset, .unset, .unset] [(.int (7 : Int32)), (.int p0), (.int (7 : Int32)), (.ref b2)])) t → Steps p.tables e below (T37.setTop (mkF m 63 #[.val (.int p0), .val (.int p1), .val (.ref b2), .unset, .unset, .unset, .unset, .unset, .unset, .unset, .unset, .unset, .unset, .unset] [])) t := by
    intro t k
    show Steps p.tables e below (T37.setTop (mkF m 63 #[.val (.int p0), .val (.int p1), .val (.ref b2), .unset, .unset, .unset, .unset, .unset, .unset, .unset, .unset, .unset, .unset, .unset] [])) _
    refine XS.aloadN X37.here hx rfl (hb hby at_63) rfl rfl ?_
    show Steps p.tables e below (T37.setTop (mkF m 64 #[.val (.int p0), .val (.int p1), .val (.ref b2), .unset, .unset, .unset, .unset, .unset, .unset, .unset, .unset, .unset, .unset, .unset] [(.ref b2)])) _
    refine XS.bipush X37.here hx rfl (hb hby at_64) ?_
    show Steps p.tables e below (T37.setTop (mkF m 66 #[.val (.int p0), .val (.int p1), .val (.ref b2), .unset, .unset, .unset, .unset, .unset, .unset, .unset, .unset, .unset, .unset, .unset] [(.int (7 : Int32)), (.ref b2)])) _
    refine XS.iloadN X37.here hx rfl (hb hby at_66) rfl ?_
    show Steps p.tables e below (T37.setTop (mkF m 67 #[.val (.int p0), .val (.int p1), .val (.ref b2), .unset, .unset, .unset, .unset, .unset, .unset, .unset, .unset, .unset, .unset, .unset] [(.int p0), (.int (7 : Int32)), (.ref b2)])) _
    refine XS.bipush X37.here hx rfl (hb hby at_67) ?_
    exact k
  obtain ⟨_, _, ⟨T40, L40, k40, n40⟩, -, X40, ⟨Lc40, hQ40, l40, y40, z40⟩, st40⟩ := Jvm.LawKit.callS X37 hx (y := (⟨"com/example/evotempo/evotempo/problem/OneMaxFitnessPinLaw", "bit", "(II)Z"⟩ : MethodName)) hown (mvT hZ (hw _ (List.mem_of_getElem? (i := 1) rfl))) (mvT hZ (hw _ (List.mem_of_getElem? (i := 2) rfl))) (mvT hZ (hw _ (List.mem_of_getElem? (i := 3) rfl))) (mvT hZ (hw _ (List.mem_of_getElem? (i := 4) rfl))) (by decide) (backOf (W := 2) (own_rm1 l Z a0 hw [] p0 (7 : Int32) h37) hZ (hw _ (List.mem_of_getElem? (i := 4) rfl)) (hw _ (List.mem_of_getElem? (i := 3) rfl)) (by decide) (by decide)) (g := (mkF m 69 #[.val (.int p0), .val (.int p1), .val (.ref b2), .unset, .unset, .unset, .unset, .unset, .unset, .unset, .unset, .unset, .unset, .unset] [(.int (7 : Int32)), (.int p0), (.int (7 : Int32)), (.ref b2)])) rfl (by rw [hml]; rfl) (argsL := [(.int p0), (.int (7 : Int32))]) (rest := [(.int (7 : Int32)), (.ref b2)]) (lenOf own_pd0 rfl) rfl (by show 2 * 0 + _ ≤ _; exact Nat.le_of_eq rfl) (hb hby at_69) (fun _ _ => ⟨rfl, e37, (by decide : 1 + 0 ≤ _), (by decide : 9 + 0 ≤ _)⟩)
  dsimp only [Pt.U, Pt.locs, Pt.cells, Pt.slots] at X40 l40 y40 z40 st40 hQ40
  subst y40 z40
  obtain ⟨rfl, rfl, e40⟩ := hQ40
  have X40' : Stand p l e room_1 s m #[(.int p0), (.int p1)] below meth c T40 L37 1 9 := by rw [show L40 = L37 from by rw [l40]; first | rfl | exact List.append_nil _] at X40; exact X40
  obtain ⟨v41, hv41⟩ : ∃ z : Int32, z = (own_F1 p0 (7 : Int32)) := ⟨_, rfl⟩
  rw [← hv41] at st40
  obtain ⟨T42, h42, L42, X42, N42, e42, K42, V42, st42⟩ := own_bastoreZ X40' hx hZ N37 e40 V37 (j := (7 : Int32)) (own_in (m := 9) rfl (by decide)) g_b2 (g := (mkF m 72 #[.val (.int p0), .val (.int p1), .val (.ref b2), .unset, .unset, .unset, .unset, .unset, .unset, .unset, .unset, .unset, .unset, .unset] [(.int v41), (.int (7 : Int32)), (.ref b2)])) rfl rfl (hb hby at_72)
  have V42 : own_IA Z h42 b2 .boolean ([(nar .boolean v6), (nar .boolean v11), (nar .boolean v16), (nar .boolean v21), (nar .boolean v26), (nar .boolean v31), (nar .boolean v36), (nar .boolean v41), (0 : Int32)] : List Int32) := V42
  have Zp43 : n0 ≤ h42.size := Nat.le_trans Zp38 K42.1
  have st44 : ∀ t, Steps p.tables e below (T42.setTop (mkF m 79 #[.val (.int p0), .val (.int p1), .val (.ref b2), .unset, .unset, .unset, .unset, .unset, .unset, .unset, .unset, .unset, .unset, .unset] [(.int (8 : Int32)), (.int p0), (.int (8 : Int32)), (.ref b2)])) t → Steps p.tables e below (T42.setTop (mkF m 73 #[.val (.int p0), .val (.int p1), .val (.ref b2), .unset, .unset, .unset, .unset, .unset, .unset, .unset, .unset, .unset, .unset, .unset] [])) t := by
    intro t k
    show Steps p.tables e below (T42.setTop (mkF m 73 #[.val (.int p0), .val (.int p1), .val (.ref b2), .unset, .unset, .unset, .unset, .unset, .unset, .unset, .unset, .unset, .unset, .unset] [])) _
    refine XS.aloadN X42.here hx rfl (hb hby at_73) rfl rfl ?_
    show Steps p.tables e below (T42.setTop (mkF m 74 #[.val (.int p0), .val (.int p1), .val (.ref b2), .unset, .unset, .unset, .unset, .unset, .unset, .unset, .unset, .unset, .unset, .unset] [(.ref b2)])) _
    refine XS.bipush X42.here hx rfl (hb hby at_74) ?_
    show Steps p.tables e below (T42.setTop (mkF m 76 #[.val (.int p0), .val (.int p1), .val (.ref b2), .unset, .unset, .unset, .unset, .unset, .unset, .unset, .unset, .unset, .unset, .unset] [(.int (8 : Int32)), (.ref b2)])) _
    refine XS.iloadN X42.here hx rfl (hb hby at_76) rfl ?_
    show Steps p.tables e below (T42.setTop (mkF m 77 #[.val (.int p0), .val (.int p1), .val (.ref b2), .unset, .unset, .unset, .unset, .unset, .unset, .unset, .unset, .unset, .unset, .unset] [(.int p0), (.int (8 : Int32)), (.ref b2)])) _
    refine XS.bipush X42.here hx rfl (hb hby at_77) ?_
    exact k
  obtain ⟨_, _, ⟨T45, L45, k45, n45⟩, -, X45, ⟨Lc45, hQ45, l45, y45, z45⟩, st45⟩ := Jvm.LawKit.callS X42 hx (y := (⟨"com/example/evotempo/evotempo/problem/OneMaxFitnessPinLaw", "bit", "(II)Z"⟩ : MethodName)) hown (mvT hZ (hw _ (List.mem_of_getElem? (i := 1) rfl))) (mvT hZ (hw _ (List.mem_of_getElem? (i := 2) rfl))) (mvT hZ (hw _ (List.mem_of_getElem? (i := 3) rfl))) (mvT hZ (hw _ (List.mem_of_getElem? (i := 4) rfl))) (by decide) (backOf (W := 2) (own_rm1 l Z a0 hw [] p0 (8 : Int32) h42) hZ (hw _ (List.mem_of_getElem? (i := 4) rfl)) (hw _ (List.mem_of_getElem? (i := 3) rfl)) (by decide) (by decide)) (g := (mkF m 79 #[.val (.int p0), .val (.int p1), .val (.ref b2), .unset, .unset, .unset, .unset, .unset, .unset, .unset, .unset, .unset, .unset, .unset] [(.int (8 : Int32)), (.int p0), (.int (8 : Int32)), (.ref b2)])) rfl (by rw [hml]; rfl) (argsL := [(.int p0), (.int (8 : Int32))]) (rest := [(.int (8 : Int32)), (.ref b2)]) (lenOf own_pd0 rfl) rfl (by show 2 * 0 + _ ≤ _; exact Nat.le_of_eq rfl) (hb hby at_79) (fun _ _ => ⟨rfl, e42, (by decide : 1 + 0 ≤ _), (by decide : 9 + 0 ≤ _)⟩)
  dsimp only [Pt.U, Pt.locs, Pt.cells, Pt.slots] at X45 l45 y45 z45 st45 hQ45
  subst y45 z45
  obtain ⟨rfl, rfl, e45⟩ := hQ45
  have X45' : Stand p l e room_1 s m #[(.int p0), (.int p1)] below meth c T45 L42 1 9 := by rw [show L45 = L42 from by rw [l45]; first | rfl | exact List.append_nil _] at X45; exact X45
  obtain ⟨v46, hv46⟩ : ∃ z : Int32, z = (own_F1 p0 (8 : Int32)) := ⟨_, rfl⟩
  rw [← hv46] at st45
  obtain ⟨T47, h47, L47, X47, N47, e47, K47, V47, st47⟩ := own_bastoreZ X45' hx hZ N42 e45 V42 (j := (8 : Int32)) (own_in (m := 9) rfl (by decide)) g_b2 (g := (mkF m 82 #[.val (.int p0), .val (.int p1), .val (.ref b2), .unset, .unset, .unset, .unset, .unset, .unset, .unset, .unset, .unset, .unset, .unset] [(.int v46), (.int (8 : Int32)), (.ref b2)])) rfl rfl (hb hby at_82)
  have V47 : own_IA Z h47 b2 .boolean ([(nar .boolean v6), (nar .boolean v11), (nar .boolean v16), (nar .boolean v21), (nar .boolean v26), (nar .boolean v31), (nar .boolean v36), (nar .boolean v41), (nar .boolean v46)] : List Int32) := V47
  have Zp48 : n0 ≤ h47.size := Nat.le_trans Zp43 K47.1
  have st49 : ∀ t, Steps p.tables e below (T47.setTop (mkF m 84 #[.val (.int p0), .val (.int p1), .val (.ref b2), .unset, .unset, .unset, .unset, .unset, .unset, .unset, .unset, .unset, .unset, .unset] [(.int (1 : Int32))])) t → Steps p.tables e below (T47.setTop (mkF m 83 #[.val (.int p0), .val (.int p1), .val (.ref b2), .unset, .unset, .unset, .unset, .unset, .unset, .unset, .unset, .unset, .unset, .unset] [])) t := by
    intro t k
    show Steps p.tables e below (T47.setTop (mkF m 83 #[.val (.int p0), .val (.int p1), .val (.ref b2), .unset, .unset, .unset, .unset, .unset, .unset, .unset, .unset, .unset, .unset, .unset] [])) _
    refine XS.iconst X47.here hx rfl (hb hby at_83) ?_
    exact k
  obtain ⟨T50, h50, b50, X50, e50, K50, q50, V50, st50⟩ := own_newA X47 hx hZ (ty := .boolean) rfl (hw _ (List.mem_of_getElem? (i := 0) rfl)) rfl e47 (g := (mkF m 84 #[.val (.int p0), .val (.int p1), .val (.ref b2), .unset, .unset, .unset, .unset, .unset, .unset, .unset, .unset, .unset, .unset, .unset] [(.int (1 : Int32))])) rfl (hb hby at_84) rfl (1) (by decide) (cap := 1) (by decide) (by decide) (by decide) (by decide)
  have X50 : Stand p l e room_1 s m #[(.int p0), (.int p1)] below meth c T50 L47 2 10 := X50
  have V50 : own_IA Z h50 b50 .boolean ([(0 : Int32)] : List Int32) := V50
  have ne_b2_b50 : b2 ≠ b50 := own_ne V47.lt q50
  have g_b50 : n0 ≤ b50 := Nat.le_trans Zp48 q50
  have f51 : own_IA Z h50 b2 .boolean ([(nar .boolean v6), (nar .boolean v11), (nar .boolean v16), (nar .boolean v21), (nar .boolean v26), (nar .boolean v31), (nar .boolean v36), (nar .boolean v41), (nar .boolean v46)] : List Int32) := V47.keep K50 nin0
  have Zp52 : n0 ≤ h50.size := Nat.le_trans Zp48 K50.1
  have st53 : ∀ t, Steps p.tables e below (T50.setTop (mkF m 92 #[.val (.int p0), .val (.int p1), .val (.ref b2), .val (.ref b50), .unset, .unset, .unset, .unset, .unset, .unset, .unset, .unset, .unset, .unset] [(.int (p1 &&& (1 : Int32))), (.int (0 : Int32)), (.ref b50)])) t → Steps p.tables e below (T50.setTop (mkF m 86 #[.val (.int p0), .val (.int p1), .val (.ref b2), .unset, .unset, .unset, .unset, .unset, .unset, .unset, .unset, .unset, .unset, .unset] [(.ref b50)])) t := by
    intro t k
    show Steps p.tables e below (T50.setTop (mkF m 86 #[.val (.int p0), .val (.int p1), .val (.ref b2), .unset, .unset, .unset, .unset, .unset, .unset, .unset, .unset, .unset, .unset, .unset] [(.ref b50)])) _
    refine XS.astoreN X50.here hx rfl (hb hby at_86) rfl rfl (l' := #[.val (.int p0), .val (.int p1), .val (.ref b2), .val (.ref b50), .unset, .unset, .unset, .unset, .unset, .unset, .unset, .unset, .unset, .unset]) rfl ?_
    show Steps p.tables e below (T50.setTop (mkF m 87 #[.val (.int p0), .val (.int p1), .val (.ref b2), .val (.ref b50), .unset, .unset, .unset, .unset, .unset, .unset, .unset, .unset, .unset, .unset] [])) _
    refine XS.aloadN X50.here hx rfl (hb hby at_87) rfl rfl ?_
    show Steps p.tables e below (T50.setTop (mkF m 88 #[.val (.int p0), .val (.int p1), .val (.ref b2), .val (.ref b50), .unset, .unset, .unset, .unset, .unset, .unset, .unset, .unset, .unset, .unset] [(.ref b50)])) _
    refine XS.iconst X50.here hx rfl (hb hby at_88) ?_
    show Steps p.tables e below (T50.setTop (mkF m 89 #[.val (.int p0), .val (.int p1), .val (.ref b2), .val (.ref b50), .unset, .unset, .unset, .unset, .unset, .unset, .unset, .unset, .unset, .unset] [(.int (0 : Int32)), (.ref b50)])) _
    refine XS.iloadN X50.here hx rfl (hb hby at_89) rfl ?_
    show Steps p.tables e below (T50.setTop (mkF m 90 #[.val (.int p0), .val (.int p1), .val (.ref b2), .val (.ref b50), .unset, .unset, .unset, .unset, .unset, .unset, .unset, .unset, .unset, .unset] [(.int p1), (.int (0 : Int32)), (.ref b50)])) _
    refine XS.iconst X50.here hx rfl (hb hby at_90) ?_
    show Steps p.tables e below (T50.setTop (mkF m 91 #[.val (.int p0), .val (.int p1), .val (.ref b2), .val (.ref b50), .unset, .unset, .unset, .unset, .unset, .unset, .unset, .unset, .unset, .unset] [(.int (1 : Int32)), (.int p1), (.int (0 : Int32)), (.ref b50)])) _
    refine XS.iand X50.here hx rfl (hb hby at_91) rfl ?_
    exact k
  obtain ⟨v57, hv57⟩ : ∃ z : Int32, z = (if (p1 &&& (1 : Int32)) = (0 : Int32) then (0 : Int32) else (1 : Int32)) := ⟨_, rfl⟩
  have st58 : ∀ t, Steps p.tables e below (T50.setTop (mkF m 100 #[.val (.int p0), .val (.int p1), .val (.ref b2), .val (.ref b50), .unset, .unset, .unset, .unset, .unset, .unset, .unset, .unset, .unset, .unset] [(.int v57), (.int (0 : Int32)), (.ref b50)])) t → Steps p.tables e below (T50.setTop (mkF m 92 #[.val (.int p0), .val (.int p1), .val (.ref b2), .val (.ref b50), .unset, .unset, .unset, .unset, .unset, .unset, .unset, .unset, .unset, .unset] [(.int (p1 &&& (1 : Int32))), (.int (0 : Int32)), (.ref b50)])) t := by
    rw [hv57]
    by_cases hc92_54 : (p1 &&& (1 : Int32)) = (0 : Int32)
    · repeat rw [if_pos hc92_54]
      have st55 : ∀ t, Steps p.tables e below (T50.setTop (mkF m 100 #[.val (.int p0), .val (.int p1), .val (.ref b2), .val (.ref b50), .unset, .unset, .unset, .unset, .unset, .unset, .unset, .unset, .unset, .unset] [(.int (0 : Int32)), (.int (0 : Int32)), (.ref b50)])) t → Steps p.tables e below (T50.setTop (mkF m 92 #[.val (.int p0), .val (.int p1), .val (.ref b2), .val (.ref b50), .unset, .unset, .unset, .unset, .unset, .unset, .unset, .unset, .unset, .unset] [(.int (p1 &&& (1 : Int32))), (.int (0 : Int32)), (.ref b50)])) t := by
        intro t k
        show Steps p.tables e below (T50.setTop (mkF m 92 #[.val (.int p0), .val (.int p1), .val (.ref b2), .val (.ref b50), .unset, .unset, .unset, .unset, .unset, .unset, .unset, .unset, .unset, .unset] [(.int (p1 &&& (1 : Int32))), (.int (0 : Int32)), (.ref b50)])) _
        refine XS.ifYes X50.here hx rfl (pc0 := 92) (pc' := 99) rfl (hb hby at_92) rfl ((if0 _ _).trans (teq hc92_54).1) (by decide) (by decide) ?_
        show Steps p.tables e below (T50.setTop (mkF m 99 #[.val (.int p0), .val (.int p1), .val (.ref b2), .val (.ref b50), .unset, .unset, .unset, .unset, .unset, .unset, .unset, .unset, .unset, .unset] [(.int (0 : Int32)), (.ref b50)])) _
        refine XS.iconst X50.here hx rfl (hb hby at_99) ?_
        exact k
      exact fun t k => st55 _ k
    · repeat rw [if_neg hc92_54]
      have st56 : ∀ t, Steps p.tables e below (T50.setTop (mkF m 100 #[.val (.int p0), .val (.int p1), .val (.ref b2), .val (.ref b50), .unset, .unset, .unset, .unset, .unset, .unset, .unset, .unset, .unset, .unset] [(.int (1 : Int32)), (.int (0 : Int32)), (.ref b50)])) t → Steps p.tables e below (T50.setTop (mkF m 92 #[.val (.int p0), .val (.int p1), .val (.ref b2), .val (.ref b50), .unset, .unset, .unset, .unset, .unset, .unset, .unset, .unset, .unset, .unset] [(.int (p1 &&& (1 : Int32))), (.int (0 : Int32)), (.ref b50)])) t := by
        intro t k
        show Steps p.tables e below (T50.setTop (mkF m 92 #[.val (.int p0), .val (.int p1), .val (.ref b2), .val (.ref b50), .unset, .unset, .unset, .unset, .unset, .unset, .unset, .unset, .unset, .unset] [(.int (p1 &&& (1 : Int32))), (.int (0 : Int32)), (.ref b50)])) _
        refine XS.ifNo X50.here hx rfl (hb hby at_92) rfl ((if0 _ _).trans (feq hc92_54).1) ?_
        show Steps p.tables e below (T50.setTop (mkF m 95 #[.val (.int p0), .val (.int p1), .val (.ref b2), .val (.ref b50), .unset, .unset, .unset, .unset, .unset, .unset, .unset, .unset, .unset, .unset] [(.int (0 : Int32)), (.ref b50)])) _
        refine XS.iconst X50.here hx rfl (hb hby at_95) ?_
        show Steps p.tables e below (T50.setTop (mkF m 96 #[.val (.int p0), .val (.int p1), .val (.ref b2), .val (.ref b50), .unset, .unset, .unset, .unset, .unset, .unset, .unset, .unset, .unset, .unset] [(.int (1 : Int32)), (.int (0 : Int32)), (.ref b50)])) _
        refine XS.goto X50.here hx rfl (pc0 := 96) (pc' := 100) rfl (hb hby at_96) (by decide) (by decide) ?_
        exact k
      exact fun t k => st56 _ k
  obtain ⟨T59, h59, L59, X59, N59, e59, K59, V59, st59⟩ := own_bastoreZ X50 hx hZ N47 e50 V50 (j := (0 : Int32)) (own_in (m := 1) rfl (by decide)) g_b50 (g := (mkF m 100 #[.val (.int p0), .val (.int p1), .val (.ref b2), .val (.ref b50), .unset, .unset, .unset, .unset, .unset, .unset, .unset, .unset, .unset, .unset] [(.int v57), (.int (0 : Int32)), (.ref b50)])) rfl rfl (hb hby at_100)
  have V59 : own_IA Z h59 b50 .boolean ([(nar .boolean v57)] : List Int32) := V59
  have f60 : own_IA Z h59 b2 .boolean ([(nar .boolean v6), (nar .boolean v11), (nar .boolean v16), (nar .boolean v21), (nar .boolean v26), (nar .boolean v31), (nar .boolean v36), (nar .boolean v41), (nar .boolean v46)] : List Int32) := f51.keep K59 (ninS ne_b2_b50 nin0)
  have Zp61 : n0 ≤ h59.size := Nat.le_trans Zp52 K59.1
  have st62 : ∀ t, Steps p.tables e below (T59.setTop (mkF m 103 #[.val (.int p0), .val (.int p1), .val (.ref b2), .val (.ref b50), .unset, .unset, .unset, .unset, .unset, .unset, .unset, .unset, .unset, .unset] [(.int (0 : Int32)), (.int p0)])) t → Steps p.tables e below (T59.setTop (mkF m 101 #[.val (.int p0), .val (.int p1), .val (.ref b2), .val (.ref b50), .unset, .unset, .unset, .unset, .unset, .unset, .unset, .unset, .unset, .unset] [])) t := by
    intro t k
    show Steps p.tables e below (T59.setTop (mkF m 101 #[.val (.int p0), .val (.int p1), .val (.ref b2), .val (.ref b50), .unset, .unset, .unset, .unset, .unset, .unset, .unset, .unset, .unset, .unset] [])) _
    refine XS.iloadN X59.here hx rfl (hb hby at_101) rfl ?_
    show Steps p.tables e below (T59.setTop (mkF m 102 #[.val (.int p0), .val (.int p1), .val (.ref b2), .val (.ref b50), .unset, .unset, .unset, .unset, .unset, .unset, .unset, .unset, .unset, .unset] [(.int p0)])) _
    refine XS.iconst X59.here hx rfl (hb hby at_102) ?_
    exact k
  obtain ⟨_, _, ⟨T63, L63, k63, n63⟩, -, X63, ⟨Lc63, hQ63, l63, y63, z63⟩, st63⟩ := Jvm.LawKit.callS X59 hx (y := (⟨"com/example/evotempo/evotempo/problem/OneMaxFitnessPinLaw", "b", "(II)J"⟩ : MethodName)) hown (mvT hZ (hw _ (List.mem_of_getElem? (i := 5) rfl))) (mvT hZ (hw _ (List.mem_of_getElem? (i := 6) rfl))) (mvT hZ (hw _ (List.mem_of_getElem? (i := 3) rfl))) (mvT hZ (hw _ (List.mem_of_getElem? (i := 7) rfl))) (by decide) (backOf (W := 0) (own_rm2 l Z a0 hw [] p0 (0 : Int32) h59) hZ (hw _ (List.mem_of_getElem? (i := 7) rfl)) (hw _ (List.mem_of_getElem? (i := 3) rfl)) (by decide) (by decide)) (g := (mkF m 103 #[.val (.int p0), .val (.int p1), .val (.ref b2), .val (.ref b50), .unset, .unset, .unset, .unset, .unset, .unset, .unset, .unset, .unset, .unset] [(.int (0 : Int32)), (.int p0)])) rfl (by rw [hml]; rfl) (argsL := [(.int p0), (.int (0 : Int32))]) (rest := []) (lenOf own_pd1 rfl) rfl (by show 2 * 0 + _ ≤ _; exact Nat.le_of_eq rfl) (hb hby at_103) (fun _ _ => ⟨rfl, e59, (by decide : 2 + 0 ≤ _), (by decide : 10 + 0 ≤ _)⟩)
  dsimp only [Pt.U, Pt.locs, Pt.cells, Pt.slots] at X63 l63 y63 z63 st63 hQ63
  subst y63 z63
  obtain ⟨rfl, rfl, e63⟩ := hQ63
  have X63' : Stand p l e room_1 s m #[(.int p0), (.int p1)] below meth c T63 L59 2 10 := by rw [show L63 = L59 from by rw [l63]; first | rfl | exact List.append_nil _] at X63; exact X63
  obtain ⟨v64, hv64⟩ : ∃ z : Int64, z = (own_F2 p0 (0 : Int32)) := ⟨_, rfl⟩
  rw [← hv64] at st63
  have st65 : ∀ t, Steps p.tables e below (T63.setTop (mkF m 108 #[.val (.int p0), .val (.int p1), .val (.ref b2), .val (.ref b50), .unset, .unset, .unset, .unset, .unset, .unset, .unset, .unset, .unset, .unset] [(.int (1 : Int32)), (.int p0), (.long v64)])) t → Steps p.tables e below (T63.setTop (mkF m 106 #[.val (.int p0), .val (.int p1), .val (.ref b2), .val (.ref b50), .unset, .unset, .unset, .unset, .unset, .unset, .unset, .unset, .unset, .unset] [(.long v64)])) t := by
    intro t k
    show Steps p.tables e below (T63.setTop (mkF m 106 #[.val (.int p0), .val (.int p1), .val (.ref b2), .val (.ref b50), .unset, .unset, .unset, .unset, .unset, .unset, .unset, .unset, .unset, .unset] [(.long v64)])) _
    refine XS.iloadN X63'.here hx rfl (hb hby at_106) rfl ?_
    show Steps p.tables e below (T63.setTop (mkF m 107 #[.val (.int p0), .val (.int p1), .val (.ref b2), .val (.ref b50), .unset, .unset, .unset, .unset, .unset, .unset, .unset, .unset, .unset, .unset] [(.int p0), (.long v64)])) _
    refine XS.iconst X63'.here hx rfl (hb hby at_107) ?_
    exact k
  obtain ⟨_, _, ⟨T66, L66, k66, n66⟩, -, X66, ⟨Lc66, hQ66, l66, y66, z66⟩, st66⟩ := Jvm.LawKit.callS X63' hx (y := (⟨"com/example/evotempo/evotempo/problem/OneMaxFitnessPinLaw", "b", "(II)J"⟩ : MethodName)) hown (mvT hZ (hw _ (List.mem_of_getElem? (i := 5) rfl))) (mvT hZ (hw _ (List.mem_of_getElem? (i := 6) rfl))) (mvT hZ (hw _ (List.mem_of_getElem? (i := 3) rfl))) (mvT hZ (hw _ (List.mem_of_getElem? (i := 7) rfl))) (by decide) (backOf (W := 2) (own_rm2 l Z a0 hw [] p0 (1 : Int32) h59) hZ (hw _ (List.mem_of_getElem? (i := 7) rfl)) (hw _ (List.mem_of_getElem? (i := 3) rfl)) (by decide) (by decide)) (g := (mkF m 108 #[.val (.int p0), .val (.int p1), .val (.ref b2), .val (.ref b50), .unset, .unset, .unset, .unset, .unset, .unset, .unset, .unset, .unset, .unset] [(.int (1 : Int32)), (.int p0), (.long v64)])) rfl (by rw [hml]; rfl) (argsL := [(.int p0), (.int (1 : Int32))]) (rest := [(.long v64)]) (lenOf own_pd1 rfl) rfl (by show 2 * 0 + _ ≤ _; exact Nat.le_of_eq rfl) (hb hby at_108) (fun _ _ => ⟨rfl, e63, (by decide : 2 + 0 ≤ _), (by decide : 10 + 0 ≤ _)⟩)
  dsimp only [Pt.U, Pt.locs, Pt.cells, Pt.slots] at X66 l66 y66 z66 st66 hQ66
  subst y66 z66
  obtain ⟨rfl, rfl, e66⟩ := hQ66
  have X66' : Stand p l e room_1 s m #[(.int p0), (.int p1)] below meth c T66 L59 2 10 := by rw [show L66 = L59 from by rw [l66]; first | rfl | exact List.append_nil _] at X66; exact X66
  obtain ⟨v67, hv67⟩ : ∃ z : Int64, z = (own_F2 p0 (1 : Int32)) := ⟨_, rfl⟩
  rw [← hv67] at st66
  have st68 : ∀ t, Steps p.tables e below (T66.setTop (mkF m 114 #[.val (.int p0), .val (.int p1), .val (.ref b2), .val (.ref b50), .unset, .unset, .unset, .unset, .unset, .unset, .unset, .unset, .unset, .unset] [(.int (2 : Int32)), (.int p0), (.long (v64 + v67))])) t → Steps p.tables e below (T66.setTop (mkF m 111 #[.val (.int p0), .val (.int p1), .val (.ref b2), .val (.ref b50), .unset, .unset, .unset, .unset, .unset, .unset, .unset, .unset, .unset, .unset] [(.long v67), (.long v64)])) t := by
    intro t k
    show Steps p.tables e below (T66.setTop (mkF m 111 #[.val (.int p0), .val (.int p1), .val (.ref b2), .val (.ref b50), .unset, .unset, .unset, .unset, .unset, .unset, .unset, .unset, .unset, .unset] [(.long v67), (.long v64)])) _
    refine XS.ladd X66'.here hx rfl (hb hby at_111) rfl ?_
    show Steps p.tables e below (T66.setTop (mkF m 112 #[.val (.int p0), .val (.int p1), .val (.ref b2), .val (.ref b50), .unset, .unset, .unset, .unset, .unset, .unset, .unset, .unset, .unset, .unset] [(.long (v64 + v67))])) _
    refine XS.iloadN X66'.here hx rfl (hb hby at_112) rfl ?_
    show Steps p.tables e below (T66.setTop (mkF m 113 #[.val (.int p0), .val (.int p1), .val (.ref b2), .val (.ref b50), .unset, .unset, .unset, .unset, .unset, .unset, .unset, .unset, .unset, .unset] [(.int p0), (.long (v64 + v67))])) _
    refine XS.iconst X66'.here hx rfl (hb hby at_113) ?_
    exact k
  obtain ⟨_, _, ⟨T69, L69, k69, n69⟩, -, X69, ⟨Lc69, hQ69, l69, y69, z69⟩, st69⟩ := Jvm.LawKit.callS X66' hx (y := (⟨"com/example/evotempo/evotempo/problem/OneMaxFitnessPinLaw", "b", "(II)J"⟩ : MethodName)) hown (mvT hZ (hw _ (List.mem_of_getElem? (i := 5) rfl))) (mvT hZ (hw _ (List.mem_of_getElem? (i := 6) rfl))) (mvT hZ (hw _ (List.mem_of_getElem? (i := 3) rfl))) (mvT hZ (hw _ (List.mem_of_getElem? (i := 7) rfl))) (by decide) (backOf (W := 2) (own_rm2 l Z a0 hw [] p0 (2 : Int32) h59) hZ (hw _ (List.mem_of_getElem? (i := 7) rfl)) (hw _ (List.mem_of_getElem? (i := 3) rfl)) (by decide) (by decide)) (g := (mkF m 114 #[.val (.int p0), .val (.int p1), .val (.ref b2), .val (.ref b50), .unset, .unset, .unset, .unset, .unset, .unset, .unset, .unset, .unset, .unset] [(.int (2 : Int32)), (.int p0), (.long (v64 + v67))])) rfl (by rw [hml]; rfl) (argsL := [(.int p0), (.int (2 : Int32))]) (rest := [(.long (v64 + v67))]) (lenOf own_pd1 rfl) rfl (by show 2 * 0 + _ ≤ _; exact Nat.le_of_eq rfl) (hb hby at_114) (fun _ _ => ⟨rfl, e66, (by decide : 2 + 0 ≤ _), (by decide : 10 + 0 ≤ _)⟩)
  dsimp only [Pt.U, Pt.locs, Pt.cells, Pt.slots] at X69 l69 y69 z69 st69 hQ69
  subst y69 z69
  obtain ⟨rfl, rfl, e69⟩ := hQ69
  have X69' : Stand p l e room_1 s m #[(.int p0), (.int p1)] below meth c T69 L59 2 10 := by rw [show L69 = L59 from by rw [l69]; first | rfl | exact List.append_nil _] at X69; exact X69
  obtain ⟨v70, hv70⟩ : ∃ z : Int64, z = (own_F2 p0 (2 : Int32)) := ⟨_, rfl⟩
  rw [← hv70] at st69
  have st71 : ∀ t, Steps p.tables e below (T69.setTop (mkF m 120 #[.val (.int p0), .val (.int p1), .val (.ref b2), .val (.ref b50), .unset, .unset, .unset, .unset, .unset, .unset, .unset, .unset, .unset, .unset] [(.int (3 : Int32)), (.int p0), (.long ((v64 + v67) + v70))])) t → Steps p.tables e below (T69.setTop (mkF m 117 #[.val (.int p0), .val (.int p1), .val (.ref b2), .val (.ref b50), .unset, .unset, .unset, .unset, .unset, .unset, .unset, .unset, .unset, .unset] [(.long v70), (.long (v64 + v67))])) t := by
    intro t k
    show Steps p.tables e below (T69.setTop (mkF m 117 #[.val (.int p0), .val (.int p1), .val (.ref b2), .val (.ref b50), .unset, .unset, .unset, .unset, .unset, .unset, .unset, .unset, .unset, .unset] [(.long v70), (.long (v64 + v67))])) _
    refine XS.ladd X69'.here hx rfl (hb hby at_117) rfl ?_
    show Steps p.tables e below (T69.setTop (mkF m 118 #[.val (.int p0), .val (.int p1), .val (.ref b2), .val (.ref b50), .unset, .unset, .unset, .unset, .unset, .unset, .unset, .unset, .unset, .unset] [(.long ((v64 + v67) + v70))])) _
    refine XS.iloadN X69'.here hx rfl (hb hby at_118) rfl ?_
    show Steps p.tables e below (T69.setTop (mkF m 119 #[.val (.int p0), .val (.int p1), .val (.ref b2), .val (.ref b50), .unset, .unset, .unset, .unset, .unset, .unset, .unset, .unset, .unset, .unset] [(.int p0), (.long ((v64 + v67) + v70))])) _
    refine XS.iconst X69'.here hx rfl (hb hby at_119) ?_
    exact k
  obtain ⟨_, _, ⟨T72, L72, k72, n72⟩, -, X72, ⟨Lc72, hQ72, l72, y72, z72⟩, st72⟩ := Jvm.LawKit.callS X69' hx (y := (⟨"com/example/evotempo/evotempo/problem/OneMaxFitnessPinLaw", "b", "(II)J"⟩ : MethodName)) hown (mvT hZ (hw _ (List.mem_of_getElem? (i := 5) rfl))) (mvT hZ (hw _ (List.mem_of_getElem? (i := 6) rfl))) (mvT hZ (hw _ (List.mem_of_getElem? (i := 3) rfl))) (mvT hZ (hw _ (List.mem_of_getElem? (i := 7) rfl))) (by decide) (backOf (W := 2) (own_rm2 l Z a0 hw [] p0 (3 : Int32) h59) hZ (hw _ (List.mem_of_getElem? (i := 7) rfl)) (hw _ (List.mem_of_getElem? (i := 3) rfl)) (by decide) (by decide)) (g := (mkF m 120 #[.val (.int p0), .val (.int p1), .val (.ref b2), .val (.ref b50), .unset, .unset, .unset, .unset, .unset, .unset, .unset, .unset, .unset, .unset] [(.int (3 : Int32)), (.int p0), (.long ((v64 + v67) + v70))])) rfl (by rw [hml]; rfl) (argsL := [(.int p0), (.int (3 : Int32))]) (rest := [(.long ((v64 + v67) + v70))]) (lenOf own_pd1 rfl) rfl (by show 2 * 0 + _ ≤ _; exact Nat.le_of_eq rfl) (hb hby at_120) (fun _ _ => ⟨rfl, e69, (by decide : 2 + 0 ≤ _), (by decide : 10 + 0 ≤ _)⟩)
  dsimp only [Pt.U, Pt.locs, Pt.cells, Pt.slots] at X72 l72 y72 z72 st72 hQ72
  subst y72 z72
  obtain ⟨rfl, rfl, e72⟩ := hQ72
  have X72' : Stand p l e room_1 s m #[(.int p0), (.int p1)] below meth c T72 L59 2 10 := by rw [show L72 = L59 from by rw [l72]; first | rfl | exact List.append_nil _] at X72; exact X72
  obtain ⟨v73, hv73⟩ : ∃ z : Int64, z = (own_F2 p0 (3 : Int32)) := ⟨_, rfl⟩
  rw [← hv73] at st72
  have st74 : ∀ t, Steps p.tables e below (T72.setTop (mkF m 126 #[.val (.int p0), .val (.int p1), .val (.ref b2), .val (.ref b50), .unset, .unset, .unset, .unset, .unset, .unset, .unset, .unset, .unset, .unset] [(.int (4 : Int32)), (.int p0), (.long (((v64 + v67) + v70) + v73))])) t → Steps p.tables e below (T72.setTop (mkF m 123 #[.val (.int p0), .val (.int p1), .val (.ref b2), .val (.ref b50), .unset, .unset, .unset, .unset, .unset, .unset, .unset, .unset, .unset, .unset] [(.long v73), (.long ((v64 + v67) + v70))])) t := by
    intro t k
    show Steps p.tables e below (T72.setTop (mkF m 123 #[.val (.int p0), .val (.int p1), .val (.ref b2), .val (.ref b50), .unset, .unset, .unset, .unset, .unset, .unset, .unset, .unset, .unset, .unset] [(.long v73), (.long ((v64 + v67) + v70))])) _
    refine XS.ladd X72'.here hx rfl (hb hby at_123) rfl ?_
    show Steps p.tables e below (T72.setTop (mkF m 124 #[.val (.int p0), .val (.int p1), .val (.ref b2), .val (.ref b50), .unset, .unset, .unset, .unset, .unset, .unset, .unset, .unset, .unset, .unset] [(.long (((v64 + v67) + v70) + v73))])) _
    refine XS.iloadN X72'.here hx rfl (hb hby at_124) rfl ?_
    show Steps p.tables e below (T72.setTop (mkF m 125 #[.val (.int p0), .val (.int p1), .val (.ref b2), .val (.ref b50), .unset, .unset, .unset, .unset, .unset, .unset, .unset, .unset, .unset, .unset] [(.int p0), (.long (((v64 + v67) + v70) + v73))])) _
    refine XS.iconst X72'.here hx rfl (hb hby at_125) ?_
    exact k
  obtain ⟨_, _, ⟨T75, L75, k75, n75⟩, -, X75, ⟨Lc75, hQ75, l75, y75, z75⟩, st75⟩ := Jvm.LawKit.callS X72' hx (y := (⟨"com/example/evotempo/evotempo/problem/OneMaxFitnessPinLaw", "b", "(II)J"⟩ : MethodName)) hown (mvT hZ (hw _ (List.mem_of_getElem? (i := 5) rfl))) (mvT hZ (hw _ (List.mem_of_getElem? (i := 6) rfl))) (mvT hZ (hw _ (List.mem_of_getElem? (i := 3) rfl))) (mvT hZ (hw _ (List.mem_of_getElem? (i := 7) rfl))) (by decide) (backOf (W := 2) (own_rm2 l Z a0 hw [] p0 (4 : Int32) h59) hZ (hw _ (List.mem_of_getElem? (i := 7) rfl)) (hw _ (List.mem_of_getElem? (i := 3) rfl)) (by decide) (by decide)) (g := (mkF m 126 #[.val (.int p0), .val (.int p1), .val (.ref b2), .val (.ref b50), .unset, .unset, .unset, .unset, .unset, .unset, .unset, .unset, .unset, .unset] [(.int (4 : Int32)), (.int p0), (.long (((v64 + v67) + v70) + v73))])) rfl (by rw [hml]; rfl) (argsL := [(.int p0), (.int (4 : Int32))]) (rest := [(.long (((v64 + v67) + v70) + v73))]) (lenOf own_pd1 rfl) rfl (by show 2 * 0 + _ ≤ _; exact Nat.le_of_eq rfl) (hb hby at_126) (fun _ _ => ⟨rfl, e72, (by decide : 2 + 0 ≤ _), (by decide : 10 + 0 ≤ _)⟩)
  dsimp only [Pt.U, Pt.locs, Pt.cells, Pt.slots] at X75 l75 y75 z75 st75 hQ75
  subst y75 z75
  obtain ⟨rfl, rfl, e75⟩ := hQ75
  have X75' : Stand p l e room_1 s m #[(.int p0), (.int p1)] below meth c T75 L59 2 10 := by rw [show L75 = L59 from by rw [l75]; first | rfl | exact List.append_nil _] at X75; exact X75
  obtain ⟨v76, hv76⟩ : ∃ z : Int64, z = (own_F2 p0 (4 : Int32)) := ⟨_, rfl⟩
  rw [← hv76] at st75
  have st77 : ∀ t, Steps p.tables e below (T75.setTop (mkF m 132 #[.val (.int p0), .val (.int p1), .val (.ref b2), .val (.ref b50), .unset, .unset, .unset, .unset, .unset, .unset, .unset, .unset, .unset, .unset] [(.int (5 : Int32)), (.int p0), (.long ((((v64 + v67) + v70) + v73) + v76))])) t → Steps p.tables e below (T75.setTop (mkF m 129 #[.val (.int p0), .val (.int p1), .val (.ref b2), .val (.ref b50), .unset, .unset, .unset, .unset, .unset, .unset, .unset, .unset, .unset, .unset] [(.long v76), (.long (((v64 + v67) + v70) + v73))])) t := by
    intro t k
    show Steps p.tables e below (T75.setTop (mkF m 129 #[.val (.int p0), .val (.int p1), .val (.ref b2), .val (.ref b50), .unset, .unset, .unset, .unset, .unset, .unset, .unset, .unset, .unset, .unset] [(.long v76), (.long (((v64 + v67) + v70) + v73))])) _
    refine XS.ladd X75'.here hx rfl (hb hby at_129) rfl ?_
    show Steps p.tables e below (T75.setTop (mkF m 130 #[.val (.int p0), .val (.int p1), .val (.ref b2), .val (.ref b50), .unset, .unset, .unset, .unset, .unset, .unset, .unset, .unset, .unset, .unset] [(.long ((((v64 + v67) + v70) + v73) + v76))])) _
    refine XS.iloadN X75'.here hx rfl (hb hby at_130) rfl ?_
    show Steps p.tables e below (T75.setTop (mkF m 131 #[.val (.int p0), .val (.int p1), .val (.ref b2), .val (.ref b50), .unset, .unset, .unset, .unset, .unset, .unset, .unset, .unset, .unset, .unset] [(.int p0), (.long ((((v64 + v67) + v70) + v73) + v76))])) _
    refine XS.iconst X75'.here hx rfl (hb hby at_131) ?_
    exact k
  obtain ⟨_, _, ⟨T78, L78, k78, n78⟩, -, X78, ⟨Lc78, hQ78, l78, y78, z78⟩, st78⟩ := Jvm.LawKit.callS X75' hx (y := (⟨"com/example/evotempo/evotempo/problem/OneMaxFitnessPinLaw", "b", "(II)J"⟩ : MethodName)) hown (mvT hZ (hw _ (List.mem_of_getElem? (i := 5) rfl))) (mvT hZ (hw _ (List.mem_of_getElem? (i := 6) rfl))) (mvT hZ (hw _ (List.mem_of_getElem? (i := 3) rfl))) (mvT hZ (hw _ (List.mem_of_getElem? (i := 7) rfl))) (by decide) (backOf (W := 2) (own_rm2 l Z a0 hw [] p0 (5 : Int32) h59) hZ (hw _ (List.mem_of_getElem? (i := 7) rfl)) (hw _ (List.mem_of_getElem? (i := 3) rfl)) (by decide) (by decide)) (g := (mkF m 132 #[.val (.int p0), .val (.int p1), .val (.ref b2), .val (.ref b50), .unset, .unset, .unset, .unset, .unset, .unset, .unset, .unset, .unset, .unset] [(.int (5 : Int32)), (.int p0), (.long ((((v64 + v67) + v70) + v73) + v76))])) rfl (by rw [hml]; rfl) (argsL := [(.int p0), (.int (5 : Int32))]) (rest := [(.long ((((v64 + v67) + v70) + v73) + v76))]) (lenOf own_pd1 rfl) rfl (by show 2 * 0 + _ ≤ _; exact Nat.le_of_eq rfl) (hb hby at_132) (fun _ _ => ⟨rfl, e75, (by decide : 2 + 0 ≤ _), (by decide : 10 + 0 ≤ _)⟩)
  dsimp only [Pt.U, Pt.locs, Pt.cells, Pt.slots] at X78 l78 y78 z78 st78 hQ78
  subst y78 z78
  obtain ⟨rfl, rfl, e78⟩ := hQ78
  have X78' : Stand p l e room_1 s m #[(.int p0), (.int p1)] below meth c T78 L59 2 10 := by rw [show L78 = L59 from by rw [l78]; first | rfl | exact List.append_nil _] at X78; exact X78
  obtain ⟨v79, hv79⟩ : ∃ z : Int64, z = (own_F2 p0 (5 : Int32)) := ⟨_, rfl⟩
  rw [← hv79] at st78
  have st80 : ∀ t, Steps p.tables e below (T78.setTop (mkF m 139 #[.val (.int p0), .val (.int p1), .val (.ref b2), .val (.ref b50), .unset, .unset, .unset, .unset, .unset, .unset, .unset, .unset, .unset, .unset] [(.int (6 : Int32)), (.int p0), (.long (((((v64 + v67) + v70) + v73) + v76) + v79))])) t → Steps p.tables e below (T78.setTop (mkF m 135 #[.val (.int p0), .val (.int p1), .val (.ref b2), .val (.ref b50), .unset, .unset, .unset, .unset, .unset, .unset, .unset, .unset, .unset, .unset] [(.long v79), (.long ((((v64 + v67) + v70) + v73) + v76))])) t := by
    intro t k
    show Steps p.tables e below (T78.setTop (mkF m 135 #[.val (.int p0), .val (.int p1), .val (.ref b2), .val (.ref b50), .unset, .unset, .unset, .unset, .unset, .unset, .unset, .unset, .unset, .unset] [(.long v79), (.long ((((v64 + v67) + v70) + v73) + v76))])) _
    refine XS.ladd X78'.here hx rfl (hb hby at_135) rfl ?_
    show Steps p.tables e below (T78.setTop (mkF m 136 #[.val (.int p0), .val (.int p1), .val (.ref b2), .val (.ref b50), .unset, .unset, .unset, .unset, .unset, .unset, .unset, .unset, .unset, .unset] [(.long (((((v64 + v67) + v70) + v73) + v76) + v79))])) _
    refine XS.iloadN X78'.here hx rfl (hb hby at_136) rfl ?_
    show Steps p.tables e below (T78.setTop (mkF m 137 #[.val (.int p0), .val (.int p1), .val (.ref b2), .val (.ref b50), .unset, .unset, .unset, .unset, .unset, .unset, .unset, .unset, .unset, .unset] [(.int p0), (.long (((((v64 + v67) + v70) + v73) + v76) + v79))])) _
    refine XS.bipush X78'.here hx rfl (hb hby at_137) ?_
    exact k
  obtain ⟨_, _, ⟨T81, L81, k81, n81⟩, -, X81, ⟨Lc81, hQ81, l81, y81, z81⟩, st81⟩ := Jvm.LawKit.callS X78' hx (y := (⟨"com/example/evotempo/evotempo/problem/OneMaxFitnessPinLaw", "b", "(II)J"⟩ : MethodName)) hown (mvT hZ (hw _ (List.mem_of_getElem? (i := 5) rfl))) (mvT hZ (hw _ (List.mem_of_getElem? (i := 6) rfl))) (mvT hZ (hw _ (List.mem_of_getElem? (i := 3) rfl))) (mvT hZ (hw _ (List.mem_of_getElem? (i := 7) rfl))) (by decide) (backOf (W := 2) (own_rm2 l Z a0 hw [] p0 (6 : Int32) h59) hZ (hw _ (List.mem_of_getElem? (i := 7) rfl)) (hw _ (List.mem_of_getElem? (i := 3) rfl)) (by decide) (by decide)) (g := (mkF m 139 #[.val (.int p0), .val (.int p1), .val (.ref b2), .val (.ref b50), .unset, .unset, .unset, .unset, .unset, .unset, .unset, .unset, .unset, .unset] [(.int (6 : Int32)), (.int p0), (.long (((((v64 + v67) + v70) + v73) + v76) + v79))])) rfl (by rw [hml]; rfl) (argsL := [(.int p0), (.int (6 : Int32))]) (rest := [(.long (((((v64 + v67) + v70) + v73) + v76) + v79))]) (lenOf own_pd1 rfl) rfl (by show 2 * 0 + _ ≤ _; exact Nat.le_of_eq rfl) (hb hby at_139) (fun _ _ => ⟨rfl, e78, (by decide : 2 + 0 ≤ _), (by decide : 10 + 0 ≤ _)⟩)
  dsimp only [Pt.U, Pt.locs, Pt.cells, Pt.slots] at X81 l81 y81 z81 st81 hQ81
  subst y81 z81
  obtain ⟨rfl, rfl, e81⟩ := hQ81
  have X81' : Stand p l e room_1 s m #[(.int p0), (.int p1)] below meth c T81 L59 2 10 := by rw [show L81 = L59 from by rw [l81]; first | rfl | exact List.append_nil _] at X81; exact X81
  obtain ⟨v82, hv82⟩ : ∃ z : Int64, z = (own_F2 p0 (6 : Int32)) := ⟨_, rfl⟩
  rw [← hv82] at st81
  have st83 : ∀ t, Steps p.tables e below (T81.setTop (mkF m 146 #[.val (.int p0), .val (.int p1), .val (.ref b2), .val (.ref b50), .unset, .unset, .unset, .unset, .unset, .unset, .unset, .unset, .unset, .unset] [(.int (7 : Int32)), (.int p0), (.long ((((((v64 + v67) + v70) + v73) + v76) + v79) + v82))])) t → Steps p.tables e below (T81.setTop (mkF m 142 #[.val (.int p0), .val (.int p1), .val (.ref b2), .val (.ref b50), .unset, .unset, .unset, .unset, .unset, .unset, .unset, .unset, .unset, .unset] [(.long v82), (.long (((((v64 + v67) + v70) + v73) + v76) + v79))])) t := by
    intro t k
    show Steps p.tables e below (T81.setTop (mkF m 142 #[.val (.int p0), .val (.int p1), .val (.ref b2), .val (.ref b50), .unset, .unset, .unset, .unset, .unset, .unset, .unset, .unset, .unset, .unset] [(.long v82), (.long (((((v64 + v67) + v70) + v73) + v76) + v79))])) _
    refine XS.ladd X81'.here hx rfl (hb hby at_142) rfl ?_
    show Steps p.tables e below (T81.setTop (mkF m 143 #[.val (.int p0), .val (.int p1), .val (.ref b2), .val (.ref b50), .unset, .unset, .unset, .unset, .unset, .unset, .unset, .unset, .unset, .unset] [(.long ((((((v64 + v67) + v70) + v73) + v76) + v79) + v82))])) _
    refine XS.iloadN X81'.here hx rfl (hb hby at_143) rfl ?_
    show Steps p.tables e below (T81.setTop (mkF m 144 #[.val (.int p0), .val (.int p1), .val (.ref b2), .val (.ref b50), .unset, .unset, .unset, .unset, .unset, .unset, .unset, .unset, .unset, .unset] [(.int p0), (.long ((((((v64 + v67) + v70) + v73) + v76) + v79) + v82))])) _
    refine XS.bipush X81'.here hx rfl (hb hby at_144) ?_
    exact k
  obtain ⟨_, _, ⟨T84, L84, k84, n84⟩, -, X84, ⟨Lc84, hQ84, l84, y84, z84⟩, st84⟩ := Jvm.LawKit.callS X81' hx (y := (⟨"com/example/evotempo/evotempo/problem/OneMaxFitnessPinLaw", "b", "(II)J"⟩ : MethodName)) hown (mvT hZ (hw _ (List.mem_of_getElem? (i := 5) rfl))) (mvT hZ (hw _ (List.mem_of_getElem? (i := 6) rfl))) (mvT hZ (hw _ (List.mem_of_getElem? (i := 3) rfl))) (mvT hZ (hw _ (List.mem_of_getElem? (i := 7) rfl))) (by decide) (backOf (W := 2) (own_rm2 l Z a0 hw [] p0 (7 : Int32) h59) hZ (hw _ (List.mem_of_getElem? (i := 7) rfl)) (hw _ (List.mem_of_getElem? (i := 3) rfl)) (by decide) (by decide)) (g := (mkF m 146 #[.val (.int p0), .val (.int p1), .val (.ref b2), .val (.ref b50), .unset, .unset, .unset, .unset, .unset, .unset, .unset, .unset, .unset, .unset] [(.int (7 : Int32)), (.int p0), (.long ((((((v64 + v67) + v70) + v73) + v76) + v79) + v82))])) rfl (by rw [hml]; rfl) (argsL := [(.int p0), (.int (7 : Int32))]) (rest := [(.long ((((((v64 + v67) + v70) + v73) + v76) + v79) + v82))]) (lenOf own_pd1 rfl) rfl (by show 2 * 0 + _ ≤ _; exact Nat.le_of_eq rfl) (hb hby at_146) (fun _ _ => ⟨rfl, e81, (by decide : 2 + 0 ≤ _), (by decide : 10 + 0 ≤ _)⟩)
  dsimp only [Pt.U, Pt.locs, Pt.cells, Pt.slots] at X84 l84 y84 z84 st84 hQ84
  subst y84 z84
  obtain ⟨rfl, rfl, e84⟩ := hQ84
  have X84' : Stand p l e room_1 s m #[(.int p0), (.int p1)] below meth c T84 L59 2 10 := by rw [show L84 = L59 from by rw [l84]; first | rfl | exact List.append_nil _] at X84; exact X84
  obtain ⟨v85, hv85⟩ : ∃ z : Int64, z = (own_F2 p0 (7 : Int32)) := ⟨_, rfl⟩
  rw [← hv85] at st84
  have st86 : ∀ t, Steps p.tables e below (T84.setTop (mkF m 153 #[.val (.int p0), .val (.int p1), .val (.ref b2), .val (.ref b50), .unset, .unset, .unset, .unset, .unset, .unset, .unset, .unset, .unset, .unset] [(.int (8 : Int32)), (.int p0), (.long (((((((v64 + v67) + v70) + v73) + v76) + v79) + v82) + v85))])) t → Steps p.tables e below (T84.setTop (mkF m 149 #[.val (.int p0), .val (.int p1), .val (.ref b2), .val (.ref b50), .unset, .unset, .unset, .unset, .unset, .unset, .unset, .unset, .unset, .unset] [(.long v85), (.long ((((((v64 + v67) + v70) + v73) + v76) + v79) + v82))])) t := by
    intro t k
    show Steps p.tables e below (T84.setTop (mkF m 149 #[.val (.int p0), .val (.int p1), .val (.ref b2), .val (.ref b50), .unset, .unset, .unset, .unset, .unset, .unset, .unset, .unset, .unset, .unset] [(.long v85), (.long ((((((v64 + v67) + v70) + v73) + v76) + v79) + v82))])) _
    refine XS.ladd X84'.here hx rfl (hb hby at_149) rfl ?_
    show Steps p.tables e below (T84.setTop (mkF m 150 #[.val (.int p0), .val (.int p1), .val (.ref b2), .val (.ref b50), .unset, .unset, .unset, .unset, .unset, .unset, .unset, .unset, .unset, .unset] [(.long (((((((v64 + v67) + v70) + v73) + v76) + v79) + v82) + v85))])) _
    refine XS.iloadN X84'.here hx rfl (hb hby at_150) rfl ?_
    show Steps p.tables e below (T84.setTop (mkF m 151 #[.val (.int p0), .val (.int p1), .val (.ref b2), .val (.ref b50), .unset, .unset, .unset, .unset, .unset, .unset, .unset, .unset, .unset, .unset] [(.int p0), (.long (((((((v64 + v67) + v70) + v73) + v76) + v79) + v82) + v85))])) _
    refine XS.bipush X84'.here hx rfl (hb hby at_151) ?_
    exact k
  obtain ⟨_, _, ⟨T87, L87, k87, n87⟩, -, X87, ⟨Lc87, hQ87, l87, y87, z87⟩, st87⟩ := Jvm.LawKit.callS X84' hx (y := (⟨"com/example/evotempo/evotempo/problem/OneMaxFitnessPinLaw", "b", "(II)J"⟩ : MethodName)) hown (mvT hZ (hw _ (List.mem_of_getElem? (i := 5) rfl))) (mvT hZ (hw _ (List.mem_of_getElem? (i := 6) rfl))) (mvT hZ (hw _ (List.mem_of_getElem? (i := 3) rfl))) (mvT hZ (hw _ (List.mem_of_getElem? (i := 7) rfl))) (by decide) (backOf (W := 2) (own_rm2 l Z a0 hw [] p0 (8 : Int32) h59) hZ (hw _ (List.mem_of_getElem? (i := 7) rfl)) (hw _ (List.mem_of_getElem? (i := 3) rfl)) (by decide) (by decide)) (g := (mkF m 153 #[.val (.int p0), .val (.int p1), .val (.ref b2), .val (.ref b50), .unset, .unset, .unset, .unset, .unset, .unset, .unset, .unset, .unset, .unset] [(.int (8 : Int32)), (.int p0), (.long (((((((v64 + v67) + v70) + v73) + v76) + v79) + v82) + v85))])) rfl (by rw [hml]; rfl) (argsL := [(.int p0), (.int (8 : Int32))]) (rest := [(.long (((((((v64 + v67) + v70) + v73) + v76) + v79) + v82) + v85))]) (lenOf own_pd1 rfl) rfl (by show 2 * 0 + _ ≤ _; exact Nat.le_of_eq rfl) (hb hby at_153) (fun _ _ => ⟨rfl, e84, (by decide : 2 + 0 ≤ _), (by decide : 10 + 0 ≤ _)⟩)
  dsimp only [Pt.U, Pt.locs, Pt.cells, Pt.slots] at X87 l87 y87 z87 st87 hQ87
  subst y87 z87
  obtain ⟨rfl, rfl, e87⟩ := hQ87
  have X87' : Stand p l e room_1 s m #[(.int p0), (.int p1)] below meth c T87 L59 2 10 := by rw [show L87 = L59 from by rw [l87]; first | rfl | exact List.append_nil _] at X87; exact X87
  obtain ⟨v88, hv88⟩ : ∃ z : Int64, z = (own_F2 p0 (8 : Int32)) := ⟨_, rfl⟩
  rw [← hv88] at st87
  obtain ⟨v89, hv89⟩ : ∃ z : Int64, z = ((((((((v64 + v67) + v70) + v73) + v76) + v79) + v82) + v85) + v88) := ⟨_, rfl⟩
  have st90 : ∀ t, Steps p.tables e below (T87.setTop (mkF m 159 #[.val (.int p0), .val (.int p1), .val (.ref b2), .val (.ref b50), .val (.long v89), .second, .unset, .unset, .unset, .unset, .unset, .unset, .unset, .unset] [])) t → Steps p.tables e below (T87.setTop (mkF m 156 #[.val (.int p0), .val (.int p1), .val (.ref b2), .val (.ref b50), .unset, .unset, .unset, .unset, .unset, .unset, .unset, .unset, .unset, .unset] [(.long v88), (.long (((((((v64 + v67) + v70) + v73) + v76) + v79) + v82) + v85))])) t := by
    rw [hv89]
    intro t k
    show Steps p.tables e below (T87.setTop (mkF m 156 #[.val (.int p0), .val (.int p1), .val (.ref b2), .val (.ref b50), .unset, .unset, .unset, .unset, .unset, .unset, .unset, .unset, .unset, .unset] [(.long v88), (.long (((((((v64 + v67) + v70) + v73) + v76) + v79) + v82) + v85))])) _
    refine XS.ladd X87'.here hx rfl (hb hby at_156) rfl ?_
    show Steps p.tables e below (T87.setTop (mkF m 157 #[.val (.int p0), .val (.int p1), .val (.ref b2), .val (.ref b50), .unset, .unset, .unset, .unset, .unset, .unset, .unset, .unset, .unset, .unset] [(.long ((((((((v64 + v67) + v70) + v73) + v76) + v79) + v82) + v85) + v88))])) _
    refine XS.lstore X87'.here hx rfl (hb hby at_157) rfl (l' := #[.val (.int p0), .val (.int p1), .val (.ref b2), .val (.ref b50), .val (.long ((((((((v64 + v67) + v70) + v73) + v76) + v79) + v82) + v85) + v88)), .second, .unset, .unset, .unset, .unset, .unset, .unset, .unset, .unset]) rfl ?_
    exact k
  obtain ⟨v91, hv91⟩ : ∃ z : Int64, z = ((p1 &&& (1 : Int32)).toInt64) := ⟨_, rfl⟩
  have st92 : ∀ t, Steps p.tables e below (T87.setTop (mkF m 165 #[.val (.int p0), .val (.int p1), .val (.ref b2), .val (.ref b50), .val (.long v89), .second, .val (.long v91), .second, .unset, .unset, .unset, .unset, .unset, .unset] [])) t → Steps p.tables e below (T87.setTop (mkF m 159 #[.val (.int p0), .val (.int p1), .val (.ref b2), .val (.ref b50), .val (.long v89), .second, .unset, .unset, .unset, .unset, .unset, .unset, .unset, .unset] [])) t := by
    rw [hv91]
    intro t k
    show Steps p.tables e below (T87.setTop (mkF m 159 #[.val (.int p0), .val (.int p1), .val (.ref b2), .val (.ref b50), .val (.long v89), .second, .unset, .unset, .unset, .unset, .unset, .unset, .unset, .unset] [])) _
    refine XS.iloadN X87'.here hx rfl (hb hby at_159) rfl ?_
    show Steps p.tables e below (T87.setTop (mkF m 160 #[.val (.int p0), .val (.int p1), .val (.ref b2), .val (.ref b50), .val (.long v89), .second, .unset, .unset, .unset, .unset, .unset, .unset, .unset, .unset] [(.int p1)])) _
    refine XS.iconst X87'.here hx rfl (hb hby at_160) ?_
    show Steps p.tables e below (T87.setTop (mkF m 161 #[.val (.int p0), .val (.int p1), .val (.ref b2), .val (.ref b50), .val (.long v89), .second, .unset, .unset, .unset, .unset, .unset, .unset, .unset, .unset] [(.int (1 : Int32)), (.int p1)])) _
    refine XS.iand X87'.here hx rfl (hb hby at_161) rfl ?_
    show Steps p.tables e below (T87.setTop (mkF m 162 #[.val (.int p0), .val (.int p1), .val (.ref b2), .val (.ref b50), .val (.long v89), .second, .unset, .unset, .unset, .unset, .unset, .unset, .unset, .unset] [(.int (p1 &&& (1 : Int32)))])) _
    refine XS.i2l X87'.here hx rfl (hb hby at_162) rfl ?_
    show Steps p.tables e below (T87.setTop (mkF m 163 #[.val (.int p0), .val (.int p1), .val (.ref b2), .val (.ref b50), .val (.long v89), .second, .unset, .unset, .unset, .unset, .unset, .unset, .unset, .unset] [(.long ((p1 &&& (1 : Int32)).toInt64))])) _
    refine XS.lstore X87'.here hx rfl (hb hby at_163) rfl (l' := #[.val (.int p0), .val (.int p1), .val (.ref b2), .val (.ref b50), .val (.long v89), .second, .val (.long ((p1 &&& (1 : Int32)).toInt64)), .second, .unset, .unset, .unset, .unset, .unset, .unset]) rfl ?_
    exact k
  obtain ⟨T93, h93, b93, X93, e93, K93, q93, E93, D93, st93⟩ := own_new X87' hx hZ hown (hw _ (List.mem_of_getElem? (i := 8) rfl)) (hw _ (List.mem_of_getElem? (i := 9) rfl)) (hw _ (List.mem_of_getElem? (i := 10) rfl)) e87 (g := (mkF m 165 #[.val (.int p0), .val (.int p1), .val (.ref b2), .val (.ref b50), .val (.long v89), .second, .val (.long v91), .second, .unset, .unset, .unset, .unset, .unset, .unset] [])) rfl (hb hby at_165) (by decide) (by decide)
  have X93 : Stand p l e room_1 s m #[(.int p0), (.int p1)] below meth c T93 L59 3 11 := X93
  have F93_n : Fld Z h93 b93 "com/example/evotempo/evotempo/problem/OneMax" "n" "I" (.int (0 : Int32)) := D93 (Or.inr (hw _ (List.mem_of_getElem? (i := 18) rfl))) (ty := .int) (by decide)
  have ne_b2_b93 : b2 ≠ b93 := own_ne f60.lt q93
  have ne_b50_b93 : b50 ≠ b93 := own_ne V59.lt q93
  have g_b93 : n0 ≤ b93 := Nat.le_trans Zp61 q93
  have f94 : own_IA Z h93 b2 .boolean ([(nar .boolean v6), (nar .boolean v11), (nar .boolean v16), (nar .boolean v21), (nar .boolean v26), (nar .boolean v31), (nar .boolean v36), (nar .boolean v41), (nar .boolean v46)] : List Int32) := f60.keep K93 nin0
  have f95 : own_IA Z h93 b50 .boolean ([(nar .boolean v57)] : List Int32) := V59.keep K93 nin0
  have Zp96 : n0 ≤ h93.size := Nat.le_trans Zp61 K93.1
  have st97 : ∀ t, Steps p.tables e below (T93.setTop (mkF m 171 #[.val (.int p0), .val (.int p1), .val (.ref b2), .val (.ref b50), .val (.long v89), .second, .val (.long v91), .second, .unset, .unset, .unset, .unset, .unset, .unset] [(.int (9 : Int32)), (.ref b93), (.ref b93)])) t → Steps p.tables e below (T93.setTop (mkF m 168 #[.val (.int p0), .val (.int p1), .val (.ref b2), .val (.ref b50), .val (.long v89), .second, .val (.long v91), .second, .unset, .unset, .unset, .unset, .unset, .unset] [(.ref b93)])) t := by
    intro t k
    show Steps p.tables e below (T93.setTop (mkF m 168 #[.val (.int p0), .val (.int p1), .val (.ref b2), .val (.ref b50), .val (.long v89), .second, .val (.long v91), .second, .unset, .unset, .unset, .unset, .unset, .unset] [(.ref b93)])) _
    refine XS.dup X93.here hx rfl (hb hby at_168) rfl rfl ?_
    show Steps p.tables e below (T93.setTop (mkF m 169 #[.val (.int p0), .val (.int p1), .val (.ref b2), .val (.ref b50), .val (.long v89), .second, .val (.long v91), .second, .unset, .unset, .unset, .unset, .unset, .unset] [(.ref b93), (.ref b93)])) _
    refine XS.bipush X93.here hx rfl (hb hby at_169) ?_
    exact k
  obtain ⟨_, _, ⟨T98, L98, k98, n98⟩, -, X98, ⟨Lc98, hQ98, l98, y98, z98⟩, st98⟩ := X93.specialBack hx (y := (⟨"com/example/evotempo/evotempo/problem/OneMax", "<init>", "(I)V"⟩ : MethodName)) rfl hown (mvT hZ (hw _ (List.mem_of_getElem? (i := 11) rfl))) (mvT hZ (hw _ (List.mem_of_getElem? (i := 12) rfl))) (mvT hZ (hw _ (List.mem_of_getElem? (i := 13) rfl))) (by decide) (backOf (W := 1) (own_rm3 l Z a0 hw [] b93 (9 : Int32) h93 n0 Zp96 E93 F93_n g_b93 (by decide)) hZ (hw _ (List.mem_of_getElem? (i := 13) rfl)) (hw _ (List.mem_of_getElem? (i := 10) rfl)) (by decide) (by decide)) (g := (mkF m 171 #[.val (.int p0), .val (.int p1), .val (.ref b2), .val (.ref b50), .val (.long v89), .second, .val (.long v91), .second, .unset, .unset, .unset, .unset, .unset, .unset] [(.int (9 : Int32)), (.ref b93), (.ref b93)])) rfl (by rw [hml]; rfl) (Steps.refl _) (a := b93) (argsL := [(.int (9 : Int32))]) (rest := [(.ref b93)]) (lenOf own_pd2 rfl) rfl (by show 2 * 0 + _ ≤ _; exact Nat.le_of_eq rfl) (hb hby at_171) (fun _ _ => ⟨rfl, e93, (by decide : 3 + 0 ≤ _), (by decide : 11 + 0 ≤ _)⟩)
  dsimp only [Pt.U, Pt.locs, Pt.cells, Pt.slots] at X98 l98 y98 z98 st98 hQ98
  subst y98 z98
  obtain ⟨rfl, Nq98, K98, Q98_0, Q98_1, -⟩ := hQ98
  have N98 : Fr n0 L98 := by rw [l98]; exact Fr.app N59 Nq98
  have X98' : Stand p l e room_1 s m #[(.int p0), (.int p1)] below meth c T98 L98 3 11 := X98
  have f99 : own_IA Z T98.heap b2 .boolean ([(nar .boolean v6), (nar .boolean v11), (nar .boolean v16), (nar .boolean v21), (nar .boolean v26), (nar .boolean v31), (nar .boolean v36), (nar .boolean v41), (nar .boolean v46)] : List Int32) := f94.keep K98 (ninS ne_b2_b93 nin0)
  have f100 : own_IA Z T98.heap b50 .boolean ([(nar .boolean v57)] : List Int32) := f95.keep K98 (ninS ne_b50_b93 nin0)
  have Zp101 : n0 ≤ T98.heap.size := Nat.le_trans Zp96 K98.1
  have st98 : ∀ t, Steps p.tables e below (T98.setTop (mkF m 174 #[.val (.int p0), .val (.int p1), .val (.ref b2), .val (.ref b50), .val (.long v89), .second, .val (.long v91), .second, .unset, .unset, .unset, .unset, .unset, .unset] [(.ref b93)])) t → Steps p.tables e below (T93.setTop (mkF m 171 #[.val (.int p0), .val (.int p1), .val (.ref b2), .val (.ref b50), .val (.long v89), .second, .val (.long v91), .second, .unset, .unset, .unset, .unset, .unset, .unset] [(.int (9 : Int32)), (.ref b93), (.ref b93)])) t := fun t k => st98.trans k
  have st102 : ∀ t, Steps p.tables e below (T98.setTop (mkF m 176 #[.val (.int p0), .val (.int p1), .val (.ref b2), .val (.ref b50), .val (.long v89), .second, .val (.long v91), .second, .val (.ref b93), .unset, .unset, .unset, .unset, .unset] [])) t → Steps p.tables e below (T98.setTop (mkF m 174 #[.val (.int p0), .val (.int p1), .val (.ref b2), .val (.ref b50), .val (.long v89), .second, .val (.long v91), .second, .unset, .unset, .unset, .unset, .unset, .unset] [(.ref b93)])) t := by
    intro t k
    show Steps p.tables e below (T98.setTop (mkF m 174 #[.val (.int p0), .val (.int p1), .val (.ref b2), .val (.ref b50), .val (.long v89), .second, .val (.long v91), .second, .unset, .unset, .unset, .unset, .unset, .unset] [(.ref b93)])) _
    refine XS.astore X98'.here hx rfl (hb hby at_174) rfl rfl (l' := #[.val (.int p0), .val (.int p1), .val (.ref b2), .val (.ref b50), .val (.long v89), .second, .val (.long v91), .second, .val (.ref b93), .unset, .unset, .unset, .unset, .unset]) rfl ?_
    exact k
  obtain ⟨T103, h103, b103, X103, e103, K103, q103, E103, D103, st103⟩ := own_new X98' hx hZ hown (hw _ (List.mem_of_getElem? (i := 8) rfl)) (hw _ (List.mem_of_getElem? (i := 9) rfl)) (hw _ (List.mem_of_getElem? (i := 10) rfl)) (rfl : T98.heap = T98.heap) (g := (mkF m 176 #[.val (.int p0), .val (.int p1), .val (.ref b2), .val (.ref b50), .val (.long v89), .second, .val (.long v91), .second, .val (.ref b93), .unset, .unset, .unset, .unset, .unset] [])) rfl (hb hby at_176) (by decide) (by decide)
  have X103 : Stand p l e room_1 s m #[(.int p0), (.int p1)] below meth c T103 L98 4 12 := X103
  have F103_n : Fld Z h103 b103 "com/example/evotempo/evotempo/problem/OneMax" "n" "I" (.int (0 : Int32)) := D103 (Or.inr (hw _ (List.mem_of_getElem? (i := 18) rfl))) (ty := .int) (by decide)
  have ne_b2_b103 : b2 ≠ b103 := own_ne f99.lt q103
  have ne_b50_b103 : b50 ≠ b103 := own_ne f100.lt q103
  have ne_b93_b103 : b93 ≠ b103 := own_ne Q98_0.lt q103
  have g_b103 : n0 ≤ b103 := Nat.le_trans Zp101 q103
  have f104 : own_IA Z h103 b2 .boolean ([(nar .boolean v6), (nar .boolean v11), (nar .boolean v16), (nar .boolean v21), (nar .boolean v26), (nar .boolean v31), (nar .boolean v36), (nar .boolean v41), (nar .boolean v46)] : List Int32) := f99.keep K103 nin0
  have f105 : own_IA Z h103 b50 .boolean ([(nar .boolean v57)] : List Int32) := f100.keep K103 nin0
  have f106 : Exa Z h103 b93 "com/example/evotempo/evotempo/problem/OneMax" := Q98_0.keep K103
  have f107 : Fld Z h103 b93 "com/example/evotempo/evotempo/problem/OneMax" "n" "I" (.int (9 : Int32)) := Q98_1.keep K103 nin0
  have Zp108 : n0 ≤ h103.size := Nat.le_trans Zp101 K103.1
  have st109 : ∀ t, Steps p.tables e below (T103.setTop (mkF m 181 #[.val (.int p0), .val (.int p1), .val (.ref b2), .val (.ref b50), .val (.long v89), .second, .val (.long v91), .second, .val (.ref b93), .unset, .unset, .unset, .unset, .unset] [(.int (1 : Int32)), (.ref b103), (.ref b103)])) t → Steps p.tables e below (T103.setTop (mkF m 179 #[.val (.int p0), .val (.int p1), .val (.ref b2), .val (.ref b50), .val (.long v89), .second, .val (.long v91), .second, .val (.ref b93), .unset, .unset, .unset, .unset, .unset] [(.ref b103)])) t := by
    intro t k
    show Steps p.tables e below (T103.setTop (mkF m 179 #[.val (.int p0), .val (.int p1), .val (.ref b2), .val (.ref b50), .val (.long v89), .second, .val (.long v91), .second, .val (.ref b93), .unset, .unset, .unset, .unset, .unset] [(.ref b103)])) _
    refine XS.dup X103.here hx rfl (hb hby at_179) rfl rfl ?_
    show Steps p.tables e below (T103.setTop (mkF m 180 #[.val (.int p0), .val (.int p1), .val (.ref b2), .val (.ref b50), .val (.long v89), .second, .val (.long v91), .second, .val (.ref b93), .unset, .unset, .unset, .unset, .unset] [(.ref b103), (.ref b103)])) _
    refine XS.iconst X103.here hx rfl (hb hby at_180) ?_
    exact k
  obtain ⟨_, _, ⟨T110, L110, k110, n110⟩, -, X110, ⟨Lc110, hQ110, l110, y110, z110⟩, st110⟩ := X103.specialBack hx (y := (⟨"com/example/evotempo/evotempo/problem/OneMax", "<init>", "(I)V"⟩ : MethodName)) rfl hown (mvT hZ (hw _ (List.mem_of_getElem? (i := 11) rfl))) (mvT hZ (hw _ (List.mem_of_getElem? (i := 12) rfl))) (mvT hZ (hw _ (List.mem_of_getElem? (i := 13) rfl))) (by decide) (backOf (W := 1) (own_rm3 l Z a0 hw [] b103 (1 : Int32) h103 n0 Zp108 E103 F103_n g_b103 (by decide)) hZ (hw _ (List.mem_of_getElem? (i := 13) rfl)) (hw _ (List.mem_of_getElem? (i := 10) rfl)) (by decide) (by decide)) (g := (mkF m 181 #[.val (.int p0), .val (.int p1), .val (.ref b2), .val (.ref b50), .val (.long v89), .second, .val (.long v91), .second, .val (.ref b93), .unset, .unset, .unset, .unset, .unset] [(.int (1 : Int32)), (.ref b103), (.ref b103)])) rfl (by rw [hml]; rfl) (Steps.refl _) (a := b103) (argsL := [(.int (1 : Int32))]) (rest := [(.ref b103)]) (lenOf own_pd2 rfl) rfl (by show 2 * 0 + _ ≤ _; exact Nat.le_of_eq rfl) (hb hby at_181) (fun _ _ => ⟨rfl, e103, (by decide : 4 + 0 ≤ _), (by decide : 12 + 0 ≤ _)⟩)
  dsimp only [Pt.U, Pt.locs, Pt.cells, Pt.slots] at X110 l110 y110 z110 st110 hQ110
  subst y110 z110
  obtain ⟨rfl, Nq110, K110, Q110_0, Q110_1, -⟩ := hQ110
  have N110 : Fr n0 L110 := by rw [l110]; exact Fr.app N98 Nq110
  have X110' : Stand p l e room_1 s m #[(.int p0), (.int p1)] below meth c T110 L110 4 12 := X110
  have f111 : own_IA Z T110.heap b2 .boolean ([(nar .boolean v6), (nar .boolean v11), (nar .boolean v16), (nar .boolean v21), (nar .boolean v26), (nar .boolean v31), (nar .boolean v36), (nar .boolean v41), (nar .boolean v46)] : List Int32) := f104.keep K110 (ninS ne_b2_b103 nin0)
  have f112 : own_IA Z T110.heap b50 .boolean ([(nar .boolean v57)] : List Int32) := f105.keep K110 (ninS ne_b50_b103 nin0)
  have f113 : Exa Z T110.heap b93 "com/example/evotempo/evotempo/problem/OneMax" := f106.keep K110
  have f114 : Fld Z T110.heap b93 "com/example/evotempo/evotempo/problem/OneMax" "n" "I" (.int (9 : Int32)) := f107.keep K110 (ninS ne_b93_b103 nin0)
  have Zp115 : n0 ≤ T110.heap.size := Nat.le_trans Zp108 K110.1
  have st110 : ∀ t, Steps p.tables e below (T110.setTop (mkF m 184 #[.val (.int p0), .val (.int p1), .val (.ref b2), .val (.ref b50), .val (.long v89), .second, .val (.long v91), .second, .val (.ref b93), .unset, .unset, .unset, .unset, .unset] [(.ref b103)])) t → Steps p.tables e below (T103.setTop (mkF m 181 #[.val (.int p0), .val (.int p1), .val (.ref b2), .val (.ref b50), .val (.long v89), .second, .val (.long v91), .second, .val (.ref b93), .unset, .unset, .unset, .unset, .unset] [(.int (1 : Int32)), (.ref b103), (.ref b103)])) t := fun t k => st110.trans k
  have st116 : ∀ t, Steps p.tables e below (T110.setTop (mkF m 189 #[.val (.int p0), .val (.int p1), .val (.ref b2), .val (.ref b50), .val (.long v89), .second, .val (.long v91), .second, .val (.ref b93), .val (.ref b103), .unset, .unset, .unset, .unset] [(.ref b2), (.ref b93)])) t → Steps p.tables e below (T110.setTop (mkF m 184 #[.val (.int p0), .val (.int p1), .val (.ref b2), .val (.ref b50), .val (.long v89), .second, .val (.long v91), .second, .val (.ref b93), .unset, .unset, .unset, .unset, .unset] [(.ref b103)])) t := by
    intro t k
    show Steps p.tables e below (T110.setTop (mkF m 184 #[.val (.int p0), .val (.int p1), .val (.ref b2), .val (.ref b50), .val (.long v89), .second, .val (.long v91), .second, .val (.ref b93), .unset, .unset, .unset, .unset, .unset] [(.ref b103)])) _
    refine XS.astore X110'.here hx rfl (hb hby at_184) rfl rfl (l' := #[.val (.int p0), .val (.int p1), .val (.ref b2), .val (.ref b50), .val (.long v89), .second, .val (.long v91), .second, .val (.ref b93), .val (.ref b103), .unset, .unset, .unset, .unset]) rfl ?_
    show Steps p.tables e below (T110.setTop (mkF m 186 #[.val (.int p0), .val (.int p1), .val (.ref b2), .val (.ref b50), .val (.long v89), .second, .val (.long v91), .second, .val (.ref b93), .val (.ref b103), .unset, .unset, .unset, .unset] [])) _
    refine XS.aload X110'.here hx rfl (hb hby at_186) rfl rfl ?_
    show Steps p.tables e below (T110.setTop (mkF m 188 #[.val (.int p0), .val (.int p1), .val (.ref b2), .val (.ref b50), .val (.long v89), .second, .val (.long v91), .second, .val (.ref b93), .val (.ref b103), .unset, .unset, .unset, .unset] [(.ref b93)])) _
    refine XS.aloadN X110'.here hx rfl (hb hby at_188) rfl rfl ?_
    exact k
  obtain ⟨cq117, kq117, q117a, q117b, q117c⟩ := isOf hZ (rfl : T110.heap = T110.heap) f113
  obtain ⟨_, _, ⟨T117, L117, k117, n117⟩, -, X117, ⟨Lc117, hQ117, l117, y117, z117⟩, st117⟩ := X110'.virtualBack hx (y := (⟨"com/example/evotempo/evotempo/problem/OneMax", "fitness", "([Z)J"⟩ : MethodName)) (z := (⟨"com/example/evotempo/evotempo/problem/OneMax", "fitness", "([Z)J"⟩ : MethodName)) hown (mvT hZ (hw _ (List.mem_of_getElem? (i := 19) rfl))) (mvT hZ (hw _ (List.mem_of_getElem? (i := 20) rfl))) (notFace_of_selects (args := #[]) (mvT hZ (hw _ (List.mem_of_getElem? (i := 22) rfl)))) (mvT hZ (hw _ (List.mem_of_getElem? (i := 22) rfl))) (mvT hZ (hw _ (List.mem_of_getElem? (i := 21) rfl))) (by decide) (backOf (W := 0) (own_rm5 l Z a0 hw [] b93 b2 ([(nar .boolean v6), (nar .boolean v11), (nar .boolean v16), (nar .boolean v21), (nar .boolean v26), (nar .boolean v31), (nar .boolean v36), (nar .boolean v41), (nar .boolean v46)] : List Int32) T110.heap n0 Zp115 f111) hZ (hw _ (List.mem_of_getElem? (i := 23) rfl)) (hw _ (List.mem_of_getElem? (i := 10) rfl)) (by decide) (by decide)) q117a q117c (g := (mkF m 189 #[.val (.int p0), .val (.int p1), .val (.ref b2), .val (.ref b50), .val (.long v89), .second, .val (.long v91), .second, .val (.ref b93), .val (.ref b103), .unset, .unset, .unset, .unset] [(.ref b2), (.ref b93)])) rfl (by rw [hml]; rfl) (Steps.refl _) (argsL := [(.ref b2)]) (rest := []) (lenOf own_pd3 rfl) rfl (by show 2 * 0 + _ ≤ _; exact Nat.le_of_eq rfl) (hb hby at_189) (fun _ _ => ⟨rfl, (rfl : T110.heap = T110.heap), (by decide : 4 + 0 ≤ _), (by decide : 12 + 0 ≤ _)⟩)
  dsimp only [Pt.U, Pt.locs, Pt.cells, Pt.slots] at X117 l117 y117 z117 st117 hQ117
  subst y117 z117
  obtain ⟨rfl, rfl, e117⟩ := hQ117
  have X117' : Stand p l e room_1 s m #[(.int p0), (.int p1)] below meth c T117 L110 4 12 := by rw [show L117 = L110 from by rw [l117]; first | rfl | exact List.append_nil _] at X117; exact X117
  have st117 : ∀ t, Steps p.tables e below (T117.setTop (mkF m 192 #[.val (.int p0), .val (.int p1), .val (.ref b2), .val (.ref b50), .val (.long v89), .second, .val (.long v91), .second, .val (.ref b93), .val (.ref b103), .unset, .unset, .unset, .unset] [(.long (own_F5 ([(nar .boolean v6), (nar .boolean v11), (nar .boolean v16), (nar .boolean v21), (nar .boolean v26), (nar .boolean v31), (nar .boolean v36), (nar .boolean v41), (nar .boolean v46)] : List Int32)))])) t → Steps p.tables e below (T110.setTop (mkF m 189 #[.val (.int p0), .val (.int p1), .val (.ref b2), .val (.ref b50), .val (.long v89), .second, .val (.long v91), .second, .val (.ref b93), .val (.ref b103), .unset, .unset, .unset, .unset] [(.ref b2), (.ref b93)])) t := fun t k => st117.trans k
  obtain ⟨v118, hv118⟩ : ∃ z : Int64, z = (own_F5 ([(nar .boolean v6), (nar .boolean v11), (nar .boolean v16), (nar .boolean v21), (nar .boolean v26), (nar .boolean v31), (nar .boolean v36), (nar .boolean v41), (nar .boolean v46)] : List Int32)) := ⟨_, rfl⟩
  rw [← hv118] at st117
  have st119 : ∀ t, Steps p.tables e below (T117.setTop (mkF m 197 #[.val (.int p0), .val (.int p1), .val (.ref b2), .val (.ref b50), .val (.long v89), .second, .val (.long v91), .second, .val (.ref b93), .val (.ref b103), .val (.long v118), .second, .unset, .unset] [(.ref b50), (.ref b103)])) t → Steps p.tables e below (T117.setTop (mkF m 192 #[.val (.int p0), .val (.int p1), .val (.ref b2), .val (.ref b50), .val (.long v89), .second, .val (.long v91), .second, .val (.ref b93), .val (.ref b103), .unset, .unset, .unset, .unset] [(.long v118)])) t := by
    intro t k
    show Steps p.tables e below (T117.setTop (mkF m 192 #[.val (.int p0), .val (.int p1), .val (.ref b2), .val (.ref b50), .val (.long v89), .second, .val (.long v91), .second, .val (.ref b93), .val (.ref b103), .unset, .unset, .unset, .unset] [(.long v118)])) _
    refine XS.lstore X117'.here hx rfl (hb hby at_192) rfl (l' := #[.val (.int p0), .val (.int p1), .val (.ref b2), .val (.ref b50), .val (.long v89), .second, .val (.long v91), .second, .val (.ref b93), .val (.ref b103), .val (.long v118), .second, .unset, .unset]) rfl ?_
    show Steps p.tables e below (T117.setTop (mkF m 194 #[.val (.int p0), .val (.int p1), .val (.ref b2), .val (.ref b50), .val (.long v89), .second, .val (.long v91), .second, .val (.ref b93), .val (.ref b103), .val (.long v118), .second, .unset, .unset] [])) _
    refine XS.aload X117'.here hx rfl (hb hby at_194) rfl rfl ?_
    show Steps p.tables e below (T117.setTop (mkF m 196 #[.val (.int p0), .val (.int p1), .val (.ref b2), .val (.ref b50), .val (.long v89), .second, .val (.long v91), .second, .val (.ref b93), .val (.ref b103), .val (.long v118), .second, .unset, .unset] [(.ref b103)])) _
    refine XS.aloadN X117'.here hx rfl (hb hby at_196) rfl rfl ?_
    exact k
  obtain ⟨cq120, kq120, q120a, q120b, q120c⟩ := isOf hZ e117 Q110_0
  obtain ⟨_, _, ⟨T120, L120, k120, n120⟩, -, X120, ⟨Lc120, hQ120, l120, y120, z120⟩, st120⟩ := X117'.virtualBack hx (y := (⟨"com/example/evotempo/evotempo/problem/OneMax", "fitness", "([Z)J"⟩ : MethodName)) (z := (⟨"com/example/evotempo/evotempo/problem/OneMax", "fitness", "([Z)J"⟩ : MethodName)) hown (mvT hZ (hw _ (List.mem_of_getElem? (i := 19) rfl))) (mvT hZ (hw _ (List.mem_of_getElem? (i := 20) rfl))) (notFace_of_selects (args := #[]) (mvT hZ (hw _ (List.mem_of_getElem? (i := 22) rfl)))) (mvT hZ (hw _ (List.mem_of_getElem? (i := 22) rfl))) (mvT hZ (hw _ (List.mem_of_getElem? (i := 21) rfl))) (by decide) (backOf (W := 0) (own_rm5 l Z a0 hw [] b103 b50 ([(nar .boolean v57)] : List Int32) T110.heap n0 Zp115 f112) hZ (hw _ (List.mem_of_getElem? (i := 23) rfl)) (hw _ (List.mem_of_getElem? (i := 10) rfl)) (by decide) (by decide)) q120a q120c (g := (mkF m 197 #[.val (.int p0), .val (.int p1), .val (.ref b2), .val (.ref b50), .val (.long v89), .second, .val (.long v91), .second, .val (.ref b93), .val (.ref b103), .val (.long v118), .second, .unset, .unset] [(.ref b50), (.ref b103)])) rfl (by rw [hml]; rfl) (Steps.refl _) (argsL := [(.ref b50)]) (rest := []) (lenOf own_pd3 rfl) rfl (by show 2 * 0 + _ ≤ _; exact Nat.le_of_eq rfl) (hb hby at_197) (fun _ _ => ⟨rfl, e117, (by decide : 4 + 0 ≤ _), (by decide : 12 + 0 ≤ _)⟩)
  dsimp only [Pt.U, Pt.locs, Pt.cells, Pt.slots] at X120 l120 y120 z120 st120 hQ120
  subst y120 z120
  obtain ⟨rfl, rfl, e120⟩ := hQ120
  have X120' : Stand p l e room_1 s m #[(.int p0), (.int p1)] below meth c T120 L110 4 12 := by rw [show L120 = L110 from by rw [l120]; first | rfl | exact List.append_nil _] at X120; exact X120
  have st120 : ∀ t, Steps p.tables e below (T120.setTop (mkF m 200 #[.val (.int p0), .val (.int p1), .val (.ref b2), .val (.ref b50), .val (.long v89), .second, .val (.long v91), .second, .val (.ref b93), .val (.ref b103), .val (.long v118), .second, .unset, .unset] [(.long (own_F5 ([(nar .boolean v57)] : List Int32)))])) t → Steps p.tables e below (T117.setTop (mkF m 197 #[.val (.int p0), .val (.int p1), .val (.ref b2), .val (.ref b50), .val (.long v89), .second, .val (.long v91), .second, .val (.ref b93), .val (.ref b103), .val (.long v118), .second, .unset, .unset] [(.ref b50), (.ref b103)])) t := fun t k => st120.trans k
  obtain ⟨v121, hv121⟩ : ∃ z : Int64, z = (own_F5 ([(nar .boolean v57)] : List Int32)) := ⟨_, rfl⟩
  rw [← hv121] at st120
  have st122 : ∀ t, Steps p.tables e below (T120.setTop (mkF m 207 #[.val (.int p0), .val (.int p1), .val (.ref b2), .val (.ref b50), .val (.long v89), .second, .val (.long v91), .second, .val (.ref b93), .val (.ref b103), .val (.long v118), .second, .val (.long v121), .second] [(.int (lcmpW v118 v89))])) t → Steps p.tables e below (T120.setTop (mkF m 200 #[.val (.int p0), .val (.int p1), .val (.ref b2), .val (.ref b50), .val (.long v89), .second, .val (.long v91), .second, .val (.ref b93), .val (.ref b103), .val (.long v118), .second, .unset, .unset] [(.long v121)])) t := by
    intro t k
    show Steps p.tables e below (T120.setTop (mkF m 200 #[.val (.int p0), .val (.int p1), .val (.ref b2), .val (.ref b50), .val (.long v89), .second, .val (.long v91), .second, .val (.ref b93), .val (.ref b103), .val (.long v118), .second, .unset, .unset] [(.long v121)])) _
    refine XS.lstore X120'.here hx rfl (hb hby at_200) rfl (l' := #[.val (.int p0), .val (.int p1), .val (.ref b2), .val (.ref b50), .val (.long v89), .second, .val (.long v91), .second, .val (.ref b93), .val (.ref b103), .val (.long v118), .second, .val (.long v121), .second]) rfl ?_
    show Steps p.tables e below (T120.setTop (mkF m 202 #[.val (.int p0), .val (.int p1), .val (.ref b2), .val (.ref b50), .val (.long v89), .second, .val (.long v91), .second, .val (.ref b93), .val (.ref b103), .val (.long v118), .second, .val (.long v121), .second] [])) _
    refine XS.lload X120'.here hx rfl (hb hby at_202) rfl ?_
    show Steps p.tables e below (T120.setTop (mkF m 204 #[.val (.int p0), .val (.int p1), .val (.ref b2), .val (.ref b50), .val (.long v89), .second, .val (.long v91), .second, .val (.ref b93), .val (.ref b103), .val (.long v118), .second, .val (.long v121), .second] [(.long v118)])) _
    refine XS.lload X120'.here hx rfl (hb hby at_204) rfl ?_
    show Steps p.tables e below (T120.setTop (mkF m 206 #[.val (.int p0), .val (.int p1), .val (.ref b2), .val (.ref b50), .val (.long v89), .second, .val (.long v91), .second, .val (.ref b93), .val (.ref b103), .val (.long v118), .second, .val (.long v121), .second] [(.long v89), (.long v118)])) _
    refine XS.lcmp X120'.here hx rfl (hb hby at_206) rfl ?_
    exact k
  refine own_End.go (fun t k => st1 _ (st2 _ (st4 _ (st5 _ (st7 _ (st9 _ (st10 _ (st12 _ (st14 _ (st15 _ (st17 _ (st19 _ (st20 _ (st22 _ (st24 _ (st25 _ (st27 _ (st29 _ (st30 _ (st32 _ (st34 _ (st35 _ (st37 _ (st39 _ (st40 _ (st42 _ (st44 _ (st45 _ (st47 _ (st49 _ (st50 _ (st53 _ (st58 _ (st59 _ (st62 _ (st63 _ (st65 _ (st66 _ (st68 _ (st69 _ (st71 _ (st72 _ (st74 _ (st75 _ (st77 _ (st78 _ (st80 _ (st81 _ (st83 _ (st84 _ (st86 _ (st87 _ (st90 _ (st92 _ (st93 _ (st97 _ (st98 _ (st102 _ (st103 _ (st109 _ (st110 _ (st116 _ (st117 _ (st119 _ (st120 _ (st122 _ k)))))))))))))))))))))))))))))))))))))))))))))))))))))))))))))))))) ?_
  by_cases hc207_123 : v118 = v89
  · have st124 : ∀ t, Steps p.tables e below (T120.setTop (mkF m 215 #[.val (.int p0), .val (.int p1), .val (.ref b2), .val (.ref b50), .val (.long v89), .second, .val (.long v91), .second, .val (.ref b93), .val (.ref b103), .val (.long v118), .second, .val (.long v121), .second] [(.int (lcmpW v121 v91))])) t → Steps p.tables e below (T120.setTop (mkF m 207 #[.val (.int p0), .val (.int p1), .val (.ref b2), .val (.ref b50), .val (.long v89), .second, .val (.long v91), .second, .val (.ref b93), .val (.ref b103), .val (.long v118), .second, .val (.long v121), .second] [(.int (lcmpW v118 v89))])) t := by
      intro t k
      show Steps p.tables e below (T120.setTop (mkF m 207 #[.val (.int p0), .val (.int p1), .val (.ref b2), .val (.ref b50), .val (.long v89), .second, .val (.long v91), .second, .val (.ref b93), .val (.ref b103), .val (.long v118), .second, .val (.long v121), .second] [(.int (lcmpW v118 v89))])) _
      refine XS.ifNo X120'.here hx rfl (hb hby at_207) rfl ((if0 _ _).trans (teq ((lw_eq v118 v89).mpr hc207_123)).2) ?_
      show Steps p.tables e below (T120.setTop (mkF m 210 #[.val (.int p0), .val (.int p1), .val (.ref b2), .val (.ref b50), .val (.long v89), .second, .val (.long v91), .second, .val (.ref b93), .val (.ref b103), .val (.long v118), .second, .val (.long v121), .second] [])) _
      refine XS.lload X120'.here hx rfl (hb hby at_210) rfl ?_
      show Steps p.tables e below (T120.setTop (mkF m 212 #[.val (.int p0), .val (.int p1), .val (.ref b2), .val (.ref b50), .val (.long v89), .second, .val (.long v91), .second, .val (.ref b93), .val (.ref b103), .val (.long v118), .second, .val (.long v121), .second] [(.long v121)])) _
      refine XS.lload X120'.here hx rfl (hb hby at_212) rfl ?_
      show Steps p.tables e below (T120.setTop (mkF m 214 #[.val (.int p0), .val (.int p1), .val (.ref b2), .val (.ref b50), .val (.long v89), .second, .val (.long v91), .second, .val (.ref b93), .val (.ref b103), .val (.long v118), .second, .val (.long v121), .second] [(.long v91), (.long v121)])) _
      refine XS.lcmp X120'.here hx rfl (hb hby at_214) rfl ?_
      exact k
    refine own_End.go (fun t k => st124 _ k) ?_
    by_cases hc215_125 : v121 = v91
    · have st126 : ∀ t, Steps p.tables e below (T120.setTop (mkF m 220 #[.val (.int p0), .val (.int p1), .val (.ref b2), .val (.ref b50), .val (.long v89), .second, .val (.long v91), .second, .val (.ref b93), .val (.ref b103), .val (.long v118), .second, .val (.long v121), .second] [(.int p0), (.ref b2)])) t → Steps p.tables e below (T120.setTop (mkF m 215 #[.val (.int p0), .val (.int p1), .val (.ref b2), .val (.ref b50), .val (.long v89), .second, .val (.long v91), .second, .val (.ref b93), .val (.ref b103), .val (.long v118), .second, .val (.long v121), .second] [(.int (lcmpW v121 v91))])) t := by
        intro t k
        show Steps p.tables e below (T120.setTop (mkF m 215 #[.val (.int p0), .val (.int p1), .val (.ref b2), .val (.ref b50), .val (.long v89), .second, .val (.long v91), .second, .val (.ref b93), .val (.ref b103), .val (.long v118), .second, .val (.long v121), .second] [(.int (lcmpW v121 v91))])) _
        refine XS.ifNo X120'.here hx rfl (hb hby at_215) rfl ((if0 _ _).trans (teq ((lw_eq v121 v91).mpr hc215_125)).2) ?_
        show Steps p.tables e below (T120.setTop (mkF m 218 #[.val (.int p0), .val (.int p1), .val (.ref b2), .val (.ref b50), .val (.long v89), .second, .val (.long v91), .second, .val (.ref b93), .val (.ref b103), .val (.long v118), .second, .val (.long v121), .second] [])) _
        refine XS.aloadN X120'.here hx rfl (hb hby at_218) rfl rfl ?_
        show Steps p.tables e below (T120.setTop (mkF m 219 #[.val (.int p0), .val (.int p1), .val (.ref b2), .val (.ref b50), .val (.long v89), .second, .val (.long v91), .second, .val (.ref b93), .val (.ref b103), .val (.long v118), .second, .val (.long v121), .second] [(.ref b2)])) _
        refine XS.iloadN X120'.here hx rfl (hb hby at_219) rfl ?_
        exact k
      obtain ⟨_, _, ⟨T127, L127, k127, n127⟩, -, X127, ⟨Lc127, hQ127, l127, y127, z127⟩, st127⟩ := Jvm.LawKit.callS X120' hx (y := (⟨"com/example/evotempo/evotempo/problem/OneMaxFitnessPinLaw", "unchanged", "([ZI)Z"⟩ : MethodName)) hown (mvT hZ (hw _ (List.mem_of_getElem? (i := 24) rfl))) (mvT hZ (hw _ (List.mem_of_getElem? (i := 25) rfl))) (mvT hZ (hw _ (List.mem_of_getElem? (i := 3) rfl))) (mvT hZ (hw _ (List.mem_of_getElem? (i := 26) rfl))) (by decide) (backOf (W := 0) (own_rm6 l Z a0 hw [] b2 p0 ([(nar .boolean v6), (nar .boolean v11), (nar .boolean v16), (nar .boolean v21), (nar .boolean v26), (nar .boolean v31), (nar .boolean v36), (nar .boolean v41), (nar .boolean v46)] : List Int32) T110.heap n0 Zp115 f111 (rfl)) hZ (hw _ (List.mem_of_getElem? (i := 26) rfl)) (hw _ (List.mem_of_getElem? (i := 3) rfl)) (by decide) (by decide)) (g := (mkF m 220 #[.val (.int p0), .val (.int p1), .val (.ref b2), .val (.ref b50), .val (.long v89), .second, .val (.long v91), .second, .val (.ref b93), .val (.ref b103), .val (.long v118), .second, .val (.long v121), .second] [(.int p0), (.ref b2)])) rfl (by rw [hml]; rfl) (argsL := [(.ref b2), (.int p0)]) (rest := []) (lenOf own_pd4 rfl) rfl (by show 2 * 0 + _ ≤ _; exact Nat.le_of_eq rfl) (hb hby at_220) (fun _ _ => ⟨rfl, e120, (by decide : 4 + 0 ≤ _), (by decide : 12 + 0 ≤ _)⟩)
      dsimp only [Pt.U, Pt.locs, Pt.cells, Pt.slots] at X127 l127 y127 z127 st127 hQ127
      subst y127 z127
      obtain ⟨rfl, rfl, e127⟩ := hQ127
      have X127' : Stand p l e room_1 s m #[(.int p0), (.int p1)] below meth c T127 L110 4 12 := by rw [show L127 = L110 from by rw [l127]; first | rfl | exact List.append_nil _] at X127; exact X127
      obtain ⟨v128, hv128⟩ : ∃ z : Int32, z = (own_F6 p0 ([(nar .boolean v6), (nar .boolean v11), (nar .boolean v16), (nar .boolean v21), (nar .boolean v26), (nar .boolean v31), (nar .boolean v36), (nar .boolean v41), (nar .boolean v46)] : List Int32)) := ⟨_, rfl⟩
      rw [← hv128] at st127
      refine own_End.go (fun t k => st126 _ (st127 _ k)) ?_
      by_cases hc223_129 : v128 = (0 : Int32)
      · have st130 : ∀ t, Steps p.tables e below (T127.setTop (mkF m 248 #[.val (.int p0), .val (.int p1), .val (.ref b2), .val (.ref b50), .val (.long v89), .second, .val (.long v91), .second, .val (.ref b93), .val (.ref b103), .val (.long v118), .second, .val (.long v121), .second] [(.int (0 : Int32))])) t → Steps p.tables e below (T127.setTop (mkF m 223 #[.val (.int p0), .val (.int p1), .val (.ref b2), .val (.ref b50), .val (.long v89), .second, .val (.long v91), .second, .val (.ref b93), .val (.ref b103), .val (.long v118), .second, .val (.long v121), .second] [(.int v128)])) t := by
          intro t k
          show Steps p.tables e below (T127.setTop (mkF m 223 #[.val (.int p0), .val (.int p1), .val (.ref b2), .val (.ref b50), .val (.long v89), .second, .val (.long v91), .second, .val (.ref b93), .val (.ref b103), .val (.long v118), .second, .val (.long v121), .second] [(.int v128)])) _
          refine XS.ifYes X127'.here hx rfl (pc0 := 223) (pc' := 247) rfl (hb hby at_223) rfl ((if0 _ _).trans (teq hc223_129).1) (by decide) (by decide) ?_
          show Steps p.tables e below (T127.setTop (mkF m 247 #[.val (.int p0), .val (.int p1), .val (.ref b2), .val (.ref b50), .val (.long v89), .second, .val (.long v91), .second, .val (.ref b93), .val (.ref b103), .val (.long v118), .second, .val (.long v121), .second] [])) _
          refine XS.iconst X127'.here hx rfl (hb hby at_247) ?_
          exact k
        refine own_End.go (fun t k => st130 _ k) ?_
        exact own_leafN X127' hx Bd.notSynchronized (t := .boolean) Bd.returns (by simp) (hb hby at_248) ⟨congrArg (fun z => some (Value.int z)) (own_e0_131 hv6 hv11 hv16 hv21 hv26 hv31 hv36 hv41 hv46 hv57 hv64 hv67 hv70 hv73 hv76 hv79 hv82 hv85 hv88 hv89 hv91 hv118 hv121 hv128 hc207_123 hc215_125 hc223_129), N110⟩ (by decide) (by decide)
      · have st132 : ∀ t, Steps p.tables e below (T127.setTop (mkF m 232 #[.val (.int p0), .val (.int p1), .val (.ref b2), .val (.ref b50), .val (.long v89), .second, .val (.long v91), .second, .val (.ref b93), .val (.ref b103), .val (.long v118), .second, .val (.long v121), .second] [(.int (p1 &&& (1 : Int32))), (.int (nar .boolean v57))])) t → Steps p.tables e below (T127.setTop (mkF m 223 #[.val (.int p0), .val (.int p1), .val (.ref b2), .val (.ref b50), .val (.long v89), .second, .val (.long v91), .second, .val (.ref b93), .val (.ref b103), .val (.long v118), .second, .val (.long v121), .second] [(.int v128)])) t := by
          intro t k
          show Steps p.tables e below (T127.setTop (mkF m 223 #[.val (.int p0), .val (.int p1), .val (.ref b2), .val (.ref b50), .val (.long v89), .second, .val (.long v91), .second, .val (.ref b93), .val (.ref b103), .val (.long v118), .second, .val (.long v121), .second] [(.int v128)])) _
          refine XS.ifNo X127'.here hx rfl (hb hby at_223) rfl ((if0 _ _).trans (feq hc223_129).1) ?_
          show Steps p.tables e below (T127.setTop (mkF m 226 #[.val (.int p0), .val (.int p1), .val (.ref b2), .val (.ref b50), .val (.long v89), .second, .val (.long v91), .second, .val (.ref b93), .val (.ref b103), .val (.long v118), .second, .val (.long v121), .second] [])) _
          refine XS.aloadN X127'.here hx rfl (hb hby at_226) rfl rfl ?_
          show Steps p.tables e below (T127.setTop (mkF m 227 #[.val (.int p0), .val (.int p1), .val (.ref b2), .val (.ref b50), .val (.long v89), .second, .val (.long v91), .second, .val (.ref b93), .val (.ref b103), .val (.long v118), .second, .val (.long v121), .second] [(.ref b50)])) _
          refine XS.iconst X127'.here hx rfl (hb hby at_227) ?_
          show Steps p.tables e below (T127.setTop (mkF m 228 #[.val (.int p0), .val (.int p1), .val (.ref b2), .val (.ref b50), .val (.long v89), .second, .val (.long v91), .second, .val (.ref b93), .val (.ref b103), .val (.long v118), .second, .val (.long v121), .second] [(.int (0 : Int32)), (.ref b50)])) _
          refine own_baloadZ X127' hx hZ e127 f112 (j := (0 : Int32)) (own_in (m := 1) rfl (by decide)) (g := (mkF m 228 #[.val (.int p0), .val (.int p1), .val (.ref b2), .val (.ref b50), .val (.long v89), .second, .val (.long v91), .second, .val (.ref b93), .val (.ref b103), .val (.long v118), .second, .val (.long v121), .second] [(.int (0 : Int32)), (.ref b50)])) rfl rfl (hb hby at_228) _ ?_
          show Steps p.tables e below (T127.setTop (mkF m 229 #[.val (.int p0), .val (.int p1), .val (.ref b2), .val (.ref b50), .val (.long v89), .second, .val (.long v91), .second, .val (.ref b93), .val (.ref b103), .val (.long v118), .second, .val (.long v121), .second] [(.int (nar .boolean v57))])) _
          refine XS.iloadN X127'.here hx rfl (hb hby at_229) rfl ?_
          show Steps p.tables e below (T127.setTop (mkF m 230 #[.val (.int p0), .val (.int p1), .val (.ref b2), .val (.ref b50), .val (.long v89), .second, .val (.long v91), .second, .val (.ref b93), .val (.ref b103), .val (.long v118), .second, .val (.long v121), .second] [(.int p1), (.int (nar .boolean v57))])) _
          refine XS.iconst X127'.here hx rfl (hb hby at_230) ?_
          show Steps p.tables e below (T127.setTop (mkF m 231 #[.val (.int p0), .val (.int p1), .val (.ref b2), .val (.ref b50), .val (.long v89), .second, .val (.long v91), .second, .val (.ref b93), .val (.ref b103), .val (.long v118), .second, .val (.long v121), .second] [(.int (1 : Int32)), (.int p1), (.int (nar .boolean v57))])) _
          refine XS.iand X127'.here hx rfl (hb hby at_231) rfl ?_
          exact k
        obtain ⟨v136, hv136⟩ : ∃ z : Int32, z = (if (p1 &&& (1 : Int32)) = (0 : Int32) then (0 : Int32) else (1 : Int32)) := ⟨_, rfl⟩
        obtain ⟨v137, hv137⟩ : ∃ z : Int32, z = (nar .boolean v57) := ⟨_, rfl⟩
        have st138 : ∀ t, Steps p.tables e below (T127.setTop (mkF m 240 #[.val (.int p0), .val (.int p1), .val (.ref b2), .val (.ref b50), .val (.long v89), .second, .val (.long v91), .second, .val (.ref b93), .val (.ref b103), .val (.long v118), .second, .val (.long v121), .second] [(.int v136), (.int v137)])) t → Steps p.tables e below (T127.setTop (mkF m 232 #[.val (.int p0), .val (.int p1), .val (.ref b2), .val (.ref b50), .val (.long v89), .second, .val (.long v91), .second, .val (.ref b93), .val (.ref b103), .val (.long v118), .second, .val (.long v121), .second] [(.int (p1 &&& (1 : Int32))), (.int (nar .boolean v57))])) t := by
          rw [hv136]
          rw [hv137]
          by_cases hc232_133 : (p1 &&& (1 : Int32)) = (0 : Int32)
          · repeat rw [if_pos hc232_133]
            have st134 : ∀ t, Steps p.tables e below (T127.setTop (mkF m 240 #[.val (.int p0), .val (.int p1), .val (.ref b2), .val (.ref b50), .val (.long v89), .second, .val (.long v91), .second, .val (.ref b93), .val (.ref b103), .val (.long v118), .second, .val (.long v121), .second] [(.int (0 : Int32)), (.int (nar .boolean v57))])) t → Steps p.tables e below (T127.setTop (mkF m 232 #[.val (.int p0), .val (.int p1), .val (.ref b2), .val (.ref b50), .val (.long v89), .second, .val (.long v91), .second, .val (.ref b93), .val (.ref b103), .val (.long v118), .second, .val (.long v121), .second] [(.int (p1 &&& (1 : Int32))), (.int (nar .boolean v57))])) t := by
              intro t k
              show Steps p.tables e below (T127.setTop (mkF m 232 #[.val (.int p0), .val (.int p1), .val (.ref b2), .val (.ref b50), .val (.long v89), .second, .val (.long v91), .second, .val (.ref b93), .val (.ref b103), .val (.long v118), .second, .val (.long v121), .second] [(.int (p1 &&& (1 : Int32))), (.int (nar .boolean v57))])) _
              refine XS.ifYes X127'.here hx rfl (pc0 := 232) (pc' := 239) rfl (hb hby at_232) rfl ((if0 _ _).trans (teq hc232_133).1) (by decide) (by decide) ?_
              show Steps p.tables e below (T127.setTop (mkF m 239 #[.val (.int p0), .val (.int p1), .val (.ref b2), .val (.ref b50), .val (.long v89), .second, .val (.long v91), .second, .val (.ref b93), .val (.ref b103), .val (.long v118), .second, .val (.long v121), .second] [(.int (nar .boolean v57))])) _
              refine XS.iconst X127'.here hx rfl (hb hby at_239) ?_
              exact k
            exact fun t k => st134 _ k
          · repeat rw [if_neg hc232_133]
            have st135 : ∀ t, Steps p.tables e below (T127.setTop (mkF m 240 #[.val (.int p0), .val (.int p1), .val (.ref b2), .val (.ref b50), .val (.long v89), .second, .val (.long v91), .second, .val (.ref b93), .val (.ref b103), .val (.long v118), .second, .val (.long v121), .second] [(.int (1 : Int32)), (.int (nar .boolean v57))])) t → Steps p.tables e below (T127.setTop (mkF m 232 #[.val (.int p0), .val (.int p1), .val (.ref b2), .val (.ref b50), .val (.long v89), .second, .val (.long v91), .second, .val (.ref b93), .val (.ref b103), .val (.long v118), .second, .val (.long v121), .second] [(.int (p1 &&& (1 : Int32))), (.int (nar .boolean v57))])) t := by
              intro t k
              show Steps p.tables e below (T127.setTop (mkF m 232 #[.val (.int p0), .val (.int p1), .val (.ref b2), .val (.ref b50), .val (.long v89), .second, .val (.long v91), .second, .val (.ref b93), .val (.ref b103), .val (.long v118), .second, .val (.long v121), .second] [(.int (p1 &&& (1 : Int32))), (.int (nar .boolean v57))])) _
              refine XS.ifNo X127'.here hx rfl (hb hby at_232) rfl ((if0 _ _).trans (feq hc232_133).1) ?_
              show Steps p.tables e below (T127.setTop (mkF m 235 #[.val (.int p0), .val (.int p1), .val (.ref b2), .val (.ref b50), .val (.long v89), .second, .val (.long v91), .second, .val (.ref b93), .val (.ref b103), .val (.long v118), .second, .val (.long v121), .second] [(.int (nar .boolean v57))])) _
              refine XS.iconst X127'.here hx rfl (hb hby at_235) ?_
              show Steps p.tables e below (T127.setTop (mkF m 236 #[.val (.int p0), .val (.int p1), .val (.ref b2), .val (.ref b50), .val (.long v89), .second, .val (.long v91), .second, .val (.ref b93), .val (.ref b103), .val (.long v118), .second, .val (.long v121), .second] [(.int (1 : Int32)), (.int (nar .boolean v57))])) _
              refine XS.goto X127'.here hx rfl (pc0 := 236) (pc' := 240) rfl (hb hby at_236) (by decide) (by decide) ?_
              exact k
            exact fun t k => st135 _ k
        refine own_End.go (fun t k => st132 _ (st138 _ k)) ?_
        by_cases hc240_139 : v137 = v136
        · have st140 : ∀ t, Steps p.tables e below (T127.setTop (mkF m 248 #[.val (.int p0), .val (.int p1), .val (.ref b2), .val (.ref b50), .val (.long v89), .second, .val (.long v91), .second, .val (.ref b93), .val (.ref b103), .val (.long v118), .second, .val (.long v121), .second] [(.int (1 : Int32))])) t → Steps p.tables e below (T127.setTop (mkF m 240 #[.val (.int p0), .val (.int p1), .val (.ref b2), .val (.ref b50), .val (.long v89), .second, .val (.long v91), .second, .val (.ref b93), .val (.ref b103), .val (.long v118), .second, .val (.long v121), .second] [(.int v136), (.int v137)])) t := by
            intro t k
            show Steps p.tables e below (T127.setTop (mkF m 240 #[.val (.int p0), .val (.int p1), .val (.ref b2), .val (.ref b50), .val (.long v89), .second, .val (.long v91), .second, .val (.ref b93), .val (.ref b103), .val (.long v118), .second, .val (.long v121), .second] [(.int v136), (.int v137)])) _
            refine XS.icmpNo X127'.here hx rfl (hb hby at_240) rfl (teq hc240_139).2 ?_
            show Steps p.tables e below (T127.setTop (mkF m 243 #[.val (.int p0), .val (.int p1), .val (.ref b2), .val (.ref b50), .val (.long v89), .second, .val (.long v91), .second, .val (.ref b93), .val (.ref b103), .val (.long v118), .second, .val (.long v121), .second] [])) _
            refine XS.iconst X127'.here hx rfl (hb hby at_243) ?_
            show Steps p.tables e below (T127.setTop (mkF m 244 #[.val (.int p0), .val (.int p1), .val (.ref b2), .val (.ref b50), .val (.long v89), .second, .val (.long v91), .second, .val (.ref b93), .val (.ref b103), .val (.long v118), .second, .val (.long v121), .second] [(.int (1 : Int32))])) _
            refine XS.goto X127'.here hx rfl (pc0 := 244) (pc' := 248) rfl (hb hby at_244) (by decide) (by decide) ?_
            exact k
          refine own_End.go (fun t k => st140 _ k) ?_
          exact own_leafN X127' hx Bd.notSynchronized (t := .boolean) Bd.returns (by simp) (hb hby at_248) ⟨congrArg (fun z => some (Value.int z)) (own_e0_141 hv6 hv11 hv16 hv21 hv26 hv31 hv36 hv41 hv46 hv57 hv64 hv67 hv70 hv73 hv76 hv79 hv82 hv85 hv88 hv89 hv91 hv118 hv121 hv128 hv136 hv137 hc207_123 hc215_125 hc223_129 hc240_139), N110⟩ (by decide) (by decide)
        · have st142 : ∀ t, Steps p.tables e below (T127.setTop (mkF m 248 #[.val (.int p0), .val (.int p1), .val (.ref b2), .val (.ref b50), .val (.long v89), .second, .val (.long v91), .second, .val (.ref b93), .val (.ref b103), .val (.long v118), .second, .val (.long v121), .second] [(.int (0 : Int32))])) t → Steps p.tables e below (T127.setTop (mkF m 240 #[.val (.int p0), .val (.int p1), .val (.ref b2), .val (.ref b50), .val (.long v89), .second, .val (.long v91), .second, .val (.ref b93), .val (.ref b103), .val (.long v118), .second, .val (.long v121), .second] [(.int v136), (.int v137)])) t := by
            intro t k
            show Steps p.tables e below (T127.setTop (mkF m 240 #[.val (.int p0), .val (.int p1), .val (.ref b2), .val (.ref b50), .val (.long v89), .second, .val (.long v91), .second, .val (.ref b93), .val (.ref b103), .val (.long v118), .second, .val (.long v121), .second] [(.int v136), (.int v137)])) _
            refine XS.icmpYes X127'.here hx rfl (pc0 := 240) (pc' := 247) rfl (hb hby at_240) rfl (feq hc240_139).2 (by decide) (by decide) ?_
            show Steps p.tables e below (T127.setTop (mkF m 247 #[.val (.int p0), .val (.int p1), .val (.ref b2), .val (.ref b50), .val (.long v89), .second, .val (.long v91), .second, .val (.ref b93), .val (.ref b103), .val (.long v118), .second, .val (.long v121), .second] [])) _
            refine XS.iconst X127'.here hx rfl (hb hby at_247) ?_
            exact k
          refine own_End.go (fun t k => st142 _ k) ?_
          exact own_leafN X127' hx Bd.notSynchronized (t := .boolean) Bd.returns (by simp) (hb hby at_248) ⟨congrArg (fun z => some (Value.int z)) (own_e0_143 hv6 hv11 hv16 hv21 hv26 hv31 hv36 hv41 hv46 hv57 hv64 hv67 hv70 hv73 hv76 hv79 hv82 hv85 hv88 hv89 hv91 hv118 hv121 hv128 hv136 hv137 hc207_123 hc215_125 hc223_129 hc240_139), N110⟩ (by decide) (by decide)
    · have st144 : ∀ t, Steps p.tables e below (T120.setTop (mkF m 248 #[.val (.int p0), .val (.int p1), .val (.ref b2), .val (.ref b50), .val (.long v89), .second, .val (.long v91), .second, .val (.ref b93), .val (.ref b103), .val (.long v118), .second, .val (.long v121), .second] [(.int (0 : Int32))])) t → Steps p.tables e below (T120.setTop (mkF m 215 #[.val (.int p0), .val (.int p1), .val (.ref b2), .val (.ref b50), .val (.long v89), .second, .val (.long v91), .second, .val (.ref b93), .val (.ref b103), .val (.long v118), .second, .val (.long v121), .second] [(.int (lcmpW v121 v91))])) t := by
        intro t k
        show Steps p.tables e below (T120.setTop (mkF m 215 #[.val (.int p0), .val (.int p1), .val (.ref b2), .val (.ref b50), .val (.long v89), .second, .val (.long v91), .second, .val (.ref b93), .val (.ref b103), .val (.long v118), .second, .val (.long v121), .second] [(.int (lcmpW v121 v91))])) _
        refine XS.ifYes X120'.here hx rfl (pc0 := 215) (pc' := 247) rfl (hb hby at_215) rfl ((if0 _ _).trans (feq (mt (lw_eq v121 v91).mp hc215_125)).2) (by decide) (by decide) ?_
        show Steps p.tables e below (T120.setTop (mkF m 247 #[.val (.int p0), .val (.int p1), .val (.ref b2), .val (.ref b50), .val (.long v89), .second, .val (.long v91), .second, .val (.ref b93), .val (.ref b103), .val (.long v118), .second, .val (.long v121), .second] [])) _
        refine XS.iconst X120'.here hx rfl (hb hby at_247) ?_
        exact k
      refine own_End.go (fun t k => st144 _ k) ?_
      exact own_leafN X120' hx Bd.notSynchronized (t := .boolean) Bd.returns (by simp) (hb hby at_248) ⟨congrArg (fun z => some (Value.int z)) (own_e0_145 hv6 hv11 hv16 hv21 hv26 hv31 hv36 hv41 hv46 hv57 hv64 hv67 hv70 hv73 hv76 hv79 hv82 hv85 hv88 hv89 hv91 hv118 hv121 hc207_123 hc215_125), N110⟩ (by decide) (by decide)
  · have st146 : ∀ t, Steps p.tables e below (T120.setTop (mkF m 248 #[.val (.int p0), .val (.int p1), .val (.ref b2), .val (.ref b50), .val (.long v89), .second, .val (.long v91), .second, .val (.ref b93), .val (.ref b103), .val (.long v118), .second, .val (.long v121), .second] [(.int (0 : Int32))])) t → Steps p.tables e below (T120.setTop (mkF m 207 #[.val (.int p0), .val (.int p1), .val (.ref b2), .val (.ref b50), .val (.long v89), .second, .val (.long v91), .second, .val (.ref b93), .val (.ref b103), .val (.long v118), .second, .val (.long v121), .second] [(.int (lcmpW v118 v89))])) t := by
      intro t k
      show Steps p.tables e below (T120.setTop (mkF m 207 #[.val (.int p0), .val (.int p1), .val (.ref b2), .val (.ref b50), .val (.long v89), .second, .val (.long v91), .second, .val (.ref b93), .val (.ref b103), .val (.long v118), .second, .val (.long v121), .second] [(.int (lcmpW v118 v89))])) _
      refine XS.ifYes X120'.here hx rfl (pc0 := 207) (pc' := 247) rfl (hb hby at_207) rfl ((if0 _ _).trans (feq (mt (lw_eq v118 v89).mp hc207_123)).2) (by decide) (by decide) ?_
      show Steps p.tables e below (T120.setTop (mkF m 247 #[.val (.int p0), .val (.int p1), .val (.ref b2), .val (.ref b50), .val (.long v89), .second, .val (.long v91), .second, .val (.ref b93), .val (.ref b103), .val (.long v118), .second, .val (.long v121), .second] [])) _
      refine XS.iconst X120'.here hx rfl (hb hby at_247) ?_
      exact k
    refine own_End.go (fun t k => st146 _ k) ?_
    exact own_leafN X120' hx Bd.notSynchronized (t := .boolean) Bd.returns (by simp) (hb hby at_248) ⟨congrArg (fun z => some (Value.int z)) (own_e0_147 hv6 hv11 hv16 hv21 hv26 hv31 hv36 hv41 hv46 hv57 hv64 hv67 hv70 hv73 hv76 hv79 hv82 hv85 hv88 hv89 hv91 hv118 hv121 hc207_123), N110⟩ (by decide) (by decide)
theorem own_bit01 (x : Int32) : (x &&& (1 : Int32)) = 0 ∨ (x &&& (1 : Int32)) = 1 := by
  have h : (x &&& (1 : Int32)).toInt = x.toInt % (2 ^ 1 : Nat) := c_mask x 1 1 (by decide) (by decide)
  have z0 : (0 : Int32).toInt = 0 := by decide
  have z1 : (1 : Int32).toInt = 1 := by decide
  rcases (by omega : (x &&& (1 : Int32)).toInt = 0 ∨ (x &&& (1 : Int32)).toInt = 1) with q | q
  · exact Or.inl (Int32.toInt_inj.mp (by rw [q, z0]))
  · exact Or.inr (Int32.toInt_inj.mp (by rw [q, z1]))
/-- one turn of the count -/
theorem own_turn (acc : Int64) (e : Int32) (he : e = 0 ∨ e = 1) : (if (if e = (0 : Int32) then (0 : Int32) else (1 : Int32)) = (0 : Int32) then acc else (acc + (1 : Int64))) = acc + e.toInt64 := by
  rcases he with rfl | rfl
  · have : (0 : Int32).toInt64 = 0 := by decide
    rw [this, Int64.add_zero]; rfl
  · rfl
theorem own_nn (e : Int32) (he : e = 0 ∨ e = 1) : (nar .boolean (if e = (0 : Int32) then (0 : Int32) else (1 : Int32))) = (if e = (0 : Int32) then (0 : Int32) else (1 : Int32)) := by
  rcases he with rfl | rfl <;> rfl
def own_s (acc : Int64) (x : Int32) : Int64 := (if x = (0 : Int32) then acc else (acc + (1 : Int64)))
theorem own_f9 (a b c d e f g h i : Int32) : own_F5 [a, b, c, d, e, f, g, h, i] = own_s (own_s (own_s (own_s (own_s (own_s (own_s (own_s (own_s 0 a) b) c) d) e) f) g) h) i := rfl
theorem own_f1 (a : Int32) : own_F5 [a] = own_s 0 a := rfl
theorem own_u (p0 : Int32) : own_F6 p0 [own_F1 p0 0, own_F1 p0 1, own_F1 p0 2, own_F1 p0 3, own_F1 p0 4, own_F1 p0 5, own_F1 p0 6, own_F1 p0 7, own_F1 p0 8] = 1 := by
  unfold own_F6
  simp only []
  iterate 9 refine (if_pos rfl).trans ?_
  rfl
theorem own_plain (p0 p1 : Int32) : own_F0 p0 p1 = 1 := by
  have t (acc : Int64) (i : Int32) : own_s acc (own_F1 p0 i) = acc + own_F2 p0 i := own_turn acc _ (own_bit01 _)
  have nn (i : Int32) : nar .boolean (own_F1 p0 i) = own_F1 p0 i := own_nn _ (own_bit01 _)
  have t1 : own_s 0 (if (p1 &&& (1 : Int32)) = (0 : Int32) then (0 : Int32) else (1 : Int32)) = (p1 &&& (1 : Int32)).toInt64 := by
    rw [own_s, own_turn 0 _ (own_bit01 p1), Int64.zero_add]
  unfold own_F0
  simp only [nn, own_nn _ (own_bit01 p1), own_f9, own_f1, t, t1, Int64.zero_add, if_true, own_u]
  decide

set_option maxRecDepth 65536 in
set_option maxHeartbeats 40000000 in
theorem comes_1 {Post : Tables → Env → Array Value → State → Outcome → State → Prop} (hpost : ∀ tb e args s v u, (limb_1_1.after args s (.returned v) u = true ∧ limb_1_2.after args s (.returned v) u = true ∧ True) → FrameEnd s (.returned v) u (Jvm.fieldLocs frame_1_writes args s ++ Jvm.arrayLocs frame_1_arrays args s ++ Jvm.staticLocs frame_1_statics s) 16 128 → Post tb e args s (.returned v) u) :
    ArmFor flags0 classFile x code maxLocals ret World_1 tables_1 room_1 Calls_1 rest_1 Pre_1 Post := by
  intro l hfl _ _ p e ha hc hk s m args below hf hA hF happ hP
  obtain ⟨hcalls, hrest, hpre⟩ := hP
  obtain ⟨-, -, -, hnamed, -, -, -, hat⟩ := (Spec.applies_iff hf).mp happ
  obtain ⟨hg, hn⟩ := and_e (Cond.before_iff.mp (show (Jvm.Cond.and given_1 narrow_1).before args s = true from hpre))
  obtain ⟨g1, g2⟩ := and_e hg
  obtain ⟨ga0, gb0⟩ := and_e g2
  obtain ⟨w0, w1, rfl⟩ : ∃ w0 w1 : Value, args = #[w0, w1] := by
    have hs : args.size = 2 := by simpa [Cond.value, given_1] using g1
    obtain ⟨L⟩ := args
    match L, hs with
    | [w0, w1], _ => exact ⟨w0, w1, rfl⟩
  have hw := fun d (hd : d ∈ tables_1) => atoms_spec (ws := Jvm.Cond.code x code maxLocals ret :: tables_1) hat d (List.mem_cons_of_mem _ hd)
  obtain ⟨i0, ei0⟩ := is_v ga0
  obtain rfl : w0 = (.int i0) := Option.some.inj ei0
  obtain ⟨i1, ei1⟩ := is_v gb0
  obtain rfl : w1 = (.int i1) := Option.some.inj ei1
  obtain ⟨n, o, h1, h2, h3, _, L, rfl, ⟨hv, N⟩, hq⟩ := own_rm0 l s _ hw tables_1 i0 i1 s.heap s.heap.size (Nat.le_refl _) p e ha hc hk s m _ below hf ((Spec.applies_iff_loose hf).mp happ).1 ⟨rfl, State.Warmed39.refl s, rfl⟩ trivial
  rw [own_plain i0 i1] at hv
  subst hv
  refine ⟨n, _, h1, h2, h3, hpost _ _ _ _ _ _ ⟨Cond.after_iff.mpr rfl, Cond.after_iff.mpr (eq_i res_at (Term.int_eval (1)) rfl), trivial⟩ ⟨hq.1, hq.2.1, (hq.2.2.sift fun y hy => Or.inr (N y hy)).mono (by decide) (by decide)⟩⟩
theorem main_1_1 : Claimed_1_1 := comes_1 fun _ _ _ _ _ _ h hF => ⟨h.1, hF⟩
theorem main_1_2 : Claimed_1_2 := comes_1 fun _ _ _ _ _ _ h hF => ⟨h.2.1, hF⟩
end Jvm.Pilot.@@N@@
namespace Jvm.Pilot.@@N@@
open Jvm Jvm.ClassFile Sem Op Lib Jvm.Free Jvm.Stand Jvm.Pilot.@@N@@.Jvm.D
/-! MADE BY PROGRAM (witnessworld.py) out of the Statement's table words and the real class files: 12 classes; the members and pool entries that the words name. The judged class is class 1, her method 1. -/
namespace start1
open Jvm.ClassFile
def u (s : String) : CpInfo := .utf8 (stringToUtf16 s)
/-- a pool by its gaps: so many unusable entries, then the entry; so many at the end -/
def gap : Nat → List CpInfo → List CpInfo
  | 0, r => r
  | n + 1, r => .unusable :: gap n r
def poolList (es : List (Nat × CpInfo)) (last : Nat) : List CpInfo := es.foldr (fun e r => gap e.1 (e.2 :: r)) (gap last [])
def pool (es : List (Nat × CpInfo)) (last : Nat) : Array CpInfo := ⟨poolList es last⟩
def fileOf (pool : Array CpInfo) (this : Nat) (attrs : Array Attribute := #[]) (ms : Array MethodInfo := #[]) (fl : Nat := 33) (sup : Nat := 0) (ifs : Array Nat := #[]) (fds : Array FieldInfo := #[]) : ClassFile where
  minorVersion := 0
  majorVersion := 65
  constantPool := pool
  accessFlags := fl
  thisClass := this
  superClass := sup
  interfaces := ifs
  fields := fds
  methods := ms
  attributes := attrs
def plain (name : String) (sup : Option ClassId) : Class where
  name := name
  kind := .ordinary
  loader := none
  accessFlags := 33
  super := sup
  interfaces := #[]
  cf := none
  fields := #[]
  methods := #[]
  instanceTypes := #[]
  staticTypes := #[]
  resolved := #[]
  callSites := []
  init := .initialized
  statics := none
  mirror := none

def pool0 : Array CpInfo := pool [(5, u "<init>"), (0, u "()V"), (1, .class_ 10), (1, u "java/lang/Object")] 113

def k0c0 : Code := { maxStack := 0, maxLocals := 1, code := object_method_1_code, exceptionTable := #[], attributes := #[] }
def k0m0 : Method := { name := "<init>", desc := "()V", sig := { parameters := [], returnType := none }, accessFlags := 1, code := some k0c0 }
/-- java/lang/Object -/
def k0 : Class := { plain "java/lang/Object" none with
  accessFlags := 33
  interfaces := #[]
  cf := some (fileOf pool0 8 #[] #[{ accessFlags := 1, nameIndex := 5, descriptorIndex := 6, attributes := #[] }] 33 0 #[] #[])
  fields := #[]
  methods := #[k0m0]
  instanceTypes := #[]
  staticTypes := #[]
  resolved := Array.replicate 124 none
  statics := none }

def pool1 : Array CpInfo := pool [(2, .class_ 4), (1, u "java/lang/Object"), (0, u "<init>"), (0, u "()V"), (0, .methodref 8 9), (0, .class_ 10), (0, .nameAndType 11 12), (0, u "com/example/evotempo/evotempo/problem/OneMaxFitnessPinLaw"), (0, u "bit"), (0, u "(II)Z"), (0, .methodref 8 14), (0, .nameAndType 15 16), (0, u "b"), (0, u "(II)J"), (0, .class_ 18), (0, u "com/example/evotempo/evotempo/problem/OneMax"), (0, .methodref 17 20), (0, .nameAndType 5 21), (0, u "(I)V"), (0, .methodref 17 23), (0, .nameAndType 24 25), (0, u "fitness"), (0, u "([Z)J"), (0, .methodref 8 27), (0, .nameAndType 28 29), (0, u "unchanged"), (0, u "([ZI)Z"), (2, u "law")] 5

def k1m0 : Method := { name := "<init>", desc := "()V", sig := { parameters := [], returnType := none }, accessFlags := 1, code := none }
def k1c1 : Code := { maxStack := 4, maxLocals := 14, code := code, exceptionTable := #[], attributes := #[] }
def k1m1 : Method := { name := "law", desc := "(II)Z", sig := { parameters := [.int, .int], returnType := some .boolean }, accessFlags := 9, code := some k1c1 }
def k1c2 : Code := { maxStack := 2, maxLocals := 2, code := method_3_code, exceptionTable := #[], attributes := #[] }
def k1m2 : Method := { name := "bit", desc := "(II)Z", sig := { parameters := [.int, .int], returnType := some .boolean }, accessFlags := 10, code := some k1c2 }
def k1c3 : Code := { maxStack := 2, maxLocals := 2, code := method_4_code, exceptionTable := #[], attributes := #[] }
def k1m3 : Method := { name := "b", desc := "(II)J", sig := { parameters := [.int, .int], returnType := some .long }, accessFlags := 10, code := some k1c3 }
def k1c4 : Code := { maxStack := 3, maxLocals := 2, code := method_5_code, exceptionTable := #[], attributes := #[] }
def k1m4 : Method := { name := "unchanged", desc := "([ZI)Z", sig := { parameters := [(.array .boolean), .int], returnType := some .boolean }, accessFlags := 10, code := some k1c4 }
/-- com/example/evotempo/evotempo/problem/OneMaxFitnessPinLaw -/
def k1 : Class := { plain "com/example/evotempo/evotempo/problem/OneMaxFitnessPinLaw" (some 0) with
  accessFlags := 49
  interfaces := #[]
  cf := some (fileOf pool1 8 #[] #[{ accessFlags := 1, nameIndex := 5, descriptorIndex := 6, attributes := #[] }, { accessFlags := 9, nameIndex := 32, descriptorIndex := 12, attributes := #[] }, { accessFlags := 10, nameIndex := 11, descriptorIndex := 12, attributes := #[] }, { accessFlags := 10, nameIndex := 15, descriptorIndex := 16, attributes := #[] }, { accessFlags := 10, nameIndex := 28, descriptorIndex := 29, attributes := #[] }] 49 2 #[] #[])
  fields := #[]
  methods := #[k1m0, k1m1, k1m2, k1m3, k1m4]
  instanceTypes := #[]
  staticTypes := #[]
  resolved := Array.replicate 38 none
  statics := none }

def pool2 : Array CpInfo := pool [(1, .class_ 2), (0, u "com/example/evotempo/evotempo/problem/Problem"), (0, .class_ 4), (0, u "java/lang/Object")] 10

/-- com/example/evotempo/evotempo/problem/Problem -/
def k2 : Class := { plain "com/example/evotempo/evotempo/problem/Problem" (some 0) with
  accessFlags := 1537
  interfaces := #[]
  cf := some (fileOf pool2 1 #[] #[] 1537 3 #[] #[])
  fields := #[]
  methods := #[]
  instanceTypes := #[]
  staticTypes := #[]
  resolved := Array.replicate 15 none
  statics := none }

def pool3 : Array CpInfo := pool [(1, .methodref 2 3), (0, .class_ 4), (0, .nameAndType 5 6), (0, u "java/lang/Object"), (0, u "<init>"), (0, u "()V"), (9, .fieldref 17 18), (0, .class_ 19), (0, .nameAndType 20 21), (0, u "com/example/evotempo/evotempo/problem/OneMax"), (0, u "n"), (0, u "I"), (2, .class_ 25), (0, u "com/example/evotempo/evotempo/problem/Problem"), (0, u "(I)V"), (4, u "fitness"), (0, u "([Z)J")] 25

def k3c0 : Code := { maxStack := 3, maxLocals := 2, code := prog_75_method_1_code, exceptionTable := #[], attributes := #[] }
def k3m0 : Method := { name := "<init>", desc := "(I)V", sig := { parameters := [.int], returnType := none }, accessFlags := 1, code := some k3c0 }
def k3c1 : Code := { maxStack := 4, maxLocals := 8, code := prog_75_method_3_code, exceptionTable := #[], attributes := #[] }
def k3m1 : Method := { name := "fitness", desc := "([Z)J", sig := { parameters := [(.array .boolean)], returnType := some .long }, accessFlags := 1, code := some k3c1 }
/-- com/example/evotempo/evotempo/problem/OneMax -/
def k3 : Class := { plain "com/example/evotempo/evotempo/problem/OneMax" (some 0) with
  accessFlags := 49
  interfaces := #[2]
  cf := some (fileOf pool3 17 #[] #[{ accessFlags := 1, nameIndex := 5, descriptorIndex := 26, attributes := #[] }, { accessFlags := 1, nameIndex := 31, descriptorIndex := 32, attributes := #[] }] 49 2 #[24] #[{ accessFlags := 18, nameIndex := 20, descriptorIndex := 21, attributes := #[] }])
  fields := #[{ name := "n", type := .int, accessFlags := 18, slot := 0, constantValue := 0 }]
  methods := #[k3m0, k3m1]
  instanceTypes := #[.int]
  staticTypes := #[]
  resolved := Array.replicate 58 none
  statics := none }

def pool4 : Array CpInfo := pool [(1, u "java/lang/Cloneable"), (0, .class_ 1), (0, u "java/lang/Object"), (0, .class_ 3)] 3

/-- java/lang/Cloneable -/
def k4 : Class := { plain "java/lang/Cloneable" (some 0) with
  accessFlags := 1537
  interfaces := #[]
  cf := some (fileOf pool4 2 #[] #[] 1537 4 #[] #[])
  fields := #[]
  methods := #[]
  instanceTypes := #[]
  staticTypes := #[]
  resolved := Array.replicate 8 none
  statics := none }

def pool5 : Array CpInfo := pool [(1, u "java/io/Serializable"), (0, .class_ 1), (0, u "java/lang/Object"), (0, .class_ 3)] 3

/-- java/io/Serializable -/
def k5 : Class := { plain "java/io/Serializable" (some 0) with
  accessFlags := 1537
  interfaces := #[]
  cf := some (fileOf pool5 2 #[] #[] 1537 4 #[] #[])
  fields := #[]
  methods := #[]
  instanceTypes := #[]
  staticTypes := #[]
  resolved := Array.replicate 8 none
  statics := none }

/-- the primitive boolean -/
def k6 : Class := { plain "boolean" none with kind := .primitive 'Z', accessFlags := 0x411 }
/-- [Z -/
def k7 : Class := { plain "[Z" (some 0) with kind := .array 6 .boolean, interfaces := #[4, 5], accessFlags := 1041 }

/-- the primitive byte -/
def k8 : Class := { plain "byte" none with kind := .primitive 'B', accessFlags := 0x411 }
/-- [B -/
def k9 : Class := { plain "[B" (some 0) with kind := .array 8 .byte, interfaces := #[4, 5], accessFlags := 1041 }

/-- the primitive int -/
def k10 : Class := { plain "int" none with kind := .primitive 'I', accessFlags := 0x411 }
/-- [I -/
def k11 : Class := { plain "[I" (some 0) with kind := .array 10 .int, interfaces := #[4, 5], accessFlags := 1041 }

def heap : Heap := #[]
def classes : Array Class := #[k0, k1, k2, k3, k4, k5, k6, k7, k8, k9, k10, k11]
def interned : List (Array UInt16 × Addr) := []
def slotsUsed : Nat := 0
def theMethod : MethodId := ⟨1, 1⟩
def args0 : Array Value := #[.int 5, .int 5]
def aboutOver (below : List Frame) : State where
  vm := { classes := classes, interned := interned.toArray }
  heap := heap
  slotsUsed := slotsUsed
  threads := #[{ frames := .invoking theMethod args0 :: below }]
def below0 : List Frame := [.native { method := ⟨0, 0⟩, args := #[] }]
def about1 : State := aboutOver below0
def p0 : Program := .bare "" "" ""
def e0 : Env := launch0.env 0 0 0
theorem w_frames : about1.frames = Frame.invoking theMethod args0 :: below0 := rfl
set_option maxRecDepth 65536 in
theorem w_args : argsFit about1.vm theMethod args0 = true := by decide +kernel
set_option maxRecDepth 65536 in
theorem w_heap : heapFits about1 = true := by decide +kernel
set_option maxRecDepth 65536 in
theorem w_runnable : about1.curStatus? = some .runnable := by decide +kernel
set_option maxRecDepth 65536 in
theorem w_alone : about1.alone = true := by decide +kernel
set_option maxRecDepth 65536 in
theorem w_named : about1.methodNamed? x = some theMethod := by decide +kernel
set_option maxRecDepth 65536 in
theorem w_hears : about1.hears theMethod below0 = true := by decide +kernel
set_option maxRecDepth 65536 in
theorem w_ripe : about1.ripe theMethod args0 below0 = true := by decide +kernel
theorem w_running : about1.status = .running := rfl
set_option maxRecDepth 65536 in
theorem w_room : about1.hasRoom e0.platform room_1 = true :=
  launch0.hasRoom_least _ room_1 (by decide +kernel) (by decide +kernel) (by decide +kernel) (by decide +kernel) (by decide +kernel) (by decide +kernel)
theorem allAtoms_all (ts : List Jvm.Cond) (a : Array Jvm.Value) (st : Jvm.State) : (allAtoms ts).before a st = ts.all (fun c => c.before a st) := by
  induction ts with
  | nil => rfl
  | cons c t ih =>
    show (Jvm.Cond.and c (allAtoms t)).before a st = _
    rw [Jvm.Cond.before_and, ih, List.all_cons]
def words1 : List Jvm.Cond := Jvm.Cond.code x code maxLocals ret :: tables_1
/-- a 'code' word, met by the world's own term for the bytes: nothing is compared byte by byte -/
theorem code_word {y : MethodName} {bytes : ByteArray} {mx : Nat} {rt : Option FieldType} {a : Array Value} {s : State} {m : MethodId} {meth : Method} {c : Code} (h1 : s.methodNamed? y = some m) (h2 : s.vm.method? m = some meth) (h3 : meth.code = some c) (h4 : c.code = bytes)
    (h5 : (c.maxLocals == mx && c.exceptionTable.isEmpty && decide (c.maxStack ≤ mostOperands) && decide (meth.sig.returnType = rt) && !meth.locks && decide (parseMethodDescriptor y.desc = some meth.sig)) = true) : (Jvm.Cond.code y bytes mx rt).before a s = true := by
  simp only [Bool.and_eq_true, beq_iff_eq, Bool.not_eq_true', decide_eq_true_eq] at h5
  obtain ⟨⟨⟨⟨⟨g1, g2⟩, g3⟩, g4⟩, g5⟩, g6⟩ := h5
  simp [Cond.before, Cond.holds, Cond.value, h1, h2, h3, h4, g1, g2, g3, g4, g5, g6]
def isCode : Jvm.Cond → Bool
  | .code _ _ _ _ => true
  | _ => false
theorem all_split {L : List Jvm.Cond} {P : Jvm.Cond → Bool} (h1 : L.all (fun c => isCode c || P c) = true) (h2 : ∀ c ∈ L.filter isCode, P c = true) : L.all P = true := by
  refine List.all_eq_true.mpr fun c hc => ?_
  have h := List.all_eq_true.mp h1 c hc
  rcases Bool.eq_false_or_eq_true (isCode c) with hi | hi
  · exact h2 c (List.mem_filter.mpr ⟨hc, hi⟩)
  · simpa [hi] using h
set_option maxRecDepth 65536 in
theorem w_c0 : (Jvm.Cond.code x code maxLocals ret).before args0 about1 = true := code_word (m := ⟨1, 1⟩) (meth := k1m1) (c := k1c1) (by decide +kernel) rfl rfl rfl (by decide +kernel)
set_option maxRecDepth 65536 in
theorem w_c1 : (Jvm.Cond.code ({ cls := "com/example/evotempo/evotempo/problem/OneMaxFitnessPinLaw", name := "bit", desc := "(II)Z" } : Jvm.MethodName) method_3_code (2 : Nat) (Option.some Jvm.ClassFile.FieldType.boolean)).before args0 about1 = true := code_word (m := ⟨1, 2⟩) (meth := k1m2) (c := k1c2) (by decide +kernel) rfl rfl rfl (by decide +kernel)
set_option maxRecDepth 65536 in
theorem w_c2 : (Jvm.Cond.code ({ cls := "com/example/evotempo/evotempo/problem/OneMaxFitnessPinLaw", name := "b", desc := "(II)J" } : Jvm.MethodName) method_4_code (2 : Nat) (Option.some Jvm.ClassFile.FieldType.long)).before args0 about1 = true := code_word (m := ⟨1, 3⟩) (meth := k1m3) (c := k1c3) (by decide +kernel) rfl rfl rfl (by decide +kernel)
set_option maxRecDepth 65536 in
theorem w_c3 : (Jvm.Cond.code ({ cls := "com/example/evotempo/evotempo/problem/OneMax", name := "<init>", desc := "(I)V" } : Jvm.MethodName) prog_75_method_1_code (2 : Nat) (Option.none : Option Jvm.ClassFile.FieldType)).before args0 about1 = true := code_word (m := ⟨3, 0⟩) (meth := k3m0) (c := k3c0) (by decide +kernel) rfl rfl rfl (by decide +kernel)
set_option maxRecDepth 65536 in
theorem w_c4 : (Jvm.Cond.code ({ cls := "java/lang/Object", name := "<init>", desc := "()V" } : Jvm.MethodName) object_method_1_code (1 : Nat) (Option.none : Option Jvm.ClassFile.FieldType)).before args0 about1 = true := code_word (m := ⟨0, 0⟩) (meth := k0m0) (c := k0c0) (by decide +kernel) rfl rfl rfl (by decide +kernel)
set_option maxRecDepth 65536 in
theorem w_c5 : (Jvm.Cond.code ({ cls := "com/example/evotempo/evotempo/problem/OneMax", name := "fitness", desc := "([Z)J" } : Jvm.MethodName) prog_75_method_3_code (8 : Nat) (Option.some Jvm.ClassFile.FieldType.long)).before args0 about1 = true := code_word (m := ⟨3, 1⟩) (meth := k3m1) (c := k3c1) (by decide +kernel) rfl rfl rfl (by decide +kernel)
set_option maxRecDepth 65536 in
theorem w_c6 : (Jvm.Cond.code ({ cls := "com/example/evotempo/evotempo/problem/OneMaxFitnessPinLaw", name := "unchanged", desc := "([ZI)Z" } : Jvm.MethodName) method_5_code (2 : Nat) (Option.some Jvm.ClassFile.FieldType.boolean)).before args0 about1 = true := code_word (m := ⟨1, 4⟩) (meth := k1m4) (c := k1c4) (by decide +kernel) rfl rfl rfl (by decide +kernel)
def codes1 : List Jvm.Cond := [Jvm.Cond.code x code maxLocals ret, Jvm.Cond.code ({ cls := "com/example/evotempo/evotempo/problem/OneMaxFitnessPinLaw", name := "bit", desc := "(II)Z" } : Jvm.MethodName) method_3_code (2 : Nat) (Option.some Jvm.ClassFile.FieldType.boolean), Jvm.Cond.code ({ cls := "com/example/evotempo/evotempo/problem/OneMaxFitnessPinLaw", name := "b", desc := "(II)J" } : Jvm.MethodName) method_4_code (2 : Nat) (Option.some Jvm.ClassFile.FieldType.long), Jvm.Cond.code ({ cls := "com/example/evotempo/evotempo/problem/OneMax", name := "<init>", desc := "(I)V" } : Jvm.MethodName) prog_75_method_1_code (2 : Nat) (Option.none : Option Jvm.ClassFile.FieldType), Jvm.Cond.code ({ cls := "java/lang/Object", name := "<init>", desc := "()V" } : Jvm.MethodName) object_method_1_code (1 : Nat) (Option.none : Option Jvm.ClassFile.FieldType), Jvm.Cond.code ({ cls := "com/example/evotempo/evotempo/problem/OneMax", name := "fitness", desc := "([Z)J" } : Jvm.MethodName) prog_75_method_3_code (8 : Nat) (Option.some Jvm.ClassFile.FieldType.long), Jvm.Cond.code ({ cls := "com/example/evotempo/evotempo/problem/OneMaxFitnessPinLaw", name := "unchanged", desc := "([ZI)Z" } : Jvm.MethodName) method_5_code (2 : Nat) (Option.some Jvm.ClassFile.FieldType.boolean)]
set_option maxRecDepth 65536 in
theorem codes_eq : words1.filter isCode = codes1 := rfl
theorem w_codes : ∀ c ∈ words1.filter isCode, c.before args0 about1 = true := by
  rw [codes_eq]
  intro c hc
  simp only [codes1, List.mem_cons, List.not_mem_nil, or_false] at hc
  rcases hc with rfl | rfl | rfl | rfl | rfl | rfl | rfl
  · exact w_c0
  · exact w_c1
  · exact w_c2
  · exact w_c3
  · exact w_c4
  · exact w_c5
  · exact w_c6
set_option maxRecDepth 65536 in
theorem w_t1 : (words1.take 24).all (fun c => isCode c || c.before args0 about1) = true := by decide +kernel
set_option maxRecDepth 65536 in
theorem w_t2 : (words1.drop 24).all (fun c => isCode c || c.before args0 about1) = true := by decide +kernel
theorem w_tables : (allAtoms (Jvm.Cond.code x code maxLocals ret :: tables_1)).before args0 about1 = true := by
  rw [allAtoms_all]
  show words1.all (fun c => c.before args0 about1) = true
  refine all_split ?_ w_codes
  rw [← List.take_append_drop 24 words1, List.all_append, w_t1, w_t2]
  rfl
set_option maxRecDepth 65536 in
theorem w_case : (Jvm.Cond.and given_1 narrow_1).before args0 about1 = true := by decide +kernel
theorem w_applies : (headSpec (Jvm.Cond.code x code maxLocals ret :: tables_1) room_1).applies x e0.platform about1 = true :=
  (Spec.applies_iff w_frames).mpr ⟨w_running, w_runnable, w_alone, w_named, w_hears, w_ripe, w_room, w_tables⟩
theorem atStart : AtStart classFile x code maxLocals ret World_1 tables_1 room_1 Calls_1 rest_1 Pre_1 launch0 p0 e0 about1 theMethod args0 below0 :=
  ⟨lists_1, trivial, launch0.admits_env _ _ _, launch0.least_env, fairChoices_fair.cas, fairChoices_fair.clock, w_frames, w_args, w_heap, w_applies, trivial, trivial, w_case⟩
end start1
theorem witness_1 : WitnessClaimed_1 := ⟨start1.p0, start1.e0, start1.about1, start1.theMethod, start1.args0, start1.below0, start1.atStart⟩
end Jvm.Pilot.@@N@@
