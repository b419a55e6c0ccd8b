import JvmDerived
import JvmDerived.Pilot.@@N@@Statement
import JvmDerived.Pilot.@@N@@Code
set_option linter.unusedVariables false
set_option linter.unusedSimpArgs false
namespace Jvm.RoadKit
open Sem ClassFile Op Lib Jvm.Stand Jvm.Free Jvm.LawKit
section New
variable {p : Program} {l : Launch} {e : Env} {R : Room} {s : State} {m : MethodId} {args : Array Value} {below : List Frame} {meth : Method} {c : Code} {T : State} {locs : List Loc} {cells slots : Nat}
theorem retI (X : Stand p l e R s m args below meth c T locs cells slots) (hx : p.tables.exec = Jvm.exec) {pc : Nat} {Ls : Array Slot} {z : Int32} {rest : List Value} (hret : meth.sig.returnType = some .int) (hd : decode c.code pc = .ok (.ireturn, 1)) {fs : List Frame}
    (hl : ∀ (f : JFrame) (acts : List Action), f.method = m → f.locked = none → f.entered = [] → (doReturn e (T.setTop f) acts (some (.int z))).1 = T.setFrames fs) : Steps p.tables e below (T.setTop (mkF m pc Ls (.int z :: rest))) (T.setFrames fs) := by
  have hm' : T.vm.method? m = some meth := X.method'
  have hn : narrow .int (.int z) = .int z := rfl
  show Steps p.tables e below (T.setTop { method := m, pc := pc, locals := Ls, stack := _ :: rest, locked := none }) _
  jvm_step X.here [X.here.top, hx, hd, hm', hret, hn]
  first | (intro acts; rw [hl _ acts rfl rfl rfl]) | rw [hl _ _ rfl rfl rfl]
  exact Steps.refl _
theorem retJ (X : Stand p l e R s m args below meth c T locs cells slots) (hx : p.tables.exec = Jvm.exec) {pc : Nat} {Ls : Array Slot} {z : Int64} {rest : List Value} (hret : meth.sig.returnType = some .long) (hd : decode c.code pc = .ok (.lreturn, 1)) {fs : List Frame}
    (hl : ∀ (f : JFrame) (acts : List Action), f.method = m → f.locked = none → f.entered = [] → (doReturn e (T.setTop f) acts (some (.long z))).1 = T.setFrames fs) : Steps p.tables e below (T.setTop (mkF m pc Ls (.long z :: rest))) (T.setFrames fs) := by
  have hm' : T.vm.method? m = some meth := X.method'
  show Steps p.tables e below (T.setTop { method := m, pc := pc, locals := Ls, stack := _ :: rest, locked := none }) _
  jvm_step X.here [X.here.top, hx, hd, hm', hret]
  first | (intro acts; rw [hl _ acts rfl rfl rfl]) | rw [hl _ _ rfl rfl rfl]
  exact Steps.refl _
theorem retR (X : Stand p l e R s m args below meth c T locs cells slots) (hx : p.tables.exec = Jvm.exec) {pc : Nat} {Ls : Array Slot} {z : Addr} {t : FieldType} {rest : List Value} (hret : meth.sig.returnType = some t) (ht : t.isReference = true) (hd : decode c.code pc = .ok (.areturn, 1)) {fs : List Frame}
    (hl : ∀ (f : JFrame) (acts : List Action), f.method = m → f.locked = none → f.entered = [] → (doReturn e (T.setTop f) acts (some (.ref z))).1 = T.setFrames fs) : Steps p.tables e below (T.setTop (mkF m pc Ls (.ref z :: rest))) (T.setFrames fs) := by
  have hm' : T.vm.method? m = some meth := X.method'
  show Steps p.tables e below (T.setTop { method := m, pc := pc, locals := Ls, stack := _ :: rest, locked := none }) _
  jvm_step X.here [X.here.top, hx, hd, hm', hret, Value.isRef, ht]
  first | (intro acts; rw [hl _ acts rfl rfl rfl]) | rw [hl _ _ rfl rfl rfl]
  exact Steps.refl _
end New
end Jvm.RoadKit
namespace Jvm.Pilot.@@N@@
open Jvm Jvm.ClassFile Sem Op Lib Jvm.Free Jvm.Stand Jvm.LawKit Jvm.RoadKit Bundle Jvm.Pilot.@@N@@.Jvm.D
/-- from the frame g, where T stands, the body comes to its end, and its end is as QQ says -/
def own_End (p : Program) (e : Env) (below : List Frame) (s : State) (QQ : Option Value → Heap → List Loc → Prop) (rc rs : Nat) (T : State) (g : JFrame) : Prop :=
  ∃ s₂ o, Steps p.tables e below (T.setTop g) s₂ ∧ s₂.status = .running ∧ Ended s₂ below o ∧ ∃ v L, o = .returned v ∧ QQ v s₂.heap L ∧ FrameEnd s o s₂ L rc rs
section Own
variable {p : Program} {l : Launch} {e : Env} {R : Room} {s : State} {m : MethodId} {args : Array Value} {below : List Frame} {meth : Method} {c : Code} {T T' : State} {locs : List Loc} {cells slots : Nat} {QQ : Option Value → Heap → List Loc → Prop} {rc rs : Nat}
theorem own_End.go {g g' : JFrame} (st : ∀ t, Steps p.tables e below (T'.setTop g') t → Steps p.tables e below (T.setTop g) t) (h : own_End p e below s QQ rc rs T' g') : own_End p e below s QQ rc rs T g := by
  obtain ⟨s2, o, a, b⟩ := h
  exact ⟨s2, o, st _ a, b⟩
theorem own_leafI (X : Stand p l e R s m args below meth c T locs cells slots) (hx : p.tables.exec = Jvm.exec) (hk : meth.locks = false) {pc : Nat} {Ls : Array Slot} {z : Int32} {rest : List Value} (hret : meth.sig.returnType = some .int) (hd : decode c.code pc = .ok (.ireturn, 1)) (hq : QQ (some (.int z)) T.heap locs) (h1 : cells ≤ rc) (h2 : slots ≤ rs) : own_End p e below s QQ rc rs T (mkF m pc Ls (.int z :: rest)) := by
  obtain ⟨fs, hr, hrun, hended, hW, hsame⟩ := X.leave (v := some (.int z)) (fun h => by rw [hret] at h; cases h) hk
  exact ⟨_, _, retI X hx hret hd hr, hrun, hended, _, _, rfl, hq, ⟨_, rfl⟩, hW, hsame.mono h1 h2⟩
theorem own_leafN (X : Stand p l e R s m args below meth c T locs cells slots) (hx : p.tables.exec = Jvm.exec) (hk : meth.locks = false) {pc : Nat} {Ls : Array Slot} {z : Int32} {t : FieldType} {rest : List Value} (hret : meth.sig.returnType = some t) (ht : t = .boolean ∨ t = .byte ∨ t = .char ∨ t = .short) (hd : decode c.code pc = .ok (.ireturn, 1)) (hq : QQ (some (.int (nar t z))) T.heap locs) (h1 : cells ≤ rc) (h2 : slots ≤ rs) : own_End p e below s QQ rc rs T (mkF m pc Ls (.int z :: rest)) := by
  obtain ⟨fs, hr, hrun, hended, hW, hsame⟩ := X.leave (v := some (.int (nar t z))) (fun h => by rw [hret] at h; cases h) hk
  exact ⟨_, _, retN X hx hret ht hd hr, hrun, hended, _, _, rfl, hq, ⟨_, rfl⟩, hW, hsame.mono h1 h2⟩
theorem own_leafJ (X : Stand p l e R s m args below meth c T locs cells slots) (hx : p.tables.exec = Jvm.exec) (hk : meth.locks = false) {pc : Nat} {Ls : Array Slot} {z : Int64} {rest : List Value} (hret : meth.sig.returnType = some .long) (hd : decode c.code pc = .ok (.lreturn, 1)) (hq : QQ (some (.long z)) T.heap locs) (h1 : cells ≤ rc) (h2 : slots ≤ rs) : own_End p e below s QQ rc rs T (mkF m pc Ls (.long z :: rest)) := by
  obtain ⟨fs, hr, hrun, hended, hW, hsame⟩ := X.leave (v := some (.long z)) (fun h => by rw [hret] at h; cases h) hk
  exact ⟨_, _, retJ X hx hret hd hr, hrun, hended, _, _, rfl, hq, ⟨_, rfl⟩, hW, hsame.mono h1 h2⟩
theorem own_leafR (X : Stand p l e R s m args below meth c T locs cells slots) (hx : p.tables.exec = Jvm.exec) (hk : meth.locks = false) {pc : Nat} {Ls : Array Slot} {z : Addr} {t : FieldType} {rest : List Value} (hret : meth.sig.returnType = some t) (ht : t.isReference = true) (hd : decode c.code pc = .ok (.areturn, 1)) (hq : QQ (some (.ref z)) T.heap locs) (h1 : cells ≤ rc) (h2 : slots ≤ rs) : own_End p e below s QQ rc rs T (mkF m pc Ls (.ref z :: rest)) := by
  obtain ⟨fs, hr, hrun, hended, hW, hsame⟩ := X.leave (v := some (.ref z)) (fun h => by rw [hret] at h; cases h) hk
  exact ⟨_, _, retR X hx hret ht hd hr, hrun, hended, _, _, rfl, hq, ⟨_, rfl⟩, hW, hsame.mono h1 h2⟩
theorem own_leafV (X : Stand p l e R s m args below meth c T locs cells slots) (hx : p.tables.exec = Jvm.exec) (hk : meth.locks = false) {pc : Nat} {Ls : Array Slot} (hret : meth.sig.returnType = none) (hd : decode c.code pc = .ok (.return_, 1)) (hq : QQ none T.heap locs) (h1 : cells ≤ rc) (h2 : slots ≤ rs) : own_End p e below s QQ rc rs T (mkF m pc Ls []) := by
  obtain ⟨fs, hr, hrun, hended, hW, hsame⟩ := X.leave (v := none) (fun _ => rfl) hk
  exact ⟨_, _, X.returnOut hx hret hd hr, hrun, hended, _, _, rfl, hq, ⟨_, rfl⟩, hW, hsame.mono h1 h2⟩
end Own
theorem own_nb0 : nar .boolean (0 : Int32) = 0 := by decide
theorem own_nb1 : nar .boolean (1 : Int32) = 1 := by decide
theorem own_oneif {P : Prop} [Decidable P] {x y : Slot} (hx : One x) (hy : One y) : One (if P then x else y) := by split <;> assumption

/-! arrays as lists; one step, one row -/
def own_IA (Z : State) (h : Heap) (a : Addr) (ty : FieldType) (L : List Int32) : Prop := ∃ k n, Arv Z h a k ty n (L.map Value.int) (.int 0) ∧ n.toInt = (L.length : Int)
def own_JA (Z : State) (h : Heap) (a : Addr) (L : List Int64) : Prop := ∃ k n, Arv Z h a k .long n (L.map Value.long) (.long 0) ∧ n.toInt = (L.length : Int)
theorem own_IA.keep {Z : State} {h h' : Heap} {a : Addr} {ty : FieldType} {L : List Int32} {ws : List Addr} (V : own_IA Z h a ty L) (K : Keep h h' ws) (q : a ∉ ws) : own_IA Z h' a ty L := by
  obtain ⟨k, n, A, e⟩ := V; exact ⟨k, n, A.keep K q, e⟩
theorem own_JA.keep {Z : State} {h h' : Heap} {a : Addr} {L : List Int64} {ws : List Addr} (V : own_JA Z h a L) (K : Keep h h' ws) (q : a ∉ ws) : own_JA Z h' a L := by
  obtain ⟨k, n, A, e⟩ := V; exact ⟨k, n, A.keep K q, e⟩
theorem own_IA.lt {Z : State} {h : Heap} {a : Addr} {ty : FieldType} {L : List Int32} (V : own_IA Z h a ty L) : a < h.size := by
  obtain ⟨k, n, A, e⟩ := V; exact A.lt
theorem own_JA.lt {Z : State} {h : Heap} {a : Addr} {L : List Int64} (V : own_JA Z h a L) : a < h.size := by
  obtain ⟨k, n, A, e⟩ := V; exact A.lt
theorem own_IA.len {Z : State} {h : Heap} {a : Addr} {ty : FieldType} {L : List Int32} (V : own_IA Z h a ty L) : (L.length : Int) < 2147483648 := by
  obtain ⟨k, n, A, e⟩ := V; have := rng32 n; omega
theorem own_keepE {h h' : Heap} (E : Ext h h') : Keep h h' [] := (Keep.refl h []).ext E
theorem own_ne {h : Heap} {x y : Addr} (hx : x < h.size) (hy : h.size ≤ y) : x ≠ y := Nat.ne_of_lt (Nat.lt_of_lt_of_le hx hy)
theorem own_clamp {j : Int32} (h : 0 ≤ j.toInt) : j.toNatClampNeg = j.toInt.toNat := rfl
theorem own_lt0 {n : Int32} (h : 0 ≤ n.toInt) : ¬ n < 0 := by
  rw [Int32.lt_iff_toInt_lt]; have : (0 : Int32).toInt = 0 := by decide
  omega
theorem own_in {j : Int32} {n m : Nat} (hn : n = m) (h : 0 ≤ j.toInt ∧ j.toInt < (m : Int)) : 0 ≤ j.toInt ∧ j.toInt < (n : Int) := hn ▸ h
theorem own_mapD (L : List Int32) (i : Nat) : (L.map Value.int).getD i (.int 0) = .int (L.getD i 0) := by
  simp only [List.getD_eq_getElem?_getD, List.getElem?_map]; cases L[i]? <;> rfl
theorem own_mapDJ (L : List Int64) (i : Nat) : (L.map Value.long).getD i (.long 0) = .long (L.getD i 0) := by
  simp only [List.getD_eq_getElem?_getD, List.getElem?_map]; cases L[i]? <;> rfl
theorem own_mapS {α β : Type} (f : α → β) (L : List α) (i : Nat) (x : α) : (L.map f).set i (f x) = (L.set i x).map f := by
  induction L generalizing i with
  | nil => rfl
  | cons y L ih => cases i with
    | zero => rfl
    | succ i => simp only [List.map_cons, List.set_cons_succ, ih]
section Heap
variable {p : Program} {l : Launch} {e : Env} {R : Room} {s : State} {m : MethodId} {args : Array Value} {below : List Frame} {meth : Method} {c : Code} {T : State} {locs : List Loc} {cells slots : Nat} {Z : State} {a0 : Array Value} {h : Heap} {n0 : Nat}
/-- newarray of ints, bytes, booleans, chars, shorts -/
theorem own_newA (X : Stand p l e R s m args below meth c T locs cells slots) (hx : p.tables.exec = Jvm.exec) (hZ : Z.Warmed39 s.vm) {aty : ArrayType} {ty : FieldType} (hty : newarray.typeOf aty = ty) (w : (Cond.arrayClass ty).before a0 Z = true) (hd0 : defaultValue ty = .int 0) (eT : T.heap = h) {g : JFrame} (hg : g.method = m) (hd : decode c.code g.pc = .ok (.newarray aty, 2)) {n : Int32} {rest : List Value} (hs : g.stack = .int n :: rest)
    (len : Nat) (hn : n.toInt = len) {cap : Nat} (hcap : len ≤ cap) (hb : cap * 8 ≤ 536870912) (hc : cells + 1 ≤ R.cells) (hl : slots + cap ≤ R.slots) :
    ∃ T' h' a, Stand p l e R s m args below meth c T' locs (cells + 1) (slots + cap) ∧ T'.heap = h' ∧ Keep h h' [] ∧ h.size ≤ a ∧ own_IA Z h' a ty (List.replicate len 0) ∧
      ∀ target, Steps p.tables e below (T'.setTop { g with pc := g.pc + 2, stack := .ref a :: rest }) target → Steps p.tables e below (T.setTop g) target := by
  subst hty
  have h0 : ¬ n < 0 := own_lt0 (by omega)
  obtain ⟨T', h', cA, X', e', E, A, st⟩ := newP X hx hZ w eT hg hd hs h0 (cap := cap) (by show n.toInt.toNat ≤ cap; omega) hb hc hl
  refine ⟨T', h', h.size, X', e', own_keepE E, Nat.le_refl _, ⟨cA, n, ?_, ?_⟩, st⟩
  · have V := (Arv.new A h0).pad (pad_rep [] _ len)
    rw [hd0] at V
    simpa using V
  · simpa using hn
theorem own_newJ (X : Stand p l e R s m args below meth c T locs cells slots) (hx : p.tables.exec = Jvm.exec) (hZ : Z.Warmed39 s.vm) (w : (Cond.arrayClass .long).before a0 Z = true) (eT : T.heap = h) {g : JFrame} (hg : g.method = m) (hd : decode c.code g.pc = .ok (.newarray .long, 2)) {n : Int32} {rest : List Value} (hs : g.stack = .int n :: rest)
    (len : Nat) (hn : n.toInt = len) {cap : Nat} (hcap : len ≤ cap) (hb : cap * 8 ≤ 536870912) (hc : cells + 1 ≤ R.cells) (hl : slots + cap ≤ R.slots) :
    ∃ T' h' a, Stand p l e R s m args below meth c T' locs (cells + 1) (slots + cap) ∧ T'.heap = h' ∧ Keep h h' [] ∧ h.size ≤ a ∧ own_JA Z h' a (List.replicate len 0) ∧
      ∀ target, Steps p.tables e below (T'.setTop { g with pc := g.pc + 2, stack := .ref a :: rest }) target → Steps p.tables e below (T.setTop g) target := by
  have h0 : ¬ n < 0 := own_lt0 (by omega)
  obtain ⟨T', h', cA, X', e', E, A, st⟩ := newP X hx hZ (aty := .long) w eT hg hd hs h0 (cap := cap) (by show n.toInt.toNat ≤ cap; omega) hb hc hl
  refine ⟨T', h', h.size, X', e', own_keepE E, Nat.le_refl _, ⟨cA, n, ?_, ?_⟩, st⟩
  · have V := (Arv.new A h0).pad (pad_rep [] _ len)
    have hd0 : defaultValue (newarray.typeOf .long) = .long 0 := rfl
    rw [hd0] at V
    have V' : Arv Z h' h.size cA .long n ([] ++ List.replicate len (Value.long 0)) (.long 0) := V
    simpa using V'
  · simpa using hn
theorem own_bounds {Z : State} {h : Heap} {a : Addr} {cl : Cell} {n j : Int32} {len : Nat} (S : cl.slots.size = n.toNatClampNeg) (hn : n.toInt = (len : Int)) (hj : 0 ≤ j.toInt ∧ j.toInt < (len : Int)) : ¬ (j < 0 ∨ cl.slots.size ≤ j.toNatClampNeg) := by
  have hn' : n.toNatClampNeg = n.toInt.toNat := rfl
  have hj' : j.toNatClampNeg = j.toInt.toNat := rfl
  rintro (q | q)
  · exact own_lt0 hj.1 q
  · omega
theorem own_ialoadI (X : Stand p l e R s m args below meth c T locs cells slots) (hx : p.tables.exec = Jvm.exec) (hZ : Z.Warmed39 s.vm) (eT : T.heap = h) {a : Addr} {L : List Int32} (V : own_IA Z h a .int L) {j : Int32} (hj : 0 ≤ j.toInt ∧ j.toInt < (L.length : Int)) {g : JFrame} (hg : g.method = m) {rest : List Value} (hs : g.stack = .int j :: .ref a :: rest) (hd : decode c.code g.pc = .ok (.iaload, 1)) :
    ∀ target, Steps p.tables e below (T.setTop { g with pc := g.pc + 1, stack := .int (L.getD j.toInt.toNat 0) :: rest }) target → Steps p.tables e below (T.setTop g) target := by
  obtain ⟨k, n, ⟨cl, A, q1, S, q3, H, G⟩, hn⟩ := V
  have hb := own_bounds (Z := Z) (h := h) (a := a) S hn hj
  exact X.iaload hx (j := j) (v := .int (L.getD j.toInt.toNat 0)) (by rw [eT]; exact A.1) (State.isArrayOf_alike hZ.alike A.2.1) A.2.2 hb (H.at hb (own_mapD L _)) hg hs hd
theorem own_baloadB (X : Stand p l e R s m args below meth c T locs cells slots) (hx : p.tables.exec = Jvm.exec) (hZ : Z.Warmed39 s.vm) (eT : T.heap = h) {a : Addr} {L : List Int32} (V : own_IA Z h a .byte L) {j : Int32} (hj : 0 ≤ j.toInt ∧ j.toInt < (L.length : Int)) {g : JFrame} (hg : g.method = m) {rest : List Value} (hs : g.stack = .int j :: .ref a :: rest) (hd : decode c.code g.pc = .ok (.baload, 1)) :
    ∀ target, Steps p.tables e below (T.setTop { g with pc := g.pc + 1, stack := .int (L.getD j.toInt.toNat 0) :: rest }) target → Steps p.tables e below (T.setTop g) target := by
  obtain ⟨k, n, ⟨cl, A, q1, S, q3, H, G⟩, hn⟩ := V
  have hb := own_bounds (Z := Z) (h := h) (a := a) S hn hj
  exact X.baloadBytes hx (j := j) (v := .int (L.getD j.toInt.toNat 0)) (by rw [eT]; exact A.1) (State.isArrayOf_alike hZ.alike A.2.1) A.2.2 hb (H.at hb (own_mapD L _)) hg hs hd
theorem own_baloadZ (X : Stand p l e R s m args below meth c T locs cells slots) (hx : p.tables.exec = Jvm.exec) (hZ : Z.Warmed39 s.vm) (eT : T.heap = h) {a : Addr} {L : List Int32} (V : own_IA Z h a .boolean L) {j : Int32} (hj : 0 ≤ j.toInt ∧ j.toInt < (L.length : Int)) {g : JFrame} (hg : g.method = m) {rest : List Value} (hs : g.stack = .int j :: .ref a :: rest) (hd : decode c.code g.pc = .ok (.baload, 1)) :
    ∀ target, Steps p.tables e below (T.setTop { g with pc := g.pc + 1, stack := .int (L.getD j.toInt.toNat 0) :: rest }) target → Steps p.tables e below (T.setTop g) target := by
  obtain ⟨k, n, ⟨cl, A, q1, S, q3, H, G⟩, hn⟩ := V
  have hb := own_bounds (Z := Z) (h := h) (a := a) S hn hj
  exact X.baloadBooleans hx (j := j) (v := .int (L.getD j.toInt.toNat 0)) (by rw [eT]; exact A.1) (State.isArrayOf_alike hZ.alike A.2.1) A.2.2 hb (H.at hb (own_mapD L _)) hg hs hd
theorem own_laloadJ (X : Stand p l e R s m args below meth c T locs cells slots) (hx : p.tables.exec = Jvm.exec) (hZ : Z.Warmed39 s.vm) (eT : T.heap = h) {a : Addr} {L : List Int64} (V : own_JA Z h a L) {j : Int32} (hj : 0 ≤ j.toInt ∧ j.toInt < (L.length : Int)) {g : JFrame} (hg : g.method = m) {rest : List Value} (hs : g.stack = .int j :: .ref a :: rest) (hd : decode c.code g.pc = .ok (.laload, 1)) :
    ∀ target, Steps p.tables e below (T.setTop { g with pc := g.pc + 1, stack := .long (L.getD j.toInt.toNat 0) :: rest }) target → Steps p.tables e below (T.setTop g) target := by
  obtain ⟨k, n, ⟨cl, A, q1, S, q3, H, G⟩, hn⟩ := V
  have hb := own_bounds (Z := Z) (h := h) (a := a) S hn hj
  exact X.laload hx (j := j) (v := .long (L.getD j.toInt.toNat 0)) (by rw [eT]; exact A.1) (State.isArrayOf_alike hZ.alike A.2.1) A.2.2 hb (H.at hb (own_mapDJ L _)) hg hs hd
theorem own_lenI (X : Stand p l e R s m args below meth c T locs cells slots) (hx : p.tables.exec = Jvm.exec) (hZ : Z.Warmed39 s.vm) (eT : T.heap = h) {a : Addr} {ty : FieldType} {L : List Int32} (V : own_IA Z h a ty L) {g : JFrame} (hg : g.method = m) {rest : List Value} (hs : g.stack = .ref a :: rest) (hd : decode c.code g.pc = .ok (.arraylength, 1)) :
    ∀ target, Steps p.tables e below (T.setTop { g with pc := g.pc + 1, stack := .int (Int32.ofNat L.length) :: rest }) target → Steps p.tables e below (T.setTop g) target := by
  have hl := V.len
  obtain ⟨k, n, ⟨cl, A, q1, S, q3, H, G⟩, hn⟩ := V
  intro t k
  refine X.arraylength hx (by rw [eT]; exact A.1) (State.isArrayOf_alike hZ.alike A.2.1) hg hs hd t ?_
  rw [len_of S q3]
  have e : n = Int32.ofNat L.length := by
    rw [← Int32.toInt_inj, Int32.toInt_ofNat_of_lt (by omega)]; exact hn
  rw [e]; exact k
theorem own_lenJ (X : Stand p l e R s m args below meth c T locs cells slots) (hx : p.tables.exec = Jvm.exec) (hZ : Z.Warmed39 s.vm) (eT : T.heap = h) {a : Addr} {L : List Int64} (V : own_JA Z h a L) {g : JFrame} (hg : g.method = m) {rest : List Value} (hs : g.stack = .ref a :: rest) (hd : decode c.code g.pc = .ok (.arraylength, 1)) :
    ∀ target, Steps p.tables e below (T.setTop { g with pc := g.pc + 1, stack := .int (Int32.ofNat L.length) :: rest }) target → Steps p.tables e below (T.setTop g) target := by
  obtain ⟨k, n, ⟨cl, A, q1, S, q3, H, G⟩, hn⟩ := V
  have hl := rng32 n
  intro t k
  refine X.arraylength hx (by rw [eT]; exact A.1) (State.isArrayOf_alike hZ.alike A.2.1) hg hs hd t ?_
  rw [len_of S q3]
  have e : n = Int32.ofNat L.length := by
    rw [← Int32.toInt_inj, Int32.toInt_ofNat_of_lt (by omega)]; exact hn
  rw [e]; exact k
theorem own_iastoreI (X : Stand p l e R s m args below meth c T locs cells slots) (hx : p.tables.exec = Jvm.exec) (hZ : Z.Warmed39 s.vm) (N : Fr n0 locs) (eT : T.heap = h) {a : Addr} {L : List Int32} (V : own_IA Z h a .int L) {j x : Int32} (hj : 0 ≤ j.toInt ∧ j.toInt < (L.length : Int)) (ha : n0 ≤ a) {g : JFrame} (hg : g.method = m) {rest : List Value} (hs : g.stack = .int x :: .int j :: .ref a :: rest) (hd : decode c.code g.pc = .ok (.iastore, 1)) :
    ∃ T' h' locs', Stand p l e R s m args below meth c T' locs' cells slots ∧ Fr n0 locs' ∧ T'.heap = h' ∧ Keep h h' [a] ∧ own_IA Z h' a .int (L.set j.toInt.toNat x) ∧
      ∀ target, Steps p.tables e below (T'.setTop { g with pc := g.pc + 1, stack := rest }) target → Steps p.tables e below (T.setTop g) target := by
  obtain ⟨k, n, ⟨cl, A, q1, S, q3, H, G⟩, hn⟩ := V
  have hb := own_bounds (Z := Z) (h := h) (a := a) S hn hj
  obtain ⟨T', h', X', e', W, st⟩ := stI X hx hZ eT A (j := j) hb hg hs hd
  have V' := Arv.set A q1 S q3 H G (v := .int x) rfl W j.toInt.toNat rfl (by simp only [List.length_map]; omega)
  rw [own_mapS] at V'
  exact ⟨T', h', _, X', Fr.snoc X' N ha, e', Keep.of_wr W, ⟨k, n, V', by simpa using hn⟩, st⟩
theorem own_bastoreB (X : Stand p l e R s m args below meth c T locs cells slots) (hx : p.tables.exec = Jvm.exec) (hZ : Z.Warmed39 s.vm) (N : Fr n0 locs) (eT : T.heap = h) {a : Addr} {L : List Int32} (V : own_IA Z h a .byte L) {j x : Int32} (hj : 0 ≤ j.toInt ∧ j.toInt < (L.length : Int)) (ha : n0 ≤ a) {g : JFrame} (hg : g.method = m) {rest : List Value} (hs : g.stack = .int x :: .int j :: .ref a :: rest) (hd : decode c.code g.pc = .ok (.bastore, 1)) :
    ∃ T' h' locs', Stand p l e R s m args below meth c T' locs' cells slots ∧ Fr n0 locs' ∧ T'.heap = h' ∧ Keep h h' [a] ∧ own_IA Z h' a .byte (L.set j.toInt.toNat (nar .byte x)) ∧
      ∀ target, Steps p.tables e below (T'.setTop { g with pc := g.pc + 1, stack := rest }) target → Steps p.tables e below (T.setTop g) target := by
  obtain ⟨k, n, ⟨cl, A, q1, S, q3, H, G⟩, hn⟩ := V
  have hb := own_bounds (Z := Z) (h := h) (a := a) S hn hj
  obtain ⟨T', h', X', e', W, st⟩ := stB X hx hZ eT A (j := j) hb hg hs hd
  have V' := Arv.set A q1 S q3 H G (v := .int (nar .byte x)) (fits_nar_byte _) W j.toInt.toNat rfl (by simp only [List.length_map]; omega)
  rw [own_mapS] at V'
  exact ⟨T', h', _, X', Fr.snoc X' N ha, e', Keep.of_wr W, ⟨k, n, V', by simpa using hn⟩, st⟩
theorem own_bastoreZ (X : Stand p l e R s m args below meth c T locs cells slots) (hx : p.tables.exec = Jvm.exec) (hZ : Z.Warmed39 s.vm) (N : Fr n0 locs) (eT : T.heap = h) {a : Addr} {L : List Int32} (V : own_IA Z h a .boolean L) {j x : Int32} (hj : 0 ≤ j.toInt ∧ j.toInt < (L.length : Int)) (ha : n0 ≤ a) {g : JFrame} (hg : g.method = m) {rest : List Value} (hs : g.stack = .int x :: .int j :: .ref a :: rest) (hd : decode c.code g.pc = .ok (.bastore, 1)) :
    ∃ T' h' locs', Stand p l e R s m args below meth c T' locs' cells slots ∧ Fr n0 locs' ∧ T'.heap = h' ∧ Keep h h' [a] ∧ own_IA Z h' a .boolean (L.set j.toInt.toNat (nar .boolean x)) ∧
      ∀ target, Steps p.tables e below (T'.setTop { g with pc := g.pc + 1, stack := rest }) target → Steps p.tables e below (T.setTop g) target := by
  obtain ⟨k, n, ⟨cl, A, q1, S, q3, H, G⟩, hn⟩ := V
  have hb := own_bounds (Z := Z) (h := h) (a := a) S hn hj
  obtain ⟨T', h', X', e', W, st⟩ := stZ X hx hZ eT A (j := j) hb hg hs hd
  have V' := Arv.set A q1 S q3 H G (v := .int (nar .boolean x)) (fits_nar_bool _) W j.toInt.toNat rfl (by simp only [List.length_map]; omega)
  rw [own_mapS] at V'
  exact ⟨T', h', _, X', Fr.snoc X' N ha, e', Keep.of_wr W, ⟨k, n, V', by simpa using hn⟩, st⟩
theorem own_lastoreJ (X : Stand p l e R s m args below meth c T locs cells slots) (hx : p.tables.exec = Jvm.exec) (hZ : Z.Warmed39 s.vm) (N : Fr n0 locs) (eT : T.heap = h) {a : Addr} {L : List Int64} (V : own_JA Z h a L) {j : Int32} {x : Int64} (hj : 0 ≤ j.toInt ∧ j.toInt < (L.length : Int)) (ha : n0 ≤ a) {g : JFrame} (hg : g.method = m) {rest : List Value} (hs : g.stack = .long x :: .int j :: .ref a :: rest) (hd : decode c.code g.pc = .ok (.lastore, 1)) :
    ∃ T' h' locs', Stand p l e R s m args below meth c T' locs' cells slots ∧ Fr n0 locs' ∧ T'.heap = h' ∧ Keep h h' [a] ∧ own_JA Z h' a (L.set j.toInt.toNat x) ∧
      ∀ target, Steps p.tables e below (T'.setTop { g with pc := g.pc + 1, stack := rest }) target → Steps p.tables e below (T.setTop g) target := by
  obtain ⟨k, n, ⟨cl, A, q1, S, q3, H, G⟩, hn⟩ := V
  have hb := own_bounds (Z := Z) (h := h) (a := a) S hn hj
  obtain ⟨T', h', X', e', W, st⟩ := stJ X hx hZ eT A (j := j) hb hg hs hd
  have V' := Arv.set A q1 S q3 H G (v := .long x) rfl W j.toInt.toNat rfl (by simp only [List.length_map]; omega)
  rw [own_mapS] at V'
  exact ⟨T', h', _, X', Fr.snoc X' N ha, e', Keep.of_wr W, ⟨k, n, V', by simpa using hn⟩, st⟩
/-- new -/
theorem own_new (X : Stand p l e R s m args below meth c T locs cells slots) (hx : p.tables.exec = Jvm.exec) (hZ : Z.Warmed39 s.vm) {own C : String} {index n : Nat} (hown : s.vm.findClass own = some m.cls) (w : (Cond.classLink own index C).before a0 Z = true) (wi : (Cond.instantiable C n).before a0 Z = true) (wz : (Cond.initialized C).before a0 Z = true) (eT : T.heap = h)
    {g : JFrame} (hg : g.method = m) (hd : decode c.code g.pc = .ok (.new index, 3)) (hc : cells + 1 ≤ R.cells) (hl : slots + n ≤ R.slots) :
    ∃ T' h' a, Stand p l e R s m args below meth c T' locs (cells + 1) (slots + n) ∧ T'.heap = h' ∧ Keep h h' [] ∧ h.size ≤ a ∧ Exa Z h' a C ∧ (∀ {O nm d : String} {ty : FieldType}, Laid Z a0 C O nm d → parseFieldDescriptor d = some ty → Fld Z h' a O nm d (defaultValue ty)) ∧
      ∀ target, Steps p.tables e below (T'.setTop { g with pc := g.pc + 3, stack := .ref a :: g.stack }) target → Steps p.tables e below (T.setTop g) target := by
  obtain ⟨T', h', X', e', E, A, D, -, st⟩ := newO X hx hZ hown w wi wz eT hg hd hc hl
  exact ⟨T', h', h.size, X', e', own_keepE E, Nat.le_refl _, A, D, st⟩
end Heap
theorem own_irem (x y : Int32) : x - (x / y) * y = x % y := by
  have lo (z : Int32) : Int32.minValue.toInt ≤ z.toInt := z.minValue_le_toInt
  have hi (z : Int32) : z.toInt ≤ Int32.maxValue.toInt := z.toInt_le
  have d := Int32.ofInt_tdiv (a := x.toInt) (b := y.toInt) (lo x) (hi x) (lo y) (hi y)
  have m := Int32.ofInt_tmod (a := x.toInt) (b := y.toInt) (lo x) (hi x) (lo y) (hi y)
  simp only [Int32.ofInt_toInt] at d m
  have e : x.toInt.tmod y.toInt = x.toInt - (x.toInt.tdiv y.toInt) * y.toInt := by
    have := Int.tmod_add_mul_tdiv x.toInt y.toInt
    rw [Int.mul_comm (x.toInt.tdiv y.toInt)]; omega
  rw [← d, ← m, e, Int32.ofInt_sub, Int32.ofInt_mul, Int32.ofInt_toInt, Int32.ofInt_toInt]
theorem own_remP (x d : Int32) (k : Int) (hd : d.toInt = k) (h : 0 ≤ x.toInt) : (x - (x / d) * d).toInt = x.toInt % k := by
  rw [own_irem]; exact (c_irem x d k hd).1 h
theorem own_mask31 (x : Int32) : (x &&& (2147483647 : Int32)).toInt = x.toInt % 2147483648 := by
  have : (x &&& (2147483647 : Int32)).toInt = x.toInt % (2 ^ 31 : Nat) := c_mask x 2147483647 31 (by decide) (by decide)
  omega
theorem own_succ {x y : Int32} (h : y = x + (1 : Int32)) (hb : x.toInt < 2147483647) : y.toInt = x.toInt + 1 := by
  subst h
  have a := c_iadd x 1
  have r := rng32 (x + 1)
  have r' := rng32 x
  have z : (1 : Int32).toInt = 1 := by decide
  omega
theorem own_ofN {v : Int32} {n : Nat} (h : v = Int32.ofNat n) (hn : n < 2147483648) : v.toInt = n := by
  subst h; exact Int32.toInt_ofNat_of_lt hn
theorem own_z0 : (0 : Int32).toInt = 0 := by decide

theorem own_ltl {i n : Int32} {k : Nat} (hc : i < n) (h : n.toInt ≤ (k : Int)) : i.toInt < (k : Int) := by
  rw [Int32.lt_iff_toInt_lt] at hc; omega
theorem own_at {L : List Int32} {i : Int32} {k : Nat} (hp : ∀ x ∈ L, 0 ≤ x.toInt ∧ x.toInt < (k : Int)) (h : 0 ≤ i.toInt ∧ i.toInt < (L.length : Int)) : 0 ≤ (List.getD L i.toInt.toNat 0).toInt ∧ (List.getD L i.toInt.toNat 0).toInt < (k : Int) := by
  refine hp _ ?_
  rw [List.getD_eq_getElem?_getD, List.getElem?_eq_getElem (by omega : i.toInt.toNat < L.length)]
  exact List.getElem_mem _
theorem own_m15 {v p : Int32} (h : v = (p &&& (15 : Int32))) : 0 ≤ v.toInt ∧ v.toInt ≤ 15 := by
  have : (p &&& (15 : Int32)).toInt = p.toInt % (2 ^ 4 : Nat) := c_mask p 15 4 (by decide) (by decide)
  rw [h]; omega
theorem own_all16 {P : Int32 → Prop} (v : Int32) (h : 0 ≤ v.toInt ∧ v.toInt ≤ 15) (hP : ∀ n : Fin 16, P (Int32.ofNat n.val)) : P v := by
  have q := hP ⟨v.toInt.toNat, by omega⟩
  have e : Int32.ofNat v.toInt.toNat = v := by
    rw [← Int32.toInt_inj, Int32.toInt_ofNat_of_lt (by omega)]
    omega
  exact e ▸ q
theorem own_pd0 : parseMethodDescriptor "(II)I" = some ⟨[.int, .int], some .int⟩ := by decide +kernel
theorem own_pd1 : parseMethodDescriptor "([IIIII)I" = some ⟨[(.array .int), .int, .int, .int, .int], some .int⟩ := by decide +kernel
theorem own_pd2 : parseMethodDescriptor "(I)V" = some ⟨[.int], none⟩ := by decide +kernel
theorem own_pd3 : parseMethodDescriptor "(I)I" = some ⟨[.int], some .int⟩ := by decide +kernel
theorem own_pd4 : parseMethodDescriptor "([ZJ[II)J" = some ⟨[(.array .boolean), .long, (.array .int), .int], some .long⟩ := by decide +kernel
theorem own_d1_0 : decode method_2_code 0 = .ok (.iload_n 0, 1) := by decide +kernel
theorem own_d1_1 : decode method_2_code 1 = .ok (.iload_n 1, 1) := by decide +kernel
theorem own_d1_2 : decode method_2_code 2 = .ok (.iushr, 1) := by decide +kernel
theorem own_d1_3 : decode method_2_code 3 = .ok (.iconst 1, 1) := by decide +kernel
theorem own_d1_4 : decode method_2_code 4 = .ok (.iand, 1) := by decide +kernel
theorem own_d1_5 : decode method_2_code 5 = .ok (.ireturn, 1) := by decide +kernel
theorem own_pn1 : plainName "com/example/evotempo/evotempo/problem/OneMaxFitnessAfterFlipsPinLaw" = true := by first | (simp [plainName, overriddenIn]; done) | decide +kernel
theorem own_ef1 (m : MethodId) (p0 : Int32) (p1 : Int32) : entryFrame m #[(.int p0), (.int p1)] 2 = mkF m 0 #[.val (.int p0), .val (.int p1)] [] := by first | (simp [entryFrame, mkF, argsToLocals, Value.category]; done) | rfl
abbrev own_R1 : Room := { frames := 0, cells := 0, slots := 0, locals := 0 }
def own_F1 (p0 : Int32) (p1 : Int32) : Int32 :=
  (((p0.toUInt32 >>> (p1 &&& 31).toUInt32).toInt32) &&& (1 : Int32))
def own_Q1 (p0 : Int32) (p1 : Int32) (h0 : Heap) (vz : Option Value) (h : Heap) (Lz : List Loc) : Prop :=  vz = some (.int (own_F1 p0 p1)) ∧ Lz = [] ∧ h = h0
theorem own_e1_2 {p0 : Int32} {p1 : Int32} : (((p0.toUInt32 >>> (p1 &&& 31).toUInt32).toInt32) &&& (1 : Int32)) = (own_F1 p0 p1) := by
  skip
  first
    | (simp only [own_F1]; done)
    | (exfalso; contradiction)
set_option maxRecDepth 65536 in
set_option maxHeartbeats 40000000 in
theorem own_rm1 (l : Launch) (Z : State) (a0 : Array Value) (hw : ∀ d ∈ tables_1, d.before a0 Z = true) (ws : List Jvm.Cond) (p0 : Int32) (p1 : Int32) (h0 : Heap) :
    MetFree l (⟨"com/example/evotempo/evotempo/problem/OneMaxFitnessAfterFlipsPinLaw", "bit", "(II)I"⟩ : MethodName) (head1 (Jvm.Cond.code (⟨"com/example/evotempo/evotempo/problem/OneMaxFitnessAfterFlipsPinLaw", "bit", "(II)I"⟩ : MethodName) method_2_code 2 (some .int) :: ws) own_R1) (fun a U => a = #[(.int p0), (.int p1)] ∧ Z.Warmed39 U.vm ∧ U.heap = h0) (fun _ _ _ _ _ => True) (fun _ U o U' => ∃ vz Lz, o = .returned vz ∧ own_Q1 p0 p1 h0 vz U'.heap Lz ∧ FrameEnd U o U' Lz own_R1.cells own_R1.slots) := by
  refine MetFree.of_bodySF (plainFor_of_name own_pn1) hisR ?_
  intro p e s m args below meth c s₁ Bd hml0 hP hK
  obtain ⟨rfl, hZ, hh⟩ := hP
  have hx := Bd.exec
  have hby := Bd.bytes
  have hml : c.maxLocals = 2 := hml0
  have hown : s.vm.findClass "com/example/evotempo/evotempo/problem/OneMaxFitnessAfterFlipsPinLaw" = some m.cls := findClass_of_methodNamed Bd.named
  have hnm := (name_of_methodNamed Bd.named Bd.method).1
  have X0 : Stand p l e own_R1 s m #[(.int p0), (.int p1)] below meth c s₁ [] 0 0 := Stand.of_body Bd
  have e0 : s₁.heap = h0 := by rw [← hh, Bd.state]; rfl
  show own_End p e below s (fun vz h Lz => vz = some (.int (own_F1 p0 p1)) ∧ Lz = [] ∧ h = h0) own_R1.cells own_R1.slots s₁ (entryFrame m #[(.int p0), (.int p1)] 2)
  refine own_End.go (fun t k => castTop (own_ef1 m p0 p1) k) ?_
  show own_End p e below s _ _ _ s₁ (mkF m 0 #[.val (.int p0), .val (.int p1)] [])
  have st1 : ∀ t, Steps p.tables e below (s₁.setTop (mkF m 5 #[.val (.int p0), .val (.int p1)] [(.int (((p0.toUInt32 >>> (p1 &&& 31).toUInt32).toInt32) &&& (1 : Int32)))])) t → Steps p.tables e below (s₁.setTop (mkF m 0 #[.val (.int p0), .val (.int p1)] [])) t := by
    intro t k
    show Steps p.tables e below (s₁.setTop (mkF m 0 #[.val (.int p0), .val (.int p1)] [])) _
    refine XS.iloadN X0.here hx rfl (hb hby own_d1_0) rfl ?_
    show Steps p.tables e below (s₁.setTop (mkF m 1 #[.val (.int p0), .val (.int p1)] [(.int p0)])) _
    refine XS.iloadN X0.here hx rfl (hb hby own_d1_1) rfl ?_
    show Steps p.tables e below (s₁.setTop (mkF m 2 #[.val (.int p0), .val (.int p1)] [(.int p1), (.int p0)])) _
    refine XS.iushr X0.here hx rfl (hb hby own_d1_2) rfl ?_
    show Steps p.tables e below (s₁.setTop (mkF m 3 #[.val (.int p0), .val (.int p1)] [(.int ((p0.toUInt32 >>> (p1 &&& 31).toUInt32).toInt32))])) _
    refine XS.iconst X0.here hx rfl (hb hby own_d1_3) ?_
    show Steps p.tables e below (s₁.setTop (mkF m 4 #[.val (.int p0), .val (.int p1)] [(.int (1 : Int32)), (.int ((p0.toUInt32 >>> (p1 &&& 31).toUInt32).toInt32))])) _
    refine XS.iand X0.here hx rfl (hb hby own_d1_4) rfl ?_
    exact k
  refine own_End.go (fun t k => st1 _ k) ?_
  exact own_leafI X0 hx Bd.notSynchronized Bd.returns (hb hby own_d1_5) ⟨congrArg (fun z => some (Value.int z)) (own_e1_2), rfl, e0⟩ (by decide) (by decide)
theorem own_d5_0 : decode method_3_code 0 = .ok (.iload_n 0, 1) := by decide +kernel
theorem own_d5_1 : decode method_3_code 1 = .ok (.iconst 0, 1) := by decide +kernel
theorem own_d5_2 : decode method_3_code 2 = .ok (.invokestatic 7, 3) := by decide +kernel
theorem own_d5_5 : decode method_3_code 5 = .ok (.iload_n 0, 1) := by decide +kernel
theorem own_d5_6 : decode method_3_code 6 = .ok (.iconst 1, 1) := by decide +kernel
theorem own_d5_7 : decode method_3_code 7 = .ok (.invokestatic 7, 3) := by decide +kernel
theorem own_d5_10 : decode method_3_code 10 = .ok (.iadd, 1) := by decide +kernel
theorem own_d5_11 : decode method_3_code 11 = .ok (.iload_n 0, 1) := by decide +kernel
theorem own_d5_12 : decode method_3_code 12 = .ok (.iconst 2, 1) := by decide +kernel
theorem own_d5_13 : decode method_3_code 13 = .ok (.invokestatic 7, 3) := by decide +kernel
theorem own_d5_16 : decode method_3_code 16 = .ok (.iadd, 1) := by decide +kernel
theorem own_d5_17 : decode method_3_code 17 = .ok (.iload_n 0, 1) := by decide +kernel
theorem own_d5_18 : decode method_3_code 18 = .ok (.iconst 3, 1) := by decide +kernel
theorem own_d5_19 : decode method_3_code 19 = .ok (.invokestatic 7, 3) := by decide +kernel
theorem own_d5_22 : decode method_3_code 22 = .ok (.iadd, 1) := by decide +kernel
theorem own_d5_23 : decode method_3_code 23 = .ok (.ireturn, 1) := by decide +kernel
theorem own_pn5 : plainName "com/example/evotempo/evotempo/problem/OneMaxFitnessAfterFlipsPinLaw" = true := by first | (simp [plainName, overriddenIn]; done) | decide +kernel
theorem own_ef5 (m : MethodId) (p0 : Int32) : entryFrame m #[(.int p0)] 1 = mkF m 0 #[.val (.int p0)] [] := by first | (simp [entryFrame, mkF, argsToLocals, Value.category]; done) | rfl
abbrev own_R5 : Room := { frames := 1, cells := 0, slots := 0, locals := 14 }
def own_F5 (p0 : Int32) : Int32 :=
  let v3 : Int32 := (own_F1 p0 (0 : Int32))
  let v6 : Int32 := (own_F1 p0 (1 : Int32))
  let v9 : Int32 := (own_F1 p0 (2 : Int32))
  let v12 : Int32 := (own_F1 p0 (3 : Int32))
  (((v3 + v6) + v9) + v12)
def own_Q5 (p0 : Int32) (h0 : Heap) (vz : Option Value) (h : Heap) (Lz : List Loc) : Prop :=  vz = some (.int (own_F5 p0)) ∧ Lz = [] ∧ h = h0
theorem own_e5_14 {p0 : Int32} {v3 : Int32} {v6 : Int32} {v9 : Int32} {v12 : Int32} (hv3 : v3 = (own_F1 p0 (0 : Int32))) (hv6 : v6 = (own_F1 p0 (1 : Int32))) (hv9 : v9 = (own_F1 p0 (2 : Int32))) (hv12 : v12 = (own_F1 p0 (3 : Int32))) : (((v3 + v6) + v9) + v12) = (own_F5 p0) := by
  subst hv3 hv6 hv9 hv12
  first
    | (simp only [own_F5]; done)
    | (exfalso; contradiction)
set_option maxRecDepth 65536 in
set_option maxHeartbeats 40000000 in
theorem own_rm5 (l : Launch) (Z : State) (a0 : Array Value) (hw : ∀ d ∈ tables_1, d.before a0 Z = true) (ws : List Jvm.Cond) (p0 : Int32) (h0 : Heap) :
    MetFree l (⟨"com/example/evotempo/evotempo/problem/OneMaxFitnessAfterFlipsPinLaw", "pop4", "(I)I"⟩ : MethodName) (head1 (Jvm.Cond.code (⟨"com/example/evotempo/evotempo/problem/OneMaxFitnessAfterFlipsPinLaw", "pop4", "(I)I"⟩ : MethodName) method_3_code 1 (some .int) :: ws) own_R5) (fun a U => a = #[(.int p0)] ∧ Z.Warmed39 U.vm ∧ U.heap = h0) (fun _ _ _ _ _ => True) (fun _ U o U' => ∃ vz Lz, o = .returned vz ∧ own_Q5 p0 h0 vz U'.heap Lz ∧ FrameEnd U o U' Lz own_R5.cells own_R5.slots) := by
  refine MetFree.of_bodySF (plainFor_of_name own_pn5) hisR ?_
  intro p e s m args below meth c s₁ Bd hml0 hP hK
  obtain ⟨rfl, hZ, hh⟩ := hP
  have hx := Bd.exec
  have hby := Bd.bytes
  have hml : c.maxLocals = 1 := hml0
  have hown : s.vm.findClass "com/example/evotempo/evotempo/problem/OneMaxFitnessAfterFlipsPinLaw" = some m.cls := findClass_of_methodNamed Bd.named
  have hnm := (name_of_methodNamed Bd.named Bd.method).1
  have X0 : Stand p l e own_R5 s m #[(.int p0)] below meth c s₁ [] 0 0 := Stand.of_body Bd
  have e0 : s₁.heap = h0 := by rw [← hh, Bd.state]; rfl
  show own_End p e below s (fun vz h Lz => vz = some (.int (own_F5 p0)) ∧ Lz = [] ∧ h = h0) own_R5.cells own_R5.slots s₁ (entryFrame m #[(.int p0)] 1)
  refine own_End.go (fun t k => castTop (own_ef5 m p0) k) ?_
  show own_End p e below s _ _ _ s₁ (mkF m 0 #[.val (.int p0)] [])
  have st1 : ∀ t, Steps p.tables e below (s₁.setTop (mkF m 2 #[.val (.int p0)] [(.int (0 : Int32)), (.int p0)])) t → Steps p.tables e below (s₁.setTop (mkF m 0 #[.val (.int p0)] [])) t := by
    intro t k
    show Steps p.tables e below (s₁.setTop (mkF m 0 #[.val (.int p0)] [])) _
    refine XS.iloadN X0.here hx rfl (hb hby own_d5_0) rfl ?_
    show Steps p.tables e below (s₁.setTop (mkF m 1 #[.val (.int p0)] [(.int p0)])) _
    refine XS.iconst X0.here hx rfl (hb hby own_d5_1) ?_
    exact k
  obtain ⟨_, _, ⟨T2, L2, k2, n2⟩, -, X2, ⟨Lc2, hQ2, l2, y2, z2⟩, st2⟩ := Jvm.LawKit.callS X0 hx (y := (⟨"com/example/evotempo/evotempo/problem/OneMaxFitnessAfterFlipsPinLaw", "bit", "(II)I"⟩ : MethodName)) hown (mvT hZ (hw _ (List.mem_of_getElem? (i := 1) rfl))) (mvT hZ (hw _ (List.mem_of_getElem? (i := 2) rfl))) (mvT hZ (hw _ (List.mem_of_getElem? (i := 3) rfl))) (mvT hZ (hw _ (List.mem_of_getElem? (i := 4) rfl))) (by decide) (backOf (W := 0) (own_rm1 l Z a0 hw [] p0 (0 : Int32) h0) hZ (hw _ (List.mem_of_getElem? (i := 4) rfl)) (hw _ (List.mem_of_getElem? (i := 3) rfl)) (by decide) (by decide)) (g := (mkF m 2 #[.val (.int p0)] [(.int (0 : Int32)), (.int p0)])) rfl (by rw [hml]; rfl) (argsL := [(.int p0), (.int (0 : Int32))]) (rest := []) (lenOf own_pd0 rfl) rfl (by show 2 * 0 + _ ≤ _; exact Nat.le_of_eq rfl) (hb hby own_d5_2) (fun _ _ => ⟨rfl, e0, (by decide : 0 + 0 ≤ _), (by decide : 0 + 0 ≤ _)⟩)
  dsimp only [Pt.U, Pt.locs, Pt.cells, Pt.slots] at X2 l2 y2 z2 st2 hQ2
  subst y2 z2
  obtain ⟨rfl, rfl, e2⟩ := hQ2
  have X2' : Stand p l e own_R5 s m #[(.int p0)] below meth c T2 [] 0 0 := by rw [show L2 = [] from by rw [l2]; first | rfl | exact List.append_nil _] at X2; exact X2
  obtain ⟨v3, hv3⟩ : ∃ z : Int32, z = (own_F1 p0 (0 : Int32)) := ⟨_, rfl⟩
  rw [← hv3] at st2
  have st4 : ∀ t, Steps p.tables e below (T2.setTop (mkF m 7 #[.val (.int p0)] [(.int (1 : Int32)), (.int p0), (.int v3)])) t → Steps p.tables e below (T2.setTop (mkF m 5 #[.val (.int p0)] [(.int v3)])) t := by
    intro t k
    show Steps p.tables e below (T2.setTop (mkF m 5 #[.val (.int p0)] [(.int v3)])) _
    refine XS.iloadN X2'.here hx rfl (hb hby own_d5_5) rfl ?_
    show Steps p.tables e below (T2.setTop (mkF m 6 #[.val (.int p0)] [(.int p0), (.int v3)])) _
    refine XS.iconst X2'.here hx rfl (hb hby own_d5_6) ?_
    exact k
  obtain ⟨_, _, ⟨T5, L5, k5, n5⟩, -, X5, ⟨Lc5, hQ5, l5, y5, z5⟩, st5⟩ := Jvm.LawKit.callS X2' hx (y := (⟨"com/example/evotempo/evotempo/problem/OneMaxFitnessAfterFlipsPinLaw", "bit", "(II)I"⟩ : MethodName)) hown (mvT hZ (hw _ (List.mem_of_getElem? (i := 1) rfl))) (mvT hZ (hw _ (List.mem_of_getElem? (i := 2) rfl))) (mvT hZ (hw _ (List.mem_of_getElem? (i := 3) rfl))) (mvT hZ (hw _ (List.mem_of_getElem? (i := 4) rfl))) (by decide) (backOf (W := 1) (own_rm1 l Z a0 hw [] p0 (1 : Int32) h0) hZ (hw _ (List.mem_of_getElem? (i := 4) rfl)) (hw _ (List.mem_of_getElem? (i := 3) rfl)) (by decide) (by decide)) (g := (mkF m 7 #[.val (.int p0)] [(.int (1 : Int32)), (.int p0), (.int v3)])) rfl (by rw [hml]; rfl) (argsL := [(.int p0), (.int (1 : Int32))]) (rest := [(.int v3)]) (lenOf own_pd0 rfl) rfl (by show 2 * 0 + _ ≤ _; exact Nat.le_of_eq rfl) (hb hby own_d5_7) (fun _ _ => ⟨rfl, e2, (by decide : 0 + 0 ≤ _), (by decide : 0 + 0 ≤ _)⟩)
  dsimp only [Pt.U, Pt.locs, Pt.cells, Pt.slots] at X5 l5 y5 z5 st5 hQ5
  subst y5 z5
  obtain ⟨rfl, rfl, e5⟩ := hQ5
  have X5' : Stand p l e own_R5 s m #[(.int p0)] below meth c T5 [] 0 0 := by rw [show L5 = [] from by rw [l5]; first | rfl | exact List.append_nil _] at X5; exact X5
  obtain ⟨v6, hv6⟩ : ∃ z : Int32, z = (own_F1 p0 (1 : Int32)) := ⟨_, rfl⟩
  rw [← hv6] at st5
  have st7 : ∀ t, Steps p.tables e below (T5.setTop (mkF m 13 #[.val (.int p0)] [(.int (2 : Int32)), (.int p0), (.int (v3 + v6))])) t → Steps p.tables e below (T5.setTop (mkF m 10 #[.val (.int p0)] [(.int v6), (.int v3)])) t := by
    intro t k
    show Steps p.tables e below (T5.setTop (mkF m 10 #[.val (.int p0)] [(.int v6), (.int v3)])) _
    refine XS.iadd X5'.here hx rfl (hb hby own_d5_10) rfl ?_
    show Steps p.tables e below (T5.setTop (mkF m 11 #[.val (.int p0)] [(.int (v3 + v6))])) _
    refine XS.iloadN X5'.here hx rfl (hb hby own_d5_11) rfl ?_
    show Steps p.tables e below (T5.setTop (mkF m 12 #[.val (.int p0)] [(.int p0), (.int (v3 + v6))])) _
    refine XS.iconst X5'.here hx rfl (hb hby own_d5_12) ?_
    exact k
  obtain ⟨_, _, ⟨T8, L8, k8, n8⟩, -, X8, ⟨Lc8, hQ8, l8, y8, z8⟩, st8⟩ := Jvm.LawKit.callS X5' hx (y := (⟨"com/example/evotempo/evotempo/problem/OneMaxFitnessAfterFlipsPinLaw", "bit", "(II)I"⟩ : MethodName)) hown (mvT hZ (hw _ (List.mem_of_getElem? (i := 1) rfl))) (mvT hZ (hw _ (List.mem_of_getElem? (i := 2) rfl))) (mvT hZ (hw _ (List.mem_of_getElem? (i := 3) rfl))) (mvT hZ (hw _ (List.mem_of_getElem? (i := 4) rfl))) (by decide) (backOf (W := 1) (own_rm1 l Z a0 hw [] p0 (2 : Int32) h0) hZ (hw _ (List.mem_of_getElem? (i := 4) rfl)) (hw _ (List.mem_of_getElem? (i := 3) rfl)) (by decide) (by decide)) (g := (mkF m 13 #[.val (.int p0)] [(.int (2 : Int32)), (.int p0), (.int (v3 + v6))])) rfl (by rw [hml]; rfl) (argsL := [(.int p0), (.int (2 : Int32))]) (rest := [(.int (v3 + v6))]) (lenOf own_pd0 rfl) rfl (by show 2 * 0 + _ ≤ _; exact Nat.le_of_eq rfl) (hb hby own_d5_13) (fun _ _ => ⟨rfl, e5, (by decide : 0 + 0 ≤ _), (by decide : 0 + 0 ≤ _)⟩)
  dsimp only [Pt.U, Pt.locs, Pt.cells, Pt.slots] at X8 l8 y8 z8 st8 hQ8
  subst y8 z8
  obtain ⟨rfl, rfl, e8⟩ := hQ8
  have X8' : Stand p l e own_R5 s m #[(.int p0)] below meth c T8 [] 0 0 := by rw [show L8 = [] from by rw [l8]; first | rfl | exact List.append_nil _] at X8; exact X8
  obtain ⟨v9, hv9⟩ : ∃ z : Int32, z = (own_F1 p0 (2 : Int32)) := ⟨_, rfl⟩
  rw [← hv9] at st8
  have st10 : ∀ t, Steps p.tables e below (T8.setTop (mkF m 19 #[.val (.int p0)] [(.int (3 : Int32)), (.int p0), (.int ((v3 + v6) + v9))])) t → Steps p.tables e below (T8.setTop (mkF m 16 #[.val (.int p0)] [(.int v9), (.int (v3 + v6))])) t := by
    intro t k
    show Steps p.tables e below (T8.setTop (mkF m 16 #[.val (.int p0)] [(.int v9), (.int (v3 + v6))])) _
    refine XS.iadd X8'.here hx rfl (hb hby own_d5_16) rfl ?_
    show Steps p.tables e below (T8.setTop (mkF m 17 #[.val (.int p0)] [(.int ((v3 + v6) + v9))])) _
    refine XS.iloadN X8'.here hx rfl (hb hby own_d5_17) rfl ?_
    show Steps p.tables e below (T8.setTop (mkF m 18 #[.val (.int p0)] [(.int p0), (.int ((v3 + v6) + v9))])) _
    refine XS.iconst X8'.here hx rfl (hb hby own_d5_18) ?_
    exact k
  obtain ⟨_, _, ⟨T11, L11, k11, n11⟩, -, X11, ⟨Lc11, hQ11, l11, y11, z11⟩, st11⟩ := Jvm.LawKit.callS X8' hx (y := (⟨"com/example/evotempo/evotempo/problem/OneMaxFitnessAfterFlipsPinLaw", "bit", "(II)I"⟩ : MethodName)) hown (mvT hZ (hw _ (List.mem_of_getElem? (i := 1) rfl))) (mvT hZ (hw _ (List.mem_of_getElem? (i := 2) rfl))) (mvT hZ (hw _ (List.mem_of_getElem? (i := 3) rfl))) (mvT hZ (hw _ (List.mem_of_getElem? (i := 4) rfl))) (by decide) (backOf (W := 1) (own_rm1 l Z a0 hw [] p0 (3 : Int32) h0) hZ (hw _ (List.mem_of_getElem? (i := 4) rfl)) (hw _ (List.mem_of_getElem? (i := 3) rfl)) (by decide) (by decide)) (g := (mkF m 19 #[.val (.int p0)] [(.int (3 : Int32)), (.int p0), (.int ((v3 + v6) + v9))])) rfl (by rw [hml]; rfl) (argsL := [(.int p0), (.int (3 : Int32))]) (rest := [(.int ((v3 + v6) + v9))]) (lenOf own_pd0 rfl) rfl (by show 2 * 0 + _ ≤ _; exact Nat.le_of_eq rfl) (hb hby own_d5_19) (fun _ _ => ⟨rfl, e8, (by decide : 0 + 0 ≤ _), (by decide : 0 + 0 ≤ _)⟩)
  dsimp only [Pt.U, Pt.locs, Pt.cells, Pt.slots] at X11 l11 y11 z11 st11 hQ11
  subst y11 z11
  obtain ⟨rfl, rfl, e11⟩ := hQ11
  have X11' : Stand p l e own_R5 s m #[(.int p0)] below meth c T11 [] 0 0 := by rw [show L11 = [] from by rw [l11]; first | rfl | exact List.append_nil _] at X11; exact X11
  obtain ⟨v12, hv12⟩ : ∃ z : Int32, z = (own_F1 p0 (3 : Int32)) := ⟨_, rfl⟩
  rw [← hv12] at st11
  have st13 : ∀ t, Steps p.tables e below (T11.setTop (mkF m 23 #[.val (.int p0)] [(.int (((v3 + v6) + v9) + v12))])) t → Steps p.tables e below (T11.setTop (mkF m 22 #[.val (.int p0)] [(.int v12), (.int ((v3 + v6) + v9))])) t := by
    intro t k
    show Steps p.tables e below (T11.setTop (mkF m 22 #[.val (.int p0)] [(.int v12), (.int ((v3 + v6) + v9))])) _
    refine XS.iadd X11'.here hx rfl (hb hby own_d5_22) rfl ?_
    exact k
  refine own_End.go (fun t k => st1 _ (st2 _ (st4 _ (st5 _ (st7 _ (st8 _ (st10 _ (st11 _ (st13 _ k))))))))) ?_
  exact own_leafI X11' hx Bd.notSynchronized Bd.returns (hb hby own_d5_23) ⟨congrArg (fun z => some (Value.int z)) (own_e5_14 hv3 hv6 hv9 hv12), rfl, e11⟩ (by decide) (by decide)
theorem own_d2_0 : decode method_4_code 0 = .ok (.iload_n 2, 1) := by decide +kernel
theorem own_d2_1 : decode method_4_code 1 = .ok (.iload_n 3, 1) := by decide +kernel
theorem own_d2_2 : decode method_4_code 2 = .ok (.invokestatic 7, 3) := by decide +kernel
theorem own_d2_5 : decode method_4_code 5 = .ok (.iload 4, 2) := by decide +kernel
theorem own_d2_7 : decode method_4_code 7 = .ok (.if_icmp .ne 11, 3) := by decide +kernel
theorem own_d2_10 : decode method_4_code 10 = .ok (.aload_n 0, 1) := by decide +kernel
theorem own_d2_11 : decode method_4_code 11 = .ok (.iload_n 1, 1) := by decide +kernel
theorem own_d2_12 : decode method_4_code 12 = .ok (.iload_n 3, 1) := by decide +kernel
theorem own_d2_13 : decode method_4_code 13 = .ok (.iastore, 1) := by decide +kernel
theorem own_d2_14 : decode method_4_code 14 = .ok (.iload_n 1, 1) := by decide +kernel
theorem own_d2_15 : decode method_4_code 15 = .ok (.iconst 1, 1) := by decide +kernel
theorem own_d2_16 : decode method_4_code 16 = .ok (.iadd, 1) := by decide +kernel
theorem own_d2_17 : decode method_4_code 17 = .ok (.ireturn, 1) := by decide +kernel
theorem own_d2_18 : decode method_4_code 18 = .ok (.iload_n 1, 1) := by decide +kernel
theorem own_d2_19 : decode method_4_code 19 = .ok (.ireturn, 1) := by decide +kernel
theorem own_pn2 : plainName "com/example/evotempo/evotempo/problem/OneMaxFitnessAfterFlipsPinLaw" = true := by first | (simp [plainName, overriddenIn]; done) | decide +kernel
theorem own_ef2 (m : MethodId) (o0 : Addr) (p1 : Int32) (p2 : Int32) (p3 : Int32) (p4 : Int32) : entryFrame m #[(.ref o0), (.int p1), (.int p2), (.int p3), (.int p4)] 5 = mkF m 0 #[.val (.ref o0), .val (.int p1), .val (.int p2), .val (.int p3), .val (.int p4)] [] := by first | (simp [entryFrame, mkF, argsToLocals, Value.category]; done) | rfl
abbrev own_R2 : Room := { frames := 1, cells := 0, slots := 0, locals := 13 }
def own_F2 (p1 : Int32) (p2 : Int32) (p3 : Int32) (p4 : Int32) (L : List Int32) : Int32 :=
  let v3 : Int32 := (own_F1 p2 p3)
  if v3 = p4 then
    (p1 + (1 : Int32))
  else
    p1
def own_G2_0 (p1 : Int32) (p2 : Int32) (p3 : Int32) (p4 : Int32) (L : List Int32) : List Int32 :=
  let v3 : Int32 := (own_F1 p2 p3)
  if v3 = p4 then
    (List.set L (p1).toInt.toNat p3)
  else
    L
def own_Q2 (Z : State) (o0 : Addr) (p1 : Int32) (p2 : Int32) (p3 : Int32) (p4 : Int32) (L : List Int32) (h0 : Heap) (n0 : Nat) (vz : Option Value) (h : Heap) (Lz : List Loc) : Prop := vz = some (.int (own_F2 p1 p2 p3 p4 L)) ∧ Fr n0 Lz ∧ Keep h0 h [o0] ∧ own_IA Z h o0 .int (own_G2_0 p1 p2 p3 p4 L) ∧ True
theorem own_e2_10 {p1 : Int32} {p2 : Int32} {p3 : Int32} {p4 : Int32} {L : List Int32} {v3 : Int32} (hv3 : v3 = (own_F1 p2 p3)) (hc7_5 : v3 = p4) : (p1 + (1 : Int32)) = (own_F2 p1 p2 p3 p4 L) := by
  subst hv3
  first
    | (simp only [own_F2, if_pos hc7_5]; done)
    | (exfalso; contradiction)
theorem own_e2_11 {p1 : Int32} {p2 : Int32} {p3 : Int32} {p4 : Int32} {L : List Int32} {v3 : Int32} (hv3 : v3 = (own_F1 p2 p3)) (hc7_5 : v3 = p4) : (List.set L (p1).toInt.toNat p3) = (own_G2_0 p1 p2 p3 p4 L) := by
  subst hv3
  first
    | (simp only [own_G2_0, if_pos hc7_5]; done)
    | (exfalso; contradiction)
theorem own_e2_13 {p1 : Int32} {p2 : Int32} {p3 : Int32} {p4 : Int32} {L : List Int32} {v3 : Int32} (hv3 : v3 = (own_F1 p2 p3)) (hc7_5 : ¬ (v3 = p4)) : p1 = (own_F2 p1 p2 p3 p4 L) := by
  subst hv3
  first
    | (simp only [own_F2, if_neg hc7_5]; done)
    | (exfalso; contradiction)
theorem own_e2_14 {p1 : Int32} {p2 : Int32} {p3 : Int32} {p4 : Int32} {L : List Int32} {v3 : Int32} (hv3 : v3 = (own_F1 p2 p3)) (hc7_5 : ¬ (v3 = p4)) : L = (own_G2_0 p1 p2 p3 p4 L) := by
  subst hv3
  first
    | (simp only [own_G2_0, if_neg hc7_5]; done)
    | (exfalso; contradiction)
set_option maxRecDepth 65536 in
set_option maxHeartbeats 40000000 in
theorem own_rm2 (l : Launch) (Z : State) (a0 : Array Value) (hw : ∀ d ∈ tables_1, d.before a0 Z = true) (ws : List Jvm.Cond) (o0 : Addr) (p1 : Int32) (p2 : Int32) (p3 : Int32) (p4 : Int32) (L : List Int32) (h0 : Heap) (n0 : Nat) (Z0 : n0 ≤ h0.size) (V_o0 : own_IA Z h0 o0 .int L) (g_o0 : n0 ≤ o0) (hbd : own_F1 p2 p3 = p4 → 0 ≤ p1.toInt ∧ p1.toInt < (L.length : Int)) :
    MetFree l (⟨"com/example/evotempo/evotempo/problem/OneMaxFitnessAfterFlipsPinLaw", "put", "([IIIII)I"⟩ : MethodName) (head1 (Jvm.Cond.code (⟨"com/example/evotempo/evotempo/problem/OneMaxFitnessAfterFlipsPinLaw", "put", "([IIIII)I"⟩ : MethodName) method_4_code 5 (some .int) :: ws) own_R2) (fun a U => a = #[(.ref o0), (.int p1), (.int p2), (.int p3), (.int p4)] ∧ Z.Warmed39 U.vm ∧ U.heap = h0) (fun _ _ _ _ _ => True) (fun _ U o U' => ∃ vz Lz, o = .returned vz ∧ own_Q2 Z o0 p1 p2 p3 p4 L h0 n0 vz U'.heap Lz ∧ FrameEnd U o U' Lz own_R2.cells own_R2.slots) := by
  refine MetFree.of_bodySF (plainFor_of_name own_pn2) hisR ?_
  intro p e s m args below meth c s₁ Bd hml0 hP hK
  obtain ⟨rfl, hZ, hh⟩ := hP
  have hx := Bd.exec
  have hby := Bd.bytes
  have hml : c.maxLocals = 5 := hml0
  have hown : s.vm.findClass "com/example/evotempo/evotempo/problem/OneMaxFitnessAfterFlipsPinLaw" = some m.cls := findClass_of_methodNamed Bd.named
  have hnm := (name_of_methodNamed Bd.named Bd.method).1
  have X0 : Stand p l e own_R2 s m #[(.ref o0), (.int p1), (.int p2), (.int p3), (.int p4)] below meth c s₁ [] 0 0 := Stand.of_body Bd
  have e0 : s₁.heap = h0 := by rw [← hh, Bd.state]; rfl
  show own_End p e below s (fun vz h Lz => vz = some (.int (own_F2 p1 p2 p3 p4 L)) ∧ Fr n0 Lz ∧ Keep h0 h [o0] ∧ own_IA Z h o0 .int (own_G2_0 p1 p2 p3 p4 L) ∧ True) own_R2.cells own_R2.slots s₁ (entryFrame m #[(.ref o0), (.int p1), (.int p2), (.int p3), (.int p4)] 5)
  refine own_End.go (fun t k => castTop (own_ef2 m o0 p1 p2 p3 p4) k) ?_
  show own_End p e below s _ _ _ s₁ (mkF m 0 #[.val (.ref o0), .val (.int p1), .val (.int p2), .val (.int p3), .val (.int p4)] [])
  have N0 := Fr.nil n0
  have K0 : Keep h0 h0 [o0] := Keep.refl h0 _
  have st1 : ∀ t, Steps p.tables e below (s₁.setTop (mkF m 2 #[.val (.ref o0), .val (.int p1), .val (.int p2), .val (.int p3), .val (.int p4)] [(.int p3), (.int p2)])) t → Steps p.tables e below (s₁.setTop (mkF m 0 #[.val (.ref o0), .val (.int p1), .val (.int p2), .val (.int p3), .val (.int p4)] [])) t := by
    intro t k
    show Steps p.tables e below (s₁.setTop (mkF m 0 #[.val (.ref o0), .val (.int p1), .val (.int p2), .val (.int p3), .val (.int p4)] [])) _
    refine XS.iloadN X0.here hx rfl (hb hby own_d2_0) rfl ?_
    show Steps p.tables e below (s₁.setTop (mkF m 1 #[.val (.ref o0), .val (.int p1), .val (.int p2), .val (.int p3), .val (.int p4)] [(.int p2)])) _
    refine XS.iloadN X0.here hx rfl (hb hby own_d2_1) rfl ?_
    exact k
  obtain ⟨_, _, ⟨T2, L2, k2, n2⟩, -, X2, ⟨Lc2, hQ2, l2, y2, z2⟩, st2⟩ := Jvm.LawKit.callS X0 hx (y := (⟨"com/example/evotempo/evotempo/problem/OneMaxFitnessAfterFlipsPinLaw", "bit", "(II)I"⟩ : MethodName)) hown (mvT hZ (hw _ (List.mem_of_getElem? (i := 1) rfl))) (mvT hZ (hw _ (List.mem_of_getElem? (i := 2) rfl))) (mvT hZ (hw _ (List.mem_of_getElem? (i := 3) rfl))) (mvT hZ (hw _ (List.mem_of_getElem? (i := 4) rfl))) (by decide) (backOf (W := 0) (own_rm1 l Z a0 hw [] p2 p3 h0) hZ (hw _ (List.mem_of_getElem? (i := 4) rfl)) (hw _ (List.mem_of_getElem? (i := 3) rfl)) (by decide) (by decide)) (g := (mkF m 2 #[.val (.ref o0), .val (.int p1), .val (.int p2), .val (.int p3), .val (.int p4)] [(.int p3), (.int p2)])) rfl (by rw [hml]; rfl) (argsL := [(.int p2), (.int p3)]) (rest := []) (lenOf own_pd0 rfl) rfl (by show 2 * 0 + _ ≤ _; exact Nat.le_of_eq rfl) (hb hby own_d2_2) (fun _ _ => ⟨rfl, e0, (by decide : 0 + 0 ≤ _), (by decide : 0 + 0 ≤ _)⟩)
  dsimp only [Pt.U, Pt.locs, Pt.cells, Pt.slots] at X2 l2 y2 z2 st2 hQ2
  subst y2 z2
  obtain ⟨rfl, rfl, e2⟩ := hQ2
  have X2' : Stand p l e own_R2 s m #[(.ref o0), (.int p1), (.int p2), (.int p3), (.int p4)] below meth c T2 [] 0 0 := by rw [show L2 = [] from by rw [l2]; first | rfl | exact List.append_nil _] at X2; exact X2
  obtain ⟨v3, hv3⟩ : ∃ z : Int32, z = (own_F1 p2 p3) := ⟨_, rfl⟩
  rw [← hv3] at st2
  have st4 : ∀ t, Steps p.tables e below (T2.setTop (mkF m 7 #[.val (.ref o0), .val (.int p1), .val (.int p2), .val (.int p3), .val (.int p4)] [(.int p4), (.int v3)])) t → Steps p.tables e below (T2.setTop (mkF m 5 #[.val (.ref o0), .val (.int p1), .val (.int p2), .val (.int p3), .val (.int p4)] [(.int v3)])) t := by
    intro t k
    show Steps p.tables e below (T2.setTop (mkF m 5 #[.val (.ref o0), .val (.int p1), .val (.int p2), .val (.int p3), .val (.int p4)] [(.int v3)])) _
    refine XS.iload X2'.here hx rfl (hb hby own_d2_5) rfl ?_
    exact k
  refine own_End.go (fun t k => st1 _ (st2 _ (st4 _ k))) ?_
  by_cases hc7_5 : v3 = p4
  · have st6 : ∀ t, Steps p.tables e below (T2.setTop (mkF m 13 #[.val (.ref o0), .val (.int p1), .val (.int p2), .val (.int p3), .val (.int p4)] [(.int p3), (.int p1), (.ref o0)])) t → Steps p.tables e below (T2.setTop (mkF m 7 #[.val (.ref o0), .val (.int p1), .val (.int p2), .val (.int p3), .val (.int p4)] [(.int p4), (.int v3)])) t := by
      intro t k
      show Steps p.tables e below (T2.setTop (mkF m 7 #[.val (.ref o0), .val (.int p1), .val (.int p2), .val (.int p3), .val (.int p4)] [(.int p4), (.int v3)])) _
      refine XS.icmpNo X2'.here hx rfl (hb hby own_d2_7) rfl (teq hc7_5).2 ?_
      show Steps p.tables e below (T2.setTop (mkF m 10 #[.val (.ref o0), .val (.int p1), .val (.int p2), .val (.int p3), .val (.int p4)] [])) _
      refine XS.aloadN X2'.here hx rfl (hb hby own_d2_10) rfl rfl ?_
      show Steps p.tables e below (T2.setTop (mkF m 11 #[.val (.ref o0), .val (.int p1), .val (.int p2), .val (.int p3), .val (.int p4)] [(.ref o0)])) _
      refine XS.iloadN X2'.here hx rfl (hb hby own_d2_11) rfl ?_
      show Steps p.tables e below (T2.setTop (mkF m 12 #[.val (.ref o0), .val (.int p1), .val (.int p2), .val (.int p3), .val (.int p4)] [(.int p1), (.ref o0)])) _
      refine XS.iloadN X2'.here hx rfl (hb hby own_d2_12) rfl ?_
      exact k
    obtain ⟨T7, h7, L7, X7, N7, e7, K7, V7, st7⟩ := own_iastoreI X2' hx hZ N0 e2 V_o0 (j := p1) (hbd (hv3.symm.trans hc7_5)) g_o0 (g := (mkF m 13 #[.val (.ref o0), .val (.int p1), .val (.int p2), .val (.int p3), .val (.int p4)] [(.int p3), (.int p1), (.ref o0)])) rfl rfl (hb hby own_d2_13)
    have V7 : own_IA Z h7 o0 .int (List.set L (p1).toInt.toNat p3) := V7
    have Zp8 : n0 ≤ h7.size := Nat.le_trans Z0 K7.1
    have Kz8 : Keep h0 h7 [o0] := K0.trans K7 (allS (Or.inl (List.mem_of_getElem? (i := 0) rfl)) all0)
    have st9 : ∀ t, Steps p.tables e below (T7.setTop (mkF m 17 #[.val (.ref o0), .val (.int p1), .val (.int p2), .val (.int p3), .val (.int p4)] [(.int (p1 + (1 : Int32)))])) t → Steps p.tables e below (T7.setTop (mkF m 14 #[.val (.ref o0), .val (.int p1), .val (.int p2), .val (.int p3), .val (.int p4)] [])) t := by
      intro t k
      show Steps p.tables e below (T7.setTop (mkF m 14 #[.val (.ref o0), .val (.int p1), .val (.int p2), .val (.int p3), .val (.int p4)] [])) _
      refine XS.iloadN X7.here hx rfl (hb hby own_d2_14) rfl ?_
      show Steps p.tables e below (T7.setTop (mkF m 15 #[.val (.ref o0), .val (.int p1), .val (.int p2), .val (.int p3), .val (.int p4)] [(.int p1)])) _
      refine XS.iconst X7.here hx rfl (hb hby own_d2_15) ?_
      show Steps p.tables e below (T7.setTop (mkF m 16 #[.val (.ref o0), .val (.int p1), .val (.int p2), .val (.int p3), .val (.int p4)] [(.int (1 : Int32)), (.int p1)])) _
      refine XS.iadd X7.here hx rfl (hb hby own_d2_16) rfl ?_
      exact k
    refine own_End.go (fun t k => st6 _ (st7 _ (st9 _ k))) ?_
    exact own_leafI X7 hx Bd.notSynchronized Bd.returns (hb hby own_d2_17) ⟨congrArg (fun z => some (Value.int z)) (own_e2_10 hv3 hc7_5), N7, (by rw [e7]; exact Kz8), (show own_IA Z T7.heap o0 .int (own_G2_0 p1 p2 p3 p4 L) from by
        rw [← (own_e2_11 hv3 hc7_5)]; exact (by rw [e7]; exact V7)), trivial⟩ (by decide) (by decide)
  · have st12 : ∀ t, Steps p.tables e below (T2.setTop (mkF m 19 #[.val (.ref o0), .val (.int p1), .val (.int p2), .val (.int p3), .val (.int p4)] [(.int p1)])) t → Steps p.tables e below (T2.setTop (mkF m 7 #[.val (.ref o0), .val (.int p1), .val (.int p2), .val (.int p3), .val (.int p4)] [(.int p4), (.int v3)])) t := by
      intro t k
      show Steps p.tables e below (T2.setTop (mkF m 7 #[.val (.ref o0), .val (.int p1), .val (.int p2), .val (.int p3), .val (.int p4)] [(.int p4), (.int v3)])) _
      refine XS.icmpYes X2'.here hx rfl (pc0 := 7) (pc' := 18) rfl (hb hby own_d2_7) rfl (feq hc7_5).2 (by decide) (by decide) ?_
      show Steps p.tables e below (T2.setTop (mkF m 18 #[.val (.ref o0), .val (.int p1), .val (.int p2), .val (.int p3), .val (.int p4)] [])) _
      refine XS.iloadN X2'.here hx rfl (hb hby own_d2_18) rfl ?_
      exact k
    refine own_End.go (fun t k => st12 _ k) ?_
    exact own_leafI X2' hx Bd.notSynchronized Bd.returns (hb hby own_d2_19) ⟨congrArg (fun z => some (Value.int z)) (own_e2_13 hv3 hc7_5), N0, (by rw [e2]; exact K0), (show own_IA Z T2.heap o0 .int (own_G2_0 p1 p2 p3 p4 L) from by
        rw [← (own_e2_14 hv3 hc7_5)]; exact (by rw [e2]; exact V_o0)), trivial⟩ (by decide) (by decide)
theorem own_d3_0 : decode prog_75_method_1_code 0 = .ok (.aload_n 0, 1) := by decide +kernel
theorem own_d3_1 : decode prog_75_method_1_code 1 = .ok (.invokespecial 1, 3) := by decide +kernel
theorem own_d3_4 : decode prog_75_method_1_code 4 = .ok (.iload_n 1, 1) := by decide +kernel
theorem own_d3_5 : decode prog_75_method_1_code 5 = .ok (.iconst 1, 1) := by decide +kernel
theorem own_d3_6 : decode prog_75_method_1_code 6 = .ok (.if_icmp .ge 17, 3) := by decide +kernel
theorem own_d3_23 : decode prog_75_method_1_code 23 = .ok (.aload_n 0, 1) := by decide +kernel
theorem own_d3_24 : decode prog_75_method_1_code 24 = .ok (.iload_n 1, 1) := by decide +kernel
theorem own_d3_25 : decode prog_75_method_1_code 25 = .ok (.putfield 16, 3) := by decide +kernel
theorem own_d3_28 : decode prog_75_method_1_code 28 = .ok (.return_, 1) := by decide +kernel
theorem own_pn3 : plainName "com/example/evotempo/evotempo/problem/OneMax" = true := by first | (simp [plainName, overriddenIn]; done) | decide +kernel
theorem own_ef3 (m : MethodId) (o0 : Addr) (p1 : Int32) : entryFrame m #[(.ref o0), (.int p1)] 2 = mkF m 0 #[.val (.ref o0), .val (.int p1)] [] := by first | (simp [entryFrame, mkF, argsToLocals, Value.category]; done) | rfl
abbrev own_R3 : Room := { frames := 1, cells := 0, slots := 0, locals := 12 }
def own_Q3 (Z : State) (o0 : Addr) (p1 : Int32) (h0 : Heap) (n0 : Nat) (vz : Option Value) (h : Heap) (Lz : List Loc) : Prop := vz = none ∧ Fr n0 Lz ∧ Keep h0 h [o0] ∧ Exa Z h o0 "com/example/evotempo/evotempo/problem/OneMax" ∧ Fld Z h o0 "com/example/evotempo/evotempo/problem/OneMax" "n" "I" (.int p1) ∧ True
set_option maxRecDepth 65536 in
set_option maxHeartbeats 40000000 in
theorem own_rm3 (l : Launch) (Z : State) (a0 : Array Value) (hw : ∀ d ∈ tables_1, d.before a0 Z = true) (ws : List Jvm.Cond) (o0 : Addr) (p1 : Int32) (h0 : Heap) (n0 : Nat) (Z0 : n0 ≤ h0.size) (E_o0 : Exa Z h0 o0 "com/example/evotempo/evotempo/problem/OneMax") (F_o0_n : Fld Z h0 o0 "com/example/evotempo/evotempo/problem/OneMax" "n" "I" (.int (0 : Int32))) (g_o0 : n0 ≤ o0) (hp : ¬ p1 < (1 : Int32)) :
    MetFree l (⟨"com/example/evotempo/evotempo/problem/OneMax", "<init>", "(I)V"⟩ : MethodName) (head1 (Jvm.Cond.code (⟨"com/example/evotempo/evotempo/problem/OneMax", "<init>", "(I)V"⟩ : MethodName) prog_75_method_1_code 2 none :: ws) own_R3) (fun a U => a = #[(.ref o0), (.int p1)] ∧ Z.Warmed39 U.vm ∧ U.heap = h0) (fun _ _ _ _ _ => True) (fun _ U o U' => ∃ vz Lz, o = .returned vz ∧ own_Q3 Z o0 p1 h0 n0 vz U'.heap Lz ∧ FrameEnd U o U' Lz own_R3.cells own_R3.slots) := by
  refine MetFree.of_bodySF (plainFor_of_name own_pn3) hisR ?_
  intro p e s m args below meth c s₁ Bd hml0 hP hK
  obtain ⟨rfl, hZ, hh⟩ := hP
  have hx := Bd.exec
  have hby := Bd.bytes
  have hml : c.maxLocals = 2 := hml0
  have hown : s.vm.findClass "com/example/evotempo/evotempo/problem/OneMax" = some m.cls := findClass_of_methodNamed Bd.named
  have hnm := (name_of_methodNamed Bd.named Bd.method).1
  have X0 : Stand p l e own_R3 s m #[(.ref o0), (.int p1)] below meth c s₁ [] 0 0 := Stand.of_body Bd
  have e0 : s₁.heap = h0 := by rw [← hh, Bd.state]; rfl
  show own_End p e below s (fun vz h Lz => vz = none ∧ Fr n0 Lz ∧ Keep h0 h [o0] ∧ Exa Z h o0 "com/example/evotempo/evotempo/problem/OneMax" ∧ Fld Z h o0 "com/example/evotempo/evotempo/problem/OneMax" "n" "I" (.int p1) ∧ True) own_R3.cells own_R3.slots s₁ (entryFrame m #[(.ref o0), (.int p1)] 2)
  refine own_End.go (fun t k => castTop (own_ef3 m o0 p1) k) ?_
  show own_End p e below s _ _ _ s₁ (mkF m 0 #[.val (.ref o0), .val (.int p1)] [])
  have N0 := Fr.nil n0
  have K0 : Keep h0 h0 [o0] := Keep.refl h0 _
  have st1 : ∀ t, Steps p.tables e below (s₁.setTop (mkF m 1 #[.val (.ref o0), .val (.int p1)] [(.ref o0)])) t → Steps p.tables e below (s₁.setTop (mkF m 0 #[.val (.ref o0), .val (.int p1)] [])) t := by
    intro t k
    show Steps p.tables e below (s₁.setTop (mkF m 0 #[.val (.ref o0), .val (.int p1)] [])) _
    refine XS.aloadN X0.here hx rfl (hb hby own_d3_0) rfl rfl ?_
    exact k
  obtain ⟨T2, X2, e2, st2⟩ := initO X0 hx hZ hown (hw _ (List.mem_of_getElem? (i := 15) rfl)) (hw _ (List.mem_of_getElem? (i := 16) rfl)) (hw _ (List.mem_of_getElem? (i := 17) rfl)) e0 (g := (mkF m 1 #[.val (.ref o0), .val (.int p1)] [(.ref o0)])) rfl (by rw [hml]; rfl) rfl (hb hby own_d3_1) (by decide) (W := 0) (by show 2 * 0 + _ ≤ _; exact Nat.le_of_eq rfl) (by decide)
  have st3 : ∀ t, Steps p.tables e below (T2.setTop (mkF m 25 #[.val (.ref o0), .val (.int p1)] [(.int p1), (.ref o0)])) t → Steps p.tables e below (T2.setTop (mkF m 4 #[.val (.ref o0), .val (.int p1)] [])) t := by
    intro t k
    show Steps p.tables e below (T2.setTop (mkF m 4 #[.val (.ref o0), .val (.int p1)] [])) _
    refine XS.iloadN X2.here hx rfl (hb hby own_d3_4) rfl ?_
    show Steps p.tables e below (T2.setTop (mkF m 5 #[.val (.ref o0), .val (.int p1)] [(.int p1)])) _
    refine XS.iconst X2.here hx rfl (hb hby own_d3_5) ?_
    show Steps p.tables e below (T2.setTop (mkF m 6 #[.val (.ref o0), .val (.int p1)] [(.int (1 : Int32)), (.int p1)])) _
    refine XS.icmpYes X2.here hx rfl (pc0 := 6) (pc' := 23) rfl (hb hby own_d3_6) rfl (flt hp).2.1 (by decide) (by decide) ?_
    show Steps p.tables e below (T2.setTop (mkF m 23 #[.val (.ref o0), .val (.int p1)] [])) _
    refine XS.aloadN X2.here hx rfl (hb hby own_d3_23) rfl rfl ?_
    show Steps p.tables e below (T2.setTop (mkF m 24 #[.val (.ref o0), .val (.int p1)] [(.ref o0)])) _
    refine XS.iloadN X2.here hx rfl (hb hby own_d3_24) rfl ?_
    exact k
  obtain ⟨T4, h4, X4, e4, W4, st4⟩ := putF X2 hx hZ hown (host := "") (Or.inl (hw _ (List.mem_of_getElem? (i := 18) rfl))) Via.refl e2 F_o0_n E_o0 (Or.inr ⟨(hw _ (List.mem_of_getElem? (i := 19) rfl)), rfl, hnm⟩) (hw _ (List.mem_of_getElem? (i := 10) rfl)) (ty := .int) (by decide) rfl rfl (g := (mkF m 25 #[.val (.ref o0), .val (.int p1)] [(.int p1), (.ref o0)])) rfl rfl (hb hby own_d3_25)
  obtain ⟨L4, X4, N4⟩ : ∃ L : List Loc, Stand p l e own_R3 s m #[(.ref o0), (.int p1)] below meth c T4 L 0 0 ∧ Fr n0 L := ⟨_, X4, Fr.snoc X4 N0 g_o0⟩
  have K4 := Keep.of_wr W4
  have Fw4 : Fld Z h4 o0 "com/example/evotempo/evotempo/problem/OneMax" "n" "I" (.int p1) := F_o0_n.same W4
  have Ew4 : Exa Z h4 o0 "com/example/evotempo/evotempo/problem/OneMax" := E_o0.wr W4
  have Zp5 : n0 ≤ h4.size := Nat.le_trans Z0 K4.1
  have Kz5 : Keep h0 h4 [o0] := K0.trans K4 (allS (Or.inl (List.mem_of_getElem? (i := 0) rfl)) all0)
  refine own_End.go (fun t k => st1 _ (st2 _ (st3 _ (st4 _ k)))) ?_
  exact own_leafV X4 hx Bd.notSynchronized Bd.returns (hb hby own_d3_28) ⟨rfl, N4, (by rw [e4]; exact Kz5), (by rw [e4]; exact Ew4), (by rw [e4]; exact Fw4), trivial⟩ (by decide) (by decide)
theorem own_d6_0 : decode prog_75_method_4_code 0 = .ok (.lload_n 2, 1) := by decide +kernel
theorem own_d6_1 : decode prog_75_method_4_code 1 = .ok (.lstore 6, 2) := by decide +kernel
theorem own_d6_3 : decode prog_75_method_4_code 3 = .ok (.iconst 0, 1) := by decide +kernel
theorem own_d6_4 : decode prog_75_method_4_code 4 = .ok (.istore 8, 2) := by decide +kernel
theorem own_d6_6 : decode prog_75_method_4_code 6 = .ok (.iload 8, 2) := by decide +kernel
theorem own_d6_8 : decode prog_75_method_4_code 8 = .ok (.iload 5, 2) := by decide +kernel
theorem own_d6_10 : decode prog_75_method_4_code 10 = .ok (.if_icmp .ge 31, 3) := by decide +kernel
theorem own_d6_13 : decode prog_75_method_4_code 13 = .ok (.lload 6, 2) := by decide +kernel
theorem own_d6_15 : decode prog_75_method_4_code 15 = .ok (.aload_n 1, 1) := by decide +kernel
theorem own_d6_16 : decode prog_75_method_4_code 16 = .ok (.aload 4, 2) := by decide +kernel
theorem own_d6_18 : decode prog_75_method_4_code 18 = .ok (.iload 8, 2) := by decide +kernel
theorem own_d6_20 : decode prog_75_method_4_code 20 = .ok (.iaload, 1) := by decide +kernel
theorem own_d6_21 : decode prog_75_method_4_code 21 = .ok (.baload, 1) := by decide +kernel
theorem own_d6_22 : decode prog_75_method_4_code 22 = .ok (.ifCond .eq 9, 3) := by decide +kernel
theorem own_d6_25 : decode prog_75_method_4_code 25 = .ok (.ldc2_w 22, 3) := by decide +kernel
theorem own_d6_28 : decode prog_75_method_4_code 28 = .ok (.goto 4, 3) := by decide +kernel
theorem own_d6_31 : decode prog_75_method_4_code 31 = .ok (.lconst 1, 1) := by decide +kernel
theorem own_d6_32 : decode prog_75_method_4_code 32 = .ok (.ladd, 1) := by decide +kernel
theorem own_d6_33 : decode prog_75_method_4_code 33 = .ok (.lstore 6, 2) := by decide +kernel
theorem own_d6_35 : decode prog_75_method_4_code 35 = .ok (.iinc 8 1, 3) := by decide +kernel
theorem own_d6_38 : decode prog_75_method_4_code 38 = .ok (.goto (-32), 3) := by decide +kernel
theorem own_d6_41 : decode prog_75_method_4_code 41 = .ok (.lload 6, 2) := by decide +kernel
theorem own_d6_43 : decode prog_75_method_4_code 43 = .ok (.lreturn, 1) := by decide +kernel
theorem own_pn6 : plainName "com/example/evotempo/evotempo/problem/OneMax" = true := by first | (simp [plainName, overriddenIn]; done) | decide +kernel
theorem own_ef6 (m : MethodId) (o0 : Addr) (o1 : Addr) (q2 : Int64) (o3 : Addr) (p4 : Int32) : entryFrame m #[(.ref o0), (.ref o1), (.long q2), (.ref o3), (.int p4)] 9 = mkF m 0 #[.val (.ref o0), .val (.ref o1), .val (.long q2), .second, .val (.ref o3), .val (.int p4), .unset, .unset, .unset] [] := by first | (simp [entryFrame, mkF, argsToLocals, Value.category]; done) | rfl
abbrev own_R6 : Room := { frames := 0, cells := 0, slots := 0, locals := 0 }
def own_P6_6_0 (q2 : Int64) (p4 : Int32) (Lx : List Int32) (Lp : List Int32) : Nat → Int64 → Int32 → Int64
  | 0, _, _ => 0
  | fuel + 1, acc, i =>
    if i < p4 then
      let v8 : Int64 := (if (List.getD Lx ((List.getD Lp (i).toInt.toNat 0)).toInt.toNat 0) = (0 : Int32) then (1 : Int64) else (-1 : Int64))
      let v10 : Int64 := (acc + v8)
      let v12 : Int32 := (i + (1 : Int32))
      (own_P6_6_0 q2 p4 Lx Lp fuel v10 v12)
    else
      acc
theorem own_e6_15 {q2 : Int64} {p4 : Int32} {Lx : List Int32} {Lp : List Int32} {fuel : Nat} {acc : Int64} {i : Int32} {v8 : Int64} {v10 : Int64} {v12 : Int32} (hv8 : v8 = (if (List.getD Lx ((List.getD Lp (i).toInt.toNat 0)).toInt.toNat 0) = (0 : Int32) then (1 : Int64) else (-1 : Int64))) (hv10 : v10 = (acc + v8)) (hv12 : v12 = (i + (1 : Int32))) (hc10_3 : i < p4) : (own_P6_6_0 q2 p4 Lx Lp fuel v10 v12) = (own_P6_6_0 q2 p4 Lx Lp (fuel + 1) acc i) := by
  subst hv8 hv10 hv12
  first
    | (simp only [own_P6_6_0, if_pos hc10_3]; done)
    | (exfalso; contradiction)
theorem own_e6_17 {q2 : Int64} {p4 : Int32} {Lx : List Int32} {Lp : List Int32} {fuel : Nat} {acc : Int64} {i : Int32} (hc10_3 : ¬ (i < p4)) : acc = (own_P6_6_0 q2 p4 Lx Lp (fuel + 1) acc i) := by
  skip
  first
    | (simp only [own_P6_6_0, if_neg hc10_3]; done)
    | (exfalso; contradiction)
set_option maxRecDepth 65536 in
set_option maxHeartbeats 40000000 in
theorem own_lp6_6 {p : Program} {l : Launch} {e : Env} {s : State} {m : MethodId} {below : List Frame} {meth : Method} {c : Code} {Z : State} {a0 : Array Value} {h0 : Heap} {n0 : Nat} (hx : p.tables.exec = Jvm.exec) (hZ : Z.Warmed39 s.vm) (hw : ∀ d ∈ tables_1, d.before a0 Z = true) (hby : c.code = prog_75_method_4_code) (hml : c.maxLocals = 9) (hown : s.vm.findClass "com/example/evotempo/evotempo/problem/OneMax" = some m.cls) (hnm : meth.name = "fitnessAfterFlips") (hret : meth.sig.returnType = (some .long)) (hk : meth.locks = false) (o0 : Addr) (o1 : Addr) (q2 : Int64) (o3 : Addr) (p4 : Int32) (Lx : List Int32) (Lp : List Int32) :
    ∀ (fuel : Nat) (T : State) (acc : Int64) (i : Int32) (X : Stand p l e own_R6 s m #[(.ref o0), (.ref o1), (.long q2), (.ref o3), (.int p4)] below meth c T [] 0 0) (eT : T.heap = h0) (f_0 : own_IA Z h0 o1 .boolean Lx) (f_1 : own_IA Z h0 o3 .int Lp) (h4 : 0 ≤ p4.toInt ∧ p4.toInt ≤ (Lp.length : Int)) (hp : ∀ x ∈ Lp, 0 ≤ x.toInt ∧ x.toInt < (Lx.length : Int)) (i1 : 0 ≤ i.toInt) (i2 : i.toInt ≤ p4.toInt) (hf : p4.toInt - i.toInt < (fuel : Int)), own_End p e below s (fun vz h Lz => vz = some (.long (own_P6_6_0 q2 p4 Lx Lp fuel acc i)) ∧ Lz = [] ∧ h = h0) own_R6.cells own_R6.slots T (mkF m 6 #[.val (.ref o0), .val (.ref o1), .val (.long q2), .second, .val (.ref o3), .val (.int p4), .val (.long acc), .second, .val (.int i)] []) := by
  intro fuel
  induction fuel with
  | zero =>
    intro T acc i X eT f_0 f_1 h4 hp i1 i2 hf
    exfalso
    omega
  | succ fuel ih =>
    intro T acc i X eT f_0 f_1 h4 hp i1 i2 hf
    have st2 : ∀ t, Steps p.tables e below (T.setTop (mkF m 10 #[.val (.ref o0), .val (.ref o1), .val (.long q2), .second, .val (.ref o3), .val (.int p4), .val (.long acc), .second, .val (.int i)] [(.int p4), (.int i)])) t → Steps p.tables e below (T.setTop (mkF m 6 #[.val (.ref o0), .val (.ref o1), .val (.long q2), .second, .val (.ref o3), .val (.int p4), .val (.long acc), .second, .val (.int i)] [])) t := by
      intro t k
      show Steps p.tables e below (T.setTop (mkF m 6 #[.val (.ref o0), .val (.ref o1), .val (.long q2), .second, .val (.ref o3), .val (.int p4), .val (.long acc), .second, .val (.int i)] [])) _
      refine XS.iload X.here hx rfl (hb hby own_d6_6) rfl ?_
      show Steps p.tables e below (T.setTop (mkF m 8 #[.val (.ref o0), .val (.ref o1), .val (.long q2), .second, .val (.ref o3), .val (.int p4), .val (.long acc), .second, .val (.int i)] [(.int i)])) _
      refine XS.iload X.here hx rfl (hb hby own_d6_8) rfl ?_
      exact k
    refine own_End.go (fun t k => st2 _ k) ?_
    by_cases hc10_3 : i < p4
    · have st4 : ∀ t, Steps p.tables e below (T.setTop (mkF m 22 #[.val (.ref o0), .val (.ref o1), .val (.long q2), .second, .val (.ref o3), .val (.int p4), .val (.long acc), .second, .val (.int i)] [(.int (List.getD Lx ((List.getD Lp (i).toInt.toNat 0)).toInt.toNat 0)), (.long acc)])) t → Steps p.tables e below (T.setTop (mkF m 10 #[.val (.ref o0), .val (.ref o1), .val (.long q2), .second, .val (.ref o3), .val (.int p4), .val (.long acc), .second, .val (.int i)] [(.int p4), (.int i)])) t := by
        intro t k
        show Steps p.tables e below (T.setTop (mkF m 10 #[.val (.ref o0), .val (.ref o1), .val (.long q2), .second, .val (.ref o3), .val (.int p4), .val (.long acc), .second, .val (.int i)] [(.int p4), (.int i)])) _
        refine XS.icmpNo X.here hx rfl (hb hby own_d6_10) rfl (tlt hc10_3).2.1 ?_
        show Steps p.tables e below (T.setTop (mkF m 13 #[.val (.ref o0), .val (.ref o1), .val (.long q2), .second, .val (.ref o3), .val (.int p4), .val (.long acc), .second, .val (.int i)] [])) _
        refine XS.lload X.here hx rfl (hb hby own_d6_13) rfl ?_
        show Steps p.tables e below (T.setTop (mkF m 15 #[.val (.ref o0), .val (.ref o1), .val (.long q2), .second, .val (.ref o3), .val (.int p4), .val (.long acc), .second, .val (.int i)] [(.long acc)])) _
        refine XS.aloadN X.here hx rfl (hb hby own_d6_15) rfl rfl ?_
        show Steps p.tables e below (T.setTop (mkF m 16 #[.val (.ref o0), .val (.ref o1), .val (.long q2), .second, .val (.ref o3), .val (.int p4), .val (.long acc), .second, .val (.int i)] [(.ref o1), (.long acc)])) _
        refine XS.aload X.here hx rfl (hb hby own_d6_16) rfl rfl ?_
        show Steps p.tables e below (T.setTop (mkF m 18 #[.val (.ref o0), .val (.ref o1), .val (.long q2), .second, .val (.ref o3), .val (.int p4), .val (.long acc), .second, .val (.int i)] [(.ref o3), (.ref o1), (.long acc)])) _
        refine XS.iload X.here hx rfl (hb hby own_d6_18) rfl ?_
        show Steps p.tables e below (T.setTop (mkF m 20 #[.val (.ref o0), .val (.ref o1), .val (.long q2), .second, .val (.ref o3), .val (.int p4), .val (.long acc), .second, .val (.int i)] [(.int i), (.ref o3), (.ref o1), (.long acc)])) _
        refine own_ialoadI X hx hZ eT f_1 (j := i) ⟨i1, own_ltl hc10_3 h4.2⟩ (g := (mkF m 20 #[.val (.ref o0), .val (.ref o1), .val (.long q2), .second, .val (.ref o3), .val (.int p4), .val (.long acc), .second, .val (.int i)] [(.int i), (.ref o3), (.ref o1), (.long acc)])) rfl rfl (hb hby own_d6_20) _ ?_
        show Steps p.tables e below (T.setTop (mkF m 21 #[.val (.ref o0), .val (.ref o1), .val (.long q2), .second, .val (.ref o3), .val (.int p4), .val (.long acc), .second, .val (.int i)] [(.int (List.getD Lp (i).toInt.toNat 0)), (.ref o1), (.long acc)])) _
        refine own_baloadZ X hx hZ eT f_0 (j := (List.getD Lp (i).toInt.toNat 0)) (own_at hp ⟨i1, own_ltl hc10_3 h4.2⟩) (g := (mkF m 21 #[.val (.ref o0), .val (.ref o1), .val (.long q2), .second, .val (.ref o3), .val (.int p4), .val (.long acc), .second, .val (.int i)] [(.int (List.getD Lp (i).toInt.toNat 0)), (.ref o1), (.long acc)])) rfl rfl (hb hby own_d6_21) _ ?_
        exact k
      obtain ⟨v8, hv8⟩ : ∃ z : Int64, z = (if (List.getD Lx ((List.getD Lp (i).toInt.toNat 0)).toInt.toNat 0) = (0 : Int32) then (1 : Int64) else (-1 : Int64)) := ⟨_, rfl⟩
      have st9 : ∀ t, Steps p.tables e below (T.setTop (mkF m 32 #[.val (.ref o0), .val (.ref o1), .val (.long q2), .second, .val (.ref o3), .val (.int p4), .val (.long acc), .second, .val (.int i)] [(.long v8), (.long acc)])) t → Steps p.tables e below (T.setTop (mkF m 22 #[.val (.ref o0), .val (.ref o1), .val (.long q2), .second, .val (.ref o3), .val (.int p4), .val (.long acc), .second, .val (.int i)] [(.int (List.getD Lx ((List.getD Lp (i).toInt.toNat 0)).toInt.toNat 0)), (.long acc)])) t := by
        rw [hv8]
        by_cases hc22_5 : (List.getD Lx ((List.getD Lp (i).toInt.toNat 0)).toInt.toNat 0) = (0 : Int32)
        · repeat rw [if_pos hc22_5]
          have st6 : ∀ t, Steps p.tables e below (T.setTop (mkF m 32 #[.val (.ref o0), .val (.ref o1), .val (.long q2), .second, .val (.ref o3), .val (.int p4), .val (.long acc), .second, .val (.int i)] [(.long (1 : Int64)), (.long acc)])) t → Steps p.tables e below (T.setTop (mkF m 22 #[.val (.ref o0), .val (.ref o1), .val (.long q2), .second, .val (.ref o3), .val (.int p4), .val (.long acc), .second, .val (.int i)] [(.int (List.getD Lx ((List.getD Lp (i).toInt.toNat 0)).toInt.toNat 0)), (.long acc)])) t := by
            intro t k
            show Steps p.tables e below (T.setTop (mkF m 22 #[.val (.ref o0), .val (.ref o1), .val (.long q2), .second, .val (.ref o3), .val (.int p4), .val (.long acc), .second, .val (.int i)] [(.int (List.getD Lx ((List.getD Lp (i).toInt.toNat 0)).toInt.toNat 0)), (.long acc)])) _
            refine XS.ifYes X.here hx rfl (pc0 := 22) (pc' := 31) rfl (hb hby own_d6_22) rfl ((if0 _ _).trans (teq hc22_5).1) (by decide) (by decide) ?_
            show Steps p.tables e below (T.setTop (mkF m 31 #[.val (.ref o0), .val (.ref o1), .val (.long q2), .second, .val (.ref o3), .val (.int p4), .val (.long acc), .second, .val (.int i)] [(.long acc)])) _
            refine XS.lconst X.here hx rfl (hb hby own_d6_31) ?_
            exact k
          exact fun t k => st6 _ k
        · repeat rw [if_neg hc22_5]
          have st7 : ∀ t, Steps p.tables e below (T.setTop (mkF m 32 #[.val (.ref o0), .val (.ref o1), .val (.long q2), .second, .val (.ref o3), .val (.int p4), .val (.long acc), .second, .val (.int i)] [(.long (-1 : Int64)), (.long acc)])) t → Steps p.tables e below (T.setTop (mkF m 22 #[.val (.ref o0), .val (.ref o1), .val (.long q2), .second, .val (.ref o3), .val (.int p4), .val (.long acc), .second, .val (.int i)] [(.int (List.getD Lx ((List.getD Lp (i).toInt.toNat 0)).toInt.toNat 0)), (.long acc)])) t := by
            intro t k
            show Steps p.tables e below (T.setTop (mkF m 22 #[.val (.ref o0), .val (.ref o1), .val (.long q2), .second, .val (.ref o3), .val (.int p4), .val (.long acc), .second, .val (.int i)] [(.int (List.getD Lx ((List.getD Lp (i).toInt.toNat 0)).toInt.toNat 0)), (.long acc)])) _
            refine XS.ifNo X.here hx rfl (hb hby own_d6_22) rfl ((if0 _ _).trans (feq hc22_5).1) ?_
            show Steps p.tables e below (T.setTop (mkF m 25 #[.val (.ref o0), .val (.ref o1), .val (.long q2), .second, .val (.ref o3), .val (.int p4), .val (.long acc), .second, .val (.int i)] [(.long acc)])) _
            refine X.ldc2Long hx hown (mvT hZ (hw _ (List.mem_of_getElem? (i := 28) rfl))) (g := (mkF m 25 #[.val (.ref o0), .val (.ref o1), .val (.long q2), .second, .val (.ref o3), .val (.int p4), .val (.long acc), .second, .val (.int i)] [(.long acc)])) rfl (hb hby own_d6_25) _ ?_
            show Steps p.tables e below (T.setTop (mkF m 28 #[.val (.ref o0), .val (.ref o1), .val (.long q2), .second, .val (.ref o3), .val (.int p4), .val (.long acc), .second, .val (.int i)] [(.long (-1 : Int64)), (.long acc)])) _
            refine XS.goto X.here hx rfl (pc0 := 28) (pc' := 32) rfl (hb hby own_d6_28) (by decide) (by decide) ?_
            exact k
          exact fun t k => st7 _ k
      obtain ⟨v10, hv10⟩ : ∃ z : Int64, z = (acc + v8) := ⟨_, rfl⟩
      have st11 : ∀ t, Steps p.tables e below (T.setTop (mkF m 35 #[.val (.ref o0), .val (.ref o1), .val (.long q2), .second, .val (.ref o3), .val (.int p4), .val (.long v10), .second, .val (.int i)] [])) t → Steps p.tables e below (T.setTop (mkF m 32 #[.val (.ref o0), .val (.ref o1), .val (.long q2), .second, .val (.ref o3), .val (.int p4), .val (.long acc), .second, .val (.int i)] [(.long v8), (.long acc)])) t := by
        rw [hv10]
        intro t k
        show Steps p.tables e below (T.setTop (mkF m 32 #[.val (.ref o0), .val (.ref o1), .val (.long q2), .second, .val (.ref o3), .val (.int p4), .val (.long acc), .second, .val (.int i)] [(.long v8), (.long acc)])) _
        refine XS.ladd X.here hx rfl (hb hby own_d6_32) rfl ?_
        show Steps p.tables e below (T.setTop (mkF m 33 #[.val (.ref o0), .val (.ref o1), .val (.long q2), .second, .val (.ref o3), .val (.int p4), .val (.long acc), .second, .val (.int i)] [(.long (acc + v8))])) _
        refine XS.lstore X.here hx rfl (hb hby own_d6_33) rfl (l' := #[.val (.ref o0), .val (.ref o1), .val (.long q2), .second, .val (.ref o3), .val (.int p4), .val (.long (acc + v8)), .second, .val (.int i)]) rfl ?_
        exact k
      obtain ⟨v12, hv12⟩ : ∃ z : Int32, z = (i + (1 : Int32)) := ⟨_, rfl⟩
      have st13 : ∀ t, Steps p.tables e below (T.setTop (mkF m 38 #[.val (.ref o0), .val (.ref o1), .val (.long q2), .second, .val (.ref o3), .val (.int p4), .val (.long v10), .second, .val (.int v12)] [])) t → Steps p.tables e below (T.setTop (mkF m 35 #[.val (.ref o0), .val (.ref o1), .val (.long q2), .second, .val (.ref o3), .val (.int p4), .val (.long v10), .second, .val (.int i)] [])) t := by
        rw [hv12]
        intro t k
        show Steps p.tables e below (T.setTop (mkF m 35 #[.val (.ref o0), .val (.ref o1), .val (.long q2), .second, .val (.ref o3), .val (.int p4), .val (.long v10), .second, .val (.int i)] [])) _
        refine XS.iinc X.here hx rfl (hb hby own_d6_35) rfl (l' := #[.val (.ref o0), .val (.ref o1), .val (.long q2), .second, .val (.ref o3), .val (.int p4), .val (.long v10), .second, .val (.int (i + (1 : Int32)))]) rfl ?_
        exact k
      have st14 : ∀ t, Steps p.tables e below (T.setTop (mkF m 6 #[.val (.ref o0), .val (.ref o1), .val (.long q2), .second, .val (.ref o3), .val (.int p4), .val (.long v10), .second, .val (.int v12)] [])) t → Steps p.tables e below (T.setTop (mkF m 38 #[.val (.ref o0), .val (.ref o1), .val (.long q2), .second, .val (.ref o3), .val (.int p4), .val (.long v10), .second, .val (.int v12)] [])) t := by
        intro t k
        show Steps p.tables e below (T.setTop (mkF m 38 #[.val (.ref o0), .val (.ref o1), .val (.long q2), .second, .val (.ref o3), .val (.int p4), .val (.long v10), .second, .val (.int v12)] [])) _
        refine XS.goto X.here hx rfl (pc0 := 38) (pc' := 6) rfl (hb hby own_d6_38) (by decide) (by decide) ?_
        exact k
      refine own_End.go (fun t k => st4 _ (st9 _ (st11 _ (st13 _ (st14 _ k))))) ?_
      rw [← (own_e6_15 hv8 hv10 hv12 hc10_3)]
      exact ih T v10 v12 X eT f_0 f_1 h4 hp (by have c := hc10_3; rw [Int32.lt_iff_toInt_lt] at c; have e := own_succ hv12 (by have := rng32 p4; omega); omega) (by have c := hc10_3; rw [Int32.lt_iff_toInt_lt] at c; have e := own_succ hv12 (by have := rng32 p4; omega); omega) (by have c := hc10_3; rw [Int32.lt_iff_toInt_lt] at c; have e := own_succ hv12 (by have := rng32 p4; omega); omega)
    · have st16 : ∀ t, Steps p.tables e below (T.setTop (mkF m 43 #[.val (.ref o0), .val (.ref o1), .val (.long q2), .second, .val (.ref o3), .val (.int p4), .val (.long acc), .second, .val (.int i)] [(.long acc)])) t → Steps p.tables e below (T.setTop (mkF m 10 #[.val (.ref o0), .val (.ref o1), .val (.long q2), .second, .val (.ref o3), .val (.int p4), .val (.long acc), .second, .val (.int i)] [(.int p4), (.int i)])) t := by
        intro t k
        show Steps p.tables e below (T.setTop (mkF m 10 #[.val (.ref o0), .val (.ref o1), .val (.long q2), .second, .val (.ref o3), .val (.int p4), .val (.long acc), .second, .val (.int i)] [(.int p4), (.int i)])) _
        refine XS.icmpYes X.here hx rfl (pc0 := 10) (pc' := 41) rfl (hb hby own_d6_10) rfl (flt hc10_3).2.1 (by decide) (by decide) ?_
        show Steps p.tables e below (T.setTop (mkF m 41 #[.val (.ref o0), .val (.ref o1), .val (.long q2), .second, .val (.ref o3), .val (.int p4), .val (.long acc), .second, .val (.int i)] [])) _
        refine XS.lload X.here hx rfl (hb hby own_d6_41) rfl ?_
        exact k
      refine own_End.go (fun t k => st16 _ k) ?_
      exact own_leafJ X hx hk hret (hb hby own_d6_43) ⟨congrArg (fun z => some (Value.long z)) (own_e6_17 hc10_3), rfl, eT⟩ (by decide) (by decide)
def own_F6 (q2 : Int64) (p4 : Int32) (Lx : List Int32) (Lp : List Int32) : Int64 :=
  (own_P6_6_0 q2 p4 Lx Lp (Lp.length + 1) q2 (0 : Int32))
def own_Q6 (Z : State) (o0 : Addr) (o1 : Addr) (q2 : Int64) (o3 : Addr) (p4 : Int32) (Lx : List Int32) (Lp : List Int32) (h0 : Heap) (n0 : Nat) (vz : Option Value) (h : Heap) (Lz : List Loc) : Prop := vz = some (.long (own_F6 q2 p4 Lx Lp)) ∧ Lz = [] ∧ h = h0
theorem own_e6_18 {q2 : Int64} {p4 : Int32} {Lx : List Int32} {Lp : List Int32} : (own_P6_6_0 q2 p4 Lx Lp (Lp.length + 1) q2 (0 : Int32)) = (own_F6 q2 p4 Lx Lp) := by
  skip
  first
    | (simp only [own_F6]; done)
    | (exfalso; contradiction)
set_option maxRecDepth 65536 in
set_option maxHeartbeats 40000000 in
theorem own_rm6 (l : Launch) (Z : State) (a0 : Array Value) (hw : ∀ d ∈ tables_1, d.before a0 Z = true) (ws : List Jvm.Cond) (o0 : Addr) (o1 : Addr) (q2 : Int64) (o3 : Addr) (p4 : Int32) (Lx : List Int32) (Lp : List Int32) (h0 : Heap) (n0 : Nat) (Z0 : n0 ≤ h0.size) (V_o1 : own_IA Z h0 o1 .boolean Lx) (V_o3 : own_IA Z h0 o3 .int Lp) (h4 : 0 ≤ p4.toInt ∧ p4.toInt ≤ (Lp.length : Int)) (hp : ∀ x ∈ Lp, 0 ≤ x.toInt ∧ x.toInt < (Lx.length : Int)) :
    MetFree l (⟨"com/example/evotempo/evotempo/problem/OneMax", "fitnessAfterFlips", "([ZJ[II)J"⟩ : MethodName) (head1 (Jvm.Cond.code (⟨"com/example/evotempo/evotempo/problem/OneMax", "fitnessAfterFlips", "([ZJ[II)J"⟩ : MethodName) prog_75_method_4_code 9 (some .long) :: ws) own_R6) (fun a U => a = #[(.ref o0), (.ref o1), (.long q2), (.ref o3), (.int p4)] ∧ Z.Warmed39 U.vm ∧ U.heap = h0) (fun _ _ _ _ _ => True) (fun _ U o U' => ∃ vz Lz, o = .returned vz ∧ own_Q6 Z o0 o1 q2 o3 p4 Lx Lp h0 n0 vz U'.heap Lz ∧ FrameEnd U o U' Lz own_R6.cells own_R6.slots) := by
  refine MetFree.of_bodySF (plainFor_of_name own_pn6) hisR ?_
  intro p e s m args below meth c s₁ Bd hml0 hP hK
  obtain ⟨rfl, hZ, hh⟩ := hP
  have hx := Bd.exec
  have hby := Bd.bytes
  have hml : c.maxLocals = 9 := hml0
  have hown : s.vm.findClass "com/example/evotempo/evotempo/problem/OneMax" = some m.cls := findClass_of_methodNamed Bd.named
  have hnm := (name_of_methodNamed Bd.named Bd.method).1
  have X0 : Stand p l e own_R6 s m #[(.ref o0), (.ref o1), (.long q2), (.ref o3), (.int p4)] below meth c s₁ [] 0 0 := Stand.of_body Bd
  have e0 : s₁.heap = h0 := by rw [← hh, Bd.state]; rfl
  show own_End p e below s (fun vz h Lz => vz = some (.long (own_F6 q2 p4 Lx Lp)) ∧ Lz = [] ∧ h = h0) own_R6.cells own_R6.slots s₁ (entryFrame m #[(.ref o0), (.ref o1), (.long q2), (.ref o3), (.int p4)] 9)
  refine own_End.go (fun t k => castTop (own_ef6 m o0 o1 q2 o3 p4) k) ?_
  show own_End p e below s _ _ _ s₁ (mkF m 0 #[.val (.ref o0), .val (.ref o1), .val (.long q2), .second, .val (.ref o3), .val (.int p4), .unset, .unset, .unset] [])
  have N0 := Fr.nil n0
  have K0 : Keep h0 h0 [] := Keep.refl h0 _
  have st1 : ∀ t, Steps p.tables e below (s₁.setTop (mkF m 6 #[.val (.ref o0), .val (.ref o1), .val (.long q2), .second, .val (.ref o3), .val (.int p4), .val (.long q2), .second, .val (.int (0 : Int32))] [])) t → Steps p.tables e below (s₁.setTop (mkF m 0 #[.val (.ref o0), .val (.ref o1), .val (.long q2), .second, .val (.ref o3), .val (.int p4), .unset, .unset, .unset] [])) t := by
    intro t k
    show Steps p.tables e below (s₁.setTop (mkF m 0 #[.val (.ref o0), .val (.ref o1), .val (.long q2), .second, .val (.ref o3), .val (.int p4), .unset, .unset, .unset] [])) _
    refine XS.lloadN X0.here hx rfl (hb hby own_d6_0) rfl ?_
    show Steps p.tables e below (s₁.setTop (mkF m 1 #[.val (.ref o0), .val (.ref o1), .val (.long q2), .second, .val (.ref o3), .val (.int p4), .unset, .unset, .unset] [(.long q2)])) _
    refine XS.lstore X0.here hx rfl (hb hby own_d6_1) rfl (l' := #[.val (.ref o0), .val (.ref o1), .val (.long q2), .second, .val (.ref o3), .val (.int p4), .val (.long q2), .second, .unset]) rfl ?_
    show Steps p.tables e below (s₁.setTop (mkF m 3 #[.val (.ref o0), .val (.ref o1), .val (.long q2), .second, .val (.ref o3), .val (.int p4), .val (.long q2), .second, .unset] [])) _
    refine XS.iconst X0.here hx rfl (hb hby own_d6_3) ?_
    show Steps p.tables e below (s₁.setTop (mkF m 4 #[.val (.ref o0), .val (.ref o1), .val (.long q2), .second, .val (.ref o3), .val (.int p4), .val (.long q2), .second, .unset] [(.int (0 : Int32))])) _
    refine XS.istore X0.here hx rfl (hb hby own_d6_4) rfl (l' := #[.val (.ref o0), .val (.ref o1), .val (.long q2), .second, .val (.ref o3), .val (.int p4), .val (.long q2), .second, .val (.int (0 : Int32))]) rfl ?_
    exact k
  refine own_End.go (fun t k => st1 _ k) ?_
  rw [← (own_e6_18)]
  exact own_lp6_6 (n0 := n0) hx hZ hw hby hml hown hnm Bd.returns Bd.notSynchronized o0 o1 q2 o3 p4 Lx Lp (Lp.length + 1) s₁ q2 (0 : Int32) X0 e0 V_o1 V_o3 h4 hp (by decide) (by have := own_z0; omega) (by have := own_z0; omega)
theorem own_pn0 : plainName "com/example/evotempo/evotempo/problem/OneMaxFitnessAfterFlipsPinLaw" = true := by first | (simp [plainName, overriddenIn]; done) | decide +kernel
theorem own_ef0 (m : MethodId) (p0 : Int32) (p1 : Int32) (p2 : Int32) : entryFrame m #[(.int p0), (.int p1), (.int p2)] maxLocals = mkF m 0 #[.val (.int p0), .val (.int p1), .val (.int p2), .unset, .unset, .unset, .unset, .unset, .unset, .unset, .unset, .unset, .unset, .unset] [] := by first | (simp [entryFrame, mkF, argsToLocals, Value.category, maxLocals]; done) | rfl
def own_F0 (p0 : Int32) (p1 : Int32) (p2 : Int32) : Int32 :=
  let v1 : Int32 := (p0 &&& (15 : Int32))
  let v3 : Int32 := (p1 &&& (15 : Int32))
  let v9 : Int32 := (if (p2 &&& (1 : Int32)) = (0 : Int32) then (0 : Int32) else (1 : Int32))
  let v16 : Int32 := (own_F1 v1 (0 : Int32))
  let v21 : Int32 := (if v16 = (1 : Int32) then (1 : Int32) else (0 : Int32))
  let v27 : Int32 := (own_F1 v1 (1 : Int32))
  let v32 : Int32 := (if v27 = (1 : Int32) then (1 : Int32) else (0 : Int32))
  let v38 : Int32 := (own_F1 v1 (2 : Int32))
  let v43 : Int32 := (if v38 = (1 : Int32) then (1 : Int32) else (0 : Int32))
  let v49 : Int32 := (own_F1 v1 (3 : Int32))
  let v54 : Int32 := (if v49 = (1 : Int32) then (1 : Int32) else (0 : Int32))
  if v9 = (0 : Int32) then
    let v67 : List Int32 := (own_G2_0 (0 : Int32) v3 (0 : Int32) (1 : Int32) ([(0 : Int32), (0 : Int32), (0 : Int32), (0 : Int32)] : List Int32))
    let v70 : Int32 := (own_F2 (0 : Int32) v3 (0 : Int32) (1 : Int32) ([(0 : Int32), (0 : Int32), (0 : Int32), (0 : Int32)] : List Int32))
    let v74 : List Int32 := (own_G2_0 v70 v3 (1 : Int32) (1 : Int32) v67)
    let v77 : Int32 := (own_F2 v70 v3 (1 : Int32) (1 : Int32) v67)
    let v81 : List Int32 := (own_G2_0 v77 v3 (2 : Int32) (1 : Int32) v74)
    let v84 : Int32 := (own_F2 v77 v3 (2 : Int32) (1 : Int32) v74)
    let v88 : List Int32 := (own_G2_0 v84 v3 (3 : Int32) (1 : Int32) v81)
    let v91 : Int32 := (own_F2 v84 v3 (3 : Int32) (1 : Int32) v81)
    let v95 : List Int32 := (own_G2_0 v91 v3 (0 : Int32) (0 : Int32) v88)
    let v98 : Int32 := (own_F2 v91 v3 (0 : Int32) (0 : Int32) v88)
    let v102 : List Int32 := (own_G2_0 v98 v3 (1 : Int32) (0 : Int32) v95)
    let v105 : Int32 := (own_F2 v98 v3 (1 : Int32) (0 : Int32) v95)
    let v109 : List Int32 := (own_G2_0 v105 v3 (2 : Int32) (0 : Int32) v102)
    let v112 : Int32 := (own_F2 v105 v3 (2 : Int32) (0 : Int32) v102)
    let v116 : List Int32 := (own_G2_0 v112 v3 (3 : Int32) (0 : Int32) v109)
    let v119 : Int32 := (own_F2 v112 v3 (3 : Int32) (0 : Int32) v109)
    let v132 : Int32 := (own_F5 v1)
    let v137 : Int64 := (own_F6 (v132.toInt64) v91 ([(nar .boolean v21), (nar .boolean v32), (nar .boolean v43), (nar .boolean v54)] : List Int32) v116)
    let v140 : Int32 := (own_F1 v1 (0 : Int32))
    let v145 : Int32 := (if v140 = (1 : Int32) then (1 : Int32) else (0 : Int32))
    let v146 : Int32 := (nar .boolean v21)
    let v181 : Int32 := (if v146 = v145 then (if (nar .boolean v32) = (if (own_F1 v1 (1 : Int32)) = (1 : Int32) then (1 : Int32) else (0 : Int32)) then (if (nar .boolean v43) = (if (own_F1 v1 (2 : Int32)) = (1 : Int32) then (1 : Int32) else (0 : Int32)) then (if (nar .boolean v54) = (if (own_F1 v1 (3 : Int32)) = (1 : Int32) then (1 : Int32) else (0 : Int32)) then (1 : Int32) else (0 : Int32)) else (0 : Int32)) else (0 : Int32)) else (0 : Int32))
    if v181 = (0 : Int32) then
      (0 : Int32)
    else
      let v189 : Int32 := (own_F5 (v1 ^^^ v3))
      if v137 = (v189.toInt64) then
        (1 : Int32)
      else
        (0 : Int32)
  else
    let v199 : List Int32 := (own_G2_0 (0 : Int32) v3 (3 : Int32) (1 : Int32) ([(0 : Int32), (0 : Int32), (0 : Int32), (0 : Int32)] : List Int32))
    let v202 : Int32 := (own_F2 (0 : Int32) v3 (3 : Int32) (1 : Int32) ([(0 : Int32), (0 : Int32), (0 : Int32), (0 : Int32)] : List Int32))
    let v206 : List Int32 := (own_G2_0 v202 v3 (2 : Int32) (1 : Int32) v199)
    let v209 : Int32 := (own_F2 v202 v3 (2 : Int32) (1 : Int32) v199)
    let v213 : List Int32 := (own_G2_0 v209 v3 (1 : Int32) (1 : Int32) v206)
    let v216 : Int32 := (own_F2 v209 v3 (1 : Int32) (1 : Int32) v206)
    let v220 : List Int32 := (own_G2_0 v216 v3 (0 : Int32) (1 : Int32) v213)
    let v223 : Int32 := (own_F2 v216 v3 (0 : Int32) (1 : Int32) v213)
    let v227 : List Int32 := (own_G2_0 v223 v3 (0 : Int32) (0 : Int32) v220)
    let v230 : Int32 := (own_F2 v223 v3 (0 : Int32) (0 : Int32) v220)
    let v234 : List Int32 := (own_G2_0 v230 v3 (1 : Int32) (0 : Int32) v227)
    let v237 : Int32 := (own_F2 v230 v3 (1 : Int32) (0 : Int32) v227)
    let v241 : List Int32 := (own_G2_0 v237 v3 (2 : Int32) (0 : Int32) v234)
    let v244 : Int32 := (own_F2 v237 v3 (2 : Int32) (0 : Int32) v234)
    let v248 : List Int32 := (own_G2_0 v244 v3 (3 : Int32) (0 : Int32) v241)
    let v251 : Int32 := (own_F2 v244 v3 (3 : Int32) (0 : Int32) v241)
    let v264 : Int32 := (own_F5 v1)
    let v269 : Int64 := (own_F6 (v264.toInt64) v223 ([(nar .boolean v21), (nar .boolean v32), (nar .boolean v43), (nar .boolean v54)] : List Int32) v248)
    let v272 : Int32 := (own_F1 v1 (0 : Int32))
    let v277 : Int32 := (if v272 = (1 : Int32) then (1 : Int32) else (0 : Int32))
    let v278 : Int32 := (nar .boolean v21)
    let v313 : Int32 := (if v278 = v277 then (if (nar .boolean v32) = (if (own_F1 v1 (1 : Int32)) = (1 : Int32) then (1 : Int32) else (0 : Int32)) then (if (nar .boolean v43) = (if (own_F1 v1 (2 : Int32)) = (1 : Int32) then (1 : Int32) else (0 : Int32)) then (if (nar .boolean v54) = (if (own_F1 v1 (3 : Int32)) = (1 : Int32) then (1 : Int32) else (0 : Int32)) then (1 : Int32) else (0 : Int32)) else (0 : Int32)) else (0 : Int32)) else (0 : Int32))
    if v313 = (0 : Int32) then
      (0 : Int32)
    else
      let v321 : Int32 := (own_F5 (v1 ^^^ v3))
      if v269 = (v321.toInt64) then
        (1 : Int32)
      else
        (0 : Int32)
def own_Q0 (Z : State) (p0 : Int32) (p1 : Int32) (p2 : Int32) (h0 : Heap) (n0 : Nat) (vz : Option Value) (h : Heap) (Lz : List Loc) : Prop := vz = some (.int (own_F0 p0 p1 p2)) ∧ Fr n0 Lz
theorem own_e0_186 {p0 : Int32} {p1 : Int32} {p2 : Int32} {v1 : Int32} {v3 : Int32} {v9 : Int32} {v16 : Int32} {v21 : Int32} {v27 : Int32} {v32 : Int32} {v38 : Int32} {v43 : Int32} {v49 : Int32} {v54 : Int32} {v67 : List Int32} {v70 : Int32} {v74 : List Int32} {v77 : Int32} {v81 : List Int32} {v84 : Int32} {v88 : List Int32} {v91 : Int32} {v95 : List Int32} {v98 : Int32} {v102 : List Int32} {v105 : Int32} {v109 : List Int32} {v112 : Int32} {v116 : List Int32} {v119 : Int32} {v132 : Int32} {v137 : Int64} {v140 : Int32} {v145 : Int32} {v146 : Int32} {v181 : Int32} (hv1 : v1 = (p0 &&& (15 : Int32))) (hv3 : v3 = (p1 &&& (15 : Int32))) (hv9 : v9 = (if (p2 &&& (1 : Int32)) = (0 : Int32) then (0 : Int32) else (1 : Int32))) (hv16 : v16 = (own_F1 v1 (0 : Int32))) (hv21 : v21 = (if v16 = (1 : Int32) then (1 : Int32) else (0 : Int32))) (hv27 : v27 = (own_F1 v1 (1 : Int32))) (hv32 : v32 = (if v27 = (1 : Int32) then (1 : Int32) else (0 : Int32))) (hv38 : v38 = (own_F1 v1 (2 : Int32))) (hv43 : v43 = (if v38 = (1 : Int32) then (1 : Int32) else (0 : Int32))) (hv49 : v49 = (own_F1 v1 (3 : Int32))) (hv54 : v54 = (if v49 = (1 : Int32) then (1 : Int32) else (0 : Int32))) (hv67 : v67 = (own_G2_0 (0 : Int32) v3 (0 : Int32) (1 : Int32) ([(0 : Int32), (0 : Int32), (0 : Int32), (0 : Int32)] : List Int32))) (hv70 : v70 = (own_F2 (0 : Int32) v3 (0 : Int32) (1 : Int32) ([(0 : Int32), (0 : Int32), (0 : Int32), (0 : Int32)] : List Int32))) (hv74 : v74 = (own_G2_0 v70 v3 (1 : Int32) (1 : Int32) v67)) (hv77 : v77 = (own_F2 v70 v3 (1 : Int32) (1 : Int32) v67)) (hv81 : v81 = (own_G2_0 v77 v3 (2 : Int32) (1 : Int32) v74)) (hv84 : v84 = (own_F2 v77 v3 (2 : Int32) (1 : Int32) v74)) (hv88 : v88 = (own_G2_0 v84 v3 (3 : Int32) (1 : Int32) v81)) (hv91 : v91 = (own_F2 v84 v3 (3 : Int32) (1 : Int32) v81)) (hv95 : v95 = (own_G2_0 v91 v3 (0 : Int32) (0 : Int32) v88)) (hv98 : v98 = (own_F2 v91 v3 (0 : Int32) (0 : Int32) v88)) (hv102 : v102 = (own_G2_0 v98 v3 (1 : Int32) (0 : Int32) v95)) (hv105 : v105 = (own_F2 v98 v3 (1 : Int32) (0 : Int32) v95)) (hv109 : v109 = (own_G2_0 v105 v3 (2 : Int32) (0 : Int32) v102)) (hv112 : v112 = (own_F2 v105 v3 (2 : Int32) (0 : Int32) v102)) (hv116 : v116 = (own_G2_0 v112 v3 (3 : Int32) (0 : Int32) v109)) (hv119 : v119 = (own_F2 v112 v3 (3 : Int32) (0 : Int32) v109)) (hv132 : v132 = (own_F5 v1)) (hv137 : v137 = (own_F6 (v132.toInt64) v91 ([(nar .boolean v21), (nar .boolean v32), (nar .boolean v43), (nar .boolean v54)] : List Int32) v116)) (hv140 : v140 = (own_F1 v1 (0 : Int32))) (hv145 : v145 = (if v140 = (1 : Int32) then (1 : Int32) else (0 : Int32))) (hv146 : v146 = (nar .boolean v21)) (hv181 : v181 = (if v146 = v145 then (if (nar .boolean v32) = (if (own_F1 v1 (1 : Int32)) = (1 : Int32) then (1 : Int32) else (0 : Int32)) then (if (nar .boolean v43) = (if (own_F1 v1 (2 : Int32)) = (1 : Int32) then (1 : Int32) else (0 : Int32)) then (if (nar .boolean v54) = (if (own_F1 v1 (3 : Int32)) = (1 : Int32) then (1 : Int32) else (0 : Int32)) then (1 : Int32) else (0 : Int32)) else (0 : Int32)) else (0 : Int32)) else (0 : Int32))) (hc111_63 : v9 = (0 : Int32)) (hc398_184 : v181 = (0 : Int32)) : (nar .boolean (0 : Int32)) = (own_F0 p0 p1 p2) := by
  rw [own_nb0]
  subst hv1 hv3 hv9 hv16 hv21 hv27 hv32 hv38 hv43 hv49 hv54 hv67 hv70 hv74 hv77 hv81 hv84 hv88 hv91 hv95 hv98 hv102 hv105 hv109 hv112 hv116 hv119 hv132 hv137 hv140 hv145 hv146 hv181
  first
    | (simp only [own_F0, if_pos hc111_63, if_pos hc398_184]; done)
    | (exfalso; contradiction)
theorem own_e0_193 {p0 : Int32} {p1 : Int32} {p2 : Int32} {v1 : Int32} {v3 : Int32} {v9 : Int32} {v16 : Int32} {v21 : Int32} {v27 : Int32} {v32 : Int32} {v38 : Int32} {v43 : Int32} {v49 : Int32} {v54 : Int32} {v67 : List Int32} {v70 : Int32} {v74 : List Int32} {v77 : Int32} {v81 : List Int32} {v84 : Int32} {v88 : List Int32} {v91 : Int32} {v95 : List Int32} {v98 : Int32} {v102 : List Int32} {v105 : Int32} {v109 : List Int32} {v112 : Int32} {v116 : List Int32} {v119 : Int32} {v132 : Int32} {v137 : Int64} {v140 : Int32} {v145 : Int32} {v146 : Int32} {v181 : Int32} {v189 : Int32} (hv1 : v1 = (p0 &&& (15 : Int32))) (hv3 : v3 = (p1 &&& (15 : Int32))) (hv9 : v9 = (if (p2 &&& (1 : Int32)) = (0 : Int32) then (0 : Int32) else (1 : Int32))) (hv16 : v16 = (own_F1 v1 (0 : Int32))) (hv21 : v21 = (if v16 = (1 : Int32) then (1 : Int32) else (0 : Int32))) (hv27 : v27 = (own_F1 v1 (1 : Int32))) (hv32 : v32 = (if v27 = (1 : Int32) then (1 : Int32) else (0 : Int32))) (hv38 : v38 = (own_F1 v1 (2 : Int32))) (hv43 : v43 = (if v38 = (1 : Int32) then (1 : Int32) else (0 : Int32))) (hv49 : v49 = (own_F1 v1 (3 : Int32))) (hv54 : v54 = (if v49 = (1 : Int32) then (1 : Int32) else (0 : Int32))) (hv67 : v67 = (own_G2_0 (0 : Int32) v3 (0 : Int32) (1 : Int32) ([(0 : Int32), (0 : Int32), (0 : Int32), (0 : Int32)] : List Int32))) (hv70 : v70 = (own_F2 (0 : Int32) v3 (0 : Int32) (1 : Int32) ([(0 : Int32), (0 : Int32), (0 : Int32), (0 : Int32)] : List Int32))) (hv74 : v74 = (own_G2_0 v70 v3 (1 : Int32) (1 : Int32) v67)) (hv77 : v77 = (own_F2 v70 v3 (1 : Int32) (1 : Int32) v67)) (hv81 : v81 = (own_G2_0 v77 v3 (2 : Int32) (1 : Int32) v74)) (hv84 : v84 = (own_F2 v77 v3 (2 : Int32) (1 : Int32) v74)) (hv88 : v88 = (own_G2_0 v84 v3 (3 : Int32) (1 : Int32) v81)) (hv91 : v91 = (own_F2 v84 v3 (3 : Int32) (1 : Int32) v81)) (hv95 : v95 = (own_G2_0 v91 v3 (0 : Int32) (0 : Int32) v88)) (hv98 : v98 = (own_F2 v91 v3 (0 : Int32) (0 : Int32) v88)) (hv102 : v102 = (own_G2_0 v98 v3 (1 : Int32) (0 : Int32) v95)) (hv105 : v105 = (own_F2 v98 v3 (1 : Int32) (0 : Int32) v95)) (hv109 : v109 = (own_G2_0 v105 v3 (2 : Int32) (0 : Int32) v102)) (hv112 : v112 = (own_F2 v105 v3 (2 : Int32) (0 : Int32) v102)) (hv116 : v116 = (own_G2_0 v112 v3 (3 : Int32) (0 : Int32) v109)) (hv119 : v119 = (own_F2 v112 v3 (3 : Int32) (0 : Int32) v109)) (hv132 : v132 = (own_F5 v1)) (hv137 : v137 = (own_F6 (v132.toInt64) v91 ([(nar .boolean v21), (nar .boolean v32), (nar .boolean v43), (nar .boolean v54)] : List Int32) v116)) (hv140 : v140 = (own_F1 v1 (0 : Int32))) (hv145 : v145 = (if v140 = (1 : Int32) then (1 : Int32) else (0 : Int32))) (hv146 : v146 = (nar .boolean v21)) (hv181 : v181 = (if v146 = v145 then (if (nar .boolean v32) = (if (own_F1 v1 (1 : Int32)) = (1 : Int32) then (1 : Int32) else (0 : Int32)) then (if (nar .boolean v43) = (if (own_F1 v1 (2 : Int32)) = (1 : Int32) then (1 : Int32) else (0 : Int32)) then (if (nar .boolean v54) = (if (own_F1 v1 (3 : Int32)) = (1 : Int32) then (1 : Int32) else (0 : Int32)) then (1 : Int32) else (0 : Int32)) else (0 : Int32)) else (0 : Int32)) else (0 : Int32))) (hv189 : v189 = (own_F5 (v1 ^^^ v3))) (hc111_63 : v9 = (0 : Int32)) (hc398_184 : ¬ (v181 = (0 : Int32))) (hc412_191 : v137 = (v189.toInt64)) : (nar .boolean (1 : Int32)) = (own_F0 p0 p1 p2) := by
  rw [own_nb1]
  subst hv1 hv3 hv9 hv16 hv21 hv27 hv32 hv38 hv43 hv49 hv54 hv67 hv70 hv74 hv77 hv81 hv84 hv88 hv91 hv95 hv98 hv102 hv105 hv109 hv112 hv116 hv119 hv132 hv137 hv140 hv145 hv146 hv181 hv189
  first
    | (simp only [own_F0, if_pos hc111_63, if_neg hc398_184, if_pos hc412_191]; done)
    | (exfalso; contradiction)
theorem own_e0_195 {p0 : Int32} {p1 : Int32} {p2 : Int32} {v1 : Int32} {v3 : Int32} {v9 : Int32} {v16 : Int32} {v21 : Int32} {v27 : Int32} {v32 : Int32} {v38 : Int32} {v43 : Int32} {v49 : Int32} {v54 : Int32} {v67 : List Int32} {v70 : Int32} {v74 : List Int32} {v77 : Int32} {v81 : List Int32} {v84 : Int32} {v88 : List Int32} {v91 : Int32} {v95 : List Int32} {v98 : Int32} {v102 : List Int32} {v105 : Int32} {v109 : List Int32} {v112 : Int32} {v116 : List Int32} {v119 : Int32} {v132 : Int32} {v137 : Int64} {v140 : Int32} {v145 : Int32} {v146 : Int32} {v181 : Int32} {v189 : Int32} (hv1 : v1 = (p0 &&& (15 : Int32))) (hv3 : v3 = (p1 &&& (15 : Int32))) (hv9 : v9 = (if (p2 &&& (1 : Int32)) = (0 : Int32) then (0 : Int32) else (1 : Int32))) (hv16 : v16 = (own_F1 v1 (0 : Int32))) (hv21 : v21 = (if v16 = (1 : Int32) then (1 : Int32) else (0 : Int32))) (hv27 : v27 = (own_F1 v1 (1 : Int32))) (hv32 : v32 = (if v27 = (1 : Int32) then (1 : Int32) else (0 : Int32))) (hv38 : v38 = (own_F1 v1 (2 : Int32))) (hv43 : v43 = (if v38 = (1 : Int32) then (1 : Int32) else (0 : Int32))) (hv49 : v49 = (own_F1 v1 (3 : Int32))) (hv54 : v54 = (if v49 = (1 : Int32) then (1 : Int32) else (0 : Int32))) (hv67 : v67 = (own_G2_0 (0 : Int32) v3 (0 : Int32) (1 : Int32) ([(0 : Int32), (0 : Int32), (0 : Int32), (0 : Int32)] : List Int32))) (hv70 : v70 = (own_F2 (0 : Int32) v3 (0 : Int32) (1 : Int32) ([(0 : Int32), (0 : Int32), (0 : Int32), (0 : Int32)] : List Int32))) (hv74 : v74 = (own_G2_0 v70 v3 (1 : Int32) (1 : Int32) v67)) (hv77 : v77 = (own_F2 v70 v3 (1 : Int32) (1 : Int32) v67)) (hv81 : v81 = (own_G2_0 v77 v3 (2 : Int32) (1 : Int32) v74)) (hv84 : v84 = (own_F2 v77 v3 (2 : Int32) (1 : Int32) v74)) (hv88 : v88 = (own_G2_0 v84 v3 (3 : Int32) (1 : Int32) v81)) (hv91 : v91 = (own_F2 v84 v3 (3 : Int32) (1 : Int32) v81)) (hv95 : v95 = (own_G2_0 v91 v3 (0 : Int32) (0 : Int32) v88)) (hv98 : v98 = (own_F2 v91 v3 (0 : Int32) (0 : Int32) v88)) (hv102 : v102 = (own_G2_0 v98 v3 (1 : Int32) (0 : Int32) v95)) (hv105 : v105 = (own_F2 v98 v3 (1 : Int32) (0 : Int32) v95)) (hv109 : v109 = (own_G2_0 v105 v3 (2 : Int32) (0 : Int32) v102)) (hv112 : v112 = (own_F2 v105 v3 (2 : Int32) (0 : Int32) v102)) (hv116 : v116 = (own_G2_0 v112 v3 (3 : Int32) (0 : Int32) v109)) (hv119 : v119 = (own_F2 v112 v3 (3 : Int32) (0 : Int32) v109)) (hv132 : v132 = (own_F5 v1)) (hv137 : v137 = (own_F6 (v132.toInt64) v91 ([(nar .boolean v21), (nar .boolean v32), (nar .boolean v43), (nar .boolean v54)] : List Int32) v116)) (hv140 : v140 = (own_F1 v1 (0 : Int32))) (hv145 : v145 = (if v140 = (1 : Int32) then (1 : Int32) else (0 : Int32))) (hv146 : v146 = (nar .boolean v21)) (hv181 : v181 = (if v146 = v145 then (if (nar .boolean v32) = (if (own_F1 v1 (1 : Int32)) = (1 : Int32) then (1 : Int32) else (0 : Int32)) then (if (nar .boolean v43) = (if (own_F1 v1 (2 : Int32)) = (1 : Int32) then (1 : Int32) else (0 : Int32)) then (if (nar .boolean v54) = (if (own_F1 v1 (3 : Int32)) = (1 : Int32) then (1 : Int32) else (0 : Int32)) then (1 : Int32) else (0 : Int32)) else (0 : Int32)) else (0 : Int32)) else (0 : Int32))) (hv189 : v189 = (own_F5 (v1 ^^^ v3))) (hc111_63 : v9 = (0 : Int32)) (hc398_184 : ¬ (v181 = (0 : Int32))) (hc412_191 : ¬ (v137 = (v189.toInt64))) : (nar .boolean (0 : Int32)) = (own_F0 p0 p1 p2) := by
  rw [own_nb0]
  subst hv1 hv3 hv9 hv16 hv21 hv27 hv32 hv38 hv43 hv49 hv54 hv67 hv70 hv74 hv77 hv81 hv84 hv88 hv91 hv95 hv98 hv102 hv105 hv109 hv112 hv116 hv119 hv132 hv137 hv140 hv145 hv146 hv181 hv189
  first
    | (simp only [own_F0, if_pos hc111_63, if_neg hc398_184, if_neg hc412_191]; done)
    | (exfalso; contradiction)
theorem own_e0_318 {p0 : Int32} {p1 : Int32} {p2 : Int32} {v1 : Int32} {v3 : Int32} {v9 : Int32} {v16 : Int32} {v21 : Int32} {v27 : Int32} {v32 : Int32} {v38 : Int32} {v43 : Int32} {v49 : Int32} {v54 : Int32} {v199 : List Int32} {v202 : Int32} {v206 : List Int32} {v209 : Int32} {v213 : List Int32} {v216 : Int32} {v220 : List Int32} {v223 : Int32} {v227 : List Int32} {v230 : Int32} {v234 : List Int32} {v237 : Int32} {v241 : List Int32} {v244 : Int32} {v248 : List Int32} {v251 : Int32} {v264 : Int32} {v269 : Int64} {v272 : Int32} {v277 : Int32} {v278 : Int32} {v313 : Int32} (hv1 : v1 = (p0 &&& (15 : Int32))) (hv3 : v3 = (p1 &&& (15 : Int32))) (hv9 : v9 = (if (p2 &&& (1 : Int32)) = (0 : Int32) then (0 : Int32) else (1 : Int32))) (hv16 : v16 = (own_F1 v1 (0 : Int32))) (hv21 : v21 = (if v16 = (1 : Int32) then (1 : Int32) else (0 : Int32))) (hv27 : v27 = (own_F1 v1 (1 : Int32))) (hv32 : v32 = (if v27 = (1 : Int32) then (1 : Int32) else (0 : Int32))) (hv38 : v38 = (own_F1 v1 (2 : Int32))) (hv43 : v43 = (if v38 = (1 : Int32) then (1 : Int32) else (0 : Int32))) (hv49 : v49 = (own_F1 v1 (3 : Int32))) (hv54 : v54 = (if v49 = (1 : Int32) then (1 : Int32) else (0 : Int32))) (hv199 : v199 = (own_G2_0 (0 : Int32) v3 (3 : Int32) (1 : Int32) ([(0 : Int32), (0 : Int32), (0 : Int32), (0 : Int32)] : List Int32))) (hv202 : v202 = (own_F2 (0 : Int32) v3 (3 : Int32) (1 : Int32) ([(0 : Int32), (0 : Int32), (0 : Int32), (0 : Int32)] : List Int32))) (hv206 : v206 = (own_G2_0 v202 v3 (2 : Int32) (1 : Int32) v199)) (hv209 : v209 = (own_F2 v202 v3 (2 : Int32) (1 : Int32) v199)) (hv213 : v213 = (own_G2_0 v209 v3 (1 : Int32) (1 : Int32) v206)) (hv216 : v216 = (own_F2 v209 v3 (1 : Int32) (1 : Int32) v206)) (hv220 : v220 = (own_G2_0 v216 v3 (0 : Int32) (1 : Int32) v213)) (hv223 : v223 = (own_F2 v216 v3 (0 : Int32) (1 : Int32) v213)) (hv227 : v227 = (own_G2_0 v223 v3 (0 : Int32) (0 : Int32) v220)) (hv230 : v230 = (own_F2 v223 v3 (0 : Int32) (0 : Int32) v220)) (hv234 : v234 = (own_G2_0 v230 v3 (1 : Int32) (0 : Int32) v227)) (hv237 : v237 = (own_F2 v230 v3 (1 : Int32) (0 : Int32) v227)) (hv241 : v241 = (own_G2_0 v237 v3 (2 : Int32) (0 : Int32) v234)) (hv244 : v244 = (own_F2 v237 v3 (2 : Int32) (0 : Int32) v234)) (hv248 : v248 = (own_G2_0 v244 v3 (3 : Int32) (0 : Int32) v241)) (hv251 : v251 = (own_F2 v244 v3 (3 : Int32) (0 : Int32) v241)) (hv264 : v264 = (own_F5 v1)) (hv269 : v269 = (own_F6 (v264.toInt64) v223 ([(nar .boolean v21), (nar .boolean v32), (nar .boolean v43), (nar .boolean v54)] : List Int32) v248)) (hv272 : v272 = (own_F1 v1 (0 : Int32))) (hv277 : v277 = (if v272 = (1 : Int32) then (1 : Int32) else (0 : Int32))) (hv278 : v278 = (nar .boolean v21)) (hv313 : v313 = (if v278 = v277 then (if (nar .boolean v32) = (if (own_F1 v1 (1 : Int32)) = (1 : Int32) then (1 : Int32) else (0 : Int32)) then (if (nar .boolean v43) = (if (own_F1 v1 (2 : Int32)) = (1 : Int32) then (1 : Int32) else (0 : Int32)) then (if (nar .boolean v54) = (if (own_F1 v1 (3 : Int32)) = (1 : Int32) then (1 : Int32) else (0 : Int32)) then (1 : Int32) else (0 : Int32)) else (0 : Int32)) else (0 : Int32)) else (0 : Int32))) (hc111_63 : ¬ (v9 = (0 : Int32))) (hc398_316 : v313 = (0 : Int32)) : (nar .boolean (0 : Int32)) = (own_F0 p0 p1 p2) := by
  rw [own_nb0]
  subst hv1 hv3 hv9 hv16 hv21 hv27 hv32 hv38 hv43 hv49 hv54 hv199 hv202 hv206 hv209 hv213 hv216 hv220 hv223 hv227 hv230 hv234 hv237 hv241 hv244 hv248 hv251 hv264 hv269 hv272 hv277 hv278 hv313
  first
    | (simp only [own_F0, if_neg hc111_63, if_pos hc398_316]; done)
    | (exfalso; contradiction)
theorem own_e0_325 {p0 : Int32} {p1 : Int32} {p2 : Int32} {v1 : Int32} {v3 : Int32} {v9 : Int32} {v16 : Int32} {v21 : Int32} {v27 : Int32} {v32 : Int32} {v38 : Int32} {v43 : Int32} {v49 : Int32} {v54 : Int32} {v199 : List Int32} {v202 : Int32} {v206 : List Int32} {v209 : Int32} {v213 : List Int32} {v216 : Int32} {v220 : List Int32} {v223 : Int32} {v227 : List Int32} {v230 : Int32} {v234 : List Int32} {v237 : Int32} {v241 : List Int32} {v244 : Int32} {v248 : List Int32} {v251 : Int32} {v264 : Int32} {v269 : Int64} {v272 : Int32} {v277 : Int32} {v278 : Int32} {v313 : Int32} {v321 : Int32} (hv1 : v1 = (p0 &&& (15 : Int32))) (hv3 : v3 = (p1 &&& (15 : Int32))) (hv9 : v9 = (if (p2 &&& (1 : Int32)) = (0 : Int32) then (0 : Int32) else (1 : Int32))) (hv16 : v16 = (own_F1 v1 (0 : Int32))) (hv21 : v21 = (if v16 = (1 : Int32) then (1 : Int32) else (0 : Int32))) (hv27 : v27 = (own_F1 v1 (1 : Int32))) (hv32 : v32 = (if v27 = (1 : Int32) then (1 : Int32) else (0 : Int32))) (hv38 : v38 = (own_F1 v1 (2 : Int32))) (hv43 : v43 = (if v38 = (1 : Int32) then (1 : Int32) else (0 : Int32))) (hv49 : v49 = (own_F1 v1 (3 : Int32))) (hv54 : v54 = (if v49 = (1 : Int32) then (1 : Int32) else (0 : Int32))) (hv199 : v199 = (own_G2_0 (0 : Int32) v3 (3 : Int32) (1 : Int32) ([(0 : Int32), (0 : Int32), (0 : Int32), (0 : Int32)] : List Int32))) (hv202 : v202 = (own_F2 (0 : Int32) v3 (3 : Int32) (1 : Int32) ([(0 : Int32), (0 : Int32), (0 : Int32), (0 : Int32)] : List Int32))) (hv206 : v206 = (own_G2_0 v202 v3 (2 : Int32) (1 : Int32) v199)) (hv209 : v209 = (own_F2 v202 v3 (2 : Int32) (1 : Int32) v199)) (hv213 : v213 = (own_G2_0 v209 v3 (1 : Int32) (1 : Int32) v206)) (hv216 : v216 = (own_F2 v209 v3 (1 : Int32) (1 : Int32) v206)) (hv220 : v220 = (own_G2_0 v216 v3 (0 : Int32) (1 : Int32) v213)) (hv223 : v223 = (own_F2 v216 v3 (0 : Int32) (1 : Int32) v213)) (hv227 : v227 = (own_G2_0 v223 v3 (0 : Int32) (0 : Int32) v220)) (hv230 : v230 = (own_F2 v223 v3 (0 : Int32) (0 : Int32) v220)) (hv234 : v234 = (own_G2_0 v230 v3 (1 : Int32) (0 : Int32) v227)) (hv237 : v237 = (own_F2 v230 v3 (1 : Int32) (0 : Int32) v227)) (hv241 : v241 = (own_G2_0 v237 v3 (2 : Int32) (0 : Int32) v234)) (hv244 : v244 = (own_F2 v237 v3 (2 : Int32) (0 : Int32) v234)) (hv248 : v248 = (own_G2_0 v244 v3 (3 : Int32) (0 : Int32) v241)) (hv251 : v251 = (own_F2 v244 v3 (3 : Int32) (0 : Int32) v241)) (hv264 : v264 = (own_F5 v1)) (hv269 : v269 = (own_F6 (v264.toInt64) v223 ([(nar .boolean v21), (nar .boolean v32), (nar .boolean v43), (nar .boolean v54)] : List Int32) v248)) (hv272 : v272 = (own_F1 v1 (0 : Int32))) (hv277 : v277 = (if v272 = (1 : Int32) then (1 : Int32) else (0 : Int32))) (hv278 : v278 = (nar .boolean v21)) (hv313 : v313 = (if v278 = v277 then (if (nar .boolean v32) = (if (own_F1 v1 (1 : Int32)) = (1 : Int32) then (1 : Int32) else (0 : Int32)) then (if (nar .boolean v43) = (if (own_F1 v1 (2 : Int32)) = (1 : Int32) then (1 : Int32) else (0 : Int32)) then (if (nar .boolean v54) = (if (own_F1 v1 (3 : Int32)) = (1 : Int32) then (1 : Int32) else (0 : Int32)) then (1 : Int32) else (0 : Int32)) else (0 : Int32)) else (0 : Int32)) else (0 : Int32))) (hv321 : v321 = (own_F5 (v1 ^^^ v3))) (hc111_63 : ¬ (v9 = (0 : Int32))) (hc398_316 : ¬ (v313 = (0 : Int32))) (hc412_323 : v269 = (v321.toInt64)) : (nar .boolean (1 : Int32)) = (own_F0 p0 p1 p2) := by
  rw [own_nb1]
  subst hv1 hv3 hv9 hv16 hv21 hv27 hv32 hv38 hv43 hv49 hv54 hv199 hv202 hv206 hv209 hv213 hv216 hv220 hv223 hv227 hv230 hv234 hv237 hv241 hv244 hv248 hv251 hv264 hv269 hv272 hv277 hv278 hv313 hv321
  first
    | (simp only [own_F0, if_neg hc111_63, if_neg hc398_316, if_pos hc412_323]; done)
    | (exfalso; contradiction)
theorem own_e0_327 {p0 : Int32} {p1 : Int32} {p2 : Int32} {v1 : Int32} {v3 : Int32} {v9 : Int32} {v16 : Int32} {v21 : Int32} {v27 : Int32} {v32 : Int32} {v38 : Int32} {v43 : Int32} {v49 : Int32} {v54 : Int32} {v199 : List Int32} {v202 : Int32} {v206 : List Int32} {v209 : Int32} {v213 : List Int32} {v216 : Int32} {v220 : List Int32} {v223 : Int32} {v227 : List Int32} {v230 : Int32} {v234 : List Int32} {v237 : Int32} {v241 : List Int32} {v244 : Int32} {v248 : List Int32} {v251 : Int32} {v264 : Int32} {v269 : Int64} {v272 : Int32} {v277 : Int32} {v278 : Int32} {v313 : Int32} {v321 : Int32} (hv1 : v1 = (p0 &&& (15 : Int32))) (hv3 : v3 = (p1 &&& (15 : Int32))) (hv9 : v9 = (if (p2 &&& (1 : Int32)) = (0 : Int32) then (0 : Int32) else (1 : Int32))) (hv16 : v16 = (own_F1 v1 (0 : Int32))) (hv21 : v21 = (if v16 = (1 : Int32) then (1 : Int32) else (0 : Int32))) (hv27 : v27 = (own_F1 v1 (1 : Int32))) (hv32 : v32 = (if v27 = (1 : Int32) then (1 : Int32) else (0 : Int32))) (hv38 : v38 = (own_F1 v1 (2 : Int32))) (hv43 : v43 = (if v38 = (1 : Int32) then (1 : Int32) else (0 : Int32))) (hv49 : v49 = (own_F1 v1 (3 : Int32))) (hv54 : v54 = (if v49 = (1 : Int32) then (1 : Int32) else (0 : Int32))) (hv199 : v199 = (own_G2_0 (0 : Int32) v3 (3 : Int32) (1 : Int32) ([(0 : Int32), (0 : Int32), (0 : Int32), (0 : Int32)] : List Int32))) (hv202 : v202 = (own_F2 (0 : Int32) v3 (3 : Int32) (1 : Int32) ([(0 : Int32), (0 : Int32), (0 : Int32), (0 : Int32)] : List Int32))) (hv206 : v206 = (own_G2_0 v202 v3 (2 : Int32) (1 : Int32) v199)) (hv209 : v209 = (own_F2 v202 v3 (2 : Int32) (1 : Int32) v199)) (hv213 : v213 = (own_G2_0 v209 v3 (1 : Int32) (1 : Int32) v206)) (hv216 : v216 = (own_F2 v209 v3 (1 : Int32) (1 : Int32) v206)) (hv220 : v220 = (own_G2_0 v216 v3 (0 : Int32) (1 : Int32) v213)) (hv223 : v223 = (own_F2 v216 v3 (0 : Int32) (1 : Int32) v213)) (hv227 : v227 = (own_G2_0 v223 v3 (0 : Int32) (0 : Int32) v220)) (hv230 : v230 = (own_F2 v223 v3 (0 : Int32) (0 : Int32) v220)) (hv234 : v234 = (own_G2_0 v230 v3 (1 : Int32) (0 : Int32) v227)) (hv237 : v237 = (own_F2 v230 v3 (1 : Int32) (0 : Int32) v227)) (hv241 : v241 = (own_G2_0 v237 v3 (2 : Int32) (0 : Int32) v234)) (hv244 : v244 = (own_F2 v237 v3 (2 : Int32) (0 : Int32) v234)) (hv248 : v248 = (own_G2_0 v244 v3 (3 : Int32) (0 : Int32) v241)) (hv251 : v251 = (own_F2 v244 v3 (3 : Int32) (0 : Int32) v241)) (hv264 : v264 = (own_F5 v1)) (hv269 : v269 = (own_F6 (v264.toInt64) v223 ([(nar .boolean v21), (nar .boolean v32), (nar .boolean v43), (nar .boolean v54)] : List Int32) v248)) (hv272 : v272 = (own_F1 v1 (0 : Int32))) (hv277 : v277 = (if v272 = (1 : Int32) then (1 : Int32) else (0 : Int32))) (hv278 : v278 = (nar .boolean v21)) (hv313 : v313 = (if v278 = v277 then (if (nar .boolean v32) = (if (own_F1 v1 (1 : Int32)) = (1 : Int32) then (1 : Int32) else (0 : Int32)) then (if (nar .boolean v43) = (if (own_F1 v1 (2 : Int32)) = (1 : Int32) then (1 : Int32) else (0 : Int32)) then (if (nar .boolean v54) = (if (own_F1 v1 (3 : Int32)) = (1 : Int32) then (1 : Int32) else (0 : Int32)) then (1 : Int32) else (0 : Int32)) else (0 : Int32)) else (0 : Int32)) else (0 : Int32))) (hv321 : v321 = (own_F5 (v1 ^^^ v3))) (hc111_63 : ¬ (v9 = (0 : Int32))) (hc398_316 : ¬ (v313 = (0 : Int32))) (hc412_323 : ¬ (v269 = (v321.toInt64))) : (nar .boolean (0 : Int32)) = (own_F0 p0 p1 p2) := by
  rw [own_nb0]
  subst hv1 hv3 hv9 hv16 hv21 hv27 hv32 hv38 hv43 hv49 hv54 hv199 hv202 hv206 hv209 hv213 hv216 hv220 hv223 hv227 hv230 hv234 hv237 hv241 hv244 hv248 hv251 hv264 hv269 hv272 hv277 hv278 hv313 hv321
  first
    | (simp only [own_F0, if_neg hc111_63, if_neg hc398_316, if_neg hc412_323]; done)
    | (exfalso; contradiction)
theorem own_h0_66 {p0 : Int32} {p1 : Int32} {p2 : Int32} {v1 : Int32} {v3 : Int32} {v9 : Int32} {v16 : Int32} {v21 : Int32} {v27 : Int32} {v32 : Int32} {v38 : Int32} {v43 : Int32} {v49 : Int32} {v54 : Int32} (hv1 : v1 = (p0 &&& (15 : Int32))) (hv3 : v3 = (p1 &&& (15 : Int32))) (hv9 : v9 = (if (p2 &&& (1 : Int32)) = (0 : Int32) then (0 : Int32) else (1 : Int32))) (hv16 : v16 = (own_F1 v1 (0 : Int32))) (hv21 : v21 = (if v16 = (1 : Int32) then (1 : Int32) else (0 : Int32))) (hv27 : v27 = (own_F1 v1 (1 : Int32))) (hv32 : v32 = (if v27 = (1 : Int32) then (1 : Int32) else (0 : Int32))) (hv38 : v38 = (own_F1 v1 (2 : Int32))) (hv43 : v43 = (if v38 = (1 : Int32) then (1 : Int32) else (0 : Int32))) (hv49 : v49 = (own_F1 v1 (3 : Int32))) (hv54 : v54 = (if v49 = (1 : Int32) then (1 : Int32) else (0 : Int32))) (hc111_63 : v9 = (0 : Int32)) : own_F1 v3 (0 : Int32) = (1 : Int32) → 0 ≤ (0 : Int32).toInt ∧ (0 : Int32).toInt < (([(0 : Int32), (0 : Int32), (0 : Int32), (0 : Int32)] : List Int32).length : Int) := by
  subst hv1 hv9 hv16 hv21 hv27 hv32 hv38 hv43 hv49 hv54
  have hb := own_m15 hv3
  clear hv3
  revert v3
  intro v3 hb
  apply own_all16 v3 hb
  decide +kernel
theorem own_h0_73 {p0 : Int32} {p1 : Int32} {p2 : Int32} {v1 : Int32} {v3 : Int32} {v9 : Int32} {v16 : Int32} {v21 : Int32} {v27 : Int32} {v32 : Int32} {v38 : Int32} {v43 : Int32} {v49 : Int32} {v54 : Int32} {v67 : List Int32} {v70 : Int32} (hv1 : v1 = (p0 &&& (15 : Int32))) (hv3 : v3 = (p1 &&& (15 : Int32))) (hv9 : v9 = (if (p2 &&& (1 : Int32)) = (0 : Int32) then (0 : Int32) else (1 : Int32))) (hv16 : v16 = (own_F1 v1 (0 : Int32))) (hv21 : v21 = (if v16 = (1 : Int32) then (1 : Int32) else (0 : Int32))) (hv27 : v27 = (own_F1 v1 (1 : Int32))) (hv32 : v32 = (if v27 = (1 : Int32) then (1 : Int32) else (0 : Int32))) (hv38 : v38 = (own_F1 v1 (2 : Int32))) (hv43 : v43 = (if v38 = (1 : Int32) then (1 : Int32) else (0 : Int32))) (hv49 : v49 = (own_F1 v1 (3 : Int32))) (hv54 : v54 = (if v49 = (1 : Int32) then (1 : Int32) else (0 : Int32))) (hv67 : v67 = (own_G2_0 (0 : Int32) v3 (0 : Int32) (1 : Int32) ([(0 : Int32), (0 : Int32), (0 : Int32), (0 : Int32)] : List Int32))) (hv70 : v70 = (own_F2 (0 : Int32) v3 (0 : Int32) (1 : Int32) ([(0 : Int32), (0 : Int32), (0 : Int32), (0 : Int32)] : List Int32))) (hc111_63 : v9 = (0 : Int32)) : own_F1 v3 (1 : Int32) = (1 : Int32) → 0 ≤ v70.toInt ∧ v70.toInt < (v67.length : Int) := by
  subst hv1 hv9 hv16 hv21 hv27 hv32 hv38 hv43 hv49 hv54 hv67 hv70
  have hb := own_m15 hv3
  clear hv3
  revert v3
  intro v3 hb
  apply own_all16 v3 hb
  decide +kernel
theorem own_h0_80 {p0 : Int32} {p1 : Int32} {p2 : Int32} {v1 : Int32} {v3 : Int32} {v9 : Int32} {v16 : Int32} {v21 : Int32} {v27 : Int32} {v32 : Int32} {v38 : Int32} {v43 : Int32} {v49 : Int32} {v54 : Int32} {v67 : List Int32} {v70 : Int32} {v74 : List Int32} {v77 : Int32} (hv1 : v1 = (p0 &&& (15 : Int32))) (hv3 : v3 = (p1 &&& (15 : Int32))) (hv9 : v9 = (if (p2 &&& (1 : Int32)) = (0 : Int32) then (0 : Int32) else (1 : Int32))) (hv16 : v16 = (own_F1 v1 (0 : Int32))) (hv21 : v21 = (if v16 = (1 : Int32) then (1 : Int32) else (0 : Int32))) (hv27 : v27 = (own_F1 v1 (1 : Int32))) (hv32 : v32 = (if v27 = (1 : Int32) then (1 : Int32) else (0 : Int32))) (hv38 : v38 = (own_F1 v1 (2 : Int32))) (hv43 : v43 = (if v38 = (1 : Int32) then (1 : Int32) else (0 : Int32))) (hv49 : v49 = (own_F1 v1 (3 : Int32))) (hv54 : v54 = (if v49 = (1 : Int32) then (1 : Int32) else (0 : Int32))) (hv67 : v67 = (own_G2_0 (0 : Int32) v3 (0 : Int32) (1 : Int32) ([(0 : Int32), (0 : Int32), (0 : Int32), (0 : Int32)] : List Int32))) (hv70 : v70 = (own_F2 (0 : Int32) v3 (0 : Int32) (1 : Int32) ([(0 : Int32), (0 : Int32), (0 : Int32), (0 : Int32)] : List Int32))) (hv74 : v74 = (own_G2_0 v70 v3 (1 : Int32) (1 : Int32) v67)) (hv77 : v77 = (own_F2 v70 v3 (1 : Int32) (1 : Int32) v67)) (hc111_63 : v9 = (0 : Int32)) : own_F1 v3 (2 : Int32) = (1 : Int32) → 0 ≤ v77.toInt ∧ v77.toInt < (v74.length : Int) := by
  subst hv1 hv9 hv16 hv21 hv27 hv32 hv38 hv43 hv49 hv54 hv67 hv70 hv74 hv77
  have hb := own_m15 hv3
  clear hv3
  revert v3
  intro v3 hb
  apply own_all16 v3 hb
  decide +kernel
theorem own_h0_87 {p0 : Int32} {p1 : Int32} {p2 : Int32} {v1 : Int32} {v3 : Int32} {v9 : Int32} {v16 : Int32} {v21 : Int32} {v27 : Int32} {v32 : Int32} {v38 : Int32} {v43 : Int32} {v49 : Int32} {v54 : Int32} {v67 : List Int32} {v70 : Int32} {v74 : List Int32} {v77 : Int32} {v81 : List Int32} {v84 : Int32} (hv1 : v1 = (p0 &&& (15 : Int32))) (hv3 : v3 = (p1 &&& (15 : Int32))) (hv9 : v9 = (if (p2 &&& (1 : Int32)) = (0 : Int32) then (0 : Int32) else (1 : Int32))) (hv16 : v16 = (own_F1 v1 (0 : Int32))) (hv21 : v21 = (if v16 = (1 : Int32) then (1 : Int32) else (0 : Int32))) (hv27 : v27 = (own_F1 v1 (1 : Int32))) (hv32 : v32 = (if v27 = (1 : Int32) then (1 : Int32) else (0 : Int32))) (hv38 : v38 = (own_F1 v1 (2 : Int32))) (hv43 : v43 = (if v38 = (1 : Int32) then (1 : Int32) else (0 : Int32))) (hv49 : v49 = (own_F1 v1 (3 : Int32))) (hv54 : v54 = (if v49 = (1 : Int32) then (1 : Int32) else (0 : Int32))) (hv67 : v67 = (own_G2_0 (0 : Int32) v3 (0 : Int32) (1 : Int32) ([(0 : Int32), (0 : Int32), (0 : Int32), (0 : Int32)] : List Int32))) (hv70 : v70 = (own_F2 (0 : Int32) v3 (0 : Int32) (1 : Int32) ([(0 : Int32), (0 : Int32), (0 : Int32), (0 : Int32)] : List Int32))) (hv74 : v74 = (own_G2_0 v70 v3 (1 : Int32) (1 : Int32) v67)) (hv77 : v77 = (own_F2 v70 v3 (1 : Int32) (1 : Int32) v67)) (hv81 : v81 = (own_G2_0 v77 v3 (2 : Int32) (1 : Int32) v74)) (hv84 : v84 = (own_F2 v77 v3 (2 : Int32) (1 : Int32) v74)) (hc111_63 : v9 = (0 : Int32)) : own_F1 v3 (3 : Int32) = (1 : Int32) → 0 ≤ v84.toInt ∧ v84.toInt < (v81.length : Int) := by
  subst hv1 hv9 hv16 hv21 hv27 hv32 hv38 hv43 hv49 hv54 hv67 hv70 hv74 hv77 hv81 hv84
  have hb := own_m15 hv3
  clear hv3
  revert v3
  intro v3 hb
  apply own_all16 v3 hb
  decide +kernel
theorem own_h0_94 {p0 : Int32} {p1 : Int32} {p2 : Int32} {v1 : Int32} {v3 : Int32} {v9 : Int32} {v16 : Int32} {v21 : Int32} {v27 : Int32} {v32 : Int32} {v38 : Int32} {v43 : Int32} {v49 : Int32} {v54 : Int32} {v67 : List Int32} {v70 : Int32} {v74 : List Int32} {v77 : Int32} {v81 : List Int32} {v84 : Int32} {v88 : List Int32} {v91 : Int32} (hv1 : v1 = (p0 &&& (15 : Int32))) (hv3 : v3 = (p1 &&& (15 : Int32))) (hv9 : v9 = (if (p2 &&& (1 : Int32)) = (0 : Int32) then (0 : Int32) else (1 : Int32))) (hv16 : v16 = (own_F1 v1 (0 : Int32))) (hv21 : v21 = (if v16 = (1 : Int32) then (1 : Int32) else (0 : Int32))) (hv27 : v27 = (own_F1 v1 (1 : Int32))) (hv32 : v32 = (if v27 = (1 : Int32) then (1 : Int32) else (0 : Int32))) (hv38 : v38 = (own_F1 v1 (2 : Int32))) (hv43 : v43 = (if v38 = (1 : Int32) then (1 : Int32) else (0 : Int32))) (hv49 : v49 = (own_F1 v1 (3 : Int32))) (hv54 : v54 = (if v49 = (1 : Int32) then (1 : Int32) else (0 : Int32))) (hv67 : v67 = (own_G2_0 (0 : Int32) v3 (0 : Int32) (1 : Int32) ([(0 : Int32), (0 : Int32), (0 : Int32), (0 : Int32)] : List Int32))) (hv70 : v70 = (own_F2 (0 : Int32) v3 (0 : Int32) (1 : Int32) ([(0 : Int32), (0 : Int32), (0 : Int32), (0 : Int32)] : List Int32))) (hv74 : v74 = (own_G2_0 v70 v3 (1 : Int32) (1 : Int32) v67)) (hv77 : v77 = (own_F2 v70 v3 (1 : Int32) (1 : Int32) v67)) (hv81 : v81 = (own_G2_0 v77 v3 (2 : Int32) (1 : Int32) v74)) (hv84 : v84 = (own_F2 v77 v3 (2 : Int32) (1 : Int32) v74)) (hv88 : v88 = (own_G2_0 v84 v3 (3 : Int32) (1 : Int32) v81)) (hv91 : v91 = (own_F2 v84 v3 (3 : Int32) (1 : Int32) v81)) (hc111_63 : v9 = (0 : Int32)) : own_F1 v3 (0 : Int32) = (0 : Int32) → 0 ≤ v91.toInt ∧ v91.toInt < (v88.length : Int) := by
  subst hv1 hv9 hv16 hv21 hv27 hv32 hv38 hv43 hv49 hv54 hv67 hv70 hv74 hv77 hv81 hv84 hv88 hv91
  have hb := own_m15 hv3
  clear hv3
  revert v3
  intro v3 hb
  apply own_all16 v3 hb
  decide +kernel
theorem own_h0_101 {p0 : Int32} {p1 : Int32} {p2 : Int32} {v1 : Int32} {v3 : Int32} {v9 : Int32} {v16 : Int32} {v21 : Int32} {v27 : Int32} {v32 : Int32} {v38 : Int32} {v43 : Int32} {v49 : Int32} {v54 : Int32} {v67 : List Int32} {v70 : Int32} {v74 : List Int32} {v77 : Int32} {v81 : List Int32} {v84 : Int32} {v88 : List Int32} {v91 : Int32} {v95 : List Int32} {v98 : Int32} (hv1 : v1 = (p0 &&& (15 : Int32))) (hv3 : v3 = (p1 &&& (15 : Int32))) (hv9 : v9 = (if (p2 &&& (1 : Int32)) = (0 : Int32) then (0 : Int32) else (1 : Int32))) (hv16 : v16 = (own_F1 v1 (0 : Int32))) (hv21 : v21 = (if v16 = (1 : Int32) then (1 : Int32) else (0 : Int32))) (hv27 : v27 = (own_F1 v1 (1 : Int32))) (hv32 : v32 = (if v27 = (1 : Int32) then (1 : Int32) else (0 : Int32))) (hv38 : v38 = (own_F1 v1 (2 : Int32))) (hv43 : v43 = (if v38 = (1 : Int32) then (1 : Int32) else (0 : Int32))) (hv49 : v49 = (own_F1 v1 (3 : Int32))) (hv54 : v54 = (if v49 = (1 : Int32) then (1 : Int32) else (0 : Int32))) (hv67 : v67 = (own_G2_0 (0 : Int32) v3 (0 : Int32) (1 : Int32) ([(0 : Int32), (0 : Int32), (0 : Int32), (0 : Int32)] : List Int32))) (hv70 : v70 = (own_F2 (0 : Int32) v3 (0 : Int32) (1 : Int32) ([(0 : Int32), (0 : Int32), (0 : Int32), (0 : Int32)] : List Int32))) (hv74 : v74 = (own_G2_0 v70 v3 (1 : Int32) (1 : Int32) v67)) (hv77 : v77 = (own_F2 v70 v3 (1 : Int32) (1 : Int32) v67)) (hv81 : v81 = (own_G2_0 v77 v3 (2 : Int32) (1 : Int32) v74)) (hv84 : v84 = (own_F2 v77 v3 (2 : Int32) (1 : Int32) v74)) (hv88 : v88 = (own_G2_0 v84 v3 (3 : Int32) (1 : Int32) v81)) (hv91 : v91 = (own_F2 v84 v3 (3 : Int32) (1 : Int32) v81)) (hv95 : v95 = (own_G2_0 v91 v3 (0 : Int32) (0 : Int32) v88)) (hv98 : v98 = (own_F2 v91 v3 (0 : Int32) (0 : Int32) v88)) (hc111_63 : v9 = (0 : Int32)) : own_F1 v3 (1 : Int32) = (0 : Int32) → 0 ≤ v98.toInt ∧ v98.toInt < (v95.length : Int) := by
  subst hv1 hv9 hv16 hv21 hv27 hv32 hv38 hv43 hv49 hv54 hv67 hv70 hv74 hv77 hv81 hv84 hv88 hv91 hv95 hv98
  have hb := own_m15 hv3
  clear hv3
  revert v3
  intro v3 hb
  apply own_all16 v3 hb
  decide +kernel
theorem own_h0_108 {p0 : Int32} {p1 : Int32} {p2 : Int32} {v1 : Int32} {v3 : Int32} {v9 : Int32} {v16 : Int32} {v21 : Int32} {v27 : Int32} {v32 : Int32} {v38 : Int32} {v43 : Int32} {v49 : Int32} {v54 : Int32} {v67 : List Int32} {v70 : Int32} {v74 : List Int32} {v77 : Int32} {v81 : List Int32} {v84 : Int32} {v88 : List Int32} {v91 : Int32} {v95 : List Int32} {v98 : Int32} {v102 : List Int32} {v105 : Int32} (hv1 : v1 = (p0 &&& (15 : Int32))) (hv3 : v3 = (p1 &&& (15 : Int32))) (hv9 : v9 = (if (p2 &&& (1 : Int32)) = (0 : Int32) then (0 : Int32) else (1 : Int32))) (hv16 : v16 = (own_F1 v1 (0 : Int32))) (hv21 : v21 = (if v16 = (1 : Int32) then (1 : Int32) else (0 : Int32))) (hv27 : v27 = (own_F1 v1 (1 : Int32))) (hv32 : v32 = (if v27 = (1 : Int32) then (1 : Int32) else (0 : Int32))) (hv38 : v38 = (own_F1 v1 (2 : Int32))) (hv43 : v43 = (if v38 = (1 : Int32) then (1 : Int32) else (0 : Int32))) (hv49 : v49 = (own_F1 v1 (3 : Int32))) (hv54 : v54 = (if v49 = (1 : Int32) then (1 : Int32) else (0 : Int32))) (hv67 : v67 = (own_G2_0 (0 : Int32) v3 (0 : Int32) (1 : Int32) ([(0 : Int32), (0 : Int32), (0 : Int32), (0 : Int32)] : List Int32))) (hv70 : v70 = (own_F2 (0 : Int32) v3 (0 : Int32) (1 : Int32) ([(0 : Int32), (0 : Int32), (0 : Int32), (0 : Int32)] : List Int32))) (hv74 : v74 = (own_G2_0 v70 v3 (1 : Int32) (1 : Int32) v67)) (hv77 : v77 = (own_F2 v70 v3 (1 : Int32) (1 : Int32) v67)) (hv81 : v81 = (own_G2_0 v77 v3 (2 : Int32) (1 : Int32) v74)) (hv84 : v84 = (own_F2 v77 v3 (2 : Int32) (1 : Int32) v74)) (hv88 : v88 = (own_G2_0 v84 v3 (3 : Int32) (1 : Int32) v81)) (hv91 : v91 = (own_F2 v84 v3 (3 : Int32) (1 : Int32) v81)) (hv95 : v95 = (own_G2_0 v91 v3 (0 : Int32) (0 : Int32) v88)) (hv98 : v98 = (own_F2 v91 v3 (0 : Int32) (0 : Int32) v88)) (hv102 : v102 = (own_G2_0 v98 v3 (1 : Int32) (0 : Int32) v95)) (hv105 : v105 = (own_F2 v98 v3 (1 : Int32) (0 : Int32) v95)) (hc111_63 : v9 = (0 : Int32)) : own_F1 v3 (2 : Int32) = (0 : Int32) → 0 ≤ v105.toInt ∧ v105.toInt < (v102.length : Int) := by
  subst hv1 hv9 hv16 hv21 hv27 hv32 hv38 hv43 hv49 hv54 hv67 hv70 hv74 hv77 hv81 hv84 hv88 hv91 hv95 hv98 hv102 hv105
  have hb := own_m15 hv3
  clear hv3
  revert v3
  intro v3 hb
  apply own_all16 v3 hb
  decide +kernel
theorem own_h0_115 {p0 : Int32} {p1 : Int32} {p2 : Int32} {v1 : Int32} {v3 : Int32} {v9 : Int32} {v16 : Int32} {v21 : Int32} {v27 : Int32} {v32 : Int32} {v38 : Int32} {v43 : Int32} {v49 : Int32} {v54 : Int32} {v67 : List Int32} {v70 : Int32} {v74 : List Int32} {v77 : Int32} {v81 : List Int32} {v84 : Int32} {v88 : List Int32} {v91 : Int32} {v95 : List Int32} {v98 : Int32} {v102 : List Int32} {v105 : Int32} {v109 : List Int32} {v112 : Int32} (hv1 : v1 = (p0 &&& (15 : Int32))) (hv3 : v3 = (p1 &&& (15 : Int32))) (hv9 : v9 = (if (p2 &&& (1 : Int32)) = (0 : Int32) then (0 : Int32) else (1 : Int32))) (hv16 : v16 = (own_F1 v1 (0 : Int32))) (hv21 : v21 = (if v16 = (1 : Int32) then (1 : Int32) else (0 : Int32))) (hv27 : v27 = (own_F1 v1 (1 : Int32))) (hv32 : v32 = (if v27 = (1 : Int32) then (1 : Int32) else (0 : Int32))) (hv38 : v38 = (own_F1 v1 (2 : Int32))) (hv43 : v43 = (if v38 = (1 : Int32) then (1 : Int32) else (0 : Int32))) (hv49 : v49 = (own_F1 v1 (3 : Int32))) (hv54 : v54 = (if v49 = (1 : Int32) then (1 : Int32) else (0 : Int32))) (hv67 : v67 = (own_G2_0 (0 : Int32) v3 (0 : Int32) (1 : Int32) ([(0 : Int32), (0 : Int32), (0 : Int32), (0 : Int32)] : List Int32))) (hv70 : v70 = (own_F2 (0 : Int32) v3 (0 : Int32) (1 : Int32) ([(0 : Int32), (0 : Int32), (0 : Int32), (0 : Int32)] : List Int32))) (hv74 : v74 = (own_G2_0 v70 v3 (1 : Int32) (1 : Int32) v67)) (hv77 : v77 = (own_F2 v70 v3 (1 : Int32) (1 : Int32) v67)) (hv81 : v81 = (own_G2_0 v77 v3 (2 : Int32) (1 : Int32) v74)) (hv84 : v84 = (own_F2 v77 v3 (2 : Int32) (1 : Int32) v74)) (hv88 : v88 = (own_G2_0 v84 v3 (3 : Int32) (1 : Int32) v81)) (hv91 : v91 = (own_F2 v84 v3 (3 : Int32) (1 : Int32) v81)) (hv95 : v95 = (own_G2_0 v91 v3 (0 : Int32) (0 : Int32) v88)) (hv98 : v98 = (own_F2 v91 v3 (0 : Int32) (0 : Int32) v88)) (hv102 : v102 = (own_G2_0 v98 v3 (1 : Int32) (0 : Int32) v95)) (hv105 : v105 = (own_F2 v98 v3 (1 : Int32) (0 : Int32) v95)) (hv109 : v109 = (own_G2_0 v105 v3 (2 : Int32) (0 : Int32) v102)) (hv112 : v112 = (own_F2 v105 v3 (2 : Int32) (0 : Int32) v102)) (hc111_63 : v9 = (0 : Int32)) : own_F1 v3 (3 : Int32) = (0 : Int32) → 0 ≤ v112.toInt ∧ v112.toInt < (v109.length : Int) := by
  subst hv1 hv9 hv16 hv21 hv27 hv32 hv38 hv43 hv49 hv54 hv67 hv70 hv74 hv77 hv81 hv84 hv88 hv91 hv95 hv98 hv102 hv105 hv109 hv112
  have hb := own_m15 hv3
  clear hv3
  revert v3
  intro v3 hb
  apply own_all16 v3 hb
  decide +kernel
theorem own_h0_135 {p0 : Int32} {p1 : Int32} {p2 : Int32} {v1 : Int32} {v3 : Int32} {v9 : Int32} {v16 : Int32} {v21 : Int32} {v27 : Int32} {v32 : Int32} {v38 : Int32} {v43 : Int32} {v49 : Int32} {v54 : Int32} {v67 : List Int32} {v70 : Int32} {v74 : List Int32} {v77 : Int32} {v81 : List Int32} {v84 : Int32} {v88 : List Int32} {v91 : Int32} {v95 : List Int32} {v98 : Int32} {v102 : List Int32} {v105 : Int32} {v109 : List Int32} {v112 : Int32} {v116 : List Int32} {v119 : Int32} {v132 : Int32} (hv1 : v1 = (p0 &&& (15 : Int32))) (hv3 : v3 = (p1 &&& (15 : Int32))) (hv9 : v9 = (if (p2 &&& (1 : Int32)) = (0 : Int32) then (0 : Int32) else (1 : Int32))) (hv16 : v16 = (own_F1 v1 (0 : Int32))) (hv21 : v21 = (if v16 = (1 : Int32) then (1 : Int32) else (0 : Int32))) (hv27 : v27 = (own_F1 v1 (1 : Int32))) (hv32 : v32 = (if v27 = (1 : Int32) then (1 : Int32) else (0 : Int32))) (hv38 : v38 = (own_F1 v1 (2 : Int32))) (hv43 : v43 = (if v38 = (1 : Int32) then (1 : Int32) else (0 : Int32))) (hv49 : v49 = (own_F1 v1 (3 : Int32))) (hv54 : v54 = (if v49 = (1 : Int32) then (1 : Int32) else (0 : Int32))) (hv67 : v67 = (own_G2_0 (0 : Int32) v3 (0 : Int32) (1 : Int32) ([(0 : Int32), (0 : Int32), (0 : Int32), (0 : Int32)] : List Int32))) (hv70 : v70 = (own_F2 (0 : Int32) v3 (0 : Int32) (1 : Int32) ([(0 : Int32), (0 : Int32), (0 : Int32), (0 : Int32)] : List Int32))) (hv74 : v74 = (own_G2_0 v70 v3 (1 : Int32) (1 : Int32) v67)) (hv77 : v77 = (own_F2 v70 v3 (1 : Int32) (1 : Int32) v67)) (hv81 : v81 = (own_G2_0 v77 v3 (2 : Int32) (1 : Int32) v74)) (hv84 : v84 = (own_F2 v77 v3 (2 : Int32) (1 : Int32) v74)) (hv88 : v88 = (own_G2_0 v84 v3 (3 : Int32) (1 : Int32) v81)) (hv91 : v91 = (own_F2 v84 v3 (3 : Int32) (1 : Int32) v81)) (hv95 : v95 = (own_G2_0 v91 v3 (0 : Int32) (0 : Int32) v88)) (hv98 : v98 = (own_F2 v91 v3 (0 : Int32) (0 : Int32) v88)) (hv102 : v102 = (own_G2_0 v98 v3 (1 : Int32) (0 : Int32) v95)) (hv105 : v105 = (own_F2 v98 v3 (1 : Int32) (0 : Int32) v95)) (hv109 : v109 = (own_G2_0 v105 v3 (2 : Int32) (0 : Int32) v102)) (hv112 : v112 = (own_F2 v105 v3 (2 : Int32) (0 : Int32) v102)) (hv116 : v116 = (own_G2_0 v112 v3 (3 : Int32) (0 : Int32) v109)) (hv119 : v119 = (own_F2 v112 v3 (3 : Int32) (0 : Int32) v109)) (hv132 : v132 = (own_F5 v1)) (hc111_63 : v9 = (0 : Int32)) : 0 ≤ v91.toInt ∧ v91.toInt ≤ (v116.length : Int) := by
  subst hv1 hv9 hv16 hv21 hv27 hv32 hv38 hv43 hv49 hv54 hv67 hv70 hv74 hv77 hv81 hv84 hv88 hv91 hv95 hv98 hv102 hv105 hv109 hv112 hv116 hv119 hv132
  have hb := own_m15 hv3
  clear hv3
  revert v3
  intro v3 hb
  apply own_all16 v3 hb
  decide +kernel
theorem own_h0_136 {p0 : Int32} {p1 : Int32} {p2 : Int32} {v1 : Int32} {v3 : Int32} {v9 : Int32} {v16 : Int32} {v21 : Int32} {v27 : Int32} {v32 : Int32} {v38 : Int32} {v43 : Int32} {v49 : Int32} {v54 : Int32} {v67 : List Int32} {v70 : Int32} {v74 : List Int32} {v77 : Int32} {v81 : List Int32} {v84 : Int32} {v88 : List Int32} {v91 : Int32} {v95 : List Int32} {v98 : Int32} {v102 : List Int32} {v105 : Int32} {v109 : List Int32} {v112 : Int32} {v116 : List Int32} {v119 : Int32} {v132 : Int32} (hv1 : v1 = (p0 &&& (15 : Int32))) (hv3 : v3 = (p1 &&& (15 : Int32))) (hv9 : v9 = (if (p2 &&& (1 : Int32)) = (0 : Int32) then (0 : Int32) else (1 : Int32))) (hv16 : v16 = (own_F1 v1 (0 : Int32))) (hv21 : v21 = (if v16 = (1 : Int32) then (1 : Int32) else (0 : Int32))) (hv27 : v27 = (own_F1 v1 (1 : Int32))) (hv32 : v32 = (if v27 = (1 : Int32) then (1 : Int32) else (0 : Int32))) (hv38 : v38 = (own_F1 v1 (2 : Int32))) (hv43 : v43 = (if v38 = (1 : Int32) then (1 : Int32) else (0 : Int32))) (hv49 : v49 = (own_F1 v1 (3 : Int32))) (hv54 : v54 = (if v49 = (1 : Int32) then (1 : Int32) else (0 : Int32))) (hv67 : v67 = (own_G2_0 (0 : Int32) v3 (0 : Int32) (1 : Int32) ([(0 : Int32), (0 : Int32), (0 : Int32), (0 : Int32)] : List Int32))) (hv70 : v70 = (own_F2 (0 : Int32) v3 (0 : Int32) (1 : Int32) ([(0 : Int32), (0 : Int32), (0 : Int32), (0 : Int32)] : List Int32))) (hv74 : v74 = (own_G2_0 v70 v3 (1 : Int32) (1 : Int32) v67)) (hv77 : v77 = (own_F2 v70 v3 (1 : Int32) (1 : Int32) v67)) (hv81 : v81 = (own_G2_0 v77 v3 (2 : Int32) (1 : Int32) v74)) (hv84 : v84 = (own_F2 v77 v3 (2 : Int32) (1 : Int32) v74)) (hv88 : v88 = (own_G2_0 v84 v3 (3 : Int32) (1 : Int32) v81)) (hv91 : v91 = (own_F2 v84 v3 (3 : Int32) (1 : Int32) v81)) (hv95 : v95 = (own_G2_0 v91 v3 (0 : Int32) (0 : Int32) v88)) (hv98 : v98 = (own_F2 v91 v3 (0 : Int32) (0 : Int32) v88)) (hv102 : v102 = (own_G2_0 v98 v3 (1 : Int32) (0 : Int32) v95)) (hv105 : v105 = (own_F2 v98 v3 (1 : Int32) (0 : Int32) v95)) (hv109 : v109 = (own_G2_0 v105 v3 (2 : Int32) (0 : Int32) v102)) (hv112 : v112 = (own_F2 v105 v3 (2 : Int32) (0 : Int32) v102)) (hv116 : v116 = (own_G2_0 v112 v3 (3 : Int32) (0 : Int32) v109)) (hv119 : v119 = (own_F2 v112 v3 (3 : Int32) (0 : Int32) v109)) (hv132 : v132 = (own_F5 v1)) (hc111_63 : v9 = (0 : Int32)) : ∀ x ∈ v116, 0 ≤ x.toInt ∧ x.toInt < (([(nar .boolean v21), (nar .boolean v32), (nar .boolean v43), (nar .boolean v54)] : List Int32).length : Int) := by
  subst hv1 hv9 hv16 hv21 hv27 hv32 hv38 hv43 hv49 hv54 hv67 hv70 hv74 hv77 hv81 hv84 hv88 hv91 hv95 hv98 hv102 hv105 hv109 hv112 hv116 hv119 hv132
  show ∀ x : Int32, x ∈ _ → 0 ≤ x.toInt ∧ x.toInt < ((4 : Nat) : Int)
  have hb := own_m15 hv3
  clear hv3
  revert v3
  intro v3 hb
  apply own_all16 v3 hb
  decide +kernel
theorem own_h0_198 {p0 : Int32} {p1 : Int32} {p2 : Int32} {v1 : Int32} {v3 : Int32} {v9 : Int32} {v16 : Int32} {v21 : Int32} {v27 : Int32} {v32 : Int32} {v38 : Int32} {v43 : Int32} {v49 : Int32} {v54 : Int32} (hv1 : v1 = (p0 &&& (15 : Int32))) (hv3 : v3 = (p1 &&& (15 : Int32))) (hv9 : v9 = (if (p2 &&& (1 : Int32)) = (0 : Int32) then (0 : Int32) else (1 : Int32))) (hv16 : v16 = (own_F1 v1 (0 : Int32))) (hv21 : v21 = (if v16 = (1 : Int32) then (1 : Int32) else (0 : Int32))) (hv27 : v27 = (own_F1 v1 (1 : Int32))) (hv32 : v32 = (if v27 = (1 : Int32) then (1 : Int32) else (0 : Int32))) (hv38 : v38 = (own_F1 v1 (2 : Int32))) (hv43 : v43 = (if v38 = (1 : Int32) then (1 : Int32) else (0 : Int32))) (hv49 : v49 = (own_F1 v1 (3 : Int32))) (hv54 : v54 = (if v49 = (1 : Int32) then (1 : Int32) else (0 : Int32))) (hc111_63 : ¬ (v9 = (0 : Int32))) : own_F1 v3 (3 : Int32) = (1 : Int32) → 0 ≤ (0 : Int32).toInt ∧ (0 : Int32).toInt < (([(0 : Int32), (0 : Int32), (0 : Int32), (0 : Int32)] : List Int32).length : Int) := by
  subst hv1 hv9 hv16 hv21 hv27 hv32 hv38 hv43 hv49 hv54
  have hb := own_m15 hv3
  clear hv3
  revert v3
  intro v3 hb
  apply own_all16 v3 hb
  decide +kernel
theorem own_h0_205 {p0 : Int32} {p1 : Int32} {p2 : Int32} {v1 : Int32} {v3 : Int32} {v9 : Int32} {v16 : Int32} {v21 : Int32} {v27 : Int32} {v32 : Int32} {v38 : Int32} {v43 : Int32} {v49 : Int32} {v54 : Int32} {v199 : List Int32} {v202 : Int32} (hv1 : v1 = (p0 &&& (15 : Int32))) (hv3 : v3 = (p1 &&& (15 : Int32))) (hv9 : v9 = (if (p2 &&& (1 : Int32)) = (0 : Int32) then (0 : Int32) else (1 : Int32))) (hv16 : v16 = (own_F1 v1 (0 : Int32))) (hv21 : v21 = (if v16 = (1 : Int32) then (1 : Int32) else (0 : Int32))) (hv27 : v27 = (own_F1 v1 (1 : Int32))) (hv32 : v32 = (if v27 = (1 : Int32) then (1 : Int32) else (0 : Int32))) (hv38 : v38 = (own_F1 v1 (2 : Int32))) (hv43 : v43 = (if v38 = (1 : Int32) then (1 : Int32) else (0 : Int32))) (hv49 : v49 = (own_F1 v1 (3 : Int32))) (hv54 : v54 = (if v49 = (1 : Int32) then (1 : Int32) else (0 : Int32))) (hv199 : v199 = (own_G2_0 (0 : Int32) v3 (3 : Int32) (1 : Int32) ([(0 : Int32), (0 : Int32), (0 : Int32), (0 : Int32)] : List Int32))) (hv202 : v202 = (own_F2 (0 : Int32) v3 (3 : Int32) (1 : Int32) ([(0 : Int32), (0 : Int32), (0 : Int32), (0 : Int32)] : List Int32))) (hc111_63 : ¬ (v9 = (0 : Int32))) : own_F1 v3 (2 : Int32) = (1 : Int32) → 0 ≤ v202.toInt ∧ v202.toInt < (v199.length : Int) := by
  subst hv1 hv9 hv16 hv21 hv27 hv32 hv38 hv43 hv49 hv54 hv199 hv202
  have hb := own_m15 hv3
  clear hv3
  revert v3
  intro v3 hb
  apply own_all16 v3 hb
  decide +kernel
theorem own_h0_212 {p0 : Int32} {p1 : Int32} {p2 : Int32} {v1 : Int32} {v3 : Int32} {v9 : Int32} {v16 : Int32} {v21 : Int32} {v27 : Int32} {v32 : Int32} {v38 : Int32} {v43 : Int32} {v49 : Int32} {v54 : Int32} {v199 : List Int32} {v202 : Int32} {v206 : List Int32} {v209 : Int32} (hv1 : v1 = (p0 &&& (15 : Int32))) (hv3 : v3 = (p1 &&& (15 : Int32))) (hv9 : v9 = (if (p2 &&& (1 : Int32)) = (0 : Int32) then (0 : Int32) else (1 : Int32))) (hv16 : v16 = (own_F1 v1 (0 : Int32))) (hv21 : v21 = (if v16 = (1 : Int32) then (1 : Int32) else (0 : Int32))) (hv27 : v27 = (own_F1 v1 (1 : Int32))) (hv32 : v32 = (if v27 = (1 : Int32) then (1 : Int32) else (0 : Int32))) (hv38 : v38 = (own_F1 v1 (2 : Int32))) (hv43 : v43 = (if v38 = (1 : Int32) then (1 : Int32) else (0 : Int32))) (hv49 : v49 = (own_F1 v1 (3 : Int32))) (hv54 : v54 = (if v49 = (1 : Int32) then (1 : Int32) else (0 : Int32))) (hv199 : v199 = (own_G2_0 (0 : Int32) v3 (3 : Int32) (1 : Int32) ([(0 : Int32), (0 : Int32), (0 : Int32), (0 : Int32)] : List Int32))) (hv202 : v202 = (own_F2 (0 : Int32) v3 (3 : Int32) (1 : Int32) ([(0 : Int32), (0 : Int32), (0 : Int32), (0 : Int32)] : List Int32))) (hv206 : v206 = (own_G2_0 v202 v3 (2 : Int32) (1 : Int32) v199)) (hv209 : v209 = (own_F2 v202 v3 (2 : Int32) (1 : Int32) v199)) (hc111_63 : ¬ (v9 = (0 : Int32))) : own_F1 v3 (1 : Int32) = (1 : Int32) → 0 ≤ v209.toInt ∧ v209.toInt < (v206.length : Int) := by
  subst hv1 hv9 hv16 hv21 hv27 hv32 hv38 hv43 hv49 hv54 hv199 hv202 hv206 hv209
  have hb := own_m15 hv3
  clear hv3
  revert v3
  intro v3 hb
  apply own_all16 v3 hb
  decide +kernel
theorem own_h0_219 {p0 : Int32} {p1 : Int32} {p2 : Int32} {v1 : Int32} {v3 : Int32} {v9 : Int32} {v16 : Int32} {v21 : Int32} {v27 : Int32} {v32 : Int32} {v38 : Int32} {v43 : Int32} {v49 : Int32} {v54 : Int32} {v199 : List Int32} {v202 : Int32} {v206 : List Int32} {v209 : Int32} {v213 : List Int32} {v216 : Int32} (hv1 : v1 = (p0 &&& (15 : Int32))) (hv3 : v3 = (p1 &&& (15 : Int32))) (hv9 : v9 = (if (p2 &&& (1 : Int32)) = (0 : Int32) then (0 : Int32) else (1 : Int32))) (hv16 : v16 = (own_F1 v1 (0 : Int32))) (hv21 : v21 = (if v16 = (1 : Int32) then (1 : Int32) else (0 : Int32))) (hv27 : v27 = (own_F1 v1 (1 : Int32))) (hv32 : v32 = (if v27 = (1 : Int32) then (1 : Int32) else (0 : Int32))) (hv38 : v38 = (own_F1 v1 (2 : Int32))) (hv43 : v43 = (if v38 = (1 : Int32) then (1 : Int32) else (0 : Int32))) (hv49 : v49 = (own_F1 v1 (3 : Int32))) (hv54 : v54 = (if v49 = (1 : Int32) then (1 : Int32) else (0 : Int32))) (hv199 : v199 = (own_G2_0 (0 : Int32) v3 (3 : Int32) (1 : Int32) ([(0 : Int32), (0 : Int32), (0 : Int32), (0 : Int32)] : List Int32))) (hv202 : v202 = (own_F2 (0 : Int32) v3 (3 : Int32) (1 : Int32) ([(0 : Int32), (0 : Int32), (0 : Int32), (0 : Int32)] : List Int32))) (hv206 : v206 = (own_G2_0 v202 v3 (2 : Int32) (1 : Int32) v199)) (hv209 : v209 = (own_F2 v202 v3 (2 : Int32) (1 : Int32) v199)) (hv213 : v213 = (own_G2_0 v209 v3 (1 : Int32) (1 : Int32) v206)) (hv216 : v216 = (own_F2 v209 v3 (1 : Int32) (1 : Int32) v206)) (hc111_63 : ¬ (v9 = (0 : Int32))) : own_F1 v3 (0 : Int32) = (1 : Int32) → 0 ≤ v216.toInt ∧ v216.toInt < (v213.length : Int) := by
  subst hv1 hv9 hv16 hv21 hv27 hv32 hv38 hv43 hv49 hv54 hv199 hv202 hv206 hv209 hv213 hv216
  have hb := own_m15 hv3
  clear hv3
  revert v3
  intro v3 hb
  apply own_all16 v3 hb
  decide +kernel
theorem own_h0_226 {p0 : Int32} {p1 : Int32} {p2 : Int32} {v1 : Int32} {v3 : Int32} {v9 : Int32} {v16 : Int32} {v21 : Int32} {v27 : Int32} {v32 : Int32} {v38 : Int32} {v43 : Int32} {v49 : Int32} {v54 : Int32} {v199 : List Int32} {v202 : Int32} {v206 : List Int32} {v209 : Int32} {v213 : List Int32} {v216 : Int32} {v220 : List Int32} {v223 : Int32} (hv1 : v1 = (p0 &&& (15 : Int32))) (hv3 : v3 = (p1 &&& (15 : Int32))) (hv9 : v9 = (if (p2 &&& (1 : Int32)) = (0 : Int32) then (0 : Int32) else (1 : Int32))) (hv16 : v16 = (own_F1 v1 (0 : Int32))) (hv21 : v21 = (if v16 = (1 : Int32) then (1 : Int32) else (0 : Int32))) (hv27 : v27 = (own_F1 v1 (1 : Int32))) (hv32 : v32 = (if v27 = (1 : Int32) then (1 : Int32) else (0 : Int32))) (hv38 : v38 = (own_F1 v1 (2 : Int32))) (hv43 : v43 = (if v38 = (1 : Int32) then (1 : Int32) else (0 : Int32))) (hv49 : v49 = (own_F1 v1 (3 : Int32))) (hv54 : v54 = (if v49 = (1 : Int32) then (1 : Int32) else (0 : Int32))) (hv199 : v199 = (own_G2_0 (0 : Int32) v3 (3 : Int32) (1 : Int32) ([(0 : Int32), (0 : Int32), (0 : Int32), (0 : Int32)] : List Int32))) (hv202 : v202 = (own_F2 (0 : Int32) v3 (3 : Int32) (1 : Int32) ([(0 : Int32), (0 : Int32), (0 : Int32), (0 : Int32)] : List Int32))) (hv206 : v206 = (own_G2_0 v202 v3 (2 : Int32) (1 : Int32) v199)) (hv209 : v209 = (own_F2 v202 v3 (2 : Int32) (1 : Int32) v199)) (hv213 : v213 = (own_G2_0 v209 v3 (1 : Int32) (1 : Int32) v206)) (hv216 : v216 = (own_F2 v209 v3 (1 : Int32) (1 : Int32) v206)) (hv220 : v220 = (own_G2_0 v216 v3 (0 : Int32) (1 : Int32) v213)) (hv223 : v223 = (own_F2 v216 v3 (0 : Int32) (1 : Int32) v213)) (hc111_63 : ¬ (v9 = (0 : Int32))) : own_F1 v3 (0 : Int32) = (0 : Int32) → 0 ≤ v223.toInt ∧ v223.toInt < (v220.length : Int) := by
  subst hv1 hv9 hv16 hv21 hv27 hv32 hv38 hv43 hv49 hv54 hv199 hv202 hv206 hv209 hv213 hv216 hv220 hv223
  have hb := own_m15 hv3
  clear hv3
  revert v3
  intro v3 hb
  apply own_all16 v3 hb
  decide +kernel
theorem own_h0_233 {p0 : Int32} {p1 : Int32} {p2 : Int32} {v1 : Int32} {v3 : Int32} {v9 : Int32} {v16 : Int32} {v21 : Int32} {v27 : Int32} {v32 : Int32} {v38 : Int32} {v43 : Int32} {v49 : Int32} {v54 : Int32} {v199 : List Int32} {v202 : Int32} {v206 : List Int32} {v209 : Int32} {v213 : List Int32} {v216 : Int32} {v220 : List Int32} {v223 : Int32} {v227 : List Int32} {v230 : Int32} (hv1 : v1 = (p0 &&& (15 : Int32))) (hv3 : v3 = (p1 &&& (15 : Int32))) (hv9 : v9 = (if (p2 &&& (1 : Int32)) = (0 : Int32) then (0 : Int32) else (1 : Int32))) (hv16 : v16 = (own_F1 v1 (0 : Int32))) (hv21 : v21 = (if v16 = (1 : Int32) then (1 : Int32) else (0 : Int32))) (hv27 : v27 = (own_F1 v1 (1 : Int32))) (hv32 : v32 = (if v27 = (1 : Int32) then (1 : Int32) else (0 : Int32))) (hv38 : v38 = (own_F1 v1 (2 : Int32))) (hv43 : v43 = (if v38 = (1 : Int32) then (1 : Int32) else (0 : Int32))) (hv49 : v49 = (own_F1 v1 (3 : Int32))) (hv54 : v54 = (if v49 = (1 : Int32) then (1 : Int32) else (0 : Int32))) (hv199 : v199 = (own_G2_0 (0 : Int32) v3 (3 : Int32) (1 : Int32) ([(0 : Int32), (0 : Int32), (0 : Int32), (0 : Int32)] : List Int32))) (hv202 : v202 = (own_F2 (0 : Int32) v3 (3 : Int32) (1 : Int32) ([(0 : Int32), (0 : Int32), (0 : Int32), (0 : Int32)] : List Int32))) (hv206 : v206 = (own_G2_0 v202 v3 (2 : Int32) (1 : Int32) v199)) (hv209 : v209 = (own_F2 v202 v3 (2 : Int32) (1 : Int32) v199)) (hv213 : v213 = (own_G2_0 v209 v3 (1 : Int32) (1 : Int32) v206)) (hv216 : v216 = (own_F2 v209 v3 (1 : Int32) (1 : Int32) v206)) (hv220 : v220 = (own_G2_0 v216 v3 (0 : Int32) (1 : Int32) v213)) (hv223 : v223 = (own_F2 v216 v3 (0 : Int32) (1 : Int32) v213)) (hv227 : v227 = (own_G2_0 v223 v3 (0 : Int32) (0 : Int32) v220)) (hv230 : v230 = (own_F2 v223 v3 (0 : Int32) (0 : Int32) v220)) (hc111_63 : ¬ (v9 = (0 : Int32))) : own_F1 v3 (1 : Int32) = (0 : Int32) → 0 ≤ v230.toInt ∧ v230.toInt < (v227.length : Int) := by
  subst hv1 hv9 hv16 hv21 hv27 hv32 hv38 hv43 hv49 hv54 hv199 hv202 hv206 hv209 hv213 hv216 hv220 hv223 hv227 hv230
  have hb := own_m15 hv3
  clear hv3
  revert v3
  intro v3 hb
  apply own_all16 v3 hb
  decide +kernel
theorem own_h0_240 {p0 : Int32} {p1 : Int32} {p2 : Int32} {v1 : Int32} {v3 : Int32} {v9 : Int32} {v16 : Int32} {v21 : Int32} {v27 : Int32} {v32 : Int32} {v38 : Int32} {v43 : Int32} {v49 : Int32} {v54 : Int32} {v199 : List Int32} {v202 : Int32} {v206 : List Int32} {v209 : Int32} {v213 : List Int32} {v216 : Int32} {v220 : List Int32} {v223 : Int32} {v227 : List Int32} {v230 : Int32} {v234 : List Int32} {v237 : Int32} (hv1 : v1 = (p0 &&& (15 : Int32))) (hv3 : v3 = (p1 &&& (15 : Int32))) (hv9 : v9 = (if (p2 &&& (1 : Int32)) = (0 : Int32) then (0 : Int32) else (1 : Int32))) (hv16 : v16 = (own_F1 v1 (0 : Int32))) (hv21 : v21 = (if v16 = (1 : Int32) then (1 : Int32) else (0 : Int32))) (hv27 : v27 = (own_F1 v1 (1 : Int32))) (hv32 : v32 = (if v27 = (1 : Int32) then (1 : Int32) else (0 : Int32))) (hv38 : v38 = (own_F1 v1 (2 : Int32))) (hv43 : v43 = (if v38 = (1 : Int32) then (1 : Int32) else (0 : Int32))) (hv49 : v49 = (own_F1 v1 (3 : Int32))) (hv54 : v54 = (if v49 = (1 : Int32) then (1 : Int32) else (0 : Int32))) (hv199 : v199 = (own_G2_0 (0 : Int32) v3 (3 : Int32) (1 : Int32) ([(0 : Int32), (0 : Int32), (0 : Int32), (0 : Int32)] : List Int32))) (hv202 : v202 = (own_F2 (0 : Int32) v3 (3 : Int32) (1 : Int32) ([(0 : Int32), (0 : Int32), (0 : Int32), (0 : Int32)] : List Int32))) (hv206 : v206 = (own_G2_0 v202 v3 (2 : Int32) (1 : Int32) v199)) (hv209 : v209 = (own_F2 v202 v3 (2 : Int32) (1 : Int32) v199)) (hv213 : v213 = (own_G2_0 v209 v3 (1 : Int32) (1 : Int32) v206)) (hv216 : v216 = (own_F2 v209 v3 (1 : Int32) (1 : Int32) v206)) (hv220 : v220 = (own_G2_0 v216 v3 (0 : Int32) (1 : Int32) v213)) (hv223 : v223 = (own_F2 v216 v3 (0 : Int32) (1 : Int32) v213)) (hv227 : v227 = (own_G2_0 v223 v3 (0 : Int32) (0 : Int32) v220)) (hv230 : v230 = (own_F2 v223 v3 (0 : Int32) (0 : Int32) v220)) (hv234 : v234 = (own_G2_0 v230 v3 (1 : Int32) (0 : Int32) v227)) (hv237 : v237 = (own_F2 v230 v3 (1 : Int32) (0 : Int32) v227)) (hc111_63 : ¬ (v9 = (0 : Int32))) : own_F1 v3 (2 : Int32) = (0 : Int32) → 0 ≤ v237.toInt ∧ v237.toInt < (v234.length : Int) := by
  subst hv1 hv9 hv16 hv21 hv27 hv32 hv38 hv43 hv49 hv54 hv199 hv202 hv206 hv209 hv213 hv216 hv220 hv223 hv227 hv230 hv234 hv237
  have hb := own_m15 hv3
  clear hv3
  revert v3
  intro v3 hb
  apply own_all16 v3 hb
  decide +kernel
theorem own_h0_247 {p0 : Int32} {p1 : Int32} {p2 : Int32} {v1 : Int32} {v3 : Int32} {v9 : Int32} {v16 : Int32} {v21 : Int32} {v27 : Int32} {v32 : Int32} {v38 : Int32} {v43 : Int32} {v49 : Int32} {v54 : Int32} {v199 : List Int32} {v202 : Int32} {v206 : List Int32} {v209 : Int32} {v213 : List Int32} {v216 : Int32} {v220 : List Int32} {v223 : Int32} {v227 : List Int32} {v230 : Int32} {v234 : List Int32} {v237 : Int32} {v241 : List Int32} {v244 : Int32} (hv1 : v1 = (p0 &&& (15 : Int32))) (hv3 : v3 = (p1 &&& (15 : Int32))) (hv9 : v9 = (if (p2 &&& (1 : Int32)) = (0 : Int32) then (0 : Int32) else (1 : Int32))) (hv16 : v16 = (own_F1 v1 (0 : Int32))) (hv21 : v21 = (if v16 = (1 : Int32) then (1 : Int32) else (0 : Int32))) (hv27 : v27 = (own_F1 v1 (1 : Int32))) (hv32 : v32 = (if v27 = (1 : Int32) then (1 : Int32) else (0 : Int32))) (hv38 : v38 = (own_F1 v1 (2 : Int32))) (hv43 : v43 = (if v38 = (1 : Int32) then (1 : Int32) else (0 : Int32))) (hv49 : v49 = (own_F1 v1 (3 : Int32))) (hv54 : v54 = (if v49 = (1 : Int32) then (1 : Int32) else (0 : Int32))) (hv199 : v199 = (own_G2_0 (0 : Int32) v3 (3 : Int32) (1 : Int32) ([(0 : Int32), (0 : Int32), (0 : Int32), (0 : Int32)] : List Int32))) (hv202 : v202 = (own_F2 (0 : Int32) v3 (3 : Int32) (1 : Int32) ([(0 : Int32), (0 : Int32), (0 : Int32), (0 : Int32)] : List Int32))) (hv206 : v206 = (own_G2_0 v202 v3 (2 : Int32) (1 : Int32) v199)) (hv209 : v209 = (own_F2 v202 v3 (2 : Int32) (1 : Int32) v199)) (hv213 : v213 = (own_G2_0 v209 v3 (1 : Int32) (1 : Int32) v206)) (hv216 : v216 = (own_F2 v209 v3 (1 : Int32) (1 : Int32) v206)) (hv220 : v220 = (own_G2_0 v216 v3 (0 : Int32) (1 : Int32) v213)) (hv223 : v223 = (own_F2 v216 v3 (0 : Int32) (1 : Int32) v213)) (hv227 : v227 = (own_G2_0 v223 v3 (0 : Int32) (0 : Int32) v220)) (hv230 : v230 = (own_F2 v223 v3 (0 : Int32) (0 : Int32) v220)) (hv234 : v234 = (own_G2_0 v230 v3 (1 : Int32) (0 : Int32) v227)) (hv237 : v237 = (own_F2 v230 v3 (1 : Int32) (0 : Int32) v227)) (hv241 : v241 = (own_G2_0 v237 v3 (2 : Int32) (0 : Int32) v234)) (hv244 : v244 = (own_F2 v237 v3 (2 : Int32) (0 : Int32) v234)) (hc111_63 : ¬ (v9 = (0 : Int32))) : own_F1 v3 (3 : Int32) = (0 : Int32) → 0 ≤ v244.toInt ∧ v244.toInt < (v241.length : Int) := by
  subst hv1 hv9 hv16 hv21 hv27 hv32 hv38 hv43 hv49 hv54 hv199 hv202 hv206 hv209 hv213 hv216 hv220 hv223 hv227 hv230 hv234 hv237 hv241 hv244
  have hb := own_m15 hv3
  clear hv3
  revert v3
  intro v3 hb
  apply own_all16 v3 hb
  decide +kernel
theorem own_h0_267 {p0 : Int32} {p1 : Int32} {p2 : Int32} {v1 : Int32} {v3 : Int32} {v9 : Int32} {v16 : Int32} {v21 : Int32} {v27 : Int32} {v32 : Int32} {v38 : Int32} {v43 : Int32} {v49 : Int32} {v54 : Int32} {v199 : List Int32} {v202 : Int32} {v206 : List Int32} {v209 : Int32} {v213 : List Int32} {v216 : Int32} {v220 : List Int32} {v223 : Int32} {v227 : List Int32} {v230 : Int32} {v234 : List Int32} {v237 : Int32} {v241 : List Int32} {v244 : Int32} {v248 : List Int32} {v251 : Int32} {v264 : Int32} (hv1 : v1 = (p0 &&& (15 : Int32))) (hv3 : v3 = (p1 &&& (15 : Int32))) (hv9 : v9 = (if (p2 &&& (1 : Int32)) = (0 : Int32) then (0 : Int32) else (1 : Int32))) (hv16 : v16 = (own_F1 v1 (0 : Int32))) (hv21 : v21 = (if v16 = (1 : Int32) then (1 : Int32) else (0 : Int32))) (hv27 : v27 = (own_F1 v1 (1 : Int32))) (hv32 : v32 = (if v27 = (1 : Int32) then (1 : Int32) else (0 : Int32))) (hv38 : v38 = (own_F1 v1 (2 : Int32))) (hv43 : v43 = (if v38 = (1 : Int32) then (1 : Int32) else (0 : Int32))) (hv49 : v49 = (own_F1 v1 (3 : Int32))) (hv54 : v54 = (if v49 = (1 : Int32) then (1 : Int32) else (0 : Int32))) (hv199 : v199 = (own_G2_0 (0 : Int32) v3 (3 : Int32) (1 : Int32) ([(0 : Int32), (0 : Int32), (0 : Int32), (0 : Int32)] : List Int32))) (hv202 : v202 = (own_F2 (0 : Int32) v3 (3 : Int32) (1 : Int32) ([(0 : Int32), (0 : Int32), (0 : Int32), (0 : Int32)] : List Int32))) (hv206 : v206 = (own_G2_0 v202 v3 (2 : Int32) (1 : Int32) v199)) (hv209 : v209 = (own_F2 v202 v3 (2 : Int32) (1 : Int32) v199)) (hv213 : v213 = (own_G2_0 v209 v3 (1 : Int32) (1 : Int32) v206)) (hv216 : v216 = (own_F2 v209 v3 (1 : Int32) (1 : Int32) v206)) (hv220 : v220 = (own_G2_0 v216 v3 (0 : Int32) (1 : Int32) v213)) (hv223 : v223 = (own_F2 v216 v3 (0 : Int32) (1 : Int32) v213)) (hv227 : v227 = (own_G2_0 v223 v3 (0 : Int32) (0 : Int32) v220)) (hv230 : v230 = (own_F2 v223 v3 (0 : Int32) (0 : Int32) v220)) (hv234 : v234 = (own_G2_0 v230 v3 (1 : Int32) (0 : Int32) v227)) (hv237 : v237 = (own_F2 v230 v3 (1 : Int32) (0 : Int32) v227)) (hv241 : v241 = (own_G2_0 v237 v3 (2 : Int32) (0 : Int32) v234)) (hv244 : v244 = (own_F2 v237 v3 (2 : Int32) (0 : Int32) v234)) (hv248 : v248 = (own_G2_0 v244 v3 (3 : Int32) (0 : Int32) v241)) (hv251 : v251 = (own_F2 v244 v3 (3 : Int32) (0 : Int32) v241)) (hv264 : v264 = (own_F5 v1)) (hc111_63 : ¬ (v9 = (0 : Int32))) : 0 ≤ v223.toInt ∧ v223.toInt ≤ (v248.length : Int) := by
  subst hv1 hv9 hv16 hv21 hv27 hv32 hv38 hv43 hv49 hv54 hv199 hv202 hv206 hv209 hv213 hv216 hv220 hv223 hv227 hv230 hv234 hv237 hv241 hv244 hv248 hv251 hv264
  have hb := own_m15 hv3
  clear hv3
  revert v3
  intro v3 hb
  apply own_all16 v3 hb
  decide +kernel
theorem own_h0_268 {p0 : Int32} {p1 : Int32} {p2 : Int32} {v1 : Int32} {v3 : Int32} {v9 : Int32} {v16 : Int32} {v21 : Int32} {v27 : Int32} {v32 : Int32} {v38 : Int32} {v43 : Int32} {v49 : Int32} {v54 : Int32} {v199 : List Int32} {v202 : Int32} {v206 : List Int32} {v209 : Int32} {v213 : List Int32} {v216 : Int32} {v220 : List Int32} {v223 : Int32} {v227 : List Int32} {v230 : Int32} {v234 : List Int32} {v237 : Int32} {v241 : List Int32} {v244 : Int32} {v248 : List Int32} {v251 : Int32} {v264 : Int32} (hv1 : v1 = (p0 &&& (15 : Int32))) (hv3 : v3 = (p1 &&& (15 : Int32))) (hv9 : v9 = (if (p2 &&& (1 : Int32)) = (0 : Int32) then (0 : Int32) else (1 : Int32))) (hv16 : v16 = (own_F1 v1 (0 : Int32))) (hv21 : v21 = (if v16 = (1 : Int32) then (1 : Int32) else (0 : Int32))) (hv27 : v27 = (own_F1 v1 (1 : Int32))) (hv32 : v32 = (if v27 = (1 : Int32) then (1 : Int32) else (0 : Int32))) (hv38 : v38 = (own_F1 v1 (2 : Int32))) (hv43 : v43 = (if v38 = (1 : Int32) then (1 : Int32) else (0 : Int32))) (hv49 : v49 = (own_F1 v1 (3 : Int32))) (hv54 : v54 = (if v49 = (1 : Int32) then (1 : Int32) else (0 : Int32))) (hv199 : v199 = (own_G2_0 (0 : Int32) v3 (3 : Int32) (1 : Int32) ([(0 : Int32), (0 : Int32), (0 : Int32), (0 : Int32)] : List Int32))) (hv202 : v202 = (own_F2 (0 : Int32) v3 (3 : Int32) (1 : Int32) ([(0 : Int32), (0 : Int32), (0 : Int32), (0 : Int32)] : List Int32))) (hv206 : v206 = (own_G2_0 v202 v3 (2 : Int32) (1 : Int32) v199)) (hv209 : v209 = (own_F2 v202 v3 (2 : Int32) (1 : Int32) v199)) (hv213 : v213 = (own_G2_0 v209 v3 (1 : Int32) (1 : Int32) v206)) (hv216 : v216 = (own_F2 v209 v3 (1 : Int32) (1 : Int32) v206)) (hv220 : v220 = (own_G2_0 v216 v3 (0 : Int32) (1 : Int32) v213)) (hv223 : v223 = (own_F2 v216 v3 (0 : Int32) (1 : Int32) v213)) (hv227 : v227 = (own_G2_0 v223 v3 (0 : Int32) (0 : Int32) v220)) (hv230 : v230 = (own_F2 v223 v3 (0 : Int32) (0 : Int32) v220)) (hv234 : v234 = (own_G2_0 v230 v3 (1 : Int32) (0 : Int32) v227)) (hv237 : v237 = (own_F2 v230 v3 (1 : Int32) (0 : Int32) v227)) (hv241 : v241 = (own_G2_0 v237 v3 (2 : Int32) (0 : Int32) v234)) (hv244 : v244 = (own_F2 v237 v3 (2 : Int32) (0 : Int32) v234)) (hv248 : v248 = (own_G2_0 v244 v3 (3 : Int32) (0 : Int32) v241)) (hv251 : v251 = (own_F2 v244 v3 (3 : Int32) (0 : Int32) v241)) (hv264 : v264 = (own_F5 v1)) (hc111_63 : ¬ (v9 = (0 : Int32))) : ∀ x ∈ v248, 0 ≤ x.toInt ∧ x.toInt < (([(nar .boolean v21), (nar .boolean v32), (nar .boolean v43), (nar .boolean v54)] : List Int32).length : Int) := by
  subst hv1 hv9 hv16 hv21 hv27 hv32 hv38 hv43 hv49 hv54 hv199 hv202 hv206 hv209 hv213 hv216 hv220 hv223 hv227 hv230 hv234 hv237 hv241 hv244 hv248 hv251 hv264
  show ∀ x : Int32, x ∈ _ → 0 ≤ x.toInt ∧ x.toInt < ((4 : Nat) : Int)
  have hb := own_m15 hv3
  clear hv3
  revert v3
  intro v3 hb
  apply own_all16 v3 hb
  decide +kernel
set_option maxRecDepth 65536 in
set_option maxHeartbeats 40000000 in
theorem own_rm0 (l : Launch) (Z : State) (a0 : Array Value) (hw : ∀ d ∈ tables_1, d.before a0 Z = true) (ws : List Jvm.Cond) (p0 : Int32) (p1 : Int32) (p2 : Int32) (h0 : Heap) (n0 : Nat) (Z0 : n0 ≤ h0.size) :
    MetFree l x (head1 (Jvm.Cond.code x code maxLocals ret :: ws) room_1) (fun a U => a = #[(.int p0), (.int p1), (.int p2)] ∧ Z.Warmed39 U.vm ∧ U.heap = h0) (fun _ _ _ _ _ => True) (fun _ U o U' => ∃ vz Lz, o = .returned vz ∧ own_Q0 Z p0 p1 p2 h0 n0 vz U'.heap Lz ∧ FrameEnd U o U' Lz room_1.cells room_1.slots) := by
  refine MetFree.of_bodySF (plainFor_of_name own_pn0) hisR ?_
  intro p e s m args below meth c s₁ Bd hml0 hP hK
  obtain ⟨rfl, hZ, hh⟩ := hP
  have hx := Bd.exec
  have hby := Bd.bytes
  have hml : c.maxLocals = 14 := hml0
  have hown : s.vm.findClass "com/example/evotempo/evotempo/problem/OneMaxFitnessAfterFlipsPinLaw" = some m.cls := findClass_of_methodNamed Bd.named
  have hnm := (name_of_methodNamed Bd.named Bd.method).1
  have X0 : Stand p l e room_1 s m #[(.int p0), (.int p1), (.int p2)] below meth c s₁ [] 0 0 := Stand.of_body Bd
  have e0 : s₁.heap = h0 := by rw [← hh, Bd.state]; rfl
  show own_End p e below s (fun vz h Lz => vz = some (.int (own_F0 p0 p1 p2)) ∧ Fr n0 Lz) room_1.cells room_1.slots s₁ (entryFrame m #[(.int p0), (.int p1), (.int p2)] maxLocals)
  refine own_End.go (fun t k => castTop (own_ef0 m p0 p1 p2) k) ?_
  show own_End p e below s _ _ _ s₁ (mkF m 0 #[.val (.int p0), .val (.int p1), .val (.int p2), .unset, .unset, .unset, .unset, .unset, .unset, .unset, .unset, .unset, .unset, .unset] [])
  have N0 := Fr.nil n0
  obtain ⟨v1, hv1⟩ : ∃ z : Int32, z = (p0 &&& (15 : Int32)) := ⟨_, rfl⟩
  have st2 : ∀ t, Steps p.tables e below (s₁.setTop (mkF m 5 #[.val (.int p0), .val (.int p1), .val (.int p2), .val (.int v1), .unset, .unset, .unset, .unset, .unset, .unset, .unset, .unset, .unset, .unset] [])) t → Steps p.tables e below (s₁.setTop (mkF m 0 #[.val (.int p0), .val (.int p1), .val (.int p2), .unset, .unset, .unset, .unset, .unset, .unset, .unset, .unset, .unset, .unset, .unset] [])) t := by
    rw [hv1]
    intro t k
    show Steps p.tables e below (s₁.setTop (mkF m 0 #[.val (.int p0), .val (.int p1), .val (.int p2), .unset, .unset, .unset, .unset, .unset, .unset, .unset, .unset, .unset, .unset, .unset] [])) _
    refine XS.iloadN X0.here hx rfl (hb hby at_0) rfl ?_
    show Steps p.tables e below (s₁.setTop (mkF m 1 #[.val (.int p0), .val (.int p1), .val (.int p2), .unset, .unset, .unset, .unset, .unset, .unset, .unset, .unset, .unset, .unset, .unset] [(.int p0)])) _
    refine XS.bipush X0.here hx rfl (hb hby at_1) ?_
    show Steps p.tables e below (s₁.setTop (mkF m 3 #[.val (.int p0), .val (.int p1), .val (.int p2), .unset, .unset, .unset, .unset, .unset, .unset, .unset, .unset, .unset, .unset, .unset] [(.int (15 : Int32)), (.int p0)])) _
    refine XS.iand X0.here hx rfl (hb hby at_3) rfl ?_
    show Steps p.tables e below (s₁.setTop (mkF m 4 #[.val (.int p0), .val (.int p1), .val (.int p2), .unset, .unset, .unset, .unset, .unset, .unset, .unset, .unset, .unset, .unset, .unset] [(.int (p0 &&& (15 : Int32)))])) _
    refine XS.istoreN X0.here hx rfl (hb hby at_4) rfl (l' := #[.val (.int p0), .val (.int p1), .val (.int p2), .val (.int (p0 &&& (15 : Int32))), .unset, .unset, .unset, .unset, .unset, .unset, .unset, .unset, .unset, .unset]) rfl ?_
    exact k
  obtain ⟨v3, hv3⟩ : ∃ z : Int32, z = (p1 &&& (15 : Int32)) := ⟨_, rfl⟩
  have st4 : ∀ t, Steps p.tables e below (s₁.setTop (mkF m 11 #[.val (.int p0), .val (.int p1), .val (.int p2), .val (.int v1), .val (.int v3), .unset, .unset, .unset, .unset, .unset, .unset, .unset, .unset, .unset] [])) t → Steps p.tables e below (s₁.setTop (mkF m 5 #[.val (.int p0), .val (.int p1), .val (.int p2), .val (.int v1), .unset, .unset, .unset, .unset, .unset, .unset, .unset, .unset, .unset, .unset] [])) t := by
    rw [hv3]
    intro t k
    show Steps p.tables e below (s₁.setTop (mkF m 5 #[.val (.int p0), .val (.int p1), .val (.int p2), .val (.int v1), .unset, .unset, .unset, .unset, .unset, .unset, .unset, .unset, .unset, .unset] [])) _
    refine XS.iloadN X0.here hx rfl (hb hby at_5) rfl ?_
    show Steps p.tables e below (s₁.setTop (mkF m 6 #[.val (.int p0), .val (.int p1), .val (.int p2), .val (.int v1), .unset, .unset, .unset, .unset, .unset, .unset, .unset, .unset, .unset, .unset] [(.int p1)])) _
    refine XS.bipush X0.here hx rfl (hb hby at_6) ?_
    show Steps p.tables e below (s₁.setTop (mkF m 8 #[.val (.int p0), .val (.int p1), .val (.int p2), .val (.int v1), .unset, .unset, .unset, .unset, .unset, .unset, .unset, .unset, .unset, .unset] [(.int (15 : Int32)), (.int p1)])) _
    refine XS.iand X0.here hx rfl (hb hby at_8) rfl ?_
    show Steps p.tables e below (s₁.setTop (mkF m 9 #[.val (.int p0), .val (.int p1), .val (.int p2), .val (.int v1), .unset, .unset, .unset, .unset, .unset, .unset, .unset, .unset, .unset, .unset] [(.int (p1 &&& (15 : Int32)))])) _
    refine XS.istore X0.here hx rfl (hb hby at_9) rfl (l' := #[.val (.int p0), .val (.int p1), .val (.int p2), .val (.int v1), .val (.int (p1 &&& (15 : Int32))), .unset, .unset, .unset, .unset, .unset, .unset, .unset, .unset, .unset]) rfl ?_
    exact k
  have st5 : ∀ t, Steps p.tables e below (s₁.setTop (mkF m 14 #[.val (.int p0), .val (.int p1), .val (.int p2), .val (.int v1), .val (.int v3), .unset, .unset, .unset, .unset, .unset, .unset, .unset, .unset, .unset] [(.int (p2 &&& (1 : Int32)))])) t → Steps p.tables e below (s₁.setTop (mkF m 11 #[.val (.int p0), .val (.int p1), .val (.int p2), .val (.int v1), .val (.int v3), .unset, .unset, .unset, .unset, .unset, .unset, .unset, .unset, .unset] [])) t := by
    intro t k
    show Steps p.tables e below (s₁.setTop (mkF m 11 #[.val (.int p0), .val (.int p1), .val (.int p2), .val (.int v1), .val (.int v3), .unset, .unset, .unset, .unset, .unset, .unset, .unset, .unset, .unset] [])) _
    refine XS.iloadN X0.here hx rfl (hb hby at_11) rfl ?_
    show Steps p.tables e below (s₁.setTop (mkF m 12 #[.val (.int p0), .val (.int p1), .val (.int p2), .val (.int v1), .val (.int v3), .unset, .unset, .unset, .unset, .unset, .unset, .unset, .unset, .unset] [(.int p2)])) _
    refine XS.iconst X0.here hx rfl (hb hby at_12) ?_
    show Steps p.tables e below (s₁.setTop (mkF m 13 #[.val (.int p0), .val (.int p1), .val (.int p2), .val (.int v1), .val (.int v3), .unset, .unset, .unset, .unset, .unset, .unset, .unset, .unset, .unset] [(.int (1 : Int32)), (.int p2)])) _
    refine XS.iand X0.here hx rfl (hb hby at_13) rfl ?_
    exact k
  obtain ⟨v9, hv9⟩ : ∃ z : Int32, z = (if (p2 &&& (1 : Int32)) = (0 : Int32) then (0 : Int32) else (1 : Int32)) := ⟨_, rfl⟩
  have st10 : ∀ t, Steps p.tables e below (s₁.setTop (mkF m 22 #[.val (.int p0), .val (.int p1), .val (.int p2), .val (.int v1), .val (.int v3), .unset, .unset, .unset, .unset, .unset, .unset, .unset, .unset, .unset] [(.int v9)])) t → Steps p.tables e below (s₁.setTop (mkF m 14 #[.val (.int p0), .val (.int p1), .val (.int p2), .val (.int v1), .val (.int v3), .unset, .unset, .unset, .unset, .unset, .unset, .unset, .unset, .unset] [(.int (p2 &&& (1 : Int32)))])) t := by
    rw [hv9]
    by_cases hc14_6 : (p2 &&& (1 : Int32)) = (0 : Int32)
    · repeat rw [if_pos hc14_6]
      have st7 : ∀ t, Steps p.tables e below (s₁.setTop (mkF m 22 #[.val (.int p0), .val (.int p1), .val (.int p2), .val (.int v1), .val (.int v3), .unset, .unset, .unset, .unset, .unset, .unset, .unset, .unset, .unset] [(.int (0 : Int32))])) t → Steps p.tables e below (s₁.setTop (mkF m 14 #[.val (.int p0), .val (.int p1), .val (.int p2), .val (.int v1), .val (.int v3), .unset, .unset, .unset, .unset, .unset, .unset, .unset, .unset, .unset] [(.int (p2 &&& (1 : Int32)))])) t := by
        intro t k
        show Steps p.tables e below (s₁.setTop (mkF m 14 #[.val (.int p0), .val (.int p1), .val (.int p2), .val (.int v1), .val (.int v3), .unset, .unset, .unset, .unset, .unset, .unset, .unset, .unset, .unset] [(.int (p2 &&& (1 : Int32)))])) _
        refine XS.ifYes X0.here hx rfl (pc0 := 14) (pc' := 21) rfl (hb hby at_14) rfl ((if0 _ _).trans (teq hc14_6).1) (by decide) (by decide) ?_
        show Steps p.tables e below (s₁.setTop (mkF m 21 #[.val (.int p0), .val (.int p1), .val (.int p2), .val (.int v1), .val (.int v3), .unset, .unset, .unset, .unset, .unset, .unset, .unset, .unset, .unset] [])) _
        refine XS.iconst X0.here hx rfl (hb hby at_21) ?_
        exact k
      exact fun t k => st7 _ k
    · repeat rw [if_neg hc14_6]
      have st8 : ∀ t, Steps p.tables e below (s₁.setTop (mkF m 22 #[.val (.int p0), .val (.int p1), .val (.int p2), .val (.int v1), .val (.int v3), .unset, .unset, .unset, .unset, .unset, .unset, .unset, .unset, .unset] [(.int (1 : Int32))])) t → Steps p.tables e below (s₁.setTop (mkF m 14 #[.val (.int p0), .val (.int p1), .val (.int p2), .val (.int v1), .val (.int v3), .unset, .unset, .unset, .unset, .unset, .unset, .unset, .unset, .unset] [(.int (p2 &&& (1 : Int32)))])) t := by
        intro t k
        show Steps p.tables e below (s₁.setTop (mkF m 14 #[.val (.int p0), .val (.int p1), .val (.int p2), .val (.int v1), .val (.int v3), .unset, .unset, .unset, .unset, .unset, .unset, .unset, .unset, .unset] [(.int (p2 &&& (1 : Int32)))])) _
        refine XS.ifNo X0.here hx rfl (hb hby at_14) rfl ((if0 _ _).trans (feq hc14_6).1) ?_
        show Steps p.tables e below (s₁.setTop (mkF m 17 #[.val (.int p0), .val (.int p1), .val (.int p2), .val (.int v1), .val (.int v3), .unset, .unset, .unset, .unset, .unset, .unset, .unset, .unset, .unset] [])) _
        refine XS.iconst X0.here hx rfl (hb hby at_17) ?_
        show Steps p.tables e below (s₁.setTop (mkF m 18 #[.val (.int p0), .val (.int p1), .val (.int p2), .val (.int v1), .val (.int v3), .unset, .unset, .unset, .unset, .unset, .unset, .unset, .unset, .unset] [(.int (1 : Int32))])) _
        refine XS.goto X0.here hx rfl (pc0 := 18) (pc' := 22) rfl (hb hby at_18) (by decide) (by decide) ?_
        exact k
      exact fun t k => st8 _ k
  have st11 : ∀ t, Steps p.tables e below (s₁.setTop (mkF m 25 #[.val (.int p0), .val (.int p1), .val (.int p2), .val (.int v1), .val (.int v3), .val (.int v9), .unset, .unset, .unset, .unset, .unset, .unset, .unset, .unset] [(.int (4 : Int32))])) t → Steps p.tables e below (s₁.setTop (mkF m 22 #[.val (.int p0), .val (.int p1), .val (.int p2), .val (.int v1), .val (.int v3), .unset, .unset, .unset, .unset, .unset, .unset, .unset, .unset, .unset] [(.int v9)])) t := by
    intro t k
    show Steps p.tables e below (s₁.setTop (mkF m 22 #[.val (.int p0), .val (.int p1), .val (.int p2), .val (.int v1), .val (.int v3), .unset, .unset, .unset, .unset, .unset, .unset, .unset, .unset, .unset] [(.int v9)])) _
    refine XS.istore X0.here hx rfl (hb hby at_22) rfl (l' := #[.val (.int p0), .val (.int p1), .val (.int p2), .val (.int v1), .val (.int v3), .val (.int v9), .unset, .unset, .unset, .unset, .unset, .unset, .unset, .unset]) rfl ?_
    show Steps p.tables e below (s₁.setTop (mkF m 24 #[.val (.int p0), .val (.int p1), .val (.int p2), .val (.int v1), .val (.int v3), .val (.int v9), .unset, .unset, .unset, .unset, .unset, .unset, .unset, .unset] [])) _
    refine XS.iconst X0.here hx rfl (hb hby at_24) ?_
    exact k
  obtain ⟨T12, h12, b12, X12, e12, K12, q12, V12, st12⟩ := own_newA X0 hx hZ (ty := .boolean) rfl (hw _ (List.mem_of_getElem? (i := 0) rfl)) rfl e0 (g := (mkF m 25 #[.val (.int p0), .val (.int p1), .val (.int p2), .val (.int v1), .val (.int v3), .val (.int v9), .unset, .unset, .unset, .unset, .unset, .unset, .unset, .unset] [(.int (4 : Int32))])) rfl (hb hby at_25) rfl (4) (by decide) (cap := 4) (by decide) (by decide) (by decide) (by decide)
  have X12 : Stand p l e room_1 s m #[(.int p0), (.int p1), (.int p2)] below meth c T12 [] 1 4 := X12
  have V12 : own_IA Z h12 b12 .boolean ([(0 : Int32), (0 : Int32), (0 : Int32), (0 : Int32)] : List Int32) := V12
  have g_b12 : n0 ≤ b12 := Nat.le_trans Z0 q12
  have Zp13 : n0 ≤ h12.size := Nat.le_trans Z0 K12.1
  have st14 : ∀ t, Steps p.tables e below (T12.setTop (mkF m 34 #[.val (.int p0), .val (.int p1), .val (.int p2), .val (.int v1), .val (.int v3), .val (.int v9), .val (.ref b12), .unset, .unset, .unset, .unset, .unset, .unset, .unset] [(.int (0 : Int32)), (.int v1), (.int (0 : Int32)), (.ref b12)])) t → Steps p.tables e below (T12.setTop (mkF m 27 #[.val (.int p0), .val (.int p1), .val (.int p2), .val (.int v1), .val (.int v3), .val (.int v9), .unset, .unset, .unset, .unset, .unset, .unset, .unset, .unset] [(.ref b12)])) t := by
    intro t k
    show Steps p.tables e below (T12.setTop (mkF m 27 #[.val (.int p0), .val (.int p1), .val (.int p2), .val (.int v1), .val (.int v3), .val (.int v9), .unset, .unset, .unset, .unset, .unset, .unset, .unset, .unset] [(.ref b12)])) _
    refine XS.astore X12.here hx rfl (hb hby at_27) rfl rfl (l' := #[.val (.int p0), .val (.int p1), .val (.int p2), .val (.int v1), .val (.int v3), .val (.int v9), .val (.ref b12), .unset, .unset, .unset, .unset, .unset, .unset, .unset]) rfl ?_
    show Steps p.tables e below (T12.setTop (mkF m 29 #[.val (.int p0), .val (.int p1), .val (.int p2), .val (.int v1), .val (.int v3), .val (.int v9), .val (.ref b12), .unset, .unset, .unset, .unset, .unset, .unset, .unset] [])) _
    refine XS.aload X12.here hx rfl (hb hby at_29) rfl rfl ?_
    show Steps p.tables e below (T12.setTop (mkF m 31 #[.val (.int p0), .val (.int p1), .val (.int p2), .val (.int v1), .val (.int v3), .val (.int v9), .val (.ref b12), .unset, .unset, .unset, .unset, .unset, .unset, .unset] [(.ref b12)])) _
    refine XS.iconst X12.here hx rfl (hb hby at_31) ?_
    show Steps p.tables e below (T12.setTop (mkF m 32 #[.val (.int p0), .val (.int p1), .val (.int p2), .val (.int v1), .val (.int v3), .val (.int v9), .val (.ref b12), .unset, .unset, .unset, .unset, .unset, .unset, .unset] [(.int (0 : Int32)), (.ref b12)])) _
    refine XS.iloadN X12.here hx rfl (hb hby at_32) rfl ?_
    show Steps p.tables e below (T12.setTop (mkF m 33 #[.val (.int p0), .val (.int p1), .val (.int p2), .val (.int v1), .val (.int v3), .val (.int v9), .val (.ref b12), .unset, .unset, .unset, .unset, .unset, .unset, .unset] [(.int v1), (.int (0 : Int32)), (.ref b12)])) _
    refine XS.iconst X12.here hx rfl (hb hby at_33) ?_
    exact k
  obtain ⟨_, _, ⟨T15, L15, k15, n15⟩, -, X15, ⟨Lc15, hQ15, l15, y15, z15⟩, st15⟩ := Jvm.LawKit.callS X12 hx (y := (⟨"com/example/evotempo/evotempo/problem/OneMaxFitnessAfterFlipsPinLaw", "bit", "(II)I"⟩ : MethodName)) hown (mvT hZ (hw _ (List.mem_of_getElem? (i := 1) rfl))) (mvT hZ (hw _ (List.mem_of_getElem? (i := 2) rfl))) (mvT hZ (hw _ (List.mem_of_getElem? (i := 3) rfl))) (mvT hZ (hw _ (List.mem_of_getElem? (i := 4) rfl))) (by decide) (backOf (W := 2) (own_rm1 l Z a0 hw [] v1 (0 : Int32) h12) hZ (hw _ (List.mem_of_getElem? (i := 4) rfl)) (hw _ (List.mem_of_getElem? (i := 3) rfl)) (by decide) (by decide)) (g := (mkF m 34 #[.val (.int p0), .val (.int p1), .val (.int p2), .val (.int v1), .val (.int v3), .val (.int v9), .val (.ref b12), .unset, .unset, .unset, .unset, .unset, .unset, .unset] [(.int (0 : Int32)), (.int v1), (.int (0 : Int32)), (.ref b12)])) rfl (by rw [hml]; rfl) (argsL := [(.int v1), (.int (0 : Int32))]) (rest := [(.int (0 : Int32)), (.ref b12)]) (lenOf own_pd0 rfl) rfl (by show 2 * 0 + _ ≤ _; exact Nat.le_of_eq rfl) (hb hby at_34) (fun _ _ => ⟨rfl, e12, (by decide : 1 + 0 ≤ _), (by decide : 4 + 0 ≤ _)⟩)
  dsimp only [Pt.U, Pt.locs, Pt.cells, Pt.slots] at X15 l15 y15 z15 st15 hQ15
  subst y15 z15
  obtain ⟨rfl, rfl, e15⟩ := hQ15
  have X15' : Stand p l e room_1 s m #[(.int p0), (.int p1), (.int p2)] below meth c T15 [] 1 4 := by rw [show L15 = [] from by rw [l15]; first | rfl | exact List.append_nil _] at X15; exact X15
  obtain ⟨v16, hv16⟩ : ∃ z : Int32, z = (own_F1 v1 (0 : Int32)) := ⟨_, rfl⟩
  rw [← hv16] at st15
  have st17 : ∀ t, Steps p.tables e below (T15.setTop (mkF m 38 #[.val (.int p0), .val (.int p1), .val (.int p2), .val (.int v1), .val (.int v3), .val (.int v9), .val (.ref b12), .unset, .unset, .unset, .unset, .unset, .unset, .unset] [(.int (1 : Int32)), (.int v16), (.int (0 : Int32)), (.ref b12)])) t → Steps p.tables e below (T15.setTop (mkF m 37 #[.val (.int p0), .val (.int p1), .val (.int p2), .val (.int v1), .val (.int v3), .val (.int v9), .val (.ref b12), .unset, .unset, .unset, .unset, .unset, .unset, .unset] [(.int v16), (.int (0 : Int32)), (.ref b12)])) t := by
    intro t k
    show Steps p.tables e below (T15.setTop (mkF m 37 #[.val (.int p0), .val (.int p1), .val (.int p2), .val (.int v1), .val (.int v3), .val (.int v9), .val (.ref b12), .unset, .unset, .unset, .unset, .unset, .unset, .unset] [(.int v16), (.int (0 : Int32)), (.ref b12)])) _
    refine XS.iconst X15'.here hx rfl (hb hby at_37) ?_
    exact k
  obtain ⟨v21, hv21⟩ : ∃ z : Int32, z = (if v16 = (1 : Int32) then (1 : Int32) else (0 : Int32)) := ⟨_, rfl⟩
  have st22 : ∀ t, Steps p.tables e below (T15.setTop (mkF m 46 #[.val (.int p0), .val (.int p1), .val (.int p2), .val (.int v1), .val (.int v3), .val (.int v9), .val (.ref b12), .unset, .unset, .unset, .unset, .unset, .unset, .unset] [(.int v21), (.int (0 : Int32)), (.ref b12)])) t → Steps p.tables e below (T15.setTop (mkF m 38 #[.val (.int p0), .val (.int p1), .val (.int p2), .val (.int v1), .val (.int v3), .val (.int v9), .val (.ref b12), .unset, .unset, .unset, .unset, .unset, .unset, .unset] [(.int (1 : Int32)), (.int v16), (.int (0 : Int32)), (.ref b12)])) t := by
    rw [hv21]
    by_cases hc38_18 : v16 = (1 : Int32)
    · repeat rw [if_pos hc38_18]
      have st19 : ∀ t, Steps p.tables e below (T15.setTop (mkF m 46 #[.val (.int p0), .val (.int p1), .val (.int p2), .val (.int v1), .val (.int v3), .val (.int v9), .val (.ref b12), .unset, .unset, .unset, .unset, .unset, .unset, .unset] [(.int (1 : Int32)), (.int (0 : Int32)), (.ref b12)])) t → Steps p.tables e below (T15.setTop (mkF m 38 #[.val (.int p0), .val (.int p1), .val (.int p2), .val (.int v1), .val (.int v3), .val (.int v9), .val (.ref b12), .unset, .unset, .unset, .unset, .unset, .unset, .unset] [(.int (1 : Int32)), (.int v16), (.int (0 : Int32)), (.ref b12)])) t := by
        intro t k
        show Steps p.tables e below (T15.setTop (mkF m 38 #[.val (.int p0), .val (.int p1), .val (.int p2), .val (.int v1), .val (.int v3), .val (.int v9), .val (.ref b12), .unset, .unset, .unset, .unset, .unset, .unset, .unset] [(.int (1 : Int32)), (.int v16), (.int (0 : Int32)), (.ref b12)])) _
        refine XS.icmpNo X15'.here hx rfl (hb hby at_38) rfl (teq hc38_18).2 ?_
        show Steps p.tables e below (T15.setTop (mkF m 41 #[.val (.int p0), .val (.int p1), .val (.int p2), .val (.int v1), .val (.int v3), .val (.int v9), .val (.ref b12), .unset, .unset, .unset, .unset, .unset, .unset, .unset] [(.int (0 : Int32)), (.ref b12)])) _
        refine XS.iconst X15'.here hx rfl (hb hby at_41) ?_
        show Steps p.tables e below (T15.setTop (mkF m 42 #[.val (.int p0), .val (.int p1), .val (.int p2), .val (.int v1), .val (.int v3), .val (.int v9), .val (.ref b12), .unset, .unset, .unset, .unset, .unset, .unset, .unset] [(.int (1 : Int32)), (.int (0 : Int32)), (.ref b12)])) _
        refine XS.goto X15'.here hx rfl (pc0 := 42) (pc' := 46) rfl (hb hby at_42) (by decide) (by decide) ?_
        exact k
      exact fun t k => st19 _ k
    · repeat rw [if_neg hc38_18]
      have st20 : ∀ t, Steps p.tables e below (T15.setTop (mkF m 46 #[.val (.int p0), .val (.int p1), .val (.int p2), .val (.int v1), .val (.int v3), .val (.int v9), .val (.ref b12), .unset, .unset, .unset, .unset, .unset, .unset, .unset] [(.int (0 : Int32)), (.int (0 : Int32)), (.ref b12)])) t → Steps p.tables e below (T15.setTop (mkF m 38 #[.val (.int p0), .val (.int p1), .val (.int p2), .val (.int v1), .val (.int v3), .val (.int v9), .val (.ref b12), .unset, .unset, .unset, .unset, .unset, .unset, .unset] [(.int (1 : Int32)), (.int v16), (.int (0 : Int32)), (.ref b12)])) t := by
        intro t k
        show Steps p.tables e below (T15.setTop (mkF m 38 #[.val (.int p0), .val (.int p1), .val (.int p2), .val (.int v1), .val (.int v3), .val (.int v9), .val (.ref b12), .unset, .unset, .unset, .unset, .unset, .unset, .unset] [(.int (1 : Int32)), (.int v16), (.int (0 : Int32)), (.ref b12)])) _
        refine XS.icmpYes X15'.here hx rfl (pc0 := 38) (pc' := 45) rfl (hb hby at_38) rfl (feq hc38_18).2 (by decide) (by decide) ?_
        show Steps p.tables e below (T15.setTop (mkF m 45 #[.val (.int p0), .val (.int p1), .val (.int p2), .val (.int v1), .val (.int v3), .val (.int v9), .val (.ref b12), .unset, .unset, .unset, .unset, .unset, .unset, .unset] [(.int (0 : Int32)), (.ref b12)])) _
        refine XS.iconst X15'.here hx rfl (hb hby at_45) ?_
        exact k
      exact fun t k => st20 _ k
  obtain ⟨T23, h23, L23, X23, N23, e23, K23, V23, st23⟩ := own_bastoreZ X15' hx hZ N0 e15 V12 (j := (0 : Int32)) (own_in (m := 4) rfl (by decide)) g_b12 (g := (mkF m 46 #[.val (.int p0), .val (.int p1), .val (.int p2), .val (.int v1), .val (.int v3), .val (.int v9), .val (.ref b12), .unset, .unset, .unset, .unset, .unset, .unset, .unset] [(.int v21), (.int (0 : Int32)), (.ref b12)])) rfl rfl (hb hby at_46)
  have V23 : own_IA Z h23 b12 .boolean ([(nar .boolean v21), (0 : Int32), (0 : Int32), (0 : Int32)] : List Int32) := V23
  have Zp24 : n0 ≤ h23.size := Nat.le_trans Zp13 K23.1
  have st25 : ∀ t, Steps p.tables e below (T23.setTop (mkF m 52 #[.val (.int p0), .val (.int p1), .val (.int p2), .val (.int v1), .val (.int v3), .val (.int v9), .val (.ref b12), .unset, .unset, .unset, .unset, .unset, .unset, .unset] [(.int (1 : Int32)), (.int v1), (.int (1 : Int32)), (.ref b12)])) t → Steps p.tables e below (T23.setTop (mkF m 47 #[.val (.int p0), .val (.int p1), .val (.int p2), .val (.int v1), .val (.int v3), .val (.int v9), .val (.ref b12), .unset, .unset, .unset, .unset, .unset, .unset, .unset] [])) t := by
    intro t k
    show Steps p.tables e below (T23.setTop (mkF m 47 #[.val (.int p0), .val (.int p1), .val (.int p2), .val (.int v1), .val (.int v3), .val (.int v9), .val (.ref b12), .unset, .unset, .unset, .unset, .unset, .unset, .unset] [])) _
    refine XS.aload X23.here hx rfl (hb hby at_47) rfl rfl ?_
    show Steps p.tables e below (T23.setTop (mkF m 49 #[.val (.int p0), .val (.int p1), .val (.int p2), .val (.int v1), .val (.int v3), .val (.int v9), .val (.ref b12), .unset, .unset, .unset, .unset, .unset, .unset, .unset] [(.ref b12)])) _
    refine XS.iconst X23.here hx rfl (hb hby at_49) ?_
    show Steps p.tables e below (T23.setTop (mkF m 50 #[.val (.int p0), .val (.int p1), .val (.int p2), .val (.int v1), .val (.int v3), .val (.int v9), .val (.ref b12), .unset, .unset, .unset, .unset, .unset, .unset, .unset] [(.int (1 : Int32)), (.ref b12)])) _
    refine XS.iloadN X23.here hx rfl (hb hby at_50) rfl ?_
    show Steps p.tables e below (T23.setTop (mkF m 51 #[.val (.int p0), .val (.int p1), .val (.int p2), .val (.int v1), .val (.int v3), .val (.int v9), .val (.ref b12), .unset, .unset, .unset, .unset, .unset, .unset, .unset] [(.int v1), (.int (1 : Int32)), (.ref b12)])) _
    refine XS.iconst X23.here hx rfl (hb hby at_51) ?_
    exact k
  obtain ⟨_, _, ⟨T26, L26, k26, n26⟩, -, X26, ⟨Lc26, hQ26, l26, y26, z26⟩, st26⟩ := Jvm.LawKit.callS X23 hx (y := (⟨"com/example/evotempo/evotempo/problem/OneMaxFitnessAfterFlipsPinLaw", "bit", "(II)I"⟩ : MethodName)) hown (mvT hZ (hw _ (List.mem_of_getElem? (i := 1) rfl))) (mvT hZ (hw _ (List.mem_of_getElem? (i := 2) rfl))) (mvT hZ (hw _ (List.mem_of_getElem? (i := 3) rfl))) (mvT hZ (hw _ (List.mem_of_getElem? (i := 4) rfl))) (by decide) (backOf (W := 2) (own_rm1 l Z a0 hw [] v1 (1 : Int32) h23) hZ (hw _ (List.mem_of_getElem? (i := 4) rfl)) (hw _ (List.mem_of_getElem? (i := 3) rfl)) (by decide) (by decide)) (g := (mkF m 52 #[.val (.int p0), .val (.int p1), .val (.int p2), .val (.int v1), .val (.int v3), .val (.int v9), .val (.ref b12), .unset, .unset, .unset, .unset, .unset, .unset, .unset] [(.int (1 : Int32)), (.int v1), (.int (1 : Int32)), (.ref b12)])) rfl (by rw [hml]; rfl) (argsL := [(.int v1), (.int (1 : Int32))]) (rest := [(.int (1 : Int32)), (.ref b12)]) (lenOf own_pd0 rfl) rfl (by show 2 * 0 + _ ≤ _; exact Nat.le_of_eq rfl) (hb hby at_52) (fun _ _ => ⟨rfl, e23, (by decide : 1 + 0 ≤ _), (by decide : 4 + 0 ≤ _)⟩)
  dsimp only [Pt.U, Pt.locs, Pt.cells, Pt.slots] at X26 l26 y26 z26 st26 hQ26
  subst y26 z26
  obtain ⟨rfl, rfl, e26⟩ := hQ26
  have X26' : Stand p l e room_1 s m #[(.int p0), (.int p1), (.int p2)] below meth c T26 L23 1 4 := by rw [show L26 = L23 from by rw [l26]; first | rfl | exact List.append_nil _] at X26; exact X26
  obtain ⟨v27, hv27⟩ : ∃ z : Int32, z = (own_F1 v1 (1 : Int32)) := ⟨_, rfl⟩
  rw [← hv27] at st26
  have st28 : ∀ t, Steps p.tables e below (T26.setTop (mkF m 56 #[.val (.int p0), .val (.int p1), .val (.int p2), .val (.int v1), .val (.int v3), .val (.int v9), .val (.ref b12), .unset, .unset, .unset, .unset, .unset, .unset, .unset] [(.int (1 : Int32)), (.int v27), (.int (1 : Int32)), (.ref b12)])) t → Steps p.tables e below (T26.setTop (mkF m 55 #[.val (.int p0), .val (.int p1), .val (.int p2), .val (.int v1), .val (.int v3), .val (.int v9), .val (.ref b12), .unset, .unset, .unset, .unset, .unset, .unset, .unset] [(.int v27), (.int (1 : Int32)), (.ref b12)])) t := by
    intro t k
    show Steps p.tables e below (T26.setTop (mkF m 55 #[.val (.int p0), .val (.int p1), .val (.int p2), .val (.int v1), .val (.int v3), .val (.int v9), .val (.ref b12), .unset, .unset, .unset, .unset, .unset, .unset, .unset] [(.int v27), (.int (1 : Int32)), (.ref b12)])) _
    refine XS.iconst X26'.here hx rfl (hb hby at_55) ?_
    exact k
  obtain ⟨v32, hv32⟩ : ∃ z : Int32, z = (if v27 = (1 : Int32) then (1 : Int32) else (0 : Int32)) := ⟨_, rfl⟩
  have st33 : ∀ t, Steps p.tables e below (T26.setTop (mkF m 64 #[.val (.int p0), .val (.int p1), .val (.int p2), .val (.int v1), .val (.int v3), .val (.int v9), .val (.ref b12), .unset, .unset, .unset, .unset, .unset, .unset, .unset] [(.int v32), (.int (1 : Int32)), (.ref b12)])) t → Steps p.tables e below (T26.setTop (mkF m 56 #[.val (.int p0), .val (.int p1), .val (.int p2), .val (.int v1), .val (.int v3), .val (.int v9), .val (.ref b12), .unset, .unset, .unset, .unset, .unset, .unset, .unset] [(.int (1 : Int32)), (.int v27), (.int (1 : Int32)), (.ref b12)])) t := by
    rw [hv32]
    by_cases hc56_29 : v27 = (1 : Int32)
    · repeat rw [if_pos hc56_29]
      have st30 : ∀ t, Steps p.tables e below (T26.setTop (mkF m 64 #[.val (.int p0), .val (.int p1), .val (.int p2), .val (.int v1), .val (.int v3), .val (.int v9), .val (.ref b12), .unset, .unset, .unset, .unset, .unset, .unset, .unset] [(.int (1 : Int32)), (.int (1 : Int32)), (.ref b12)])) t → Steps p.tables e below (T26.setTop (mkF m 56 #[.val (.int p0), .val (.int p1), .val (.int p2), .val (.int v1), .val (.int v3), .val (.int v9), .val (.ref b12), .unset, .unset, .unset, .unset, .unset, .unset, .unset] [(.int (1 : Int32)), (.int v27), (.int (1 : Int32)), (.ref b12)])) t := by
        intro t k
        show Steps p.tables e below (T26.setTop (mkF m 56 #[.val (.int p0), .val (.int p1), .val (.int p2), .val (.int v1), .val (.int v3), .val (.int v9), .val (.ref b12), .unset, .unset, .unset, .unset, .unset, .unset, .unset] [(.int (1 : Int32)), (.int v27), (.int (1 : Int32)), (.ref b12)])) _
        refine XS.icmpNo X26'.here hx rfl (hb hby at_56) rfl (teq hc56_29).2 ?_
        show Steps p.tables e below (T26.setTop (mkF m 59 #[.val (.int p0), .val (.int p1), .val (.int p2), .val (.int v1), .val (.int v3), .val (.int v9), .val (.ref b12), .unset, .unset, .unset, .unset, .unset, .unset, .unset] [(.int (1 : Int32)), (.ref b12)])) _
        refine XS.iconst X26'.here hx rfl (hb hby at_59) ?_
        show Steps p.tables e below (T26.setTop (mkF m 60 #[.val (.int p0), .val (.int p1), .val (.int p2), .val (.int v1), .val (.int v3), .val (.int v9), .val (.ref b12), .unset, .unset, .unset, .unset, .unset, .unset, .unset] [(.int (1 : Int32)), (.int (1 : Int32)), (.ref b12)])) _
        refine XS.goto X26'.here hx rfl (pc0 := 60) (pc' := 64) rfl (hb hby at_60) (by decide) (by decide) ?_
        exact k
      exact fun t k => st30 _ k
    · repeat rw [if_neg hc56_29]
      have st31 : ∀ t, Steps p.tables e below (T26.setTop (mkF m 64 #[.val (.int p0), .val (.int p1), .val (.int p2), .val (.int v1), .val (.int v3), .val (.int v9), .val (.ref b12), .unset, .unset, .unset, .unset, .unset, .unset, .unset] [(.int (0 : Int32)), (.int (1 : Int32)), (.ref b12)])) t → Steps p.tables e below (T26.setTop (mkF m 56 #[.val (.int p0), .val (.int p1), .val (.int p2), .val (.int v1), .val (.int v3), .val (.int v9), .val (.ref b12), .unset, .unset, .unset, .unset, .unset, .unset, .unset] [(.int (1 : Int32)), (.int v27), (.int (1 : Int32)), (.ref b12)])) t := by
        intro t k
        show Steps p.tables e below (T26.setTop (mkF m 56 #[.val (.int p0), .val (.int p1), .val (.int p2), .val (.int v1), .val (.int v3), .val (.int v9), .val (.ref b12), .unset, .unset, .unset, .unset, .unset, .unset, .unset] [(.int (1 : Int32)), (.int v27), (.int (1 : Int32)), (.ref b12)])) _
        refine XS.icmpYes X26'.here hx rfl (pc0 := 56) (pc' := 63) rfl (hb hby at_56) rfl (feq hc56_29).2 (by decide) (by decide) ?_
        show Steps p.tables e below (T26.setTop (mkF m 63 #[.val (.int p0), .val (.int p1), .val (.int p2), .val (.int v1), .val (.int v3), .val (.int v9), .val (.ref b12), .unset, .unset, .unset, .unset, .unset, .unset, .unset] [(.int (1 : Int32)), (.ref b12)])) _
        refine XS.iconst X26'.here hx rfl (hb hby at_63) ?_
        exact k
      exact fun t k => st31 _ k
  obtain ⟨T34, h34, L34, X34, N34, e34, K34, V34, st34⟩ := own_bastoreZ X26' hx hZ N23 e26 V23 (j := (1 : Int32)) (own_in (m := 4) rfl (by decide)) g_b12 (g := (mkF m 64 #[.val (.int p0), .val (.int p1), .val (.int p2), .val (.int v1), .val (.int v3), .val (.int v9), .val (.ref b12), .unset, .unset, .unset, .unset, .unset, .unset, .unset] [(.int v32), (.int (1 : Int32)), (.ref b12)])) rfl rfl (hb hby at_64)
  have V34 : own_IA Z h34 b12 .boolean ([(nar .boolean v21), (nar .boolean v32), (0 : Int32), (0 : Int32)] : List Int32) := V34
  have Zp35 : n0 ≤ h34.size := Nat.le_trans Zp24 K34.1
  have st36 : ∀ t, Steps p.tables e below (T34.setTop (mkF m 70 #[.val (.int p0), .val (.int p1), .val (.int p2), .val (.int v1), .val (.int v3), .val (.int v9), .val (.ref b12), .unset, .unset, .unset, .unset, .unset, .unset, .unset] [(.int (2 : Int32)), (.int v1), (.int (2 : Int32)), (.ref b12)])) t → Steps p.tables e below (T34.setTop (mkF m 65 #[.val (.int p0), .val (.int p1), .val (.int p2), .val (.int v1), .val (.int v3), .val (.int v9), .val (.ref b12), .unset, .unset, .unset, .unset, .unset, .unset, .unset] [])) t := by
    intro t k
    show Steps p.tables e below (T34.setTop (mkF m 65 #[.val (.int p0), .val (.int p1), .val (.int p2), .val (.int v1), .val (.int v3), .val (.int v9), .val (.ref b12), .unset, .unset, .unset, .unset, .unset, .unset, .unset] [])) _
    refine XS.aload X34.here hx rfl (hb hby at_65) rfl rfl ?_
    show Steps p.tables e below (T34.setTop (mkF m 67 #[.val (.int p0), .val (.int p1), .val (.int p2), .val (.int v1), .val (.int v3), .val (.int v9), .val (.ref b12), .unset, .unset, .unset, .unset, .unset, .unset, .unset] [(.ref b12)])) _
    refine XS.iconst X34.here hx rfl (hb hby at_67) ?_
    show Steps p.tables e below (T34.setTop (mkF m 68 #[.val (.int p0), .val (.int p1), .val (.int p2), .val (.int v1), .val (.int v3), .val (.int v9), .val (.ref b12), .unset, .unset, .unset, .unset, .unset, .unset, .unset] [(.int (2 : Int32)), (.ref b12)])) _
    refine XS.iloadN X34.here hx rfl (hb hby at_68) rfl ?_
    show Steps p.tables e below (T34.setTop (mkF m 69 #[.val (.int p0), .val (.int p1), .val (.int p2), .val (.int v1), .val (.int v3), .val (.int v9), .val (.ref b12), .unset, .unset, .unset, .unset, .unset, .unset, .unset] [(.int v1), (.int (2 : Int32)), (.ref b12)])) _
    refine XS.iconst X34.here hx rfl (hb hby at_69) ?_
    exact k
  obtain ⟨_, _, ⟨T37, L37, k37, n37⟩, -, X37, ⟨Lc37, hQ37, l37, y37, z37⟩, st37⟩ := Jvm.LawKit.callS X34 hx (y := (⟨"com/example/evotempo/evotempo/problem/OneMaxFitnessAfterFlipsPinLaw", "bit", "(II)I"⟩ : MethodName)) hown (mvT hZ (hw _ (List.mem_of_getElem? (i := 1) rfl))) (mvT hZ (hw _ (List.mem_of_getElem? (i := 2) rfl))) (mvT hZ (hw _ (List.mem_of_getElem? (i := 3) rfl))) (mvT hZ (hw _ (List.mem_of_getElem? (i := 4) rfl))) (by decide) (backOf (W := 2) (own_rm1 l Z a0 hw [] v1 (2 : Int32) h34) hZ (hw _ (List.mem_of_getElem? (i := 4) rfl)) (hw _ (List.mem_of_getElem? (i := 3) rfl)) (by decide) (by decide)) (g := (mkF m 70 #[.val (.int p0), .val (.int p1), .val (.int p2), .val (.int v1), .val (.int v3), .val (.int v9), .val (.ref b12), .unset, .unset, .unset, .unset, .unset, .unset, .unset] [(.int (2 : Int32)), (.int v1), (.int (2 : Int32)), (.ref b12)])) rfl (by rw [hml]; rfl) (argsL := [(.int v1), (.int (2 : Int32))]) (rest := [(.int (2 : Int32)), (.ref b12)]) (lenOf own_pd0 rfl) rfl (by show 2 * 0 + _ ≤ _; exact Nat.le_of_eq rfl) (hb hby at_70) (fun _ _ => ⟨rfl, e34, (by decide : 1 + 0 ≤ _), (by decide : 4 + 0 ≤ _)⟩)
  dsimp only [Pt.U, Pt.locs, Pt.cells, Pt.slots] at X37 l37 y37 z37 st37 hQ37
  subst y37 z37
  obtain ⟨rfl, rfl, e37⟩ := hQ37
  have X37' : Stand p l e room_1 s m #[(.int p0), (.int p1), (.int p2)] below meth c T37 L34 1 4 := by rw [show L37 = L34 from by rw [l37]; first | rfl | exact List.append_nil _] at X37; exact X37
  obtain ⟨v38, hv38⟩ : ∃ z : Int32, z = (own_F1 v1 (2 : Int32)) := ⟨_, rfl⟩
  rw [← hv38] at st37
  have st39 : ∀ t, Steps p.tables e below (T37.setTop (mkF m 74 #[.val (.int p0), .val (.int p1), .val (.int p2), .val (.int v1), .val (.int v3), .val (.int v9), .val (.ref b12), .unset, .unset, .unset, .unset, .unset, .unset, .unset] [(.int (1 : Int32)), (.int v38), (.int (2 : Int32)), (.ref b12)])) t → Steps p.tables e below (T37.setTop (mkF m 73 #[.val (.int p0), .val (.int p1), .val (.int p2), .val (.int v1), .val (.int v3), .val (.int v9), .val (.ref b12), .unset, .unset, .unset, .unset, .unset, .unset, .unset] [(.int v38), (.int (2 : Int32)), (.ref b12)])) t := by
    intro t k
    show Steps p.tables e below (T37.setTop (mkF m 73 #[.val (.int p0), .val (.int p1), .val (.int p2), .val (.int v1), .val (.int v3), .val (.int v9), .val (.ref b12), .unset, .unset, .unset, .unset, .unset, .unset, .unset] [(.int v38), (.int (2 : Int32)), (.ref b12)])) _
    refine XS.iconst X37'.here hx rfl (hb hby at_73) ?_
    exact k
  obtain ⟨v43, hv43⟩ : ∃ z : Int32, z = (if v38 = (1 : Int32) then (1 : Int32) else (0 : Int32)) := ⟨_, rfl⟩
  have st44 : ∀ t, Steps p.tables e below (T37.setTop (mkF m 82 #[.val (.int p0), .val (.int p1), .val (.int p2), .val (.int v1), .val (.int v3), .val (.int v9), .val (.ref b12), .unset, .unset, .unset, .unset, .unset, .unset, .unset] [(.int v43), (.int (2 : Int32)), (.ref b12)])) t → Steps p.tables e below (T37.setTop (mkF m 74 #[.val (.int p0), .val (.int p1), .val (.int p2), .val (.int v1), .val (.int v3), .val (.int v9), .val (.ref b12), .unset, .unset, .unset, .unset, .unset, .unset, .unset] [(.int (1 : Int32)), (.int v38), (.int (2 : Int32)), (.ref b12)])) t := by
    rw [hv43]
    by_cases hc74_40 : v38 = (1 : Int32)
    · repeat rw [if_pos hc74_40]
      have st41 : ∀ t, Steps p.tables e below (T37.setTop (mkF m 82 #[.val (.int p0), .val (.int p1), .val (.int p2), .val (.int v1), .val (.int v3), .val (.int v9), .val (.ref b12), .unset, .unset, .unset, .unset, .unset, .unset, .unset] [(.int (1 : Int32)), (.int (2 : Int32)), (.ref b12)])) t → Steps p.tables e below (T37.setTop (mkF m 74 #[.val (.int p0), .val (.int p1), .val (.int p2), .val (.int v1), .val (.int v3), .val (.int v9), .val (.ref b12), .unset, .unset, .unset, .unset, .unset, .unset, .unset] [(.int (1 : Int32)), (.int v38), (.int (2 : Int32)), (.ref b12)])) t := by
        intro t k
        show Steps p.tables e below (T37.setTop (mkF m 74 #[.val (.int p0), .val (.int p1), .val (.int p2), .val (.int v1), .val (.int v3), .val (.int v9), .val (.ref b12), .unset, .unset, .unset, .unset, .unset, .unset, .unset] [(.int (1 : Int32)), (.int v38), (.int (2 : Int32)), (.ref b12)])) _
        refine XS.icmpNo X37'.here hx rfl (hb hby at_74) rfl (teq hc74_40).2 ?_
        show Steps p.tables e below (T37.setTop (mkF m 77 #[.val (.int p0), .val (.int p1), .val (.int p2), .val (.int v1), .val (.int v3), .val (.int v9), .val (.ref b12), .unset, .unset, .unset, .unset, .unset, .unset, .unset] [(.int (2 : Int32)), (.ref b12)])) _
        refine XS.iconst X37'.here hx rfl (hb hby at_77) ?_
        show Steps p.tables e below (T37.setTop (mkF m 78 #[.val (.int p0), .val (.int p1), .val (.int p2), .val (.int v1), .val (.int v3), .val (.int v9), .val (.ref b12), .unset, .unset, .unset, .unset, .unset, .unset, .unset] [(.int (1 : Int32)), (.int (2 : Int32)), (.ref b12)])) _
        refine XS.goto X37'.here hx rfl (pc0 := 78) (pc' := 82) rfl (hb hby at_78) (by decide) (by decide) ?_
        exact k
      exact fun t k => st41 _ k
    · repeat rw [if_neg hc74_40]
      have st42 : ∀ t, Steps p.tables e below (T37.setTop (mkF m 82 #[.val (.int p0), .val (.int p1), .val (.int p2), .val (.int v1), .val (.int v3), .val (.int v9), .val (.ref b12), .unset, .unset, .unset, .unset, .unset, .unset, .unset] [(.int (0 : Int32)), (.int (2 : Int32)), (.ref b12)])) t → Steps p.tables e below (T37.setTop (mkF m 74 #[.val (.int p0), .val (.int p1), .val (.int p2), .val (.int v1), .val (.int v3), .val (.int v9), .val (.ref b12), .unset, .unset, .unset, .unset, .unset, .unset, .unset] [(.int (1 : Int32)), (.int v38), (.int (2 : Int32)), (.ref b12)])) t := by
        intro t k
        show Steps p.tables e below (T37.setTop (mkF m 74 #[.val (.int p0), .val (.int p1), .val (.int p2), .val (.int v1), .val (.int v3), .val (.int v9), .val (.ref b12), .unset, .unset, .unset, .unset, .unset, .unset, .unset] [(.int (1 : Int32)), (.int v38), (.int (2 : Int32)), (.ref b12)])) _
        refine XS.icmpYes X37'.here hx rfl (pc0 := 74) (pc' := 81) rfl (hb hby at_74) rfl (feq hc74_40).2 (by decide) (by decide) ?_
        show Steps p.tables e below (T37.setTop (mkF m 81 #[.val (.int p0), .val (.int p1), .val (.int p2), .val (.int v1), .val (.int v3), .val (.int v9), .val (.ref b12), .unset, .unset, .unset, .unset, .unset, .unset, .unset] [(.int (2 : Int32)), (.ref b12)])) _
        refine XS.iconst X37'.here hx rfl (hb hby at_81) ?_
        exact k
      exact fun t k => st42 _ k
  obtain ⟨T45, h45, L45, X45, N45, e45, K45, V45, st45⟩ := own_bastoreZ X37' hx hZ N34 e37 V34 (j := (2 : Int32)) (own_in (m := 4) rfl (by decide)) g_b12 (g := (mkF m 82 #[.val (.int p0), .val (.int p1), .val (.int p2), .val (.int v1), .val (.int v3), .val (.int v9), .val (.ref b12), .unset, .unset, .unset, .unset, .unset, .unset, .unset] [(.int v43), (.int (2 : Int32)), (.ref b12)])) rfl rfl (hb hby at_82)
  have V45 : own_IA Z h45 b12 .boolean ([(nar .boolean v21), (nar .boolean v32), (nar .boolean v43), (0 : Int32)] : List Int32) := V45
  have Zp46 : n0 ≤ h45.size := Nat.le_trans Zp35 K45.1
  have st47 : ∀ t, Steps p.tables e below (T45.setTop (mkF m 88 #[.val (.int p0), .val (.int p1), .val (.int p2), .val (.int v1), .val (.int v3), .val (.int v9), .val (.ref b12), .unset, .unset, .unset, .unset, .unset, .unset, .unset] [(.int (3 : Int32)), (.int v1), (.int (3 : Int32)), (.ref b12)])) t → Steps p.tables e below (T45.setTop (mkF m 83 #[.val (.int p0), .val (.int p1), .val (.int p2), .val (.int v1), .val (.int v3), .val (.int v9), .val (.ref b12), .unset, .unset, .unset, .unset, .unset, .unset, .unset] [])) t := by
    intro t k
    show Steps p.tables e below (T45.setTop (mkF m 83 #[.val (.int p0), .val (.int p1), .val (.int p2), .val (.int v1), .val (.int v3), .val (.int v9), .val (.ref b12), .unset, .unset, .unset, .unset, .unset, .unset, .unset] [])) _
    refine XS.aload X45.here hx rfl (hb hby at_83) rfl rfl ?_
    show Steps p.tables e below (T45.setTop (mkF m 85 #[.val (.int p0), .val (.int p1), .val (.int p2), .val (.int v1), .val (.int v3), .val (.int v9), .val (.ref b12), .unset, .unset, .unset, .unset, .unset, .unset, .unset] [(.ref b12)])) _
    refine XS.iconst X45.here hx rfl (hb hby at_85) ?_
    show Steps p.tables e below (T45.setTop (mkF m 86 #[.val (.int p0), .val (.int p1), .val (.int p2), .val (.int v1), .val (.int v3), .val (.int v9), .val (.ref b12), .unset, .unset, .unset, .unset, .unset, .unset, .unset] [(.int (3 : Int32)), (.ref b12)])) _
    refine XS.iloadN X45.here hx rfl (hb hby at_86) rfl ?_
    show Steps p.tables e below (T45.setTop (mkF m 87 #[.val (.int p0), .val (.int p1), .val (.int p2), .val (.int v1), .val (.int v3), .val (.int v9), .val (.ref b12), .unset, .unset, .unset, .unset, .unset, .unset, .unset] [(.int v1), (.int (3 : Int32)), (.ref b12)])) _
    refine XS.iconst X45.here hx rfl (hb hby at_87) ?_
    exact k
  obtain ⟨_, _, ⟨T48, L48, k48, n48⟩, -, X48, ⟨Lc48, hQ48, l48, y48, z48⟩, st48⟩ := Jvm.LawKit.callS X45 hx (y := (⟨"com/example/evotempo/evotempo/problem/OneMaxFitnessAfterFlipsPinLaw", "bit", "(II)I"⟩ : MethodName)) hown (mvT hZ (hw _ (List.mem_of_getElem? (i := 1) rfl))) (mvT hZ (hw _ (List.mem_of_getElem? (i := 2) rfl))) (mvT hZ (hw _ (List.mem_of_getElem? (i := 3) rfl))) (mvT hZ (hw _ (List.mem_of_getElem? (i := 4) rfl))) (by decide) (backOf (W := 2) (own_rm1 l Z a0 hw [] v1 (3 : Int32) h45) hZ (hw _ (List.mem_of_getElem? (i := 4) rfl)) (hw _ (List.mem_of_getElem? (i := 3) rfl)) (by decide) (by decide)) (g := (mkF m 88 #[.val (.int p0), .val (.int p1), .val (.int p2), .val (.int v1), .val (.int v3), .val (.int v9), .val (.ref b12), .unset, .unset, .unset, .unset, .unset, .unset, .unset] [(.int (3 : Int32)), (.int v1), (.int (3 : Int32)), (.ref b12)])) rfl (by rw [hml]; rfl) (argsL := [(.int v1), (.int (3 : Int32))]) (rest := [(.int (3 : Int32)), (.ref b12)]) (lenOf own_pd0 rfl) rfl (by show 2 * 0 + _ ≤ _; exact Nat.le_of_eq rfl) (hb hby at_88) (fun _ _ => ⟨rfl, e45, (by decide : 1 + 0 ≤ _), (by decide : 4 + 0 ≤ _)⟩)
  dsimp only [Pt.U, Pt.locs, Pt.cells, Pt.slots] at X48 l48 y48 z48 st48 hQ48
  subst y48 z48
  obtain ⟨rfl, rfl, e48⟩ := hQ48
  have X48' : Stand p l e room_1 s m #[(.int p0), (.int p1), (.int p2)] below meth c T48 L45 1 4 := by rw [show L48 = L45 from by rw [l48]; first | rfl | exact List.append_nil _] at X48; exact X48
  obtain ⟨v49, hv49⟩ : ∃ z : Int32, z = (own_F1 v1 (3 : Int32)) := ⟨_, rfl⟩
  rw [← hv49] at st48
  have st50 : ∀ t, Steps p.tables e below (T48.setTop (mkF m 92 #[.val (.int p0), .val (.int p1), .val (.int p2), .val (.int v1), .val (.int v3), .val (.int v9), .val (.ref b12), .unset, .unset, .unset, .unset, .unset, .unset, .unset] [(.int (1 : Int32)), (.int v49), (.int (3 : Int32)), (.ref b12)])) t → Steps p.tables e below (T48.setTop (mkF m 91 #[.val (.int p0), .val (.int p1), .val (.int p2), .val (.int v1), .val (.int v3), .val (.int v9), .val (.ref b12), .unset, .unset, .unset, .unset, .unset, .unset, .unset] [(.int v49), (.int (3 : Int32)), (.ref b12)])) t := by
    intro t k
    show Steps p.tables e below (T48.setTop (mkF m 91 #[.val (.int p0), .val (.int p1), .val (.int p2), .val (.int v1), .val (.int v3), .val (.int v9), .val (.ref b12), .unset, .unset, .unset, .unset, .unset, .unset, .unset] [(.int v49), (.int (3 : Int32)), (.ref b12)])) _
    refine XS.iconst X48'.here hx rfl (hb hby at_91) ?_
    exact k
  obtain ⟨v54, hv54⟩ : ∃ z : Int32, z = (if v49 = (1 : Int32) then (1 : Int32) else (0 : Int32)) := ⟨_, rfl⟩
  have st55 : ∀ t, Steps p.tables e below (T48.setTop (mkF m 100 #[.val (.int p0), .val (.int p1), .val (.int p2), .val (.int v1), .val (.int v3), .val (.int v9), .val (.ref b12), .unset, .unset, .unset, .unset, .unset, .unset, .unset] [(.int v54), (.int (3 : Int32)), (.ref b12)])) t → Steps p.tables e below (T48.setTop (mkF m 92 #[.val (.int p0), .val (.int p1), .val (.int p2), .val (.int v1), .val (.int v3), .val (.int v9), .val (.ref b12), .unset, .unset, .unset, .unset, .unset, .unset, .unset] [(.int (1 : Int32)), (.int v49), (.int (3 : Int32)), (.ref b12)])) t := by
    rw [hv54]
    by_cases hc92_51 : v49 = (1 : Int32)
    · repeat rw [if_pos hc92_51]
      have st52 : ∀ t, Steps p.tables e below (T48.setTop (mkF m 100 #[.val (.int p0), .val (.int p1), .val (.int p2), .val (.int v1), .val (.int v3), .val (.int v9), .val (.ref b12), .unset, .unset, .unset, .unset, .unset, .unset, .unset] [(.int (1 : Int32)), (.int (3 : Int32)), (.ref b12)])) t → Steps p.tables e below (T48.setTop (mkF m 92 #[.val (.int p0), .val (.int p1), .val (.int p2), .val (.int v1), .val (.int v3), .val (.int v9), .val (.ref b12), .unset, .unset, .unset, .unset, .unset, .unset, .unset] [(.int (1 : Int32)), (.int v49), (.int (3 : Int32)), (.ref b12)])) t := by
        intro t k
        show Steps p.tables e below (T48.setTop (mkF m 92 #[.val (.int p0), .val (.int p1), .val (.int p2), .val (.int v1), .val (.int v3), .val (.int v9), .val (.ref b12), .unset, .unset, .unset, .unset, .unset, .unset, .unset] [(.int (1 : Int32)), (.int v49), (.int (3 : Int32)), (.ref b12)])) _
        refine XS.icmpNo X48'.here hx rfl (hb hby at_92) rfl (teq hc92_51).2 ?_
        show Steps p.tables e below (T48.setTop (mkF m 95 #[.val (.int p0), .val (.int p1), .val (.int p2), .val (.int v1), .val (.int v3), .val (.int v9), .val (.ref b12), .unset, .unset, .unset, .unset, .unset, .unset, .unset] [(.int (3 : Int32)), (.ref b12)])) _
        refine XS.iconst X48'.here hx rfl (hb hby at_95) ?_
        show Steps p.tables e below (T48.setTop (mkF m 96 #[.val (.int p0), .val (.int p1), .val (.int p2), .val (.int v1), .val (.int v3), .val (.int v9), .val (.ref b12), .unset, .unset, .unset, .unset, .unset, .unset, .unset] [(.int (1 : Int32)), (.int (3 : Int32)), (.ref b12)])) _
        refine XS.goto X48'.here hx rfl (pc0 := 96) (pc' := 100) rfl (hb hby at_96) (by decide) (by decide) ?_
        exact k
      exact fun t k => st52 _ k
    · repeat rw [if_neg hc92_51]
      have st53 : ∀ t, Steps p.tables e below (T48.setTop (mkF m 100 #[.val (.int p0), .val (.int p1), .val (.int p2), .val (.int v1), .val (.int v3), .val (.int v9), .val (.ref b12), .unset, .unset, .unset, .unset, .unset, .unset, .unset] [(.int (0 : Int32)), (.int (3 : Int32)), (.ref b12)])) t → Steps p.tables e below (T48.setTop (mkF m 92 #[.val (.int p0), .val (.int p1), .val (.int p2), .val (.int v1), .val (.int v3), .val (.int v9), .val (.ref b12), .unset, .unset, .unset, .unset, .unset, .unset, .unset] [(.int (1 : Int32)), (.int v49), (.int (3 : Int32)), (.ref b12)])) t := by
        intro t k
        show Steps p.tables e below (T48.setTop (mkF m 92 #[.val (.int p0), .val (.int p1), .val (.int p2), .val (.int v1), .val (.int v3), .val (.int v9), .val (.ref b12), .unset, .unset, .unset, .unset, .unset, .unset, .unset] [(.int (1 : Int32)), (.int v49), (.int (3 : Int32)), (.ref b12)])) _
        refine XS.icmpYes X48'.here hx rfl (pc0 := 92) (pc' := 99) rfl (hb hby at_92) rfl (feq hc92_51).2 (by decide) (by decide) ?_
        show Steps p.tables e below (T48.setTop (mkF m 99 #[.val (.int p0), .val (.int p1), .val (.int p2), .val (.int v1), .val (.int v3), .val (.int v9), .val (.ref b12), .unset, .unset, .unset, .unset, .unset, .unset, .unset] [(.int (3 : Int32)), (.ref b12)])) _
        refine XS.iconst X48'.here hx rfl (hb hby at_99) ?_
        exact k
      exact fun t k => st53 _ k
  obtain ⟨T56, h56, L56, X56, N56, e56, K56, V56, st56⟩ := own_bastoreZ X48' hx hZ N45 e48 V45 (j := (3 : Int32)) (own_in (m := 4) rfl (by decide)) g_b12 (g := (mkF m 100 #[.val (.int p0), .val (.int p1), .val (.int p2), .val (.int v1), .val (.int v3), .val (.int v9), .val (.ref b12), .unset, .unset, .unset, .unset, .unset, .unset, .unset] [(.int v54), (.int (3 : Int32)), (.ref b12)])) rfl rfl (hb hby at_100)
  have V56 : own_IA Z h56 b12 .boolean ([(nar .boolean v21), (nar .boolean v32), (nar .boolean v43), (nar .boolean v54)] : List Int32) := V56
  have Zp57 : n0 ≤ h56.size := Nat.le_trans Zp46 K56.1
  have st58 : ∀ t, Steps p.tables e below (T56.setTop (mkF m 102 #[.val (.int p0), .val (.int p1), .val (.int p2), .val (.int v1), .val (.int v3), .val (.int v9), .val (.ref b12), .unset, .unset, .unset, .unset, .unset, .unset, .unset] [(.int (4 : Int32))])) t → Steps p.tables e below (T56.setTop (mkF m 101 #[.val (.int p0), .val (.int p1), .val (.int p2), .val (.int v1), .val (.int v3), .val (.int v9), .val (.ref b12), .unset, .unset, .unset, .unset, .unset, .unset, .unset] [])) t := by
    intro t k
    show Steps p.tables e below (T56.setTop (mkF m 101 #[.val (.int p0), .val (.int p1), .val (.int p2), .val (.int v1), .val (.int v3), .val (.int v9), .val (.ref b12), .unset, .unset, .unset, .unset, .unset, .unset, .unset] [])) _
    refine XS.iconst X56.here hx rfl (hb hby at_101) ?_
    exact k
  obtain ⟨T59, h59, b59, X59, e59, K59, q59, V59, st59⟩ := own_newA X56 hx hZ (ty := .int) rfl (hw _ (List.mem_of_getElem? (i := 5) rfl)) rfl e56 (g := (mkF m 102 #[.val (.int p0), .val (.int p1), .val (.int p2), .val (.int v1), .val (.int v3), .val (.int v9), .val (.ref b12), .unset, .unset, .unset, .unset, .unset, .unset, .unset] [(.int (4 : Int32))])) rfl (hb hby at_102) rfl (4) (by decide) (cap := 4) (by decide) (by decide) (by decide) (by decide)
  have X59 : Stand p l e room_1 s m #[(.int p0), (.int p1), (.int p2)] below meth c T59 L56 2 8 := X59
  have V59 : own_IA Z h59 b59 .int ([(0 : Int32), (0 : Int32), (0 : Int32), (0 : Int32)] : List Int32) := V59
  have ne_b12_b59 : b12 ≠ b59 := own_ne V56.lt q59
  have g_b59 : n0 ≤ b59 := Nat.le_trans Zp57 q59
  have f60 : own_IA Z h59 b12 .boolean ([(nar .boolean v21), (nar .boolean v32), (nar .boolean v43), (nar .boolean v54)] : List Int32) := V56.keep K59 nin0
  have Zp61 : n0 ≤ h59.size := Nat.le_trans Zp57 K59.1
  have st62 : ∀ t, Steps p.tables e below (T59.setTop (mkF m 111 #[.val (.int p0), .val (.int p1), .val (.int p2), .val (.int v1), .val (.int v3), .val (.int v9), .val (.ref b12), .val (.ref b59), .val (.int (0 : Int32)), .unset, .unset, .unset, .unset, .unset] [(.int v9)])) t → Steps p.tables e below (T59.setTop (mkF m 104 #[.val (.int p0), .val (.int p1), .val (.int p2), .val (.int v1), .val (.int v3), .val (.int v9), .val (.ref b12), .unset, .unset, .unset, .unset, .unset, .unset, .unset] [(.ref b59)])) t := by
    intro t k
    show Steps p.tables e below (T59.setTop (mkF m 104 #[.val (.int p0), .val (.int p1), .val (.int p2), .val (.int v1), .val (.int v3), .val (.int v9), .val (.ref b12), .unset, .unset, .unset, .unset, .unset, .unset, .unset] [(.ref b59)])) _
    refine XS.astore X59.here hx rfl (hb hby at_104) rfl rfl (l' := #[.val (.int p0), .val (.int p1), .val (.int p2), .val (.int v1), .val (.int v3), .val (.int v9), .val (.ref b12), .val (.ref b59), .unset, .unset, .unset, .unset, .unset, .unset]) rfl ?_
    show Steps p.tables e below (T59.setTop (mkF m 106 #[.val (.int p0), .val (.int p1), .val (.int p2), .val (.int v1), .val (.int v3), .val (.int v9), .val (.ref b12), .val (.ref b59), .unset, .unset, .unset, .unset, .unset, .unset] [])) _
    refine XS.iconst X59.here hx rfl (hb hby at_106) ?_
    show Steps p.tables e below (T59.setTop (mkF m 107 #[.val (.int p0), .val (.int p1), .val (.int p2), .val (.int v1), .val (.int v3), .val (.int v9), .val (.ref b12), .val (.ref b59), .unset, .unset, .unset, .unset, .unset, .unset] [(.int (0 : Int32))])) _
    refine XS.istore X59.here hx rfl (hb hby at_107) rfl (l' := #[.val (.int p0), .val (.int p1), .val (.int p2), .val (.int v1), .val (.int v3), .val (.int v9), .val (.ref b12), .val (.ref b59), .val (.int (0 : Int32)), .unset, .unset, .unset, .unset, .unset]) rfl ?_
    show Steps p.tables e below (T59.setTop (mkF m 109 #[.val (.int p0), .val (.int p1), .val (.int p2), .val (.int v1), .val (.int v3), .val (.int v9), .val (.ref b12), .val (.ref b59), .val (.int (0 : Int32)), .unset, .unset, .unset, .unset, .unset] [])) _
    refine XS.iload X59.here hx rfl (hb hby at_109) rfl ?_
    exact k
  refine own_End.go (fun t k => st2 _ (st4 _ (st5 _ (st10 _ (st11 _ (st12 _ (st14 _ (st15 _ (st17 _ (st22 _ (st23 _ (st25 _ (st26 _ (st28 _ (st33 _ (st34 _ (st36 _ (st37 _ (st39 _ (st44 _ (st45 _ (st47 _ (st48 _ (st50 _ (st55 _ (st56 _ (st58 _ (st59 _ (st62 _ k))))))))))))))))))))))))))))) ?_
  by_cases hc111_63 : v9 = (0 : Int32)
  · have st64 : ∀ t, Steps p.tables e below (T59.setTop (mkF m 177 #[.val (.int p0), .val (.int p1), .val (.int p2), .val (.int v1), .val (.int v3), .val (.int v9), .val (.ref b12), .val (.ref b59), .val (.int (0 : Int32)), .unset, .unset, .unset, .unset, .unset] [(.int (1 : Int32)), (.int (0 : Int32)), (.int v3), (.int (0 : Int32)), (.ref b59)])) t → Steps p.tables e below (T59.setTop (mkF m 111 #[.val (.int p0), .val (.int p1), .val (.int p2), .val (.int v1), .val (.int v3), .val (.int v9), .val (.ref b12), .val (.ref b59), .val (.int (0 : Int32)), .unset, .unset, .unset, .unset, .unset] [(.int v9)])) t := by
      intro t k
      show Steps p.tables e below (T59.setTop (mkF m 111 #[.val (.int p0), .val (.int p1), .val (.int p2), .val (.int v1), .val (.int v3), .val (.int v9), .val (.ref b12), .val (.ref b59), .val (.int (0 : Int32)), .unset, .unset, .unset, .unset, .unset] [(.int v9)])) _
      refine XS.ifYes X59.here hx rfl (pc0 := 111) (pc' := 169) rfl (hb hby at_111) rfl ((if0 _ _).trans (teq hc111_63).1) (by decide) (by decide) ?_
      show Steps p.tables e below (T59.setTop (mkF m 169 #[.val (.int p0), .val (.int p1), .val (.int p2), .val (.int v1), .val (.int v3), .val (.int v9), .val (.ref b12), .val (.ref b59), .val (.int (0 : Int32)), .unset, .unset, .unset, .unset, .unset] [])) _
      refine XS.aload X59.here hx rfl (hb hby at_169) rfl rfl ?_
      show Steps p.tables e below (T59.setTop (mkF m 171 #[.val (.int p0), .val (.int p1), .val (.int p2), .val (.int v1), .val (.int v3), .val (.int v9), .val (.ref b12), .val (.ref b59), .val (.int (0 : Int32)), .unset, .unset, .unset, .unset, .unset] [(.ref b59)])) _
      refine XS.iload X59.here hx rfl (hb hby at_171) rfl ?_
      show Steps p.tables e below (T59.setTop (mkF m 173 #[.val (.int p0), .val (.int p1), .val (.int p2), .val (.int v1), .val (.int v3), .val (.int v9), .val (.ref b12), .val (.ref b59), .val (.int (0 : Int32)), .unset, .unset, .unset, .unset, .unset] [(.int (0 : Int32)), (.ref b59)])) _
      refine XS.iload X59.here hx rfl (hb hby at_173) rfl ?_
      show Steps p.tables e below (T59.setTop (mkF m 175 #[.val (.int p0), .val (.int p1), .val (.int p2), .val (.int v1), .val (.int v3), .val (.int v9), .val (.ref b12), .val (.ref b59), .val (.int (0 : Int32)), .unset, .unset, .unset, .unset, .unset] [(.int v3), (.int (0 : Int32)), (.ref b59)])) _
      refine XS.iconst X59.here hx rfl (hb hby at_175) ?_
      show Steps p.tables e below (T59.setTop (mkF m 176 #[.val (.int p0), .val (.int p1), .val (.int p2), .val (.int v1), .val (.int v3), .val (.int v9), .val (.ref b12), .val (.ref b59), .val (.int (0 : Int32)), .unset, .unset, .unset, .unset, .unset] [(.int (0 : Int32)), (.int v3), (.int (0 : Int32)), (.ref b59)])) _
      refine XS.iconst X59.here hx rfl (hb hby at_176) ?_
      exact k
    obtain ⟨_, _, ⟨T65, L65, k65, n65⟩, -, X65, ⟨Lc65, hQ65, l65, y65, z65⟩, st65⟩ := Jvm.LawKit.callS X59 hx (y := (⟨"com/example/evotempo/evotempo/problem/OneMaxFitnessAfterFlipsPinLaw", "put", "([IIIII)I"⟩ : MethodName)) hown (mvT hZ (hw _ (List.mem_of_getElem? (i := 6) rfl))) (mvT hZ (hw _ (List.mem_of_getElem? (i := 7) rfl))) (mvT hZ (hw _ (List.mem_of_getElem? (i := 3) rfl))) (mvT hZ (hw _ (List.mem_of_getElem? (i := 8) rfl))) (by decide) (backOf (W := 0) (own_rm2 l Z a0 hw [] b59 (0 : Int32) v3 (0 : Int32) (1 : Int32) ([(0 : Int32), (0 : Int32), (0 : Int32), (0 : Int32)] : List Int32) h59 n0 Zp61 V59 g_b59 (own_h0_66 hv1 hv3 hv9 hv16 hv21 hv27 hv32 hv38 hv43 hv49 hv54 hc111_63)) hZ (hw _ (List.mem_of_getElem? (i := 8) rfl)) (hw _ (List.mem_of_getElem? (i := 3) rfl)) (by decide) (by decide)) (g := (mkF m 177 #[.val (.int p0), .val (.int p1), .val (.int p2), .val (.int v1), .val (.int v3), .val (.int v9), .val (.ref b12), .val (.ref b59), .val (.int (0 : Int32)), .unset, .unset, .unset, .unset, .unset] [(.int (1 : Int32)), (.int (0 : Int32)), (.int v3), (.int (0 : Int32)), (.ref b59)])) rfl (by rw [hml]; rfl) (argsL := [(.ref b59), (.int (0 : Int32)), (.int v3), (.int (0 : Int32)), (.int (1 : Int32))]) (rest := []) (lenOf own_pd1 rfl) rfl (by show 2 * 0 + _ ≤ _; exact Nat.le_of_eq rfl) (hb hby at_177) (fun _ _ => ⟨rfl, e59, (by decide : 2 + 0 ≤ _), (by decide : 8 + 0 ≤ _)⟩)
    dsimp only [Pt.U, Pt.locs, Pt.cells, Pt.slots] at X65 l65 y65 z65 st65 hQ65
    subst y65 z65
    obtain ⟨rfl, Nq65, K65, Q65_0, -⟩ := hQ65
    have N65 : Fr n0 L65 := by rw [l65]; exact Fr.app N56 Nq65
    have X65' : Stand p l e room_1 s m #[(.int p0), (.int p1), (.int p2)] below meth c T65 L65 2 8 := X65
    obtain ⟨v67, hv67⟩ : ∃ z : List Int32, z = (own_G2_0 (0 : Int32) v3 (0 : Int32) (1 : Int32) ([(0 : Int32), (0 : Int32), (0 : Int32), (0 : Int32)] : List Int32)) := ⟨_, rfl⟩
    rw [← hv67] at Q65_0
    have f68 : own_IA Z T65.heap b12 .boolean ([(nar .boolean v21), (nar .boolean v32), (nar .boolean v43), (nar .boolean v54)] : List Int32) := f60.keep K65 (ninS ne_b12_b59 nin0)
    have Zp69 : n0 ≤ T65.heap.size := Nat.le_trans Zp61 K65.1
    obtain ⟨v70, hv70⟩ : ∃ z : Int32, z = (own_F2 (0 : Int32) v3 (0 : Int32) (1 : Int32) ([(0 : Int32), (0 : Int32), (0 : Int32), (0 : Int32)] : List Int32)) := ⟨_, rfl⟩
    rw [← hv70] at st65
    have st71 : ∀ t, Steps p.tables e below (T65.setTop (mkF m 190 #[.val (.int p0), .val (.int p1), .val (.int p2), .val (.int v1), .val (.int v3), .val (.int v9), .val (.ref b12), .val (.ref b59), .val (.int v70), .unset, .unset, .unset, .unset, .unset] [(.int (1 : Int32)), (.int (1 : Int32)), (.int v3), (.int v70), (.ref b59)])) t → Steps p.tables e below (T65.setTop (mkF m 180 #[.val (.int p0), .val (.int p1), .val (.int p2), .val (.int v1), .val (.int v3), .val (.int v9), .val (.ref b12), .val (.ref b59), .val (.int (0 : Int32)), .unset, .unset, .unset, .unset, .unset] [(.int v70)])) t := by
      intro t k
      show Steps p.tables e below (T65.setTop (mkF m 180 #[.val (.int p0), .val (.int p1), .val (.int p2), .val (.int v1), .val (.int v3), .val (.int v9), .val (.ref b12), .val (.ref b59), .val (.int (0 : Int32)), .unset, .unset, .unset, .unset, .unset] [(.int v70)])) _
      refine XS.istore X65'.here hx rfl (hb hby at_180) rfl (l' := #[.val (.int p0), .val (.int p1), .val (.int p2), .val (.int v1), .val (.int v3), .val (.int v9), .val (.ref b12), .val (.ref b59), .val (.int v70), .unset, .unset, .unset, .unset, .unset]) rfl ?_
      show Steps p.tables e below (T65.setTop (mkF m 182 #[.val (.int p0), .val (.int p1), .val (.int p2), .val (.int v1), .val (.int v3), .val (.int v9), .val (.ref b12), .val (.ref b59), .val (.int v70), .unset, .unset, .unset, .unset, .unset] [])) _
      refine XS.aload X65'.here hx rfl (hb hby at_182) rfl rfl ?_
      show Steps p.tables e below (T65.setTop (mkF m 184 #[.val (.int p0), .val (.int p1), .val (.int p2), .val (.int v1), .val (.int v3), .val (.int v9), .val (.ref b12), .val (.ref b59), .val (.int v70), .unset, .unset, .unset, .unset, .unset] [(.ref b59)])) _
      refine XS.iload X65'.here hx rfl (hb hby at_184) rfl ?_
      show Steps p.tables e below (T65.setTop (mkF m 186 #[.val (.int p0), .val (.int p1), .val (.int p2), .val (.int v1), .val (.int v3), .val (.int v9), .val (.ref b12), .val (.ref b59), .val (.int v70), .unset, .unset, .unset, .unset, .unset] [(.int v70), (.ref b59)])) _
      refine XS.iload X65'.here hx rfl (hb hby at_186) rfl ?_
      show Steps p.tables e below (T65.setTop (mkF m 188 #[.val (.int p0), .val (.int p1), .val (.int p2), .val (.int v1), .val (.int v3), .val (.int v9), .val (.ref b12), .val (.ref b59), .val (.int v70), .unset, .unset, .unset, .unset, .unset] [(.int v3), (.int v70), (.ref b59)])) _
      refine XS.iconst X65'.here hx rfl (hb hby at_188) ?_
      show Steps p.tables e below (T65.setTop (mkF m 189 #[.val (.int p0), .val (.int p1), .val (.int p2), .val (.int v1), .val (.int v3), .val (.int v9), .val (.ref b12), .val (.ref b59), .val (.int v70), .unset, .unset, .unset, .unset, .unset] [(.int (1 : Int32)), (.int v3), (.int v70), (.ref b59)])) _
      refine XS.iconst X65'.here hx rfl (hb hby at_189) ?_
      exact k
    obtain ⟨_, _, ⟨T72, L72, k72, n72⟩, -, X72, ⟨Lc72, hQ72, l72, y72, z72⟩, st72⟩ := Jvm.LawKit.callS X65' hx (y := (⟨"com/example/evotempo/evotempo/problem/OneMaxFitnessAfterFlipsPinLaw", "put", "([IIIII)I"⟩ : MethodName)) hown (mvT hZ (hw _ (List.mem_of_getElem? (i := 6) rfl))) (mvT hZ (hw _ (List.mem_of_getElem? (i := 7) rfl))) (mvT hZ (hw _ (List.mem_of_getElem? (i := 3) rfl))) (mvT hZ (hw _ (List.mem_of_getElem? (i := 8) rfl))) (by decide) (backOf (W := 0) (own_rm2 l Z a0 hw [] b59 v70 v3 (1 : Int32) (1 : Int32) v67 T65.heap n0 Zp69 Q65_0 g_b59 (own_h0_73 hv1 hv3 hv9 hv16 hv21 hv27 hv32 hv38 hv43 hv49 hv54 hv67 hv70 hc111_63)) hZ (hw _ (List.mem_of_getElem? (i := 8) rfl)) (hw _ (List.mem_of_getElem? (i := 3) rfl)) (by decide) (by decide)) (g := (mkF m 190 #[.val (.int p0), .val (.int p1), .val (.int p2), .val (.int v1), .val (.int v3), .val (.int v9), .val (.ref b12), .val (.ref b59), .val (.int v70), .unset, .unset, .unset, .unset, .unset] [(.int (1 : Int32)), (.int (1 : Int32)), (.int v3), (.int v70), (.ref b59)])) rfl (by rw [hml]; rfl) (argsL := [(.ref b59), (.int v70), (.int v3), (.int (1 : Int32)), (.int (1 : Int32))]) (rest := []) (lenOf own_pd1 rfl) rfl (by show 2 * 0 + _ ≤ _; exact Nat.le_of_eq rfl) (hb hby at_190) (fun _ _ => ⟨rfl, (rfl : T65.heap = T65.heap), (by decide : 2 + 0 ≤ _), (by decide : 8 + 0 ≤ _)⟩)
    dsimp only [Pt.U, Pt.locs, Pt.cells, Pt.slots] at X72 l72 y72 z72 st72 hQ72
    subst y72 z72
    obtain ⟨rfl, Nq72, K72, Q72_0, -⟩ := hQ72
    have N72 : Fr n0 L72 := by rw [l72]; exact Fr.app N65 Nq72
    have X72' : Stand p l e room_1 s m #[(.int p0), (.int p1), (.int p2)] below meth c T72 L72 2 8 := X72
    obtain ⟨v74, hv74⟩ : ∃ z : List Int32, z = (own_G2_0 v70 v3 (1 : Int32) (1 : Int32) v67) := ⟨_, rfl⟩
    rw [← hv74] at Q72_0
    have f75 : own_IA Z T72.heap b12 .boolean ([(nar .boolean v21), (nar .boolean v32), (nar .boolean v43), (nar .boolean v54)] : List Int32) := f68.keep K72 (ninS ne_b12_b59 nin0)
    have Zp76 : n0 ≤ T72.heap.size := Nat.le_trans Zp69 K72.1
    obtain ⟨v77, hv77⟩ : ∃ z : Int32, z = (own_F2 v70 v3 (1 : Int32) (1 : Int32) v67) := ⟨_, rfl⟩
    rw [← hv77] at st72
    have st78 : ∀ t, Steps p.tables e below (T72.setTop (mkF m 203 #[.val (.int p0), .val (.int p1), .val (.int p2), .val (.int v1), .val (.int v3), .val (.int v9), .val (.ref b12), .val (.ref b59), .val (.int v77), .unset, .unset, .unset, .unset, .unset] [(.int (1 : Int32)), (.int (2 : Int32)), (.int v3), (.int v77), (.ref b59)])) t → Steps p.tables e below (T72.setTop (mkF m 193 #[.val (.int p0), .val (.int p1), .val (.int p2), .val (.int v1), .val (.int v3), .val (.int v9), .val (.ref b12), .val (.ref b59), .val (.int v70), .unset, .unset, .unset, .unset, .unset] [(.int v77)])) t := by
      intro t k
      show Steps p.tables e below (T72.setTop (mkF m 193 #[.val (.int p0), .val (.int p1), .val (.int p2), .val (.int v1), .val (.int v3), .val (.int v9), .val (.ref b12), .val (.ref b59), .val (.int v70), .unset, .unset, .unset, .unset, .unset] [(.int v77)])) _
      refine XS.istore X72'.here hx rfl (hb hby at_193) rfl (l' := #[.val (.int p0), .val (.int p1), .val (.int p2), .val (.int v1), .val (.int v3), .val (.int v9), .val (.ref b12), .val (.ref b59), .val (.int v77), .unset, .unset, .unset, .unset, .unset]) rfl ?_
      show Steps p.tables e below (T72.setTop (mkF m 195 #[.val (.int p0), .val (.int p1), .val (.int p2), .val (.int v1), .val (.int v3), .val (.int v9), .val (.ref b12), .val (.ref b59), .val (.int v77), .unset, .unset, .unset, .unset, .unset] [])) _
      refine XS.aload X72'.here hx rfl (hb hby at_195) rfl rfl ?_
      show Steps p.tables e below (T72.setTop (mkF m 197 #[.val (.int p0), .val (.int p1), .val (.int p2), .val (.int v1), .val (.int v3), .val (.int v9), .val (.ref b12), .val (.ref b59), .val (.int v77), .unset, .unset, .unset, .unset, .unset] [(.ref b59)])) _
      refine XS.iload X72'.here hx rfl (hb hby at_197) rfl ?_
      show Steps p.tables e below (T72.setTop (mkF m 199 #[.val (.int p0), .val (.int p1), .val (.int p2), .val (.int v1), .val (.int v3), .val (.int v9), .val (.ref b12), .val (.ref b59), .val (.int v77), .unset, .unset, .unset, .unset, .unset] [(.int v77), (.ref b59)])) _
      refine XS.iload X72'.here hx rfl (hb hby at_199) rfl ?_
      show Steps p.tables e below (T72.setTop (mkF m 201 #[.val (.int p0), .val (.int p1), .val (.int p2), .val (.int v1), .val (.int v3), .val (.int v9), .val (.ref b12), .val (.ref b59), .val (.int v77), .unset, .unset, .unset, .unset, .unset] [(.int v3), (.int v77), (.ref b59)])) _
      refine XS.iconst X72'.here hx rfl (hb hby at_201) ?_
      show Steps p.tables e below (T72.setTop (mkF m 202 #[.val (.int p0), .val (.int p1), .val (.int p2), .val (.int v1), .val (.int v3), .val (.int v9), .val (.ref b12), .val (.ref b59), .val (.int v77), .unset, .unset, .unset, .unset, .unset] [(.int (2 : Int32)), (.int v3), (.int v77), (.ref b59)])) _
      refine XS.iconst X72'.here hx rfl (hb hby at_202) ?_
      exact k
    obtain ⟨_, _, ⟨T79, L79, k79, n79⟩, -, X79, ⟨Lc79, hQ79, l79, y79, z79⟩, st79⟩ := Jvm.LawKit.callS X72' hx (y := (⟨"com/example/evotempo/evotempo/problem/OneMaxFitnessAfterFlipsPinLaw", "put", "([IIIII)I"⟩ : MethodName)) hown (mvT hZ (hw _ (List.mem_of_getElem? (i := 6) rfl))) (mvT hZ (hw _ (List.mem_of_getElem? (i := 7) rfl))) (mvT hZ (hw _ (List.mem_of_getElem? (i := 3) rfl))) (mvT hZ (hw _ (List.mem_of_getElem? (i := 8) rfl))) (by decide) (backOf (W := 0) (own_rm2 l Z a0 hw [] b59 v77 v3 (2 : Int32) (1 : Int32) v74 T72.heap n0 Zp76 Q72_0 g_b59 (own_h0_80 hv1 hv3 hv9 hv16 hv21 hv27 hv32 hv38 hv43 hv49 hv54 hv67 hv70 hv74 hv77 hc111_63)) hZ (hw _ (List.mem_of_getElem? (i := 8) rfl)) (hw _ (List.mem_of_getElem? (i := 3) rfl)) (by decide) (by decide)) (g := (mkF m 203 #[.val (.int p0), .val (.int p1), .val (.int p2), .val (.int v1), .val (.int v3), .val (.int v9), .val (.ref b12), .val (.ref b59), .val (.int v77), .unset, .unset, .unset, .unset, .unset] [(.int (1 : Int32)), (.int (2 : Int32)), (.int v3), (.int v77), (.ref b59)])) rfl (by rw [hml]; rfl) (argsL := [(.ref b59), (.int v77), (.int v3), (.int (2 : Int32)), (.int (1 : Int32))]) (rest := []) (lenOf own_pd1 rfl) rfl (by show 2 * 0 + _ ≤ _; exact Nat.le_of_eq rfl) (hb hby at_203) (fun _ _ => ⟨rfl, (rfl : T72.heap = T72.heap), (by decide : 2 + 0 ≤ _), (by decide : 8 + 0 ≤ _)⟩)
    dsimp only [Pt.U, Pt.locs, Pt.cells, Pt.slots] at X79 l79 y79 z79 st79 hQ79
    subst y79 z79
    obtain ⟨rfl, Nq79, K79, Q79_0, -⟩ := hQ79
    have N79 : Fr n0 L79 := by rw [l79]; exact Fr.app N72 Nq79
    have X79' : Stand p l e room_1 s m #[(.int p0), (.int p1), (.int p2)] below meth c T79 L79 2 8 := X79
    obtain ⟨v81, hv81⟩ : ∃ z : List Int32, z = (own_G2_0 v77 v3 (2 : Int32) (1 : Int32) v74) := ⟨_, rfl⟩
    rw [← hv81] at Q79_0
    have f82 : own_IA Z T79.heap b12 .boolean ([(nar .boolean v21), (nar .boolean v32), (nar .boolean v43), (nar .boolean v54)] : List Int32) := f75.keep K79 (ninS ne_b12_b59 nin0)
    have Zp83 : n0 ≤ T79.heap.size := Nat.le_trans Zp76 K79.1
    obtain ⟨v84, hv84⟩ : ∃ z : Int32, z = (own_F2 v77 v3 (2 : Int32) (1 : Int32) v74) := ⟨_, rfl⟩
    rw [← hv84] at st79
    have st85 : ∀ t, Steps p.tables e below (T79.setTop (mkF m 216 #[.val (.int p0), .val (.int p1), .val (.int p2), .val (.int v1), .val (.int v3), .val (.int v9), .val (.ref b12), .val (.ref b59), .val (.int v84), .unset, .unset, .unset, .unset, .unset] [(.int (1 : Int32)), (.int (3 : Int32)), (.int v3), (.int v84), (.ref b59)])) t → Steps p.tables e below (T79.setTop (mkF m 206 #[.val (.int p0), .val (.int p1), .val (.int p2), .val (.int v1), .val (.int v3), .val (.int v9), .val (.ref b12), .val (.ref b59), .val (.int v77), .unset, .unset, .unset, .unset, .unset] [(.int v84)])) t := by
      intro t k
      show Steps p.tables e below (T79.setTop (mkF m 206 #[.val (.int p0), .val (.int p1), .val (.int p2), .val (.int v1), .val (.int v3), .val (.int v9), .val (.ref b12), .val (.ref b59), .val (.int v77), .unset, .unset, .unset, .unset, .unset] [(.int v84)])) _
      refine XS.istore X79'.here hx rfl (hb hby at_206) rfl (l' := #[.val (.int p0), .val (.int p1), .val (.int p2), .val (.int v1), .val (.int v3), .val (.int v9), .val (.ref b12), .val (.ref b59), .val (.int v84), .unset, .unset, .unset, .unset, .unset]) rfl ?_
      show Steps p.tables e below (T79.setTop (mkF m 208 #[.val (.int p0), .val (.int p1), .val (.int p2), .val (.int v1), .val (.int v3), .val (.int v9), .val (.ref b12), .val (.ref b59), .val (.int v84), .unset, .unset, .unset, .unset, .unset] [])) _
      refine XS.aload X79'.here hx rfl (hb hby at_208) rfl rfl ?_
      show Steps p.tables e below (T79.setTop (mkF m 210 #[.val (.int p0), .val (.int p1), .val (.int p2), .val (.int v1), .val (.int v3), .val (.int v9), .val (.ref b12), .val (.ref b59), .val (.int v84), .unset, .unset, .unset, .unset, .unset] [(.ref b59)])) _
      refine XS.iload X79'.here hx rfl (hb hby at_210) rfl ?_
      show Steps p.tables e below (T79.setTop (mkF m 212 #[.val (.int p0), .val (.int p1), .val (.int p2), .val (.int v1), .val (.int v3), .val (.int v9), .val (.ref b12), .val (.ref b59), .val (.int v84), .unset, .unset, .unset, .unset, .unset] [(.int v84), (.ref b59)])) _
      refine XS.iload X79'.here hx rfl (hb hby at_212) rfl ?_
      show Steps p.tables e below (T79.setTop (mkF m 214 #[.val (.int p0), .val (.int p1), .val (.int p2), .val (.int v1), .val (.int v3), .val (.int v9), .val (.ref b12), .val (.ref b59), .val (.int v84), .unset, .unset, .unset, .unset, .unset] [(.int v3), (.int v84), (.ref b59)])) _
      refine XS.iconst X79'.here hx rfl (hb hby at_214) ?_
      show Steps p.tables e below (T79.setTop (mkF m 215 #[.val (.int p0), .val (.int p1), .val (.int p2), .val (.int v1), .val (.int v3), .val (.int v9), .val (.ref b12), .val (.ref b59), .val (.int v84), .unset, .unset, .unset, .unset, .unset] [(.int (3 : Int32)), (.int v3), (.int v84), (.ref b59)])) _
      refine XS.iconst X79'.here hx rfl (hb hby at_215) ?_
      exact k
    obtain ⟨_, _, ⟨T86, L86, k86, n86⟩, -, X86, ⟨Lc86, hQ86, l86, y86, z86⟩, st86⟩ := Jvm.LawKit.callS X79' hx (y := (⟨"com/example/evotempo/evotempo/problem/OneMaxFitnessAfterFlipsPinLaw", "put", "([IIIII)I"⟩ : MethodName)) hown (mvT hZ (hw _ (List.mem_of_getElem? (i := 6) rfl))) (mvT hZ (hw _ (List.mem_of_getElem? (i := 7) rfl))) (mvT hZ (hw _ (List.mem_of_getElem? (i := 3) rfl))) (mvT hZ (hw _ (List.mem_of_getElem? (i := 8) rfl))) (by decide) (backOf (W := 0) (own_rm2 l Z a0 hw [] b59 v84 v3 (3 : Int32) (1 : Int32) v81 T79.heap n0 Zp83 Q79_0 g_b59 (own_h0_87 hv1 hv3 hv9 hv16 hv21 hv27 hv32 hv38 hv43 hv49 hv54 hv67 hv70 hv74 hv77 hv81 hv84 hc111_63)) hZ (hw _ (List.mem_of_getElem? (i := 8) rfl)) (hw _ (List.mem_of_getElem? (i := 3) rfl)) (by decide) (by decide)) (g := (mkF m 216 #[.val (.int p0), .val (.int p1), .val (.int p2), .val (.int v1), .val (.int v3), .val (.int v9), .val (.ref b12), .val (.ref b59), .val (.int v84), .unset, .unset, .unset, .unset, .unset] [(.int (1 : Int32)), (.int (3 : Int32)), (.int v3), (.int v84), (.ref b59)])) rfl (by rw [hml]; rfl) (argsL := [(.ref b59), (.int v84), (.int v3), (.int (3 : Int32)), (.int (1 : Int32))]) (rest := []) (lenOf own_pd1 rfl) rfl (by show 2 * 0 + _ ≤ _; exact Nat.le_of_eq rfl) (hb hby at_216) (fun _ _ => ⟨rfl, (rfl : T79.heap = T79.heap), (by decide : 2 + 0 ≤ _), (by decide : 8 + 0 ≤ _)⟩)
    dsimp only [Pt.U, Pt.locs, Pt.cells, Pt.slots] at X86 l86 y86 z86 st86 hQ86
    subst y86 z86
    obtain ⟨rfl, Nq86, K86, Q86_0, -⟩ := hQ86
    have N86 : Fr n0 L86 := by rw [l86]; exact Fr.app N79 Nq86
    have X86' : Stand p l e room_1 s m #[(.int p0), (.int p1), (.int p2)] below meth c T86 L86 2 8 := X86
    obtain ⟨v88, hv88⟩ : ∃ z : List Int32, z = (own_G2_0 v84 v3 (3 : Int32) (1 : Int32) v81) := ⟨_, rfl⟩
    rw [← hv88] at Q86_0
    have f89 : own_IA Z T86.heap b12 .boolean ([(nar .boolean v21), (nar .boolean v32), (nar .boolean v43), (nar .boolean v54)] : List Int32) := f82.keep K86 (ninS ne_b12_b59 nin0)
    have Zp90 : n0 ≤ T86.heap.size := Nat.le_trans Zp83 K86.1
    obtain ⟨v91, hv91⟩ : ∃ z : Int32, z = (own_F2 v84 v3 (3 : Int32) (1 : Int32) v81) := ⟨_, rfl⟩
    rw [← hv91] at st86
    have st92 : ∀ t, Steps p.tables e below (T86.setTop (mkF m 233 #[.val (.int p0), .val (.int p1), .val (.int p2), .val (.int v1), .val (.int v3), .val (.int v9), .val (.ref b12), .val (.ref b59), .val (.int v91), .val (.int v91), .unset, .unset, .unset, .unset] [(.int (0 : Int32)), (.int (0 : Int32)), (.int v3), (.int v91), (.ref b59)])) t → Steps p.tables e below (T86.setTop (mkF m 219 #[.val (.int p0), .val (.int p1), .val (.int p2), .val (.int v1), .val (.int v3), .val (.int v9), .val (.ref b12), .val (.ref b59), .val (.int v84), .unset, .unset, .unset, .unset, .unset] [(.int v91)])) t := by
      intro t k
      show Steps p.tables e below (T86.setTop (mkF m 219 #[.val (.int p0), .val (.int p1), .val (.int p2), .val (.int v1), .val (.int v3), .val (.int v9), .val (.ref b12), .val (.ref b59), .val (.int v84), .unset, .unset, .unset, .unset, .unset] [(.int v91)])) _
      refine XS.istore X86'.here hx rfl (hb hby at_219) rfl (l' := #[.val (.int p0), .val (.int p1), .val (.int p2), .val (.int v1), .val (.int v3), .val (.int v9), .val (.ref b12), .val (.ref b59), .val (.int v91), .unset, .unset, .unset, .unset, .unset]) rfl ?_
      show Steps p.tables e below (T86.setTop (mkF m 221 #[.val (.int p0), .val (.int p1), .val (.int p2), .val (.int v1), .val (.int v3), .val (.int v9), .val (.ref b12), .val (.ref b59), .val (.int v91), .unset, .unset, .unset, .unset, .unset] [])) _
      refine XS.iload X86'.here hx rfl (hb hby at_221) rfl ?_
      show Steps p.tables e below (T86.setTop (mkF m 223 #[.val (.int p0), .val (.int p1), .val (.int p2), .val (.int v1), .val (.int v3), .val (.int v9), .val (.ref b12), .val (.ref b59), .val (.int v91), .unset, .unset, .unset, .unset, .unset] [(.int v91)])) _
      refine XS.istore X86'.here hx rfl (hb hby at_223) rfl (l' := #[.val (.int p0), .val (.int p1), .val (.int p2), .val (.int v1), .val (.int v3), .val (.int v9), .val (.ref b12), .val (.ref b59), .val (.int v91), .val (.int v91), .unset, .unset, .unset, .unset]) rfl ?_
      show Steps p.tables e below (T86.setTop (mkF m 225 #[.val (.int p0), .val (.int p1), .val (.int p2), .val (.int v1), .val (.int v3), .val (.int v9), .val (.ref b12), .val (.ref b59), .val (.int v91), .val (.int v91), .unset, .unset, .unset, .unset] [])) _
      refine XS.aload X86'.here hx rfl (hb hby at_225) rfl rfl ?_
      show Steps p.tables e below (T86.setTop (mkF m 227 #[.val (.int p0), .val (.int p1), .val (.int p2), .val (.int v1), .val (.int v3), .val (.int v9), .val (.ref b12), .val (.ref b59), .val (.int v91), .val (.int v91), .unset, .unset, .unset, .unset] [(.ref b59)])) _
      refine XS.iload X86'.here hx rfl (hb hby at_227) rfl ?_
      show Steps p.tables e below (T86.setTop (mkF m 229 #[.val (.int p0), .val (.int p1), .val (.int p2), .val (.int v1), .val (.int v3), .val (.int v9), .val (.ref b12), .val (.ref b59), .val (.int v91), .val (.int v91), .unset, .unset, .unset, .unset] [(.int v91), (.ref b59)])) _
      refine XS.iload X86'.here hx rfl (hb hby at_229) rfl ?_
      show Steps p.tables e below (T86.setTop (mkF m 231 #[.val (.int p0), .val (.int p1), .val (.int p2), .val (.int v1), .val (.int v3), .val (.int v9), .val (.ref b12), .val (.ref b59), .val (.int v91), .val (.int v91), .unset, .unset, .unset, .unset] [(.int v3), (.int v91), (.ref b59)])) _
      refine XS.iconst X86'.here hx rfl (hb hby at_231) ?_
      show Steps p.tables e below (T86.setTop (mkF m 232 #[.val (.int p0), .val (.int p1), .val (.int p2), .val (.int v1), .val (.int v3), .val (.int v9), .val (.ref b12), .val (.ref b59), .val (.int v91), .val (.int v91), .unset, .unset, .unset, .unset] [(.int (0 : Int32)), (.int v3), (.int v91), (.ref b59)])) _
      refine XS.iconst X86'.here hx rfl (hb hby at_232) ?_
      exact k
    obtain ⟨_, _, ⟨T93, L93, k93, n93⟩, -, X93, ⟨Lc93, hQ93, l93, y93, z93⟩, st93⟩ := Jvm.LawKit.callS X86' hx (y := (⟨"com/example/evotempo/evotempo/problem/OneMaxFitnessAfterFlipsPinLaw", "put", "([IIIII)I"⟩ : MethodName)) hown (mvT hZ (hw _ (List.mem_of_getElem? (i := 6) rfl))) (mvT hZ (hw _ (List.mem_of_getElem? (i := 7) rfl))) (mvT hZ (hw _ (List.mem_of_getElem? (i := 3) rfl))) (mvT hZ (hw _ (List.mem_of_getElem? (i := 8) rfl))) (by decide) (backOf (W := 0) (own_rm2 l Z a0 hw [] b59 v91 v3 (0 : Int32) (0 : Int32) v88 T86.heap n0 Zp90 Q86_0 g_b59 (own_h0_94 hv1 hv3 hv9 hv16 hv21 hv27 hv32 hv38 hv43 hv49 hv54 hv67 hv70 hv74 hv77 hv81 hv84 hv88 hv91 hc111_63)) hZ (hw _ (List.mem_of_getElem? (i := 8) rfl)) (hw _ (List.mem_of_getElem? (i := 3) rfl)) (by decide) (by decide)) (g := (mkF m 233 #[.val (.int p0), .val (.int p1), .val (.int p2), .val (.int v1), .val (.int v3), .val (.int v9), .val (.ref b12), .val (.ref b59), .val (.int v91), .val (.int v91), .unset, .unset, .unset, .unset] [(.int (0 : Int32)), (.int (0 : Int32)), (.int v3), (.int v91), (.ref b59)])) rfl (by rw [hml]; rfl) (argsL := [(.ref b59), (.int v91), (.int v3), (.int (0 : Int32)), (.int (0 : Int32))]) (rest := []) (lenOf own_pd1 rfl) rfl (by show 2 * 0 + _ ≤ _; exact Nat.le_of_eq rfl) (hb hby at_233) (fun _ _ => ⟨rfl, (rfl : T86.heap = T86.heap), (by decide : 2 + 0 ≤ _), (by decide : 8 + 0 ≤ _)⟩)
    dsimp only [Pt.U, Pt.locs, Pt.cells, Pt.slots] at X93 l93 y93 z93 st93 hQ93
    subst y93 z93
    obtain ⟨rfl, Nq93, K93, Q93_0, -⟩ := hQ93
    have N93 : Fr n0 L93 := by rw [l93]; exact Fr.app N86 Nq93
    have X93' : Stand p l e room_1 s m #[(.int p0), (.int p1), (.int p2)] below meth c T93 L93 2 8 := X93
    obtain ⟨v95, hv95⟩ : ∃ z : List Int32, z = (own_G2_0 v91 v3 (0 : Int32) (0 : Int32) v88) := ⟨_, rfl⟩
    rw [← hv95] at Q93_0
    have f96 : own_IA Z T93.heap b12 .boolean ([(nar .boolean v21), (nar .boolean v32), (nar .boolean v43), (nar .boolean v54)] : List Int32) := f89.keep K93 (ninS ne_b12_b59 nin0)
    have Zp97 : n0 ≤ T93.heap.size := Nat.le_trans Zp90 K93.1
    obtain ⟨v98, hv98⟩ : ∃ z : Int32, z = (own_F2 v91 v3 (0 : Int32) (0 : Int32) v88) := ⟨_, rfl⟩
    rw [← hv98] at st93
    have st99 : ∀ t, Steps p.tables e below (T93.setTop (mkF m 246 #[.val (.int p0), .val (.int p1), .val (.int p2), .val (.int v1), .val (.int v3), .val (.int v9), .val (.ref b12), .val (.ref b59), .val (.int v98), .val (.int v91), .unset, .unset, .unset, .unset] [(.int (0 : Int32)), (.int (1 : Int32)), (.int v3), (.int v98), (.ref b59)])) t → Steps p.tables e below (T93.setTop (mkF m 236 #[.val (.int p0), .val (.int p1), .val (.int p2), .val (.int v1), .val (.int v3), .val (.int v9), .val (.ref b12), .val (.ref b59), .val (.int v91), .val (.int v91), .unset, .unset, .unset, .unset] [(.int v98)])) t := by
      intro t k
      show Steps p.tables e below (T93.setTop (mkF m 236 #[.val (.int p0), .val (.int p1), .val (.int p2), .val (.int v1), .val (.int v3), .val (.int v9), .val (.ref b12), .val (.ref b59), .val (.int v91), .val (.int v91), .unset, .unset, .unset, .unset] [(.int v98)])) _
      refine XS.istore X93'.here hx rfl (hb hby at_236) rfl (l' := #[.val (.int p0), .val (.int p1), .val (.int p2), .val (.int v1), .val (.int v3), .val (.int v9), .val (.ref b12), .val (.ref b59), .val (.int v98), .val (.int v91), .unset, .unset, .unset, .unset]) rfl ?_
      show Steps p.tables e below (T93.setTop (mkF m 238 #[.val (.int p0), .val (.int p1), .val (.int p2), .val (.int v1), .val (.int v3), .val (.int v9), .val (.ref b12), .val (.ref b59), .val (.int v98), .val (.int v91), .unset, .unset, .unset, .unset] [])) _
      refine XS.aload X93'.here hx rfl (hb hby at_238) rfl rfl ?_
      show Steps p.tables e below (T93.setTop (mkF m 240 #[.val (.int p0), .val (.int p1), .val (.int p2), .val (.int v1), .val (.int v3), .val (.int v9), .val (.ref b12), .val (.ref b59), .val (.int v98), .val (.int v91), .unset, .unset, .unset, .unset] [(.ref b59)])) _
      refine XS.iload X93'.here hx rfl (hb hby at_240) rfl ?_
      show Steps p.tables e below (T93.setTop (mkF m 242 #[.val (.int p0), .val (.int p1), .val (.int p2), .val (.int v1), .val (.int v3), .val (.int v9), .val (.ref b12), .val (.ref b59), .val (.int v98), .val (.int v91), .unset, .unset, .unset, .unset] [(.int v98), (.ref b59)])) _
      refine XS.iload X93'.here hx rfl (hb hby at_242) rfl ?_
      show Steps p.tables e below (T93.setTop (mkF m 244 #[.val (.int p0), .val (.int p1), .val (.int p2), .val (.int v1), .val (.int v3), .val (.int v9), .val (.ref b12), .val (.ref b59), .val (.int v98), .val (.int v91), .unset, .unset, .unset, .unset] [(.int v3), (.int v98), (.ref b59)])) _
      refine XS.iconst X93'.here hx rfl (hb hby at_244) ?_
      show Steps p.tables e below (T93.setTop (mkF m 245 #[.val (.int p0), .val (.int p1), .val (.int p2), .val (.int v1), .val (.int v3), .val (.int v9), .val (.ref b12), .val (.ref b59), .val (.int v98), .val (.int v91), .unset, .unset, .unset, .unset] [(.int (1 : Int32)), (.int v3), (.int v98), (.ref b59)])) _
      refine XS.iconst X93'.here hx rfl (hb hby at_245) ?_
      exact k
    obtain ⟨_, _, ⟨T100, L100, k100, n100⟩, -, X100, ⟨Lc100, hQ100, l100, y100, z100⟩, st100⟩ := Jvm.LawKit.callS X93' hx (y := (⟨"com/example/evotempo/evotempo/problem/OneMaxFitnessAfterFlipsPinLaw", "put", "([IIIII)I"⟩ : MethodName)) hown (mvT hZ (hw _ (List.mem_of_getElem? (i := 6) rfl))) (mvT hZ (hw _ (List.mem_of_getElem? (i := 7) rfl))) (mvT hZ (hw _ (List.mem_of_getElem? (i := 3) rfl))) (mvT hZ (hw _ (List.mem_of_getElem? (i := 8) rfl))) (by decide) (backOf (W := 0) (own_rm2 l Z a0 hw [] b59 v98 v3 (1 : Int32) (0 : Int32) v95 T93.heap n0 Zp97 Q93_0 g_b59 (own_h0_101 hv1 hv3 hv9 hv16 hv21 hv27 hv32 hv38 hv43 hv49 hv54 hv67 hv70 hv74 hv77 hv81 hv84 hv88 hv91 hv95 hv98 hc111_63)) hZ (hw _ (List.mem_of_getElem? (i := 8) rfl)) (hw _ (List.mem_of_getElem? (i := 3) rfl)) (by decide) (by decide)) (g := (mkF m 246 #[.val (.int p0), .val (.int p1), .val (.int p2), .val (.int v1), .val (.int v3), .val (.int v9), .val (.ref b12), .val (.ref b59), .val (.int v98), .val (.int v91), .unset, .unset, .unset, .unset] [(.int (0 : Int32)), (.int (1 : Int32)), (.int v3), (.int v98), (.ref b59)])) rfl (by rw [hml]; rfl) (argsL := [(.ref b59), (.int v98), (.int v3), (.int (1 : Int32)), (.int (0 : Int32))]) (rest := []) (lenOf own_pd1 rfl) rfl (by show 2 * 0 + _ ≤ _; exact Nat.le_of_eq rfl) (hb hby at_246) (fun _ _ => ⟨rfl, (rfl : T93.heap = T93.heap), (by decide : 2 + 0 ≤ _), (by decide : 8 + 0 ≤ _)⟩)
    dsimp only [Pt.U, Pt.locs, Pt.cells, Pt.slots] at X100 l100 y100 z100 st100 hQ100
    subst y100 z100
    obtain ⟨rfl, Nq100, K100, Q100_0, -⟩ := hQ100
    have N100 : Fr n0 L100 := by rw [l100]; exact Fr.app N93 Nq100
    have X100' : Stand p l e room_1 s m #[(.int p0), (.int p1), (.int p2)] below meth c T100 L100 2 8 := X100
    obtain ⟨v102, hv102⟩ : ∃ z : List Int32, z = (own_G2_0 v98 v3 (1 : Int32) (0 : Int32) v95) := ⟨_, rfl⟩
    rw [← hv102] at Q100_0
    have f103 : own_IA Z T100.heap b12 .boolean ([(nar .boolean v21), (nar .boolean v32), (nar .boolean v43), (nar .boolean v54)] : List Int32) := f96.keep K100 (ninS ne_b12_b59 nin0)
    have Zp104 : n0 ≤ T100.heap.size := Nat.le_trans Zp97 K100.1
    obtain ⟨v105, hv105⟩ : ∃ z : Int32, z = (own_F2 v98 v3 (1 : Int32) (0 : Int32) v95) := ⟨_, rfl⟩
    rw [← hv105] at st100
    have st106 : ∀ t, Steps p.tables e below (T100.setTop (mkF m 259 #[.val (.int p0), .val (.int p1), .val (.int p2), .val (.int v1), .val (.int v3), .val (.int v9), .val (.ref b12), .val (.ref b59), .val (.int v105), .val (.int v91), .unset, .unset, .unset, .unset] [(.int (0 : Int32)), (.int (2 : Int32)), (.int v3), (.int v105), (.ref b59)])) t → Steps p.tables e below (T100.setTop (mkF m 249 #[.val (.int p0), .val (.int p1), .val (.int p2), .val (.int v1), .val (.int v3), .val (.int v9), .val (.ref b12), .val (.ref b59), .val (.int v98), .val (.int v91), .unset, .unset, .unset, .unset] [(.int v105)])) t := by
      intro t k
      show Steps p.tables e below (T100.setTop (mkF m 249 #[.val (.int p0), .val (.int p1), .val (.int p2), .val (.int v1), .val (.int v3), .val (.int v9), .val (.ref b12), .val (.ref b59), .val (.int v98), .val (.int v91), .unset, .unset, .unset, .unset] [(.int v105)])) _
      refine XS.istore X100'.here hx rfl (hb hby at_249) rfl (l' := #[.val (.int p0), .val (.int p1), .val (.int p2), .val (.int v1), .val (.int v3), .val (.int v9), .val (.ref b12), .val (.ref b59), .val (.int v105), .val (.int v91), .unset, .unset, .unset, .unset]) rfl ?_
      show Steps p.tables e below (T100.setTop (mkF m 251 #[.val (.int p0), .val (.int p1), .val (.int p2), .val (.int v1), .val (.int v3), .val (.int v9), .val (.ref b12), .val (.ref b59), .val (.int v105), .val (.int v91), .unset, .unset, .unset, .unset] [])) _
      refine XS.aload X100'.here hx rfl (hb hby at_251) rfl rfl ?_
      show Steps p.tables e below (T100.setTop (mkF m 253 #[.val (.int p0), .val (.int p1), .val (.int p2), .val (.int v1), .val (.int v3), .val (.int v9), .val (.ref b12), .val (.ref b59), .val (.int v105), .val (.int v91), .unset, .unset, .unset, .unset] [(.ref b59)])) _
      refine XS.iload X100'.here hx rfl (hb hby at_253) rfl ?_
      show Steps p.tables e below (T100.setTop (mkF m 255 #[.val (.int p0), .val (.int p1), .val (.int p2), .val (.int v1), .val (.int v3), .val (.int v9), .val (.ref b12), .val (.ref b59), .val (.int v105), .val (.int v91), .unset, .unset, .unset, .unset] [(.int v105), (.ref b59)])) _
      refine XS.iload X100'.here hx rfl (hb hby at_255) rfl ?_
      show Steps p.tables e below (T100.setTop (mkF m 257 #[.val (.int p0), .val (.int p1), .val (.int p2), .val (.int v1), .val (.int v3), .val (.int v9), .val (.ref b12), .val (.ref b59), .val (.int v105), .val (.int v91), .unset, .unset, .unset, .unset] [(.int v3), (.int v105), (.ref b59)])) _
      refine XS.iconst X100'.here hx rfl (hb hby at_257) ?_
      show Steps p.tables e below (T100.setTop (mkF m 258 #[.val (.int p0), .val (.int p1), .val (.int p2), .val (.int v1), .val (.int v3), .val (.int v9), .val (.ref b12), .val (.ref b59), .val (.int v105), .val (.int v91), .unset, .unset, .unset, .unset] [(.int (2 : Int32)), (.int v3), (.int v105), (.ref b59)])) _
      refine XS.iconst X100'.here hx rfl (hb hby at_258) ?_
      exact k
    obtain ⟨_, _, ⟨T107, L107, k107, n107⟩, -, X107, ⟨Lc107, hQ107, l107, y107, z107⟩, st107⟩ := Jvm.LawKit.callS X100' hx (y := (⟨"com/example/evotempo/evotempo/problem/OneMaxFitnessAfterFlipsPinLaw", "put", "([IIIII)I"⟩ : MethodName)) hown (mvT hZ (hw _ (List.mem_of_getElem? (i := 6) rfl))) (mvT hZ (hw _ (List.mem_of_getElem? (i := 7) rfl))) (mvT hZ (hw _ (List.mem_of_getElem? (i := 3) rfl))) (mvT hZ (hw _ (List.mem_of_getElem? (i := 8) rfl))) (by decide) (backOf (W := 0) (own_rm2 l Z a0 hw [] b59 v105 v3 (2 : Int32) (0 : Int32) v102 T100.heap n0 Zp104 Q100_0 g_b59 (own_h0_108 hv1 hv3 hv9 hv16 hv21 hv27 hv32 hv38 hv43 hv49 hv54 hv67 hv70 hv74 hv77 hv81 hv84 hv88 hv91 hv95 hv98 hv102 hv105 hc111_63)) hZ (hw _ (List.mem_of_getElem? (i := 8) rfl)) (hw _ (List.mem_of_getElem? (i := 3) rfl)) (by decide) (by decide)) (g := (mkF m 259 #[.val (.int p0), .val (.int p1), .val (.int p2), .val (.int v1), .val (.int v3), .val (.int v9), .val (.ref b12), .val (.ref b59), .val (.int v105), .val (.int v91), .unset, .unset, .unset, .unset] [(.int (0 : Int32)), (.int (2 : Int32)), (.int v3), (.int v105), (.ref b59)])) rfl (by rw [hml]; rfl) (argsL := [(.ref b59), (.int v105), (.int v3), (.int (2 : Int32)), (.int (0 : Int32))]) (rest := []) (lenOf own_pd1 rfl) rfl (by show 2 * 0 + _ ≤ _; exact Nat.le_of_eq rfl) (hb hby at_259) (fun _ _ => ⟨rfl, (rfl : T100.heap = T100.heap), (by decide : 2 + 0 ≤ _), (by decide : 8 + 0 ≤ _)⟩)
    dsimp only [Pt.U, Pt.locs, Pt.cells, Pt.slots] at X107 l107 y107 z107 st107 hQ107
    subst y107 z107
    obtain ⟨rfl, Nq107, K107, Q107_0, -⟩ := hQ107
    have N107 : Fr n0 L107 := by rw [l107]; exact Fr.app N100 Nq107
    have X107' : Stand p l e room_1 s m #[(.int p0), (.int p1), (.int p2)] below meth c T107 L107 2 8 := X107
    obtain ⟨v109, hv109⟩ : ∃ z : List Int32, z = (own_G2_0 v105 v3 (2 : Int32) (0 : Int32) v102) := ⟨_, rfl⟩
    rw [← hv109] at Q107_0
    have f110 : own_IA Z T107.heap b12 .boolean ([(nar .boolean v21), (nar .boolean v32), (nar .boolean v43), (nar .boolean v54)] : List Int32) := f103.keep K107 (ninS ne_b12_b59 nin0)
    have Zp111 : n0 ≤ T107.heap.size := Nat.le_trans Zp104 K107.1
    obtain ⟨v112, hv112⟩ : ∃ z : Int32, z = (own_F2 v105 v3 (2 : Int32) (0 : Int32) v102) := ⟨_, rfl⟩
    rw [← hv112] at st107
    have st113 : ∀ t, Steps p.tables e below (T107.setTop (mkF m 272 #[.val (.int p0), .val (.int p1), .val (.int p2), .val (.int v1), .val (.int v3), .val (.int v9), .val (.ref b12), .val (.ref b59), .val (.int v112), .val (.int v91), .unset, .unset, .unset, .unset] [(.int (0 : Int32)), (.int (3 : Int32)), (.int v3), (.int v112), (.ref b59)])) t → Steps p.tables e below (T107.setTop (mkF m 262 #[.val (.int p0), .val (.int p1), .val (.int p2), .val (.int v1), .val (.int v3), .val (.int v9), .val (.ref b12), .val (.ref b59), .val (.int v105), .val (.int v91), .unset, .unset, .unset, .unset] [(.int v112)])) t := by
      intro t k
      show Steps p.tables e below (T107.setTop (mkF m 262 #[.val (.int p0), .val (.int p1), .val (.int p2), .val (.int v1), .val (.int v3), .val (.int v9), .val (.ref b12), .val (.ref b59), .val (.int v105), .val (.int v91), .unset, .unset, .unset, .unset] [(.int v112)])) _
      refine XS.istore X107'.here hx rfl (hb hby at_262) rfl (l' := #[.val (.int p0), .val (.int p1), .val (.int p2), .val (.int v1), .val (.int v3), .val (.int v9), .val (.ref b12), .val (.ref b59), .val (.int v112), .val (.int v91), .unset, .unset, .unset, .unset]) rfl ?_
      show Steps p.tables e below (T107.setTop (mkF m 264 #[.val (.int p0), .val (.int p1), .val (.int p2), .val (.int v1), .val (.int v3), .val (.int v9), .val (.ref b12), .val (.ref b59), .val (.int v112), .val (.int v91), .unset, .unset, .unset, .unset] [])) _
      refine XS.aload X107'.here hx rfl (hb hby at_264) rfl rfl ?_
      show Steps p.tables e below (T107.setTop (mkF m 266 #[.val (.int p0), .val (.int p1), .val (.int p2), .val (.int v1), .val (.int v3), .val (.int v9), .val (.ref b12), .val (.ref b59), .val (.int v112), .val (.int v91), .unset, .unset, .unset, .unset] [(.ref b59)])) _
      refine XS.iload X107'.here hx rfl (hb hby at_266) rfl ?_
      show Steps p.tables e below (T107.setTop (mkF m 268 #[.val (.int p0), .val (.int p1), .val (.int p2), .val (.int v1), .val (.int v3), .val (.int v9), .val (.ref b12), .val (.ref b59), .val (.int v112), .val (.int v91), .unset, .unset, .unset, .unset] [(.int v112), (.ref b59)])) _
      refine XS.iload X107'.here hx rfl (hb hby at_268) rfl ?_
      show Steps p.tables e below (T107.setTop (mkF m 270 #[.val (.int p0), .val (.int p1), .val (.int p2), .val (.int v1), .val (.int v3), .val (.int v9), .val (.ref b12), .val (.ref b59), .val (.int v112), .val (.int v91), .unset, .unset, .unset, .unset] [(.int v3), (.int v112), (.ref b59)])) _
      refine XS.iconst X107'.here hx rfl (hb hby at_270) ?_
      show Steps p.tables e below (T107.setTop (mkF m 271 #[.val (.int p0), .val (.int p1), .val (.int p2), .val (.int v1), .val (.int v3), .val (.int v9), .val (.ref b12), .val (.ref b59), .val (.int v112), .val (.int v91), .unset, .unset, .unset, .unset] [(.int (3 : Int32)), (.int v3), (.int v112), (.ref b59)])) _
      refine XS.iconst X107'.here hx rfl (hb hby at_271) ?_
      exact k
    obtain ⟨_, _, ⟨T114, L114, k114, n114⟩, -, X114, ⟨Lc114, hQ114, l114, y114, z114⟩, st114⟩ := Jvm.LawKit.callS X107' hx (y := (⟨"com/example/evotempo/evotempo/problem/OneMaxFitnessAfterFlipsPinLaw", "put", "([IIIII)I"⟩ : MethodName)) hown (mvT hZ (hw _ (List.mem_of_getElem? (i := 6) rfl))) (mvT hZ (hw _ (List.mem_of_getElem? (i := 7) rfl))) (mvT hZ (hw _ (List.mem_of_getElem? (i := 3) rfl))) (mvT hZ (hw _ (List.mem_of_getElem? (i := 8) rfl))) (by decide) (backOf (W := 0) (own_rm2 l Z a0 hw [] b59 v112 v3 (3 : Int32) (0 : Int32) v109 T107.heap n0 Zp111 Q107_0 g_b59 (own_h0_115 hv1 hv3 hv9 hv16 hv21 hv27 hv32 hv38 hv43 hv49 hv54 hv67 hv70 hv74 hv77 hv81 hv84 hv88 hv91 hv95 hv98 hv102 hv105 hv109 hv112 hc111_63)) hZ (hw _ (List.mem_of_getElem? (i := 8) rfl)) (hw _ (List.mem_of_getElem? (i := 3) rfl)) (by decide) (by decide)) (g := (mkF m 272 #[.val (.int p0), .val (.int p1), .val (.int p2), .val (.int v1), .val (.int v3), .val (.int v9), .val (.ref b12), .val (.ref b59), .val (.int v112), .val (.int v91), .unset, .unset, .unset, .unset] [(.int (0 : Int32)), (.int (3 : Int32)), (.int v3), (.int v112), (.ref b59)])) rfl (by rw [hml]; rfl) (argsL := [(.ref b59), (.int v112), (.int v3), (.int (3 : Int32)), (.int (0 : Int32))]) (rest := []) (lenOf own_pd1 rfl) rfl (by show 2 * 0 + _ ≤ _; exact Nat.le_of_eq rfl) (hb hby at_272) (fun _ _ => ⟨rfl, (rfl : T107.heap = T107.heap), (by decide : 2 + 0 ≤ _), (by decide : 8 + 0 ≤ _)⟩)
    dsimp only [Pt.U, Pt.locs, Pt.cells, Pt.slots] at X114 l114 y114 z114 st114 hQ114
    subst y114 z114
    obtain ⟨rfl, Nq114, K114, Q114_0, -⟩ := hQ114
    have N114 : Fr n0 L114 := by rw [l114]; exact Fr.app N107 Nq114
    have X114' : Stand p l e room_1 s m #[(.int p0), (.int p1), (.int p2)] below meth c T114 L114 2 8 := X114
    obtain ⟨v116, hv116⟩ : ∃ z : List Int32, z = (own_G2_0 v112 v3 (3 : Int32) (0 : Int32) v109) := ⟨_, rfl⟩
    rw [← hv116] at Q114_0
    have f117 : own_IA Z T114.heap b12 .boolean ([(nar .boolean v21), (nar .boolean v32), (nar .boolean v43), (nar .boolean v54)] : List Int32) := f110.keep K114 (ninS ne_b12_b59 nin0)
    have Zp118 : n0 ≤ T114.heap.size := Nat.le_trans Zp111 K114.1
    obtain ⟨v119, hv119⟩ : ∃ z : Int32, z = (own_F2 v112 v3 (3 : Int32) (0 : Int32) v109) := ⟨_, rfl⟩
    rw [← hv119] at st114
    have st120 : ∀ t, Steps p.tables e below (T114.setTop (mkF m 277 #[.val (.int p0), .val (.int p1), .val (.int p2), .val (.int v1), .val (.int v3), .val (.int v9), .val (.ref b12), .val (.ref b59), .val (.int v119), .val (.int v91), .unset, .unset, .unset, .unset] [])) t → Steps p.tables e below (T114.setTop (mkF m 275 #[.val (.int p0), .val (.int p1), .val (.int p2), .val (.int v1), .val (.int v3), .val (.int v9), .val (.ref b12), .val (.ref b59), .val (.int v112), .val (.int v91), .unset, .unset, .unset, .unset] [(.int v119)])) t := by
      intro t k
      show Steps p.tables e below (T114.setTop (mkF m 275 #[.val (.int p0), .val (.int p1), .val (.int p2), .val (.int v1), .val (.int v3), .val (.int v9), .val (.ref b12), .val (.ref b59), .val (.int v112), .val (.int v91), .unset, .unset, .unset, .unset] [(.int v119)])) _
      refine XS.istore X114'.here hx rfl (hb hby at_275) rfl (l' := #[.val (.int p0), .val (.int p1), .val (.int p2), .val (.int v1), .val (.int v3), .val (.int v9), .val (.ref b12), .val (.ref b59), .val (.int v119), .val (.int v91), .unset, .unset, .unset, .unset]) rfl ?_
      exact k
    obtain ⟨T121, h121, b121, X121, e121, K121, q121, E121, D121, st121⟩ := own_new X114' hx hZ hown (hw _ (List.mem_of_getElem? (i := 9) rfl)) (hw _ (List.mem_of_getElem? (i := 10) rfl)) (hw _ (List.mem_of_getElem? (i := 11) rfl)) (rfl : T114.heap = T114.heap) (g := (mkF m 277 #[.val (.int p0), .val (.int p1), .val (.int p2), .val (.int v1), .val (.int v3), .val (.int v9), .val (.ref b12), .val (.ref b59), .val (.int v119), .val (.int v91), .unset, .unset, .unset, .unset] [])) rfl (hb hby at_277) (by decide) (by decide)
    have X121 : Stand p l e room_1 s m #[(.int p0), (.int p1), (.int p2)] below meth c T121 L114 3 9 := X121
    have F121_n : Fld Z h121 b121 "com/example/evotempo/evotempo/problem/OneMax" "n" "I" (.int (0 : Int32)) := D121 (Or.inr (hw _ (List.mem_of_getElem? (i := 19) rfl))) (ty := .int) (by decide)
    have ne_b12_b121 : b12 ≠ b121 := own_ne f117.lt q121
    have ne_b59_b121 : b59 ≠ b121 := own_ne Q114_0.lt q121
    have g_b121 : n0 ≤ b121 := Nat.le_trans Zp118 q121
    have f122 : own_IA Z h121 b12 .boolean ([(nar .boolean v21), (nar .boolean v32), (nar .boolean v43), (nar .boolean v54)] : List Int32) := f117.keep K121 nin0
    have f123 : own_IA Z h121 b59 .int v116 := Q114_0.keep K121 nin0
    have Zp124 : n0 ≤ h121.size := Nat.le_trans Zp118 K121.1
    have st125 : ∀ t, Steps p.tables e below (T121.setTop (mkF m 282 #[.val (.int p0), .val (.int p1), .val (.int p2), .val (.int v1), .val (.int v3), .val (.int v9), .val (.ref b12), .val (.ref b59), .val (.int v119), .val (.int v91), .unset, .unset, .unset, .unset] [(.int (4 : Int32)), (.ref b121), (.ref b121)])) t → Steps p.tables e below (T121.setTop (mkF m 280 #[.val (.int p0), .val (.int p1), .val (.int p2), .val (.int v1), .val (.int v3), .val (.int v9), .val (.ref b12), .val (.ref b59), .val (.int v119), .val (.int v91), .unset, .unset, .unset, .unset] [(.ref b121)])) t := by
      intro t k
      show Steps p.tables e below (T121.setTop (mkF m 280 #[.val (.int p0), .val (.int p1), .val (.int p2), .val (.int v1), .val (.int v3), .val (.int v9), .val (.ref b12), .val (.ref b59), .val (.int v119), .val (.int v91), .unset, .unset, .unset, .unset] [(.ref b121)])) _
      refine XS.dup X121.here hx rfl (hb hby at_280) rfl rfl ?_
      show Steps p.tables e below (T121.setTop (mkF m 281 #[.val (.int p0), .val (.int p1), .val (.int p2), .val (.int v1), .val (.int v3), .val (.int v9), .val (.ref b12), .val (.ref b59), .val (.int v119), .val (.int v91), .unset, .unset, .unset, .unset] [(.ref b121), (.ref b121)])) _
      refine XS.iconst X121.here hx rfl (hb hby at_281) ?_
      exact k
    obtain ⟨_, _, ⟨T126, L126, k126, n126⟩, -, X126, ⟨Lc126, hQ126, l126, y126, z126⟩, st126⟩ := X121.specialBack hx (y := (⟨"com/example/evotempo/evotempo/problem/OneMax", "<init>", "(I)V"⟩ : MethodName)) rfl hown (mvT hZ (hw _ (List.mem_of_getElem? (i := 12) rfl))) (mvT hZ (hw _ (List.mem_of_getElem? (i := 13) rfl))) (mvT hZ (hw _ (List.mem_of_getElem? (i := 14) rfl))) (by decide) (backOf (W := 1) (own_rm3 l Z a0 hw [] b121 (4 : Int32) h121 n0 Zp124 E121 F121_n g_b121 (by decide)) hZ (hw _ (List.mem_of_getElem? (i := 14) rfl)) (hw _ (List.mem_of_getElem? (i := 11) rfl)) (by decide) (by decide)) (g := (mkF m 282 #[.val (.int p0), .val (.int p1), .val (.int p2), .val (.int v1), .val (.int v3), .val (.int v9), .val (.ref b12), .val (.ref b59), .val (.int v119), .val (.int v91), .unset, .unset, .unset, .unset] [(.int (4 : Int32)), (.ref b121), (.ref b121)])) rfl (by rw [hml]; rfl) (Steps.refl _) (a := b121) (argsL := [(.int (4 : Int32))]) (rest := [(.ref b121)]) (lenOf own_pd2 rfl) rfl (by show 2 * 0 + _ ≤ _; exact Nat.le_of_eq rfl) (hb hby at_282) (fun _ _ => ⟨rfl, e121, (by decide : 3 + 0 ≤ _), (by decide : 9 + 0 ≤ _)⟩)
    dsimp only [Pt.U, Pt.locs, Pt.cells, Pt.slots] at X126 l126 y126 z126 st126 hQ126
    subst y126 z126
    obtain ⟨rfl, Nq126, K126, Q126_0, Q126_1, -⟩ := hQ126
    have N126 : Fr n0 L126 := by rw [l126]; exact Fr.app N114 Nq126
    have X126' : Stand p l e room_1 s m #[(.int p0), (.int p1), (.int p2)] below meth c T126 L126 3 9 := X126
    have f127 : own_IA Z T126.heap b12 .boolean ([(nar .boolean v21), (nar .boolean v32), (nar .boolean v43), (nar .boolean v54)] : List Int32) := f122.keep K126 (ninS ne_b12_b121 nin0)
    have f128 : own_IA Z T126.heap b59 .int v116 := f123.keep K126 (ninS ne_b59_b121 nin0)
    have Zp129 : n0 ≤ T126.heap.size := Nat.le_trans Zp124 K126.1
    have st126 : ∀ t, Steps p.tables e below (T126.setTop (mkF m 285 #[.val (.int p0), .val (.int p1), .val (.int p2), .val (.int v1), .val (.int v3), .val (.int v9), .val (.ref b12), .val (.ref b59), .val (.int v119), .val (.int v91), .unset, .unset, .unset, .unset] [(.ref b121)])) t → Steps p.tables e below (T121.setTop (mkF m 282 #[.val (.int p0), .val (.int p1), .val (.int p2), .val (.int v1), .val (.int v3), .val (.int v9), .val (.ref b12), .val (.ref b59), .val (.int v119), .val (.int v91), .unset, .unset, .unset, .unset] [(.int (4 : Int32)), (.ref b121), (.ref b121)])) t := fun t k => st126.trans k
    have st130 : ∀ t, Steps p.tables e below (T126.setTop (mkF m 292 #[.val (.int p0), .val (.int p1), .val (.int p2), .val (.int v1), .val (.int v3), .val (.int v9), .val (.ref b12), .val (.ref b59), .val (.int v119), .val (.int v91), .val (.ref b121), .unset, .unset, .unset] [(.int v1), (.ref b12), (.ref b121)])) t → Steps p.tables e below (T126.setTop (mkF m 285 #[.val (.int p0), .val (.int p1), .val (.int p2), .val (.int v1), .val (.int v3), .val (.int v9), .val (.ref b12), .val (.ref b59), .val (.int v119), .val (.int v91), .unset, .unset, .unset, .unset] [(.ref b121)])) t := by
      intro t k
      show Steps p.tables e below (T126.setTop (mkF m 285 #[.val (.int p0), .val (.int p1), .val (.int p2), .val (.int v1), .val (.int v3), .val (.int v9), .val (.ref b12), .val (.ref b59), .val (.int v119), .val (.int v91), .unset, .unset, .unset, .unset] [(.ref b121)])) _
      refine XS.astore X126'.here hx rfl (hb hby at_285) rfl rfl (l' := #[.val (.int p0), .val (.int p1), .val (.int p2), .val (.int v1), .val (.int v3), .val (.int v9), .val (.ref b12), .val (.ref b59), .val (.int v119), .val (.int v91), .val (.ref b121), .unset, .unset, .unset]) rfl ?_
      show Steps p.tables e below (T126.setTop (mkF m 287 #[.val (.int p0), .val (.int p1), .val (.int p2), .val (.int v1), .val (.int v3), .val (.int v9), .val (.ref b12), .val (.ref b59), .val (.int v119), .val (.int v91), .val (.ref b121), .unset, .unset, .unset] [])) _
      refine XS.aload X126'.here hx rfl (hb hby at_287) rfl rfl ?_
      show Steps p.tables e below (T126.setTop (mkF m 289 #[.val (.int p0), .val (.int p1), .val (.int p2), .val (.int v1), .val (.int v3), .val (.int v9), .val (.ref b12), .val (.ref b59), .val (.int v119), .val (.int v91), .val (.ref b121), .unset, .unset, .unset] [(.ref b121)])) _
      refine XS.aload X126'.here hx rfl (hb hby at_289) rfl rfl ?_
      show Steps p.tables e below (T126.setTop (mkF m 291 #[.val (.int p0), .val (.int p1), .val (.int p2), .val (.int v1), .val (.int v3), .val (.int v9), .val (.ref b12), .val (.ref b59), .val (.int v119), .val (.int v91), .val (.ref b121), .unset, .unset, .unset] [(.ref b12), (.ref b121)])) _
      refine XS.iloadN X126'.here hx rfl (hb hby at_291) rfl ?_
      exact k
    obtain ⟨_, _, ⟨T131, L131, k131, n131⟩, -, X131, ⟨Lc131, hQ131, l131, y131, z131⟩, st131⟩ := Jvm.LawKit.callS X126' hx (y := (⟨"com/example/evotempo/evotempo/problem/OneMaxFitnessAfterFlipsPinLaw", "pop4", "(I)I"⟩ : MethodName)) hown (mvT hZ (hw _ (List.mem_of_getElem? (i := 20) rfl))) (mvT hZ (hw _ (List.mem_of_getElem? (i := 21) rfl))) (mvT hZ (hw _ (List.mem_of_getElem? (i := 3) rfl))) (mvT hZ (hw _ (List.mem_of_getElem? (i := 22) rfl))) (by decide) (backOf (W := 2) (own_rm5 l Z a0 hw [] v1 T126.heap) hZ (hw _ (List.mem_of_getElem? (i := 22) rfl)) (hw _ (List.mem_of_getElem? (i := 3) rfl)) (by decide) (by decide)) (g := (mkF m 292 #[.val (.int p0), .val (.int p1), .val (.int p2), .val (.int v1), .val (.int v3), .val (.int v9), .val (.ref b12), .val (.ref b59), .val (.int v119), .val (.int v91), .val (.ref b121), .unset, .unset, .unset] [(.int v1), (.ref b12), (.ref b121)])) rfl (by rw [hml]; rfl) (argsL := [(.int v1)]) (rest := [(.ref b12), (.ref b121)]) (lenOf own_pd3 rfl) rfl (by show 2 * 0 + _ ≤ _; exact Nat.le_of_eq rfl) (hb hby at_292) (fun _ _ => ⟨rfl, (rfl : T126.heap = T126.heap), (by decide : 3 + 0 ≤ _), (by decide : 9 + 0 ≤ _)⟩)
    dsimp only [Pt.U, Pt.locs, Pt.cells, Pt.slots] at X131 l131 y131 z131 st131 hQ131
    subst y131 z131
    obtain ⟨rfl, rfl, e131⟩ := hQ131
    have X131' : Stand p l e room_1 s m #[(.int p0), (.int p1), (.int p2)] below meth c T131 L126 3 9 := by rw [show L131 = L126 from by rw [l131]; first | rfl | exact List.append_nil _] at X131; exact X131
    obtain ⟨v132, hv132⟩ : ∃ z : Int32, z = (own_F5 v1) := ⟨_, rfl⟩
    rw [← hv132] at st131
    have st133 : ∀ t, Steps p.tables e below (T131.setTop (mkF m 300 #[.val (.int p0), .val (.int p1), .val (.int p2), .val (.int v1), .val (.int v3), .val (.int v9), .val (.ref b12), .val (.ref b59), .val (.int v119), .val (.int v91), .val (.ref b121), .unset, .unset, .unset] [(.int v91), (.ref b59), (.long (v132.toInt64)), (.ref b12), (.ref b121)])) t → Steps p.tables e below (T131.setTop (mkF m 295 #[.val (.int p0), .val (.int p1), .val (.int p2), .val (.int v1), .val (.int v3), .val (.int v9), .val (.ref b12), .val (.ref b59), .val (.int v119), .val (.int v91), .val (.ref b121), .unset, .unset, .unset] [(.int v132), (.ref b12), (.ref b121)])) t := by
      intro t k
      show Steps p.tables e below (T131.setTop (mkF m 295 #[.val (.int p0), .val (.int p1), .val (.int p2), .val (.int v1), .val (.int v3), .val (.int v9), .val (.ref b12), .val (.ref b59), .val (.int v119), .val (.int v91), .val (.ref b121), .unset, .unset, .unset] [(.int v132), (.ref b12), (.ref b121)])) _
      refine XS.i2l X131'.here hx rfl (hb hby at_295) rfl ?_
      show Steps p.tables e below (T131.setTop (mkF m 296 #[.val (.int p0), .val (.int p1), .val (.int p2), .val (.int v1), .val (.int v3), .val (.int v9), .val (.ref b12), .val (.ref b59), .val (.int v119), .val (.int v91), .val (.ref b121), .unset, .unset, .unset] [(.long (v132.toInt64)), (.ref b12), (.ref b121)])) _
      refine XS.aload X131'.here hx rfl (hb hby at_296) rfl rfl ?_
      show Steps p.tables e below (T131.setTop (mkF m 298 #[.val (.int p0), .val (.int p1), .val (.int p2), .val (.int v1), .val (.int v3), .val (.int v9), .val (.ref b12), .val (.ref b59), .val (.int v119), .val (.int v91), .val (.ref b121), .unset, .unset, .unset] [(.ref b59), (.long (v132.toInt64)), (.ref b12), (.ref b121)])) _
      refine XS.iload X131'.here hx rfl (hb hby at_298) rfl ?_
      exact k
    obtain ⟨cq134, kq134, q134a, q134b, q134c⟩ := isOf hZ e131 Q126_0
    obtain ⟨_, _, ⟨T134, L134, k134, n134⟩, -, X134, ⟨Lc134, hQ134, l134, y134, z134⟩, st134⟩ := X131'.virtualBack hx (y := (⟨"com/example/evotempo/evotempo/problem/OneMax", "fitnessAfterFlips", "([ZJ[II)J"⟩ : MethodName)) (z := (⟨"com/example/evotempo/evotempo/problem/OneMax", "fitnessAfterFlips", "([ZJ[II)J"⟩ : MethodName)) hown (mvT hZ (hw _ (List.mem_of_getElem? (i := 23) rfl))) (mvT hZ (hw _ (List.mem_of_getElem? (i := 24) rfl))) (notFace_of_selects (args := #[]) (mvT hZ (hw _ (List.mem_of_getElem? (i := 26) rfl)))) (mvT hZ (hw _ (List.mem_of_getElem? (i := 26) rfl))) (mvT hZ (hw _ (List.mem_of_getElem? (i := 25) rfl))) (by decide) (backOf (W := 0) (own_rm6 l Z a0 hw [] b121 b12 (v132.toInt64) b59 v91 ([(nar .boolean v21), (nar .boolean v32), (nar .boolean v43), (nar .boolean v54)] : List Int32) v116 T126.heap n0 Zp129 f127 f128 (own_h0_135 hv1 hv3 hv9 hv16 hv21 hv27 hv32 hv38 hv43 hv49 hv54 hv67 hv70 hv74 hv77 hv81 hv84 hv88 hv91 hv95 hv98 hv102 hv105 hv109 hv112 hv116 hv119 hv132 hc111_63) (own_h0_136 hv1 hv3 hv9 hv16 hv21 hv27 hv32 hv38 hv43 hv49 hv54 hv67 hv70 hv74 hv77 hv81 hv84 hv88 hv91 hv95 hv98 hv102 hv105 hv109 hv112 hv116 hv119 hv132 hc111_63)) hZ (hw _ (List.mem_of_getElem? (i := 27) rfl)) (hw _ (List.mem_of_getElem? (i := 11) rfl)) (by decide) (by decide)) q134a q134c (g := (mkF m 300 #[.val (.int p0), .val (.int p1), .val (.int p2), .val (.int v1), .val (.int v3), .val (.int v9), .val (.ref b12), .val (.ref b59), .val (.int v119), .val (.int v91), .val (.ref b121), .unset, .unset, .unset] [(.int v91), (.ref b59), (.long (v132.toInt64)), (.ref b12), (.ref b121)])) rfl (by rw [hml]; rfl) (Steps.refl _) (argsL := [(.ref b12), (.long (v132.toInt64)), (.ref b59), (.int v91)]) (rest := []) (lenOf own_pd4 rfl) rfl (by show 2 * 0 + _ ≤ _; exact Nat.le_of_eq rfl) (hb hby at_300) (fun _ _ => ⟨rfl, e131, (by decide : 3 + 0 ≤ _), (by decide : 9 + 0 ≤ _)⟩)
    dsimp only [Pt.U, Pt.locs, Pt.cells, Pt.slots] at X134 l134 y134 z134 st134 hQ134
    subst y134 z134
    obtain ⟨rfl, rfl, e134⟩ := hQ134
    have X134' : Stand p l e room_1 s m #[(.int p0), (.int p1), (.int p2)] below meth c T134 L126 3 9 := by rw [show L134 = L126 from by rw [l134]; first | rfl | exact List.append_nil _] at X134; exact X134
    have st134 : ∀ t, Steps p.tables e below (T134.setTop (mkF m 303 #[.val (.int p0), .val (.int p1), .val (.int p2), .val (.int v1), .val (.int v3), .val (.int v9), .val (.ref b12), .val (.ref b59), .val (.int v119), .val (.int v91), .val (.ref b121), .unset, .unset, .unset] [(.long (own_F6 (v132.toInt64) v91 ([(nar .boolean v21), (nar .boolean v32), (nar .boolean v43), (nar .boolean v54)] : List Int32) v116))])) t → Steps p.tables e below (T131.setTop (mkF m 300 #[.val (.int p0), .val (.int p1), .val (.int p2), .val (.int v1), .val (.int v3), .val (.int v9), .val (.ref b12), .val (.ref b59), .val (.int v119), .val (.int v91), .val (.ref b121), .unset, .unset, .unset] [(.int v91), (.ref b59), (.long (v132.toInt64)), (.ref b12), (.ref b121)])) t := fun t k => st134.trans k
    obtain ⟨v137, hv137⟩ : ∃ z : Int64, z = (own_F6 (v132.toInt64) v91 ([(nar .boolean v21), (nar .boolean v32), (nar .boolean v43), (nar .boolean v54)] : List Int32) v116) := ⟨_, rfl⟩
    rw [← hv137] at st134
    have st138 : ∀ t, Steps p.tables e below (T134.setTop (mkF m 311 #[.val (.int p0), .val (.int p1), .val (.int p2), .val (.int v1), .val (.int v3), .val (.int v9), .val (.ref b12), .val (.ref b59), .val (.int v119), .val (.int v91), .val (.ref b121), .val (.long v137), .second, .unset] [(.int (0 : Int32)), (.int v1), (.int (nar .boolean v21))])) t → Steps p.tables e below (T134.setTop (mkF m 303 #[.val (.int p0), .val (.int p1), .val (.int p2), .val (.int v1), .val (.int v3), .val (.int v9), .val (.ref b12), .val (.ref b59), .val (.int v119), .val (.int v91), .val (.ref b121), .unset, .unset, .unset] [(.long v137)])) t := by
      intro t k
      show Steps p.tables e below (T134.setTop (mkF m 303 #[.val (.int p0), .val (.int p1), .val (.int p2), .val (.int v1), .val (.int v3), .val (.int v9), .val (.ref b12), .val (.ref b59), .val (.int v119), .val (.int v91), .val (.ref b121), .unset, .unset, .unset] [(.long v137)])) _
      refine XS.lstore X134'.here hx rfl (hb hby at_303) rfl (l' := #[.val (.int p0), .val (.int p1), .val (.int p2), .val (.int v1), .val (.int v3), .val (.int v9), .val (.ref b12), .val (.ref b59), .val (.int v119), .val (.int v91), .val (.ref b121), .val (.long v137), .second, .unset]) rfl ?_
      show Steps p.tables e below (T134.setTop (mkF m 305 #[.val (.int p0), .val (.int p1), .val (.int p2), .val (.int v1), .val (.int v3), .val (.int v9), .val (.ref b12), .val (.ref b59), .val (.int v119), .val (.int v91), .val (.ref b121), .val (.long v137), .second, .unset] [])) _
      refine XS.aload X134'.here hx rfl (hb hby at_305) rfl rfl ?_
      show Steps p.tables e below (T134.setTop (mkF m 307 #[.val (.int p0), .val (.int p1), .val (.int p2), .val (.int v1), .val (.int v3), .val (.int v9), .val (.ref b12), .val (.ref b59), .val (.int v119), .val (.int v91), .val (.ref b121), .val (.long v137), .second, .unset] [(.ref b12)])) _
      refine XS.iconst X134'.here hx rfl (hb hby at_307) ?_
      show Steps p.tables e below (T134.setTop (mkF m 308 #[.val (.int p0), .val (.int p1), .val (.int p2), .val (.int v1), .val (.int v3), .val (.int v9), .val (.ref b12), .val (.ref b59), .val (.int v119), .val (.int v91), .val (.ref b121), .val (.long v137), .second, .unset] [(.int (0 : Int32)), (.ref b12)])) _
      refine own_baloadZ X134' hx hZ e134 f127 (j := (0 : Int32)) (own_in (m := 4) rfl (by decide)) (g := (mkF m 308 #[.val (.int p0), .val (.int p1), .val (.int p2), .val (.int v1), .val (.int v3), .val (.int v9), .val (.ref b12), .val (.ref b59), .val (.int v119), .val (.int v91), .val (.ref b121), .val (.long v137), .second, .unset] [(.int (0 : Int32)), (.ref b12)])) rfl rfl (hb hby at_308) _ ?_
      show Steps p.tables e below (T134.setTop (mkF m 309 #[.val (.int p0), .val (.int p1), .val (.int p2), .val (.int v1), .val (.int v3), .val (.int v9), .val (.ref b12), .val (.ref b59), .val (.int v119), .val (.int v91), .val (.ref b121), .val (.long v137), .second, .unset] [(.int (nar .boolean v21))])) _
      refine XS.iloadN X134'.here hx rfl (hb hby at_309) rfl ?_
      show Steps p.tables e below (T134.setTop (mkF m 310 #[.val (.int p0), .val (.int p1), .val (.int p2), .val (.int v1), .val (.int v3), .val (.int v9), .val (.ref b12), .val (.ref b59), .val (.int v119), .val (.int v91), .val (.ref b121), .val (.long v137), .second, .unset] [(.int v1), (.int (nar .boolean v21))])) _
      refine XS.iconst X134'.here hx rfl (hb hby at_310) ?_
      exact k
    obtain ⟨_, _, ⟨T139, L139, k139, n139⟩, -, X139, ⟨Lc139, hQ139, l139, y139, z139⟩, st139⟩ := Jvm.LawKit.callS X134' hx (y := (⟨"com/example/evotempo/evotempo/problem/OneMaxFitnessAfterFlipsPinLaw", "bit", "(II)I"⟩ : MethodName)) hown (mvT hZ (hw _ (List.mem_of_getElem? (i := 1) rfl))) (mvT hZ (hw _ (List.mem_of_getElem? (i := 2) rfl))) (mvT hZ (hw _ (List.mem_of_getElem? (i := 3) rfl))) (mvT hZ (hw _ (List.mem_of_getElem? (i := 4) rfl))) (by decide) (backOf (W := 1) (own_rm1 l Z a0 hw [] v1 (0 : Int32) T126.heap) hZ (hw _ (List.mem_of_getElem? (i := 4) rfl)) (hw _ (List.mem_of_getElem? (i := 3) rfl)) (by decide) (by decide)) (g := (mkF m 311 #[.val (.int p0), .val (.int p1), .val (.int p2), .val (.int v1), .val (.int v3), .val (.int v9), .val (.ref b12), .val (.ref b59), .val (.int v119), .val (.int v91), .val (.ref b121), .val (.long v137), .second, .unset] [(.int (0 : Int32)), (.int v1), (.int (nar .boolean v21))])) rfl (by rw [hml]; rfl) (argsL := [(.int v1), (.int (0 : Int32))]) (rest := [(.int (nar .boolean v21))]) (lenOf own_pd0 rfl) rfl (by show 2 * 0 + _ ≤ _; exact Nat.le_of_eq rfl) (hb hby at_311) (fun _ _ => ⟨rfl, e134, (by decide : 3 + 0 ≤ _), (by decide : 9 + 0 ≤ _)⟩)
    dsimp only [Pt.U, Pt.locs, Pt.cells, Pt.slots] at X139 l139 y139 z139 st139 hQ139
    subst y139 z139
    obtain ⟨rfl, rfl, e139⟩ := hQ139
    have X139' : Stand p l e room_1 s m #[(.int p0), (.int p1), (.int p2)] below meth c T139 L126 3 9 := by rw [show L139 = L126 from by rw [l139]; first | rfl | exact List.append_nil _] at X139; exact X139
    obtain ⟨v140, hv140⟩ : ∃ z : Int32, z = (own_F1 v1 (0 : Int32)) := ⟨_, rfl⟩
    rw [← hv140] at st139
    have st141 : ∀ t, Steps p.tables e below (T139.setTop (mkF m 315 #[.val (.int p0), .val (.int p1), .val (.int p2), .val (.int v1), .val (.int v3), .val (.int v9), .val (.ref b12), .val (.ref b59), .val (.int v119), .val (.int v91), .val (.ref b121), .val (.long v137), .second, .unset] [(.int (1 : Int32)), (.int v140), (.int (nar .boolean v21))])) t → Steps p.tables e below (T139.setTop (mkF m 314 #[.val (.int p0), .val (.int p1), .val (.int p2), .val (.int v1), .val (.int v3), .val (.int v9), .val (.ref b12), .val (.ref b59), .val (.int v119), .val (.int v91), .val (.ref b121), .val (.long v137), .second, .unset] [(.int v140), (.int (nar .boolean v21))])) t := by
      intro t k
      show Steps p.tables e below (T139.setTop (mkF m 314 #[.val (.int p0), .val (.int p1), .val (.int p2), .val (.int v1), .val (.int v3), .val (.int v9), .val (.ref b12), .val (.ref b59), .val (.int v119), .val (.int v91), .val (.ref b121), .val (.long v137), .second, .unset] [(.int v140), (.int (nar .boolean v21))])) _
      refine XS.iconst X139'.here hx rfl (hb hby at_314) ?_
      exact k
    obtain ⟨v145, hv145⟩ : ∃ z : Int32, z = (if v140 = (1 : Int32) then (1 : Int32) else (0 : Int32)) := ⟨_, rfl⟩
    obtain ⟨v146, hv146⟩ : ∃ z : Int32, z = (nar .boolean v21) := ⟨_, rfl⟩
    have st147 : ∀ t, Steps p.tables e below (T139.setTop (mkF m 323 #[.val (.int p0), .val (.int p1), .val (.int p2), .val (.int v1), .val (.int v3), .val (.int v9), .val (.ref b12), .val (.ref b59), .val (.int v119), .val (.int v91), .val (.ref b121), .val (.long v137), .second, .unset] [(.int v145), (.int v146)])) t → Steps p.tables e below (T139.setTop (mkF m 315 #[.val (.int p0), .val (.int p1), .val (.int p2), .val (.int v1), .val (.int v3), .val (.int v9), .val (.ref b12), .val (.ref b59), .val (.int v119), .val (.int v91), .val (.ref b121), .val (.long v137), .second, .unset] [(.int (1 : Int32)), (.int v140), (.int (nar .boolean v21))])) t := by
      rw [hv145]
      rw [hv146]
      by_cases hc315_142 : v140 = (1 : Int32)
      · repeat rw [if_pos hc315_142]
        have st143 : ∀ t, Steps p.tables e below (T139.setTop (mkF m 323 #[.val (.int p0), .val (.int p1), .val (.int p2), .val (.int v1), .val (.int v3), .val (.int v9), .val (.ref b12), .val (.ref b59), .val (.int v119), .val (.int v91), .val (.ref b121), .val (.long v137), .second, .unset] [(.int (1 : Int32)), (.int (nar .boolean v21))])) t → Steps p.tables e below (T139.setTop (mkF m 315 #[.val (.int p0), .val (.int p1), .val (.int p2), .val (.int v1), .val (.int v3), .val (.int v9), .val (.ref b12), .val (.ref b59), .val (.int v119), .val (.int v91), .val (.ref b121), .val (.long v137), .second, .unset] [(.int (1 : Int32)), (.int v140), (.int (nar .boolean v21))])) t := by
          intro t k
          show Steps p.tables e below (T139.setTop (mkF m 315 #[.val (.int p0), .val (.int p1), .val (.int p2), .val (.int v1), .val (.int v3), .val (.int v9), .val (.ref b12), .val (.ref b59), .val (.int v119), .val (.int v91), .val (.ref b121), .val (.long v137), .second, .unset] [(.int (1 : Int32)), (.int v140), (.int (nar .boolean v21))])) _
          refine XS.icmpNo X139'.here hx rfl (hb hby at_315) rfl (teq hc315_142).2 ?_
          show Steps p.tables e below (T139.setTop (mkF m 318 #[.val (.int p0), .val (.int p1), .val (.int p2), .val (.int v1), .val (.int v3), .val (.int v9), .val (.ref b12), .val (.ref b59), .val (.int v119), .val (.int v91), .val (.ref b121), .val (.long v137), .second, .unset] [(.int (nar .boolean v21))])) _
          refine XS.iconst X139'.here hx rfl (hb hby at_318) ?_
          show Steps p.tables e below (T139.setTop (mkF m 319 #[.val (.int p0), .val (.int p1), .val (.int p2), .val (.int v1), .val (.int v3), .val (.int v9), .val (.ref b12), .val (.ref b59), .val (.int v119), .val (.int v91), .val (.ref b121), .val (.long v137), .second, .unset] [(.int (1 : Int32)), (.int (nar .boolean v21))])) _
          refine XS.goto X139'.here hx rfl (pc0 := 319) (pc' := 323) rfl (hb hby at_319) (by decide) (by decide) ?_
          exact k
        exact fun t k => st143 _ k
      · repeat rw [if_neg hc315_142]
        have st144 : ∀ t, Steps p.tables e below (T139.setTop (mkF m 323 #[.val (.int p0), .val (.int p1), .val (.int p2), .val (.int v1), .val (.int v3), .val (.int v9), .val (.ref b12), .val (.ref b59), .val (.int v119), .val (.int v91), .val (.ref b121), .val (.long v137), .second, .unset] [(.int (0 : Int32)), (.int (nar .boolean v21))])) t → Steps p.tables e below (T139.setTop (mkF m 315 #[.val (.int p0), .val (.int p1), .val (.int p2), .val (.int v1), .val (.int v3), .val (.int v9), .val (.ref b12), .val (.ref b59), .val (.int v119), .val (.int v91), .val (.ref b121), .val (.long v137), .second, .unset] [(.int (1 : Int32)), (.int v140), (.int (nar .boolean v21))])) t := by
          intro t k
          show Steps p.tables e below (T139.setTop (mkF m 315 #[.val (.int p0), .val (.int p1), .val (.int p2), .val (.int v1), .val (.int v3), .val (.int v9), .val (.ref b12), .val (.ref b59), .val (.int v119), .val (.int v91), .val (.ref b121), .val (.long v137), .second, .unset] [(.int (1 : Int32)), (.int v140), (.int (nar .boolean v21))])) _
          refine XS.icmpYes X139'.here hx rfl (pc0 := 315) (pc' := 322) rfl (hb hby at_315) rfl (feq hc315_142).2 (by decide) (by decide) ?_
          show Steps p.tables e below (T139.setTop (mkF m 322 #[.val (.int p0), .val (.int p1), .val (.int p2), .val (.int v1), .val (.int v3), .val (.int v9), .val (.ref b12), .val (.ref b59), .val (.int v119), .val (.int v91), .val (.ref b121), .val (.long v137), .second, .unset] [(.int (nar .boolean v21))])) _
          refine XS.iconst X139'.here hx rfl (hb hby at_322) ?_
          exact k
        exact fun t k => st144 _ k
    obtain ⟨v181, hv181⟩ : ∃ z : Int32, z = (if v146 = v145 then (if (nar .boolean v32) = (if (own_F1 v1 (1 : Int32)) = (1 : Int32) then (1 : Int32) else (0 : Int32)) then (if (nar .boolean v43) = (if (own_F1 v1 (2 : Int32)) = (1 : Int32) then (1 : Int32) else (0 : Int32)) then (if (nar .boolean v54) = (if (own_F1 v1 (3 : Int32)) = (1 : Int32) then (1 : Int32) else (0 : Int32)) then (1 : Int32) else (0 : Int32)) else (0 : Int32)) else (0 : Int32)) else (0 : Int32)) := ⟨_, rfl⟩
    obtain ⟨T182, X182, e182, st182⟩ : ∃ T' : State, Stand p l e room_1 s m #[(.int p0), (.int p1), (.int p2)] below meth c T' L126 3 9 ∧ T'.heap = T126.heap ∧ ∀ t, Steps p.tables e below (T'.setTop (mkF m 394 #[.val (.int p0), .val (.int p1), .val (.int p2), .val (.int v1), .val (.int v3), .val (.int v9), .val (.ref b12), .val (.ref b59), .val (.int v119), .val (.int v91), .val (.ref b121), .val (.long v137), .second, .unset] [(.int v181)])) t → Steps p.tables e below (T139.setTop (mkF m 323 #[.val (.int p0), .val (.int p1), .val (.int p2), .val (.int v1), .val (.int v3), .val (.int v9), .val (.ref b12), .val (.ref b59), .val (.int v119), .val (.int v91), .val (.ref b121), .val (.long v137), .second, .unset] [(.int v145), (.int v146)])) t := by
      rw [hv181]
      by_cases hc323_148 : v146 = v145
      · repeat rw [if_pos hc323_148]
        have st149 : ∀ t, Steps p.tables e below (T139.setTop (mkF m 332 #[.val (.int p0), .val (.int p1), .val (.int p2), .val (.int v1), .val (.int v3), .val (.int v9), .val (.ref b12), .val (.ref b59), .val (.int v119), .val (.int v91), .val (.ref b121), .val (.long v137), .second, .unset] [(.int (1 : Int32)), (.int v1), (.int (nar .boolean v32))])) t → Steps p.tables e below (T139.setTop (mkF m 323 #[.val (.int p0), .val (.int p1), .val (.int p2), .val (.int v1), .val (.int v3), .val (.int v9), .val (.ref b12), .val (.ref b59), .val (.int v119), .val (.int v91), .val (.ref b121), .val (.long v137), .second, .unset] [(.int v145), (.int v146)])) t := by
          intro t k
          show Steps p.tables e below (T139.setTop (mkF m 323 #[.val (.int p0), .val (.int p1), .val (.int p2), .val (.int v1), .val (.int v3), .val (.int v9), .val (.ref b12), .val (.ref b59), .val (.int v119), .val (.int v91), .val (.ref b121), .val (.long v137), .second, .unset] [(.int v145), (.int v146)])) _
          refine XS.icmpNo X139'.here hx rfl (hb hby at_323) rfl (teq hc323_148).2 ?_
          show Steps p.tables e below (T139.setTop (mkF m 326 #[.val (.int p0), .val (.int p1), .val (.int p2), .val (.int v1), .val (.int v3), .val (.int v9), .val (.ref b12), .val (.ref b59), .val (.int v119), .val (.int v91), .val (.ref b121), .val (.long v137), .second, .unset] [])) _
          refine XS.aload X139'.here hx rfl (hb hby at_326) rfl rfl ?_
          show Steps p.tables e below (T139.setTop (mkF m 328 #[.val (.int p0), .val (.int p1), .val (.int p2), .val (.int v1), .val (.int v3), .val (.int v9), .val (.ref b12), .val (.ref b59), .val (.int v119), .val (.int v91), .val (.ref b121), .val (.long v137), .second, .unset] [(.ref b12)])) _
          refine XS.iconst X139'.here hx rfl (hb hby at_328) ?_
          show Steps p.tables e below (T139.setTop (mkF m 329 #[.val (.int p0), .val (.int p1), .val (.int p2), .val (.int v1), .val (.int v3), .val (.int v9), .val (.ref b12), .val (.ref b59), .val (.int v119), .val (.int v91), .val (.ref b121), .val (.long v137), .second, .unset] [(.int (1 : Int32)), (.ref b12)])) _
          refine own_baloadZ X139' hx hZ e139 f127 (j := (1 : Int32)) (own_in (m := 4) rfl (by decide)) (g := (mkF m 329 #[.val (.int p0), .val (.int p1), .val (.int p2), .val (.int v1), .val (.int v3), .val (.int v9), .val (.ref b12), .val (.ref b59), .val (.int v119), .val (.int v91), .val (.ref b121), .val (.long v137), .second, .unset] [(.int (1 : Int32)), (.ref b12)])) rfl rfl (hb hby at_329) _ ?_
          show Steps p.tables e below (T139.setTop (mkF m 330 #[.val (.int p0), .val (.int p1), .val (.int p2), .val (.int v1), .val (.int v3), .val (.int v9), .val (.ref b12), .val (.ref b59), .val (.int v119), .val (.int v91), .val (.ref b121), .val (.long v137), .second, .unset] [(.int (nar .boolean v32))])) _
          refine XS.iloadN X139'.here hx rfl (hb hby at_330) rfl ?_
          show Steps p.tables e below (T139.setTop (mkF m 331 #[.val (.int p0), .val (.int p1), .val (.int p2), .val (.int v1), .val (.int v3), .val (.int v9), .val (.ref b12), .val (.ref b59), .val (.int v119), .val (.int v91), .val (.ref b121), .val (.long v137), .second, .unset] [(.int v1), (.int (nar .boolean v32))])) _
          refine XS.iconst X139'.here hx rfl (hb hby at_331) ?_
          exact k
        obtain ⟨_, _, ⟨T150, L150, k150, n150⟩, -, X150, ⟨Lc150, hQ150, l150, y150, z150⟩, st150⟩ := Jvm.LawKit.callS X139' hx (y := (⟨"com/example/evotempo/evotempo/problem/OneMaxFitnessAfterFlipsPinLaw", "bit", "(II)I"⟩ : MethodName)) hown (mvT hZ (hw _ (List.mem_of_getElem? (i := 1) rfl))) (mvT hZ (hw _ (List.mem_of_getElem? (i := 2) rfl))) (mvT hZ (hw _ (List.mem_of_getElem? (i := 3) rfl))) (mvT hZ (hw _ (List.mem_of_getElem? (i := 4) rfl))) (by decide) (backOf (W := 1) (own_rm1 l Z a0 hw [] v1 (1 : Int32) T126.heap) hZ (hw _ (List.mem_of_getElem? (i := 4) rfl)) (hw _ (List.mem_of_getElem? (i := 3) rfl)) (by decide) (by decide)) (g := (mkF m 332 #[.val (.int p0), .val (.int p1), .val (.int p2), .val (.int v1), .val (.int v3), .val (.int v9), .val (.ref b12), .val (.ref b59), .val (.int v119), .val (.int v91), .val (.ref b121), .val (.long v137), .second, .unset] [(.int (1 : Int32)), (.int v1), (.int (nar .boolean v32))])) rfl (by rw [hml]; rfl) (argsL := [(.int v1), (.int (1 : Int32))]) (rest := [(.int (nar .boolean v32))]) (lenOf own_pd0 rfl) rfl (by show 2 * 0 + _ ≤ _; exact Nat.le_of_eq rfl) (hb hby at_332) (fun _ _ => ⟨rfl, e139, (by decide : 3 + 0 ≤ _), (by decide : 9 + 0 ≤ _)⟩)
        dsimp only [Pt.U, Pt.locs, Pt.cells, Pt.slots] at X150 l150 y150 z150 st150 hQ150
        subst y150 z150
        obtain ⟨rfl, rfl, e150⟩ := hQ150
        have X150' : Stand p l e room_1 s m #[(.int p0), (.int p1), (.int p2)] below meth c T150 L126 3 9 := by rw [show L150 = L126 from by rw [l150]; first | rfl | exact List.append_nil _] at X150; exact X150
        have st151 : ∀ t, Steps p.tables e below (T150.setTop (mkF m 336 #[.val (.int p0), .val (.int p1), .val (.int p2), .val (.int v1), .val (.int v3), .val (.int v9), .val (.ref b12), .val (.ref b59), .val (.int v119), .val (.int v91), .val (.ref b121), .val (.long v137), .second, .unset] [(.int (1 : Int32)), (.int (own_F1 v1 (1 : Int32))), (.int (nar .boolean v32))])) t → Steps p.tables e below (T150.setTop (mkF m 335 #[.val (.int p0), .val (.int p1), .val (.int p2), .val (.int v1), .val (.int v3), .val (.int v9), .val (.ref b12), .val (.ref b59), .val (.int v119), .val (.int v91), .val (.ref b121), .val (.long v137), .second, .unset] [(.int (own_F1 v1 (1 : Int32))), (.int (nar .boolean v32))])) t := by
          intro t k
          show Steps p.tables e below (T150.setTop (mkF m 335 #[.val (.int p0), .val (.int p1), .val (.int p2), .val (.int v1), .val (.int v3), .val (.int v9), .val (.ref b12), .val (.ref b59), .val (.int v119), .val (.int v91), .val (.ref b121), .val (.long v137), .second, .unset] [(.int (own_F1 v1 (1 : Int32))), (.int (nar .boolean v32))])) _
          refine XS.iconst X150'.here hx rfl (hb hby at_335) ?_
          exact k
        have st155 : ∀ t, Steps p.tables e below (T150.setTop (mkF m 344 #[.val (.int p0), .val (.int p1), .val (.int p2), .val (.int v1), .val (.int v3), .val (.int v9), .val (.ref b12), .val (.ref b59), .val (.int v119), .val (.int v91), .val (.ref b121), .val (.long v137), .second, .unset] [(.int (if (own_F1 v1 (1 : Int32)) = (1 : Int32) then (1 : Int32) else (0 : Int32))), (.int (nar .boolean v32))])) t → Steps p.tables e below (T150.setTop (mkF m 336 #[.val (.int p0), .val (.int p1), .val (.int p2), .val (.int v1), .val (.int v3), .val (.int v9), .val (.ref b12), .val (.ref b59), .val (.int v119), .val (.int v91), .val (.ref b121), .val (.long v137), .second, .unset] [(.int (1 : Int32)), (.int (own_F1 v1 (1 : Int32))), (.int (nar .boolean v32))])) t := by
          by_cases hc336_152 : (own_F1 v1 (1 : Int32)) = (1 : Int32)
          · repeat rw [if_pos hc336_152]
            have st153 : ∀ t, Steps p.tables e below (T150.setTop (mkF m 344 #[.val (.int p0), .val (.int p1), .val (.int p2), .val (.int v1), .val (.int v3), .val (.int v9), .val (.ref b12), .val (.ref b59), .val (.int v119), .val (.int v91), .val (.ref b121), .val (.long v137), .second, .unset] [(.int (1 : Int32)), (.int (nar .boolean v32))])) t → Steps p.tables e below (T150.setTop (mkF m 336 #[.val (.int p0), .val (.int p1), .val (.int p2), .val (.int v1), .val (.int v3), .val (.int v9), .val (.ref b12), .val (.ref b59), .val (.int v119), .val (.int v91), .val (.ref b121), .val (.long v137), .second, .unset] [(.int (1 : Int32)), (.int (own_F1 v1 (1 : Int32))), (.int (nar .boolean v32))])) t := by
              intro t k
              show Steps p.tables e below (T150.setTop (mkF m 336 #[.val (.int p0), .val (.int p1), .val (.int p2), .val (.int v1), .val (.int v3), .val (.int v9), .val (.ref b12), .val (.ref b59), .val (.int v119), .val (.int v91), .val (.ref b121), .val (.long v137), .second, .unset] [(.int (1 : Int32)), (.int (own_F1 v1 (1 : Int32))), (.int (nar .boolean v32))])) _
              refine XS.icmpNo X150'.here hx rfl (hb hby at_336) rfl (teq hc336_152).2 ?_
              show Steps p.tables e below (T150.setTop (mkF m 339 #[.val (.int p0), .val (.int p1), .val (.int p2), .val (.int v1), .val (.int v3), .val (.int v9), .val (.ref b12), .val (.ref b59), .val (.int v119), .val (.int v91), .val (.ref b121), .val (.long v137), .second, .unset] [(.int (nar .boolean v32))])) _
              refine XS.iconst X150'.here hx rfl (hb hby at_339) ?_
              show Steps p.tables e below (T150.setTop (mkF m 340 #[.val (.int p0), .val (.int p1), .val (.int p2), .val (.int v1), .val (.int v3), .val (.int v9), .val (.ref b12), .val (.ref b59), .val (.int v119), .val (.int v91), .val (.ref b121), .val (.long v137), .second, .unset] [(.int (1 : Int32)), (.int (nar .boolean v32))])) _
              refine XS.goto X150'.here hx rfl (pc0 := 340) (pc' := 344) rfl (hb hby at_340) (by decide) (by decide) ?_
              exact k
            exact fun t k => st153 _ k
          · repeat rw [if_neg hc336_152]
            have st154 : ∀ t, Steps p.tables e below (T150.setTop (mkF m 344 #[.val (.int p0), .val (.int p1), .val (.int p2), .val (.int v1), .val (.int v3), .val (.int v9), .val (.ref b12), .val (.ref b59), .val (.int v119), .val (.int v91), .val (.ref b121), .val (.long v137), .second, .unset] [(.int (0 : Int32)), (.int (nar .boolean v32))])) t → Steps p.tables e below (T150.setTop (mkF m 336 #[.val (.int p0), .val (.int p1), .val (.int p2), .val (.int v1), .val (.int v3), .val (.int v9), .val (.ref b12), .val (.ref b59), .val (.int v119), .val (.int v91), .val (.ref b121), .val (.long v137), .second, .unset] [(.int (1 : Int32)), (.int (own_F1 v1 (1 : Int32))), (.int (nar .boolean v32))])) t := by
              intro t k
              show Steps p.tables e below (T150.setTop (mkF m 336 #[.val (.int p0), .val (.int p1), .val (.int p2), .val (.int v1), .val (.int v3), .val (.int v9), .val (.ref b12), .val (.ref b59), .val (.int v119), .val (.int v91), .val (.ref b121), .val (.long v137), .second, .unset] [(.int (1 : Int32)), (.int (own_F1 v1 (1 : Int32))), (.int (nar .boolean v32))])) _
              refine XS.icmpYes X150'.here hx rfl (pc0 := 336) (pc' := 343) rfl (hb hby at_336) rfl (feq hc336_152).2 (by decide) (by decide) ?_
              show Steps p.tables e below (T150.setTop (mkF m 343 #[.val (.int p0), .val (.int p1), .val (.int p2), .val (.int v1), .val (.int v3), .val (.int v9), .val (.ref b12), .val (.ref b59), .val (.int v119), .val (.int v91), .val (.ref b121), .val (.long v137), .second, .unset] [(.int (nar .boolean v32))])) _
              refine XS.iconst X150'.here hx rfl (hb hby at_343) ?_
              exact k
            exact fun t k => st154 _ k
        obtain ⟨T179, X179, e179, st179⟩ : ∃ T' : State, Stand p l e room_1 s m #[(.int p0), (.int p1), (.int p2)] below meth c T' L126 3 9 ∧ T'.heap = T126.heap ∧ ∀ t, Steps p.tables e below (T'.setTop (mkF m 394 #[.val (.int p0), .val (.int p1), .val (.int p2), .val (.int v1), .val (.int v3), .val (.int v9), .val (.ref b12), .val (.ref b59), .val (.int v119), .val (.int v91), .val (.ref b121), .val (.long v137), .second, .unset] [(.int (if (nar .boolean v32) = (if (own_F1 v1 (1 : Int32)) = (1 : Int32) then (1 : Int32) else (0 : Int32)) then (if (nar .boolean v43) = (if (own_F1 v1 (2 : Int32)) = (1 : Int32) then (1 : Int32) else (0 : Int32)) then (if (nar .boolean v54) = (if (own_F1 v1 (3 : Int32)) = (1 : Int32) then (1 : Int32) else (0 : Int32)) then (1 : Int32) else (0 : Int32)) else (0 : Int32)) else (0 : Int32)))])) t → Steps p.tables e below (T150.setTop (mkF m 344 #[.val (.int p0), .val (.int p1), .val (.int p2), .val (.int v1), .val (.int v3), .val (.int v9), .val (.ref b12), .val (.ref b59), .val (.int v119), .val (.int v91), .val (.ref b121), .val (.long v137), .second, .unset] [(.int (if (own_F1 v1 (1 : Int32)) = (1 : Int32) then (1 : Int32) else (0 : Int32))), (.int (nar .boolean v32))])) t := by
          by_cases hc344_156 : (nar .boolean v32) = (if (own_F1 v1 (1 : Int32)) = (1 : Int32) then (1 : Int32) else (0 : Int32))
          · repeat rw [if_pos hc344_156]
            have st157 : ∀ t, Steps p.tables e below (T150.setTop (mkF m 353 #[.val (.int p0), .val (.int p1), .val (.int p2), .val (.int v1), .val (.int v3), .val (.int v9), .val (.ref b12), .val (.ref b59), .val (.int v119), .val (.int v91), .val (.ref b121), .val (.long v137), .second, .unset] [(.int (2 : Int32)), (.int v1), (.int (nar .boolean v43))])) t → Steps p.tables e below (T150.setTop (mkF m 344 #[.val (.int p0), .val (.int p1), .val (.int p2), .val (.int v1), .val (.int v3), .val (.int v9), .val (.ref b12), .val (.ref b59), .val (.int v119), .val (.int v91), .val (.ref b121), .val (.long v137), .second, .unset] [(.int (if (own_F1 v1 (1 : Int32)) = (1 : Int32) then (1 : Int32) else (0 : Int32))), (.int (nar .boolean v32))])) t := by
              intro t k
              show Steps p.tables e below (T150.setTop (mkF m 344 #[.val (.int p0), .val (.int p1), .val (.int p2), .val (.int v1), .val (.int v3), .val (.int v9), .val (.ref b12), .val (.ref b59), .val (.int v119), .val (.int v91), .val (.ref b121), .val (.long v137), .second, .unset] [(.int (if (own_F1 v1 (1 : Int32)) = (1 : Int32) then (1 : Int32) else (0 : Int32))), (.int (nar .boolean v32))])) _
              refine XS.icmpNo X150'.here hx rfl (hb hby at_344) rfl (teq hc344_156).2 ?_
              show Steps p.tables e below (T150.setTop (mkF m 347 #[.val (.int p0), .val (.int p1), .val (.int p2), .val (.int v1), .val (.int v3), .val (.int v9), .val (.ref b12), .val (.ref b59), .val (.int v119), .val (.int v91), .val (.ref b121), .val (.long v137), .second, .unset] [])) _
              refine XS.aload X150'.here hx rfl (hb hby at_347) rfl rfl ?_
              show Steps p.tables e below (T150.setTop (mkF m 349 #[.val (.int p0), .val (.int p1), .val (.int p2), .val (.int v1), .val (.int v3), .val (.int v9), .val (.ref b12), .val (.ref b59), .val (.int v119), .val (.int v91), .val (.ref b121), .val (.long v137), .second, .unset] [(.ref b12)])) _
              refine XS.iconst X150'.here hx rfl (hb hby at_349) ?_
              show Steps p.tables e below (T150.setTop (mkF m 350 #[.val (.int p0), .val (.int p1), .val (.int p2), .val (.int v1), .val (.int v3), .val (.int v9), .val (.ref b12), .val (.ref b59), .val (.int v119), .val (.int v91), .val (.ref b121), .val (.long v137), .second, .unset] [(.int (2 : Int32)), (.ref b12)])) _
              refine own_baloadZ X150' hx hZ e150 f127 (j := (2 : Int32)) (own_in (m := 4) rfl (by decide)) (g := (mkF m 350 #[.val (.int p0), .val (.int p1), .val (.int p2), .val (.int v1), .val (.int v3), .val (.int v9), .val (.ref b12), .val (.ref b59), .val (.int v119), .val (.int v91), .val (.ref b121), .val (.long v137), .second, .unset] [(.int (2 : Int32)), (.ref b12)])) rfl rfl (hb hby at_350) _ ?_
              show Steps p.tables e below (T150.setTop (mkF m 351 #[.val (.int p0), .val (.int p1), .val (.int p2), .val (.int v1), .val (.int v3), .val (.int v9), .val (.ref b12), .val (.ref b59), .val (.int v119), .val (.int v91), .val (.ref b121), .val (.long v137), .second, .unset] [(.int (nar .boolean v43))])) _
              refine XS.iloadN X150'.here hx rfl (hb hby at_351) rfl ?_
              show Steps p.tables e below (T150.setTop (mkF m 352 #[.val (.int p0), .val (.int p1), .val (.int p2), .val (.int v1), .val (.int v3), .val (.int v9), .val (.ref b12), .val (.ref b59), .val (.int v119), .val (.int v91), .val (.ref b121), .val (.long v137), .second, .unset] [(.int v1), (.int (nar .boolean v43))])) _
              refine XS.iconst X150'.here hx rfl (hb hby at_352) ?_
              exact k
            obtain ⟨_, _, ⟨T158, L158, k158, n158⟩, -, X158, ⟨Lc158, hQ158, l158, y158, z158⟩, st158⟩ := Jvm.LawKit.callS X150' hx (y := (⟨"com/example/evotempo/evotempo/problem/OneMaxFitnessAfterFlipsPinLaw", "bit", "(II)I"⟩ : MethodName)) hown (mvT hZ (hw _ (List.mem_of_getElem? (i := 1) rfl))) (mvT hZ (hw _ (List.mem_of_getElem? (i := 2) rfl))) (mvT hZ (hw _ (List.mem_of_getElem? (i := 3) rfl))) (mvT hZ (hw _ (List.mem_of_getElem? (i := 4) rfl))) (by decide) (backOf (W := 1) (own_rm1 l Z a0 hw [] v1 (2 : Int32) T126.heap) hZ (hw _ (List.mem_of_getElem? (i := 4) rfl)) (hw _ (List.mem_of_getElem? (i := 3) rfl)) (by decide) (by decide)) (g := (mkF m 353 #[.val (.int p0), .val (.int p1), .val (.int p2), .val (.int v1), .val (.int v3), .val (.int v9), .val (.ref b12), .val (.ref b59), .val (.int v119), .val (.int v91), .val (.ref b121), .val (.long v137), .second, .unset] [(.int (2 : Int32)), (.int v1), (.int (nar .boolean v43))])) rfl (by rw [hml]; rfl) (argsL := [(.int v1), (.int (2 : Int32))]) (rest := [(.int (nar .boolean v43))]) (lenOf own_pd0 rfl) rfl (by show 2 * 0 + _ ≤ _; exact Nat.le_of_eq rfl) (hb hby at_353) (fun _ _ => ⟨rfl, e150, (by decide : 3 + 0 ≤ _), (by decide : 9 + 0 ≤ _)⟩)
            dsimp only [Pt.U, Pt.locs, Pt.cells, Pt.slots] at X158 l158 y158 z158 st158 hQ158
            subst y158 z158
            obtain ⟨rfl, rfl, e158⟩ := hQ158
            have X158' : Stand p l e room_1 s m #[(.int p0), (.int p1), (.int p2)] below meth c T158 L126 3 9 := by rw [show L158 = L126 from by rw [l158]; first | rfl | exact List.append_nil _] at X158; exact X158
            have st159 : ∀ t, Steps p.tables e below (T158.setTop (mkF m 357 #[.val (.int p0), .val (.int p1), .val (.int p2), .val (.int v1), .val (.int v3), .val (.int v9), .val (.ref b12), .val (.ref b59), .val (.int v119), .val (.int v91), .val (.ref b121), .val (.long v137), .second, .unset] [(.int (1 : Int32)), (.int (own_F1 v1 (2 : Int32))), (.int (nar .boolean v43))])) t → Steps p.tables e below (T158.setTop (mkF m 356 #[.val (.int p0), .val (.int p1), .val (.int p2), .val (.int v1), .val (.int v3), .val (.int v9), .val (.ref b12), .val (.ref b59), .val (.int v119), .val (.int v91), .val (.ref b121), .val (.long v137), .second, .unset] [(.int (own_F1 v1 (2 : Int32))), (.int (nar .boolean v43))])) t := by
              intro t k
              show Steps p.tables e below (T158.setTop (mkF m 356 #[.val (.int p0), .val (.int p1), .val (.int p2), .val (.int v1), .val (.int v3), .val (.int v9), .val (.ref b12), .val (.ref b59), .val (.int v119), .val (.int v91), .val (.ref b121), .val (.long v137), .second, .unset] [(.int (own_F1 v1 (2 : Int32))), (.int (nar .boolean v43))])) _
              refine XS.iconst X158'.here hx rfl (hb hby at_356) ?_
              exact k
            have st163 : ∀ t, Steps p.tables e below (T158.setTop (mkF m 365 #[.val (.int p0), .val (.int p1), .val (.int p2), .val (.int v1), .val (.int v3), .val (.int v9), .val (.ref b12), .val (.ref b59), .val (.int v119), .val (.int v91), .val (.ref b121), .val (.long v137), .second, .unset] [(.int (if (own_F1 v1 (2 : Int32)) = (1 : Int32) then (1 : Int32) else (0 : Int32))), (.int (nar .boolean v43))])) t → Steps p.tables e below (T158.setTop (mkF m 357 #[.val (.int p0), .val (.int p1), .val (.int p2), .val (.int v1), .val (.int v3), .val (.int v9), .val (.ref b12), .val (.ref b59), .val (.int v119), .val (.int v91), .val (.ref b121), .val (.long v137), .second, .unset] [(.int (1 : Int32)), (.int (own_F1 v1 (2 : Int32))), (.int (nar .boolean v43))])) t := by
              by_cases hc357_160 : (own_F1 v1 (2 : Int32)) = (1 : Int32)
              · repeat rw [if_pos hc357_160]
                have st161 : ∀ t, Steps p.tables e below (T158.setTop (mkF m 365 #[.val (.int p0), .val (.int p1), .val (.int p2), .val (.int v1), .val (.int v3), .val (.int v9), .val (.ref b12), .val (.ref b59), .val (.int v119), .val (.int v91), .val (.ref b121), .val (.long v137), .second, .unset] [(.int (1 : Int32)), (.int (nar .boolean v43))])) t → Steps p.tables e below (T158.setTop (mkF m 357 #[.val (.int p0), .val (.int p1), .val (.int p2), .val (.int v1), .val (.int v3), .val (.int v9), .val (.ref b12), .val (.ref b59), .val (.int v119), .val (.int v91), .val (.ref b121), .val (.long v137), .second, .unset] [(.int (1 : Int32)), (.int (own_F1 v1 (2 : Int32))), (.int (nar .boolean v43))])) t := by
                  intro t k
                  show Steps p.tables e below (T158.setTop (mkF m 357 #[.val (.int p0), .val (.int p1), .val (.int p2), .val (.int v1), .val (.int v3), .val (.int v9), .val (.ref b12), .val (.ref b59), .val (.int v119), .val (.int v91), .val (.ref b121), .val (.long v137), .second, .unset] [(.int (1 : Int32)), (.int (own_F1 v1 (2 : Int32))), (.int (nar .boolean v43))])) _
                  refine XS.icmpNo X158'.here hx rfl (hb hby at_357) rfl (teq hc357_160).2 ?_
                  show Steps p.tables e below (T158.setTop (mkF m 360 #[.val (.int p0), .val (.int p1), .val (.int p2), .val (.int v1), .val (.int v3), .val (.int v9), .val (.ref b12), .val (.ref b59), .val (.int v119), .val (.int v91), .val (.ref b121), .val (.long v137), .second, .unset] [(.int (nar .boolean v43))])) _
                  refine XS.iconst X158'.here hx rfl (hb hby at_360) ?_
                  show Steps p.tables e below (T158.setTop (mkF m 361 #[.val (.int p0), .val (.int p1), .val (.int p2), .val (.int v1), .val (.int v3), .val (.int v9), .val (.ref b12), .val (.ref b59), .val (.int v119), .val (.int v91), .val (.ref b121), .val (.long v137), .second, .unset] [(.int (1 : Int32)), (.int (nar .boolean v43))])) _
                  refine XS.goto X158'.here hx rfl (pc0 := 361) (pc' := 365) rfl (hb hby at_361) (by decide) (by decide) ?_
                  exact k
                exact fun t k => st161 _ k
              · repeat rw [if_neg hc357_160]
                have st162 : ∀ t, Steps p.tables e below (T158.setTop (mkF m 365 #[.val (.int p0), .val (.int p1), .val (.int p2), .val (.int v1), .val (.int v3), .val (.int v9), .val (.ref b12), .val (.ref b59), .val (.int v119), .val (.int v91), .val (.ref b121), .val (.long v137), .second, .unset] [(.int (0 : Int32)), (.int (nar .boolean v43))])) t → Steps p.tables e below (T158.setTop (mkF m 357 #[.val (.int p0), .val (.int p1), .val (.int p2), .val (.int v1), .val (.int v3), .val (.int v9), .val (.ref b12), .val (.ref b59), .val (.int v119), .val (.int v91), .val (.ref b121), .val (.long v137), .second, .unset] [(.int (1 : Int32)), (.int (own_F1 v1 (2 : Int32))), (.int (nar .boolean v43))])) t := by
                  intro t k
                  show Steps p.tables e below (T158.setTop (mkF m 357 #[.val (.int p0), .val (.int p1), .val (.int p2), .val (.int v1), .val (.int v3), .val (.int v9), .val (.ref b12), .val (.ref b59), .val (.int v119), .val (.int v91), .val (.ref b121), .val (.long v137), .second, .unset] [(.int (1 : Int32)), (.int (own_F1 v1 (2 : Int32))), (.int (nar .boolean v43))])) _
                  refine XS.icmpYes X158'.here hx rfl (pc0 := 357) (pc' := 364) rfl (hb hby at_357) rfl (feq hc357_160).2 (by decide) (by decide) ?_
                  show Steps p.tables e below (T158.setTop (mkF m 364 #[.val (.int p0), .val (.int p1), .val (.int p2), .val (.int v1), .val (.int v3), .val (.int v9), .val (.ref b12), .val (.ref b59), .val (.int v119), .val (.int v91), .val (.ref b121), .val (.long v137), .second, .unset] [(.int (nar .boolean v43))])) _
                  refine XS.iconst X158'.here hx rfl (hb hby at_364) ?_
                  exact k
                exact fun t k => st162 _ k
            obtain ⟨T177, X177, e177, st177⟩ : ∃ T' : State, Stand p l e room_1 s m #[(.int p0), (.int p1), (.int p2)] below meth c T' L126 3 9 ∧ T'.heap = T126.heap ∧ ∀ t, Steps p.tables e below (T'.setTop (mkF m 394 #[.val (.int p0), .val (.int p1), .val (.int p2), .val (.int v1), .val (.int v3), .val (.int v9), .val (.ref b12), .val (.ref b59), .val (.int v119), .val (.int v91), .val (.ref b121), .val (.long v137), .second, .unset] [(.int (if (nar .boolean v43) = (if (own_F1 v1 (2 : Int32)) = (1 : Int32) then (1 : Int32) else (0 : Int32)) then (if (nar .boolean v54) = (if (own_F1 v1 (3 : Int32)) = (1 : Int32) then (1 : Int32) else (0 : Int32)) then (1 : Int32) else (0 : Int32)) else (0 : Int32)))])) t → Steps p.tables e below (T158.setTop (mkF m 365 #[.val (.int p0), .val (.int p1), .val (.int p2), .val (.int v1), .val (.int v3), .val (.int v9), .val (.ref b12), .val (.ref b59), .val (.int v119), .val (.int v91), .val (.ref b121), .val (.long v137), .second, .unset] [(.int (if (own_F1 v1 (2 : Int32)) = (1 : Int32) then (1 : Int32) else (0 : Int32))), (.int (nar .boolean v43))])) t := by
              by_cases hc365_164 : (nar .boolean v43) = (if (own_F1 v1 (2 : Int32)) = (1 : Int32) then (1 : Int32) else (0 : Int32))
              · repeat rw [if_pos hc365_164]
                have st165 : ∀ t, Steps p.tables e below (T158.setTop (mkF m 374 #[.val (.int p0), .val (.int p1), .val (.int p2), .val (.int v1), .val (.int v3), .val (.int v9), .val (.ref b12), .val (.ref b59), .val (.int v119), .val (.int v91), .val (.ref b121), .val (.long v137), .second, .unset] [(.int (3 : Int32)), (.int v1), (.int (nar .boolean v54))])) t → Steps p.tables e below (T158.setTop (mkF m 365 #[.val (.int p0), .val (.int p1), .val (.int p2), .val (.int v1), .val (.int v3), .val (.int v9), .val (.ref b12), .val (.ref b59), .val (.int v119), .val (.int v91), .val (.ref b121), .val (.long v137), .second, .unset] [(.int (if (own_F1 v1 (2 : Int32)) = (1 : Int32) then (1 : Int32) else (0 : Int32))), (.int (nar .boolean v43))])) t := by
                  intro t k
                  show Steps p.tables e below (T158.setTop (mkF m 365 #[.val (.int p0), .val (.int p1), .val (.int p2), .val (.int v1), .val (.int v3), .val (.int v9), .val (.ref b12), .val (.ref b59), .val (.int v119), .val (.int v91), .val (.ref b121), .val (.long v137), .second, .unset] [(.int (if (own_F1 v1 (2 : Int32)) = (1 : Int32) then (1 : Int32) else (0 : Int32))), (.int (nar .boolean v43))])) _
                  refine XS.icmpNo X158'.here hx rfl (hb hby at_365) rfl (teq hc365_164).2 ?_
                  show Steps p.tables e below (T158.setTop (mkF m 368 #[.val (.int p0), .val (.int p1), .val (.int p2), .val (.int v1), .val (.int v3), .val (.int v9), .val (.ref b12), .val (.ref b59), .val (.int v119), .val (.int v91), .val (.ref b121), .val (.long v137), .second, .unset] [])) _
                  refine XS.aload X158'.here hx rfl (hb hby at_368) rfl rfl ?_
                  show Steps p.tables e below (T158.setTop (mkF m 370 #[.val (.int p0), .val (.int p1), .val (.int p2), .val (.int v1), .val (.int v3), .val (.int v9), .val (.ref b12), .val (.ref b59), .val (.int v119), .val (.int v91), .val (.ref b121), .val (.long v137), .second, .unset] [(.ref b12)])) _
                  refine XS.iconst X158'.here hx rfl (hb hby at_370) ?_
                  show Steps p.tables e below (T158.setTop (mkF m 371 #[.val (.int p0), .val (.int p1), .val (.int p2), .val (.int v1), .val (.int v3), .val (.int v9), .val (.ref b12), .val (.ref b59), .val (.int v119), .val (.int v91), .val (.ref b121), .val (.long v137), .second, .unset] [(.int (3 : Int32)), (.ref b12)])) _
                  refine own_baloadZ X158' hx hZ e158 f127 (j := (3 : Int32)) (own_in (m := 4) rfl (by decide)) (g := (mkF m 371 #[.val (.int p0), .val (.int p1), .val (.int p2), .val (.int v1), .val (.int v3), .val (.int v9), .val (.ref b12), .val (.ref b59), .val (.int v119), .val (.int v91), .val (.ref b121), .val (.long v137), .second, .unset] [(.int (3 : Int32)), (.ref b12)])) rfl rfl (hb hby at_371) _ ?_
                  show Steps p.tables e below (T158.setTop (mkF m 372 #[.val (.int p0), .val (.int p1), .val (.int p2), .val (.int v1), .val (.int v3), .val (.int v9), .val (.ref b12), .val (.ref b59), .val (.int v119), .val (.int v91), .val (.ref b121), .val (.long v137), .second, .unset] [(.int (nar .boolean v54))])) _
                  refine XS.iloadN X158'.here hx rfl (hb hby at_372) rfl ?_
                  show Steps p.tables e below (T158.setTop (mkF m 373 #[.val (.int p0), .val (.int p1), .val (.int p2), .val (.int v1), .val (.int v3), .val (.int v9), .val (.ref b12), .val (.ref b59), .val (.int v119), .val (.int v91), .val (.ref b121), .val (.long v137), .second, .unset] [(.int v1), (.int (nar .boolean v54))])) _
                  refine XS.iconst X158'.here hx rfl (hb hby at_373) ?_
                  exact k
                obtain ⟨_, _, ⟨T166, L166, k166, n166⟩, -, X166, ⟨Lc166, hQ166, l166, y166, z166⟩, st166⟩ := Jvm.LawKit.callS X158' hx (y := (⟨"com/example/evotempo/evotempo/problem/OneMaxFitnessAfterFlipsPinLaw", "bit", "(II)I"⟩ : MethodName)) hown (mvT hZ (hw _ (List.mem_of_getElem? (i := 1) rfl))) (mvT hZ (hw _ (List.mem_of_getElem? (i := 2) rfl))) (mvT hZ (hw _ (List.mem_of_getElem? (i := 3) rfl))) (mvT hZ (hw _ (List.mem_of_getElem? (i := 4) rfl))) (by decide) (backOf (W := 1) (own_rm1 l Z a0 hw [] v1 (3 : Int32) T126.heap) hZ (hw _ (List.mem_of_getElem? (i := 4) rfl)) (hw _ (List.mem_of_getElem? (i := 3) rfl)) (by decide) (by decide)) (g := (mkF m 374 #[.val (.int p0), .val (.int p1), .val (.int p2), .val (.int v1), .val (.int v3), .val (.int v9), .val (.ref b12), .val (.ref b59), .val (.int v119), .val (.int v91), .val (.ref b121), .val (.long v137), .second, .unset] [(.int (3 : Int32)), (.int v1), (.int (nar .boolean v54))])) rfl (by rw [hml]; rfl) (argsL := [(.int v1), (.int (3 : Int32))]) (rest := [(.int (nar .boolean v54))]) (lenOf own_pd0 rfl) rfl (by show 2 * 0 + _ ≤ _; exact Nat.le_of_eq rfl) (hb hby at_374) (fun _ _ => ⟨rfl, e158, (by decide : 3 + 0 ≤ _), (by decide : 9 + 0 ≤ _)⟩)
                dsimp only [Pt.U, Pt.locs, Pt.cells, Pt.slots] at X166 l166 y166 z166 st166 hQ166
                subst y166 z166
                obtain ⟨rfl, rfl, e166⟩ := hQ166
                have X166' : Stand p l e room_1 s m #[(.int p0), (.int p1), (.int p2)] below meth c T166 L126 3 9 := by rw [show L166 = L126 from by rw [l166]; first | rfl | exact List.append_nil _] at X166; exact X166
                have st167 : ∀ t, Steps p.tables e below (T166.setTop (mkF m 378 #[.val (.int p0), .val (.int p1), .val (.int p2), .val (.int v1), .val (.int v3), .val (.int v9), .val (.ref b12), .val (.ref b59), .val (.int v119), .val (.int v91), .val (.ref b121), .val (.long v137), .second, .unset] [(.int (1 : Int32)), (.int (own_F1 v1 (3 : Int32))), (.int (nar .boolean v54))])) t → Steps p.tables e below (T166.setTop (mkF m 377 #[.val (.int p0), .val (.int p1), .val (.int p2), .val (.int v1), .val (.int v3), .val (.int v9), .val (.ref b12), .val (.ref b59), .val (.int v119), .val (.int v91), .val (.ref b121), .val (.long v137), .second, .unset] [(.int (own_F1 v1 (3 : Int32))), (.int (nar .boolean v54))])) t := by
                  intro t k
                  show Steps p.tables e below (T166.setTop (mkF m 377 #[.val (.int p0), .val (.int p1), .val (.int p2), .val (.int v1), .val (.int v3), .val (.int v9), .val (.ref b12), .val (.ref b59), .val (.int v119), .val (.int v91), .val (.ref b121), .val (.long v137), .second, .unset] [(.int (own_F1 v1 (3 : Int32))), (.int (nar .boolean v54))])) _
                  refine XS.iconst X166'.here hx rfl (hb hby at_377) ?_
                  exact k
                have st171 : ∀ t, Steps p.tables e below (T166.setTop (mkF m 386 #[.val (.int p0), .val (.int p1), .val (.int p2), .val (.int v1), .val (.int v3), .val (.int v9), .val (.ref b12), .val (.ref b59), .val (.int v119), .val (.int v91), .val (.ref b121), .val (.long v137), .second, .unset] [(.int (if (own_F1 v1 (3 : Int32)) = (1 : Int32) then (1 : Int32) else (0 : Int32))), (.int (nar .boolean v54))])) t → Steps p.tables e below (T166.setTop (mkF m 378 #[.val (.int p0), .val (.int p1), .val (.int p2), .val (.int v1), .val (.int v3), .val (.int v9), .val (.ref b12), .val (.ref b59), .val (.int v119), .val (.int v91), .val (.ref b121), .val (.long v137), .second, .unset] [(.int (1 : Int32)), (.int (own_F1 v1 (3 : Int32))), (.int (nar .boolean v54))])) t := by
                  by_cases hc378_168 : (own_F1 v1 (3 : Int32)) = (1 : Int32)
                  · repeat rw [if_pos hc378_168]
                    have st169 : ∀ t, Steps p.tables e below (T166.setTop (mkF m 386 #[.val (.int p0), .val (.int p1), .val (.int p2), .val (.int v1), .val (.int v3), .val (.int v9), .val (.ref b12), .val (.ref b59), .val (.int v119), .val (.int v91), .val (.ref b121), .val (.long v137), .second, .unset] [(.int (1 : Int32)), (.int (nar .boolean v54))])) t → Steps p.tables e below (T166.setTop (mkF m 378 #[.val (.int p0), .val (.int p1), .val (.int p2), .val (.int v1), .val (.int v3), .val (.int v9), .val (.ref b12), .val (.ref b59), .val (.int v119), .val (.int v91), .val (.ref b121), .val (.long v137), .second, .unset] [(.int (1 : Int32)), (.int (own_F1 v1 (3 : Int32))), (.int (nar .boolean v54))])) t := by
                      intro t k
                      show Steps p.tables e below (T166.setTop (mkF m 378 #[.val (.int p0), .val (.int p1), .val (.int p2), .val (.int v1), .val (.int v3), .val (.int v9), .val (.ref b12), .val (.ref b59), .val (.int v119), .val (.int v91), .val (.ref b121), .val (.long v137), .second, .unset] [(.int (1 : Int32)), (.int (own_F1 v1 (3 : Int32))), (.int (nar .boolean v54))])) _
                      refine XS.icmpNo X166'.here hx rfl (hb hby at_378) rfl (teq hc378_168).2 ?_
                      show Steps p.tables e below (T166.setTop (mkF m 381 #[.val (.int p0), .val (.int p1), .val (.int p2), .val (.int v1), .val (.int v3), .val (.int v9), .val (.ref b12), .val (.ref b59), .val (.int v119), .val (.int v91), .val (.ref b121), .val (.long v137), .second, .unset] [(.int (nar .boolean v54))])) _
                      refine XS.iconst X166'.here hx rfl (hb hby at_381) ?_
                      show Steps p.tables e below (T166.setTop (mkF m 382 #[.val (.int p0), .val (.int p1), .val (.int p2), .val (.int v1), .val (.int v3), .val (.int v9), .val (.ref b12), .val (.ref b59), .val (.int v119), .val (.int v91), .val (.ref b121), .val (.long v137), .second, .unset] [(.int (1 : Int32)), (.int (nar .boolean v54))])) _
                      refine XS.goto X166'.here hx rfl (pc0 := 382) (pc' := 386) rfl (hb hby at_382) (by decide) (by decide) ?_
                      exact k
                    exact fun t k => st169 _ k
                  · repeat rw [if_neg hc378_168]
                    have st170 : ∀ t, Steps p.tables e below (T166.setTop (mkF m 386 #[.val (.int p0), .val (.int p1), .val (.int p2), .val (.int v1), .val (.int v3), .val (.int v9), .val (.ref b12), .val (.ref b59), .val (.int v119), .val (.int v91), .val (.ref b121), .val (.long v137), .second, .unset] [(.int (0 : Int32)), (.int (nar .boolean v54))])) t → Steps p.tables e below (T166.setTop (mkF m 378 #[.val (.int p0), .val (.int p1), .val (.int p2), .val (.int v1), .val (.int v3), .val (.int v9), .val (.ref b12), .val (.ref b59), .val (.int v119), .val (.int v91), .val (.ref b121), .val (.long v137), .second, .unset] [(.int (1 : Int32)), (.int (own_F1 v1 (3 : Int32))), (.int (nar .boolean v54))])) t := by
                      intro t k
                      show Steps p.tables e below (T166.setTop (mkF m 378 #[.val (.int p0), .val (.int p1), .val (.int p2), .val (.int v1), .val (.int v3), .val (.int v9), .val (.ref b12), .val (.ref b59), .val (.int v119), .val (.int v91), .val (.ref b121), .val (.long v137), .second, .unset] [(.int (1 : Int32)), (.int (own_F1 v1 (3 : Int32))), (.int (nar .boolean v54))])) _
                      refine XS.icmpYes X166'.here hx rfl (pc0 := 378) (pc' := 385) rfl (hb hby at_378) rfl (feq hc378_168).2 (by decide) (by decide) ?_
                      show Steps p.tables e below (T166.setTop (mkF m 385 #[.val (.int p0), .val (.int p1), .val (.int p2), .val (.int v1), .val (.int v3), .val (.int v9), .val (.ref b12), .val (.ref b59), .val (.int v119), .val (.int v91), .val (.ref b121), .val (.long v137), .second, .unset] [(.int (nar .boolean v54))])) _
                      refine XS.iconst X166'.here hx rfl (hb hby at_385) ?_
                      exact k
                    exact fun t k => st170 _ k
                have st175 : ∀ t, Steps p.tables e below (T166.setTop (mkF m 394 #[.val (.int p0), .val (.int p1), .val (.int p2), .val (.int v1), .val (.int v3), .val (.int v9), .val (.ref b12), .val (.ref b59), .val (.int v119), .val (.int v91), .val (.ref b121), .val (.long v137), .second, .unset] [(.int (if (nar .boolean v54) = (if (own_F1 v1 (3 : Int32)) = (1 : Int32) then (1 : Int32) else (0 : Int32)) then (1 : Int32) else (0 : Int32)))])) t → Steps p.tables e below (T166.setTop (mkF m 386 #[.val (.int p0), .val (.int p1), .val (.int p2), .val (.int v1), .val (.int v3), .val (.int v9), .val (.ref b12), .val (.ref b59), .val (.int v119), .val (.int v91), .val (.ref b121), .val (.long v137), .second, .unset] [(.int (if (own_F1 v1 (3 : Int32)) = (1 : Int32) then (1 : Int32) else (0 : Int32))), (.int (nar .boolean v54))])) t := by
                  by_cases hc386_172 : (nar .boolean v54) = (if (own_F1 v1 (3 : Int32)) = (1 : Int32) then (1 : Int32) else (0 : Int32))
                  · repeat rw [if_pos hc386_172]
                    have st173 : ∀ t, Steps p.tables e below (T166.setTop (mkF m 394 #[.val (.int p0), .val (.int p1), .val (.int p2), .val (.int v1), .val (.int v3), .val (.int v9), .val (.ref b12), .val (.ref b59), .val (.int v119), .val (.int v91), .val (.ref b121), .val (.long v137), .second, .unset] [(.int (1 : Int32))])) t → Steps p.tables e below (T166.setTop (mkF m 386 #[.val (.int p0), .val (.int p1), .val (.int p2), .val (.int v1), .val (.int v3), .val (.int v9), .val (.ref b12), .val (.ref b59), .val (.int v119), .val (.int v91), .val (.ref b121), .val (.long v137), .second, .unset] [(.int (if (own_F1 v1 (3 : Int32)) = (1 : Int32) then (1 : Int32) else (0 : Int32))), (.int (nar .boolean v54))])) t := by
                      intro t k
                      show Steps p.tables e below (T166.setTop (mkF m 386 #[.val (.int p0), .val (.int p1), .val (.int p2), .val (.int v1), .val (.int v3), .val (.int v9), .val (.ref b12), .val (.ref b59), .val (.int v119), .val (.int v91), .val (.ref b121), .val (.long v137), .second, .unset] [(.int (if (own_F1 v1 (3 : Int32)) = (1 : Int32) then (1 : Int32) else (0 : Int32))), (.int (nar .boolean v54))])) _
                      refine XS.icmpNo X166'.here hx rfl (hb hby at_386) rfl (teq hc386_172).2 ?_
                      show Steps p.tables e below (T166.setTop (mkF m 389 #[.val (.int p0), .val (.int p1), .val (.int p2), .val (.int v1), .val (.int v3), .val (.int v9), .val (.ref b12), .val (.ref b59), .val (.int v119), .val (.int v91), .val (.ref b121), .val (.long v137), .second, .unset] [])) _
                      refine XS.iconst X166'.here hx rfl (hb hby at_389) ?_
                      show Steps p.tables e below (T166.setTop (mkF m 390 #[.val (.int p0), .val (.int p1), .val (.int p2), .val (.int v1), .val (.int v3), .val (.int v9), .val (.ref b12), .val (.ref b59), .val (.int v119), .val (.int v91), .val (.ref b121), .val (.long v137), .second, .unset] [(.int (1 : Int32))])) _
                      refine XS.goto X166'.here hx rfl (pc0 := 390) (pc' := 394) rfl (hb hby at_390) (by decide) (by decide) ?_
                      exact k
                    exact fun t k => st173 _ k
                  · repeat rw [if_neg hc386_172]
                    have st174 : ∀ t, Steps p.tables e below (T166.setTop (mkF m 394 #[.val (.int p0), .val (.int p1), .val (.int p2), .val (.int v1), .val (.int v3), .val (.int v9), .val (.ref b12), .val (.ref b59), .val (.int v119), .val (.int v91), .val (.ref b121), .val (.long v137), .second, .unset] [(.int (0 : Int32))])) t → Steps p.tables e below (T166.setTop (mkF m 386 #[.val (.int p0), .val (.int p1), .val (.int p2), .val (.int v1), .val (.int v3), .val (.int v9), .val (.ref b12), .val (.ref b59), .val (.int v119), .val (.int v91), .val (.ref b121), .val (.long v137), .second, .unset] [(.int (if (own_F1 v1 (3 : Int32)) = (1 : Int32) then (1 : Int32) else (0 : Int32))), (.int (nar .boolean v54))])) t := by
                      intro t k
                      show Steps p.tables e below (T166.setTop (mkF m 386 #[.val (.int p0), .val (.int p1), .val (.int p2), .val (.int v1), .val (.int v3), .val (.int v9), .val (.ref b12), .val (.ref b59), .val (.int v119), .val (.int v91), .val (.ref b121), .val (.long v137), .second, .unset] [(.int (if (own_F1 v1 (3 : Int32)) = (1 : Int32) then (1 : Int32) else (0 : Int32))), (.int (nar .boolean v54))])) _
                      refine XS.icmpYes X166'.here hx rfl (pc0 := 386) (pc' := 393) rfl (hb hby at_386) rfl (feq hc386_172).2 (by decide) (by decide) ?_
                      show Steps p.tables e below (T166.setTop (mkF m 393 #[.val (.int p0), .val (.int p1), .val (.int p2), .val (.int v1), .val (.int v3), .val (.int v9), .val (.ref b12), .val (.ref b59), .val (.int v119), .val (.int v91), .val (.ref b121), .val (.long v137), .second, .unset] [])) _
                      refine XS.iconst X166'.here hx rfl (hb hby at_393) ?_
                      exact k
                    exact fun t k => st174 _ k
                exact ⟨T166, X166', e166, fun t k => st165 _ (st166 _ (st167 _ (st171 _ (st175 _ k))))⟩
              · repeat rw [if_neg hc365_164]
                have st176 : ∀ t, Steps p.tables e below (T158.setTop (mkF m 394 #[.val (.int p0), .val (.int p1), .val (.int p2), .val (.int v1), .val (.int v3), .val (.int v9), .val (.ref b12), .val (.ref b59), .val (.int v119), .val (.int v91), .val (.ref b121), .val (.long v137), .second, .unset] [(.int (0 : Int32))])) t → Steps p.tables e below (T158.setTop (mkF m 365 #[.val (.int p0), .val (.int p1), .val (.int p2), .val (.int v1), .val (.int v3), .val (.int v9), .val (.ref b12), .val (.ref b59), .val (.int v119), .val (.int v91), .val (.ref b121), .val (.long v137), .second, .unset] [(.int (if (own_F1 v1 (2 : Int32)) = (1 : Int32) then (1 : Int32) else (0 : Int32))), (.int (nar .boolean v43))])) t := by
                  intro t k
                  show Steps p.tables e below (T158.setTop (mkF m 365 #[.val (.int p0), .val (.int p1), .val (.int p2), .val (.int v1), .val (.int v3), .val (.int v9), .val (.ref b12), .val (.ref b59), .val (.int v119), .val (.int v91), .val (.ref b121), .val (.long v137), .second, .unset] [(.int (if (own_F1 v1 (2 : Int32)) = (1 : Int32) then (1 : Int32) else (0 : Int32))), (.int (nar .boolean v43))])) _
                  refine XS.icmpYes X158'.here hx rfl (pc0 := 365) (pc' := 393) rfl (hb hby at_365) rfl (feq hc365_164).2 (by decide) (by decide) ?_
                  show Steps p.tables e below (T158.setTop (mkF m 393 #[.val (.int p0), .val (.int p1), .val (.int p2), .val (.int v1), .val (.int v3), .val (.int v9), .val (.ref b12), .val (.ref b59), .val (.int v119), .val (.int v91), .val (.ref b121), .val (.long v137), .second, .unset] [])) _
                  refine XS.iconst X158'.here hx rfl (hb hby at_393) ?_
                  exact k
                exact ⟨T158, X158', e158, fun t k => st176 _ k⟩
            exact ⟨T177, X177, e177, fun t k => st157 _ (st158 _ (st159 _ (st163 _ (st177 _ k))))⟩
          · repeat rw [if_neg hc344_156]
            have st178 : ∀ t, Steps p.tables e below (T150.setTop (mkF m 394 #[.val (.int p0), .val (.int p1), .val (.int p2), .val (.int v1), .val (.int v3), .val (.int v9), .val (.ref b12), .val (.ref b59), .val (.int v119), .val (.int v91), .val (.ref b121), .val (.long v137), .second, .unset] [(.int (0 : Int32))])) t → Steps p.tables e below (T150.setTop (mkF m 344 #[.val (.int p0), .val (.int p1), .val (.int p2), .val (.int v1), .val (.int v3), .val (.int v9), .val (.ref b12), .val (.ref b59), .val (.int v119), .val (.int v91), .val (.ref b121), .val (.long v137), .second, .unset] [(.int (if (own_F1 v1 (1 : Int32)) = (1 : Int32) then (1 : Int32) else (0 : Int32))), (.int (nar .boolean v32))])) t := by
              intro t k
              show Steps p.tables e below (T150.setTop (mkF m 344 #[.val (.int p0), .val (.int p1), .val (.int p2), .val (.int v1), .val (.int v3), .val (.int v9), .val (.ref b12), .val (.ref b59), .val (.int v119), .val (.int v91), .val (.ref b121), .val (.long v137), .second, .unset] [(.int (if (own_F1 v1 (1 : Int32)) = (1 : Int32) then (1 : Int32) else (0 : Int32))), (.int (nar .boolean v32))])) _
              refine XS.icmpYes X150'.here hx rfl (pc0 := 344) (pc' := 393) rfl (hb hby at_344) rfl (feq hc344_156).2 (by decide) (by decide) ?_
              show Steps p.tables e below (T150.setTop (mkF m 393 #[.val (.int p0), .val (.int p1), .val (.int p2), .val (.int v1), .val (.int v3), .val (.int v9), .val (.ref b12), .val (.ref b59), .val (.int v119), .val (.int v91), .val (.ref b121), .val (.long v137), .second, .unset] [])) _
              refine XS.iconst X150'.here hx rfl (hb hby at_393) ?_
              exact k
            exact ⟨T150, X150', e150, fun t k => st178 _ k⟩
        exact ⟨T179, X179, e179, fun t k => st149 _ (st150 _ (st151 _ (st155 _ (st179 _ k))))⟩
      · repeat rw [if_neg hc323_148]
        have st180 : ∀ t, Steps p.tables e below (T139.setTop (mkF m 394 #[.val (.int p0), .val (.int p1), .val (.int p2), .val (.int v1), .val (.int v3), .val (.int v9), .val (.ref b12), .val (.ref b59), .val (.int v119), .val (.int v91), .val (.ref b121), .val (.long v137), .second, .unset] [(.int (0 : Int32))])) t → Steps p.tables e below (T139.setTop (mkF m 323 #[.val (.int p0), .val (.int p1), .val (.int p2), .val (.int v1), .val (.int v3), .val (.int v9), .val (.ref b12), .val (.ref b59), .val (.int v119), .val (.int v91), .val (.ref b121), .val (.long v137), .second, .unset] [(.int v145), (.int v146)])) t := by
          intro t k
          show Steps p.tables e below (T139.setTop (mkF m 323 #[.val (.int p0), .val (.int p1), .val (.int p2), .val (.int v1), .val (.int v3), .val (.int v9), .val (.ref b12), .val (.ref b59), .val (.int v119), .val (.int v91), .val (.ref b121), .val (.long v137), .second, .unset] [(.int v145), (.int v146)])) _
          refine XS.icmpYes X139'.here hx rfl (pc0 := 323) (pc' := 393) rfl (hb hby at_323) rfl (feq hc323_148).2 (by decide) (by decide) ?_
          show Steps p.tables e below (T139.setTop (mkF m 393 #[.val (.int p0), .val (.int p1), .val (.int p2), .val (.int v1), .val (.int v3), .val (.int v9), .val (.ref b12), .val (.ref b59), .val (.int v119), .val (.int v91), .val (.ref b121), .val (.long v137), .second, .unset] [])) _
          refine XS.iconst X139'.here hx rfl (hb hby at_393) ?_
          exact k
        exact ⟨T139, X139', e139, fun t k => st180 _ k⟩
    have st183 : ∀ t, Steps p.tables e below (T182.setTop (mkF m 398 #[.val (.int p0), .val (.int p1), .val (.int p2), .val (.int v1), .val (.int v3), .val (.int v9), .val (.ref b12), .val (.ref b59), .val (.int v119), .val (.int v91), .val (.ref b121), .val (.long v137), .second, .val (.int v181)] [(.int v181)])) t → Steps p.tables e below (T182.setTop (mkF m 394 #[.val (.int p0), .val (.int p1), .val (.int p2), .val (.int v1), .val (.int v3), .val (.int v9), .val (.ref b12), .val (.ref b59), .val (.int v119), .val (.int v91), .val (.ref b121), .val (.long v137), .second, .unset] [(.int v181)])) t := by
      intro t k
      show Steps p.tables e below (T182.setTop (mkF m 394 #[.val (.int p0), .val (.int p1), .val (.int p2), .val (.int v1), .val (.int v3), .val (.int v9), .val (.ref b12), .val (.ref b59), .val (.int v119), .val (.int v91), .val (.ref b121), .val (.long v137), .second, .unset] [(.int v181)])) _
      refine XS.istore X182.here hx rfl (hb hby at_394) rfl (l' := #[.val (.int p0), .val (.int p1), .val (.int p2), .val (.int v1), .val (.int v3), .val (.int v9), .val (.ref b12), .val (.ref b59), .val (.int v119), .val (.int v91), .val (.ref b121), .val (.long v137), .second, .val (.int v181)]) rfl ?_
      show Steps p.tables e below (T182.setTop (mkF m 396 #[.val (.int p0), .val (.int p1), .val (.int p2), .val (.int v1), .val (.int v3), .val (.int v9), .val (.ref b12), .val (.ref b59), .val (.int v119), .val (.int v91), .val (.ref b121), .val (.long v137), .second, .val (.int v181)] [])) _
      refine XS.iload X182.here hx rfl (hb hby at_396) rfl ?_
      exact k
    refine own_End.go (fun t k => st64 _ (st65 _ (st71 _ (st72 _ (st78 _ (st79 _ (st85 _ (st86 _ (st92 _ (st93 _ (st99 _ (st100 _ (st106 _ (st107 _ (st113 _ (st114 _ (st120 _ (st121 _ (st125 _ (st126 _ (st130 _ (st131 _ (st133 _ (st134 _ (st138 _ (st139 _ (st141 _ (st147 _ (st182 _ (st183 _ k)))))))))))))))))))))))))))))) ?_
    by_cases hc398_184 : v181 = (0 : Int32)
    · have st185 : ∀ t, Steps p.tables e below (T182.setTop (mkF m 420 #[.val (.int p0), .val (.int p1), .val (.int p2), .val (.int v1), .val (.int v3), .val (.int v9), .val (.ref b12), .val (.ref b59), .val (.int v119), .val (.int v91), .val (.ref b121), .val (.long v137), .second, .val (.int v181)] [(.int (0 : Int32))])) t → Steps p.tables e below (T182.setTop (mkF m 398 #[.val (.int p0), .val (.int p1), .val (.int p2), .val (.int v1), .val (.int v3), .val (.int v9), .val (.ref b12), .val (.ref b59), .val (.int v119), .val (.int v91), .val (.ref b121), .val (.long v137), .second, .val (.int v181)] [(.int v181)])) t := by
        intro t k
        show Steps p.tables e below (T182.setTop (mkF m 398 #[.val (.int p0), .val (.int p1), .val (.int p2), .val (.int v1), .val (.int v3), .val (.int v9), .val (.ref b12), .val (.ref b59), .val (.int v119), .val (.int v91), .val (.ref b121), .val (.long v137), .second, .val (.int v181)] [(.int v181)])) _
        refine XS.ifYes X182.here hx rfl (pc0 := 398) (pc' := 419) rfl (hb hby at_398) rfl ((if0 _ _).trans (teq hc398_184).1) (by decide) (by decide) ?_
        show Steps p.tables e below (T182.setTop (mkF m 419 #[.val (.int p0), .val (.int p1), .val (.int p2), .val (.int v1), .val (.int v3), .val (.int v9), .val (.ref b12), .val (.ref b59), .val (.int v119), .val (.int v91), .val (.ref b121), .val (.long v137), .second, .val (.int v181)] [])) _
        refine XS.iconst X182.here hx rfl (hb hby at_419) ?_
        exact k
      refine own_End.go (fun t k => st185 _ k) ?_
      exact own_leafN X182 hx Bd.notSynchronized (t := .boolean) Bd.returns (by simp) (hb hby at_420) ⟨congrArg (fun z => some (Value.int z)) (own_e0_186 hv1 hv3 hv9 hv16 hv21 hv27 hv32 hv38 hv43 hv49 hv54 hv67 hv70 hv74 hv77 hv81 hv84 hv88 hv91 hv95 hv98 hv102 hv105 hv109 hv112 hv116 hv119 hv132 hv137 hv140 hv145 hv146 hv181 hc111_63 hc398_184), N126⟩ (by decide) (by decide)
    · have st187 : ∀ t, Steps p.tables e below (T182.setTop (mkF m 407 #[.val (.int p0), .val (.int p1), .val (.int p2), .val (.int v1), .val (.int v3), .val (.int v9), .val (.ref b12), .val (.ref b59), .val (.int v119), .val (.int v91), .val (.ref b121), .val (.long v137), .second, .val (.int v181)] [(.int (v1 ^^^ v3)), (.long v137)])) t → Steps p.tables e below (T182.setTop (mkF m 398 #[.val (.int p0), .val (.int p1), .val (.int p2), .val (.int v1), .val (.int v3), .val (.int v9), .val (.ref b12), .val (.ref b59), .val (.int v119), .val (.int v91), .val (.ref b121), .val (.long v137), .second, .val (.int v181)] [(.int v181)])) t := by
        intro t k
        show Steps p.tables e below (T182.setTop (mkF m 398 #[.val (.int p0), .val (.int p1), .val (.int p2), .val (.int v1), .val (.int v3), .val (.int v9), .val (.ref b12), .val (.ref b59), .val (.int v119), .val (.int v91), .val (.ref b121), .val (.long v137), .second, .val (.int v181)] [(.int v181)])) _
        refine XS.ifNo X182.here hx rfl (hb hby at_398) rfl ((if0 _ _).trans (feq hc398_184).1) ?_
        show Steps p.tables e below (T182.setTop (mkF m 401 #[.val (.int p0), .val (.int p1), .val (.int p2), .val (.int v1), .val (.int v3), .val (.int v9), .val (.ref b12), .val (.ref b59), .val (.int v119), .val (.int v91), .val (.ref b121), .val (.long v137), .second, .val (.int v181)] [])) _
        refine XS.lload X182.here hx rfl (hb hby at_401) rfl ?_
        show Steps p.tables e below (T182.setTop (mkF m 403 #[.val (.int p0), .val (.int p1), .val (.int p2), .val (.int v1), .val (.int v3), .val (.int v9), .val (.ref b12), .val (.ref b59), .val (.int v119), .val (.int v91), .val (.ref b121), .val (.long v137), .second, .val (.int v181)] [(.long v137)])) _
        refine XS.iloadN X182.here hx rfl (hb hby at_403) rfl ?_
        show Steps p.tables e below (T182.setTop (mkF m 404 #[.val (.int p0), .val (.int p1), .val (.int p2), .val (.int v1), .val (.int v3), .val (.int v9), .val (.ref b12), .val (.ref b59), .val (.int v119), .val (.int v91), .val (.ref b121), .val (.long v137), .second, .val (.int v181)] [(.int v1), (.long v137)])) _
        refine XS.iload X182.here hx rfl (hb hby at_404) rfl ?_
        show Steps p.tables e below (T182.setTop (mkF m 406 #[.val (.int p0), .val (.int p1), .val (.int p2), .val (.int v1), .val (.int v3), .val (.int v9), .val (.ref b12), .val (.ref b59), .val (.int v119), .val (.int v91), .val (.ref b121), .val (.long v137), .second, .val (.int v181)] [(.int v3), (.int v1), (.long v137)])) _
        refine XS.ixor X182.here hx rfl (hb hby at_406) rfl ?_
        exact k
      obtain ⟨_, _, ⟨T188, L188, k188, n188⟩, -, X188, ⟨Lc188, hQ188, l188, y188, z188⟩, st188⟩ := Jvm.LawKit.callS X182 hx (y := (⟨"com/example/evotempo/evotempo/problem/OneMaxFitnessAfterFlipsPinLaw", "pop4", "(I)I"⟩ : MethodName)) hown (mvT hZ (hw _ (List.mem_of_getElem? (i := 20) rfl))) (mvT hZ (hw _ (List.mem_of_getElem? (i := 21) rfl))) (mvT hZ (hw _ (List.mem_of_getElem? (i := 3) rfl))) (mvT hZ (hw _ (List.mem_of_getElem? (i := 22) rfl))) (by decide) (backOf (W := 2) (own_rm5 l Z a0 hw [] (v1 ^^^ v3) T126.heap) hZ (hw _ (List.mem_of_getElem? (i := 22) rfl)) (hw _ (List.mem_of_getElem? (i := 3) rfl)) (by decide) (by decide)) (g := (mkF m 407 #[.val (.int p0), .val (.int p1), .val (.int p2), .val (.int v1), .val (.int v3), .val (.int v9), .val (.ref b12), .val (.ref b59), .val (.int v119), .val (.int v91), .val (.ref b121), .val (.long v137), .second, .val (.int v181)] [(.int (v1 ^^^ v3)), (.long v137)])) rfl (by rw [hml]; rfl) (argsL := [(.int (v1 ^^^ v3))]) (rest := [(.long v137)]) (lenOf own_pd3 rfl) rfl (by show 2 * 0 + _ ≤ _; exact Nat.le_of_eq rfl) (hb hby at_407) (fun _ _ => ⟨rfl, e182, (by decide : 3 + 0 ≤ _), (by decide : 9 + 0 ≤ _)⟩)
      dsimp only [Pt.U, Pt.locs, Pt.cells, Pt.slots] at X188 l188 y188 z188 st188 hQ188
      subst y188 z188
      obtain ⟨rfl, rfl, e188⟩ := hQ188
      have X188' : Stand p l e room_1 s m #[(.int p0), (.int p1), (.int p2)] below meth c T188 L126 3 9 := by rw [show L188 = L126 from by rw [l188]; first | rfl | exact List.append_nil _] at X188; exact X188
      obtain ⟨v189, hv189⟩ : ∃ z : Int32, z = (own_F5 (v1 ^^^ v3)) := ⟨_, rfl⟩
      rw [← hv189] at st188
      have st190 : ∀ t, Steps p.tables e below (T188.setTop (mkF m 412 #[.val (.int p0), .val (.int p1), .val (.int p2), .val (.int v1), .val (.int v3), .val (.int v9), .val (.ref b12), .val (.ref b59), .val (.int v119), .val (.int v91), .val (.ref b121), .val (.long v137), .second, .val (.int v181)] [(.int (lcmpW v137 (v189.toInt64)))])) t → Steps p.tables e below (T188.setTop (mkF m 410 #[.val (.int p0), .val (.int p1), .val (.int p2), .val (.int v1), .val (.int v3), .val (.int v9), .val (.ref b12), .val (.ref b59), .val (.int v119), .val (.int v91), .val (.ref b121), .val (.long v137), .second, .val (.int v181)] [(.int v189), (.long v137)])) t := by
        intro t k
        show Steps p.tables e below (T188.setTop (mkF m 410 #[.val (.int p0), .val (.int p1), .val (.int p2), .val (.int v1), .val (.int v3), .val (.int v9), .val (.ref b12), .val (.ref b59), .val (.int v119), .val (.int v91), .val (.ref b121), .val (.long v137), .second, .val (.int v181)] [(.int v189), (.long v137)])) _
        refine XS.i2l X188'.here hx rfl (hb hby at_410) rfl ?_
        show Steps p.tables e below (T188.setTop (mkF m 411 #[.val (.int p0), .val (.int p1), .val (.int p2), .val (.int v1), .val (.int v3), .val (.int v9), .val (.ref b12), .val (.ref b59), .val (.int v119), .val (.int v91), .val (.ref b121), .val (.long v137), .second, .val (.int v181)] [(.long (v189.toInt64)), (.long v137)])) _
        refine XS.lcmp X188'.here hx rfl (hb hby at_411) rfl ?_
        exact k
      refine own_End.go (fun t k => st187 _ (st188 _ (st190 _ k))) ?_
      by_cases hc412_191 : v137 = (v189.toInt64)
      · have st192 : ∀ t, Steps p.tables e below (T188.setTop (mkF m 420 #[.val (.int p0), .val (.int p1), .val (.int p2), .val (.int v1), .val (.int v3), .val (.int v9), .val (.ref b12), .val (.ref b59), .val (.int v119), .val (.int v91), .val (.ref b121), .val (.long v137), .second, .val (.int v181)] [(.int (1 : Int32))])) t → Steps p.tables e below (T188.setTop (mkF m 412 #[.val (.int p0), .val (.int p1), .val (.int p2), .val (.int v1), .val (.int v3), .val (.int v9), .val (.ref b12), .val (.ref b59), .val (.int v119), .val (.int v91), .val (.ref b121), .val (.long v137), .second, .val (.int v181)] [(.int (lcmpW v137 (v189.toInt64)))])) t := by
          intro t k
          show Steps p.tables e below (T188.setTop (mkF m 412 #[.val (.int p0), .val (.int p1), .val (.int p2), .val (.int v1), .val (.int v3), .val (.int v9), .val (.ref b12), .val (.ref b59), .val (.int v119), .val (.int v91), .val (.ref b121), .val (.long v137), .second, .val (.int v181)] [(.int (lcmpW v137 (v189.toInt64)))])) _
          refine XS.ifNo X188'.here hx rfl (hb hby at_412) rfl ((if0 _ _).trans (teq ((lw_eq v137 (v189.toInt64)).mpr hc412_191)).2) ?_
          show Steps p.tables e below (T188.setTop (mkF m 415 #[.val (.int p0), .val (.int p1), .val (.int p2), .val (.int v1), .val (.int v3), .val (.int v9), .val (.ref b12), .val (.ref b59), .val (.int v119), .val (.int v91), .val (.ref b121), .val (.long v137), .second, .val (.int v181)] [])) _
          refine XS.iconst X188'.here hx rfl (hb hby at_415) ?_
          show Steps p.tables e below (T188.setTop (mkF m 416 #[.val (.int p0), .val (.int p1), .val (.int p2), .val (.int v1), .val (.int v3), .val (.int v9), .val (.ref b12), .val (.ref b59), .val (.int v119), .val (.int v91), .val (.ref b121), .val (.long v137), .second, .val (.int v181)] [(.int (1 : Int32))])) _
          refine XS.goto X188'.here hx rfl (pc0 := 416) (pc' := 420) rfl (hb hby at_416) (by decide) (by decide) ?_
          exact k
        refine own_End.go (fun t k => st192 _ k) ?_
        exact own_leafN X188' hx Bd.notSynchronized (t := .boolean) Bd.returns (by simp) (hb hby at_420) ⟨congrArg (fun z => some (Value.int z)) (own_e0_193 hv1 hv3 hv9 hv16 hv21 hv27 hv32 hv38 hv43 hv49 hv54 hv67 hv70 hv74 hv77 hv81 hv84 hv88 hv91 hv95 hv98 hv102 hv105 hv109 hv112 hv116 hv119 hv132 hv137 hv140 hv145 hv146 hv181 hv189 hc111_63 hc398_184 hc412_191), N126⟩ (by decide) (by decide)
      · have st194 : ∀ t, Steps p.tables e below (T188.setTop (mkF m 420 #[.val (.int p0), .val (.int p1), .val (.int p2), .val (.int v1), .val (.int v3), .val (.int v9), .val (.ref b12), .val (.ref b59), .val (.int v119), .val (.int v91), .val (.ref b121), .val (.long v137), .second, .val (.int v181)] [(.int (0 : Int32))])) t → Steps p.tables e below (T188.setTop (mkF m 412 #[.val (.int p0), .val (.int p1), .val (.int p2), .val (.int v1), .val (.int v3), .val (.int v9), .val (.ref b12), .val (.ref b59), .val (.int v119), .val (.int v91), .val (.ref b121), .val (.long v137), .second, .val (.int v181)] [(.int (lcmpW v137 (v189.toInt64)))])) t := by
          intro t k
          show Steps p.tables e below (T188.setTop (mkF m 412 #[.val (.int p0), .val (.int p1), .val (.int p2), .val (.int v1), .val (.int v3), .val (.int v9), .val (.ref b12), .val (.ref b59), .val (.int v119), .val (.int v91), .val (.ref b121), .val (.long v137), .second, .val (.int v181)] [(.int (lcmpW v137 (v189.toInt64)))])) _
          refine XS.ifYes X188'.here hx rfl (pc0 := 412) (pc' := 419) rfl (hb hby at_412) rfl ((if0 _ _).trans (feq (mt (lw_eq v137 (v189.toInt64)).mp hc412_191)).2) (by decide) (by decide) ?_
          show Steps p.tables e below (T188.setTop (mkF m 419 #[.val (.int p0), .val (.int p1), .val (.int p2), .val (.int v1), .val (.int v3), .val (.int v9), .val (.ref b12), .val (.ref b59), .val (.int v119), .val (.int v91), .val (.ref b121), .val (.long v137), .second, .val (.int v181)] [])) _
          refine XS.iconst X188'.here hx rfl (hb hby at_419) ?_
          exact k
        refine own_End.go (fun t k => st194 _ k) ?_
        exact own_leafN X188' hx Bd.notSynchronized (t := .boolean) Bd.returns (by simp) (hb hby at_420) ⟨congrArg (fun z => some (Value.int z)) (own_e0_195 hv1 hv3 hv9 hv16 hv21 hv27 hv32 hv38 hv43 hv49 hv54 hv67 hv70 hv74 hv77 hv81 hv84 hv88 hv91 hv95 hv98 hv102 hv105 hv109 hv112 hv116 hv119 hv132 hv137 hv140 hv145 hv146 hv181 hv189 hc111_63 hc398_184 hc412_191), N126⟩ (by decide) (by decide)
  · have st196 : ∀ t, Steps p.tables e below (T59.setTop (mkF m 122 #[.val (.int p0), .val (.int p1), .val (.int p2), .val (.int v1), .val (.int v3), .val (.int v9), .val (.ref b12), .val (.ref b59), .val (.int (0 : Int32)), .unset, .unset, .unset, .unset, .unset] [(.int (1 : Int32)), (.int (3 : Int32)), (.int v3), (.int (0 : Int32)), (.ref b59)])) t → Steps p.tables e below (T59.setTop (mkF m 111 #[.val (.int p0), .val (.int p1), .val (.int p2), .val (.int v1), .val (.int v3), .val (.int v9), .val (.ref b12), .val (.ref b59), .val (.int (0 : Int32)), .unset, .unset, .unset, .unset, .unset] [(.int v9)])) t := by
      intro t k
      show Steps p.tables e below (T59.setTop (mkF m 111 #[.val (.int p0), .val (.int p1), .val (.int p2), .val (.int v1), .val (.int v3), .val (.int v9), .val (.ref b12), .val (.ref b59), .val (.int (0 : Int32)), .unset, .unset, .unset, .unset, .unset] [(.int v9)])) _
      refine XS.ifNo X59.here hx rfl (hb hby at_111) rfl ((if0 _ _).trans (feq hc111_63).1) ?_
      show Steps p.tables e below (T59.setTop (mkF m 114 #[.val (.int p0), .val (.int p1), .val (.int p2), .val (.int v1), .val (.int v3), .val (.int v9), .val (.ref b12), .val (.ref b59), .val (.int (0 : Int32)), .unset, .unset, .unset, .unset, .unset] [])) _
      refine XS.aload X59.here hx rfl (hb hby at_114) rfl rfl ?_
      show Steps p.tables e below (T59.setTop (mkF m 116 #[.val (.int p0), .val (.int p1), .val (.int p2), .val (.int v1), .val (.int v3), .val (.int v9), .val (.ref b12), .val (.ref b59), .val (.int (0 : Int32)), .unset, .unset, .unset, .unset, .unset] [(.ref b59)])) _
      refine XS.iload X59.here hx rfl (hb hby at_116) rfl ?_
      show Steps p.tables e below (T59.setTop (mkF m 118 #[.val (.int p0), .val (.int p1), .val (.int p2), .val (.int v1), .val (.int v3), .val (.int v9), .val (.ref b12), .val (.ref b59), .val (.int (0 : Int32)), .unset, .unset, .unset, .unset, .unset] [(.int (0 : Int32)), (.ref b59)])) _
      refine XS.iload X59.here hx rfl (hb hby at_118) rfl ?_
      show Steps p.tables e below (T59.setTop (mkF m 120 #[.val (.int p0), .val (.int p1), .val (.int p2), .val (.int v1), .val (.int v3), .val (.int v9), .val (.ref b12), .val (.ref b59), .val (.int (0 : Int32)), .unset, .unset, .unset, .unset, .unset] [(.int v3), (.int (0 : Int32)), (.ref b59)])) _
      refine XS.iconst X59.here hx rfl (hb hby at_120) ?_
      show Steps p.tables e below (T59.setTop (mkF m 121 #[.val (.int p0), .val (.int p1), .val (.int p2), .val (.int v1), .val (.int v3), .val (.int v9), .val (.ref b12), .val (.ref b59), .val (.int (0 : Int32)), .unset, .unset, .unset, .unset, .unset] [(.int (3 : Int32)), (.int v3), (.int (0 : Int32)), (.ref b59)])) _
      refine XS.iconst X59.here hx rfl (hb hby at_121) ?_
      exact k
    obtain ⟨_, _, ⟨T197, L197, k197, n197⟩, -, X197, ⟨Lc197, hQ197, l197, y197, z197⟩, st197⟩ := Jvm.LawKit.callS X59 hx (y := (⟨"com/example/evotempo/evotempo/problem/OneMaxFitnessAfterFlipsPinLaw", "put", "([IIIII)I"⟩ : MethodName)) hown (mvT hZ (hw _ (List.mem_of_getElem? (i := 6) rfl))) (mvT hZ (hw _ (List.mem_of_getElem? (i := 7) rfl))) (mvT hZ (hw _ (List.mem_of_getElem? (i := 3) rfl))) (mvT hZ (hw _ (List.mem_of_getElem? (i := 8) rfl))) (by decide) (backOf (W := 0) (own_rm2 l Z a0 hw [] b59 (0 : Int32) v3 (3 : Int32) (1 : Int32) ([(0 : Int32), (0 : Int32), (0 : Int32), (0 : Int32)] : List Int32) h59 n0 Zp61 V59 g_b59 (own_h0_198 hv1 hv3 hv9 hv16 hv21 hv27 hv32 hv38 hv43 hv49 hv54 hc111_63)) hZ (hw _ (List.mem_of_getElem? (i := 8) rfl)) (hw _ (List.mem_of_getElem? (i := 3) rfl)) (by decide) (by decide)) (g := (mkF m 122 #[.val (.int p0), .val (.int p1), .val (.int p2), .val (.int v1), .val (.int v3), .val (.int v9), .val (.ref b12), .val (.ref b59), .val (.int (0 : Int32)), .unset, .unset, .unset, .unset, .unset] [(.int (1 : Int32)), (.int (3 : Int32)), (.int v3), (.int (0 : Int32)), (.ref b59)])) rfl (by rw [hml]; rfl) (argsL := [(.ref b59), (.int (0 : Int32)), (.int v3), (.int (3 : Int32)), (.int (1 : Int32))]) (rest := []) (lenOf own_pd1 rfl) rfl (by show 2 * 0 + _ ≤ _; exact Nat.le_of_eq rfl) (hb hby at_122) (fun _ _ => ⟨rfl, e59, (by decide : 2 + 0 ≤ _), (by decide : 8 + 0 ≤ _)⟩)
    dsimp only [Pt.U, Pt.locs, Pt.cells, Pt.slots] at X197 l197 y197 z197 st197 hQ197
    subst y197 z197
    obtain ⟨rfl, Nq197, K197, Q197_0, -⟩ := hQ197
    have N197 : Fr n0 L197 := by rw [l197]; exact Fr.app N56 Nq197
    have X197' : Stand p l e room_1 s m #[(.int p0), (.int p1), (.int p2)] below meth c T197 L197 2 8 := X197
    obtain ⟨v199, hv199⟩ : ∃ z : List Int32, z = (own_G2_0 (0 : Int32) v3 (3 : Int32) (1 : Int32) ([(0 : Int32), (0 : Int32), (0 : Int32), (0 : Int32)] : List Int32)) := ⟨_, rfl⟩
    rw [← hv199] at Q197_0
    have f200 : own_IA Z T197.heap b12 .boolean ([(nar .boolean v21), (nar .boolean v32), (nar .boolean v43), (nar .boolean v54)] : List Int32) := f60.keep K197 (ninS ne_b12_b59 nin0)
    have Zp201 : n0 ≤ T197.heap.size := Nat.le_trans Zp61 K197.1
    obtain ⟨v202, hv202⟩ : ∃ z : Int32, z = (own_F2 (0 : Int32) v3 (3 : Int32) (1 : Int32) ([(0 : Int32), (0 : Int32), (0 : Int32), (0 : Int32)] : List Int32)) := ⟨_, rfl⟩
    rw [← hv202] at st197
    have st203 : ∀ t, Steps p.tables e below (T197.setTop (mkF m 135 #[.val (.int p0), .val (.int p1), .val (.int p2), .val (.int v1), .val (.int v3), .val (.int v9), .val (.ref b12), .val (.ref b59), .val (.int v202), .unset, .unset, .unset, .unset, .unset] [(.int (1 : Int32)), (.int (2 : Int32)), (.int v3), (.int v202), (.ref b59)])) t → Steps p.tables e below (T197.setTop (mkF m 125 #[.val (.int p0), .val (.int p1), .val (.int p2), .val (.int v1), .val (.int v3), .val (.int v9), .val (.ref b12), .val (.ref b59), .val (.int (0 : Int32)), .unset, .unset, .unset, .unset, .unset] [(.int v202)])) t := by
      intro t k
      show Steps p.tables e below (T197.setTop (mkF m 125 #[.val (.int p0), .val (.int p1), .val (.int p2), .val (.int v1), .val (.int v3), .val (.int v9), .val (.ref b12), .val (.ref b59), .val (.int (0 : Int32)), .unset, .unset, .unset, .unset, .unset] [(.int v202)])) _
      refine XS.istore X197'.here hx rfl (hb hby at_125) rfl (l' := #[.val (.int p0), .val (.int p1), .val (.int p2), .val (.int v1), .val (.int v3), .val (.int v9), .val (.ref b12), .val (.ref b59), .val (.int v202), .unset, .unset, .unset, .unset, .unset]) rfl ?_
      show Steps p.tables e below (T197.setTop (mkF m 127 #[.val (.int p0), .val (.int p1), .val (.int p2), .val (.int v1), .val (.int v3), .val (.int v9), .val (.ref b12), .val (.ref b59), .val (.int v202), .unset, .unset, .unset, .unset, .unset] [])) _
      refine XS.aload X197'.here hx rfl (hb hby at_127) rfl rfl ?_
      show Steps p.tables e below (T197.setTop (mkF m 129 #[.val (.int p0), .val (.int p1), .val (.int p2), .val (.int v1), .val (.int v3), .val (.int v9), .val (.ref b12), .val (.ref b59), .val (.int v202), .unset, .unset, .unset, .unset, .unset] [(.ref b59)])) _
      refine XS.iload X197'.here hx rfl (hb hby at_129) rfl ?_
      show Steps p.tables e below (T197.setTop (mkF m 131 #[.val (.int p0), .val (.int p1), .val (.int p2), .val (.int v1), .val (.int v3), .val (.int v9), .val (.ref b12), .val (.ref b59), .val (.int v202), .unset, .unset, .unset, .unset, .unset] [(.int v202), (.ref b59)])) _
      refine XS.iload X197'.here hx rfl (hb hby at_131) rfl ?_
      show Steps p.tables e below (T197.setTop (mkF m 133 #[.val (.int p0), .val (.int p1), .val (.int p2), .val (.int v1), .val (.int v3), .val (.int v9), .val (.ref b12), .val (.ref b59), .val (.int v202), .unset, .unset, .unset, .unset, .unset] [(.int v3), (.int v202), (.ref b59)])) _
      refine XS.iconst X197'.here hx rfl (hb hby at_133) ?_
      show Steps p.tables e below (T197.setTop (mkF m 134 #[.val (.int p0), .val (.int p1), .val (.int p2), .val (.int v1), .val (.int v3), .val (.int v9), .val (.ref b12), .val (.ref b59), .val (.int v202), .unset, .unset, .unset, .unset, .unset] [(.int (2 : Int32)), (.int v3), (.int v202), (.ref b59)])) _
      refine XS.iconst X197'.here hx rfl (hb hby at_134) ?_
      exact k
    obtain ⟨_, _, ⟨T204, L204, k204, n204⟩, -, X204, ⟨Lc204, hQ204, l204, y204, z204⟩, st204⟩ := Jvm.LawKit.callS X197' hx (y := (⟨"com/example/evotempo/evotempo/problem/OneMaxFitnessAfterFlipsPinLaw", "put", "([IIIII)I"⟩ : MethodName)) hown (mvT hZ (hw _ (List.mem_of_getElem? (i := 6) rfl))) (mvT hZ (hw _ (List.mem_of_getElem? (i := 7) rfl))) (mvT hZ (hw _ (List.mem_of_getElem? (i := 3) rfl))) (mvT hZ (hw _ (List.mem_of_getElem? (i := 8) rfl))) (by decide) (backOf (W := 0) (own_rm2 l Z a0 hw [] b59 v202 v3 (2 : Int32) (1 : Int32) v199 T197.heap n0 Zp201 Q197_0 g_b59 (own_h0_205 hv1 hv3 hv9 hv16 hv21 hv27 hv32 hv38 hv43 hv49 hv54 hv199 hv202 hc111_63)) hZ (hw _ (List.mem_of_getElem? (i := 8) rfl)) (hw _ (List.mem_of_getElem? (i := 3) rfl)) (by decide) (by decide)) (g := (mkF m 135 #[.val (.int p0), .val (.int p1), .val (.int p2), .val (.int v1), .val (.int v3), .val (.int v9), .val (.ref b12), .val (.ref b59), .val (.int v202), .unset, .unset, .unset, .unset, .unset] [(.int (1 : Int32)), (.int (2 : Int32)), (.int v3), (.int v202), (.ref b59)])) rfl (by rw [hml]; rfl) (argsL := [(.ref b59), (.int v202), (.int v3), (.int (2 : Int32)), (.int (1 : Int32))]) (rest := []) (lenOf own_pd1 rfl) rfl (by show 2 * 0 + _ ≤ _; exact Nat.le_of_eq rfl) (hb hby at_135) (fun _ _ => ⟨rfl, (rfl : T197.heap = T197.heap), (by decide : 2 + 0 ≤ _), (by decide : 8 + 0 ≤ _)⟩)
    dsimp only [Pt.U, Pt.locs, Pt.cells, Pt.slots] at X204 l204 y204 z204 st204 hQ204
    subst y204 z204
    obtain ⟨rfl, Nq204, K204, Q204_0, -⟩ := hQ204
    have N204 : Fr n0 L204 := by rw [l204]; exact Fr.app N197 Nq204
    have X204' : Stand p l e room_1 s m #[(.int p0), (.int p1), (.int p2)] below meth c T204 L204 2 8 := X204
    obtain ⟨v206, hv206⟩ : ∃ z : List Int32, z = (own_G2_0 v202 v3 (2 : Int32) (1 : Int32) v199) := ⟨_, rfl⟩
    rw [← hv206] at Q204_0
    have f207 : own_IA Z T204.heap b12 .boolean ([(nar .boolean v21), (nar .boolean v32), (nar .boolean v43), (nar .boolean v54)] : List Int32) := f200.keep K204 (ninS ne_b12_b59 nin0)
    have Zp208 : n0 ≤ T204.heap.size := Nat.le_trans Zp201 K204.1
    obtain ⟨v209, hv209⟩ : ∃ z : Int32, z = (own_F2 v202 v3 (2 : Int32) (1 : Int32) v199) := ⟨_, rfl⟩
    rw [← hv209] at st204
    have st210 : ∀ t, Steps p.tables e below (T204.setTop (mkF m 148 #[.val (.int p0), .val (.int p1), .val (.int p2), .val (.int v1), .val (.int v3), .val (.int v9), .val (.ref b12), .val (.ref b59), .val (.int v209), .unset, .unset, .unset, .unset, .unset] [(.int (1 : Int32)), (.int (1 : Int32)), (.int v3), (.int v209), (.ref b59)])) t → Steps p.tables e below (T204.setTop (mkF m 138 #[.val (.int p0), .val (.int p1), .val (.int p2), .val (.int v1), .val (.int v3), .val (.int v9), .val (.ref b12), .val (.ref b59), .val (.int v202), .unset, .unset, .unset, .unset, .unset] [(.int v209)])) t := by
      intro t k
      show Steps p.tables e below (T204.setTop (mkF m 138 #[.val (.int p0), .val (.int p1), .val (.int p2), .val (.int v1), .val (.int v3), .val (.int v9), .val (.ref b12), .val (.ref b59), .val (.int v202), .unset, .unset, .unset, .unset, .unset] [(.int v209)])) _
      refine XS.istore X204'.here hx rfl (hb hby at_138) rfl (l' := #[.val (.int p0), .val (.int p1), .val (.int p2), .val (.int v1), .val (.int v3), .val (.int v9), .val (.ref b12), .val (.ref b59), .val (.int v209), .unset, .unset, .unset, .unset, .unset]) rfl ?_
      show Steps p.tables e below (T204.setTop (mkF m 140 #[.val (.int p0), .val (.int p1), .val (.int p2), .val (.int v1), .val (.int v3), .val (.int v9), .val (.ref b12), .val (.ref b59), .val (.int v209), .unset, .unset, .unset, .unset, .unset] [])) _
      refine XS.aload X204'.here hx rfl (hb hby at_140) rfl rfl ?_
      show Steps p.tables e below (T204.setTop (mkF m 142 #[.val (.int p0), .val (.int p1), .val (.int p2), .val (.int v1), .val (.int v3), .val (.int v9), .val (.ref b12), .val (.ref b59), .val (.int v209), .unset, .unset, .unset, .unset, .unset] [(.ref b59)])) _
      refine XS.iload X204'.here hx rfl (hb hby at_142) rfl ?_
      show Steps p.tables e below (T204.setTop (mkF m 144 #[.val (.int p0), .val (.int p1), .val (.int p2), .val (.int v1), .val (.int v3), .val (.int v9), .val (.ref b12), .val (.ref b59), .val (.int v209), .unset, .unset, .unset, .unset, .unset] [(.int v209), (.ref b59)])) _
      refine XS.iload X204'.here hx rfl (hb hby at_144) rfl ?_
      show Steps p.tables e below (T204.setTop (mkF m 146 #[.val (.int p0), .val (.int p1), .val (.int p2), .val (.int v1), .val (.int v3), .val (.int v9), .val (.ref b12), .val (.ref b59), .val (.int v209), .unset, .unset, .unset, .unset, .unset] [(.int v3), (.int v209), (.ref b59)])) _
      refine XS.iconst X204'.here hx rfl (hb hby at_146) ?_
      show Steps p.tables e below (T204.setTop (mkF m 147 #[.val (.int p0), .val (.int p1), .val (.int p2), .val (.int v1), .val (.int v3), .val (.int v9), .val (.ref b12), .val (.ref b59), .val (.int v209), .unset, .unset, .unset, .unset, .unset] [(.int (1 : Int32)), (.int v3), (.int v209), (.ref b59)])) _
      refine XS.iconst X204'.here hx rfl (hb hby at_147) ?_
      exact k
    obtain ⟨_, _, ⟨T211, L211, k211, n211⟩, -, X211, ⟨Lc211, hQ211, l211, y211, z211⟩, st211⟩ := Jvm.LawKit.callS X204' hx (y := (⟨"com/example/evotempo/evotempo/problem/OneMaxFitnessAfterFlipsPinLaw", "put", "([IIIII)I"⟩ : MethodName)) hown (mvT hZ (hw _ (List.mem_of_getElem? (i := 6) rfl))) (mvT hZ (hw _ (List.mem_of_getElem? (i := 7) rfl))) (mvT hZ (hw _ (List.mem_of_getElem? (i := 3) rfl))) (mvT hZ (hw _ (List.mem_of_getElem? (i := 8) rfl))) (by decide) (backOf (W := 0) (own_rm2 l Z a0 hw [] b59 v209 v3 (1 : Int32) (1 : Int32) v206 T204.heap n0 Zp208 Q204_0 g_b59 (own_h0_212 hv1 hv3 hv9 hv16 hv21 hv27 hv32 hv38 hv43 hv49 hv54 hv199 hv202 hv206 hv209 hc111_63)) hZ (hw _ (List.mem_of_getElem? (i := 8) rfl)) (hw _ (List.mem_of_getElem? (i := 3) rfl)) (by decide) (by decide)) (g := (mkF m 148 #[.val (.int p0), .val (.int p1), .val (.int p2), .val (.int v1), .val (.int v3), .val (.int v9), .val (.ref b12), .val (.ref b59), .val (.int v209), .unset, .unset, .unset, .unset, .unset] [(.int (1 : Int32)), (.int (1 : Int32)), (.int v3), (.int v209), (.ref b59)])) rfl (by rw [hml]; rfl) (argsL := [(.ref b59), (.int v209), (.int v3), (.int (1 : Int32)), (.int (1 : Int32))]) (rest := []) (lenOf own_pd1 rfl) rfl (by show 2 * 0 + _ ≤ _; exact Nat.le_of_eq rfl) (hb hby at_148) (fun _ _ => ⟨rfl, (rfl : T204.heap = T204.heap), (by decide : 2 + 0 ≤ _), (by decide : 8 + 0 ≤ _)⟩)
    dsimp only [Pt.U, Pt.locs, Pt.cells, Pt.slots] at X211 l211 y211 z211 st211 hQ211
    subst y211 z211
    obtain ⟨rfl, Nq211, K211, Q211_0, -⟩ := hQ211
    have N211 : Fr n0 L211 := by rw [l211]; exact Fr.app N204 Nq211
    have X211' : Stand p l e room_1 s m #[(.int p0), (.int p1), (.int p2)] below meth c T211 L211 2 8 := X211
    obtain ⟨v213, hv213⟩ : ∃ z : List Int32, z = (own_G2_0 v209 v3 (1 : Int32) (1 : Int32) v206) := ⟨_, rfl⟩
    rw [← hv213] at Q211_0
    have f214 : own_IA Z T211.heap b12 .boolean ([(nar .boolean v21), (nar .boolean v32), (nar .boolean v43), (nar .boolean v54)] : List Int32) := f207.keep K211 (ninS ne_b12_b59 nin0)
    have Zp215 : n0 ≤ T211.heap.size := Nat.le_trans Zp208 K211.1
    obtain ⟨v216, hv216⟩ : ∃ z : Int32, z = (own_F2 v209 v3 (1 : Int32) (1 : Int32) v206) := ⟨_, rfl⟩
    rw [← hv216] at st211
    have st217 : ∀ t, Steps p.tables e below (T211.setTop (mkF m 161 #[.val (.int p0), .val (.int p1), .val (.int p2), .val (.int v1), .val (.int v3), .val (.int v9), .val (.ref b12), .val (.ref b59), .val (.int v216), .unset, .unset, .unset, .unset, .unset] [(.int (1 : Int32)), (.int (0 : Int32)), (.int v3), (.int v216), (.ref b59)])) t → Steps p.tables e below (T211.setTop (mkF m 151 #[.val (.int p0), .val (.int p1), .val (.int p2), .val (.int v1), .val (.int v3), .val (.int v9), .val (.ref b12), .val (.ref b59), .val (.int v209), .unset, .unset, .unset, .unset, .unset] [(.int v216)])) t := by
      intro t k
      show Steps p.tables e below (T211.setTop (mkF m 151 #[.val (.int p0), .val (.int p1), .val (.int p2), .val (.int v1), .val (.int v3), .val (.int v9), .val (.ref b12), .val (.ref b59), .val (.int v209), .unset, .unset, .unset, .unset, .unset] [(.int v216)])) _
      refine XS.istore X211'.here hx rfl (hb hby at_151) rfl (l' := #[.val (.int p0), .val (.int p1), .val (.int p2), .val (.int v1), .val (.int v3), .val (.int v9), .val (.ref b12), .val (.ref b59), .val (.int v216), .unset, .unset, .unset, .unset, .unset]) rfl ?_
      show Steps p.tables e below (T211.setTop (mkF m 153 #[.val (.int p0), .val (.int p1), .val (.int p2), .val (.int v1), .val (.int v3), .val (.int v9), .val (.ref b12), .val (.ref b59), .val (.int v216), .unset, .unset, .unset, .unset, .unset] [])) _
      refine XS.aload X211'.here hx rfl (hb hby at_153) rfl rfl ?_
      show Steps p.tables e below (T211.setTop (mkF m 155 #[.val (.int p0), .val (.int p1), .val (.int p2), .val (.int v1), .val (.int v3), .val (.int v9), .val (.ref b12), .val (.ref b59), .val (.int v216), .unset, .unset, .unset, .unset, .unset] [(.ref b59)])) _
      refine XS.iload X211'.here hx rfl (hb hby at_155) rfl ?_
      show Steps p.tables e below (T211.setTop (mkF m 157 #[.val (.int p0), .val (.int p1), .val (.int p2), .val (.int v1), .val (.int v3), .val (.int v9), .val (.ref b12), .val (.ref b59), .val (.int v216), .unset, .unset, .unset, .unset, .unset] [(.int v216), (.ref b59)])) _
      refine XS.iload X211'.here hx rfl (hb hby at_157) rfl ?_
      show Steps p.tables e below (T211.setTop (mkF m 159 #[.val (.int p0), .val (.int p1), .val (.int p2), .val (.int v1), .val (.int v3), .val (.int v9), .val (.ref b12), .val (.ref b59), .val (.int v216), .unset, .unset, .unset, .unset, .unset] [(.int v3), (.int v216), (.ref b59)])) _
      refine XS.iconst X211'.here hx rfl (hb hby at_159) ?_
      show Steps p.tables e below (T211.setTop (mkF m 160 #[.val (.int p0), .val (.int p1), .val (.int p2), .val (.int v1), .val (.int v3), .val (.int v9), .val (.ref b12), .val (.ref b59), .val (.int v216), .unset, .unset, .unset, .unset, .unset] [(.int (0 : Int32)), (.int v3), (.int v216), (.ref b59)])) _
      refine XS.iconst X211'.here hx rfl (hb hby at_160) ?_
      exact k
    obtain ⟨_, _, ⟨T218, L218, k218, n218⟩, -, X218, ⟨Lc218, hQ218, l218, y218, z218⟩, st218⟩ := Jvm.LawKit.callS X211' hx (y := (⟨"com/example/evotempo/evotempo/problem/OneMaxFitnessAfterFlipsPinLaw", "put", "([IIIII)I"⟩ : MethodName)) hown (mvT hZ (hw _ (List.mem_of_getElem? (i := 6) rfl))) (mvT hZ (hw _ (List.mem_of_getElem? (i := 7) rfl))) (mvT hZ (hw _ (List.mem_of_getElem? (i := 3) rfl))) (mvT hZ (hw _ (List.mem_of_getElem? (i := 8) rfl))) (by decide) (backOf (W := 0) (own_rm2 l Z a0 hw [] b59 v216 v3 (0 : Int32) (1 : Int32) v213 T211.heap n0 Zp215 Q211_0 g_b59 (own_h0_219 hv1 hv3 hv9 hv16 hv21 hv27 hv32 hv38 hv43 hv49 hv54 hv199 hv202 hv206 hv209 hv213 hv216 hc111_63)) hZ (hw _ (List.mem_of_getElem? (i := 8) rfl)) (hw _ (List.mem_of_getElem? (i := 3) rfl)) (by decide) (by decide)) (g := (mkF m 161 #[.val (.int p0), .val (.int p1), .val (.int p2), .val (.int v1), .val (.int v3), .val (.int v9), .val (.ref b12), .val (.ref b59), .val (.int v216), .unset, .unset, .unset, .unset, .unset] [(.int (1 : Int32)), (.int (0 : Int32)), (.int v3), (.int v216), (.ref b59)])) rfl (by rw [hml]; rfl) (argsL := [(.ref b59), (.int v216), (.int v3), (.int (0 : Int32)), (.int (1 : Int32))]) (rest := []) (lenOf own_pd1 rfl) rfl (by show 2 * 0 + _ ≤ _; exact Nat.le_of_eq rfl) (hb hby at_161) (fun _ _ => ⟨rfl, (rfl : T211.heap = T211.heap), (by decide : 2 + 0 ≤ _), (by decide : 8 + 0 ≤ _)⟩)
    dsimp only [Pt.U, Pt.locs, Pt.cells, Pt.slots] at X218 l218 y218 z218 st218 hQ218
    subst y218 z218
    obtain ⟨rfl, Nq218, K218, Q218_0, -⟩ := hQ218
    have N218 : Fr n0 L218 := by rw [l218]; exact Fr.app N211 Nq218
    have X218' : Stand p l e room_1 s m #[(.int p0), (.int p1), (.int p2)] below meth c T218 L218 2 8 := X218
    obtain ⟨v220, hv220⟩ : ∃ z : List Int32, z = (own_G2_0 v216 v3 (0 : Int32) (1 : Int32) v213) := ⟨_, rfl⟩
    rw [← hv220] at Q218_0
    have f221 : own_IA Z T218.heap b12 .boolean ([(nar .boolean v21), (nar .boolean v32), (nar .boolean v43), (nar .boolean v54)] : List Int32) := f214.keep K218 (ninS ne_b12_b59 nin0)
    have Zp222 : n0 ≤ T218.heap.size := Nat.le_trans Zp215 K218.1
    obtain ⟨v223, hv223⟩ : ∃ z : Int32, z = (own_F2 v216 v3 (0 : Int32) (1 : Int32) v213) := ⟨_, rfl⟩
    rw [← hv223] at st218
    have st224 : ∀ t, Steps p.tables e below (T218.setTop (mkF m 233 #[.val (.int p0), .val (.int p1), .val (.int p2), .val (.int v1), .val (.int v3), .val (.int v9), .val (.ref b12), .val (.ref b59), .val (.int v223), .val (.int v223), .unset, .unset, .unset, .unset] [(.int (0 : Int32)), (.int (0 : Int32)), (.int v3), (.int v223), (.ref b59)])) t → Steps p.tables e below (T218.setTop (mkF m 164 #[.val (.int p0), .val (.int p1), .val (.int p2), .val (.int v1), .val (.int v3), .val (.int v9), .val (.ref b12), .val (.ref b59), .val (.int v216), .unset, .unset, .unset, .unset, .unset] [(.int v223)])) t := by
      intro t k
      show Steps p.tables e below (T218.setTop (mkF m 164 #[.val (.int p0), .val (.int p1), .val (.int p2), .val (.int v1), .val (.int v3), .val (.int v9), .val (.ref b12), .val (.ref b59), .val (.int v216), .unset, .unset, .unset, .unset, .unset] [(.int v223)])) _
      refine XS.istore X218'.here hx rfl (hb hby at_164) rfl (l' := #[.val (.int p0), .val (.int p1), .val (.int p2), .val (.int v1), .val (.int v3), .val (.int v9), .val (.ref b12), .val (.ref b59), .val (.int v223), .unset, .unset, .unset, .unset, .unset]) rfl ?_
      show Steps p.tables e below (T218.setTop (mkF m 166 #[.val (.int p0), .val (.int p1), .val (.int p2), .val (.int v1), .val (.int v3), .val (.int v9), .val (.ref b12), .val (.ref b59), .val (.int v223), .unset, .unset, .unset, .unset, .unset] [])) _
      refine XS.goto X218'.here hx rfl (pc0 := 166) (pc' := 221) rfl (hb hby at_166) (by decide) (by decide) ?_
      show Steps p.tables e below (T218.setTop (mkF m 221 #[.val (.int p0), .val (.int p1), .val (.int p2), .val (.int v1), .val (.int v3), .val (.int v9), .val (.ref b12), .val (.ref b59), .val (.int v223), .unset, .unset, .unset, .unset, .unset] [])) _
      refine XS.iload X218'.here hx rfl (hb hby at_221) rfl ?_
      show Steps p.tables e below (T218.setTop (mkF m 223 #[.val (.int p0), .val (.int p1), .val (.int p2), .val (.int v1), .val (.int v3), .val (.int v9), .val (.ref b12), .val (.ref b59), .val (.int v223), .unset, .unset, .unset, .unset, .unset] [(.int v223)])) _
      refine XS.istore X218'.here hx rfl (hb hby at_223) rfl (l' := #[.val (.int p0), .val (.int p1), .val (.int p2), .val (.int v1), .val (.int v3), .val (.int v9), .val (.ref b12), .val (.ref b59), .val (.int v223), .val (.int v223), .unset, .unset, .unset, .unset]) rfl ?_
      show Steps p.tables e below (T218.setTop (mkF m 225 #[.val (.int p0), .val (.int p1), .val (.int p2), .val (.int v1), .val (.int v3), .val (.int v9), .val (.ref b12), .val (.ref b59), .val (.int v223), .val (.int v223), .unset, .unset, .unset, .unset] [])) _
      refine XS.aload X218'.here hx rfl (hb hby at_225) rfl rfl ?_
      show Steps p.tables e below (T218.setTop (mkF m 227 #[.val (.int p0), .val (.int p1), .val (.int p2), .val (.int v1), .val (.int v3), .val (.int v9), .val (.ref b12), .val (.ref b59), .val (.int v223), .val (.int v223), .unset, .unset, .unset, .unset] [(.ref b59)])) _
      refine XS.iload X218'.here hx rfl (hb hby at_227) rfl ?_
      show Steps p.tables e below (T218.setTop (mkF m 229 #[.val (.int p0), .val (.int p1), .val (.int p2), .val (.int v1), .val (.int v3), .val (.int v9), .val (.ref b12), .val (.ref b59), .val (.int v223), .val (.int v223), .unset, .unset, .unset, .unset] [(.int v223), (.ref b59)])) _
      refine XS.iload X218'.here hx rfl (hb hby at_229) rfl ?_
      show Steps p.tables e below (T218.setTop (mkF m 231 #[.val (.int p0), .val (.int p1), .val (.int p2), .val (.int v1), .val (.int v3), .val (.int v9), .val (.ref b12), .val (.ref b59), .val (.int v223), .val (.int v223), .unset, .unset, .unset, .unset] [(.int v3), (.int v223), (.ref b59)])) _
      refine XS.iconst X218'.here hx rfl (hb hby at_231) ?_
      show Steps p.tables e below (T218.setTop (mkF m 232 #[.val (.int p0), .val (.int p1), .val (.int p2), .val (.int v1), .val (.int v3), .val (.int v9), .val (.ref b12), .val (.ref b59), .val (.int v223), .val (.int v223), .unset, .unset, .unset, .unset] [(.int (0 : Int32)), (.int v3), (.int v223), (.ref b59)])) _
      refine XS.iconst X218'.here hx rfl (hb hby at_232) ?_
      exact k
    obtain ⟨_, _, ⟨T225, L225, k225, n225⟩, -, X225, ⟨Lc225, hQ225, l225, y225, z225⟩, st225⟩ := Jvm.LawKit.callS X218' hx (y := (⟨"com/example/evotempo/evotempo/problem/OneMaxFitnessAfterFlipsPinLaw", "put", "([IIIII)I"⟩ : MethodName)) hown (mvT hZ (hw _ (List.mem_of_getElem? (i := 6) rfl))) (mvT hZ (hw _ (List.mem_of_getElem? (i := 7) rfl))) (mvT hZ (hw _ (List.mem_of_getElem? (i := 3) rfl))) (mvT hZ (hw _ (List.mem_of_getElem? (i := 8) rfl))) (by decide) (backOf (W := 0) (own_rm2 l Z a0 hw [] b59 v223 v3 (0 : Int32) (0 : Int32) v220 T218.heap n0 Zp222 Q218_0 g_b59 (own_h0_226 hv1 hv3 hv9 hv16 hv21 hv27 hv32 hv38 hv43 hv49 hv54 hv199 hv202 hv206 hv209 hv213 hv216 hv220 hv223 hc111_63)) hZ (hw _ (List.mem_of_getElem? (i := 8) rfl)) (hw _ (List.mem_of_getElem? (i := 3) rfl)) (by decide) (by decide)) (g := (mkF m 233 #[.val (.int p0), .val (.int p1), .val (.int p2), .val (.int v1), .val (.int v3), .val (.int v9), .val (.ref b12), .val (.ref b59), .val (.int v223), .val (.int v223), .unset, .unset, .unset, .unset] [(.int (0 : Int32)), (.int (0 : Int32)), (.int v3), (.int v223), (.ref b59)])) rfl (by rw [hml]; rfl) (argsL := [(.ref b59), (.int v223), (.int v3), (.int (0 : Int32)), (.int (0 : Int32))]) (rest := []) (lenOf own_pd1 rfl) rfl (by show 2 * 0 + _ ≤ _; exact Nat.le_of_eq rfl) (hb hby at_233) (fun _ _ => ⟨rfl, (rfl : T218.heap = T218.heap), (by decide : 2 + 0 ≤ _), (by decide : 8 + 0 ≤ _)⟩)
    dsimp only [Pt.U, Pt.locs, Pt.cells, Pt.slots] at X225 l225 y225 z225 st225 hQ225
    subst y225 z225
    obtain ⟨rfl, Nq225, K225, Q225_0, -⟩ := hQ225
    have N225 : Fr n0 L225 := by rw [l225]; exact Fr.app N218 Nq225
    have X225' : Stand p l e room_1 s m #[(.int p0), (.int p1), (.int p2)] below meth c T225 L225 2 8 := X225
    obtain ⟨v227, hv227⟩ : ∃ z : List Int32, z = (own_G2_0 v223 v3 (0 : Int32) (0 : Int32) v220) := ⟨_, rfl⟩
    rw [← hv227] at Q225_0
    have f228 : own_IA Z T225.heap b12 .boolean ([(nar .boolean v21), (nar .boolean v32), (nar .boolean v43), (nar .boolean v54)] : List Int32) := f221.keep K225 (ninS ne_b12_b59 nin0)
    have Zp229 : n0 ≤ T225.heap.size := Nat.le_trans Zp222 K225.1
    obtain ⟨v230, hv230⟩ : ∃ z : Int32, z = (own_F2 v223 v3 (0 : Int32) (0 : Int32) v220) := ⟨_, rfl⟩
    rw [← hv230] at st225
    have st231 : ∀ t, Steps p.tables e below (T225.setTop (mkF m 246 #[.val (.int p0), .val (.int p1), .val (.int p2), .val (.int v1), .val (.int v3), .val (.int v9), .val (.ref b12), .val (.ref b59), .val (.int v230), .val (.int v223), .unset, .unset, .unset, .unset] [(.int (0 : Int32)), (.int (1 : Int32)), (.int v3), (.int v230), (.ref b59)])) t → Steps p.tables e below (T225.setTop (mkF m 236 #[.val (.int p0), .val (.int p1), .val (.int p2), .val (.int v1), .val (.int v3), .val (.int v9), .val (.ref b12), .val (.ref b59), .val (.int v223), .val (.int v223), .unset, .unset, .unset, .unset] [(.int v230)])) t := by
      intro t k
      show Steps p.tables e below (T225.setTop (mkF m 236 #[.val (.int p0), .val (.int p1), .val (.int p2), .val (.int v1), .val (.int v3), .val (.int v9), .val (.ref b12), .val (.ref b59), .val (.int v223), .val (.int v223), .unset, .unset, .unset, .unset] [(.int v230)])) _
      refine XS.istore X225'.here hx rfl (hb hby at_236) rfl (l' := #[.val (.int p0), .val (.int p1), .val (.int p2), .val (.int v1), .val (.int v3), .val (.int v9), .val (.ref b12), .val (.ref b59), .val (.int v230), .val (.int v223), .unset, .unset, .unset, .unset]) rfl ?_
      show Steps p.tables e below (T225.setTop (mkF m 238 #[.val (.int p0), .val (.int p1), .val (.int p2), .val (.int v1), .val (.int v3), .val (.int v9), .val (.ref b12), .val (.ref b59), .val (.int v230), .val (.int v223), .unset, .unset, .unset, .unset] [])) _
      refine XS.aload X225'.here hx rfl (hb hby at_238) rfl rfl ?_
      show Steps p.tables e below (T225.setTop (mkF m 240 #[.val (.int p0), .val (.int p1), .val (.int p2), .val (.int v1), .val (.int v3), .val (.int v9), .val (.ref b12), .val (.ref b59), .val (.int v230), .val (.int v223), .unset, .unset, .unset, .unset] [(.ref b59)])) _
      refine XS.iload X225'.here hx rfl (hb hby at_240) rfl ?_
      show Steps p.tables e below (T225.setTop (mkF m 242 #[.val (.int p0), .val (.int p1), .val (.int p2), .val (.int v1), .val (.int v3), .val (.int v9), .val (.ref b12), .val (.ref b59), .val (.int v230), .val (.int v223), .unset, .unset, .unset, .unset] [(.int v230), (.ref b59)])) _
      refine XS.iload X225'.here hx rfl (hb hby at_242) rfl ?_
      show Steps p.tables e below (T225.setTop (mkF m 244 #[.val (.int p0), .val (.int p1), .val (.int p2), .val (.int v1), .val (.int v3), .val (.int v9), .val (.ref b12), .val (.ref b59), .val (.int v230), .val (.int v223), .unset, .unset, .unset, .unset] [(.int v3), (.int v230), (.ref b59)])) _
      refine XS.iconst X225'.here hx rfl (hb hby at_244) ?_
      show Steps p.tables e below (T225.setTop (mkF m 245 #[.val (.int p0), .val (.int p1), .val (.int p2), .val (.int v1), .val (.int v3), .val (.int v9), .val (.ref b12), .val (.ref b59), .val (.int v230), .val (.int v223), .unset, .unset, .unset, .unset] [(.int (1 : Int32)), (.int v3), (.int v230), (.ref b59)])) _
      refine XS.iconst X225'.here hx rfl (hb hby at_245) ?_
      exact k
    obtain ⟨_, _, ⟨T232, L232, k232, n232⟩, -, X232, ⟨Lc232, hQ232, l232, y232, z232⟩, st232⟩ := Jvm.LawKit.callS X225' hx (y := (⟨"com/example/evotempo/evotempo/problem/OneMaxFitnessAfterFlipsPinLaw", "put", "([IIIII)I"⟩ : MethodName)) hown (mvT hZ (hw _ (List.mem_of_getElem? (i := 6) rfl))) (mvT hZ (hw _ (List.mem_of_getElem? (i := 7) rfl))) (mvT hZ (hw _ (List.mem_of_getElem? (i := 3) rfl))) (mvT hZ (hw _ (List.mem_of_getElem? (i := 8) rfl))) (by decide) (backOf (W := 0) (own_rm2 l Z a0 hw [] b59 v230 v3 (1 : Int32) (0 : Int32) v227 T225.heap n0 Zp229 Q225_0 g_b59 (own_h0_233 hv1 hv3 hv9 hv16 hv21 hv27 hv32 hv38 hv43 hv49 hv54 hv199 hv202 hv206 hv209 hv213 hv216 hv220 hv223 hv227 hv230 hc111_63)) hZ (hw _ (List.mem_of_getElem? (i := 8) rfl)) (hw _ (List.mem_of_getElem? (i := 3) rfl)) (by decide) (by decide)) (g := (mkF m 246 #[.val (.int p0), .val (.int p1), .val (.int p2), .val (.int v1), .val (.int v3), .val (.int v9), .val (.ref b12), .val (.ref b59), .val (.int v230), .val (.int v223), .unset, .unset, .unset, .unset] [(.int (0 : Int32)), (.int (1 : Int32)), (.int v3), (.int v230), (.ref b59)])) rfl (by rw [hml]; rfl) (argsL := [(.ref b59), (.int v230), (.int v3), (.int (1 : Int32)), (.int (0 : Int32))]) (rest := []) (lenOf own_pd1 rfl) rfl (by show 2 * 0 + _ ≤ _; exact Nat.le_of_eq rfl) (hb hby at_246) (fun _ _ => ⟨rfl, (rfl : T225.heap = T225.heap), (by decide : 2 + 0 ≤ _), (by decide : 8 + 0 ≤ _)⟩)
    dsimp only [Pt.U, Pt.locs, Pt.cells, Pt.slots] at X232 l232 y232 z232 st232 hQ232
    subst y232 z232
    obtain ⟨rfl, Nq232, K232, Q232_0, -⟩ := hQ232
    have N232 : Fr n0 L232 := by rw [l232]; exact Fr.app N225 Nq232
    have X232' : Stand p l e room_1 s m #[(.int p0), (.int p1), (.int p2)] below meth c T232 L232 2 8 := X232
    obtain ⟨v234, hv234⟩ : ∃ z : List Int32, z = (own_G2_0 v230 v3 (1 : Int32) (0 : Int32) v227) := ⟨_, rfl⟩
    rw [← hv234] at Q232_0
    have f235 : own_IA Z T232.heap b12 .boolean ([(nar .boolean v21), (nar .boolean v32), (nar .boolean v43), (nar .boolean v54)] : List Int32) := f228.keep K232 (ninS ne_b12_b59 nin0)
    have Zp236 : n0 ≤ T232.heap.size := Nat.le_trans Zp229 K232.1
    obtain ⟨v237, hv237⟩ : ∃ z : Int32, z = (own_F2 v230 v3 (1 : Int32) (0 : Int32) v227) := ⟨_, rfl⟩
    rw [← hv237] at st232
    have st238 : ∀ t, Steps p.tables e below (T232.setTop (mkF m 259 #[.val (.int p0), .val (.int p1), .val (.int p2), .val (.int v1), .val (.int v3), .val (.int v9), .val (.ref b12), .val (.ref b59), .val (.int v237), .val (.int v223), .unset, .unset, .unset, .unset] [(.int (0 : Int32)), (.int (2 : Int32)), (.int v3), (.int v237), (.ref b59)])) t → Steps p.tables e below (T232.setTop (mkF m 249 #[.val (.int p0), .val (.int p1), .val (.int p2), .val (.int v1), .val (.int v3), .val (.int v9), .val (.ref b12), .val (.ref b59), .val (.int v230), .val (.int v223), .unset, .unset, .unset, .unset] [(.int v237)])) t := by
      intro t k
      show Steps p.tables e below (T232.setTop (mkF m 249 #[.val (.int p0), .val (.int p1), .val (.int p2), .val (.int v1), .val (.int v3), .val (.int v9), .val (.ref b12), .val (.ref b59), .val (.int v230), .val (.int v223), .unset, .unset, .unset, .unset] [(.int v237)])) _
      refine XS.istore X232'.here hx rfl (hb hby at_249) rfl (l' := #[.val (.int p0), .val (.int p1), .val (.int p2), .val (.int v1), .val (.int v3), .val (.int v9), .val (.ref b12), .val (.ref b59), .val (.int v237), .val (.int v223), .unset, .unset, .unset, .unset]) rfl ?_
      show Steps p.tables e below (T232.setTop (mkF m 251 #[.val (.int p0), .val (.int p1), .val (.int p2), .val (.int v1), .val (.int v3), .val (.int v9), .val (.ref b12), .val (.ref b59), .val (.int v237), .val (.int v223), .unset, .unset, .unset, .unset] [])) _
      refine XS.aload X232'.here hx rfl (hb hby at_251) rfl rfl ?_
      show Steps p.tables e below (T232.setTop (mkF m 253 #[.val (.int p0), .val (.int p1), .val (.int p2), .val (.int v1), .val (.int v3), .val (.int v9), .val (.ref b12), .val (.ref b59), .val (.int v237), .val (.int v223), .unset, .unset, .unset, .unset] [(.ref b59)])) _
      refine XS.iload X232'.here hx rfl (hb hby at_253) rfl ?_
      show Steps p.tables e below (T232.setTop (mkF m 255 #[.val (.int p0), .val (.int p1), .val (.int p2), .val (.int v1), .val (.int v3), .val (.int v9), .val (.ref b12), .val (.ref b59), .val (.int v237), .val (.int v223), .unset, .unset, .unset, .unset] [(.int v237), (.ref b59)])) _
      refine XS.iload X232'.here hx rfl (hb hby at_255) rfl ?_
      show Steps p.tables e below (T232.setTop (mkF m 257 #[.val (.int p0), .val (.int p1), .val (.int p2), .val (.int v1), .val (.int v3), .val (.int v9), .val (.ref b12), .val (.ref b59), .val (.int v237), .val (.int v223), .unset, .unset, .unset, .unset] [(.int v3), (.int v237), (.ref b59)])) _
      refine XS.iconst X232'.here hx rfl (hb hby at_257) ?_
      show Steps p.tables e below (T232.setTop (mkF m 258 #[.val (.int p0), .val (.int p1), .val (.int p2), .val (.int v1), .val (.int v3), .val (.int v9), .val (.ref b12), .val (.ref b59), .val (.int v237), .val (.int v223), .unset, .unset, .unset, .unset] [(.int (2 : Int32)), (.int v3), (.int v237), (.ref b59)])) _
      refine XS.iconst X232'.here hx rfl (hb hby at_258) ?_
      exact k
    obtain ⟨_, _, ⟨T239, L239, k239, n239⟩, -, X239, ⟨Lc239, hQ239, l239, y239, z239⟩, st239⟩ := Jvm.LawKit.callS X232' hx (y := (⟨"com/example/evotempo/evotempo/problem/OneMaxFitnessAfterFlipsPinLaw", "put", "([IIIII)I"⟩ : MethodName)) hown (mvT hZ (hw _ (List.mem_of_getElem? (i := 6) rfl))) (mvT hZ (hw _ (List.mem_of_getElem? (i := 7) rfl))) (mvT hZ (hw _ (List.mem_of_getElem? (i := 3) rfl))) (mvT hZ (hw _ (List.mem_of_getElem? (i := 8) rfl))) (by decide) (backOf (W := 0) (own_rm2 l Z a0 hw [] b59 v237 v3 (2 : Int32) (0 : Int32) v234 T232.heap n0 Zp236 Q232_0 g_b59 (own_h0_240 hv1 hv3 hv9 hv16 hv21 hv27 hv32 hv38 hv43 hv49 hv54 hv199 hv202 hv206 hv209 hv213 hv216 hv220 hv223 hv227 hv230 hv234 hv237 hc111_63)) hZ (hw _ (List.mem_of_getElem? (i := 8) rfl)) (hw _ (List.mem_of_getElem? (i := 3) rfl)) (by decide) (by decide)) (g := (mkF m 259 #[.val (.int p0), .val (.int p1), .val (.int p2), .val (.int v1), .val (.int v3), .val (.int v9), .val (.ref b12), .val (.ref b59), .val (.int v237), .val (.int v223), .unset, .unset, .unset, .unset] [(.int (0 : Int32)), (.int (2 : Int32)), (.int v3), (.int v237), (.ref b59)])) rfl (by rw [hml]; rfl) (argsL := [(.ref b59), (.int v237), (.int v3), (.int (2 : Int32)), (.int (0 : Int32))]) (rest := []) (lenOf own_pd1 rfl) rfl (by show 2 * 0 + _ ≤ _; exact Nat.le_of_eq rfl) (hb hby at_259) (fun _ _ => ⟨rfl, (rfl : T232.heap = T232.heap), (by decide : 2 + 0 ≤ _), (by decide : 8 + 0 ≤ _)⟩)
    dsimp only [Pt.U, Pt.locs, Pt.cells, Pt.slots] at X239 l239 y239 z239 st239 hQ239
    subst y239 z239
    obtain ⟨rfl, Nq239, K239, Q239_0, -⟩ := hQ239
    have N239 : Fr n0 L239 := by rw [l239]; exact Fr.app N232 Nq239
    have X239' : Stand p l e room_1 s m #[(.int p0), (.int p1), (.int p2)] below meth c T239 L239 2 8 := X239
    obtain ⟨v241, hv241⟩ : ∃ z : List Int32, z = (own_G2_0 v237 v3 (2 : Int32) (0 : Int32) v234) := ⟨_, rfl⟩
    rw [← hv241] at Q239_0
    have f242 : own_IA Z T239.heap b12 .boolean ([(nar .boolean v21), (nar .boolean v32), (nar .boolean v43), (nar .boolean v54)] : List Int32) := f235.keep K239 (ninS ne_b12_b59 nin0)
    have Zp243 : n0 ≤ T239.heap.size := Nat.le_trans Zp236 K239.1
    obtain ⟨v244, hv244⟩ : ∃ z : Int32, z = (own_F2 v237 v3 (2 : Int32) (0 : Int32) v234) := ⟨_, rfl⟩
    rw [← hv244] at st239
    have st245 : ∀ t, Steps p.tables e below (T239.setTop (mkF m 272 #[.val (.int p0), .val (.int p1), .val (.int p2), .val (.int v1), .val (.int v3), .val (.int v9), .val (.ref b12), .val (.ref b59), .val (.int v244), .val (.int v223), .unset, .unset, .unset, .unset] [(.int (0 : Int32)), (.int (3 : Int32)), (.int v3), (.int v244), (.ref b59)])) t → Steps p.tables e below (T239.setTop (mkF m 262 #[.val (.int p0), .val (.int p1), .val (.int p2), .val (.int v1), .val (.int v3), .val (.int v9), .val (.ref b12), .val (.ref b59), .val (.int v237), .val (.int v223), .unset, .unset, .unset, .unset] [(.int v244)])) t := by
      intro t k
      show Steps p.tables e below (T239.setTop (mkF m 262 #[.val (.int p0), .val (.int p1), .val (.int p2), .val (.int v1), .val (.int v3), .val (.int v9), .val (.ref b12), .val (.ref b59), .val (.int v237), .val (.int v223), .unset, .unset, .unset, .unset] [(.int v244)])) _
      refine XS.istore X239'.here hx rfl (hb hby at_262) rfl (l' := #[.val (.int p0), .val (.int p1), .val (.int p2), .val (.int v1), .val (.int v3), .val (.int v9), .val (.ref b12), .val (.ref b59), .val (.int v244), .val (.int v223), .unset, .unset, .unset, .unset]) rfl ?_
      show Steps p.tables e below (T239.setTop (mkF m 264 #[.val (.int p0), .val (.int p1), .val (.int p2), .val (.int v1), .val (.int v3), .val (.int v9), .val (.ref b12), .val (.ref b59), .val (.int v244), .val (.int v223), .unset, .unset, .unset, .unset] [])) _
      refine XS.aload X239'.here hx rfl (hb hby at_264) rfl rfl ?_
      show Steps p.tables e below (T239.setTop (mkF m 266 #[.val (.int p0), .val (.int p1), .val (.int p2), .val (.int v1), .val (.int v3), .val (.int v9), .val (.ref b12), .val (.ref b59), .val (.int v244), .val (.int v223), .unset, .unset, .unset, .unset] [(.ref b59)])) _
      refine XS.iload X239'.here hx rfl (hb hby at_266) rfl ?_
      show Steps p.tables e below (T239.setTop (mkF m 268 #[.val (.int p0), .val (.int p1), .val (.int p2), .val (.int v1), .val (.int v3), .val (.int v9), .val (.ref b12), .val (.ref b59), .val (.int v244), .val (.int v223), .unset, .unset, .unset, .unset] [(.int v244), (.ref b59)])) _
      refine XS.iload X239'.here hx rfl (hb hby at_268) rfl ?_
      show Steps p.tables e below (T239.setTop (mkF m 270 #[.val (.int p0), .val (.int p1), .val (.int p2), .val (.int v1), .val (.int v3), .val (.int v9), .val (.ref b12), .val (.ref b59), .val (.int v244), .val (.int v223), .unset, .unset, .unset, .unset] [(.int v3), (.int v244), (.ref b59)])) _
      refine XS.iconst X239'.here hx rfl (hb hby at_270) ?_
      show Steps p.tables e below (T239.setTop (mkF m 271 #[.val (.int p0), .val (.int p1), .val (.int p2), .val (.int v1), .val (.int v3), .val (.int v9), .val (.ref b12), .val (.ref b59), .val (.int v244), .val (.int v223), .unset, .unset, .unset, .unset] [(.int (3 : Int32)), (.int v3), (.int v244), (.ref b59)])) _
      refine XS.iconst X239'.here hx rfl (hb hby at_271) ?_
      exact k
    obtain ⟨_, _, ⟨T246, L246, k246, n246⟩, -, X246, ⟨Lc246, hQ246, l246, y246, z246⟩, st246⟩ := Jvm.LawKit.callS X239' hx (y := (⟨"com/example/evotempo/evotempo/problem/OneMaxFitnessAfterFlipsPinLaw", "put", "([IIIII)I"⟩ : MethodName)) hown (mvT hZ (hw _ (List.mem_of_getElem? (i := 6) rfl))) (mvT hZ (hw _ (List.mem_of_getElem? (i := 7) rfl))) (mvT hZ (hw _ (List.mem_of_getElem? (i := 3) rfl))) (mvT hZ (hw _ (List.mem_of_getElem? (i := 8) rfl))) (by decide) (backOf (W := 0) (own_rm2 l Z a0 hw [] b59 v244 v3 (3 : Int32) (0 : Int32) v241 T239.heap n0 Zp243 Q239_0 g_b59 (own_h0_247 hv1 hv3 hv9 hv16 hv21 hv27 hv32 hv38 hv43 hv49 hv54 hv199 hv202 hv206 hv209 hv213 hv216 hv220 hv223 hv227 hv230 hv234 hv237 hv241 hv244 hc111_63)) hZ (hw _ (List.mem_of_getElem? (i := 8) rfl)) (hw _ (List.mem_of_getElem? (i := 3) rfl)) (by decide) (by decide)) (g := (mkF m 272 #[.val (.int p0), .val (.int p1), .val (.int p2), .val (.int v1), .val (.int v3), .val (.int v9), .val (.ref b12), .val (.ref b59), .val (.int v244), .val (.int v223), .unset, .unset, .unset, .unset] [(.int (0 : Int32)), (.int (3 : Int32)), (.int v3), (.int v244), (.ref b59)])) rfl (by rw [hml]; rfl) (argsL := [(.ref b59), (.int v244), (.int v3), (.int (3 : Int32)), (.int (0 : Int32))]) (rest := []) (lenOf own_pd1 rfl) rfl (by show 2 * 0 + _ ≤ _; exact Nat.le_of_eq rfl) (hb hby at_272) (fun _ _ => ⟨rfl, (rfl : T239.heap = T239.heap), (by decide : 2 + 0 ≤ _), (by decide : 8 + 0 ≤ _)⟩)
    dsimp only [Pt.U, Pt.locs, Pt.cells, Pt.slots] at X246 l246 y246 z246 st246 hQ246
    subst y246 z246
    obtain ⟨rfl, Nq246, K246, Q246_0, -⟩ := hQ246
    have N246 : Fr n0 L246 := by rw [l246]; exact Fr.app N239 Nq246
    have X246' : Stand p l e room_1 s m #[(.int p0), (.int p1), (.int p2)] below meth c T246 L246 2 8 := X246
    obtain ⟨v248, hv248⟩ : ∃ z : List Int32, z = (own_G2_0 v244 v3 (3 : Int32) (0 : Int32) v241) := ⟨_, rfl⟩
    rw [← hv248] at Q246_0
    have f249 : own_IA Z T246.heap b12 .boolean ([(nar .boolean v21), (nar .boolean v32), (nar .boolean v43), (nar .boolean v54)] : List Int32) := f242.keep K246 (ninS ne_b12_b59 nin0)
    have Zp250 : n0 ≤ T246.heap.size := Nat.le_trans Zp243 K246.1
    obtain ⟨v251, hv251⟩ : ∃ z : Int32, z = (own_F2 v244 v3 (3 : Int32) (0 : Int32) v241) := ⟨_, rfl⟩
    rw [← hv251] at st246
    have st252 : ∀ t, Steps p.tables e below (T246.setTop (mkF m 277 #[.val (.int p0), .val (.int p1), .val (.int p2), .val (.int v1), .val (.int v3), .val (.int v9), .val (.ref b12), .val (.ref b59), .val (.int v251), .val (.int v223), .unset, .unset, .unset, .unset] [])) t → Steps p.tables e below (T246.setTop (mkF m 275 #[.val (.int p0), .val (.int p1), .val (.int p2), .val (.int v1), .val (.int v3), .val (.int v9), .val (.ref b12), .val (.ref b59), .val (.int v244), .val (.int v223), .unset, .unset, .unset, .unset] [(.int v251)])) t := by
      intro t k
      show Steps p.tables e below (T246.setTop (mkF m 275 #[.val (.int p0), .val (.int p1), .val (.int p2), .val (.int v1), .val (.int v3), .val (.int v9), .val (.ref b12), .val (.ref b59), .val (.int v244), .val (.int v223), .unset, .unset, .unset, .unset] [(.int v251)])) _
      refine XS.istore X246'.here hx rfl (hb hby at_275) rfl (l' := #[.val (.int p0), .val (.int p1), .val (.int p2), .val (.int v1), .val (.int v3), .val (.int v9), .val (.ref b12), .val (.ref b59), .val (.int v251), .val (.int v223), .unset, .unset, .unset, .unset]) rfl ?_
      exact k
    obtain ⟨T253, h253, b253, X253, e253, K253, q253, E253, D253, st253⟩ := own_new X246' hx hZ hown (hw _ (List.mem_of_getElem? (i := 9) rfl)) (hw _ (List.mem_of_getElem? (i := 10) rfl)) (hw _ (List.mem_of_getElem? (i := 11) rfl)) (rfl : T246.heap = T246.heap) (g := (mkF m 277 #[.val (.int p0), .val (.int p1), .val (.int p2), .val (.int v1), .val (.int v3), .val (.int v9), .val (.ref b12), .val (.ref b59), .val (.int v251), .val (.int v223), .unset, .unset, .unset, .unset] [])) rfl (hb hby at_277) (by decide) (by decide)
    have X253 : Stand p l e room_1 s m #[(.int p0), (.int p1), (.int p2)] below meth c T253 L246 3 9 := X253
    have F253_n : Fld Z h253 b253 "com/example/evotempo/evotempo/problem/OneMax" "n" "I" (.int (0 : Int32)) := D253 (Or.inr (hw _ (List.mem_of_getElem? (i := 19) rfl))) (ty := .int) (by decide)
    have ne_b12_b253 : b12 ≠ b253 := own_ne f249.lt q253
    have ne_b59_b253 : b59 ≠ b253 := own_ne Q246_0.lt q253
    have g_b253 : n0 ≤ b253 := Nat.le_trans Zp250 q253
    have f254 : own_IA Z h253 b12 .boolean ([(nar .boolean v21), (nar .boolean v32), (nar .boolean v43), (nar .boolean v54)] : List Int32) := f249.keep K253 nin0
    have f255 : own_IA Z h253 b59 .int v248 := Q246_0.keep K253 nin0
    have Zp256 : n0 ≤ h253.size := Nat.le_trans Zp250 K253.1
    have st257 : ∀ t, Steps p.tables e below (T253.setTop (mkF m 282 #[.val (.int p0), .val (.int p1), .val (.int p2), .val (.int v1), .val (.int v3), .val (.int v9), .val (.ref b12), .val (.ref b59), .val (.int v251), .val (.int v223), .unset, .unset, .unset, .unset] [(.int (4 : Int32)), (.ref b253), (.ref b253)])) t → Steps p.tables e below (T253.setTop (mkF m 280 #[.val (.int p0), .val (.int p1), .val (.int p2), .val (.int v1), .val (.int v3), .val (.int v9), .val (.ref b12), .val (.ref b59), .val (.int v251), .val (.int v223), .unset, .unset, .unset, .unset] [(.ref b253)])) t := by
      intro t k
      show Steps p.tables e below (T253.setTop (mkF m 280 #[.val (.int p0), .val (.int p1), .val (.int p2), .val (.int v1), .val (.int v3), .val (.int v9), .val (.ref b12), .val (.ref b59), .val (.int v251), .val (.int v223), .unset, .unset, .unset, .unset] [(.ref b253)])) _
      refine XS.dup X253.here hx rfl (hb hby at_280) rfl rfl ?_
      show Steps p.tables e below (T253.setTop (mkF m 281 #[.val (.int p0), .val (.int p1), .val (.int p2), .val (.int v1), .val (.int v3), .val (.int v9), .val (.ref b12), .val (.ref b59), .val (.int v251), .val (.int v223), .unset, .unset, .unset, .unset] [(.ref b253), (.ref b253)])) _
      refine XS.iconst X253.here hx rfl (hb hby at_281) ?_
      exact k
    obtain ⟨_, _, ⟨T258, L258, k258, n258⟩, -, X258, ⟨Lc258, hQ258, l258, y258, z258⟩, st258⟩ := X253.specialBack hx (y := (⟨"com/example/evotempo/evotempo/problem/OneMax", "<init>", "(I)V"⟩ : MethodName)) rfl hown (mvT hZ (hw _ (List.mem_of_getElem? (i := 12) rfl))) (mvT hZ (hw _ (List.mem_of_getElem? (i := 13) rfl))) (mvT hZ (hw _ (List.mem_of_getElem? (i := 14) rfl))) (by decide) (backOf (W := 1) (own_rm3 l Z a0 hw [] b253 (4 : Int32) h253 n0 Zp256 E253 F253_n g_b253 (by decide)) hZ (hw _ (List.mem_of_getElem? (i := 14) rfl)) (hw _ (List.mem_of_getElem? (i := 11) rfl)) (by decide) (by decide)) (g := (mkF m 282 #[.val (.int p0), .val (.int p1), .val (.int p2), .val (.int v1), .val (.int v3), .val (.int v9), .val (.ref b12), .val (.ref b59), .val (.int v251), .val (.int v223), .unset, .unset, .unset, .unset] [(.int (4 : Int32)), (.ref b253), (.ref b253)])) rfl (by rw [hml]; rfl) (Steps.refl _) (a := b253) (argsL := [(.int (4 : Int32))]) (rest := [(.ref b253)]) (lenOf own_pd2 rfl) rfl (by show 2 * 0 + _ ≤ _; exact Nat.le_of_eq rfl) (hb hby at_282) (fun _ _ => ⟨rfl, e253, (by decide : 3 + 0 ≤ _), (by decide : 9 + 0 ≤ _)⟩)
    dsimp only [Pt.U, Pt.locs, Pt.cells, Pt.slots] at X258 l258 y258 z258 st258 hQ258
    subst y258 z258
    obtain ⟨rfl, Nq258, K258, Q258_0, Q258_1, -⟩ := hQ258
    have N258 : Fr n0 L258 := by rw [l258]; exact Fr.app N246 Nq258
    have X258' : Stand p l e room_1 s m #[(.int p0), (.int p1), (.int p2)] below meth c T258 L258 3 9 := X258
    have f259 : own_IA Z T258.heap b12 .boolean ([(nar .boolean v21), (nar .boolean v32), (nar .boolean v43), (nar .boolean v54)] : List Int32) := f254.keep K258 (ninS ne_b12_b253 nin0)
    have f260 : own_IA Z T258.heap b59 .int v248 := f255.keep K258 (ninS ne_b59_b253 nin0)
    have Zp261 : n0 ≤ T258.heap.size := Nat.le_trans Zp256 K258.1
    have st258 : ∀ t, Steps p.tables e below (T258.setTop (mkF m 285 #[.val (.int p0), .val (.int p1), .val (.int p2), .val (.int v1), .val (.int v3), .val (.int v9), .val (.ref b12), .val (.ref b59), .val (.int v251), .val (.int v223), .unset, .unset, .unset, .unset] [(.ref b253)])) t → Steps p.tables e below (T253.setTop (mkF m 282 #[.val (.int p0), .val (.int p1), .val (.int p2), .val (.int v1), .val (.int v3), .val (.int v9), .val (.ref b12), .val (.ref b59), .val (.int v251), .val (.int v223), .unset, .unset, .unset, .unset] [(.int (4 : Int32)), (.ref b253), (.ref b253)])) t := fun t k => st258.trans k
    have st262 : ∀ t, Steps p.tables e below (T258.setTop (mkF m 292 #[.val (.int p0), .val (.int p1), .val (.int p2), .val (.int v1), .val (.int v3), .val (.int v9), .val (.ref b12), .val (.ref b59), .val (.int v251), .val (.int v223), .val (.ref b253), .unset, .unset, .unset] [(.int v1), (.ref b12), (.ref b253)])) t → Steps p.tables e below (T258.setTop (mkF m 285 #[.val (.int p0), .val (.int p1), .val (.int p2), .val (.int v1), .val (.int v3), .val (.int v9), .val (.ref b12), .val (.ref b59), .val (.int v251), .val (.int v223), .unset, .unset, .unset, .unset] [(.ref b253)])) t := by
      intro t k
      show Steps p.tables e below (T258.setTop (mkF m 285 #[.val (.int p0), .val (.int p1), .val (.int p2), .val (.int v1), .val (.int v3), .val (.int v9), .val (.ref b12), .val (.ref b59), .val (.int v251), .val (.int v223), .unset, .unset, .unset, .unset] [(.ref b253)])) _
      refine XS.astore X258'.here hx rfl (hb hby at_285) rfl rfl (l' := #[.val (.int p0), .val (.int p1), .val (.int p2), .val (.int v1), .val (.int v3), .val (.int v9), .val (.ref b12), .val (.ref b59), .val (.int v251), .val (.int v223), .val (.ref b253), .unset, .unset, .unset]) rfl ?_
      show Steps p.tables e below (T258.setTop (mkF m 287 #[.val (.int p0), .val (.int p1), .val (.int p2), .val (.int v1), .val (.int v3), .val (.int v9), .val (.ref b12), .val (.ref b59), .val (.int v251), .val (.int v223), .val (.ref b253), .unset, .unset, .unset] [])) _
      refine XS.aload X258'.here hx rfl (hb hby at_287) rfl rfl ?_
      show Steps p.tables e below (T258.setTop (mkF m 289 #[.val (.int p0), .val (.int p1), .val (.int p2), .val (.int v1), .val (.int v3), .val (.int v9), .val (.ref b12), .val (.ref b59), .val (.int v251), .val (.int v223), .val (.ref b253), .unset, .unset, .unset] [(.ref b253)])) _
      refine XS.aload X258'.here hx rfl (hb hby at_289) rfl rfl ?_
      show Steps p.tables e below (T258.setTop (mkF m 291 #[.val (.int p0), .val (.int p1), .val (.int p2), .val (.int v1), .val (.int v3), .val (.int v9), .val (.ref b12), .val (.ref b59), .val (.int v251), .val (.int v223), .val (.ref b253), .unset, .unset, .unset] [(.ref b12), (.ref b253)])) _
      refine XS.iloadN X258'.here hx rfl (hb hby at_291) rfl ?_
      exact k
    obtain ⟨_, _, ⟨T263, L263, k263, n263⟩, -, X263, ⟨Lc263, hQ263, l263, y263, z263⟩, st263⟩ := Jvm.LawKit.callS X258' hx (y := (⟨"com/example/evotempo/evotempo/problem/OneMaxFitnessAfterFlipsPinLaw", "pop4", "(I)I"⟩ : MethodName)) hown (mvT hZ (hw _ (List.mem_of_getElem? (i := 20) rfl))) (mvT hZ (hw _ (List.mem_of_getElem? (i := 21) rfl))) (mvT hZ (hw _ (List.mem_of_getElem? (i := 3) rfl))) (mvT hZ (hw _ (List.mem_of_getElem? (i := 22) rfl))) (by decide) (backOf (W := 2) (own_rm5 l Z a0 hw [] v1 T258.heap) hZ (hw _ (List.mem_of_getElem? (i := 22) rfl)) (hw _ (List.mem_of_getElem? (i := 3) rfl)) (by decide) (by decide)) (g := (mkF m 292 #[.val (.int p0), .val (.int p1), .val (.int p2), .val (.int v1), .val (.int v3), .val (.int v9), .val (.ref b12), .val (.ref b59), .val (.int v251), .val (.int v223), .val (.ref b253), .unset, .unset, .unset] [(.int v1), (.ref b12), (.ref b253)])) rfl (by rw [hml]; rfl) (argsL := [(.int v1)]) (rest := [(.ref b12), (.ref b253)]) (lenOf own_pd3 rfl) rfl (by show 2 * 0 + _ ≤ _; exact Nat.le_of_eq rfl) (hb hby at_292) (fun _ _ => ⟨rfl, (rfl : T258.heap = T258.heap), (by decide : 3 + 0 ≤ _), (by decide : 9 + 0 ≤ _)⟩)
    dsimp only [Pt.U, Pt.locs, Pt.cells, Pt.slots] at X263 l263 y263 z263 st263 hQ263
    subst y263 z263
    obtain ⟨rfl, rfl, e263⟩ := hQ263
    have X263' : Stand p l e room_1 s m #[(.int p0), (.int p1), (.int p2)] below meth c T263 L258 3 9 := by rw [show L263 = L258 from by rw [l263]; first | rfl | exact List.append_nil _] at X263; exact X263
    obtain ⟨v264, hv264⟩ : ∃ z : Int32, z = (own_F5 v1) := ⟨_, rfl⟩
    rw [← hv264] at st263
    have st265 : ∀ t, Steps p.tables e below (T263.setTop (mkF m 300 #[.val (.int p0), .val (.int p1), .val (.int p2), .val (.int v1), .val (.int v3), .val (.int v9), .val (.ref b12), .val (.ref b59), .val (.int v251), .val (.int v223), .val (.ref b253), .unset, .unset, .unset] [(.int v223), (.ref b59), (.long (v264.toInt64)), (.ref b12), (.ref b253)])) t → Steps p.tables e below (T263.setTop (mkF m 295 #[.val (.int p0), .val (.int p1), .val (.int p2), .val (.int v1), .val (.int v3), .val (.int v9), .val (.ref b12), .val (.ref b59), .val (.int v251), .val (.int v223), .val (.ref b253), .unset, .unset, .unset] [(.int v264), (.ref b12), (.ref b253)])) t := by
      intro t k
      show Steps p.tables e below (T263.setTop (mkF m 295 #[.val (.int p0), .val (.int p1), .val (.int p2), .val (.int v1), .val (.int v3), .val (.int v9), .val (.ref b12), .val (.ref b59), .val (.int v251), .val (.int v223), .val (.ref b253), .unset, .unset, .unset] [(.int v264), (.ref b12), (.ref b253)])) _
      refine XS.i2l X263'.here hx rfl (hb hby at_295) rfl ?_
      show Steps p.tables e below (T263.setTop (mkF m 296 #[.val (.int p0), .val (.int p1), .val (.int p2), .val (.int v1), .val (.int v3), .val (.int v9), .val (.ref b12), .val (.ref b59), .val (.int v251), .val (.int v223), .val (.ref b253), .unset, .unset, .unset] [(.long (v264.toInt64)), (.ref b12), (.ref b253)])) _
      refine XS.aload X263'.here hx rfl (hb hby at_296) rfl rfl ?_
      show Steps p.tables e below (T263.setTop (mkF m 298 #[.val (.int p0), .val (.int p1), .val (.int p2), .val (.int v1), .val (.int v3), .val (.int v9), .val (.ref b12), .val (.ref b59), .val (.int v251), .val (.int v223), .val (.ref b253), .unset, .unset, .unset] [(.ref b59), (.long (v264.toInt64)), (.ref b12), (.ref b253)])) _
      refine XS.iload X263'.here hx rfl (hb hby at_298) rfl ?_
      exact k
    obtain ⟨cq266, kq266, q266a, q266b, q266c⟩ := isOf hZ e263 Q258_0
    obtain ⟨_, _, ⟨T266, L266, k266, n266⟩, -, X266, ⟨Lc266, hQ266, l266, y266, z266⟩, st266⟩ := X263'.virtualBack hx (y := (⟨"com/example/evotempo/evotempo/problem/OneMax", "fitnessAfterFlips", "([ZJ[II)J"⟩ : MethodName)) (z := (⟨"com/example/evotempo/evotempo/problem/OneMax", "fitnessAfterFlips", "([ZJ[II)J"⟩ : MethodName)) hown (mvT hZ (hw _ (List.mem_of_getElem? (i := 23) rfl))) (mvT hZ (hw _ (List.mem_of_getElem? (i := 24) rfl))) (notFace_of_selects (args := #[]) (mvT hZ (hw _ (List.mem_of_getElem? (i := 26) rfl)))) (mvT hZ (hw _ (List.mem_of_getElem? (i := 26) rfl))) (mvT hZ (hw _ (List.mem_of_getElem? (i := 25) rfl))) (by decide) (backOf (W := 0) (own_rm6 l Z a0 hw [] b253 b12 (v264.toInt64) b59 v223 ([(nar .boolean v21), (nar .boolean v32), (nar .boolean v43), (nar .boolean v54)] : List Int32) v248 T258.heap n0 Zp261 f259 f260 (own_h0_267 hv1 hv3 hv9 hv16 hv21 hv27 hv32 hv38 hv43 hv49 hv54 hv199 hv202 hv206 hv209 hv213 hv216 hv220 hv223 hv227 hv230 hv234 hv237 hv241 hv244 hv248 hv251 hv264 hc111_63) (own_h0_268 hv1 hv3 hv9 hv16 hv21 hv27 hv32 hv38 hv43 hv49 hv54 hv199 hv202 hv206 hv209 hv213 hv216 hv220 hv223 hv227 hv230 hv234 hv237 hv241 hv244 hv248 hv251 hv264 hc111_63)) hZ (hw _ (List.mem_of_getElem? (i := 27) rfl)) (hw _ (List.mem_of_getElem? (i := 11) rfl)) (by decide) (by decide)) q266a q266c (g := (mkF m 300 #[.val (.int p0), .val (.int p1), .val (.int p2), .val (.int v1), .val (.int v3), .val (.int v9), .val (.ref b12), .val (.ref b59), .val (.int v251), .val (.int v223), .val (.ref b253), .unset, .unset, .unset] [(.int v223), (.ref b59), (.long (v264.toInt64)), (.ref b12), (.ref b253)])) rfl (by rw [hml]; rfl) (Steps.refl _) (argsL := [(.ref b12), (.long (v264.toInt64)), (.ref b59), (.int v223)]) (rest := []) (lenOf own_pd4 rfl) rfl (by show 2 * 0 + _ ≤ _; exact Nat.le_of_eq rfl) (hb hby at_300) (fun _ _ => ⟨rfl, e263, (by decide : 3 + 0 ≤ _), (by decide : 9 + 0 ≤ _)⟩)
    dsimp only [Pt.U, Pt.locs, Pt.cells, Pt.slots] at X266 l266 y266 z266 st266 hQ266
    subst y266 z266
    obtain ⟨rfl, rfl, e266⟩ := hQ266
    have X266' : Stand p l e room_1 s m #[(.int p0), (.int p1), (.int p2)] below meth c T266 L258 3 9 := by rw [show L266 = L258 from by rw [l266]; first | rfl | exact List.append_nil _] at X266; exact X266
    have st266 : ∀ t, Steps p.tables e below (T266.setTop (mkF m 303 #[.val (.int p0), .val (.int p1), .val (.int p2), .val (.int v1), .val (.int v3), .val (.int v9), .val (.ref b12), .val (.ref b59), .val (.int v251), .val (.int v223), .val (.ref b253), .unset, .unset, .unset] [(.long (own_F6 (v264.toInt64) v223 ([(nar .boolean v21), (nar .boolean v32), (nar .boolean v43), (nar .boolean v54)] : List Int32) v248))])) t → Steps p.tables e below (T263.setTop (mkF m 300 #[.val (.int p0), .val (.int p1), .val (.int p2), .val (.int v1), .val (.int v3), .val (.int v9), .val (.ref b12), .val (.ref b59), .val (.int v251), .val (.int v223), .val (.ref b253), .unset, .unset, .unset] [(.int v223), (.ref b59), (.long (v264.toInt64)), (.ref b12), (.ref b253)])) t := fun t k => st266.trans k
    obtain ⟨v269, hv269⟩ : ∃ z : Int64, z = (own_F6 (v264.toInt64) v223 ([(nar .boolean v21), (nar .boolean v32), (nar .boolean v43), (nar .boolean v54)] : List Int32) v248) := ⟨_, rfl⟩
    rw [← hv269] at st266
    have st270 : ∀ t, Steps p.tables e below (T266.setTop (mkF m 311 #[.val (.int p0), .val (.int p1), .val (.int p2), .val (.int v1), .val (.int v3), .val (.int v9), .val (.ref b12), .val (.ref b59), .val (.int v251), .val (.int v223), .val (.ref b253), .val (.long v269), .second, .unset] [(.int (0 : Int32)), (.int v1), (.int (nar .boolean v21))])) t → Steps p.tables e below (T266.setTop (mkF m 303 #[.val (.int p0), .val (.int p1), .val (.int p2), .val (.int v1), .val (.int v3), .val (.int v9), .val (.ref b12), .val (.ref b59), .val (.int v251), .val (.int v223), .val (.ref b253), .unset, .unset, .unset] [(.long v269)])) t := by
      intro t k
      show Steps p.tables e below (T266.setTop (mkF m 303 #[.val (.int p0), .val (.int p1), .val (.int p2), .val (.int v1), .val (.int v3), .val (.int v9), .val (.ref b12), .val (.ref b59), .val (.int v251), .val (.int v223), .val (.ref b253), .unset, .unset, .unset] [(.long v269)])) _
      refine XS.lstore X266'.here hx rfl (hb hby at_303) rfl (l' := #[.val (.int p0), .val (.int p1), .val (.int p2), .val (.int v1), .val (.int v3), .val (.int v9), .val (.ref b12), .val (.ref b59), .val (.int v251), .val (.int v223), .val (.ref b253), .val (.long v269), .second, .unset]) rfl ?_
      show Steps p.tables e below (T266.setTop (mkF m 305 #[.val (.int p0), .val (.int p1), .val (.int p2), .val (.int v1), .val (.int v3), .val (.int v9), .val (.ref b12), .val (.ref b59), .val (.int v251), .val (.int v223), .val (.ref b253), .val (.long v269), .second, .unset] [])) _
      refine XS.aload X266'.here hx rfl (hb hby at_305) rfl rfl ?_
      show Steps p.tables e below (T266.setTop (mkF m 307 #[.val (.int p0), .val (.int p1), .val (.int p2), .val (.int v1), .val (.int v3), .val (.int v9), .val (.ref b12), .val (.ref b59), .val (.int v251), .val (.int v223), .val (.ref b253), .val (.long v269), .second, .unset] [(.ref b12)])) _
      refine XS.iconst X266'.here hx rfl (hb hby at_307) ?_
      show Steps p.tables e below (T266.setTop (mkF m 308 #[.val (.int p0), .val (.int p1), .val (.int p2), .val (.int v1), .val (.int v3), .val (.int v9), .val (.ref b12), .val (.ref b59), .val (.int v251), .val (.int v223), .val (.ref b253), .val (.long v269), .second, .unset] [(.int (0 : Int32)), (.ref b12)])) _
      refine own_baloadZ X266' hx hZ e266 f259 (j := (0 : Int32)) (own_in (m := 4) rfl (by decide)) (g := (mkF m 308 #[.val (.int p0), .val (.int p1), .val (.int p2), .val (.int v1), .val (.int v3), .val (.int v9), .val (.ref b12), .val (.ref b59), .val (.int v251), .val (.int v223), .val (.ref b253), .val (.long v269), .second, .unset] [(.int (0 : Int32)), (.ref b12)])) rfl rfl (hb hby at_308) _ ?_
      show Steps p.tables e below (T266.setTop (mkF m 309 #[.val (.int p0), .val (.int p1), .val (.int p2), .val (.int v1), .val (.int v3), .val (.int v9), .val (.ref b12), .val (.ref b59), .val (.int v251), .val (.int v223), .val (.ref b253), .val (.long v269), .second, .unset] [(.int (nar .boolean v21))])) _
      refine XS.iloadN X266'.here hx rfl (hb hby at_309) rfl ?_
      show Steps p.tables e below (T266.setTop (mkF m 310 #[.val (.int p0), .val (.int p1), .val (.int p2), .val (.int v1), .val (.int v3), .val (.int v9), .val (.ref b12), .val (.ref b59), .val (.int v251), .val (.int v223), .val (.ref b253), .val (.long v269), .second, .unset] [(.int v1), (.int (nar .boolean v21))])) _
      refine XS.iconst X266'.here hx rfl (hb hby at_310) ?_
      exact k
    obtain ⟨_, _, ⟨T271, L271, k271, n271⟩, -, X271, ⟨Lc271, hQ271, l271, y271, z271⟩, st271⟩ := Jvm.LawKit.callS X266' hx (y := (⟨"com/example/evotempo/evotempo/problem/OneMaxFitnessAfterFlipsPinLaw", "bit", "(II)I"⟩ : MethodName)) hown (mvT hZ (hw _ (List.mem_of_getElem? (i := 1) rfl))) (mvT hZ (hw _ (List.mem_of_getElem? (i := 2) rfl))) (mvT hZ (hw _ (List.mem_of_getElem? (i := 3) rfl))) (mvT hZ (hw _ (List.mem_of_getElem? (i := 4) rfl))) (by decide) (backOf (W := 1) (own_rm1 l Z a0 hw [] v1 (0 : Int32) T258.heap) hZ (hw _ (List.mem_of_getElem? (i := 4) rfl)) (hw _ (List.mem_of_getElem? (i := 3) rfl)) (by decide) (by decide)) (g := (mkF m 311 #[.val (.int p0), .val (.int p1), .val (.int p2), .val (.int v1), .val (.int v3), .val (.int v9), .val (.ref b12), .val (.ref b59), .val (.int v251), .val (.int v223), .val (.ref b253), .val (.long v269), .second, .unset] [(.int (0 : Int32)), (.int v1), (.int (nar .boolean v21))])) rfl (by rw [hml]; rfl) (argsL := [(.int v1), (.int (0 : Int32))]) (rest := [(.int (nar .boolean v21))]) (lenOf own_pd0 rfl) rfl (by show 2 * 0 + _ ≤ _; exact Nat.le_of_eq rfl) (hb hby at_311) (fun _ _ => ⟨rfl, e266, (by decide : 3 + 0 ≤ _), (by decide : 9 + 0 ≤ _)⟩)
    dsimp only [Pt.U, Pt.locs, Pt.cells, Pt.slots] at X271 l271 y271 z271 st271 hQ271
    subst y271 z271
    obtain ⟨rfl, rfl, e271⟩ := hQ271
    have X271' : Stand p l e room_1 s m #[(.int p0), (.int p1), (.int p2)] below meth c T271 L258 3 9 := by rw [show L271 = L258 from by rw [l271]; first | rfl | exact List.append_nil _] at X271; exact X271
    obtain ⟨v272, hv272⟩ : ∃ z : Int32, z = (own_F1 v1 (0 : Int32)) := ⟨_, rfl⟩
    rw [← hv272] at st271
    have st273 : ∀ t, Steps p.tables e below (T271.setTop (mkF m 315 #[.val (.int p0), .val (.int p1), .val (.int p2), .val (.int v1), .val (.int v3), .val (.int v9), .val (.ref b12), .val (.ref b59), .val (.int v251), .val (.int v223), .val (.ref b253), .val (.long v269), .second, .unset] [(.int (1 : Int32)), (.int v272), (.int (nar .boolean v21))])) t → Steps p.tables e below (T271.setTop (mkF m 314 #[.val (.int p0), .val (.int p1), .val (.int p2), .val (.int v1), .val (.int v3), .val (.int v9), .val (.ref b12), .val (.ref b59), .val (.int v251), .val (.int v223), .val (.ref b253), .val (.long v269), .second, .unset] [(.int v272), (.int (nar .boolean v21))])) t := by
      intro t k
      show Steps p.tables e below (T271.setTop (mkF m 314 #[.val (.int p0), .val (.int p1), .val (.int p2), .val (.int v1), .val (.int v3), .val (.int v9), .val (.ref b12), .val (.ref b59), .val (.int v251), .val (.int v223), .val (.ref b253), .val (.long v269), .second, .unset] [(.int v272), (.int (nar .boolean v21))])) _
      refine XS.iconst X271'.here hx rfl (hb hby at_314) ?_
      exact k
    obtain ⟨v277, hv277⟩ : ∃ z : Int32, z = (if v272 = (1 : Int32) then (1 : Int32) else (0 : Int32)) := ⟨_, rfl⟩
    obtain ⟨v278, hv278⟩ : ∃ z : Int32, z = (nar .boolean v21) := ⟨_, rfl⟩
    have st279 : ∀ t, Steps p.tables e below (T271.setTop (mkF m 323 #[.val (.int p0), .val (.int p1), .val (.int p2), .val (.int v1), .val (.int v3), .val (.int v9), .val (.ref b12), .val (.ref b59), .val (.int v251), .val (.int v223), .val (.ref b253), .val (.long v269), .second, .unset] [(.int v277), (.int v278)])) t → Steps p.tables e below (T271.setTop (mkF m 315 #[.val (.int p0), .val (.int p1), .val (.int p2), .val (.int v1), .val (.int v3), .val (.int v9), .val (.ref b12), .val (.ref b59), .val (.int v251), .val (.int v223), .val (.ref b253), .val (.long v269), .second, .unset] [(.int (1 : Int32)), (.int v272), (.int (nar .boolean v21))])) t := by
      rw [hv277]
      rw [hv278]
      by_cases hc315_274 : v272 = (1 : Int32)
      · repeat rw [if_pos hc315_274]
        have st275 : ∀ t, Steps p.tables e below (T271.setTop (mkF m 323 #[.val (.int p0), .val (.int p1), .val (.int p2), .val (.int v1), .val (.int v3), .val (.int v9), .val (.ref b12), .val (.ref b59), .val (.int v251), .val (.int v223), .val (.ref b253), .val (.long v269), .second, .unset] [(.int (1 : Int32)), (.int (nar .boolean v21))])) t → Steps p.tables e below (T271.setTop (mkF m 315 #[.val (.int p0), .val (.int p1), .val (.int p2), .val (.int v1), .val (.int v3), .val (.int v9), .val (.ref b12), .val (.ref b59), .val (.int v251), .val (.int v223), .val (.ref b253), .val (.long v269), .second, .unset] [(.int (1 : Int32)), (.int v272), (.int (nar .boolean v21))])) t := by
          intro t k
          show Steps p.tables e below (T271.setTop (mkF m 315 #[.val (.int p0), .val (.int p1), .val (.int p2), .val (.int v1), .val (.int v3), .val (.int v9), .val (.ref b12), .val (.ref b59), .val (.int v251), .val (.int v223), .val (.ref b253), .val (.long v269), .second, .unset] [(.int (1 : Int32)), (.int v272), (.int (nar .boolean v21))])) _
          refine XS.icmpNo X271'.here hx rfl (hb hby at_315) rfl (teq hc315_274).2 ?_
          show Steps p.tables e below (T271.setTop (mkF m 318 #[.val (.int p0), .val (.int p1), .val (.int p2), .val (.int v1), .val (.int v3), .val (.int v9), .val (.ref b12), .val (.ref b59), .val (.int v251), .val (.int v223), .val (.ref b253), .val (.long v269), .second, .unset] [(.int (nar .boolean v21))])) _
          refine XS.iconst X271'.here hx rfl (hb hby at_318) ?_
          show Steps p.tables e below (T271.setTop (mkF m 319 #[.val (.int p0), .val (.int p1), .val (.int p2), .val (.int v1), .val (.int v3), .val (.int v9), .val (.ref b12), .val (.ref b59), .val (.int v251), .val (.int v223), .val (.ref b253), .val (.long v269), .second, .unset] [(.int (1 : Int32)), (.int (nar .boolean v21))])) _
          refine XS.goto X271'.here hx rfl (pc0 := 319) (pc' := 323) rfl (hb hby at_319) (by decide) (by decide) ?_
          exact k
        exact fun t k => st275 _ k
      · repeat rw [if_neg hc315_274]
        have st276 : ∀ t, Steps p.tables e below (T271.setTop (mkF m 323 #[.val (.int p0), .val (.int p1), .val (.int p2), .val (.int v1), .val (.int v3), .val (.int v9), .val (.ref b12), .val (.ref b59), .val (.int v251), .val (.int v223), .val (.ref b253), .val (.long v269), .second, .unset] [(.int (0 : Int32)), (.int (nar .boolean v21))])) t → Steps p.tables e below (T271.setTop (mkF m 315 #[.val (.int p0), .val (.int p1), .val (.int p2), .val (.int v1), .val (.int v3), .val (.int v9), .val (.ref b12), .val (.ref b59), .val (.int v251), .val (.int v223), .val (.ref b253), .val (.long v269), .second, .unset] [(.int (1 : Int32)), (.int v272), (.int (nar .boolean v21))])) t := by
          intro t k
          show Steps p.tables e below (T271.setTop (mkF m 315 #[.val (.int p0), .val (.int p1), .val (.int p2), .val (.int v1), .val (.int v3), .val (.int v9), .val (.ref b12), .val (.ref b59), .val (.int v251), .val (.int v223), .val (.ref b253), .val (.long v269), .second, .unset] [(.int (1 : Int32)), (.int v272), (.int (nar .boolean v21))])) _
          refine XS.icmpYes X271'.here hx rfl (pc0 := 315) (pc' := 322) rfl (hb hby at_315) rfl (feq hc315_274).2 (by decide) (by decide) ?_
          show Steps p.tables e below (T271.setTop (mkF m 322 #[.val (.int p0), .val (.int p1), .val (.int p2), .val (.int v1), .val (.int v3), .val (.int v9), .val (.ref b12), .val (.ref b59), .val (.int v251), .val (.int v223), .val (.ref b253), .val (.long v269), .second, .unset] [(.int (nar .boolean v21))])) _
          refine XS.iconst X271'.here hx rfl (hb hby at_322) ?_
          exact k
        exact fun t k => st276 _ k
    obtain ⟨v313, hv313⟩ : ∃ z : Int32, z = (if v278 = v277 then (if (nar .boolean v32) = (if (own_F1 v1 (1 : Int32)) = (1 : Int32) then (1 : Int32) else (0 : Int32)) then (if (nar .boolean v43) = (if (own_F1 v1 (2 : Int32)) = (1 : Int32) then (1 : Int32) else (0 : Int32)) then (if (nar .boolean v54) = (if (own_F1 v1 (3 : Int32)) = (1 : Int32) then (1 : Int32) else (0 : Int32)) then (1 : Int32) else (0 : Int32)) else (0 : Int32)) else (0 : Int32)) else (0 : Int32)) := ⟨_, rfl⟩
    obtain ⟨T314, X314, e314, st314⟩ : ∃ T' : State, Stand p l e room_1 s m #[(.int p0), (.int p1), (.int p2)] below meth c T' L258 3 9 ∧ T'.heap = T258.heap ∧ ∀ t, Steps p.tables e below (T'.setTop (mkF m 394 #[.val (.int p0), .val (.int p1), .val (.int p2), .val (.int v1), .val (.int v3), .val (.int v9), .val (.ref b12), .val (.ref b59), .val (.int v251), .val (.int v223), .val (.ref b253), .val (.long v269), .second, .unset] [(.int v313)])) t → Steps p.tables e below (T271.setTop (mkF m 323 #[.val (.int p0), .val (.int p1), .val (.int p2), .val (.int v1), .val (.int v3), .val (.int v9), .val (.ref b12), .val (.ref b59), .val (.int v251), .val (.int v223), .val (.ref b253), .val (.long v269), .second, .unset] [(.int v277), (.int v278)])) t := by
      rw [hv313]
      by_cases hc323_280 : v278 = v277
      · repeat rw [if_pos hc323_280]
        have st281 : ∀ t, Steps p.tables e below (T271.setTop (mkF m 332 #[.val (.int p0), .val (.int p1), .val (.int p2), .val (.int v1), .val (.int v3), .val (.int v9), .val (.ref b12), .val (.ref b59), .val (.int v251), .val (.int v223), .val (.ref b253), .val (.long v269), .second, .unset] [(.int (1 : Int32)), (.int v1), (.int (nar .boolean v32))])) t → Steps p.tables e below (T271.setTop (mkF m 323 #[.val (.int p0), .val (.int p1), .val (.int p2), .val (.int v1), .val (.int v3), .val (.int v9), .val (.ref b12), .val (.ref b59), .val (.int v251), .val (.int v223), .val (.ref b253), .val (.long v269), .second, .unset] [(.int v277), (.int v278)])) t := by
          intro t k
          show Steps p.tables e below (T271.setTop (mkF m 323 #[.val (.int p0), .val (.int p1), .val (.int p2), .val (.int v1), .val (.int v3), .val (.int v9), .val (.ref b12), .val (.ref b59), .val (.int v251), .val (.int v223), .val (.ref b253), .val (.long v269), .second, .unset] [(.int v277), (.int v278)])) _
          refine XS.icmpNo X271'.here hx rfl (hb hby at_323) rfl (teq hc323_280).2 ?_
          show Steps p.tables e below (T271.setTop (mkF m 326 #[.val (.int p0), .val (.int p1), .val (.int p2), .val (.int v1), .val (.int v3), .val (.int v9), .val (.ref b12), .val (.ref b59), .val (.int v251), .val (.int v223), .val (.ref b253), .val (.long v269), .second, .unset] [])) _
          refine XS.aload X271'.here hx rfl (hb hby at_326) rfl rfl ?_
          show Steps p.tables e below (T271.setTop (mkF m 328 #[.val (.int p0), .val (.int p1), .val (.int p2), .val (.int v1), .val (.int v3), .val (.int v9), .val (.ref b12), .val (.ref b59), .val (.int v251), .val (.int v223), .val (.ref b253), .val (.long v269), .second, .unset] [(.ref b12)])) _
          refine XS.iconst X271'.here hx rfl (hb hby at_328) ?_
          show Steps p.tables e below (T271.setTop (mkF m 329 #[.val (.int p0), .val (.int p1), .val (.int p2), .val (.int v1), .val (.int v3), .val (.int v9), .val (.ref b12), .val (.ref b59), .val (.int v251), .val (.int v223), .val (.ref b253), .val (.long v269), .second, .unset] [(.int (1 : Int32)), (.ref b12)])) _
          refine own_baloadZ X271' hx hZ e271 f259 (j := (1 : Int32)) (own_in (m := 4) rfl (by decide)) (g := (mkF m 329 #[.val (.int p0), .val (.int p1), .val (.int p2), .val (.int v1), .val (.int v3), .val (.int v9), .val (.ref b12), .val (.ref b59), .val (.int v251), .val (.int v223), .val (.ref b253), .val (.long v269), .second, .unset] [(.int (1 : Int32)), (.ref b12)])) rfl rfl (hb hby at_329) _ ?_
          show Steps p.tables e below (T271.setTop (mkF m 330 #[.val (.int p0), .val (.int p1), .val (.int p2), .val (.int v1), .val (.int v3), .val (.int v9), .val (.ref b12), .val (.ref b59), .val (.int v251), .val (.int v223), .val (.ref b253), .val (.long v269), .second, .unset] [(.int (nar .boolean v32))])) _
          refine XS.iloadN X271'.here hx rfl (hb hby at_330) rfl ?_
          show Steps p.tables e below (T271.setTop (mkF m 331 #[.val (.int p0), .val (.int p1), .val (.int p2), .val (.int v1), .val (.int v3), .val (.int v9), .val (.ref b12), .val (.ref b59), .val (.int v251), .val (.int v223), .val (.ref b253), .val (.long v269), .second, .unset] [(.int v1), (.int (nar .boolean v32))])) _
          refine XS.iconst X271'.here hx rfl (hb hby at_331) ?_
          exact k
        obtain ⟨_, _, ⟨T282, L282, k282, n282⟩, -, X282, ⟨Lc282, hQ282, l282, y282, z282⟩, st282⟩ := Jvm.LawKit.callS X271' hx (y := (⟨"com/example/evotempo/evotempo/problem/OneMaxFitnessAfterFlipsPinLaw", "bit", "(II)I"⟩ : MethodName)) hown (mvT hZ (hw _ (List.mem_of_getElem? (i := 1) rfl))) (mvT hZ (hw _ (List.mem_of_getElem? (i := 2) rfl))) (mvT hZ (hw _ (List.mem_of_getElem? (i := 3) rfl))) (mvT hZ (hw _ (List.mem_of_getElem? (i := 4) rfl))) (by decide) (backOf (W := 1) (own_rm1 l Z a0 hw [] v1 (1 : Int32) T258.heap) hZ (hw _ (List.mem_of_getElem? (i := 4) rfl)) (hw _ (List.mem_of_getElem? (i := 3) rfl)) (by decide) (by decide)) (g := (mkF m 332 #[.val (.int p0), .val (.int p1), .val (.int p2), .val (.int v1), .val (.int v3), .val (.int v9), .val (.ref b12), .val (.ref b59), .val (.int v251), .val (.int v223), .val (.ref b253), .val (.long v269), .second, .unset] [(.int (1 : Int32)), (.int v1), (.int (nar .boolean v32))])) rfl (by rw [hml]; rfl) (argsL := [(.int v1), (.int (1 : Int32))]) (rest := [(.int (nar .boolean v32))]) (lenOf own_pd0 rfl) rfl (by show 2 * 0 + _ ≤ _; exact Nat.le_of_eq rfl) (hb hby at_332) (fun _ _ => ⟨rfl, e271, (by decide : 3 + 0 ≤ _), (by decide : 9 + 0 ≤ _)⟩)
        dsimp only [Pt.U, Pt.locs, Pt.cells, Pt.slots] at X282 l282 y282 z282 st282 hQ282
        subst y282 z282
        obtain ⟨rfl, rfl, e282⟩ := hQ282
        have X282' : Stand p l e room_1 s m #[(.int p0), (.int p1), (.int p2)] below meth c T282 L258 3 9 := by rw [show L282 = L258 from by rw [l282]; first | rfl | exact List.append_nil _] at X282; exact X282
        have st283 : ∀ t, Steps p.tables e below (T282.setTop (mkF m 336 #[.val (.int p0), .val (.int p1), .val (.int p2), .val (.int v1), .val (.int v3), .val (.int v9), .val (.ref b12), .val (.ref b59), .val (.int v251), .val (.int v223), .val (.ref b253), .val (.long v269), .second, .unset] [(.int (1 : Int32)), (.int (own_F1 v1 (1 : Int32))), (.int (nar .boolean v32))])) t → Steps p.tables e below (T282.setTop (mkF m 335 #[.val (.int p0), .val (.int p1), .val (.int p2), .val (.int v1), .val (.int v3), .val (.int v9), .val (.ref b12), .val (.ref b59), .val (.int v251), .val (.int v223), .val (.ref b253), .val (.long v269), .second, .unset] [(.int (own_F1 v1 (1 : Int32))), (.int (nar .boolean v32))])) t := by
          intro t k
          show Steps p.tables e below (T282.setTop (mkF m 335 #[.val (.int p0), .val (.int p1), .val (.int p2), .val (.int v1), .val (.int v3), .val (.int v9), .val (.ref b12), .val (.ref b59), .val (.int v251), .val (.int v223), .val (.ref b253), .val (.long v269), .second, .unset] [(.int (own_F1 v1 (1 : Int32))), (.int (nar .boolean v32))])) _
          refine XS.iconst X282'.here hx rfl (hb hby at_335) ?_
          exact k
        have st287 : ∀ t, Steps p.tables e below (T282.setTop (mkF m 344 #[.val (.int p0), .val (.int p1), .val (.int p2), .val (.int v1), .val (.int v3), .val (.int v9), .val (.ref b12), .val (.ref b59), .val (.int v251), .val (.int v223), .val (.ref b253), .val (.long v269), .second, .unset] [(.int (if (own_F1 v1 (1 : Int32)) = (1 : Int32) then (1 : Int32) else (0 : Int32))), (.int (nar .boolean v32))])) t → Steps p.tables e below (T282.setTop (mkF m 336 #[.val (.int p0), .val (.int p1), .val (.int p2), .val (.int v1), .val (.int v3), .val (.int v9), .val (.ref b12), .val (.ref b59), .val (.int v251), .val (.int v223), .val (.ref b253), .val (.long v269), .second, .unset] [(.int (1 : Int32)), (.int (own_F1 v1 (1 : Int32))), (.int (nar .boolean v32))])) t := by
          by_cases hc336_284 : (own_F1 v1 (1 : Int32)) = (1 : Int32)
          · repeat rw [if_pos hc336_284]
            have st285 : ∀ t, Steps p.tables e below (T282.setTop (mkF m 344 #[.val (.int p0), .val (.int p1), .val (.int p2), .val (.int v1), .val (.int v3), .val (.int v9), .val (.ref b12), .val (.ref b59), .val (.int v251), .val (.int v223), .val (.ref b253), .val (.long v269), .second, .unset] [(.int (1 : Int32)), (.int (nar .boolean v32))])) t → Steps p.tables e below (T282.setTop (mkF m 336 #[.val (.int p0), .val (.int p1), .val (.int p2), .val (.int v1), .val (.int v3), .val (.int v9), .val (.ref b12), .val (.ref b59), .val (.int v251), .val (.int v223), .val (.ref b253), .val (.long v269), .second, .unset] [(.int (1 : Int32)), (.int (own_F1 v1 (1 : Int32))), (.int (nar .boolean v32))])) t := by
              intro t k
              show Steps p.tables e below (T282.setTop (mkF m 336 #[.val (.int p0), .val (.int p1), .val (.int p2), .val (.int v1), .val (.int v3), .val (.int v9), .val (.ref b12), .val (.ref b59), .val (.int v251), .val (.int v223), .val (.ref b253), .val (.long v269), .second, .unset] [(.int (1 : Int32)), (.int (own_F1 v1 (1 : Int32))), (.int (nar .boolean v32))])) _
              refine XS.icmpNo X282'.here hx rfl (hb hby at_336) rfl (teq hc336_284).2 ?_
              show Steps p.tables e below (T282.setTop (mkF m 339 #[.val (.int p0), .val (.int p1), .val (.int p2), .val (.int v1), .val (.int v3), .val (.int v9), .val (.ref b12), .val (.ref b59), .val (.int v251), .val (.int v223), .val (.ref b253), .val (.long v269), .second, .unset] [(.int (nar .boolean v32))])) _
              refine XS.iconst X282'.here hx rfl (hb hby at_339) ?_
              show Steps p.tables e below (T282.setTop (mkF m 340 #[.val (.int p0), .val (.int p1), .val (.int p2), .val (.int v1), .val (.int v3), .val (.int v9), .val (.ref b12), .val (.ref b59), .val (.int v251), .val (.int v223), .val (.ref b253), .val (.long v269), .second, .unset] [(.int (1 : Int32)), (.int (nar .boolean v32))])) _
              refine XS.goto X282'.here hx rfl (pc0 := 340) (pc' := 344) rfl (hb hby at_340) (by decide) (by decide) ?_
              exact k
            exact fun t k => st285 _ k
          · repeat rw [if_neg hc336_284]
            have st286 : ∀ t, Steps p.tables e below (T282.setTop (mkF m 344 #[.val (.int p0), .val (.int p1), .val (.int p2), .val (.int v1), .val (.int v3), .val (.int v9), .val (.ref b12), .val (.ref b59), .val (.int v251), .val (.int v223), .val (.ref b253), .val (.long v269), .second, .unset] [(.int (0 : Int32)), (.int (nar .boolean v32))])) t → Steps p.tables e below (T282.setTop (mkF m 336 #[.val (.int p0), .val (.int p1), .val (.int p2), .val (.int v1), .val (.int v3), .val (.int v9), .val (.ref b12), .val (.ref b59), .val (.int v251), .val (.int v223), .val (.ref b253), .val (.long v269), .second, .unset] [(.int (1 : Int32)), (.int (own_F1 v1 (1 : Int32))), (.int (nar .boolean v32))])) t := by
              intro t k
              show Steps p.tables e below (T282.setTop (mkF m 336 #[.val (.int p0), .val (.int p1), .val (.int p2), .val (.int v1), .val (.int v3), .val (.int v9), .val (.ref b12), .val (.ref b59), .val (.int v251), .val (.int v223), .val (.ref b253), .val (.long v269), .second, .unset] [(.int (1 : Int32)), (.int (own_F1 v1 (1 : Int32))), (.int (nar .boolean v32))])) _
              refine XS.icmpYes X282'.here hx rfl (pc0 := 336) (pc' := 343) rfl (hb hby at_336) rfl (feq hc336_284).2 (by decide) (by decide) ?_
              show Steps p.tables e below (T282.setTop (mkF m 343 #[.val (.int p0), .val (.int p1), .val (.int p2), .val (.int v1), .val (.int v3), .val (.int v9), .val (.ref b12), .val (.ref b59), .val (.int v251), .val (.int v223), .val (.ref b253), .val (.long v269), .second, .unset] [(.int (nar .boolean v32))])) _
              refine XS.iconst X282'.here hx rfl (hb hby at_343) ?_
              exact k
            exact fun t k => st286 _ k
        obtain ⟨T311, X311, e311, st311⟩ : ∃ T' : State, Stand p l e room_1 s m #[(.int p0), (.int p1), (.int p2)] below meth c T' L258 3 9 ∧ T'.heap = T258.heap ∧ ∀ t, Steps p.tables e below (T'.setTop (mkF m 394 #[.val (.int p0), .val (.int p1), .val (.int p2), .val (.int v1), .val (.int v3), .val (.int v9), .val (.ref b12), .val (.ref b59), .val (.int v251), .val (.int v223), .val (.ref b253), .val (.long v269), .second, .unset] [(.int (if (nar .boolean v32) = (if (own_F1 v1 (1 : Int32)) = (1 : Int32) then (1 : Int32) else (0 : Int32)) then (if (nar .boolean v43) = (if (own_F1 v1 (2 : Int32)) = (1 : Int32) then (1 : Int32) else (0 : Int32)) then (if (nar .boolean v54) = (if (own_F1 v1 (3 : Int32)) = (1 : Int32) then (1 : Int32) else (0 : Int32)) then (1 : Int32) else (0 : Int32)) else (0 : Int32)) else (0 : Int32)))])) t → Steps p.tables e below (T282.setTop (mkF m 344 #[.val (.int p0), .val (.int p1), .val (.int p2), .val (.int v1), .val (.int v3), .val (.int v9), .val (.ref b12), .val (.ref b59), .val (.int v251), .val (.int v223), .val (.ref b253), .val (.long v269), .second, .unset] [(.int (if (own_F1 v1 (1 : Int32)) = (1 : Int32) then (1 : Int32) else (0 : Int32))), (.int (nar .boolean v32))])) t := by
          by_cases hc344_288 : (nar .boolean v32) = (if (own_F1 v1 (1 : Int32)) = (1 : Int32) then (1 : Int32) else (0 : Int32))
          · repeat rw [if_pos hc344_288]
            have st289 : ∀ t, Steps p.tables e below (T282.setTop (mkF m 353 #[.val (.int p0), .val (.int p1), .val (.int p2), .val (.int v1), .val (.int v3), .val (.int v9), .val (.ref b12), .val (.ref b59), .val (.int v251), .val (.int v223), .val (.ref b253), .val (.long v269), .second, .unset] [(.int (2 : Int32)), (.int v1), (.int (nar .boolean v43))])) t → Steps p.tables e below (T282.setTop (mkF m 344 #[.val (.int p0), .val (.int p1), .val (.int p2), .val (.int v1), .val (.int v3), .val (.int v9), .val (.ref b12), .val (.ref b59), .val (.int v251), .val (.int v223), .val (.ref b253), .val (.long v269), .second, .unset] [(.int (if (own_F1 v1 (1 : Int32)) = (1 : Int32) then (1 : Int32) else (0 : Int32))), (.int (nar .boolean v32))])) t := by
              intro t k
              show Steps p.tables e below (T282.setTop (mkF m 344 #[.val (.int p0), .val (.int p1), .val (.int p2), .val (.int v1), .val (.int v3), .val (.int v9), .val (.ref b12), .val (.ref b59), .val (.int v251), .val (.int v223), .val (.ref b253), .val (.long v269), .second, .unset] [(.int (if (own_F1 v1 (1 : Int32)) = (1 : Int32) then (1 : Int32) else (0 : Int32))), (.int (nar .boolean v32))])) _
              refine XS.icmpNo X282'.here hx rfl (hb hby at_344) rfl (teq hc344_288).2 ?_
              show Steps p.tables e below (T282.setTop (mkF m 347 #[.val (.int p0), .val (.int p1), .val (.int p2), .val (.int v1), .val (.int v3), .val (.int v9), .val (.ref b12), .val (.ref b59), .val (.int v251), .val (.int v223), .val (.ref b253), .val (.long v269), .second, .unset] [])) _
              refine XS.aload X282'.here hx rfl (hb hby at_347) rfl rfl ?_
              show Steps p.tables e below (T282.setTop (mkF m 349 #[.val (.int p0), .val (.int p1), .val (.int p2), .val (.int v1), .val (.int v3), .val (.int v9), .val (.ref b12), .val (.ref b59), .val (.int v251), .val (.int v223), .val (.ref b253), .val (.long v269), .second, .unset] [(.ref b12)])) _
              refine XS.iconst X282'.here hx rfl (hb hby at_349) ?_
              show Steps p.tables e below (T282.setTop (mkF m 350 #[.val (.int p0), .val (.int p1), .val (.int p2), .val (.int v1), .val (.int v3), .val (.int v9), .val (.ref b12), .val (.ref b59), .val (.int v251), .val (.int v223), .val (.ref b253), .val (.long v269), .second, .unset] [(.int (2 : Int32)), (.ref b12)])) _
              refine own_baloadZ X282' hx hZ e282 f259 (j := (2 : Int32)) (own_in (m := 4) rfl (by decide)) (g := (mkF m 350 #[.val (.int p0), .val (.int p1), .val (.int p2), .val (.int v1), .val (.int v3), .val (.int v9), .val (.ref b12), .val (.ref b59), .val (.int v251), .val (.int v223), .val (.ref b253), .val (.long v269), .second, .unset] [(.int (2 : Int32)), (.ref b12)])) rfl rfl (hb hby at_350) _ ?_
              show Steps p.tables e below (T282.setTop (mkF m 351 #[.val (.int p0), .val (.int p1), .val (.int p2), .val (.int v1), .val (.int v3), .val (.int v9), .val (.ref b12), .val (.ref b59), .val (.int v251), .val (.int v223), .val (.ref b253), .val (.long v269), .second, .unset] [(.int (nar .boolean v43))])) _
              refine XS.iloadN X282'.here hx rfl (hb hby at_351) rfl ?_
              show Steps p.tables e below (T282.setTop (mkF m 352 #[.val (.int p0), .val (.int p1), .val (.int p2), .val (.int v1), .val (.int v3), .val (.int v9), .val (.ref b12), .val (.ref b59), .val (.int v251), .val (.int v223), .val (.ref b253), .val (.long v269), .second, .unset] [(.int v1), (.int (nar .boolean v43))])) _
              refine XS.iconst X282'.here hx rfl (hb hby at_352) ?_
              exact k
            obtain ⟨_, _, ⟨T290, L290, k290, n290⟩, -, X290, ⟨Lc290, hQ290, l290, y290, z290⟩, st290⟩ := Jvm.LawKit.callS X282' hx (y := (⟨"com/example/evotempo/evotempo/problem/OneMaxFitnessAfterFlipsPinLaw", "bit", "(II)I"⟩ : MethodName)) hown (mvT hZ (hw _ (List.mem_of_getElem? (i := 1) rfl))) (mvT hZ (hw _ (List.mem_of_getElem? (i := 2) rfl))) (mvT hZ (hw _ (List.mem_of_getElem? (i := 3) rfl))) (mvT hZ (hw _ (List.mem_of_getElem? (i := 4) rfl))) (by decide) (backOf (W := 1) (own_rm1 l Z a0 hw [] v1 (2 : Int32) T258.heap) hZ (hw _ (List.mem_of_getElem? (i := 4) rfl)) (hw _ (List.mem_of_getElem? (i := 3) rfl)) (by decide) (by decide)) (g := (mkF m 353 #[.val (.int p0), .val (.int p1), .val (.int p2), .val (.int v1), .val (.int v3), .val (.int v9), .val (.ref b12), .val (.ref b59), .val (.int v251), .val (.int v223), .val (.ref b253), .val (.long v269), .second, .unset] [(.int (2 : Int32)), (.int v1), (.int (nar .boolean v43))])) rfl (by rw [hml]; rfl) (argsL := [(.int v1), (.int (2 : Int32))]) (rest := [(.int (nar .boolean v43))]) (lenOf own_pd0 rfl) rfl (by show 2 * 0 + _ ≤ _; exact Nat.le_of_eq rfl) (hb hby at_353) (fun _ _ => ⟨rfl, e282, (by decide : 3 + 0 ≤ _), (by decide : 9 + 0 ≤ _)⟩)
            dsimp only [Pt.U, Pt.locs, Pt.cells, Pt.slots] at X290 l290 y290 z290 st290 hQ290
            subst y290 z290
            obtain ⟨rfl, rfl, e290⟩ := hQ290
            have X290' : Stand p l e room_1 s m #[(.int p0), (.int p1), (.int p2)] below meth c T290 L258 3 9 := by rw [show L290 = L258 from by rw [l290]; first | rfl | exact List.append_nil _] at X290; exact X290
            have st291 : ∀ t, Steps p.tables e below (T290.setTop (mkF m 357 #[.val (.int p0), .val (.int p1), .val (.int p2), .val (.int v1), .val (.int v3), .val (.int v9), .val (.ref b12), .val (.ref b59), .val (.int v251), .val (.int v223), .val (.ref b253), .val (.long v269), .second, .unset] [(.int (1 : Int32)), (.int (own_F1 v1 (2 : Int32))), (.int (nar .boolean v43))])) t → Steps p.tables e below (T290.setTop (mkF m 356 #[.val (.int p0), .val (.int p1), .val (.int p2), .val (.int v1), .val (.int v3), .val (.int v9), .val (.ref b12), .val (.ref b59), .val (.int v251), .val (.int v223), .val (.ref b253), .val (.long v269), .second, .unset] [(.int (own_F1 v1 (2 : Int32))), (.int (nar .boolean v43))])) t := by
              intro t k
              show Steps p.tables e below (T290.setTop (mkF m 356 #[.val (.int p0), .val (.int p1), .val (.int p2), .val (.int v1), .val (.int v3), .val (.int v9), .val (.ref b12), .val (.ref b59), .val (.int v251), .val (.int v223), .val (.ref b253), .val (.long v269), .second, .unset] [(.int (own_F1 v1 (2 : Int32))), (.int (nar .boolean v43))])) _
              refine XS.iconst X290'.here hx rfl (hb hby at_356) ?_
              exact k
            have st295 : ∀ t, Steps p.tables e below (T290.setTop (mkF m 365 #[.val (.int p0), .val (.int p1), .val (.int p2), .val (.int v1), .val (.int v3), .val (.int v9), .val (.ref b12), .val (.ref b59), .val (.int v251), .val (.int v223), .val (.ref b253), .val (.long v269), .second, .unset] [(.int (if (own_F1 v1 (2 : Int32)) = (1 : Int32) then (1 : Int32) else (0 : Int32))), (.int (nar .boolean v43))])) t → Steps p.tables e below (T290.setTop (mkF m 357 #[.val (.int p0), .val (.int p1), .val (.int p2), .val (.int v1), .val (.int v3), .val (.int v9), .val (.ref b12), .val (.ref b59), .val (.int v251), .val (.int v223), .val (.ref b253), .val (.long v269), .second, .unset] [(.int (1 : Int32)), (.int (own_F1 v1 (2 : Int32))), (.int (nar .boolean v43))])) t := by
              by_cases hc357_292 : (own_F1 v1 (2 : Int32)) = (1 : Int32)
              · repeat rw [if_pos hc357_292]
                have st293 : ∀ t, Steps p.tables e below (T290.setTop (mkF m 365 #[.val (.int p0), .val (.int p1), .val (.int p2), .val (.int v1), .val (.int v3), .val (.int v9), .val (.ref b12), .val (.ref b59), .val (.int v251), .val (.int v223), .val (.ref b253), .val (.long v269), .second, .unset] [(.int (1 : Int32)), (.int (nar .boolean v43))])) t → Steps p.tables e below (T290.setTop (mkF m 357 #[.val (.int p0), .val (.int p1), .val (.int p2), .val (.int v1), .val (.int v3), .val (.int v9), .val (.ref b12), .val (.ref b59), .val (.int v251), .val (.int v223), .val (.ref b253), .val (.long v269), .second, .unset] [(.int (1 : Int32)), (.int (own_F1 v1 (2 : Int32))), (.int (nar .boolean v43))])) t := by
                  intro t k
                  show Steps p.tables e below (T290.setTop (mkF m 357 #[.val (.int p0), .val (.int p1), .val (.int p2), .val (.int v1), .val (.int v3), .val (.int v9), .val (.ref b12), .val (.ref b59), .val (.int v251), .val (.int v223), .val (.ref b253), .val (.long v269), .second, .unset] [(.int (1 : Int32)), (.int (own_F1 v1 (2 : Int32))), (.int (nar .boolean v43))])) _
                  refine XS.icmpNo X290'.here hx rfl (hb hby at_357) rfl (teq hc357_292).2 ?_
                  show Steps p.tables e below (T290.setTop (mkF m 360 #[.val (.int p0), .val (.int p1), .val (.int p2), .val (.int v1), .val (.int v3), .val (.int v9), .val (.ref b12), .val (.ref b59), .val (.int v251), .val (.int v223), .val (.ref b253), .val (.long v269), .second, .unset] [(.int (nar .boolean v43))])) _
                  refine XS.iconst X290'.here hx rfl (hb hby at_360) ?_
                  show Steps p.tables e below (T290.setTop (mkF m 361 #[.val (.int p0), .val (.int p1), .val (.int p2), .val (.int v1), .val (.int v3), .val (.int v9), .val (.ref b12), .val (.ref b59), .val (.int v251), .val (.int v223), .val (.ref b253), .val (.long v269), .second, .unset] [(.int (1 : Int32)), (.int (nar .boolean v43))])) _
                  refine XS.goto X290'.here hx rfl (pc0 := 361) (pc' := 365) rfl (hb hby at_361) (by decide) (by decide) ?_
                  exact k
                exact fun t k => st293 _ k
              · repeat rw [if_neg hc357_292]
                have st294 : ∀ t, Steps p.tables e below (T290.setTop (mkF m 365 #[.val (.int p0), .val (.int p1), .val (.int p2), .val (.int v1), .val (.int v3), .val (.int v9), .val (.ref b12), .val (.ref b59), .val (.int v251), .val (.int v223), .val (.ref b253), .val (.long v269), .second, .unset] [(.int (0 : Int32)), (.int (nar .boolean v43))])) t → Steps p.tables e below (T290.setTop (mkF m 357 #[.val (.int p0), .val (.int p1), .val (.int p2), .val (.int v1), .val (.int v3), .val (.int v9), .val (.ref b12), .val (.ref b59), .val (.int v251), .val (.int v223), .val (.ref b253), .val (.long v269), .second, .unset] [(.int (1 : Int32)), (.int (own_F1 v1 (2 : Int32))), (.int (nar .boolean v43))])) t := by
                  intro t k
                  show Steps p.tables e below (T290.setTop (mkF m 357 #[.val (.int p0), .val (.int p1), .val (.int p2), .val (.int v1), .val (.int v3), .val (.int v9), .val (.ref b12), .val (.ref b59), .val (.int v251), .val (.int v223), .val (.ref b253), .val (.long v269), .second, .unset] [(.int (1 : Int32)), (.int (own_F1 v1 (2 : Int32))), (.int (nar .boolean v43))])) _
                  refine XS.icmpYes X290'.here hx rfl (pc0 := 357) (pc' := 364) rfl (hb hby at_357) rfl (feq hc357_292).2 (by decide) (by decide) ?_
                  show Steps p.tables e below (T290.setTop (mkF m 364 #[.val (.int p0), .val (.int p1), .val (.int p2), .val (.int v1), .val (.int v3), .val (.int v9), .val (.ref b12), .val (.ref b59), .val (.int v251), .val (.int v223), .val (.ref b253), .val (.long v269), .second, .unset] [(.int (nar .boolean v43))])) _
                  refine XS.iconst X290'.here hx rfl (hb hby at_364) ?_
                  exact k
                exact fun t k => st294 _ k
            obtain ⟨T309, X309, e309, st309⟩ : ∃ T' : State, Stand p l e room_1 s m #[(.int p0), (.int p1), (.int p2)] below meth c T' L258 3 9 ∧ T'.heap = T258.heap ∧ ∀ t, Steps p.tables e below (T'.setTop (mkF m 394 #[.val (.int p0), .val (.int p1), .val (.int p2), .val (.int v1), .val (.int v3), .val (.int v9), .val (.ref b12), .val (.ref b59), .val (.int v251), .val (.int v223), .val (.ref b253), .val (.long v269), .second, .unset] [(.int (if (nar .boolean v43) = (if (own_F1 v1 (2 : Int32)) = (1 : Int32) then (1 : Int32) else (0 : Int32)) then (if (nar .boolean v54) = (if (own_F1 v1 (3 : Int32)) = (1 : Int32) then (1 : Int32) else (0 : Int32)) then (1 : Int32) else (0 : Int32)) else (0 : Int32)))])) t → Steps p.tables e below (T290.setTop (mkF m 365 #[.val (.int p0), .val (.int p1), .val (.int p2), .val (.int v1), .val (.int v3), .val (.int v9), .val (.ref b12), .val (.ref b59), .val (.int v251), .val (.int v223), .val (.ref b253), .val (.long v269), .second, .unset] [(.int (if (own_F1 v1 (2 : Int32)) = (1 : Int32) then (1 : Int32) else (0 : Int32))), (.int (nar .boolean v43))])) t := by
              by_cases hc365_296 : (nar .boolean v43) = (if (own_F1 v1 (2 : Int32)) = (1 : Int32) then (1 : Int32) else (0 : Int32))
              · repeat rw [if_pos hc365_296]
                have st297 : ∀ t, Steps p.tables e below (T290.setTop (mkF m 374 #[.val (.int p0), .val (.int p1), .val (.int p2), .val (.int v1), .val (.int v3), .val (.int v9), .val (.ref b12), .val (.ref b59), .val (.int v251), .val (.int v223), .val (.ref b253), .val (.long v269), .second, .unset] [(.int (3 : Int32)), (.int v1), (.int (nar .boolean v54))])) t → Steps p.tables e below (T290.setTop (mkF m 365 #[.val (.int p0), .val (.int p1), .val (.int p2), .val (.int v1), .val (.int v3), .val (.int v9), .val (.ref b12), .val (.ref b59), .val (.int v251), .val (.int v223), .val (.ref b253), .val (.long v269), .second, .unset] [(.int (if (own_F1 v1 (2 : Int32)) = (1 : Int32) then (1 : Int32) else (0 : Int32))), (.int (nar .boolean v43))])) t := by
                  intro t k
                  show Steps p.tables e below (T290.setTop (mkF m 365 #[.val (.int p0), .val (.int p1), .val (.int p2), .val (.int v1), .val (.int v3), .val (.int v9), .val (.ref b12), .val (.ref b59), .val (.int v251), .val (.int v223), .val (.ref b253), .val (.long v269), .second, .unset] [(.int (if (own_F1 v1 (2 : Int32)) = (1 : Int32) then (1 : Int32) else (0 : Int32))), (.int (nar .boolean v43))])) _
                  refine XS.icmpNo X290'.here hx rfl (hb hby at_365) rfl (teq hc365_296).2 ?_
                  show Steps p.tables e below (T290.setTop (mkF m 368 #[.val (.int p0), .val (.int p1), .val (.int p2), .val (.int v1), .val (.int v3), .val (.int v9), .val (.ref b12), .val (.ref b59), .val (.int v251), .val (.int v223), .val (.ref b253), .val (.long v269), .second, .unset] [])) _
                  refine XS.aload X290'.here hx rfl (hb hby at_368) rfl rfl ?_
                  show Steps p.tables e below (T290.setTop (mkF m 370 #[.val (.int p0), .val (.int p1), .val (.int p2), .val (.int v1), .val (.int v3), .val (.int v9), .val (.ref b12), .val (.ref b59), .val (.int v251), .val (.int v223), .val (.ref b253), .val (.long v269), .second, .unset] [(.ref b12)])) _
                  refine XS.iconst X290'.here hx rfl (hb hby at_370) ?_
                  show Steps p.tables e below (T290.setTop (mkF m 371 #[.val (.int p0), .val (.int p1), .val (.int p2), .val (.int v1), .val (.int v3), .val (.int v9), .val (.ref b12), .val (.ref b59), .val (.int v251), .val (.int v223), .val (.ref b253), .val (.long v269), .second, .unset] [(.int (3 : Int32)), (.ref b12)])) _
                  refine own_baloadZ X290' hx hZ e290 f259 (j := (3 : Int32)) (own_in (m := 4) rfl (by decide)) (g := (mkF m 371 #[.val (.int p0), .val (.int p1), .val (.int p2), .val (.int v1), .val (.int v3), .val (.int v9), .val (.ref b12), .val (.ref b59), .val (.int v251), .val (.int v223), .val (.ref b253), .val (.long v269), .second, .unset] [(.int (3 : Int32)), (.ref b12)])) rfl rfl (hb hby at_371) _ ?_
                  show Steps p.tables e below (T290.setTop (mkF m 372 #[.val (.int p0), .val (.int p1), .val (.int p2), .val (.int v1), .val (.int v3), .val (.int v9), .val (.ref b12), .val (.ref b59), .val (.int v251), .val (.int v223), .val (.ref b253), .val (.long v269), .second, .unset] [(.int (nar .boolean v54))])) _
                  refine XS.iloadN X290'.here hx rfl (hb hby at_372) rfl ?_
                  show Steps p.tables e below (T290.setTop (mkF m 373 #[.val (.int p0), .val (.int p1), .val (.int p2), .val (.int v1), .val (.int v3), .val (.int v9), .val (.ref b12), .val (.ref b59), .val (.int v251), .val (.int v223), .val (.ref b253), .val (.long v269), .second, .unset] [(.int v1), (.int (nar .boolean v54))])) _
                  refine XS.iconst X290'.here hx rfl (hb hby at_373) ?_
                  exact k
                obtain ⟨_, _, ⟨T298, L298, k298, n298⟩, -, X298, ⟨Lc298, hQ298, l298, y298, z298⟩, st298⟩ := Jvm.LawKit.callS X290' hx (y := (⟨"com/example/evotempo/evotempo/problem/OneMaxFitnessAfterFlipsPinLaw", "bit", "(II)I"⟩ : MethodName)) hown (mvT hZ (hw _ (List.mem_of_getElem? (i := 1) rfl))) (mvT hZ (hw _ (List.mem_of_getElem? (i := 2) rfl))) (mvT hZ (hw _ (List.mem_of_getElem? (i := 3) rfl))) (mvT hZ (hw _ (List.mem_of_getElem? (i := 4) rfl))) (by decide) (backOf (W := 1) (own_rm1 l Z a0 hw [] v1 (3 : Int32) T258.heap) hZ (hw _ (List.mem_of_getElem? (i := 4) rfl)) (hw _ (List.mem_of_getElem? (i := 3) rfl)) (by decide) (by decide)) (g := (mkF m 374 #[.val (.int p0), .val (.int p1), .val (.int p2), .val (.int v1), .val (.int v3), .val (.int v9), .val (.ref b12), .val (.ref b59), .val (.int v251), .val (.int v223), .val (.ref b253), .val (.long v269), .second, .unset] [(.int (3 : Int32)), (.int v1), (.int (nar .boolean v54))])) rfl (by rw [hml]; rfl) (argsL := [(.int v1), (.int (3 : Int32))]) (rest := [(.int (nar .boolean v54))]) (lenOf own_pd0 rfl) rfl (by show 2 * 0 + _ ≤ _; exact Nat.le_of_eq rfl) (hb hby at_374) (fun _ _ => ⟨rfl, e290, (by decide : 3 + 0 ≤ _), (by decide : 9 + 0 ≤ _)⟩)
                dsimp only [Pt.U, Pt.locs, Pt.cells, Pt.slots] at X298 l298 y298 z298 st298 hQ298
                subst y298 z298
                obtain ⟨rfl, rfl, e298⟩ := hQ298
                have X298' : Stand p l e room_1 s m #[(.int p0), (.int p1), (.int p2)] below meth c T298 L258 3 9 := by rw [show L298 = L258 from by rw [l298]; first | rfl | exact List.append_nil _] at X298; exact X298
                have st299 : ∀ t, Steps p.tables e below (T298.setTop (mkF m 378 #[.val (.int p0), .val (.int p1), .val (.int p2), .val (.int v1), .val (.int v3), .val (.int v9), .val (.ref b12), .val (.ref b59), .val (.int v251), .val (.int v223), .val (.ref b253), .val (.long v269), .second, .unset] [(.int (1 : Int32)), (.int (own_F1 v1 (3 : Int32))), (.int (nar .boolean v54))])) t → Steps p.tables e below (T298.setTop (mkF m 377 #[.val (.int p0), .val (.int p1), .val (.int p2), .val (.int v1), .val (.int v3), .val (.int v9), .val (.ref b12), .val (.ref b59), .val (.int v251), .val (.int v223), .val (.ref b253), .val (.long v269), .second, .unset] [(.int (own_F1 v1 (3 : Int32))), (.int (nar .boolean v54))])) t := by
                  intro t k
                  show Steps p.tables e below (T298.setTop (mkF m 377 #[.val (.int p0), .val (.int p1), .val (.int p2), .val (.int v1), .val (.int v3), .val (.int v9), .val (.ref b12), .val (.ref b59), .val (.int v251), .val (.int v223), .val (.ref b253), .val (.long v269), .second, .unset] [(.int (own_F1 v1 (3 : Int32))), (.int (nar .boolean v54))])) _
                  refine XS.iconst X298'.here hx rfl (hb hby at_377) ?_
                  exact k
                have st303 : ∀ t, Steps p.tables e below (T298.setTop (mkF m 386 #[.val (.int p0), .val (.int p1), .val (.int p2), .val (.int v1), .val (.int v3), .val (.int v9), .val (.ref b12), .val (.ref b59), .val (.int v251), .val (.int v223), .val (.ref b253), .val (.long v269), .second, .unset] [(.int (if (own_F1 v1 (3 : Int32)) = (1 : Int32) then (1 : Int32) else (0 : Int32))), (.int (nar .boolean v54))])) t → Steps p.tables e below (T298.setTop (mkF m 378 #[.val (.int p0), .val (.int p1), .val (.int p2), .val (.int v1), .val (.int v3), .val (.int v9), .val (.ref b12), .val (.ref b59), .val (.int v251), .val (.int v223), .val (.ref b253), .val (.long v269), .second, .unset] [(.int (1 : Int32)), (.int (own_F1 v1 (3 : Int32))), (.int (nar .boolean v54))])) t := by
                  by_cases hc378_300 : (own_F1 v1 (3 : Int32)) = (1 : Int32)
                  · repeat rw [if_pos hc378_300]
                    have st301 : ∀ t, Steps p.tables e below (T298.setTop (mkF m 386 #[.val (.int p0), .val (.int p1), .val (.int p2), .val (.int v1), .val (.int v3), .val (.int v9), .val (.ref b12), .val (.ref b59), .val (.int v251), .val (.int v223), .val (.ref b253), .val (.long v269), .second, .unset] [(.int (1 : Int32)), (.int (nar .boolean v54))])) t → Steps p.tables e below (T298.setTop (mkF m 378 #[.val (.int p0), .val (.int p1), .val (.int p2), .val (.int v1), .val (.int v3), .val (.int v9), .val (.ref b12), .val (.ref b59), .val (.int v251), .val (.int v223), .val (.ref b253), .val (.long v269), .second, .unset] [(.int (1 : Int32)), (.int (own_F1 v1 (3 : Int32))), (.int (nar .boolean v54))])) t := by
                      intro t k
                      show Steps p.tables e below (T298.setTop (mkF m 378 #[.val (.int p0), .val (.int p1), .val (.int p2), .val (.int v1), .val (.int v3), .val (.int v9), .val (.ref b12), .val (.ref b59), .val (.int v251), .val (.int v223), .val (.ref b253), .val (.long v269), .second, .unset] [(.int (1 : Int32)), (.int (own_F1 v1 (3 : Int32))), (.int (nar .boolean v54))])) _
                      refine XS.icmpNo X298'.here hx rfl (hb hby at_378) rfl (teq hc378_300).2 ?_
                      show Steps p.tables e below (T298.setTop (mkF m 381 #[.val (.int p0), .val (.int p1), .val (.int p2), .val (.int v1), .val (.int v3), .val (.int v9), .val (.ref b12), .val (.ref b59), .val (.int v251), .val (.int v223), .val (.ref b253), .val (.long v269), .second, .unset] [(.int (nar .boolean v54))])) _
                      refine XS.iconst X298'.here hx rfl (hb hby at_381) ?_
                      show Steps p.tables e below (T298.setTop (mkF m 382 #[.val (.int p0), .val (.int p1), .val (.int p2), .val (.int v1), .val (.int v3), .val (.int v9), .val (.ref b12), .val (.ref b59), .val (.int v251), .val (.int v223), .val (.ref b253), .val (.long v269), .second, .unset] [(.int (1 : Int32)), (.int (nar .boolean v54))])) _
                      refine XS.goto X298'.here hx rfl (pc0 := 382) (pc' := 386) rfl (hb hby at_382) (by decide) (by decide) ?_
                      exact k
                    exact fun t k => st301 _ k
                  · repeat rw [if_neg hc378_300]
                    have st302 : ∀ t, Steps p.tables e below (T298.setTop (mkF m 386 #[.val (.int p0), .val (.int p1), .val (.int p2), .val (.int v1), .val (.int v3), .val (.int v9), .val (.ref b12), .val (.ref b59), .val (.int v251), .val (.int v223), .val (.ref b253), .val (.long v269), .second, .unset] [(.int (0 : Int32)), (.int (nar .boolean v54))])) t → Steps p.tables e below (T298.setTop (mkF m 378 #[.val (.int p0), .val (.int p1), .val (.int p2), .val (.int v1), .val (.int v3), .val (.int v9), .val (.ref b12), .val (.ref b59), .val (.int v251), .val (.int v223), .val (.ref b253), .val (.long v269), .second, .unset] [(.int (1 : Int32)), (.int (own_F1 v1 (3 : Int32))), (.int (nar .boolean v54))])) t := by
                      intro t k
                      show Steps p.tables e below (T298.setTop (mkF m 378 #[.val (.int p0), .val (.int p1), .val (.int p2), .val (.int v1), .val (.int v3), .val (.int v9), .val (.ref b12), .val (.ref b59), .val (.int v251), .val (.int v223), .val (.ref b253), .val (.long v269), .second, .unset] [(.int (1 : Int32)), (.int (own_F1 v1 (3 : Int32))), (.int (nar .boolean v54))])) _
                      refine XS.icmpYes X298'.here hx rfl (pc0 := 378) (pc' := 385) rfl (hb hby at_378) rfl (feq hc378_300).2 (by decide) (by decide) ?_
                      show Steps p.tables e below (T298.setTop (mkF m 385 #[.val (.int p0), .val (.int p1), .val (.int p2), .val (.int v1), .val (.int v3), .val (.int v9), .val (.ref b12), .val (.ref b59), .val (.int v251), .val (.int v223), .val (.ref b253), .val (.long v269), .second, .unset] [(.int (nar .boolean v54))])) _
                      refine XS.iconst X298'.here hx rfl (hb hby at_385) ?_
                      exact k
                    exact fun t k => st302 _ k
                have st307 : ∀ t, Steps p.tables e below (T298.setTop (mkF m 394 #[.val (.int p0), .val (.int p1), .val (.int p2), .val (.int v1), .val (.int v3), .val (.int v9), .val (.ref b12), .val (.ref b59), .val (.int v251), .val (.int v223), .val (.ref b253), .val (.long v269), .second, .unset] [(.int (if (nar .boolean v54) = (if (own_F1 v1 (3 : Int32)) = (1 : Int32) then (1 : Int32) else (0 : Int32)) then (1 : Int32) else (0 : Int32)))])) t → Steps p.tables e below (T298.setTop (mkF m 386 #[.val (.int p0), .val (.int p1), .val (.int p2), .val (.int v1), .val (.int v3), .val (.int v9), .val (.ref b12), .val (.ref b59), .val (.int v251), .val (.int v223), .val (.ref b253), .val (.long v269), .second, .unset] [(.int (if (own_F1 v1 (3 : Int32)) = (1 : Int32) then (1 : Int32) else (0 : Int32))), (.int (nar .boolean v54))])) t := by
                  by_cases hc386_304 : (nar .boolean v54) = (if (own_F1 v1 (3 : Int32)) = (1 : Int32) then (1 : Int32) else (0 : Int32))
                  · repeat rw [if_pos hc386_304]
                    have st305 : ∀ t, Steps p.tables e below (T298.setTop (mkF m 394 #[.val (.int p0), .val (.int p1), .val (.int p2), .val (.int v1), .val (.int v3), .val (.int v9), .val (.ref b12), .val (.ref b59), .val (.int v251), .val (.int v223), .val (.ref b253), .val (.long v269), .second, .unset] [(.int (1 : Int32))])) t → Steps p.tables e below (T298.setTop (mkF m 386 #[.val (.int p0), .val (.int p1), .val (.int p2), .val (.int v1), .val (.int v3), .val (.int v9), .val (.ref b12), .val (.ref b59), .val (.int v251), .val (.int v223), .val (.ref b253), .val (.long v269), .second, .unset] [(.int (if (own_F1 v1 (3 : Int32)) = (1 : Int32) then (1 : Int32) else (0 : Int32))), (.int (nar .boolean v54))])) t := by
                      intro t k
                      show Steps p.tables e below (T298.setTop (mkF m 386 #[.val (.int p0), .val (.int p1), .val (.int p2), .val (.int v1), .val (.int v3), .val (.int v9), .val (.ref b12), .val (.ref b59), .val (.int v251), .val (.int v223), .val (.ref b253), .val (.long v269), .second, .unset] [(.int (if (own_F1 v1 (3 : Int32)) = (1 : Int32) then (1 : Int32) else (0 : Int32))), (.int (nar .boolean v54))])) _
                      refine XS.icmpNo X298'.here hx rfl (hb hby at_386) rfl (teq hc386_304).2 ?_
                      show Steps p.tables e below (T298.setTop (mkF m 389 #[.val (.int p0), .val (.int p1), .val (.int p2), .val (.int v1), .val (.int v3), .val (.int v9), .val (.ref b12), .val (.ref b59), .val (.int v251), .val (.int v223), .val (.ref b253), .val (.long v269), .second, .unset] [])) _
                      refine XS.iconst X298'.here hx rfl (hb hby at_389) ?_
                      show Steps p.tables e below (T298.setTop (mkF m 390 #[.val (.int p0), .val (.int p1), .val (.int p2), .val (.int v1), .val (.int v3), .val (.int v9), .val (.ref b12), .val (.ref b59), .val (.int v251), .val (.int v223), .val (.ref b253), .val (.long v269), .second, .unset] [(.int (1 : Int32))])) _
                      refine XS.goto X298'.here hx rfl (pc0 := 390) (pc' := 394) rfl (hb hby at_390) (by decide) (by decide) ?_
                      exact k
                    exact fun t k => st305 _ k
                  · repeat rw [if_neg hc386_304]
                    have st306 : ∀ t, Steps p.tables e below (T298.setTop (mkF m 394 #[.val (.int p0), .val (.int p1), .val (.int p2), .val (.int v1), .val (.int v3), .val (.int v9), .val (.ref b12), .val (.ref b59), .val (.int v251), .val (.int v223), .val (.ref b253), .val (.long v269), .second, .unset] [(.int (0 : Int32))])) t → Steps p.tables e below (T298.setTop (mkF m 386 #[.val (.int p0), .val (.int p1), .val (.int p2), .val (.int v1), .val (.int v3), .val (.int v9), .val (.ref b12), .val (.ref b59), .val (.int v251), .val (.int v223), .val (.ref b253), .val (.long v269), .second, .unset] [(.int (if (own_F1 v1 (3 : Int32)) = (1 : Int32) then (1 : Int32) else (0 : Int32))), (.int (nar .boolean v54))])) t := by
                      intro t k
                      show Steps p.tables e below (T298.setTop (mkF m 386 #[.val (.int p0), .val (.int p1), .val (.int p2), .val (.int v1), .val (.int v3), .val (.int v9), .val (.ref b12), .val (.ref b59), .val (.int v251), .val (.int v223), .val (.ref b253), .val (.long v269), .second, .unset] [(.int (if (own_F1 v1 (3 : Int32)) = (1 : Int32) then (1 : Int32) else (0 : Int32))), (.int (nar .boolean v54))])) _
                      refine XS.icmpYes X298'.here hx rfl (pc0 := 386) (pc' := 393) rfl (hb hby at_386) rfl (feq hc386_304).2 (by decide) (by decide) ?_
                      show Steps p.tables e below (T298.setTop (mkF m 393 #[.val (.int p0), .val (.int p1), .val (.int p2), .val (.int v1), .val (.int v3), .val (.int v9), .val (.ref b12), .val (.ref b59), .val (.int v251), .val (.int v223), .val (.ref b253), .val (.long v269), .second, .unset] [])) _
                      refine XS.iconst X298'.here hx rfl (hb hby at_393) ?_
                      exact k
                    exact fun t k => st306 _ k
                exact ⟨T298, X298', e298, fun t k => st297 _ (st298 _ (st299 _ (st303 _ (st307 _ k))))⟩
              · repeat rw [if_neg hc365_296]
                have st308 : ∀ t, Steps p.tables e below (T290.setTop (mkF m 394 #[.val (.int p0), .val (.int p1), .val (.int p2), .val (.int v1), .val (.int v3), .val (.int v9), .val (.ref b12), .val (.ref b59), .val (.int v251), .val (.int v223), .val (.ref b253), .val (.long v269), .second, .unset] [(.int (0 : Int32))])) t → Steps p.tables e below (T290.setTop (mkF m 365 #[.val (.int p0), .val (.int p1), .val (.int p2), .val (.int v1), .val (.int v3), .val (.int v9), .val (.ref b12), .val (.ref b59), .val (.int v251), .val (.int v223), .val (.ref b253), .val (.long v269), .second, .unset] [(.int (if (own_F1 v1 (2 : Int32)) = (1 : Int32) then (1 : Int32) else (0 : Int32))), (.int (nar .boolean v43))])) t := by
                  intro t k
                  show Steps p.tables e below (T290.setTop (mkF m 365 #[.val (.int p0), .val (.int p1), .val (.int p2), .val (.int v1), .val (.int v3), .val (.int v9), .val (.ref b12), .val (.ref b59), .val (.int v251), .val (.int v223), .val (.ref b253), .val (.long v269), .second, .unset] [(.int (if (own_F1 v1 (2 : Int32)) = (1 : Int32) then (1 : Int32) else (0 : Int32))), (.int (nar .boolean v43))])) _
                  refine XS.icmpYes X290'.here hx rfl (pc0 := 365) (pc' := 393) rfl (hb hby at_365) rfl (feq hc365_296).2 (by decide) (by decide) ?_
                  show Steps p.tables e below (T290.setTop (mkF m 393 #[.val (.int p0), .val (.int p1), .val (.int p2), .val (.int v1), .val (.int v3), .val (.int v9), .val (.ref b12), .val (.ref b59), .val (.int v251), .val (.int v223), .val (.ref b253), .val (.long v269), .second, .unset] [])) _
                  refine XS.iconst X290'.here hx rfl (hb hby at_393) ?_
                  exact k
                exact ⟨T290, X290', e290, fun t k => st308 _ k⟩
            exact ⟨T309, X309, e309, fun t k => st289 _ (st290 _ (st291 _ (st295 _ (st309 _ k))))⟩
          · repeat rw [if_neg hc344_288]
            have st310 : ∀ t, Steps p.tables e below (T282.setTop (mkF m 394 #[.val (.int p0), .val (.int p1), .val (.int p2), .val (.int v1), .val (.int v3), .val (.int v9), .val (.ref b12), .val (.ref b59), .val (.int v251), .val (.int v223), .val (.ref b253), .val (.long v269), .second, .unset] [(.int (0 : Int32))])) t → Steps p.tables e below (T282.setTop (mkF m 344 #[.val (.int p0), .val (.int p1), .val (.int p2), .val (.int v1), .val (.int v3), .val (.int v9), .val (.ref b12), .val (.ref b59), .val (.int v251), .val (.int v223), .val (.ref b253), .val (.long v269), .second, .unset] [(.int (if (own_F1 v1 (1 : Int32)) = (1 : Int32) then (1 : Int32) else (0 : Int32))), (.int (nar .boolean v32))])) t := by
              intro t k
              show Steps p.tables e below (T282.setTop (mkF m 344 #[.val (.int p0), .val (.int p1), .val (.int p2), .val (.int v1), .val (.int v3), .val (.int v9), .val (.ref b12), .val (.ref b59), .val (.int v251), .val (.int v223), .val (.ref b253), .val (.long v269), .second, .unset] [(.int (if (own_F1 v1 (1 : Int32)) = (1 : Int32) then (1 : Int32) else (0 : Int32))), (.int (nar .boolean v32))])) _
              refine XS.icmpYes X282'.here hx rfl (pc0 := 344) (pc' := 393) rfl (hb hby at_344) rfl (feq hc344_288).2 (by decide) (by decide) ?_
              show Steps p.tables e below (T282.setTop (mkF m 393 #[.val (.int p0), .val (.int p1), .val (.int p2), .val (.int v1), .val (.int v3), .val (.int v9), .val (.ref b12), .val (.ref b59), .val (.int v251), .val (.int v223), .val (.ref b253), .val (.long v269), .second, .unset] [])) _
              refine XS.iconst X282'.here hx rfl (hb hby at_393) ?_
              exact k
            exact ⟨T282, X282', e282, fun t k => st310 _ k⟩
        exact ⟨T311, X311, e311, fun t k => st281 _ (st282 _ (st283 _ (st287 _ (st311 _ k))))⟩
      · repeat rw [if_neg hc323_280]
        have st312 : ∀ t, Steps p.tables e below (T271.setTop (mkF m 394 #[.val (.int p0), .val (.int p1), .val (.int p2), .val (.int v1), .val (.int v3), .val (.int v9), .val (.ref b12), .val (.ref b59), .val (.int v251), .val (.int v223), .val (.ref b253), .val (.long v269), .second, .unset] [(.int (0 : Int32))])) t → Steps p.tables e below (T271.setTop (mkF m 323 #[.val (.int p0), .val (.int p1), .val (.int p2), .val (.int v1), .val (.int v3), .val (.int v9), .val (.ref b12), .val (.ref b59), .val (.int v251), .val (.int v223), .val (.ref b253), .val (.long v269), .second, .unset] [(.int v277), (.int v278)])) t := by
          intro t k
          show Steps p.tables e below (T271.setTop (mkF m 323 #[.val (.int p0), .val (.int p1), .val (.int p2), .val (.int v1), .val (.int v3), .val (.int v9), .val (.ref b12), .val (.ref b59), .val (.int v251), .val (.int v223), .val (.ref b253), .val (.long v269), .second, .unset] [(.int v277), (.int v278)])) _
          refine XS.icmpYes X271'.here hx rfl (pc0 := 323) (pc' := 393) rfl (hb hby at_323) rfl (feq hc323_280).2 (by decide) (by decide) ?_
          show Steps p.tables e below (T271.setTop (mkF m 393 #[.val (.int p0), .val (.int p1), .val (.int p2), .val (.int v1), .val (.int v3), .val (.int v9), .val (.ref b12), .val (.ref b59), .val (.int v251), .val (.int v223), .val (.ref b253), .val (.long v269), .second, .unset] [])) _
          refine XS.iconst X271'.here hx rfl (hb hby at_393) ?_
          exact k
        exact ⟨T271, X271', e271, fun t k => st312 _ k⟩
    have st315 : ∀ t, Steps p.tables e below (T314.setTop (mkF m 398 #[.val (.int p0), .val (.int p1), .val (.int p2), .val (.int v1), .val (.int v3), .val (.int v9), .val (.ref b12), .val (.ref b59), .val (.int v251), .val (.int v223), .val (.ref b253), .val (.long v269), .second, .val (.int v313)] [(.int v313)])) t → Steps p.tables e below (T314.setTop (mkF m 394 #[.val (.int p0), .val (.int p1), .val (.int p2), .val (.int v1), .val (.int v3), .val (.int v9), .val (.ref b12), .val (.ref b59), .val (.int v251), .val (.int v223), .val (.ref b253), .val (.long v269), .second, .unset] [(.int v313)])) t := by
      intro t k
      show Steps p.tables e below (T314.setTop (mkF m 394 #[.val (.int p0), .val (.int p1), .val (.int p2), .val (.int v1), .val (.int v3), .val (.int v9), .val (.ref b12), .val (.ref b59), .val (.int v251), .val (.int v223), .val (.ref b253), .val (.long v269), .second, .unset] [(.int v313)])) _
      refine XS.istore X314.here hx rfl (hb hby at_394) rfl (l' := #[.val (.int p0), .val (.int p1), .val (.int p2), .val (.int v1), .val (.int v3), .val (.int v9), .val (.ref b12), .val (.ref b59), .val (.int v251), .val (.int v223), .val (.ref b253), .val (.long v269), .second, .val (.int v313)]) rfl ?_
      show Steps p.tables e below (T314.setTop (mkF m 396 #[.val (.int p0), .val (.int p1), .val (.int p2), .val (.int v1), .val (.int v3), .val (.int v9), .val (.ref b12), .val (.ref b59), .val (.int v251), .val (.int v223), .val (.ref b253), .val (.long v269), .second, .val (.int v313)] [])) _
      refine XS.iload X314.here hx rfl (hb hby at_396) rfl ?_
      exact k
    refine own_End.go (fun t k => st196 _ (st197 _ (st203 _ (st204 _ (st210 _ (st211 _ (st217 _ (st218 _ (st224 _ (st225 _ (st231 _ (st232 _ (st238 _ (st239 _ (st245 _ (st246 _ (st252 _ (st253 _ (st257 _ (st258 _ (st262 _ (st263 _ (st265 _ (st266 _ (st270 _ (st271 _ (st273 _ (st279 _ (st314 _ (st315 _ k)))))))))))))))))))))))))))))) ?_
    by_cases hc398_316 : v313 = (0 : Int32)
    · have st317 : ∀ t, Steps p.tables e below (T314.setTop (mkF m 420 #[.val (.int p0), .val (.int p1), .val (.int p2), .val (.int v1), .val (.int v3), .val (.int v9), .val (.ref b12), .val (.ref b59), .val (.int v251), .val (.int v223), .val (.ref b253), .val (.long v269), .second, .val (.int v313)] [(.int (0 : Int32))])) t → Steps p.tables e below (T314.setTop (mkF m 398 #[.val (.int p0), .val (.int p1), .val (.int p2), .val (.int v1), .val (.int v3), .val (.int v9), .val (.ref b12), .val (.ref b59), .val (.int v251), .val (.int v223), .val (.ref b253), .val (.long v269), .second, .val (.int v313)] [(.int v313)])) t := by
        intro t k
        show Steps p.tables e below (T314.setTop (mkF m 398 #[.val (.int p0), .val (.int p1), .val (.int p2), .val (.int v1), .val (.int v3), .val (.int v9), .val (.ref b12), .val (.ref b59), .val (.int v251), .val (.int v223), .val (.ref b253), .val (.long v269), .second, .val (.int v313)] [(.int v313)])) _
        refine XS.ifYes X314.here hx rfl (pc0 := 398) (pc' := 419) rfl (hb hby at_398) rfl ((if0 _ _).trans (teq hc398_316).1) (by decide) (by decide) ?_
        show Steps p.tables e below (T314.setTop (mkF m 419 #[.val (.int p0), .val (.int p1), .val (.int p2), .val (.int v1), .val (.int v3), .val (.int v9), .val (.ref b12), .val (.ref b59), .val (.int v251), .val (.int v223), .val (.ref b253), .val (.long v269), .second, .val (.int v313)] [])) _
        refine XS.iconst X314.here hx rfl (hb hby at_419) ?_
        exact k
      refine own_End.go (fun t k => st317 _ k) ?_
      exact own_leafN X314 hx Bd.notSynchronized (t := .boolean) Bd.returns (by simp) (hb hby at_420) ⟨congrArg (fun z => some (Value.int z)) (own_e0_318 hv1 hv3 hv9 hv16 hv21 hv27 hv32 hv38 hv43 hv49 hv54 hv199 hv202 hv206 hv209 hv213 hv216 hv220 hv223 hv227 hv230 hv234 hv237 hv241 hv244 hv248 hv251 hv264 hv269 hv272 hv277 hv278 hv313 hc111_63 hc398_316), N258⟩ (by decide) (by decide)
    · have st319 : ∀ t, Steps p.tables e below (T314.setTop (mkF m 407 #[.val (.int p0), .val (.int p1), .val (.int p2), .val (.int v1), .val (.int v3), .val (.int v9), .val (.ref b12), .val (.ref b59), .val (.int v251), .val (.int v223), .val (.ref b253), .val (.long v269), .second, .val (.int v313)] [(.int (v1 ^^^ v3)), (.long v269)])) t → Steps p.tables e below (T314.setTop (mkF m 398 #[.val (.int p0), .val (.int p1), .val (.int p2), .val (.int v1), .val (.int v3), .val (.int v9), .val (.ref b12), .val (.ref b59), .val (.int v251), .val (.int v223), .val (.ref b253), .val (.long v269), .second, .val (.int v313)] [(.int v313)])) t := by
        intro t k
        show Steps p.tables e below (T314.setTop (mkF m 398 #[.val (.int p0), .val (.int p1), .val (.int p2), .val (.int v1), .val (.int v3), .val (.int v9), .val (.ref b12), .val (.ref b59), .val (.int v251), .val (.int v223), .val (.ref b253), .val (.long v269), .second, .val (.int v313)] [(.int v313)])) _
        refine XS.ifNo X314.here hx rfl (hb hby at_398) rfl ((if0 _ _).trans (feq hc398_316).1) ?_
        show Steps p.tables e below (T314.setTop (mkF m 401 #[.val (.int p0), .val (.int p1), .val (.int p2), .val (.int v1), .val (.int v3), .val (.int v9), .val (.ref b12), .val (.ref b59), .val (.int v251), .val (.int v223), .val (.ref b253), .val (.long v269), .second, .val (.int v313)] [])) _
        refine XS.lload X314.here hx rfl (hb hby at_401) rfl ?_
        show Steps p.tables e below (T314.setTop (mkF m 403 #[.val (.int p0), .val (.int p1), .val (.int p2), .val (.int v1), .val (.int v3), .val (.int v9), .val (.ref b12), .val (.ref b59), .val (.int v251), .val (.int v223), .val (.ref b253), .val (.long v269), .second, .val (.int v313)] [(.long v269)])) _
        refine XS.iloadN X314.here hx rfl (hb hby at_403) rfl ?_
        show Steps p.tables e below (T314.setTop (mkF m 404 #[.val (.int p0), .val (.int p1), .val (.int p2), .val (.int v1), .val (.int v3), .val (.int v9), .val (.ref b12), .val (.ref b59), .val (.int v251), .val (.int v223), .val (.ref b253), .val (.long v269), .second, .val (.int v313)] [(.int v1), (.long v269)])) _
        refine XS.iload X314.here hx rfl (hb hby at_404) rfl ?_
        show Steps p.tables e below (T314.setTop (mkF m 406 #[.val (.int p0), .val (.int p1), .val (.int p2), .val (.int v1), .val (.int v3), .val (.int v9), .val (.ref b12), .val (.ref b59), .val (.int v251), .val (.int v223), .val (.ref b253), .val (.long v269), .second, .val (.int v313)] [(.int v3), (.int v1), (.long v269)])) _
        refine XS.ixor X314.here hx rfl (hb hby at_406) rfl ?_
        exact k
      obtain ⟨_, _, ⟨T320, L320, k320, n320⟩, -, X320, ⟨Lc320, hQ320, l320, y320, z320⟩, st320⟩ := Jvm.LawKit.callS X314 hx (y := (⟨"com/example/evotempo/evotempo/problem/OneMaxFitnessAfterFlipsPinLaw", "pop4", "(I)I"⟩ : MethodName)) hown (mvT hZ (hw _ (List.mem_of_getElem? (i := 20) rfl))) (mvT hZ (hw _ (List.mem_of_getElem? (i := 21) rfl))) (mvT hZ (hw _ (List.mem_of_getElem? (i := 3) rfl))) (mvT hZ (hw _ (List.mem_of_getElem? (i := 22) rfl))) (by decide) (backOf (W := 2) (own_rm5 l Z a0 hw [] (v1 ^^^ v3) T258.heap) hZ (hw _ (List.mem_of_getElem? (i := 22) rfl)) (hw _ (List.mem_of_getElem? (i := 3) rfl)) (by decide) (by decide)) (g := (mkF m 407 #[.val (.int p0), .val (.int p1), .val (.int p2), .val (.int v1), .val (.int v3), .val (.int v9), .val (.ref b12), .val (.ref b59), .val (.int v251), .val (.int v223), .val (.ref b253), .val (.long v269), .second, .val (.int v313)] [(.int (v1 ^^^ v3)), (.long v269)])) rfl (by rw [hml]; rfl) (argsL := [(.int (v1 ^^^ v3))]) (rest := [(.long v269)]) (lenOf own_pd3 rfl) rfl (by show 2 * 0 + _ ≤ _; exact Nat.le_of_eq rfl) (hb hby at_407) (fun _ _ => ⟨rfl, e314, (by decide : 3 + 0 ≤ _), (by decide : 9 + 0 ≤ _)⟩)
      dsimp only [Pt.U, Pt.locs, Pt.cells, Pt.slots] at X320 l320 y320 z320 st320 hQ320
      subst y320 z320
      obtain ⟨rfl, rfl, e320⟩ := hQ320
      have X320' : Stand p l e room_1 s m #[(.int p0), (.int p1), (.int p2)] below meth c T320 L258 3 9 := by rw [show L320 = L258 from by rw [l320]; first | rfl | exact List.append_nil _] at X320; exact X320
      obtain ⟨v321, hv321⟩ : ∃ z : Int32, z = (own_F5 (v1 ^^^ v3)) := ⟨_, rfl⟩
      rw [← hv321] at st320
      have st322 : ∀ t, Steps p.tables e below (T320.setTop (mkF m 412 #[.val (.int p0), .val (.int p1), .val (.int p2), .val (.int v1), .val (.int v3), .val (.int v9), .val (.ref b12), .val (.ref b59), .val (.int v251), .val (.int v223), .val (.ref b253), .val (.long v269), .second, .val (.int v313)] [(.int (lcmpW v269 (v321.toInt64)))])) t → Steps p.tables e below (T320.setTop (mkF m 410 #[.val (.int p0), .val (.int p1), .val (.int p2), .val (.int v1), .val (.int v3), .val (.int v9), .val (.ref b12), .val (.ref b59), .val (.int v251), .val (.int v223), .val (.ref b253), .val (.long v269), .second, .val (.int v313)] [(.int v321), (.long v269)])) t := by
        intro t k
        show Steps p.tables e below (T320.setTop (mkF m 410 #[.val (.int p0), .val (.int p1), .val (.int p2), .val (.int v1), .val (.int v3), .val (.int v9), .val (.ref b12), .val (.ref b59), .val (.int v251), .val (.int v223), .val (.ref b253), .val (.long v269), .second, .val (.int v313)] [(.int v321), (.long v269)])) _
        refine XS.i2l X320'.here hx rfl (hb hby at_410) rfl ?_
        show Steps p.tables e below (T320.setTop (mkF m 411 #[.val (.int p0), .val (.int p1), .val (.int p2), .val (.int v1), .val (.int v3), .val (.int v9), .val (.ref b12), .val (.ref b59), .val (.int v251), .val (.int v223), .val (.ref b253), .val (.long v269), .second, .val (.int v313)] [(.long (v321.toInt64)), (.long v269)])) _
        refine XS.lcmp X320'.here hx rfl (hb hby at_411) rfl ?_
        exact k
      refine own_End.go (fun t k => st319 _ (st320 _ (st322 _ k))) ?_
      by_cases hc412_323 : v269 = (v321.toInt64)
      · have st324 : ∀ t, Steps p.tables e below (T320.setTop (mkF m 420 #[.val (.int p0), .val (.int p1), .val (.int p2), .val (.int v1), .val (.int v3), .val (.int v9), .val (.ref b12), .val (.ref b59), .val (.int v251), .val (.int v223), .val (.ref b253), .val (.long v269), .second, .val (.int v313)] [(.int (1 : Int32))])) t → Steps p.tables e below (T320.setTop (mkF m 412 #[.val (.int p0), .val (.int p1), .val (.int p2), .val (.int v1), .val (.int v3), .val (.int v9), .val (.ref b12), .val (.ref b59), .val (.int v251), .val (.int v223), .val (.ref b253), .val (.long v269), .second, .val (.int v313)] [(.int (lcmpW v269 (v321.toInt64)))])) t := by
          intro t k
          show Steps p.tables e below (T320.setTop (mkF m 412 #[.val (.int p0), .val (.int p1), .val (.int p2), .val (.int v1), .val (.int v3), .val (.int v9), .val (.ref b12), .val (.ref b59), .val (.int v251), .val (.int v223), .val (.ref b253), .val (.long v269), .second, .val (.int v313)] [(.int (lcmpW v269 (v321.toInt64)))])) _
          refine XS.ifNo X320'.here hx rfl (hb hby at_412) rfl ((if0 _ _).trans (teq ((lw_eq v269 (v321.toInt64)).mpr hc412_323)).2) ?_
          show Steps p.tables e below (T320.setTop (mkF m 415 #[.val (.int p0), .val (.int p1), .val (.int p2), .val (.int v1), .val (.int v3), .val (.int v9), .val (.ref b12), .val (.ref b59), .val (.int v251), .val (.int v223), .val (.ref b253), .val (.long v269), .second, .val (.int v313)] [])) _
          refine XS.iconst X320'.here hx rfl (hb hby at_415) ?_
          show Steps p.tables e below (T320.setTop (mkF m 416 #[.val (.int p0), .val (.int p1), .val (.int p2), .val (.int v1), .val (.int v3), .val (.int v9), .val (.ref b12), .val (.ref b59), .val (.int v251), .val (.int v223), .val (.ref b253), .val (.long v269), .second, .val (.int v313)] [(.int (1 : Int32))])) _
          refine XS.goto X320'.here hx rfl (pc0 := 416) (pc' := 420) rfl (hb hby at_416) (by decide) (by decide) ?_
          exact k
        refine own_End.go (fun t k => st324 _ k) ?_
        exact own_leafN X320' hx Bd.notSynchronized (t := .boolean) Bd.returns (by simp) (hb hby at_420) ⟨congrArg (fun z => some (Value.int z)) (own_e0_325 hv1 hv3 hv9 hv16 hv21 hv27 hv32 hv38 hv43 hv49 hv54 hv199 hv202 hv206 hv209 hv213 hv216 hv220 hv223 hv227 hv230 hv234 hv237 hv241 hv244 hv248 hv251 hv264 hv269 hv272 hv277 hv278 hv313 hv321 hc111_63 hc398_316 hc412_323), N258⟩ (by decide) (by decide)
      · have st326 : ∀ t, Steps p.tables e below (T320.setTop (mkF m 420 #[.val (.int p0), .val (.int p1), .val (.int p2), .val (.int v1), .val (.int v3), .val (.int v9), .val (.ref b12), .val (.ref b59), .val (.int v251), .val (.int v223), .val (.ref b253), .val (.long v269), .second, .val (.int v313)] [(.int (0 : Int32))])) t → Steps p.tables e below (T320.setTop (mkF m 412 #[.val (.int p0), .val (.int p1), .val (.int p2), .val (.int v1), .val (.int v3), .val (.int v9), .val (.ref b12), .val (.ref b59), .val (.int v251), .val (.int v223), .val (.ref b253), .val (.long v269), .second, .val (.int v313)] [(.int (lcmpW v269 (v321.toInt64)))])) t := by
          intro t k
          show Steps p.tables e below (T320.setTop (mkF m 412 #[.val (.int p0), .val (.int p1), .val (.int p2), .val (.int v1), .val (.int v3), .val (.int v9), .val (.ref b12), .val (.ref b59), .val (.int v251), .val (.int v223), .val (.ref b253), .val (.long v269), .second, .val (.int v313)] [(.int (lcmpW v269 (v321.toInt64)))])) _
          refine XS.ifYes X320'.here hx rfl (pc0 := 412) (pc' := 419) rfl (hb hby at_412) rfl ((if0 _ _).trans (feq (mt (lw_eq v269 (v321.toInt64)).mp hc412_323)).2) (by decide) (by decide) ?_
          show Steps p.tables e below (T320.setTop (mkF m 419 #[.val (.int p0), .val (.int p1), .val (.int p2), .val (.int v1), .val (.int v3), .val (.int v9), .val (.ref b12), .val (.ref b59), .val (.int v251), .val (.int v223), .val (.ref b253), .val (.long v269), .second, .val (.int v313)] [])) _
          refine XS.iconst X320'.here hx rfl (hb hby at_419) ?_
          exact k
        refine own_End.go (fun t k => st326 _ k) ?_
        exact own_leafN X320' hx Bd.notSynchronized (t := .boolean) Bd.returns (by simp) (hb hby at_420) ⟨congrArg (fun z => some (Value.int z)) (own_e0_327 hv1 hv3 hv9 hv16 hv21 hv27 hv32 hv38 hv43 hv49 hv54 hv199 hv202 hv206 hv209 hv213 hv216 hv220 hv223 hv227 hv230 hv234 hv237 hv241 hv244 hv248 hv251 hv264 hv269 hv272 hv277 hv278 hv313 hv321 hc111_63 hc398_316 hc412_323), N258⟩ (by decide) (by decide)
theorem own_bit01 (x : Int32) : (x &&& (1 : Int32)) = 0 ∨ (x &&& (1 : Int32)) = 1 := by
  have h : (x &&& (1 : Int32)).toInt = x.toInt % (2 ^ 1 : Nat) := c_mask x 1 1 (by decide) (by decide)
  have z0 : (0 : Int32).toInt = 0 := by decide
  have z1 : (1 : Int32).toInt = 1 := by decide
  rcases (by omega : (x &&& (1 : Int32)).toInt = 0 ∨ (x &&& (1 : Int32)).toInt = 1) with q | q
  · exact Or.inl (Int32.toInt_inj.mp (by rw [q, z0]))
  · exact Or.inr (Int32.toInt_inj.mp (by rw [q, z1]))
set_option maxRecDepth 65536 in
theorem own_fin0 : ∀ (n m : Fin 16), own_F0 (Int32.ofNat n.val) (Int32.ofNat m.val) 0 = 1 := by decide +kernel
set_option maxRecDepth 65536 in
theorem own_fin1 : ∀ (n m : Fin 16), own_F0 (Int32.ofNat n.val) (Int32.ofNat m.val) 1 = 1 := by decide +kernel
theorem own_idem (x : Int32) : (x &&& 15) &&& 15 = x &&& 15 := by rw [Int32.and_assoc]; rfl
theorem own_idem1 (x : Int32) : (x &&& 1) &&& 1 = x &&& 1 := by rw [Int32.and_assoc]; rfl
theorem own_red (p0 p1 p2 : Int32) : own_F0 p0 p1 p2 = own_F0 (p0 &&& 15) (p1 &&& 15) (p2 &&& 1) := by
  unfold own_F0
  simp only [own_idem, own_idem1]
theorem own_plain (p0 p1 p2 : Int32) : own_F0 p0 p1 p2 = 1 := by
  rw [own_red]
  have h0 := own_m15 (v := p0 &&& 15) rfl
  have h1 := own_m15 (v := p1 &&& 15) rfl
  generalize (p0 &&& 15) = a at *
  generalize (p1 &&& 15) = b at *
  rcases own_bit01 p2 with q | q <;> rw [q]
  · revert a
    intro a ha
    apply own_all16 a ha
    intro n
    revert b
    intro b hb
    apply own_all16 b hb
    exact own_fin0 n
  · revert a
    intro a ha
    apply own_all16 a ha
    intro n
    revert b
    intro b hb
    apply own_all16 b hb
    exact own_fin1 n

set_option maxRecDepth 65536 in
set_option maxHeartbeats 40000000 in
theorem comes_1 {Post : Tables → Env → Array Value → State → Outcome → State → Prop} (hpost : ∀ tb e args s v u, (limb_1_1.after args s (.returned v) u = true ∧ limb_1_2.after args s (.returned v) u = true ∧ True) → FrameEnd s (.returned v) u (Jvm.fieldLocs frame_1_writes args s ++ Jvm.arrayLocs frame_1_arrays args s ++ Jvm.staticLocs frame_1_statics s) 16 128 → Post tb e args s (.returned v) u) :
    ArmFor flags0 classFile x code maxLocals ret World_1 tables_1 room_1 Calls_1 rest_1 Pre_1 Post := by
  intro l hfl _ _ p e ha hc hk s m args below hf hA hF happ hP
  obtain ⟨hcalls, hrest, hpre⟩ := hP
  obtain ⟨-, -, -, hnamed, -, -, -, hat⟩ := (Spec.applies_iff hf).mp happ
  obtain ⟨hg, hn⟩ := and_e (Cond.before_iff.mp (show (Jvm.Cond.and given_1 narrow_1).before args s = true from hpre))
  obtain ⟨g1, g2⟩ := and_e hg
  obtain ⟨ga0, gb0⟩ := and_e g2
  obtain ⟨ga1, gb1⟩ := and_e gb0
  obtain ⟨w0, w1, w2, rfl⟩ : ∃ w0 w1 w2 : Value, args = #[w0, w1, w2] := by
    have hs : args.size = 3 := by simpa [Cond.value, given_1] using g1
    obtain ⟨L⟩ := args
    match L, hs with
    | [w0, w1, w2], _ => exact ⟨w0, w1, w2, rfl⟩
  have hw := fun d (hd : d ∈ tables_1) => atoms_spec (ws := Jvm.Cond.code x code maxLocals ret :: tables_1) hat d (List.mem_cons_of_mem _ hd)
  obtain ⟨i0, ei0⟩ := is_v ga0
  obtain rfl : w0 = (.int i0) := Option.some.inj ei0
  obtain ⟨i1, ei1⟩ := is_v ga1
  obtain rfl : w1 = (.int i1) := Option.some.inj ei1
  obtain ⟨i2, ei2⟩ := is_v gb1
  obtain rfl : w2 = (.int i2) := Option.some.inj ei2
  obtain ⟨n, o, h1, h2, h3, _, L, rfl, ⟨hv, N⟩, hq⟩ := own_rm0 l s _ hw tables_1 i0 i1 i2 s.heap s.heap.size (Nat.le_refl _) p e ha hc hk s m _ below hf ((Spec.applies_iff_loose hf).mp happ).1 ⟨rfl, State.Warmed39.refl s, rfl⟩ trivial
  rw [own_plain i0 i1 i2] at hv
  subst hv
  refine ⟨n, _, h1, h2, h3, hpost _ _ _ _ _ _ ⟨Cond.after_iff.mpr rfl, Cond.after_iff.mpr (eq_i res_at (Term.int_eval (1)) rfl), trivial⟩ ⟨hq.1, hq.2.1, (hq.2.2.sift fun y hy => Or.inr (N y hy)).mono (by decide) (by decide)⟩⟩
theorem main_1_1 : Claimed_1_1 := comes_1 fun _ _ _ _ _ _ h hF => ⟨h.1, hF⟩
theorem main_1_2 : Claimed_1_2 := comes_1 fun _ _ _ _ _ _ h hF => ⟨h.2.1, hF⟩
end Jvm.Pilot.@@N@@
namespace Jvm.Pilot.@@N@@
open Jvm Jvm.ClassFile Sem Op Lib Jvm.Free Jvm.Stand Jvm.Pilot.@@N@@.Jvm.D
/-! MADE BY PROGRAM (witnessworld.py) out of the Statement's table words and the real class files: 12 classes; the members and pool entries that the words name. The judged class is class 1, her method 4. -/
namespace start1
open Jvm.ClassFile
def u (s : String) : CpInfo := .utf8 (stringToUtf16 s)
/-- a pool by its gaps: so many unusable entries, then the entry; so many at the end -/
def gap : Nat → List CpInfo → List CpInfo
  | 0, r => r
  | n + 1, r => .unusable :: gap n r
def poolList (es : List (Nat × CpInfo)) (last : Nat) : List CpInfo := es.foldr (fun e r => gap e.1 (e.2 :: r)) (gap last [])
def pool (es : List (Nat × CpInfo)) (last : Nat) : Array CpInfo := ⟨poolList es last⟩
def fileOf (pool : Array CpInfo) (this : Nat) (attrs : Array Attribute := #[]) (ms : Array MethodInfo := #[]) (fl : Nat := 33) (sup : Nat := 0) (ifs : Array Nat := #[]) (fds : Array FieldInfo := #[]) : ClassFile where
  minorVersion := 0
  majorVersion := 65
  constantPool := pool
  accessFlags := fl
  thisClass := this
  superClass := sup
  interfaces := ifs
  fields := fds
  methods := ms
  attributes := attrs
def plain (name : String) (sup : Option ClassId) : Class where
  name := name
  kind := .ordinary
  loader := none
  accessFlags := 33
  super := sup
  interfaces := #[]
  cf := none
  fields := #[]
  methods := #[]
  instanceTypes := #[]
  staticTypes := #[]
  resolved := #[]
  callSites := []
  init := .initialized
  statics := none
  mirror := none

def pool0 : Array CpInfo := pool [(5, u "<init>"), (0, u "()V"), (1, .class_ 10), (1, u "java/lang/Object")] 113

def k0c0 : Code := { maxStack := 0, maxLocals := 1, code := object_method_1_code, exceptionTable := #[], attributes := #[] }
def k0m0 : Method := { name := "<init>", desc := "()V", sig := { parameters := [], returnType := none }, accessFlags := 1, code := some k0c0 }
/-- java/lang/Object -/
def k0 : Class := { plain "java/lang/Object" none with
  accessFlags := 33
  interfaces := #[]
  cf := some (fileOf pool0 8 #[] #[{ accessFlags := 1, nameIndex := 5, descriptorIndex := 6, attributes := #[] }] 33 0 #[] #[])
  fields := #[]
  methods := #[k0m0]
  instanceTypes := #[]
  staticTypes := #[]
  resolved := Array.replicate 124 none
  statics := none }

def pool1 : Array CpInfo := pool [(2, .class_ 4), (1, u "java/lang/Object"), (0, u "<init>"), (0, u "()V"), (0, .methodref 8 9), (0, .class_ 10), (0, .nameAndType 11 12), (0, u "com/example/evotempo/evotempo/problem/OneMaxFitnessAfterFlipsPinLaw"), (0, u "bit"), (0, u "(II)I"), (0, .methodref 8 14), (0, .nameAndType 15 16), (0, u "put"), (0, u "([IIIII)I"), (0, .class_ 18), (0, u "com/example/evotempo/evotempo/problem/OneMax"), (0, .methodref 17 20), (0, .nameAndType 5 21), (0, u "(I)V"), (0, .methodref 8 23), (0, .nameAndType 24 25), (0, u "pop4"), (0, u "(I)I"), (0, .methodref 17 27), (0, .nameAndType 28 29), (0, u "fitnessAfterFlips"), (0, u "([ZJ[II)J"), (3, u "law"), (0, u "(III)Z")] 6

def k1m0 : Method := { name := "<init>", desc := "()V", sig := { parameters := [], returnType := none }, accessFlags := 1, code := none }
def k1c1 : Code := { maxStack := 2, maxLocals := 2, code := method_2_code, exceptionTable := #[], attributes := #[] }
def k1m1 : Method := { name := "bit", desc := "(II)I", sig := { parameters := [.int, .int], returnType := some .int }, accessFlags := 10, code := some k1c1 }
def k1c2 : Code := { maxStack := 3, maxLocals := 1, code := method_3_code, exceptionTable := #[], attributes := #[] }
def k1m2 : Method := { name := "pop4", desc := "(I)I", sig := { parameters := [.int], returnType := some .int }, accessFlags := 10, code := some k1c2 }
def k1c3 : Code := { maxStack := 3, maxLocals := 5, code := method_4_code, exceptionTable := #[], attributes := #[] }
def k1m3 : Method := { name := "put", desc := "([IIIII)I", sig := { parameters := [(.array .int), .int, .int, .int, .int], returnType := some .int }, accessFlags := 10, code := some k1c3 }
def k1c4 : Code := { maxStack := 6, maxLocals := 14, code := code, exceptionTable := #[], attributes := #[] }
def k1m4 : Method := { name := "law", desc := "(III)Z", sig := { parameters := [.int, .int, .int], returnType := some .boolean }, accessFlags := 9, code := some k1c4 }
/-- com/example/evotempo/evotempo/problem/OneMaxFitnessAfterFlipsPinLaw -/
def k1 : Class := { plain "com/example/evotempo/evotempo/problem/OneMaxFitnessAfterFlipsPinLaw" (some 0) with
  accessFlags := 49
  interfaces := #[]
  cf := some (fileOf pool1 8 #[] #[{ accessFlags := 1, nameIndex := 5, descriptorIndex := 6, attributes := #[] }, { accessFlags := 10, nameIndex := 11, descriptorIndex := 12, attributes := #[] }, { accessFlags := 10, nameIndex := 24, descriptorIndex := 25, attributes := #[] }, { accessFlags := 10, nameIndex := 15, descriptorIndex := 16, attributes := #[] }, { accessFlags := 9, nameIndex := 33, descriptorIndex := 34, attributes := #[] }] 49 2 #[] #[])
  fields := #[]
  methods := #[k1m0, k1m1, k1m2, k1m3, k1m4]
  instanceTypes := #[]
  staticTypes := #[]
  resolved := Array.replicate 41 none
  statics := none }

def pool2 : Array CpInfo := pool [(1, .class_ 2), (0, u "com/example/evotempo/evotempo/problem/Problem"), (0, .class_ 4), (0, u "java/lang/Object")] 10

/-- com/example/evotempo/evotempo/problem/Problem -/
def k2 : Class := { plain "com/example/evotempo/evotempo/problem/Problem" (some 0) with
  accessFlags := 1537
  interfaces := #[]
  cf := some (fileOf pool2 1 #[] #[] 1537 3 #[] #[])
  fields := #[]
  methods := #[]
  instanceTypes := #[]
  staticTypes := #[]
  resolved := Array.replicate 15 none
  statics := none }

def pool3 : Array CpInfo := pool [(1, .methodref 2 3), (0, .class_ 4), (0, .nameAndType 5 6), (0, u "java/lang/Object"), (0, u "<init>"), (0, u "()V"), (9, .fieldref 17 18), (0, .class_ 19), (0, .nameAndType 20 21), (0, u "com/example/evotempo/evotempo/problem/OneMax"), (0, u "n"), (0, u "I"), (0, .long 18446744073709551615), (1, .class_ 25), (0, u "com/example/evotempo/evotempo/problem/Problem"), (0, u "(I)V"), (8, u "fitnessAfterFlips"), (0, u "([ZJ[II)J")] 21

def k3c0 : Code := { maxStack := 3, maxLocals := 2, code := prog_75_method_1_code, exceptionTable := #[], attributes := #[] }
def k3m0 : Method := { name := "<init>", desc := "(I)V", sig := { parameters := [.int], returnType := none }, accessFlags := 1, code := some k3c0 }
def k3c1 : Code := { maxStack := 5, maxLocals := 9, code := prog_75_method_4_code, exceptionTable := #[], attributes := #[] }
def k3m1 : Method := { name := "fitnessAfterFlips", desc := "([ZJ[II)J", sig := { parameters := [(.array .boolean), .long, (.array .int), .int], returnType := some .long }, accessFlags := 1, code := some k3c1 }
/-- com/example/evotempo/evotempo/problem/OneMax -/
def k3 : Class := { plain "com/example/evotempo/evotempo/problem/OneMax" (some 0) with
  accessFlags := 49
  interfaces := #[2]
  cf := some (fileOf pool3 17 #[] #[{ accessFlags := 1, nameIndex := 5, descriptorIndex := 26, attributes := #[] }, { accessFlags := 1, nameIndex := 35, descriptorIndex := 36, attributes := #[] }] 49 2 #[24] #[{ accessFlags := 18, nameIndex := 20, descriptorIndex := 21, attributes := #[] }])
  fields := #[{ name := "n", type := .int, accessFlags := 18, slot := 0, constantValue := 0 }]
  methods := #[k3m0, k3m1]
  instanceTypes := #[.int]
  staticTypes := #[]
  resolved := Array.replicate 58 none
  statics := none }

def pool4 : Array CpInfo := pool [(1, u "java/lang/Cloneable"), (0, .class_ 1), (0, u "java/lang/Object"), (0, .class_ 3)] 3

/-- java/lang/Cloneable -/
def k4 : Class := { plain "java/lang/Cloneable" (some 0) with
  accessFlags := 1537
  interfaces := #[]
  cf := some (fileOf pool4 2 #[] #[] 1537 4 #[] #[])
  fields := #[]
  methods := #[]
  instanceTypes := #[]
  staticTypes := #[]
  resolved := Array.replicate 8 none
  statics := none }

def pool5 : Array CpInfo := pool [(1, u "java/io/Serializable"), (0, .class_ 1), (0, u "java/lang/Object"), (0, .class_ 3)] 3

/-- java/io/Serializable -/
def k5 : Class := { plain "java/io/Serializable" (some 0) with
  accessFlags := 1537
  interfaces := #[]
  cf := some (fileOf pool5 2 #[] #[] 1537 4 #[] #[])
  fields := #[]
  methods := #[]
  instanceTypes := #[]
  staticTypes := #[]
  resolved := Array.replicate 8 none
  statics := none }

/-- the primitive boolean -/
def k6 : Class := { plain "boolean" none with kind := .primitive 'Z', accessFlags := 0x411 }
/-- [Z -/
def k7 : Class := { plain "[Z" (some 0) with kind := .array 6 .boolean, interfaces := #[4, 5], accessFlags := 1041 }

/-- the primitive byte -/
def k8 : Class := { plain "byte" none with kind := .primitive 'B', accessFlags := 0x411 }
/-- [B -/
def k9 : Class := { plain "[B" (some 0) with kind := .array 8 .byte, interfaces := #[4, 5], accessFlags := 1041 }

/-- the primitive int -/
def k10 : Class := { plain "int" none with kind := .primitive 'I', accessFlags := 0x411 }
/-- [I -/
def k11 : Class := { plain "[I" (some 0) with kind := .array 10 .int, interfaces := #[4, 5], accessFlags := 1041 }

def heap : Heap := #[]
def classes : Array Class := #[k0, k1, k2, k3, k4, k5, k6, k7, k8, k9, k10, k11]
def interned : List (Array UInt16 × Addr) := []
def slotsUsed : Nat := 0
def theMethod : MethodId := ⟨1, 4⟩
def args0 : Array Value := #[.int 5, .int 5, .int 5]
def aboutOver (below : List Frame) : State where
  vm := { classes := classes, interned := interned.toArray }
  heap := heap
  slotsUsed := slotsUsed
  threads := #[{ frames := .invoking theMethod args0 :: below }]
def below0 : List Frame := [.native { method := ⟨0, 0⟩, args := #[] }]
def about1 : State := aboutOver below0
def p0 : Program := .bare "" "" ""
def e0 : Env := launch0.env 0 0 0
theorem w_frames : about1.frames = Frame.invoking theMethod args0 :: below0 := rfl
set_option maxRecDepth 65536 in
theorem w_args : argsFit about1.vm theMethod args0 = true := by decide +kernel
set_option maxRecDepth 65536 in
theorem w_heap : heapFits about1 = true := by decide +kernel
set_option maxRecDepth 65536 in
theorem w_runnable : about1.curStatus? = some .runnable := by decide +kernel
set_option maxRecDepth 65536 in
theorem w_alone : about1.alone = true := by decide +kernel
set_option maxRecDepth 65536 in
theorem w_named : about1.methodNamed? x = some theMethod := by decide +kernel
set_option maxRecDepth 65536 in
theorem w_hears : about1.hears theMethod below0 = true := by decide +kernel
set_option maxRecDepth 65536 in
theorem w_ripe : about1.ripe theMethod args0 below0 = true := by decide +kernel
theorem w_running : about1.status = .running := rfl
set_option maxRecDepth 65536 in
theorem w_room : about1.hasRoom e0.platform room_1 = true :=
  launch0.hasRoom_least _ room_1 (by decide +kernel) (by decide +kernel) (by decide +kernel) (by decide +kernel) (by decide +kernel) (by decide +kernel)
theorem allAtoms_all (ts : List Jvm.Cond) (a : Array Jvm.Value) (st : Jvm.State) : (allAtoms ts).before a st = ts.all (fun c => c.before a st) := by
  induction ts with
  | nil => rfl
  | cons c t ih =>
    show (Jvm.Cond.and c (allAtoms t)).before a st = _
    rw [Jvm.Cond.before_and, ih, List.all_cons]
def words1 : List Jvm.Cond := Jvm.Cond.code x code maxLocals ret :: tables_1
/-- a 'code' word, met by the world's own term for the bytes: nothing is compared byte by byte -/
theorem code_word {y : MethodName} {bytes : ByteArray} {mx : Nat} {rt : Option FieldType} {a : Array Value} {s : State} {m : MethodId} {meth : Method} {c : Code} (h1 : s.methodNamed? y = some m) (h2 : s.vm.method? m = some meth) (h3 : meth.code = some c) (h4 : c.code = bytes)
    (h5 : (c.maxLocals == mx && c.exceptionTable.isEmpty && decide (c.maxStack ≤ mostOperands) && decide (meth.sig.returnType = rt) && !meth.locks && decide (parseMethodDescriptor y.desc = some meth.sig)) = true) : (Jvm.Cond.code y bytes mx rt).before a s = true := by
  simp only [Bool.and_eq_true, beq_iff_eq, Bool.not_eq_true', decide_eq_true_eq] at h5
  obtain ⟨⟨⟨⟨⟨g1, g2⟩, g3⟩, g4⟩, g5⟩, g6⟩ := h5
  simp [Cond.before, Cond.holds, Cond.value, h1, h2, h3, h4, g1, g2, g3, g4, g5, g6]
def isCode : Jvm.Cond → Bool
  | .code _ _ _ _ => true
  | _ => false
theorem all_split {L : List Jvm.Cond} {P : Jvm.Cond → Bool} (h1 : L.all (fun c => isCode c || P c) = true) (h2 : ∀ c ∈ L.filter isCode, P c = true) : L.all P = true := by
  refine List.all_eq_true.mpr fun c hc => ?_
  have h := List.all_eq_true.mp h1 c hc
  rcases Bool.eq_false_or_eq_true (isCode c) with hi | hi
  · exact h2 c (List.mem_filter.mpr ⟨hc, hi⟩)
  · simpa [hi] using h
set_option maxRecDepth 65536 in
theorem w_c0 : (Jvm.Cond.code x code maxLocals ret).before args0 about1 = true := code_word (m := ⟨1, 4⟩) (meth := k1m4) (c := k1c4) (by decide +kernel) rfl rfl rfl (by decide +kernel)
set_option maxRecDepth 65536 in
theorem w_c1 : (Jvm.Cond.code ({ cls := "com/example/evotempo/evotempo/problem/OneMaxFitnessAfterFlipsPinLaw", name := "bit", desc := "(II)I" } : Jvm.MethodName) method_2_code (2 : Nat) (Option.some Jvm.ClassFile.FieldType.int)).before args0 about1 = true := code_word (m := ⟨1, 1⟩) (meth := k1m1) (c := k1c1) (by decide +kernel) rfl rfl rfl (by decide +kernel)
set_option maxRecDepth 65536 in
theorem w_c2 : (Jvm.Cond.code ({ cls := "com/example/evotempo/evotempo/problem/OneMaxFitnessAfterFlipsPinLaw", name := "put", desc := "([IIIII)I" } : Jvm.MethodName) method_4_code (5 : Nat) (Option.some Jvm.ClassFile.FieldType.int)).before args0 about1 = true := code_word (m := ⟨1, 3⟩) (meth := k1m3) (c := k1c3) (by decide +kernel) rfl rfl rfl (by decide +kernel)
set_option maxRecDepth 65536 in
theorem w_c3 : (Jvm.Cond.code ({ cls := "com/example/evotempo/evotempo/problem/OneMax", name := "<init>", desc := "(I)V" } : Jvm.MethodName) prog_75_method_1_code (2 : Nat) (Option.none : Option Jvm.ClassFile.FieldType)).before args0 about1 = true := code_word (m := ⟨3, 0⟩) (meth := k3m0) (c := k3c0) (by decide +kernel) rfl rfl rfl (by decide +kernel)
set_option maxRecDepth 65536 in
theorem w_c4 : (Jvm.Cond.code ({ cls := "java/lang/Object", name := "<init>", desc := "()V" } : Jvm.MethodName) object_method_1_code (1 : Nat) (Option.none : Option Jvm.ClassFile.FieldType)).before args0 about1 = true := code_word (m := ⟨0, 0⟩) (meth := k0m0) (c := k0c0) (by decide +kernel) rfl rfl rfl (by decide +kernel)
set_option maxRecDepth 65536 in
theorem w_c5 : (Jvm.Cond.code ({ cls := "com/example/evotempo/evotempo/problem/OneMaxFitnessAfterFlipsPinLaw", name := "pop4", desc := "(I)I" } : Jvm.MethodName) method_3_code (1 : Nat) (Option.some Jvm.ClassFile.FieldType.int)).before args0 about1 = true := code_word (m := ⟨1, 2⟩) (meth := k1m2) (c := k1c2) (by decide +kernel) rfl rfl rfl (by decide +kernel)
set_option maxRecDepth 65536 in
theorem w_c6 : (Jvm.Cond.code ({ cls := "com/example/evotempo/evotempo/problem/OneMax", name := "fitnessAfterFlips", desc := "([ZJ[II)J" } : Jvm.MethodName) prog_75_method_4_code (9 : Nat) (Option.some Jvm.ClassFile.FieldType.long)).before args0 about1 = true := code_word (m := ⟨3, 1⟩) (meth := k3m1) (c := k3c1) (by decide +kernel) rfl rfl rfl (by decide +kernel)
def codes1 : List Jvm.Cond := [Jvm.Cond.code x code maxLocals ret, Jvm.Cond.code ({ cls := "com/example/evotempo/evotempo/problem/OneMaxFitnessAfterFlipsPinLaw", name := "bit", desc := "(II)I" } : Jvm.MethodName) method_2_code (2 : Nat) (Option.some Jvm.ClassFile.FieldType.int), Jvm.Cond.code ({ cls := "com/example/evotempo/evotempo/problem/OneMaxFitnessAfterFlipsPinLaw", name := "put", desc := "([IIIII)I" } : Jvm.MethodName) method_4_code (5 : Nat) (Option.some Jvm.ClassFile.FieldType.int), Jvm.Cond.code ({ cls := "com/example/evotempo/evotempo/problem/OneMax", name := "<init>", desc := "(I)V" } : Jvm.MethodName) prog_75_method_1_code (2 : Nat) (Option.none : Option Jvm.ClassFile.FieldType), Jvm.Cond.code ({ cls := "java/lang/Object", name := "<init>", desc := "()V" } : Jvm.MethodName) object_method_1_code (1 : Nat) (Option.none : Option Jvm.ClassFile.FieldType), Jvm.Cond.code ({ cls := "com/example/evotempo/evotempo/problem/OneMaxFitnessAfterFlipsPinLaw", name := "pop4", desc := "(I)I" } : Jvm.MethodName) method_3_code (1 : Nat) (Option.some Jvm.ClassFile.FieldType.int), Jvm.Cond.code ({ cls := "com/example/evotempo/evotempo/problem/OneMax", name := "fitnessAfterFlips", desc := "([ZJ[II)J" } : Jvm.MethodName) prog_75_method_4_code (9 : Nat) (Option.some Jvm.ClassFile.FieldType.long)]
set_option maxRecDepth 65536 in
theorem codes_eq : words1.filter isCode = codes1 := rfl
theorem w_codes : ∀ c ∈ words1.filter isCode, c.before args0 about1 = true := by
  rw [codes_eq]
  intro c hc
  simp only [codes1, List.mem_cons, List.not_mem_nil, or_false] at hc
  rcases hc with rfl | rfl | rfl | rfl | rfl | rfl | rfl
  · exact w_c0
  · exact w_c1
  · exact w_c2
  · exact w_c3
  · exact w_c4
  · exact w_c5
  · exact w_c6
set_option maxRecDepth 65536 in
theorem w_t1 : (words1.take 24).all (fun c => isCode c || c.before args0 about1) = true := by decide +kernel
set_option maxRecDepth 65536 in
theorem w_t2 : (words1.drop 24).all (fun c => isCode c || c.before args0 about1) = true := by decide +kernel
theorem w_tables : (allAtoms (Jvm.Cond.code x code maxLocals ret :: tables_1)).before args0 about1 = true := by
  rw [allAtoms_all]
  show words1.all (fun c => c.before args0 about1) = true
  refine all_split ?_ w_codes
  rw [← List.take_append_drop 24 words1, List.all_append, w_t1, w_t2]
  rfl
set_option maxRecDepth 65536 in
theorem w_case : (Jvm.Cond.and given_1 narrow_1).before args0 about1 = true := by decide +kernel
theorem w_applies : (headSpec (Jvm.Cond.code x code maxLocals ret :: tables_1) room_1).applies x e0.platform about1 = true :=
  (Spec.applies_iff w_frames).mpr ⟨w_running, w_runnable, w_alone, w_named, w_hears, w_ripe, w_room, w_tables⟩
theorem atStart : AtStart classFile x code maxLocals ret World_1 tables_1 room_1 Calls_1 rest_1 Pre_1 launch0 p0 e0 about1 theMethod args0 below0 :=
  ⟨lists_1, trivial, launch0.admits_env _ _ _, launch0.least_env, fairChoices_fair.cas, fairChoices_fair.clock, w_frames, w_args, w_heap, w_applies, trivial, trivial, w_case⟩
end start1
theorem witness_1 : WitnessClaimed_1 := ⟨start1.p0, start1.e0, start1.about1, start1.theMethod, start1.args0, start1.below0, start1.atStart⟩
end Jvm.Pilot.@@N@@
