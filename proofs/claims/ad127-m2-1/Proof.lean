import JvmDerived
import JvmDerived.Pilot.@@N@@Statement
import JvmDerived.Pilot.@@N@@Code
set_option linter.unusedVariables false
set_option linter.unusedSimpArgs false
namespace Jvm.RoadKit
open Sem ClassFile Op Lib Jvm.Stand Jvm.Free Jvm.LawKit
section New
variable {p : Program} {l : Launch} {e : Env} {R : Room} {s : State} {m : MethodId} {args : Array Value} {below : List Frame} {meth : Method} {c : Code} {T : State} {locs : List Loc} {cells slots : Nat}
theorem retI (X : Stand p l e R s m args below meth c T locs cells slots) (hx : p.tables.exec = Jvm.exec) {pc : Nat} {Ls : Array Slot} {z : Int32} {rest : List Value} (hret : meth.sig.returnType = some .int) (hd : decode c.code pc = .ok (.ireturn, 1)) {fs : List Frame}
    (hl : ∀ (f : JFrame) (acts : List Action), f.method = m → f.locked = none → f.entered = [] → (doReturn e (T.setTop f) acts (some (.int z))).1 = T.setFrames fs) : Steps p.tables e below (T.setTop (mkF m pc Ls (.int z :: rest))) (T.setFrames fs) := by
  have hm' : T.vm.method? m = some meth := X.method'
  have hn : narrow .int (.int z) = .int z := rfl
  show Steps p.tables e below (T.setTop { method := m, pc := pc, locals := Ls, stack := _ :: rest, locked := none }) _
  jvm_step X.here [X.here.top, hx, hd, hm', hret, hn]
  first | (intro acts; rw [hl _ acts rfl rfl rfl]) | rw [hl _ _ rfl rfl rfl]
  exact Steps.refl _
theorem retJ (X : Stand p l e R s m args below meth c T locs cells slots) (hx : p.tables.exec = Jvm.exec) {pc : Nat} {Ls : Array Slot} {z : Int64} {rest : List Value} (hret : meth.sig.returnType = some .long) (hd : decode c.code pc = .ok (.lreturn, 1)) {fs : List Frame}
    (hl : ∀ (f : JFrame) (acts : List Action), f.method = m → f.locked = none → f.entered = [] → (doReturn e (T.setTop f) acts (some (.long z))).1 = T.setFrames fs) : Steps p.tables e below (T.setTop (mkF m pc Ls (.long z :: rest))) (T.setFrames fs) := by
  have hm' : T.vm.method? m = some meth := X.method'
  show Steps p.tables e below (T.setTop { method := m, pc := pc, locals := Ls, stack := _ :: rest, locked := none }) _
  jvm_step X.here [X.here.top, hx, hd, hm', hret]
  first | (intro acts; rw [hl _ acts rfl rfl rfl]) | rw [hl _ _ rfl rfl rfl]
  exact Steps.refl _
theorem retR (X : Stand p l e R s m args below meth c T locs cells slots) (hx : p.tables.exec = Jvm.exec) {pc : Nat} {Ls : Array Slot} {z : Addr} {t : FieldType} {rest : List Value} (hret : meth.sig.returnType = some t) (ht : t.isReference = true) (hd : decode c.code pc = .ok (.areturn, 1)) {fs : List Frame}
    (hl : ∀ (f : JFrame) (acts : List Action), f.method = m → f.locked = none → f.entered = [] → (doReturn e (T.setTop f) acts (some (.ref z))).1 = T.setFrames fs) : Steps p.tables e below (T.setTop (mkF m pc Ls (.ref z :: rest))) (T.setFrames fs) := by
  have hm' : T.vm.method? m = some meth := X.method'
  show Steps p.tables e below (T.setTop { method := m, pc := pc, locals := Ls, stack := _ :: rest, locked := none }) _
  jvm_step X.here [X.here.top, hx, hd, hm', hret, Value.isRef, ht]
  first | (intro acts; rw [hl _ acts rfl rfl rfl]) | rw [hl _ _ rfl rfl rfl]
  exact Steps.refl _
end New
end Jvm.RoadKit
namespace Jvm.Pilot.@@N@@
open Jvm Jvm.ClassFile Sem Op Lib Jvm.Free Jvm.Stand Jvm.LawKit Jvm.RoadKit Bundle Jvm.Pilot.@@N@@.Jvm.D
/-- from the frame g, where T stands, the body comes to its end, and its end is as QQ says -/
def own_End (p : Program) (e : Env) (below : List Frame) (s : State) (QQ : Option Value → Heap → List Loc → Prop) (rc rs : Nat) (T : State) (g : JFrame) : Prop :=
  ∃ s₂ o, Steps p.tables e below (T.setTop g) s₂ ∧ s₂.status = .running ∧ Ended s₂ below o ∧ ∃ v L, o = .returned v ∧ QQ v s₂.heap L ∧ FrameEnd s o s₂ L rc rs
section Own
variable {p : Program} {l : Launch} {e : Env} {R : Room} {s : State} {m : MethodId} {args : Array Value} {below : List Frame} {meth : Method} {c : Code} {T T' : State} {locs : List Loc} {cells slots : Nat} {QQ : Option Value → Heap → List Loc → Prop} {rc rs : Nat}
theorem own_End.go {g g' : JFrame} (st : ∀ t, Steps p.tables e below (T'.setTop g') t → Steps p.tables e below (T.setTop g) t) (h : own_End p e below s QQ rc rs T' g') : own_End p e below s QQ rc rs T g := by
  obtain ⟨s2, o, a, b⟩ := h
  exact ⟨s2, o, st _ a, b⟩
theorem own_leafI (X : Stand p l e R s m args below meth c T locs cells slots) (hx : p.tables.exec = Jvm.exec) (hk : meth.locks = false) {pc : Nat} {Ls : Array Slot} {z : Int32} {rest : List Value} (hret : meth.sig.returnType = some .int) (hd : decode c.code pc = .ok (.ireturn, 1)) (hq : QQ (some (.int z)) T.heap locs) (h1 : cells ≤ rc) (h2 : slots ≤ rs) : own_End p e below s QQ rc rs T (mkF m pc Ls (.int z :: rest)) := by
  obtain ⟨fs, hr, hrun, hended, hW, hsame⟩ := X.leave (v := some (.int z)) (fun h => by rw [hret] at h; cases h) hk
  exact ⟨_, _, retI X hx hret hd hr, hrun, hended, _, _, rfl, hq, ⟨_, rfl⟩, hW, hsame.mono h1 h2⟩
theorem own_leafN (X : Stand p l e R s m args below meth c T locs cells slots) (hx : p.tables.exec = Jvm.exec) (hk : meth.locks = false) {pc : Nat} {Ls : Array Slot} {z : Int32} {t : FieldType} {rest : List Value} (hret : meth.sig.returnType = some t) (ht : t = .boolean ∨ t = .byte ∨ t = .char ∨ t = .short) (hd : decode c.code pc = .ok (.ireturn, 1)) (hq : QQ (some (.int (nar t z))) T.heap locs) (h1 : cells ≤ rc) (h2 : slots ≤ rs) : own_End p e below s QQ rc rs T (mkF m pc Ls (.int z :: rest)) := by
  obtain ⟨fs, hr, hrun, hended, hW, hsame⟩ := X.leave (v := some (.int (nar t z))) (fun h => by rw [hret] at h; cases h) hk
  exact ⟨_, _, retN X hx hret ht hd hr, hrun, hended, _, _, rfl, hq, ⟨_, rfl⟩, hW, hsame.mono h1 h2⟩
theorem own_leafJ (X : Stand p l e R s m args below meth c T locs cells slots) (hx : p.tables.exec = Jvm.exec) (hk : meth.locks = false) {pc : Nat} {Ls : Array Slot} {z : Int64} {rest : List Value} (hret : meth.sig.returnType = some .long) (hd : decode c.code pc = .ok (.lreturn, 1)) (hq : QQ (some (.long z)) T.heap locs) (h1 : cells ≤ rc) (h2 : slots ≤ rs) : own_End p e below s QQ rc rs T (mkF m pc Ls (.long z :: rest)) := by
  obtain ⟨fs, hr, hrun, hended, hW, hsame⟩ := X.leave (v := some (.long z)) (fun h => by rw [hret] at h; cases h) hk
  exact ⟨_, _, retJ X hx hret hd hr, hrun, hended, _, _, rfl, hq, ⟨_, rfl⟩, hW, hsame.mono h1 h2⟩
theorem own_leafR (X : Stand p l e R s m args below meth c T locs cells slots) (hx : p.tables.exec = Jvm.exec) (hk : meth.locks = false) {pc : Nat} {Ls : Array Slot} {z : Addr} {t : FieldType} {rest : List Value} (hret : meth.sig.returnType = some t) (ht : t.isReference = true) (hd : decode c.code pc = .ok (.areturn, 1)) (hq : QQ (some (.ref z)) T.heap locs) (h1 : cells ≤ rc) (h2 : slots ≤ rs) : own_End p e below s QQ rc rs T (mkF m pc Ls (.ref z :: rest)) := by
  obtain ⟨fs, hr, hrun, hended, hW, hsame⟩ := X.leave (v := some (.ref z)) (fun h => by rw [hret] at h; cases h) hk
  exact ⟨_, _, retR X hx hret ht hd hr, hrun, hended, _, _, rfl, hq, ⟨_, rfl⟩, hW, hsame.mono h1 h2⟩
theorem own_leafV (X : Stand p l e R s m args below meth c T locs cells slots) (hx : p.tables.exec = Jvm.exec) (hk : meth.locks = false) {pc : Nat} {Ls : Array Slot} (hret : meth.sig.returnType = none) (hd : decode c.code pc = .ok (.return_, 1)) (hq : QQ none T.heap locs) (h1 : cells ≤ rc) (h2 : slots ≤ rs) : own_End p e below s QQ rc rs T (mkF m pc Ls []) := by
  obtain ⟨fs, hr, hrun, hended, hW, hsame⟩ := X.leave (v := none) (fun _ => rfl) hk
  exact ⟨_, _, X.returnOut hx hret hd hr, hrun, hended, _, _, rfl, hq, ⟨_, rfl⟩, hW, hsame.mono h1 h2⟩
end Own
theorem own_nb0 : nar .boolean (0 : Int32) = 0 := by decide
theorem own_nb1 : nar .boolean (1 : Int32) = 1 := by decide
theorem own_oneif {P : Prop} [Decidable P] {x y : Slot} (hx : One x) (hy : One y) : One (if P then x else y) := by split <;> assumption

/-! arrays as lists; one step, one row -/
def own_IA (Z : State) (h : Heap) (a : Addr) (ty : FieldType) (L : List Int32) : Prop := ∃ k n, Arv Z h a k ty n (L.map Value.int) (.int 0) ∧ n.toInt = (L.length : Int)
def own_JA (Z : State) (h : Heap) (a : Addr) (L : List Int64) : Prop := ∃ k n, Arv Z h a k .long n (L.map Value.long) (.long 0) ∧ n.toInt = (L.length : Int)
theorem own_IA.keep {Z : State} {h h' : Heap} {a : Addr} {ty : FieldType} {L : List Int32} {ws : List Addr} (V : own_IA Z h a ty L) (K : Keep h h' ws) (q : a ∉ ws) : own_IA Z h' a ty L := by
  obtain ⟨k, n, A, e⟩ := V; exact ⟨k, n, A.keep K q, e⟩
theorem own_JA.keep {Z : State} {h h' : Heap} {a : Addr} {L : List Int64} {ws : List Addr} (V : own_JA Z h a L) (K : Keep h h' ws) (q : a ∉ ws) : own_JA Z h' a L := by
  obtain ⟨k, n, A, e⟩ := V; exact ⟨k, n, A.keep K q, e⟩
theorem own_IA.lt {Z : State} {h : Heap} {a : Addr} {ty : FieldType} {L : List Int32} (V : own_IA Z h a ty L) : a < h.size := by
  obtain ⟨k, n, A, e⟩ := V; exact A.lt
theorem own_JA.lt {Z : State} {h : Heap} {a : Addr} {L : List Int64} (V : own_JA Z h a L) : a < h.size := by
  obtain ⟨k, n, A, e⟩ := V; exact A.lt
theorem own_IA.len {Z : State} {h : Heap} {a : Addr} {ty : FieldType} {L : List Int32} (V : own_IA Z h a ty L) : (L.length : Int) < 2147483648 := by
  obtain ⟨k, n, A, e⟩ := V; have := rng32 n; omega
theorem own_keepE {h h' : Heap} (E : Ext h h') : Keep h h' [] := (Keep.refl h []).ext E
theorem own_ne {h : Heap} {x y : Addr} (hx : x < h.size) (hy : h.size ≤ y) : x ≠ y := Nat.ne_of_lt (Nat.lt_of_lt_of_le hx hy)
theorem own_clamp {j : Int32} (h : 0 ≤ j.toInt) : j.toNatClampNeg = j.toInt.toNat := rfl
theorem own_lt0 {n : Int32} (h : 0 ≤ n.toInt) : ¬ n < 0 := by
  rw [Int32.lt_iff_toInt_lt]; have : (0 : Int32).toInt = 0 := by decide
  omega
theorem own_in {j : Int32} {n m : Nat} (hn : n = m) (h : 0 ≤ j.toInt ∧ j.toInt < (m : Int)) : 0 ≤ j.toInt ∧ j.toInt < (n : Int) := hn ▸ h
theorem own_mapD (L : List Int32) (i : Nat) : (L.map Value.int).getD i (.int 0) = .int (L.getD i 0) := by
  simp only [List.getD_eq_getElem?_getD, List.getElem?_map]; cases L[i]? <;> rfl
theorem own_mapDJ (L : List Int64) (i : Nat) : (L.map Value.long).getD i (.long 0) = .long (L.getD i 0) := by
  simp only [List.getD_eq_getElem?_getD, List.getElem?_map]; cases L[i]? <;> rfl
theorem own_mapS {α β : Type} (f : α → β) (L : List α) (i : Nat) (x : α) : (L.map f).set i (f x) = (L.set i x).map f := by
  induction L generalizing i with
  | nil => rfl
  | cons y L ih => cases i with
    | zero => rfl
    | succ i => simp only [List.map_cons, List.set_cons_succ, ih]
section Heap
variable {p : Program} {l : Launch} {e : Env} {R : Room} {s : State} {m : MethodId} {args : Array Value} {below : List Frame} {meth : Method} {c : Code} {T : State} {locs : List Loc} {cells slots : Nat} {Z : State} {a0 : Array Value} {h : Heap} {n0 : Nat}
/-- newarray of ints, bytes, booleans, chars, shorts -/
theorem own_newA (X : Stand p l e R s m args below meth c T locs cells slots) (hx : p.tables.exec = Jvm.exec) (hZ : Z.Warmed39 s.vm) {aty : ArrayType} {ty : FieldType} (hty : newarray.typeOf aty = ty) (w : (Cond.arrayClass ty).before a0 Z = true) (hd0 : defaultValue ty = .int 0) (eT : T.heap = h) {g : JFrame} (hg : g.method = m) (hd : decode c.code g.pc = .ok (.newarray aty, 2)) {n : Int32} {rest : List Value} (hs : g.stack = .int n :: rest)
    (len : Nat) (hn : n.toInt = len) {cap : Nat} (hcap : len ≤ cap) (hb : cap * 8 ≤ 536870912) (hc : cells + 1 ≤ R.cells) (hl : slots + cap ≤ R.slots) :
    ∃ T' h' a, Stand p l e R s m args below meth c T' locs (cells + 1) (slots + cap) ∧ T'.heap = h' ∧ Keep h h' [] ∧ h.size ≤ a ∧ own_IA Z h' a ty (List.replicate len 0) ∧
      ∀ target, Steps p.tables e below (T'.setTop { g with pc := g.pc + 2, stack := .ref a :: rest }) target → Steps p.tables e below (T.setTop g) target := by
  subst hty
  have h0 : ¬ n < 0 := own_lt0 (by omega)
  obtain ⟨T', h', cA, X', e', E, A, st⟩ := newP X hx hZ w eT hg hd hs h0 (cap := cap) (by show n.toInt.toNat ≤ cap; omega) hb hc hl
  refine ⟨T', h', h.size, X', e', own_keepE E, Nat.le_refl _, ⟨cA, n, ?_, ?_⟩, st⟩
  · have V := (Arv.new A h0).pad (pad_rep [] _ len)
    rw [hd0] at V
    simpa using V
  · simpa using hn
theorem own_newJ (X : Stand p l e R s m args below meth c T locs cells slots) (hx : p.tables.exec = Jvm.exec) (hZ : Z.Warmed39 s.vm) (w : (Cond.arrayClass .long).before a0 Z = true) (eT : T.heap = h) {g : JFrame} (hg : g.method = m) (hd : decode c.code g.pc = .ok (.newarray .long, 2)) {n : Int32} {rest : List Value} (hs : g.stack = .int n :: rest)
    (len : Nat) (hn : n.toInt = len) {cap : Nat} (hcap : len ≤ cap) (hb : cap * 8 ≤ 536870912) (hc : cells + 1 ≤ R.cells) (hl : slots + cap ≤ R.slots) :
    ∃ T' h' a, Stand p l e R s m args below meth c T' locs (cells + 1) (slots + cap) ∧ T'.heap = h' ∧ Keep h h' [] ∧ h.size ≤ a ∧ own_JA Z h' a (List.replicate len 0) ∧
      ∀ target, Steps p.tables e below (T'.setTop { g with pc := g.pc + 2, stack := .ref a :: rest }) target → Steps p.tables e below (T.setTop g) target := by
  have h0 : ¬ n < 0 := own_lt0 (by omega)
  obtain ⟨T', h', cA, X', e', E, A, st⟩ := newP X hx hZ (aty := .long) w eT hg hd hs h0 (cap := cap) (by show n.toInt.toNat ≤ cap; omega) hb hc hl
  refine ⟨T', h', h.size, X', e', own_keepE E, Nat.le_refl _, ⟨cA, n, ?_, ?_⟩, st⟩
  · have V := (Arv.new A h0).pad (pad_rep [] _ len)
    have hd0 : defaultValue (newarray.typeOf .long) = .long 0 := rfl
    rw [hd0] at V
    have V' : Arv Z h' h.size cA .long n ([] ++ List.replicate len (Value.long 0)) (.long 0) := V
    simpa using V'
  · simpa using hn
theorem own_bounds {Z : State} {h : Heap} {a : Addr} {cl : Cell} {n j : Int32} {len : Nat} (S : cl.slots.size = n.toNatClampNeg) (hn : n.toInt = (len : Int)) (hj : 0 ≤ j.toInt ∧ j.toInt < (len : Int)) : ¬ (j < 0 ∨ cl.slots.size ≤ j.toNatClampNeg) := by
  have hn' : n.toNatClampNeg = n.toInt.toNat := rfl
  have hj' : j.toNatClampNeg = j.toInt.toNat := rfl
  rintro (q | q)
  · exact own_lt0 hj.1 q
  · omega
theorem own_ialoadI (X : Stand p l e R s m args below meth c T locs cells slots) (hx : p.tables.exec = Jvm.exec) (hZ : Z.Warmed39 s.vm) (eT : T.heap = h) {a : Addr} {L : List Int32} (V : own_IA Z h a .int L) {j : Int32} (hj : 0 ≤ j.toInt ∧ j.toInt < (L.length : Int)) {g : JFrame} (hg : g.method = m) {rest : List Value} (hs : g.stack = .int j :: .ref a :: rest) (hd : decode c.code g.pc = .ok (.iaload, 1)) :
    ∀ target, Steps p.tables e below (T.setTop { g with pc := g.pc + 1, stack := .int (L.getD j.toInt.toNat 0) :: rest }) target → Steps p.tables e below (T.setTop g) target := by
  obtain ⟨k, n, ⟨cl, A, q1, S, q3, H, G⟩, hn⟩ := V
  have hb := own_bounds (Z := Z) (h := h) (a := a) S hn hj
  exact X.iaload hx (j := j) (v := .int (L.getD j.toInt.toNat 0)) (by rw [eT]; exact A.1) (State.isArrayOf_alike hZ.alike A.2.1) A.2.2 hb (H.at hb (own_mapD L _)) hg hs hd
theorem own_baloadB (X : Stand p l e R s m args below meth c T locs cells slots) (hx : p.tables.exec = Jvm.exec) (hZ : Z.Warmed39 s.vm) (eT : T.heap = h) {a : Addr} {L : List Int32} (V : own_IA Z h a .byte L) {j : Int32} (hj : 0 ≤ j.toInt ∧ j.toInt < (L.length : Int)) {g : JFrame} (hg : g.method = m) {rest : List Value} (hs : g.stack = .int j :: .ref a :: rest) (hd : decode c.code g.pc = .ok (.baload, 1)) :
    ∀ target, Steps p.tables e below (T.setTop { g with pc := g.pc + 1, stack := .int (L.getD j.toInt.toNat 0) :: rest }) target → Steps p.tables e below (T.setTop g) target := by
  obtain ⟨k, n, ⟨cl, A, q1, S, q3, H, G⟩, hn⟩ := V
  have hb := own_bounds (Z := Z) (h := h) (a := a) S hn hj
  exact X.baloadBytes hx (j := j) (v := .int (L.getD j.toInt.toNat 0)) (by rw [eT]; exact A.1) (State.isArrayOf_alike hZ.alike A.2.1) A.2.2 hb (H.at hb (own_mapD L _)) hg hs hd
theorem own_baloadZ (X : Stand p l e R s m args below meth c T locs cells slots) (hx : p.tables.exec = Jvm.exec) (hZ : Z.Warmed39 s.vm) (eT : T.heap = h) {a : Addr} {L : List Int32} (V : own_IA Z h a .boolean L) {j : Int32} (hj : 0 ≤ j.toInt ∧ j.toInt < (L.length : Int)) {g : JFrame} (hg : g.method = m) {rest : List Value} (hs : g.stack = .int j :: .ref a :: rest) (hd : decode c.code g.pc = .ok (.baload, 1)) :
    ∀ target, Steps p.tables e below (T.setTop { g with pc := g.pc + 1, stack := .int (L.getD j.toInt.toNat 0) :: rest }) target → Steps p.tables e below (T.setTop g) target := by
  obtain ⟨k, n, ⟨cl, A, q1, S, q3, H, G⟩, hn⟩ := V
  have hb := own_bounds (Z := Z) (h := h) (a := a) S hn hj
  exact X.baloadBooleans hx (j := j) (v := .int (L.getD j.toInt.toNat 0)) (by rw [eT]; exact A.1) (State.isArrayOf_alike hZ.alike A.2.1) A.2.2 hb (H.at hb (own_mapD L _)) hg hs hd
theorem own_laloadJ (X : Stand p l e R s m args below meth c T locs cells slots) (hx : p.tables.exec = Jvm.exec) (hZ : Z.Warmed39 s.vm) (eT : T.heap = h) {a : Addr} {L : List Int64} (V : own_JA Z h a L) {j : Int32} (hj : 0 ≤ j.toInt ∧ j.toInt < (L.length : Int)) {g : JFrame} (hg : g.method = m) {rest : List Value} (hs : g.stack = .int j :: .ref a :: rest) (hd : decode c.code g.pc = .ok (.laload, 1)) :
    ∀ target, Steps p.tables e below (T.setTop { g with pc := g.pc + 1, stack := .long (L.getD j.toInt.toNat 0) :: rest }) target → Steps p.tables e below (T.setTop g) target := by
  obtain ⟨k, n, ⟨cl, A, q1, S, q3, H, G⟩, hn⟩ := V
  have hb := own_bounds (Z := Z) (h := h) (a := a) S hn hj
  exact X.laload hx (j := j) (v := .long (L.getD j.toInt.toNat 0)) (by rw [eT]; exact A.1) (State.isArrayOf_alike hZ.alike A.2.1) A.2.2 hb (H.at hb (own_mapDJ L _)) hg hs hd
theorem own_lenI (X : Stand p l e R s m args below meth c T locs cells slots) (hx : p.tables.exec = Jvm.exec) (hZ : Z.Warmed39 s.vm) (eT : T.heap = h) {a : Addr} {ty : FieldType} {L : List Int32} (V : own_IA Z h a ty L) {g : JFrame} (hg : g.method = m) {rest : List Value} (hs : g.stack = .ref a :: rest) (hd : decode c.code g.pc = .ok (.arraylength, 1)) :
    ∀ target, Steps p.tables e below (T.setTop { g with pc := g.pc + 1, stack := .int (Int32.ofNat L.length) :: rest }) target → Steps p.tables e below (T.setTop g) target := by
  have hl := V.len
  obtain ⟨k, n, ⟨cl, A, q1, S, q3, H, G⟩, hn⟩ := V
  intro t k
  refine X.arraylength hx (by rw [eT]; exact A.1) (State.isArrayOf_alike hZ.alike A.2.1) hg hs hd t ?_
  rw [len_of S q3]
  have e : n = Int32.ofNat L.length := by
    rw [← Int32.toInt_inj, Int32.toInt_ofNat_of_lt (by omega)]; exact hn
  rw [e]; exact k
theorem own_lenJ (X : Stand p l e R s m args below meth c T locs cells slots) (hx : p.tables.exec = Jvm.exec) (hZ : Z.Warmed39 s.vm) (eT : T.heap = h) {a : Addr} {L : List Int64} (V : own_JA Z h a L) {g : JFrame} (hg : g.method = m) {rest : List Value} (hs : g.stack = .ref a :: rest) (hd : decode c.code g.pc = .ok (.arraylength, 1)) :
    ∀ target, Steps p.tables e below (T.setTop { g with pc := g.pc + 1, stack := .int (Int32.ofNat L.length) :: rest }) target → Steps p.tables e below (T.setTop g) target := by
  obtain ⟨k, n, ⟨cl, A, q1, S, q3, H, G⟩, hn⟩ := V
  have hl := rng32 n
  intro t k
  refine X.arraylength hx (by rw [eT]; exact A.1) (State.isArrayOf_alike hZ.alike A.2.1) hg hs hd t ?_
  rw [len_of S q3]
  have e : n = Int32.ofNat L.length := by
    rw [← Int32.toInt_inj, Int32.toInt_ofNat_of_lt (by omega)]; exact hn
  rw [e]; exact k
theorem own_iastoreI (X : Stand p l e R s m args below meth c T locs cells slots) (hx : p.tables.exec = Jvm.exec) (hZ : Z.Warmed39 s.vm) (N : Fr n0 locs) (eT : T.heap = h) {a : Addr} {L : List Int32} (V : own_IA Z h a .int L) {j x : Int32} (hj : 0 ≤ j.toInt ∧ j.toInt < (L.length : Int)) (ha : n0 ≤ a) {g : JFrame} (hg : g.method = m) {rest : List Value} (hs : g.stack = .int x :: .int j :: .ref a :: rest) (hd : decode c.code g.pc = .ok (.iastore, 1)) :
    ∃ T' h' locs', Stand p l e R s m args below meth c T' locs' cells slots ∧ Fr n0 locs' ∧ T'.heap = h' ∧ Keep h h' [a] ∧ own_IA Z h' a .int (L.set j.toInt.toNat x) ∧
      ∀ target, Steps p.tables e below (T'.setTop { g with pc := g.pc + 1, stack := rest }) target → Steps p.tables e below (T.setTop g) target := by
  obtain ⟨k, n, ⟨cl, A, q1, S, q3, H, G⟩, hn⟩ := V
  have hb := own_bounds (Z := Z) (h := h) (a := a) S hn hj
  obtain ⟨T', h', X', e', W, st⟩ := stI X hx hZ eT A (j := j) hb hg hs hd
  have V' := Arv.set A q1 S q3 H G (v := .int x) rfl W j.toInt.toNat rfl (by simp only [List.length_map]; omega)
  rw [own_mapS] at V'
  exact ⟨T', h', _, X', Fr.snoc X' N ha, e', Keep.of_wr W, ⟨k, n, V', by simpa using hn⟩, st⟩
theorem own_bastoreB (X : Stand p l e R s m args below meth c T locs cells slots) (hx : p.tables.exec = Jvm.exec) (hZ : Z.Warmed39 s.vm) (N : Fr n0 locs) (eT : T.heap = h) {a : Addr} {L : List Int32} (V : own_IA Z h a .byte L) {j x : Int32} (hj : 0 ≤ j.toInt ∧ j.toInt < (L.length : Int)) (ha : n0 ≤ a) {g : JFrame} (hg : g.method = m) {rest : List Value} (hs : g.stack = .int x :: .int j :: .ref a :: rest) (hd : decode c.code g.pc = .ok (.bastore, 1)) :
    ∃ T' h' locs', Stand p l e R s m args below meth c T' locs' cells slots ∧ Fr n0 locs' ∧ T'.heap = h' ∧ Keep h h' [a] ∧ own_IA Z h' a .byte (L.set j.toInt.toNat (nar .byte x)) ∧
      ∀ target, Steps p.tables e below (T'.setTop { g with pc := g.pc + 1, stack := rest }) target → Steps p.tables e below (T.setTop g) target := by
  obtain ⟨k, n, ⟨cl, A, q1, S, q3, H, G⟩, hn⟩ := V
  have hb := own_bounds (Z := Z) (h := h) (a := a) S hn hj
  obtain ⟨T', h', X', e', W, st⟩ := stB X hx hZ eT A (j := j) hb hg hs hd
  have V' := Arv.set A q1 S q3 H G (v := .int (nar .byte x)) (fits_nar_byte _) W j.toInt.toNat rfl (by simp only [List.length_map]; omega)
  rw [own_mapS] at V'
  exact ⟨T', h', _, X', Fr.snoc X' N ha, e', Keep.of_wr W, ⟨k, n, V', by simpa using hn⟩, st⟩
theorem own_bastoreZ (X : Stand p l e R s m args below meth c T locs cells slots) (hx : p.tables.exec = Jvm.exec) (hZ : Z.Warmed39 s.vm) (N : Fr n0 locs) (eT : T.heap = h) {a : Addr} {L : List Int32} (V : own_IA Z h a .boolean L) {j x : Int32} (hj : 0 ≤ j.toInt ∧ j.toInt < (L.length : Int)) (ha : n0 ≤ a) {g : JFrame} (hg : g.method = m) {rest : List Value} (hs : g.stack = .int x :: .int j :: .ref a :: rest) (hd : decode c.code g.pc = .ok (.bastore, 1)) :
    ∃ T' h' locs', Stand p l e R s m args below meth c T' locs' cells slots ∧ Fr n0 locs' ∧ T'.heap = h' ∧ Keep h h' [a] ∧ own_IA Z h' a .boolean (L.set j.toInt.toNat (nar .boolean x)) ∧
      ∀ target, Steps p.tables e below (T'.setTop { g with pc := g.pc + 1, stack := rest }) target → Steps p.tables e below (T.setTop g) target := by
  obtain ⟨k, n, ⟨cl, A, q1, S, q3, H, G⟩, hn⟩ := V
  have hb := own_bounds (Z := Z) (h := h) (a := a) S hn hj
  obtain ⟨T', h', X', e', W, st⟩ := stZ X hx hZ eT A (j := j) hb hg hs hd
  have V' := Arv.set A q1 S q3 H G (v := .int (nar .boolean x)) (fits_nar_bool _) W j.toInt.toNat rfl (by simp only [List.length_map]; omega)
  rw [own_mapS] at V'
  exact ⟨T', h', _, X', Fr.snoc X' N ha, e', Keep.of_wr W, ⟨k, n, V', by simpa using hn⟩, st⟩
theorem own_lastoreJ (X : Stand p l e R s m args below meth c T locs cells slots) (hx : p.tables.exec = Jvm.exec) (hZ : Z.Warmed39 s.vm) (N : Fr n0 locs) (eT : T.heap = h) {a : Addr} {L : List Int64} (V : own_JA Z h a L) {j : Int32} {x : Int64} (hj : 0 ≤ j.toInt ∧ j.toInt < (L.length : Int)) (ha : n0 ≤ a) {g : JFrame} (hg : g.method = m) {rest : List Value} (hs : g.stack = .long x :: .int j :: .ref a :: rest) (hd : decode c.code g.pc = .ok (.lastore, 1)) :
    ∃ T' h' locs', Stand p l e R s m args below meth c T' locs' cells slots ∧ Fr n0 locs' ∧ T'.heap = h' ∧ Keep h h' [a] ∧ own_JA Z h' a (L.set j.toInt.toNat x) ∧
      ∀ target, Steps p.tables e below (T'.setTop { g with pc := g.pc + 1, stack := rest }) target → Steps p.tables e below (T.setTop g) target := by
  obtain ⟨k, n, ⟨cl, A, q1, S, q3, H, G⟩, hn⟩ := V
  have hb := own_bounds (Z := Z) (h := h) (a := a) S hn hj
  obtain ⟨T', h', X', e', W, st⟩ := stJ X hx hZ eT A (j := j) hb hg hs hd
  have V' := Arv.set A q1 S q3 H G (v := .long x) rfl W j.toInt.toNat rfl (by simp only [List.length_map]; omega)
  rw [own_mapS] at V'
  exact ⟨T', h', _, X', Fr.snoc X' N ha, e', Keep.of_wr W, ⟨k, n, V', by simpa using hn⟩, st⟩
/-- new -/
theorem own_new (X : Stand p l e R s m args below meth c T locs cells slots) (hx : p.tables.exec = Jvm.exec) (hZ : Z.Warmed39 s.vm) {own C : String} {index n : Nat} (hown : s.vm.findClass own = some m.cls) (w : (Cond.classLink own index C).before a0 Z = true) (wi : (Cond.instantiable C n).before a0 Z = true) (wz : (Cond.initialized C).before a0 Z = true) (eT : T.heap = h)
    {g : JFrame} (hg : g.method = m) (hd : decode c.code g.pc = .ok (.new index, 3)) (hc : cells + 1 ≤ R.cells) (hl : slots + n ≤ R.slots) :
    ∃ T' h' a, Stand p l e R s m args below meth c T' locs (cells + 1) (slots + n) ∧ T'.heap = h' ∧ Keep h h' [] ∧ h.size ≤ a ∧ Exa Z h' a C ∧ (∀ {O nm d : String} {ty : FieldType}, Laid Z a0 C O nm d → parseFieldDescriptor d = some ty → Fld Z h' a O nm d (defaultValue ty)) ∧
      ∀ target, Steps p.tables e below (T'.setTop { g with pc := g.pc + 3, stack := .ref a :: g.stack }) target → Steps p.tables e below (T.setTop g) target := by
  obtain ⟨T', h', X', e', E, A, D, -, st⟩ := newO X hx hZ hown w wi wz eT hg hd hc hl
  exact ⟨T', h', h.size, X', e', own_keepE E, Nat.le_refl _, A, D, st⟩
end Heap
theorem own_irem (x y : Int32) : x - (x / y) * y = x % y := by
  have lo (z : Int32) : Int32.minValue.toInt ≤ z.toInt := z.minValue_le_toInt
  have hi (z : Int32) : z.toInt ≤ Int32.maxValue.toInt := z.toInt_le
  have d := Int32.ofInt_tdiv (a := x.toInt) (b := y.toInt) (lo x) (hi x) (lo y) (hi y)
  have m := Int32.ofInt_tmod (a := x.toInt) (b := y.toInt) (lo x) (hi x) (lo y) (hi y)
  simp only [Int32.ofInt_toInt] at d m
  have e : x.toInt.tmod y.toInt = x.toInt - (x.toInt.tdiv y.toInt) * y.toInt := by
    have := Int.tmod_add_mul_tdiv x.toInt y.toInt
    rw [Int.mul_comm (x.toInt.tdiv y.toInt)]; omega
  rw [← d, ← m, e, Int32.ofInt_sub, Int32.ofInt_mul, Int32.ofInt_toInt, Int32.ofInt_toInt]
theorem own_remP (x d : Int32) (k : Int) (hd : d.toInt = k) (h : 0 ≤ x.toInt) : (x - (x / d) * d).toInt = x.toInt % k := by
  rw [own_irem]; exact (c_irem x d k hd).1 h
theorem own_mask31 (x : Int32) : (x &&& (2147483647 : Int32)).toInt = x.toInt % 2147483648 := by
  have : (x &&& (2147483647 : Int32)).toInt = x.toInt % (2 ^ 31 : Nat) := c_mask x 2147483647 31 (by decide) (by decide)
  omega
theorem own_succ {x y : Int32} (h : y = x + (1 : Int32)) (hb : x.toInt < 2147483647) : y.toInt = x.toInt + 1 := by
  subst h
  have a := c_iadd x 1
  have r := rng32 (x + 1)
  have r' := rng32 x
  have z : (1 : Int32).toInt = 1 := by decide
  omega
theorem own_ofN {v : Int32} {n : Nat} (h : v = Int32.ofNat n) (hn : n < 2147483648) : v.toInt = n := by
  subst h; exact Int32.toInt_ofNat_of_lt hn
theorem own_z0 : (0 : Int32).toInt = 0 := by decide

theorem own_ltl {i n : Int32} {k : Nat} (hc : i < n) (h : n.toInt ≤ (k : Int)) : i.toInt < (k : Int) := by
  rw [Int32.lt_iff_toInt_lt] at hc; omega
theorem own_p1 {p : Int32} (h : 0 ≤ p.toInt ∧ p.toInt ≤ 4) : (p + (1 : Int32)).toInt = p.toInt + 1 := own_succ rfl (by omega)
theorem own_len {p : Int32} (h : 0 ≤ p.toInt ∧ p.toInt ≤ 4) : ((List.replicate (p + (1 : Int32)).toInt.toNat (0 : Int32)).length : Int) = p.toInt + 1 := by
  have := own_p1 h
  rw [List.length_replicate]; omega
theorem own_mem {L : List Int32} {i : Int32} (h : 0 ≤ i.toInt ∧ i.toInt < (L.length : Int)) : List.getD L i.toInt.toNat 0 ∈ L := by
  rw [List.getD_eq_getElem?_getD, List.getElem?_eq_getElem (by omega : i.toInt.toNat < L.length)]
  exact List.getElem_mem _
theorem own_key {K M : List Int32} {p v i : Int32} (hk : ∀ x ∈ K, 0 ≤ x.toInt ∧ x.toInt < p.toInt) (h5 : 0 ≤ p.toInt ∧ p.toInt ≤ 4) (hM : (M.length : Int) = p.toInt + 1) (hv : v = (List.getD K (i).toInt.toNat 0)) (hi : 0 ≤ i.toInt ∧ i.toInt < (K.length : Int)) : 0 ≤ (v + (1 : Int32)).toInt ∧ (v + (1 : Int32)).toInt < (M.length : Int) := by
  have b := hk _ (own_mem hi)
  rw [← hv] at b
  have := own_succ (x := v) rfl (by omega)
  omega
theorem own_nx {M : List Int32} {p j : Int32} (h5 : 0 ≤ p.toInt ∧ p.toInt ≤ 4) (hM : (M.length : Int) = p.toInt + 1) (j1 : 0 ≤ j.toInt) (hc : j < p) : 0 ≤ (j + (1 : Int32)).toInt ∧ (j + (1 : Int32)).toInt < (M.length : Int) := by
  rw [Int32.lt_iff_toInt_lt] at hc
  have := own_succ (x := j) rfl (by omega)
  omega
theorem own_pv {M : List Int32} {p j : Int32} (h5 : 0 ≤ p.toInt ∧ p.toInt ≤ 4) (hM : (M.length : Int) = p.toInt + 1) (j1 : 0 ≤ j.toInt) (hc : j < p) : 0 ≤ j.toInt ∧ j.toInt < (M.length : Int) := by
  rw [Int32.lt_iff_toInt_lt] at hc
  omega
theorem own_len5 {v p : Int32} (h : v = ((p &&& (2147483647 : Int32)) - ((p &&& (2147483647 : Int32)) / (5 : Int32)) * (5 : Int32))) : 0 ≤ v.toInt ∧ v.toInt ≤ 4 := by
  have m := own_mask31 p
  have r := own_remP (p &&& (2147483647 : Int32)) 5 5 (by decide) (by omega)
  rw [← h] at r
  omega
theorem own_m {v w p : Int32} (h : v = ((p &&& (2147483647 : Int32)) - ((p &&& (2147483647 : Int32)) / (5 : Int32)) * (5 : Int32))) (hw : w = (if v = (0 : Int32) then (1 : Int32) else v)) : 0 < w.toInt ∧ (v ≠ 0 → w = v) := by
  have b := own_len5 h
  by_cases q : v = 0
  · rw [if_pos q] at hw
    exact ⟨by rw [hw]; decide, fun e => absurd q e⟩
  · rw [if_neg q] at hw
    have : ¬ v.toInt = 0 := fun e => q (Int32.toInt_inj.mp e)
    exact ⟨by rw [hw]; omega, fun _ => hw⟩
theorem own_mnz {v w p : Int32} (h : v = ((p &&& (2147483647 : Int32)) - ((p &&& (2147483647 : Int32)) / (5 : Int32)) * (5 : Int32))) (hw : w = (if v = (0 : Int32) then (1 : Int32) else v)) : w ≠ 0 := fun e => by
  have := (own_m h hw).1
  rw [e, own_z0] at this
  omega
theorem own_k {w y : Int32} (hw : 0 < w.toInt) : 0 ≤ ((y &&& (255 : Int32)) - ((y &&& (255 : Int32)) / w) * w).toInt ∧ ((y &&& (255 : Int32)) - ((y &&& (255 : Int32)) / w) * w).toInt < w.toInt := by
  have m : (y &&& (255 : Int32)).toInt = y.toInt % (2 ^ 8 : Nat) := c_mask y 255 8 (by decide) (by decide)
  have r := own_remP (y &&& (255 : Int32)) w w.toInt rfl (by omega)
  rw [r]
  exact ⟨Int.emod_nonneg _ (by omega), Int.emod_lt_of_pos _ hw⟩
theorem own_pd0 : parseMethodDescriptor "(II[I)I" = some ⟨[.int, .int, (.array .int)], some .int⟩ := by decide +kernel
theorem own_pd1 : parseMethodDescriptor "(IIIII)[I" = some ⟨[.int, .int, .int, .int, .int], some (.array .int)⟩ := by decide +kernel
theorem own_pd2 : parseMethodDescriptor "(I[III)[I" = some ⟨[.int, (.array .int), .int, .int], some (.array .int)⟩ := by decide +kernel
theorem own_pd3 : parseMethodDescriptor "([IIII[III)Z" = some ⟨[(.array .int), .int, .int, .int, (.array .int), .int, .int], some .boolean⟩ := by decide +kernel
theorem own_d1_0 : decode method_3_code 0 = .ok (.iload_n 0, 1) := by decide +kernel
theorem own_d1_1 : decode method_3_code 1 = .ok (.ifCond .ne 7, 3) := by decide +kernel
theorem own_d1_4 : decode method_3_code 4 = .ok (.iconst 0, 1) := by decide +kernel
theorem own_d1_5 : decode method_3_code 5 = .ok (.newarray .int, 2) := by decide +kernel
theorem own_d1_7 : decode method_3_code 7 = .ok (.areturn, 1) := by decide +kernel
theorem own_d1_8 : decode method_3_code 8 = .ok (.iload_n 0, 1) := by decide +kernel
theorem own_d1_9 : decode method_3_code 9 = .ok (.iconst 1, 1) := by decide +kernel
theorem own_d1_10 : decode method_3_code 10 = .ok (.if_icmp .ne 11, 3) := by decide +kernel
theorem own_d1_13 : decode method_3_code 13 = .ok (.iconst 1, 1) := by decide +kernel
theorem own_d1_14 : decode method_3_code 14 = .ok (.newarray .int, 2) := by decide +kernel
theorem own_d1_16 : decode method_3_code 16 = .ok (.dup, 1) := by decide +kernel
theorem own_d1_17 : decode method_3_code 17 = .ok (.iconst 0, 1) := by decide +kernel
theorem own_d1_18 : decode method_3_code 18 = .ok (.iload_n 1, 1) := by decide +kernel
theorem own_d1_19 : decode method_3_code 19 = .ok (.iastore, 1) := by decide +kernel
theorem own_d1_20 : decode method_3_code 20 = .ok (.areturn, 1) := by decide +kernel
theorem own_d1_21 : decode method_3_code 21 = .ok (.iload_n 0, 1) := by decide +kernel
theorem own_d1_22 : decode method_3_code 22 = .ok (.iconst 2, 1) := by decide +kernel
theorem own_d1_23 : decode method_3_code 23 = .ok (.if_icmp .ne 15, 3) := by decide +kernel
theorem own_d1_26 : decode method_3_code 26 = .ok (.iconst 2, 1) := by decide +kernel
theorem own_d1_27 : decode method_3_code 27 = .ok (.newarray .int, 2) := by decide +kernel
theorem own_d1_29 : decode method_3_code 29 = .ok (.dup, 1) := by decide +kernel
theorem own_d1_30 : decode method_3_code 30 = .ok (.iconst 0, 1) := by decide +kernel
theorem own_d1_31 : decode method_3_code 31 = .ok (.iload_n 1, 1) := by decide +kernel
theorem own_d1_32 : decode method_3_code 32 = .ok (.iastore, 1) := by decide +kernel
theorem own_d1_33 : decode method_3_code 33 = .ok (.dup, 1) := by decide +kernel
theorem own_d1_34 : decode method_3_code 34 = .ok (.iconst 1, 1) := by decide +kernel
theorem own_d1_35 : decode method_3_code 35 = .ok (.iload_n 2, 1) := by decide +kernel
theorem own_d1_36 : decode method_3_code 36 = .ok (.iastore, 1) := by decide +kernel
theorem own_d1_37 : decode method_3_code 37 = .ok (.areturn, 1) := by decide +kernel
theorem own_d1_38 : decode method_3_code 38 = .ok (.iload_n 0, 1) := by decide +kernel
theorem own_d1_39 : decode method_3_code 39 = .ok (.iconst 3, 1) := by decide +kernel
theorem own_d1_40 : decode method_3_code 40 = .ok (.if_icmp .ne 19, 3) := by decide +kernel
theorem own_d1_43 : decode method_3_code 43 = .ok (.iconst 3, 1) := by decide +kernel
theorem own_d1_44 : decode method_3_code 44 = .ok (.newarray .int, 2) := by decide +kernel
theorem own_d1_46 : decode method_3_code 46 = .ok (.dup, 1) := by decide +kernel
theorem own_d1_47 : decode method_3_code 47 = .ok (.iconst 0, 1) := by decide +kernel
theorem own_d1_48 : decode method_3_code 48 = .ok (.iload_n 1, 1) := by decide +kernel
theorem own_d1_49 : decode method_3_code 49 = .ok (.iastore, 1) := by decide +kernel
theorem own_d1_50 : decode method_3_code 50 = .ok (.dup, 1) := by decide +kernel
theorem own_d1_51 : decode method_3_code 51 = .ok (.iconst 1, 1) := by decide +kernel
theorem own_d1_52 : decode method_3_code 52 = .ok (.iload_n 2, 1) := by decide +kernel
theorem own_d1_53 : decode method_3_code 53 = .ok (.iastore, 1) := by decide +kernel
theorem own_d1_54 : decode method_3_code 54 = .ok (.dup, 1) := by decide +kernel
theorem own_d1_55 : decode method_3_code 55 = .ok (.iconst 2, 1) := by decide +kernel
theorem own_d1_56 : decode method_3_code 56 = .ok (.iload_n 3, 1) := by decide +kernel
theorem own_d1_57 : decode method_3_code 57 = .ok (.iastore, 1) := by decide +kernel
theorem own_d1_58 : decode method_3_code 58 = .ok (.areturn, 1) := by decide +kernel
theorem own_d1_59 : decode method_3_code 59 = .ok (.iconst 4, 1) := by decide +kernel
theorem own_d1_60 : decode method_3_code 60 = .ok (.newarray .int, 2) := by decide +kernel
theorem own_d1_62 : decode method_3_code 62 = .ok (.dup, 1) := by decide +kernel
theorem own_d1_63 : decode method_3_code 63 = .ok (.iconst 0, 1) := by decide +kernel
theorem own_d1_64 : decode method_3_code 64 = .ok (.iload_n 1, 1) := by decide +kernel
theorem own_d1_65 : decode method_3_code 65 = .ok (.iastore, 1) := by decide +kernel
theorem own_d1_66 : decode method_3_code 66 = .ok (.dup, 1) := by decide +kernel
theorem own_d1_67 : decode method_3_code 67 = .ok (.iconst 1, 1) := by decide +kernel
theorem own_d1_68 : decode method_3_code 68 = .ok (.iload_n 2, 1) := by decide +kernel
theorem own_d1_69 : decode method_3_code 69 = .ok (.iastore, 1) := by decide +kernel
theorem own_d1_70 : decode method_3_code 70 = .ok (.dup, 1) := by decide +kernel
theorem own_d1_71 : decode method_3_code 71 = .ok (.iconst 2, 1) := by decide +kernel
theorem own_d1_72 : decode method_3_code 72 = .ok (.iload_n 3, 1) := by decide +kernel
theorem own_d1_73 : decode method_3_code 73 = .ok (.iastore, 1) := by decide +kernel
theorem own_d1_74 : decode method_3_code 74 = .ok (.dup, 1) := by decide +kernel
theorem own_d1_75 : decode method_3_code 75 = .ok (.iconst 3, 1) := by decide +kernel
theorem own_d1_76 : decode method_3_code 76 = .ok (.iload 4, 2) := by decide +kernel
theorem own_d1_78 : decode method_3_code 78 = .ok (.iastore, 1) := by decide +kernel
theorem own_d1_79 : decode method_3_code 79 = .ok (.areturn, 1) := by decide +kernel
theorem own_pn1 : plainName "com/example/overlaid_graphs/overlaidgraphs/graph/BucketsStartsPinLaw" = true := by first | (simp [plainName, overriddenIn]; done) | decide +kernel
theorem own_ef1 (m : MethodId) (p0 : Int32) (p1 : Int32) (p2 : Int32) (p3 : Int32) (p4 : Int32) : entryFrame m #[(.int p0), (.int p1), (.int p2), (.int p3), (.int p4)] 5 = mkF m 0 #[.val (.int p0), .val (.int p1), .val (.int p2), .val (.int p3), .val (.int p4)] [] := by first | (simp [entryFrame, mkF, argsToLocals, Value.category]; done) | rfl
abbrev own_R1 : Room := { frames := 0, cells := 1, slots := 4, locals := 0 }
def own_G1_0 (p0 : Int32) (p1 : Int32) (p2 : Int32) (p3 : Int32) (p4 : Int32) : List Int32 :=
  if p0 = (0 : Int32) then
    ([] : List Int32)
  else
    if p0 = (1 : Int32) then
      ([p1] : List Int32)
    else
      if p0 = (2 : Int32) then
        ([p1, p2] : List Int32)
      else
        if p0 = (3 : Int32) then
          ([p1, p2, p3] : List Int32)
        else
          ([p1, p2, p3, p4] : List Int32)
def own_Q1 (Z : State) (p0 : Int32) (p1 : Int32) (p2 : Int32) (p3 : Int32) (p4 : Int32) (h0 : Heap) (n0 : Nat) (vz : Option Value) (h : Heap) (Lz : List Loc) : Prop := ∃ b, vz = some (.ref b) ∧ Fr n0 Lz ∧ Keep h0 h [] ∧ h0.size ≤ b ∧ own_IA Z h b .int (own_G1_0 p0 p1 p2 p3 p4) ∧ True
theorem own_e1_6 {p0 : Int32} {p1 : Int32} {p2 : Int32} {p3 : Int32} {p4 : Int32} (hc1_2 : p0 = (0 : Int32)) : ([] : List Int32) = (own_G1_0 p0 p1 p2 p3 p4) := by
  skip
  first
    | (simp only [own_G1_0, if_pos hc1_2]; done)
    | (exfalso; contradiction)
theorem own_e1_15 {p0 : Int32} {p1 : Int32} {p2 : Int32} {p3 : Int32} {p4 : Int32} (hc1_2 : ¬ (p0 = (0 : Int32))) (hc10_8 : p0 = (1 : Int32)) : ([p1] : List Int32) = (own_G1_0 p0 p1 p2 p3 p4) := by
  skip
  first
    | (simp only [own_G1_0, if_neg hc1_2, if_pos hc10_8]; done)
    | (exfalso; contradiction)
theorem own_e1_27 {p0 : Int32} {p1 : Int32} {p2 : Int32} {p3 : Int32} {p4 : Int32} (hc1_2 : ¬ (p0 = (0 : Int32))) (hc10_8 : ¬ (p0 = (1 : Int32))) (hc23_17 : p0 = (2 : Int32)) : ([p1, p2] : List Int32) = (own_G1_0 p0 p1 p2 p3 p4) := by
  skip
  first
    | (simp only [own_G1_0, if_neg hc1_2, if_neg hc10_8, if_pos hc23_17]; done)
    | (exfalso; contradiction)
theorem own_e1_42 {p0 : Int32} {p1 : Int32} {p2 : Int32} {p3 : Int32} {p4 : Int32} (hc1_2 : ¬ (p0 = (0 : Int32))) (hc10_8 : ¬ (p0 = (1 : Int32))) (hc23_17 : ¬ (p0 = (2 : Int32))) (hc40_29 : p0 = (3 : Int32)) : ([p1, p2, p3] : List Int32) = (own_G1_0 p0 p1 p2 p3 p4) := by
  skip
  first
    | (simp only [own_G1_0, if_neg hc1_2, if_neg hc10_8, if_neg hc23_17, if_pos hc40_29]; done)
    | (exfalso; contradiction)
theorem own_e1_58 {p0 : Int32} {p1 : Int32} {p2 : Int32} {p3 : Int32} {p4 : Int32} (hc1_2 : ¬ (p0 = (0 : Int32))) (hc10_8 : ¬ (p0 = (1 : Int32))) (hc23_17 : ¬ (p0 = (2 : Int32))) (hc40_29 : ¬ (p0 = (3 : Int32))) : ([p1, p2, p3, p4] : List Int32) = (own_G1_0 p0 p1 p2 p3 p4) := by
  skip
  first
    | (simp only [own_G1_0, if_neg hc1_2, if_neg hc10_8, if_neg hc23_17, if_neg hc40_29]; done)
    | (exfalso; contradiction)
set_option maxRecDepth 65536 in
set_option maxHeartbeats 40000000 in
theorem own_rm1 (l : Launch) (Z : State) (a0 : Array Value) (hw : ∀ d ∈ tables_1, d.before a0 Z = true) (ws : List Jvm.Cond) (p0 : Int32) (p1 : Int32) (p2 : Int32) (p3 : Int32) (p4 : Int32) (h0 : Heap) (n0 : Nat) (Z0 : n0 ≤ h0.size) :
    MetFree l (⟨"com/example/overlaid_graphs/overlaidgraphs/graph/BucketsStartsPinLaw", "make", "(IIIII)[I"⟩ : MethodName) (head1 (Jvm.Cond.code (⟨"com/example/overlaid_graphs/overlaidgraphs/graph/BucketsStartsPinLaw", "make", "(IIIII)[I"⟩ : MethodName) method_3_code 5 (some (.array .int)) :: ws) own_R1) (fun a U => a = #[(.int p0), (.int p1), (.int p2), (.int p3), (.int p4)] ∧ Z.Warmed39 U.vm ∧ U.heap = h0) (fun _ _ _ _ _ => True) (fun _ U o U' => ∃ vz Lz, o = .returned vz ∧ own_Q1 Z p0 p1 p2 p3 p4 h0 n0 vz U'.heap Lz ∧ FrameEnd U o U' Lz own_R1.cells own_R1.slots) := by
  refine MetFree.of_bodySF (plainFor_of_name own_pn1) hisR ?_
  intro p e s m args below meth c s₁ Bd hml0 hP hK
  obtain ⟨rfl, hZ, hh⟩ := hP
  have hx := Bd.exec
  have hby := Bd.bytes
  have hml : c.maxLocals = 5 := hml0
  have hown : s.vm.findClass "com/example/overlaid_graphs/overlaidgraphs/graph/BucketsStartsPinLaw" = some m.cls := findClass_of_methodNamed Bd.named
  have hnm := (name_of_methodNamed Bd.named Bd.method).1
  have X0 : Stand p l e own_R1 s m #[(.int p0), (.int p1), (.int p2), (.int p3), (.int p4)] below meth c s₁ [] 0 0 := Stand.of_body Bd
  have e0 : s₁.heap = h0 := by rw [← hh, Bd.state]; rfl
  show own_End p e below s (fun vz h Lz => ∃ b, vz = some (.ref b) ∧ Fr n0 Lz ∧ Keep h0 h [] ∧ h0.size ≤ b ∧ own_IA Z h b .int (own_G1_0 p0 p1 p2 p3 p4) ∧ True) own_R1.cells own_R1.slots s₁ (entryFrame m #[(.int p0), (.int p1), (.int p2), (.int p3), (.int p4)] 5)
  refine own_End.go (fun t k => castTop (own_ef1 m p0 p1 p2 p3 p4) k) ?_
  show own_End p e below s _ _ _ s₁ (mkF m 0 #[.val (.int p0), .val (.int p1), .val (.int p2), .val (.int p3), .val (.int p4)] [])
  have N0 := Fr.nil n0
  have K0 : Keep h0 h0 [] := Keep.refl h0 _
  have st1 : ∀ t, Steps p.tables e below (s₁.setTop (mkF m 1 #[.val (.int p0), .val (.int p1), .val (.int p2), .val (.int p3), .val (.int p4)] [(.int p0)])) t → Steps p.tables e below (s₁.setTop (mkF m 0 #[.val (.int p0), .val (.int p1), .val (.int p2), .val (.int p3), .val (.int p4)] [])) t := by
    intro t k
    show Steps p.tables e below (s₁.setTop (mkF m 0 #[.val (.int p0), .val (.int p1), .val (.int p2), .val (.int p3), .val (.int p4)] [])) _
    refine XS.iloadN X0.here hx rfl (hb hby own_d1_0) rfl ?_
    exact k
  refine own_End.go (fun t k => st1 _ k) ?_
  by_cases hc1_2 : p0 = (0 : Int32)
  · have st3 : ∀ t, Steps p.tables e below (s₁.setTop (mkF m 5 #[.val (.int p0), .val (.int p1), .val (.int p2), .val (.int p3), .val (.int p4)] [(.int (0 : Int32))])) t → Steps p.tables e below (s₁.setTop (mkF m 1 #[.val (.int p0), .val (.int p1), .val (.int p2), .val (.int p3), .val (.int p4)] [(.int p0)])) t := by
      intro t k
      show Steps p.tables e below (s₁.setTop (mkF m 1 #[.val (.int p0), .val (.int p1), .val (.int p2), .val (.int p3), .val (.int p4)] [(.int p0)])) _
      refine XS.ifNo X0.here hx rfl (hb hby own_d1_1) rfl ((if0 _ _).trans (teq hc1_2).2) ?_
      show Steps p.tables e below (s₁.setTop (mkF m 4 #[.val (.int p0), .val (.int p1), .val (.int p2), .val (.int p3), .val (.int p4)] [])) _
      refine XS.iconst X0.here hx rfl (hb hby own_d1_4) ?_
      exact k
    obtain ⟨T4, h4, b4, X4, e4, K4, q4, V4, st4⟩ := own_newA X0 hx hZ (ty := .int) rfl (hw _ (List.mem_of_getElem? (i := 1) rfl)) rfl e0 (g := (mkF m 5 #[.val (.int p0), .val (.int p1), .val (.int p2), .val (.int p3), .val (.int p4)] [(.int (0 : Int32))])) rfl (hb hby own_d1_5) rfl (0) (by decide) (cap := 0) (by decide) (by decide) (by decide) (by decide)
    have X4 : Stand p l e own_R1 s m #[(.int p0), (.int p1), (.int p2), (.int p3), (.int p4)] below meth c T4 [] 1 0 := X4
    have V4 : own_IA Z h4 b4 .int ([] : List Int32) := V4
    have g_b4 : n0 ≤ b4 := Nat.le_trans Z0 q4
    have sz_b4 : h0.size ≤ b4 := Nat.le_trans K0.1 q4
    have Zp5 : n0 ≤ h4.size := Nat.le_trans Z0 K4.1
    have Kz5 : Keep h0 h4 [] := K0.trans K4 all0
    refine own_End.go (fun t k => st3 _ (st4 _ k)) ?_
    exact own_leafR X4 hx Bd.notSynchronized Bd.returns rfl (hb hby own_d1_7) ⟨b4, rfl, N0, (by rw [e4]; exact Kz5), (by have := sz_b4; exact this), (show own_IA Z T4.heap b4 .int (own_G1_0 p0 p1 p2 p3 p4) from by
        rw [← (own_e1_6 hc1_2)]; exact (by rw [e4]; exact V4)), trivial⟩ (by decide) (by decide)
  · have st7 : ∀ t, Steps p.tables e below (s₁.setTop (mkF m 10 #[.val (.int p0), .val (.int p1), .val (.int p2), .val (.int p3), .val (.int p4)] [(.int (1 : Int32)), (.int p0)])) t → Steps p.tables e below (s₁.setTop (mkF m 1 #[.val (.int p0), .val (.int p1), .val (.int p2), .val (.int p3), .val (.int p4)] [(.int p0)])) t := by
      intro t k
      show Steps p.tables e below (s₁.setTop (mkF m 1 #[.val (.int p0), .val (.int p1), .val (.int p2), .val (.int p3), .val (.int p4)] [(.int p0)])) _
      refine XS.ifYes X0.here hx rfl (pc0 := 1) (pc' := 8) rfl (hb hby own_d1_1) rfl ((if0 _ _).trans (feq hc1_2).2) (by decide) (by decide) ?_
      show Steps p.tables e below (s₁.setTop (mkF m 8 #[.val (.int p0), .val (.int p1), .val (.int p2), .val (.int p3), .val (.int p4)] [])) _
      refine XS.iloadN X0.here hx rfl (hb hby own_d1_8) rfl ?_
      show Steps p.tables e below (s₁.setTop (mkF m 9 #[.val (.int p0), .val (.int p1), .val (.int p2), .val (.int p3), .val (.int p4)] [(.int p0)])) _
      refine XS.iconst X0.here hx rfl (hb hby own_d1_9) ?_
      exact k
    refine own_End.go (fun t k => st7 _ k) ?_
    by_cases hc10_8 : p0 = (1 : Int32)
    · have st9 : ∀ t, Steps p.tables e below (s₁.setTop (mkF m 14 #[.val (.int p0), .val (.int p1), .val (.int p2), .val (.int p3), .val (.int p4)] [(.int (1 : Int32))])) t → Steps p.tables e below (s₁.setTop (mkF m 10 #[.val (.int p0), .val (.int p1), .val (.int p2), .val (.int p3), .val (.int p4)] [(.int (1 : Int32)), (.int p0)])) t := by
        intro t k
        show Steps p.tables e below (s₁.setTop (mkF m 10 #[.val (.int p0), .val (.int p1), .val (.int p2), .val (.int p3), .val (.int p4)] [(.int (1 : Int32)), (.int p0)])) _
        refine XS.icmpNo X0.here hx rfl (hb hby own_d1_10) rfl (teq hc10_8).2 ?_
        show Steps p.tables e below (s₁.setTop (mkF m 13 #[.val (.int p0), .val (.int p1), .val (.int p2), .val (.int p3), .val (.int p4)] [])) _
        refine XS.iconst X0.here hx rfl (hb hby own_d1_13) ?_
        exact k
      obtain ⟨T10, h10, b10, X10, e10, K10, q10, V10, st10⟩ := own_newA X0 hx hZ (ty := .int) rfl (hw _ (List.mem_of_getElem? (i := 1) rfl)) rfl e0 (g := (mkF m 14 #[.val (.int p0), .val (.int p1), .val (.int p2), .val (.int p3), .val (.int p4)] [(.int (1 : Int32))])) rfl (hb hby own_d1_14) rfl (1) (by decide) (cap := 1) (by decide) (by decide) (by decide) (by decide)
      have X10 : Stand p l e own_R1 s m #[(.int p0), (.int p1), (.int p2), (.int p3), (.int p4)] below meth c T10 [] 1 1 := X10
      have V10 : own_IA Z h10 b10 .int ([(0 : Int32)] : List Int32) := V10
      have g_b10 : n0 ≤ b10 := Nat.le_trans Z0 q10
      have sz_b10 : h0.size ≤ b10 := Nat.le_trans K0.1 q10
      have Zp11 : n0 ≤ h10.size := Nat.le_trans Z0 K10.1
      have Kz11 : Keep h0 h10 [] := K0.trans K10 all0
      have st12 : ∀ t, Steps p.tables e below (T10.setTop (mkF m 19 #[.val (.int p0), .val (.int p1), .val (.int p2), .val (.int p3), .val (.int p4)] [(.int p1), (.int (0 : Int32)), (.ref b10), (.ref b10)])) t → Steps p.tables e below (T10.setTop (mkF m 16 #[.val (.int p0), .val (.int p1), .val (.int p2), .val (.int p3), .val (.int p4)] [(.ref b10)])) t := by
        intro t k
        show Steps p.tables e below (T10.setTop (mkF m 16 #[.val (.int p0), .val (.int p1), .val (.int p2), .val (.int p3), .val (.int p4)] [(.ref b10)])) _
        refine XS.dup X10.here hx rfl (hb hby own_d1_16) rfl rfl ?_
        show Steps p.tables e below (T10.setTop (mkF m 17 #[.val (.int p0), .val (.int p1), .val (.int p2), .val (.int p3), .val (.int p4)] [(.ref b10), (.ref b10)])) _
        refine XS.iconst X10.here hx rfl (hb hby own_d1_17) ?_
        show Steps p.tables e below (T10.setTop (mkF m 18 #[.val (.int p0), .val (.int p1), .val (.int p2), .val (.int p3), .val (.int p4)] [(.int (0 : Int32)), (.ref b10), (.ref b10)])) _
        refine XS.iloadN X10.here hx rfl (hb hby own_d1_18) rfl ?_
        exact k
      obtain ⟨T13, h13, L13, X13, N13, e13, K13, V13, st13⟩ := own_iastoreI X10 hx hZ N0 e10 V10 (j := (0 : Int32)) (own_in (m := 1) rfl (by decide)) g_b10 (g := (mkF m 19 #[.val (.int p0), .val (.int p1), .val (.int p2), .val (.int p3), .val (.int p4)] [(.int p1), (.int (0 : Int32)), (.ref b10), (.ref b10)])) rfl rfl (hb hby own_d1_19)
      have V13 : own_IA Z h13 b10 .int ([p1] : List Int32) := V13
      have Zp14 : n0 ≤ h13.size := Nat.le_trans Zp11 K13.1
      have Kz14 : Keep h0 h13 [] := Kz11.trans K13 (allS (Or.inr sz_b10) all0)
      refine own_End.go (fun t k => st9 _ (st10 _ (st12 _ (st13 _ k)))) ?_
      exact own_leafR X13 hx Bd.notSynchronized Bd.returns rfl (hb hby own_d1_20) ⟨b10, rfl, N13, (by rw [e13]; exact Kz14), (by have := sz_b10; exact this), (show own_IA Z T13.heap b10 .int (own_G1_0 p0 p1 p2 p3 p4) from by
          rw [← (own_e1_15 hc1_2 hc10_8)]; exact (by rw [e13]; exact V13)), trivial⟩ (by decide) (by decide)
    · have st16 : ∀ t, Steps p.tables e below (s₁.setTop (mkF m 23 #[.val (.int p0), .val (.int p1), .val (.int p2), .val (.int p3), .val (.int p4)] [(.int (2 : Int32)), (.int p0)])) t → Steps p.tables e below (s₁.setTop (mkF m 10 #[.val (.int p0), .val (.int p1), .val (.int p2), .val (.int p3), .val (.int p4)] [(.int (1 : Int32)), (.int p0)])) t := by
        intro t k
        show Steps p.tables e below (s₁.setTop (mkF m 10 #[.val (.int p0), .val (.int p1), .val (.int p2), .val (.int p3), .val (.int p4)] [(.int (1 : Int32)), (.int p0)])) _
        refine XS.icmpYes X0.here hx rfl (pc0 := 10) (pc' := 21) rfl (hb hby own_d1_10) rfl (feq hc10_8).2 (by decide) (by decide) ?_
        show Steps p.tables e below (s₁.setTop (mkF m 21 #[.val (.int p0), .val (.int p1), .val (.int p2), .val (.int p3), .val (.int p4)] [])) _
        refine XS.iloadN X0.here hx rfl (hb hby own_d1_21) rfl ?_
        show Steps p.tables e below (s₁.setTop (mkF m 22 #[.val (.int p0), .val (.int p1), .val (.int p2), .val (.int p3), .val (.int p4)] [(.int p0)])) _
        refine XS.iconst X0.here hx rfl (hb hby own_d1_22) ?_
        exact k
      refine own_End.go (fun t k => st16 _ k) ?_
      by_cases hc23_17 : p0 = (2 : Int32)
      · have st18 : ∀ t, Steps p.tables e below (s₁.setTop (mkF m 27 #[.val (.int p0), .val (.int p1), .val (.int p2), .val (.int p3), .val (.int p4)] [(.int (2 : Int32))])) t → Steps p.tables e below (s₁.setTop (mkF m 23 #[.val (.int p0), .val (.int p1), .val (.int p2), .val (.int p3), .val (.int p4)] [(.int (2 : Int32)), (.int p0)])) t := by
          intro t k
          show Steps p.tables e below (s₁.setTop (mkF m 23 #[.val (.int p0), .val (.int p1), .val (.int p2), .val (.int p3), .val (.int p4)] [(.int (2 : Int32)), (.int p0)])) _
          refine XS.icmpNo X0.here hx rfl (hb hby own_d1_23) rfl (teq hc23_17).2 ?_
          show Steps p.tables e below (s₁.setTop (mkF m 26 #[.val (.int p0), .val (.int p1), .val (.int p2), .val (.int p3), .val (.int p4)] [])) _
          refine XS.iconst X0.here hx rfl (hb hby own_d1_26) ?_
          exact k
        obtain ⟨T19, h19, b19, X19, e19, K19, q19, V19, st19⟩ := own_newA X0 hx hZ (ty := .int) rfl (hw _ (List.mem_of_getElem? (i := 1) rfl)) rfl e0 (g := (mkF m 27 #[.val (.int p0), .val (.int p1), .val (.int p2), .val (.int p3), .val (.int p4)] [(.int (2 : Int32))])) rfl (hb hby own_d1_27) rfl (2) (by decide) (cap := 2) (by decide) (by decide) (by decide) (by decide)
        have X19 : Stand p l e own_R1 s m #[(.int p0), (.int p1), (.int p2), (.int p3), (.int p4)] below meth c T19 [] 1 2 := X19
        have V19 : own_IA Z h19 b19 .int ([(0 : Int32), (0 : Int32)] : List Int32) := V19
        have g_b19 : n0 ≤ b19 := Nat.le_trans Z0 q19
        have sz_b19 : h0.size ≤ b19 := Nat.le_trans K0.1 q19
        have Zp20 : n0 ≤ h19.size := Nat.le_trans Z0 K19.1
        have Kz20 : Keep h0 h19 [] := K0.trans K19 all0
        have st21 : ∀ t, Steps p.tables e below (T19.setTop (mkF m 32 #[.val (.int p0), .val (.int p1), .val (.int p2), .val (.int p3), .val (.int p4)] [(.int p1), (.int (0 : Int32)), (.ref b19), (.ref b19)])) t → Steps p.tables e below (T19.setTop (mkF m 29 #[.val (.int p0), .val (.int p1), .val (.int p2), .val (.int p3), .val (.int p4)] [(.ref b19)])) t := by
          intro t k
          show Steps p.tables e below (T19.setTop (mkF m 29 #[.val (.int p0), .val (.int p1), .val (.int p2), .val (.int p3), .val (.int p4)] [(.ref b19)])) _
          refine XS.dup X19.here hx rfl (hb hby own_d1_29) rfl rfl ?_
          show Steps p.tables e below (T19.setTop (mkF m 30 #[.val (.int p0), .val (.int p1), .val (.int p2), .val (.int p3), .val (.int p4)] [(.ref b19), (.ref b19)])) _
          refine XS.iconst X19.here hx rfl (hb hby own_d1_30) ?_
          show Steps p.tables e below (T19.setTop (mkF m 31 #[.val (.int p0), .val (.int p1), .val (.int p2), .val (.int p3), .val (.int p4)] [(.int (0 : Int32)), (.ref b19), (.ref b19)])) _
          refine XS.iloadN X19.here hx rfl (hb hby own_d1_31) rfl ?_
          exact k
        obtain ⟨T22, h22, L22, X22, N22, e22, K22, V22, st22⟩ := own_iastoreI X19 hx hZ N0 e19 V19 (j := (0 : Int32)) (own_in (m := 2) rfl (by decide)) g_b19 (g := (mkF m 32 #[.val (.int p0), .val (.int p1), .val (.int p2), .val (.int p3), .val (.int p4)] [(.int p1), (.int (0 : Int32)), (.ref b19), (.ref b19)])) rfl rfl (hb hby own_d1_32)
        have V22 : own_IA Z h22 b19 .int ([p1, (0 : Int32)] : List Int32) := V22
        have Zp23 : n0 ≤ h22.size := Nat.le_trans Zp20 K22.1
        have Kz23 : Keep h0 h22 [] := Kz20.trans K22 (allS (Or.inr sz_b19) all0)
        have st24 : ∀ t, Steps p.tables e below (T22.setTop (mkF m 36 #[.val (.int p0), .val (.int p1), .val (.int p2), .val (.int p3), .val (.int p4)] [(.int p2), (.int (1 : Int32)), (.ref b19), (.ref b19)])) t → Steps p.tables e below (T22.setTop (mkF m 33 #[.val (.int p0), .val (.int p1), .val (.int p2), .val (.int p3), .val (.int p4)] [(.ref b19)])) t := by
          intro t k
          show Steps p.tables e below (T22.setTop (mkF m 33 #[.val (.int p0), .val (.int p1), .val (.int p2), .val (.int p3), .val (.int p4)] [(.ref b19)])) _
          refine XS.dup X22.here hx rfl (hb hby own_d1_33) rfl rfl ?_
          show Steps p.tables e below (T22.setTop (mkF m 34 #[.val (.int p0), .val (.int p1), .val (.int p2), .val (.int p3), .val (.int p4)] [(.ref b19), (.ref b19)])) _
          refine XS.iconst X22.here hx rfl (hb hby own_d1_34) ?_
          show Steps p.tables e below (T22.setTop (mkF m 35 #[.val (.int p0), .val (.int p1), .val (.int p2), .val (.int p3), .val (.int p4)] [(.int (1 : Int32)), (.ref b19), (.ref b19)])) _
          refine XS.iloadN X22.here hx rfl (hb hby own_d1_35) rfl ?_
          exact k
        obtain ⟨T25, h25, L25, X25, N25, e25, K25, V25, st25⟩ := own_iastoreI X22 hx hZ N22 e22 V22 (j := (1 : Int32)) (own_in (m := 2) rfl (by decide)) g_b19 (g := (mkF m 36 #[.val (.int p0), .val (.int p1), .val (.int p2), .val (.int p3), .val (.int p4)] [(.int p2), (.int (1 : Int32)), (.ref b19), (.ref b19)])) rfl rfl (hb hby own_d1_36)
        have V25 : own_IA Z h25 b19 .int ([p1, p2] : List Int32) := V25
        have Zp26 : n0 ≤ h25.size := Nat.le_trans Zp23 K25.1
        have Kz26 : Keep h0 h25 [] := Kz23.trans K25 (allS (Or.inr sz_b19) all0)
        refine own_End.go (fun t k => st18 _ (st19 _ (st21 _ (st22 _ (st24 _ (st25 _ k)))))) ?_
        exact own_leafR X25 hx Bd.notSynchronized Bd.returns rfl (hb hby own_d1_37) ⟨b19, rfl, N25, (by rw [e25]; exact Kz26), (by have := sz_b19; exact this), (show own_IA Z T25.heap b19 .int (own_G1_0 p0 p1 p2 p3 p4) from by
            rw [← (own_e1_27 hc1_2 hc10_8 hc23_17)]; exact (by rw [e25]; exact V25)), trivial⟩ (by decide) (by decide)
      · have st28 : ∀ t, Steps p.tables e below (s₁.setTop (mkF m 40 #[.val (.int p0), .val (.int p1), .val (.int p2), .val (.int p3), .val (.int p4)] [(.int (3 : Int32)), (.int p0)])) t → Steps p.tables e below (s₁.setTop (mkF m 23 #[.val (.int p0), .val (.int p1), .val (.int p2), .val (.int p3), .val (.int p4)] [(.int (2 : Int32)), (.int p0)])) t := by
          intro t k
          show Steps p.tables e below (s₁.setTop (mkF m 23 #[.val (.int p0), .val (.int p1), .val (.int p2), .val (.int p3), .val (.int p4)] [(.int (2 : Int32)), (.int p0)])) _
          refine XS.icmpYes X0.here hx rfl (pc0 := 23) (pc' := 38) rfl (hb hby own_d1_23) rfl (feq hc23_17).2 (by decide) (by decide) ?_
          show Steps p.tables e below (s₁.setTop (mkF m 38 #[.val (.int p0), .val (.int p1), .val (.int p2), .val (.int p3), .val (.int p4)] [])) _
          refine XS.iloadN X0.here hx rfl (hb hby own_d1_38) rfl ?_
          show Steps p.tables e below (s₁.setTop (mkF m 39 #[.val (.int p0), .val (.int p1), .val (.int p2), .val (.int p3), .val (.int p4)] [(.int p0)])) _
          refine XS.iconst X0.here hx rfl (hb hby own_d1_39) ?_
          exact k
        refine own_End.go (fun t k => st28 _ k) ?_
        by_cases hc40_29 : p0 = (3 : Int32)
        · have st30 : ∀ t, Steps p.tables e below (s₁.setTop (mkF m 44 #[.val (.int p0), .val (.int p1), .val (.int p2), .val (.int p3), .val (.int p4)] [(.int (3 : Int32))])) t → Steps p.tables e below (s₁.setTop (mkF m 40 #[.val (.int p0), .val (.int p1), .val (.int p2), .val (.int p3), .val (.int p4)] [(.int (3 : Int32)), (.int p0)])) t := by
            intro t k
            show Steps p.tables e below (s₁.setTop (mkF m 40 #[.val (.int p0), .val (.int p1), .val (.int p2), .val (.int p3), .val (.int p4)] [(.int (3 : Int32)), (.int p0)])) _
            refine XS.icmpNo X0.here hx rfl (hb hby own_d1_40) rfl (teq hc40_29).2 ?_
            show Steps p.tables e below (s₁.setTop (mkF m 43 #[.val (.int p0), .val (.int p1), .val (.int p2), .val (.int p3), .val (.int p4)] [])) _
            refine XS.iconst X0.here hx rfl (hb hby own_d1_43) ?_
            exact k
          obtain ⟨T31, h31, b31, X31, e31, K31, q31, V31, st31⟩ := own_newA X0 hx hZ (ty := .int) rfl (hw _ (List.mem_of_getElem? (i := 1) rfl)) rfl e0 (g := (mkF m 44 #[.val (.int p0), .val (.int p1), .val (.int p2), .val (.int p3), .val (.int p4)] [(.int (3 : Int32))])) rfl (hb hby own_d1_44) rfl (3) (by decide) (cap := 3) (by decide) (by decide) (by decide) (by decide)
          have X31 : Stand p l e own_R1 s m #[(.int p0), (.int p1), (.int p2), (.int p3), (.int p4)] below meth c T31 [] 1 3 := X31
          have V31 : own_IA Z h31 b31 .int ([(0 : Int32), (0 : Int32), (0 : Int32)] : List Int32) := V31
          have g_b31 : n0 ≤ b31 := Nat.le_trans Z0 q31
          have sz_b31 : h0.size ≤ b31 := Nat.le_trans K0.1 q31
          have Zp32 : n0 ≤ h31.size := Nat.le_trans Z0 K31.1
          have Kz32 : Keep h0 h31 [] := K0.trans K31 all0
          have st33 : ∀ t, Steps p.tables e below (T31.setTop (mkF m 49 #[.val (.int p0), .val (.int p1), .val (.int p2), .val (.int p3), .val (.int p4)] [(.int p1), (.int (0 : Int32)), (.ref b31), (.ref b31)])) t → Steps p.tables e below (T31.setTop (mkF m 46 #[.val (.int p0), .val (.int p1), .val (.int p2), .val (.int p3), .val (.int p4)] [(.ref b31)])) t := by
            intro t k
            show Steps p.tables e below (T31.setTop (mkF m 46 #[.val (.int p0), .val (.int p1), .val (.int p2), .val (.int p3), .val (.int p4)] [(.ref b31)])) _
            refine XS.dup X31.here hx rfl (hb hby own_d1_46) rfl rfl ?_
            show Steps p.tables e below (T31.setTop (mkF m 47 #[.val (.int p0), .val (.int p1), .val (.int p2), .val (.int p3), .val (.int p4)] [(.ref b31), (.ref b31)])) _
            refine XS.iconst X31.here hx rfl (hb hby own_d1_47) ?_
            show Steps p.tables e below (T31.setTop (mkF m 48 #[.val (.int p0), .val (.int p1), .val (.int p2), .val (.int p3), .val (.int p4)] [(.int (0 : Int32)), (.ref b31), (.ref b31)])) _
            refine XS.iloadN X31.here hx rfl (hb hby own_d1_48) rfl ?_
            exact k
          obtain ⟨T34, h34, L34, X34, N34, e34, K34, V34, st34⟩ := own_iastoreI X31 hx hZ N0 e31 V31 (j := (0 : Int32)) (own_in (m := 3) rfl (by decide)) g_b31 (g := (mkF m 49 #[.val (.int p0), .val (.int p1), .val (.int p2), .val (.int p3), .val (.int p4)] [(.int p1), (.int (0 : Int32)), (.ref b31), (.ref b31)])) rfl rfl (hb hby own_d1_49)
          have V34 : own_IA Z h34 b31 .int ([p1, (0 : Int32), (0 : Int32)] : List Int32) := V34
          have Zp35 : n0 ≤ h34.size := Nat.le_trans Zp32 K34.1
          have Kz35 : Keep h0 h34 [] := Kz32.trans K34 (allS (Or.inr sz_b31) all0)
          have st36 : ∀ t, Steps p.tables e below (T34.setTop (mkF m 53 #[.val (.int p0), .val (.int p1), .val (.int p2), .val (.int p3), .val (.int p4)] [(.int p2), (.int (1 : Int32)), (.ref b31), (.ref b31)])) t → Steps p.tables e below (T34.setTop (mkF m 50 #[.val (.int p0), .val (.int p1), .val (.int p2), .val (.int p3), .val (.int p4)] [(.ref b31)])) t := by
            intro t k
            show Steps p.tables e below (T34.setTop (mkF m 50 #[.val (.int p0), .val (.int p1), .val (.int p2), .val (.int p3), .val (.int p4)] [(.ref b31)])) _
            refine XS.dup X34.here hx rfl (hb hby own_d1_50) rfl rfl ?_
            show Steps p.tables e below (T34.setTop (mkF m 51 #[.val (.int p0), .val (.int p1), .val (.int p2), .val (.int p3), .val (.int p4)] [(.ref b31), (.ref b31)])) _
            refine XS.iconst X34.here hx rfl (hb hby own_d1_51) ?_
            show Steps p.tables e below (T34.setTop (mkF m 52 #[.val (.int p0), .val (.int p1), .val (.int p2), .val (.int p3), .val (.int p4)] [(.int (1 : Int32)), (.ref b31), (.ref b31)])) _
            refine XS.iloadN X34.here hx rfl (hb hby own_d1_52) rfl ?_
            exact k
          obtain ⟨T37, h37, L37, X37, N37, e37, K37, V37, st37⟩ := own_iastoreI X34 hx hZ N34 e34 V34 (j := (1 : Int32)) (own_in (m := 3) rfl (by decide)) g_b31 (g := (mkF m 53 #[.val (.int p0), .val (.int p1), .val (.int p2), .val (.int p3), .val (.int p4)] [(.int p2), (.int (1 : Int32)), (.ref b31), (.ref b31)])) rfl rfl (hb hby own_d1_53)
          have V37 : own_IA Z h37 b31 .int ([p1, p2, (0 : Int32)] : List Int32) := V37
          have Zp38 : n0 ≤ h37.size := Nat.le_trans Zp35 K37.1
          have Kz38 : Keep h0 h37 [] := Kz35.trans K37 (allS (Or.inr sz_b31) all0)
          have st39 : ∀ t, Steps p.tables e below (T37.setTop (mkF m 57 #[.val (.int p0), .val (.int p1), .val (.int p2), .val (.int p3), .val (.int p4)] [(.int p3), (.int (2 : Int32)), (.ref b31), (.ref b31)])) t → Steps p.tables e below (T37.setTop (mkF m 54 #[.val (.int p0), .val (.int p1), .val (.int p2), .val (.int p3), .val (.int p4)] [(.ref b31)])) t := by
            intro t k
            show Steps p.tables e below (T37.setTop (mkF m 54 #[.val (.int p0), .val (.int p1), .val (.int p2), .val (.int p3), .val (.int p4)] [(.ref b31)])) _
            refine XS.dup X37.here hx rfl (hb hby own_d1_54) rfl rfl ?_
            show Steps p.tables e below (T37.setTop (mkF m 55 #[.val (.int p0), .val (.int p1), .val (.int p2), .val (.int p3), .val (.int p4)] [(.ref b31), (.ref b31)])) _
            refine XS.iconst X37.here hx rfl (hb hby own_d1_55) ?_
            show Steps p.tables e below (T37.setTop (mkF m 56 #[.val (.int p0), .val (.int p1), .val (.int p2), .val (.int p3), .val (.int p4)] [(.int (2 : Int32)), (.ref b31), (.ref b31)])) _
            refine XS.iloadN X37.here hx rfl (hb hby own_d1_56) rfl ?_
            exact k
          obtain ⟨T40, h40, L40, X40, N40, e40, K40, V40, st40⟩ := own_iastoreI X37 hx hZ N37 e37 V37 (j := (2 : Int32)) (own_in (m := 3) rfl (by decide)) g_b31 (g := (mkF m 57 #[.val (.int p0), .val (.int p1), .val (.int p2), .val (.int p3), .val (.int p4)] [(.int p3), (.int (2 : Int32)), (.ref b31), (.ref b31)])) rfl rfl (hb hby own_d1_57)
          have V40 : own_IA Z h40 b31 .int ([p1, p2, p3] : List Int32) := V40
          have Zp41 : n0 ≤ h40.size := Nat.le_trans Zp38 K40.1
          have Kz41 : Keep h0 h40 [] := Kz38.trans K40 (allS (Or.inr sz_b31) all0)
          refine own_End.go (fun t k => st30 _ (st31 _ (st33 _ (st34 _ (st36 _ (st37 _ (st39 _ (st40 _ k)))))))) ?_
          exact own_leafR X40 hx Bd.notSynchronized Bd.returns rfl (hb hby own_d1_58) ⟨b31, rfl, N40, (by rw [e40]; exact Kz41), (by have := sz_b31; exact this), (show own_IA Z T40.heap b31 .int (own_G1_0 p0 p1 p2 p3 p4) from by
              rw [← (own_e1_42 hc1_2 hc10_8 hc23_17 hc40_29)]; exact (by rw [e40]; exact V40)), trivial⟩ (by decide) (by decide)
        · have st43 : ∀ t, Steps p.tables e below (s₁.setTop (mkF m 60 #[.val (.int p0), .val (.int p1), .val (.int p2), .val (.int p3), .val (.int p4)] [(.int (4 : Int32))])) t → Steps p.tables e below (s₁.setTop (mkF m 40 #[.val (.int p0), .val (.int p1), .val (.int p2), .val (.int p3), .val (.int p4)] [(.int (3 : Int32)), (.int p0)])) t := by
            intro t k
            show Steps p.tables e below (s₁.setTop (mkF m 40 #[.val (.int p0), .val (.int p1), .val (.int p2), .val (.int p3), .val (.int p4)] [(.int (3 : Int32)), (.int p0)])) _
            refine XS.icmpYes X0.here hx rfl (pc0 := 40) (pc' := 59) rfl (hb hby own_d1_40) rfl (feq hc40_29).2 (by decide) (by decide) ?_
            show Steps p.tables e below (s₁.setTop (mkF m 59 #[.val (.int p0), .val (.int p1), .val (.int p2), .val (.int p3), .val (.int p4)] [])) _
            refine XS.iconst X0.here hx rfl (hb hby own_d1_59) ?_
            exact k
          obtain ⟨T44, h44, b44, X44, e44, K44, q44, V44, st44⟩ := own_newA X0 hx hZ (ty := .int) rfl (hw _ (List.mem_of_getElem? (i := 1) rfl)) rfl e0 (g := (mkF m 60 #[.val (.int p0), .val (.int p1), .val (.int p2), .val (.int p3), .val (.int p4)] [(.int (4 : Int32))])) rfl (hb hby own_d1_60) rfl (4) (by decide) (cap := 4) (by decide) (by decide) (by decide) (by decide)
          have X44 : Stand p l e own_R1 s m #[(.int p0), (.int p1), (.int p2), (.int p3), (.int p4)] below meth c T44 [] 1 4 := X44
          have V44 : own_IA Z h44 b44 .int ([(0 : Int32), (0 : Int32), (0 : Int32), (0 : Int32)] : List Int32) := V44
          have g_b44 : n0 ≤ b44 := Nat.le_trans Z0 q44
          have sz_b44 : h0.size ≤ b44 := Nat.le_trans K0.1 q44
          have Zp45 : n0 ≤ h44.size := Nat.le_trans Z0 K44.1
          have Kz45 : Keep h0 h44 [] := K0.trans K44 all0
          have st46 : ∀ t, Steps p.tables e below (T44.setTop (mkF m 65 #[.val (.int p0), .val (.int p1), .val (.int p2), .val (.int p3), .val (.int p4)] [(.int p1), (.int (0 : Int32)), (.ref b44), (.ref b44)])) t → Steps p.tables e below (T44.setTop (mkF m 62 #[.val (.int p0), .val (.int p1), .val (.int p2), .val (.int p3), .val (.int p4)] [(.ref b44)])) t := by
            intro t k
            show Steps p.tables e below (T44.setTop (mkF m 62 #[.val (.int p0), .val (.int p1), .val (.int p2), .val (.int p3), .val (.int p4)] [(.ref b44)])) _
            refine XS.dup X44.here hx rfl (hb hby own_d1_62) rfl rfl ?_
            show Steps p.tables e below (T44.setTop (mkF m 63 #[.val (.int p0), .val (.int p1), .val (.int p2), .val (.int p3), .val (.int p4)] [(.ref b44), (.ref b44)])) _
            refine XS.iconst X44.here hx rfl (hb hby own_d1_63) ?_
            show Steps p.tables e below (T44.setTop (mkF m 64 #[.val (.int p0), .val (.int p1), .val (.int p2), .val (.int p3), .val (.int p4)] [(.int (0 : Int32)), (.ref b44), (.ref b44)])) _
            refine XS.iloadN X44.here hx rfl (hb hby own_d1_64) rfl ?_
            exact k
          obtain ⟨T47, h47, L47, X47, N47, e47, K47, V47, st47⟩ := own_iastoreI X44 hx hZ N0 e44 V44 (j := (0 : Int32)) (own_in (m := 4) rfl (by decide)) g_b44 (g := (mkF m 65 #[.val (.int p0), .val (.int p1), .val (.int p2), .val (.int p3), .val (.int p4)] [(.int p1), (.int (0 : Int32)), (.ref b44), (.ref b44)])) rfl rfl (hb hby own_d1_65)
          have V47 : own_IA Z h47 b44 .int ([p1, (0 : Int32), (0 : Int32), (0 : Int32)] : List Int32) := V47
          have Zp48 : n0 ≤ h47.size := Nat.le_trans Zp45 K47.1
          have Kz48 : Keep h0 h47 [] := Kz45.trans K47 (allS (Or.inr sz_b44) all0)
          have st49 : ∀ t, Steps p.tables e below (T47.setTop (mkF m 69 #[.val (.int p0), .val (.int p1), .val (.int p2), .val (.int p3), .val (.int p4)] [(.int p2), (.int (1 : Int32)), (.ref b44), (.ref b44)])) t → Steps p.tables e below (T47.setTop (mkF m 66 #[.val (.int p0), .val (.int p1), .val (.int p2), .val (.int p3), .val (.int p4)] [(.ref b44)])) t := by
            intro t k
            show Steps p.tables e below (T47.setTop (mkF m 66 #[.val (.int p0), .val (.int p1), .val (.int p2), .val (.int p3), .val (.int p4)] [(.ref b44)])) _
            refine XS.dup X47.here hx rfl (hb hby own_d1_66) rfl rfl ?_
            show Steps p.tables e below (T47.setTop (mkF m 67 #[.val (.int p0), .val (.int p1), .val (.int p2), .val (.int p3), .val (.int p4)] [(.ref b44), (.ref b44)])) _
            refine XS.iconst X47.here hx rfl (hb hby own_d1_67) ?_
            show Steps p.tables e below (T47.setTop (mkF m 68 #[.val (.int p0), .val (.int p1), .val (.int p2), .val (.int p3), .val (.int p4)] [(.int (1 : Int32)), (.ref b44), (.ref b44)])) _
            refine XS.iloadN X47.here hx rfl (hb hby own_d1_68) rfl ?_
            exact k
          obtain ⟨T50, h50, L50, X50, N50, e50, K50, V50, st50⟩ := own_iastoreI X47 hx hZ N47 e47 V47 (j := (1 : Int32)) (own_in (m := 4) rfl (by decide)) g_b44 (g := (mkF m 69 #[.val (.int p0), .val (.int p1), .val (.int p2), .val (.int p3), .val (.int p4)] [(.int p2), (.int (1 : Int32)), (.ref b44), (.ref b44)])) rfl rfl (hb hby own_d1_69)
          have V50 : own_IA Z h50 b44 .int ([p1, p2, (0 : Int32), (0 : Int32)] : List Int32) := V50
          have Zp51 : n0 ≤ h50.size := Nat.le_trans Zp48 K50.1
          have Kz51 : Keep h0 h50 [] := Kz48.trans K50 (allS (Or.inr sz_b44) all0)
          have st52 : ∀ t, Steps p.tables e below (T50.setTop (mkF m 73 #[.val (.int p0), .val (.int p1), .val (.int p2), .val (.int p3), .val (.int p4)] [(.int p3), (.int (2 : Int32)), (.ref b44), (.ref b44)])) t → Steps p.tables e below (T50.setTop (mkF m 70 #[.val (.int p0), .val (.int p1), .val (.int p2), .val (.int p3), .val (.int p4)] [(.ref b44)])) t := by
            intro t k
            show Steps p.tables e below (T50.setTop (mkF m 70 #[.val (.int p0), .val (.int p1), .val (.int p2), .val (.int p3), .val (.int p4)] [(.ref b44)])) _
            refine XS.dup X50.here hx rfl (hb hby own_d1_70) rfl rfl ?_
            show Steps p.tables e below (T50.setTop (mkF m 71 #[.val (.int p0), .val (.int p1), .val (.int p2), .val (.int p3), .val (.int p4)] [(.ref b44), (.ref b44)])) _
            refine XS.iconst X50.here hx rfl (hb hby own_d1_71) ?_
            show Steps p.tables e below (T50.setTop (mkF m 72 #[.val (.int p0), .val (.int p1), .val (.int p2), .val (.int p3), .val (.int p4)] [(.int (2 : Int32)), (.ref b44), (.ref b44)])) _
            refine XS.iloadN X50.here hx rfl (hb hby own_d1_72) rfl ?_
            exact k
          obtain ⟨T53, h53, L53, X53, N53, e53, K53, V53, st53⟩ := own_iastoreI X50 hx hZ N50 e50 V50 (j := (2 : Int32)) (own_in (m := 4) rfl (by decide)) g_b44 (g := (mkF m 73 #[.val (.int p0), .val (.int p1), .val (.int p2), .val (.int p3), .val (.int p4)] [(.int p3), (.int (2 : Int32)), (.ref b44), (.ref b44)])) rfl rfl (hb hby own_d1_73)
          have V53 : own_IA Z h53 b44 .int ([p1, p2, p3, (0 : Int32)] : List Int32) := V53
          have Zp54 : n0 ≤ h53.size := Nat.le_trans Zp51 K53.1
          have Kz54 : Keep h0 h53 [] := Kz51.trans K53 (allS (Or.inr sz_b44) all0)
          have st55 : ∀ t, Steps p.tables e below (T53.setTop (mkF m 78 #[.val (.int p0), .val (.int p1), .val (.int p2), .val (.int p3), .val (.int p4)] [(.int p4), (.int (3 : Int32)), (.ref b44), (.ref b44)])) t → Steps p.tables e below (T53.setTop (mkF m 74 #[.val (.int p0), .val (.int p1), .val (.int p2), .val (.int p3), .val (.int p4)] [(.ref b44)])) t := by
            intro t k
            show Steps p.tables e below (T53.setTop (mkF m 74 #[.val (.int p0), .val (.int p1), .val (.int p2), .val (.int p3), .val (.int p4)] [(.ref b44)])) _
            refine XS.dup X53.here hx rfl (hb hby own_d1_74) rfl rfl ?_
            show Steps p.tables e below (T53.setTop (mkF m 75 #[.val (.int p0), .val (.int p1), .val (.int p2), .val (.int p3), .val (.int p4)] [(.ref b44), (.ref b44)])) _
            refine XS.iconst X53.here hx rfl (hb hby own_d1_75) ?_
            show Steps p.tables e below (T53.setTop (mkF m 76 #[.val (.int p0), .val (.int p1), .val (.int p2), .val (.int p3), .val (.int p4)] [(.int (3 : Int32)), (.ref b44), (.ref b44)])) _
            refine XS.iload X53.here hx rfl (hb hby own_d1_76) rfl ?_
            exact k
          obtain ⟨T56, h56, L56, X56, N56, e56, K56, V56, st56⟩ := own_iastoreI X53 hx hZ N53 e53 V53 (j := (3 : Int32)) (own_in (m := 4) rfl (by decide)) g_b44 (g := (mkF m 78 #[.val (.int p0), .val (.int p1), .val (.int p2), .val (.int p3), .val (.int p4)] [(.int p4), (.int (3 : Int32)), (.ref b44), (.ref b44)])) rfl rfl (hb hby own_d1_78)
          have V56 : own_IA Z h56 b44 .int ([p1, p2, p3, p4] : List Int32) := V56
          have Zp57 : n0 ≤ h56.size := Nat.le_trans Zp54 K56.1
          have Kz57 : Keep h0 h56 [] := Kz54.trans K56 (allS (Or.inr sz_b44) all0)
          refine own_End.go (fun t k => st43 _ (st44 _ (st46 _ (st47 _ (st49 _ (st50 _ (st52 _ (st53 _ (st55 _ (st56 _ k)))))))))) ?_
          exact own_leafR X56 hx Bd.notSynchronized Bd.returns rfl (hb hby own_d1_79) ⟨b44, rfl, N56, (by rw [e56]; exact Kz57), (by have := sz_b44; exact this), (show own_IA Z T56.heap b44 .int (own_G1_0 p0 p1 p2 p3 p4) from by
              rw [← (own_e1_58 hc1_2 hc10_8 hc23_17 hc40_29)]; exact (by rw [e56]; exact V56)), trivial⟩ (by decide) (by decide)
theorem own_d4_0 : decode method_4_code 0 = .ok (.iconst 0, 1) := by decide +kernel
theorem own_d4_1 : decode method_4_code 1 = .ok (.istore_n 3, 1) := by decide +kernel
theorem own_d4_2 : decode method_4_code 2 = .ok (.iload_n 1, 1) := by decide +kernel
theorem own_d4_3 : decode method_4_code 3 = .ok (.ifCond .le 13, 3) := by decide +kernel
theorem own_d4_6 : decode method_4_code 6 = .ok (.aload_n 2, 1) := by decide +kernel
theorem own_d4_7 : decode method_4_code 7 = .ok (.iconst 0, 1) := by decide +kernel
theorem own_d4_8 : decode method_4_code 8 = .ok (.iaload, 1) := by decide +kernel
theorem own_d4_9 : decode method_4_code 9 = .ok (.iload_n 0, 1) := by decide +kernel
theorem own_d4_10 : decode method_4_code 10 = .ok (.if_icmp .ge 6, 3) := by decide +kernel
theorem own_d4_13 : decode method_4_code 13 = .ok (.iinc 3 1, 3) := by decide +kernel
theorem own_d4_16 : decode method_4_code 16 = .ok (.iload_n 1, 1) := by decide +kernel
theorem own_d4_17 : decode method_4_code 17 = .ok (.iconst 1, 1) := by decide +kernel
theorem own_d4_18 : decode method_4_code 18 = .ok (.if_icmp .le 13, 3) := by decide +kernel
theorem own_d4_21 : decode method_4_code 21 = .ok (.aload_n 2, 1) := by decide +kernel
theorem own_d4_22 : decode method_4_code 22 = .ok (.iconst 1, 1) := by decide +kernel
theorem own_d4_23 : decode method_4_code 23 = .ok (.iaload, 1) := by decide +kernel
theorem own_d4_24 : decode method_4_code 24 = .ok (.iload_n 0, 1) := by decide +kernel
theorem own_d4_25 : decode method_4_code 25 = .ok (.if_icmp .ge 6, 3) := by decide +kernel
theorem own_d4_28 : decode method_4_code 28 = .ok (.iinc 3 1, 3) := by decide +kernel
theorem own_d4_31 : decode method_4_code 31 = .ok (.iload_n 1, 1) := by decide +kernel
theorem own_d4_32 : decode method_4_code 32 = .ok (.iconst 2, 1) := by decide +kernel
theorem own_d4_33 : decode method_4_code 33 = .ok (.if_icmp .le 13, 3) := by decide +kernel
theorem own_d4_36 : decode method_4_code 36 = .ok (.aload_n 2, 1) := by decide +kernel
theorem own_d4_37 : decode method_4_code 37 = .ok (.iconst 2, 1) := by decide +kernel
theorem own_d4_38 : decode method_4_code 38 = .ok (.iaload, 1) := by decide +kernel
theorem own_d4_39 : decode method_4_code 39 = .ok (.iload_n 0, 1) := by decide +kernel
theorem own_d4_40 : decode method_4_code 40 = .ok (.if_icmp .ge 6, 3) := by decide +kernel
theorem own_d4_43 : decode method_4_code 43 = .ok (.iinc 3 1, 3) := by decide +kernel
theorem own_d4_46 : decode method_4_code 46 = .ok (.iload_n 1, 1) := by decide +kernel
theorem own_d4_47 : decode method_4_code 47 = .ok (.iconst 3, 1) := by decide +kernel
theorem own_d4_48 : decode method_4_code 48 = .ok (.if_icmp .le 13, 3) := by decide +kernel
theorem own_d4_51 : decode method_4_code 51 = .ok (.aload_n 2, 1) := by decide +kernel
theorem own_d4_52 : decode method_4_code 52 = .ok (.iconst 3, 1) := by decide +kernel
theorem own_d4_53 : decode method_4_code 53 = .ok (.iaload, 1) := by decide +kernel
theorem own_d4_54 : decode method_4_code 54 = .ok (.iload_n 0, 1) := by decide +kernel
theorem own_d4_55 : decode method_4_code 55 = .ok (.if_icmp .ge 6, 3) := by decide +kernel
theorem own_d4_58 : decode method_4_code 58 = .ok (.iinc 3 1, 3) := by decide +kernel
theorem own_d4_61 : decode method_4_code 61 = .ok (.iload_n 3, 1) := by decide +kernel
theorem own_d4_62 : decode method_4_code 62 = .ok (.ireturn, 1) := by decide +kernel
theorem own_pn4 : plainName "com/example/overlaid_graphs/overlaidgraphs/graph/BucketsStartsPinLaw" = true := by first | (simp [plainName, overriddenIn]; done) | decide +kernel
theorem own_ef4 (m : MethodId) (p0 : Int32) (p1 : Int32) (o2 : Addr) : entryFrame m #[(.int p0), (.int p1), (.ref o2)] 4 = mkF m 0 #[.val (.int p0), .val (.int p1), .val (.ref o2), .unset] [] := by first | (simp [entryFrame, mkF, argsToLocals, Value.category]; done) | rfl
abbrev own_R4 : Room := { frames := 0, cells := 0, slots := 0, locals := 0 }
def own_F4 (p0 : Int32) (p1 : Int32) (K : List Int32) : Int32 :=
  let v9 : Int32 := (if (0 : Int32) < p1 then (if (List.getD K ((0 : Int32)).toInt.toNat 0) < p0 then ((0 : Int32) + (1 : Int32)) else (0 : Int32)) else (0 : Int32))
  let v19 : Int32 := (if (1 : Int32) < p1 then (if (List.getD K ((1 : Int32)).toInt.toNat 0) < p0 then (v9 + (1 : Int32)) else v9) else v9)
  let v29 : Int32 := (if (2 : Int32) < p1 then (if (List.getD K ((2 : Int32)).toInt.toNat 0) < p0 then (v19 + (1 : Int32)) else v19) else v19)
  if (3 : Int32) < p1 then
    if (List.getD K ((3 : Int32)).toInt.toNat 0) < p0 then
      let v35 : Int32 := (v29 + (1 : Int32))
      v35
    else
      v29
  else
    v29
def own_Q4 (Z : State) (p0 : Int32) (p1 : Int32) (o2 : Addr) (K : List Int32) (h0 : Heap) (n0 : Nat) (vz : Option Value) (h : Heap) (Lz : List Loc) : Prop := vz = some (.int (own_F4 p0 p1 K)) ∧ Lz = [] ∧ h = h0
theorem own_e4_38 {p0 : Int32} {p1 : Int32} {K : List Int32} {v9 : Int32} {v19 : Int32} {v29 : Int32} {v35 : Int32} (hv9 : v9 = (if (0 : Int32) < p1 then (if (List.getD K ((0 : Int32)).toInt.toNat 0) < p0 then ((0 : Int32) + (1 : Int32)) else (0 : Int32)) else (0 : Int32))) (hv19 : v19 = (if (1 : Int32) < p1 then (if (List.getD K ((1 : Int32)).toInt.toNat 0) < p0 then (v9 + (1 : Int32)) else v9) else v9)) (hv29 : v29 = (if (2 : Int32) < p1 then (if (List.getD K ((2 : Int32)).toInt.toNat 0) < p0 then (v19 + (1 : Int32)) else v19) else v19)) (hv35 : v35 = (v29 + (1 : Int32))) (hc48_32 : (3 : Int32) < p1) (hc55_34 : (List.getD K ((3 : Int32)).toInt.toNat 0) < p0) : v35 = (own_F4 p0 p1 K) := by
  subst hv9 hv19 hv29 hv35
  first
    | (simp only [own_F4, if_pos hc48_32, if_pos hc55_34]; done)
    | (exfalso; contradiction)
theorem own_e4_40 {p0 : Int32} {p1 : Int32} {K : List Int32} {v9 : Int32} {v19 : Int32} {v29 : Int32} (hv9 : v9 = (if (0 : Int32) < p1 then (if (List.getD K ((0 : Int32)).toInt.toNat 0) < p0 then ((0 : Int32) + (1 : Int32)) else (0 : Int32)) else (0 : Int32))) (hv19 : v19 = (if (1 : Int32) < p1 then (if (List.getD K ((1 : Int32)).toInt.toNat 0) < p0 then (v9 + (1 : Int32)) else v9) else v9)) (hv29 : v29 = (if (2 : Int32) < p1 then (if (List.getD K ((2 : Int32)).toInt.toNat 0) < p0 then (v19 + (1 : Int32)) else v19) else v19)) (hc48_32 : (3 : Int32) < p1) (hc55_34 : ¬ ((List.getD K ((3 : Int32)).toInt.toNat 0) < p0)) : v29 = (own_F4 p0 p1 K) := by
  subst hv9 hv19 hv29
  first
    | (simp only [own_F4, if_pos hc48_32, if_neg hc55_34]; done)
    | (exfalso; contradiction)
theorem own_e4_42 {p0 : Int32} {p1 : Int32} {K : List Int32} {v9 : Int32} {v19 : Int32} {v29 : Int32} (hv9 : v9 = (if (0 : Int32) < p1 then (if (List.getD K ((0 : Int32)).toInt.toNat 0) < p0 then ((0 : Int32) + (1 : Int32)) else (0 : Int32)) else (0 : Int32))) (hv19 : v19 = (if (1 : Int32) < p1 then (if (List.getD K ((1 : Int32)).toInt.toNat 0) < p0 then (v9 + (1 : Int32)) else v9) else v9)) (hv29 : v29 = (if (2 : Int32) < p1 then (if (List.getD K ((2 : Int32)).toInt.toNat 0) < p0 then (v19 + (1 : Int32)) else v19) else v19)) (hc48_32 : ¬ ((3 : Int32) < p1)) : v29 = (own_F4 p0 p1 K) := by
  subst hv9 hv19 hv29
  first
    | (simp only [own_F4, if_neg hc48_32]; done)
    | (exfalso; contradiction)
set_option maxRecDepth 65536 in
set_option maxHeartbeats 40000000 in
theorem own_rm4 (l : Launch) (Z : State) (a0 : Array Value) (hw : ∀ d ∈ tables_1, d.before a0 Z = true) (ws : List Jvm.Cond) (p0 : Int32) (p1 : Int32) (o2 : Addr) (K : List Int32) (h0 : Heap) (n0 : Nat) (Z0 : n0 ≤ h0.size) (V_o2 : own_IA Z h0 o2 .int K) (hK4 : K.length = 4) :
    MetFree l (⟨"com/example/overlaid_graphs/overlaidgraphs/graph/BucketsStartsPinLaw", "count", "(II[I)I"⟩ : MethodName) (head1 (Jvm.Cond.code (⟨"com/example/overlaid_graphs/overlaidgraphs/graph/BucketsStartsPinLaw", "count", "(II[I)I"⟩ : MethodName) method_4_code 4 (some .int) :: ws) own_R4) (fun a U => a = #[(.int p0), (.int p1), (.ref o2)] ∧ Z.Warmed39 U.vm ∧ U.heap = h0) (fun _ _ _ _ _ => True) (fun _ U o U' => ∃ vz Lz, o = .returned vz ∧ own_Q4 Z p0 p1 o2 K h0 n0 vz U'.heap Lz ∧ FrameEnd U o U' Lz own_R4.cells own_R4.slots) := by
  refine MetFree.of_bodySF (plainFor_of_name own_pn4) hisR ?_
  intro p e s m args below meth c s₁ Bd hml0 hP hK
  obtain ⟨rfl, hZ, hh⟩ := hP
  have hx := Bd.exec
  have hby := Bd.bytes
  have hml : c.maxLocals = 4 := hml0
  have hown : s.vm.findClass "com/example/overlaid_graphs/overlaidgraphs/graph/BucketsStartsPinLaw" = some m.cls := findClass_of_methodNamed Bd.named
  have hnm := (name_of_methodNamed Bd.named Bd.method).1
  have X0 : Stand p l e own_R4 s m #[(.int p0), (.int p1), (.ref o2)] below meth c s₁ [] 0 0 := Stand.of_body Bd
  have e0 : s₁.heap = h0 := by rw [← hh, Bd.state]; rfl
  show own_End p e below s (fun vz h Lz => vz = some (.int (own_F4 p0 p1 K)) ∧ Lz = [] ∧ h = h0) own_R4.cells own_R4.slots s₁ (entryFrame m #[(.int p0), (.int p1), (.ref o2)] 4)
  refine own_End.go (fun t k => castTop (own_ef4 m p0 p1 o2) k) ?_
  show own_End p e below s _ _ _ s₁ (mkF m 0 #[.val (.int p0), .val (.int p1), .val (.ref o2), .unset] [])
  have N0 := Fr.nil n0
  have K0 : Keep h0 h0 [] := Keep.refl h0 _
  have st1 : ∀ t, Steps p.tables e below (s₁.setTop (mkF m 3 #[.val (.int p0), .val (.int p1), .val (.ref o2), .val (.int (0 : Int32))] [(.int p1)])) t → Steps p.tables e below (s₁.setTop (mkF m 0 #[.val (.int p0), .val (.int p1), .val (.ref o2), .unset] [])) t := by
    intro t k
    show Steps p.tables e below (s₁.setTop (mkF m 0 #[.val (.int p0), .val (.int p1), .val (.ref o2), .unset] [])) _
    refine XS.iconst X0.here hx rfl (hb hby own_d4_0) ?_
    show Steps p.tables e below (s₁.setTop (mkF m 1 #[.val (.int p0), .val (.int p1), .val (.ref o2), .unset] [(.int (0 : Int32))])) _
    refine XS.istoreN X0.here hx rfl (hb hby own_d4_1) rfl (l' := #[.val (.int p0), .val (.int p1), .val (.ref o2), .val (.int (0 : Int32))]) rfl ?_
    show Steps p.tables e below (s₁.setTop (mkF m 2 #[.val (.int p0), .val (.int p1), .val (.ref o2), .val (.int (0 : Int32))] [])) _
    refine XS.iloadN X0.here hx rfl (hb hby own_d4_2) rfl ?_
    exact k
  obtain ⟨v9, hv9⟩ : ∃ z : Int32, z = (if (0 : Int32) < p1 then (if (List.getD K ((0 : Int32)).toInt.toNat 0) < p0 then ((0 : Int32) + (1 : Int32)) else (0 : Int32)) else (0 : Int32)) := ⟨_, rfl⟩
  have st10 : ∀ t, Steps p.tables e below (s₁.setTop (mkF m 16 #[.val (.int p0), .val (.int p1), .val (.ref o2), .val (.int v9)] [])) t → Steps p.tables e below (s₁.setTop (mkF m 3 #[.val (.int p0), .val (.int p1), .val (.ref o2), .val (.int (0 : Int32))] [(.int p1)])) t := by
    rw [hv9]
    by_cases hc3_2 : (0 : Int32) < p1
    · repeat rw [if_pos hc3_2]
      have st3 : ∀ t, Steps p.tables e below (s₁.setTop (mkF m 10 #[.val (.int p0), .val (.int p1), .val (.ref o2), .val (.int (0 : Int32))] [(.int p0), (.int (List.getD K ((0 : Int32)).toInt.toNat 0))])) t → Steps p.tables e below (s₁.setTop (mkF m 3 #[.val (.int p0), .val (.int p1), .val (.ref o2), .val (.int (0 : Int32))] [(.int p1)])) t := by
        intro t k
        show Steps p.tables e below (s₁.setTop (mkF m 3 #[.val (.int p0), .val (.int p1), .val (.ref o2), .val (.int (0 : Int32))] [(.int p1)])) _
        refine XS.ifNo X0.here hx rfl (hb hby own_d4_3) rfl ((if0 _ _).trans (tlt hc3_2).2.2.2) ?_
        show Steps p.tables e below (s₁.setTop (mkF m 6 #[.val (.int p0), .val (.int p1), .val (.ref o2), .val (.int (0 : Int32))] [])) _
        refine XS.aloadN X0.here hx rfl (hb hby own_d4_6) rfl rfl ?_
        show Steps p.tables e below (s₁.setTop (mkF m 7 #[.val (.int p0), .val (.int p1), .val (.ref o2), .val (.int (0 : Int32))] [(.ref o2)])) _
        refine XS.iconst X0.here hx rfl (hb hby own_d4_7) ?_
        show Steps p.tables e below (s₁.setTop (mkF m 8 #[.val (.int p0), .val (.int p1), .val (.ref o2), .val (.int (0 : Int32))] [(.int (0 : Int32)), (.ref o2)])) _
        refine own_ialoadI X0 hx hZ e0 V_o2 (j := (0 : Int32)) (own_in (m := 4) hK4 (by decide)) (g := (mkF m 8 #[.val (.int p0), .val (.int p1), .val (.ref o2), .val (.int (0 : Int32))] [(.int (0 : Int32)), (.ref o2)])) rfl rfl (hb hby own_d4_8) _ ?_
        show Steps p.tables e below (s₁.setTop (mkF m 9 #[.val (.int p0), .val (.int p1), .val (.ref o2), .val (.int (0 : Int32))] [(.int (List.getD K ((0 : Int32)).toInt.toNat 0))])) _
        refine XS.iloadN X0.here hx rfl (hb hby own_d4_9) rfl ?_
        exact k
      have st7 : ∀ t, Steps p.tables e below (s₁.setTop (mkF m 16 #[.val (.int p0), .val (.int p1), .val (.ref o2), .val (.int (if (List.getD K ((0 : Int32)).toInt.toNat 0) < p0 then ((0 : Int32) + (1 : Int32)) else (0 : Int32)))] [])) t → Steps p.tables e below (s₁.setTop (mkF m 10 #[.val (.int p0), .val (.int p1), .val (.ref o2), .val (.int (0 : Int32))] [(.int p0), (.int (List.getD K ((0 : Int32)).toInt.toNat 0))])) t := by
        by_cases hc10_4 : (List.getD K ((0 : Int32)).toInt.toNat 0) < p0
        · repeat rw [if_pos hc10_4]
          have st5 : ∀ t, Steps p.tables e below (s₁.setTop (mkF m 16 #[.val (.int p0), .val (.int p1), .val (.ref o2), .val (.int ((0 : Int32) + (1 : Int32)))] [])) t → Steps p.tables e below (s₁.setTop (mkF m 10 #[.val (.int p0), .val (.int p1), .val (.ref o2), .val (.int (0 : Int32))] [(.int p0), (.int (List.getD K ((0 : Int32)).toInt.toNat 0))])) t := by
            intro t k
            show Steps p.tables e below (s₁.setTop (mkF m 10 #[.val (.int p0), .val (.int p1), .val (.ref o2), .val (.int (0 : Int32))] [(.int p0), (.int (List.getD K ((0 : Int32)).toInt.toNat 0))])) _
            refine XS.icmpNo X0.here hx rfl (hb hby own_d4_10) rfl (tlt hc10_4).2.1 ?_
            show Steps p.tables e below (s₁.setTop (mkF m 13 #[.val (.int p0), .val (.int p1), .val (.ref o2), .val (.int (0 : Int32))] [])) _
            refine XS.iinc X0.here hx rfl (hb hby own_d4_13) rfl (l' := #[.val (.int p0), .val (.int p1), .val (.ref o2), .val (.int ((0 : Int32) + (1 : Int32)))]) rfl ?_
            exact k
          exact fun t k => st5 _ k
        · repeat rw [if_neg hc10_4]
          have st6 : ∀ t, Steps p.tables e below (s₁.setTop (mkF m 16 #[.val (.int p0), .val (.int p1), .val (.ref o2), .val (.int (0 : Int32))] [])) t → Steps p.tables e below (s₁.setTop (mkF m 10 #[.val (.int p0), .val (.int p1), .val (.ref o2), .val (.int (0 : Int32))] [(.int p0), (.int (List.getD K ((0 : Int32)).toInt.toNat 0))])) t := by
            intro t k
            show Steps p.tables e below (s₁.setTop (mkF m 10 #[.val (.int p0), .val (.int p1), .val (.ref o2), .val (.int (0 : Int32))] [(.int p0), (.int (List.getD K ((0 : Int32)).toInt.toNat 0))])) _
            refine XS.icmpYes X0.here hx rfl (pc0 := 10) (pc' := 16) rfl (hb hby own_d4_10) rfl (flt hc10_4).2.1 (by decide) (by decide) ?_
            exact k
          exact fun t k => st6 _ k
      exact fun t k => st3 _ (st7 _ k)
    · repeat rw [if_neg hc3_2]
      have st8 : ∀ t, Steps p.tables e below (s₁.setTop (mkF m 16 #[.val (.int p0), .val (.int p1), .val (.ref o2), .val (.int (0 : Int32))] [])) t → Steps p.tables e below (s₁.setTop (mkF m 3 #[.val (.int p0), .val (.int p1), .val (.ref o2), .val (.int (0 : Int32))] [(.int p1)])) t := by
        intro t k
        show Steps p.tables e below (s₁.setTop (mkF m 3 #[.val (.int p0), .val (.int p1), .val (.ref o2), .val (.int (0 : Int32))] [(.int p1)])) _
        refine XS.ifYes X0.here hx rfl (pc0 := 3) (pc' := 16) rfl (hb hby own_d4_3) rfl ((if0 _ _).trans (flt hc3_2).2.2.2) (by decide) (by decide) ?_
        exact k
      exact fun t k => st8 _ k
  have st11 : ∀ t, Steps p.tables e below (s₁.setTop (mkF m 18 #[.val (.int p0), .val (.int p1), .val (.ref o2), .val (.int v9)] [(.int (1 : Int32)), (.int p1)])) t → Steps p.tables e below (s₁.setTop (mkF m 16 #[.val (.int p0), .val (.int p1), .val (.ref o2), .val (.int v9)] [])) t := by
    intro t k
    show Steps p.tables e below (s₁.setTop (mkF m 16 #[.val (.int p0), .val (.int p1), .val (.ref o2), .val (.int v9)] [])) _
    refine XS.iloadN X0.here hx rfl (hb hby own_d4_16) rfl ?_
    show Steps p.tables e below (s₁.setTop (mkF m 17 #[.val (.int p0), .val (.int p1), .val (.ref o2), .val (.int v9)] [(.int p1)])) _
    refine XS.iconst X0.here hx rfl (hb hby own_d4_17) ?_
    exact k
  obtain ⟨v19, hv19⟩ : ∃ z : Int32, z = (if (1 : Int32) < p1 then (if (List.getD K ((1 : Int32)).toInt.toNat 0) < p0 then (v9 + (1 : Int32)) else v9) else v9) := ⟨_, rfl⟩
  have st20 : ∀ t, Steps p.tables e below (s₁.setTop (mkF m 31 #[.val (.int p0), .val (.int p1), .val (.ref o2), .val (.int v19)] [])) t → Steps p.tables e below (s₁.setTop (mkF m 18 #[.val (.int p0), .val (.int p1), .val (.ref o2), .val (.int v9)] [(.int (1 : Int32)), (.int p1)])) t := by
    rw [hv19]
    by_cases hc18_12 : (1 : Int32) < p1
    · repeat rw [if_pos hc18_12]
      have st13 : ∀ t, Steps p.tables e below (s₁.setTop (mkF m 25 #[.val (.int p0), .val (.int p1), .val (.ref o2), .val (.int v9)] [(.int p0), (.int (List.getD K ((1 : Int32)).toInt.toNat 0))])) t → Steps p.tables e below (s₁.setTop (mkF m 18 #[.val (.int p0), .val (.int p1), .val (.ref o2), .val (.int v9)] [(.int (1 : Int32)), (.int p1)])) t := by
        intro t k
        show Steps p.tables e below (s₁.setTop (mkF m 18 #[.val (.int p0), .val (.int p1), .val (.ref o2), .val (.int v9)] [(.int (1 : Int32)), (.int p1)])) _
        refine XS.icmpNo X0.here hx rfl (hb hby own_d4_18) rfl (tlt hc18_12).2.2.2 ?_
        show Steps p.tables e below (s₁.setTop (mkF m 21 #[.val (.int p0), .val (.int p1), .val (.ref o2), .val (.int v9)] [])) _
        refine XS.aloadN X0.here hx rfl (hb hby own_d4_21) rfl rfl ?_
        show Steps p.tables e below (s₁.setTop (mkF m 22 #[.val (.int p0), .val (.int p1), .val (.ref o2), .val (.int v9)] [(.ref o2)])) _
        refine XS.iconst X0.here hx rfl (hb hby own_d4_22) ?_
        show Steps p.tables e below (s₁.setTop (mkF m 23 #[.val (.int p0), .val (.int p1), .val (.ref o2), .val (.int v9)] [(.int (1 : Int32)), (.ref o2)])) _
        refine own_ialoadI X0 hx hZ e0 V_o2 (j := (1 : Int32)) (own_in (m := 4) hK4 (by decide)) (g := (mkF m 23 #[.val (.int p0), .val (.int p1), .val (.ref o2), .val (.int v9)] [(.int (1 : Int32)), (.ref o2)])) rfl rfl (hb hby own_d4_23) _ ?_
        show Steps p.tables e below (s₁.setTop (mkF m 24 #[.val (.int p0), .val (.int p1), .val (.ref o2), .val (.int v9)] [(.int (List.getD K ((1 : Int32)).toInt.toNat 0))])) _
        refine XS.iloadN X0.here hx rfl (hb hby own_d4_24) rfl ?_
        exact k
      have st17 : ∀ t, Steps p.tables e below (s₁.setTop (mkF m 31 #[.val (.int p0), .val (.int p1), .val (.ref o2), .val (.int (if (List.getD K ((1 : Int32)).toInt.toNat 0) < p0 then (v9 + (1 : Int32)) else v9))] [])) t → Steps p.tables e below (s₁.setTop (mkF m 25 #[.val (.int p0), .val (.int p1), .val (.ref o2), .val (.int v9)] [(.int p0), (.int (List.getD K ((1 : Int32)).toInt.toNat 0))])) t := by
        by_cases hc25_14 : (List.getD K ((1 : Int32)).toInt.toNat 0) < p0
        · repeat rw [if_pos hc25_14]
          have st15 : ∀ t, Steps p.tables e below (s₁.setTop (mkF m 31 #[.val (.int p0), .val (.int p1), .val (.ref o2), .val (.int (v9 + (1 : Int32)))] [])) t → Steps p.tables e below (s₁.setTop (mkF m 25 #[.val (.int p0), .val (.int p1), .val (.ref o2), .val (.int v9)] [(.int p0), (.int (List.getD K ((1 : Int32)).toInt.toNat 0))])) t := by
            intro t k
            show Steps p.tables e below (s₁.setTop (mkF m 25 #[.val (.int p0), .val (.int p1), .val (.ref o2), .val (.int v9)] [(.int p0), (.int (List.getD K ((1 : Int32)).toInt.toNat 0))])) _
            refine XS.icmpNo X0.here hx rfl (hb hby own_d4_25) rfl (tlt hc25_14).2.1 ?_
            show Steps p.tables e below (s₁.setTop (mkF m 28 #[.val (.int p0), .val (.int p1), .val (.ref o2), .val (.int v9)] [])) _
            refine XS.iinc X0.here hx rfl (hb hby own_d4_28) rfl (l' := #[.val (.int p0), .val (.int p1), .val (.ref o2), .val (.int (v9 + (1 : Int32)))]) rfl ?_
            exact k
          exact fun t k => st15 _ k
        · repeat rw [if_neg hc25_14]
          have st16 : ∀ t, Steps p.tables e below (s₁.setTop (mkF m 31 #[.val (.int p0), .val (.int p1), .val (.ref o2), .val (.int v9)] [])) t → Steps p.tables e below (s₁.setTop (mkF m 25 #[.val (.int p0), .val (.int p1), .val (.ref o2), .val (.int v9)] [(.int p0), (.int (List.getD K ((1 : Int32)).toInt.toNat 0))])) t := by
            intro t k
            show Steps p.tables e below (s₁.setTop (mkF m 25 #[.val (.int p0), .val (.int p1), .val (.ref o2), .val (.int v9)] [(.int p0), (.int (List.getD K ((1 : Int32)).toInt.toNat 0))])) _
            refine XS.icmpYes X0.here hx rfl (pc0 := 25) (pc' := 31) rfl (hb hby own_d4_25) rfl (flt hc25_14).2.1 (by decide) (by decide) ?_
            exact k
          exact fun t k => st16 _ k
      exact fun t k => st13 _ (st17 _ k)
    · repeat rw [if_neg hc18_12]
      have st18 : ∀ t, Steps p.tables e below (s₁.setTop (mkF m 31 #[.val (.int p0), .val (.int p1), .val (.ref o2), .val (.int v9)] [])) t → Steps p.tables e below (s₁.setTop (mkF m 18 #[.val (.int p0), .val (.int p1), .val (.ref o2), .val (.int v9)] [(.int (1 : Int32)), (.int p1)])) t := by
        intro t k
        show Steps p.tables e below (s₁.setTop (mkF m 18 #[.val (.int p0), .val (.int p1), .val (.ref o2), .val (.int v9)] [(.int (1 : Int32)), (.int p1)])) _
        refine XS.icmpYes X0.here hx rfl (pc0 := 18) (pc' := 31) rfl (hb hby own_d4_18) rfl (flt hc18_12).2.2.2 (by decide) (by decide) ?_
        exact k
      exact fun t k => st18 _ k
  have st21 : ∀ t, Steps p.tables e below (s₁.setTop (mkF m 33 #[.val (.int p0), .val (.int p1), .val (.ref o2), .val (.int v19)] [(.int (2 : Int32)), (.int p1)])) t → Steps p.tables e below (s₁.setTop (mkF m 31 #[.val (.int p0), .val (.int p1), .val (.ref o2), .val (.int v19)] [])) t := by
    intro t k
    show Steps p.tables e below (s₁.setTop (mkF m 31 #[.val (.int p0), .val (.int p1), .val (.ref o2), .val (.int v19)] [])) _
    refine XS.iloadN X0.here hx rfl (hb hby own_d4_31) rfl ?_
    show Steps p.tables e below (s₁.setTop (mkF m 32 #[.val (.int p0), .val (.int p1), .val (.ref o2), .val (.int v19)] [(.int p1)])) _
    refine XS.iconst X0.here hx rfl (hb hby own_d4_32) ?_
    exact k
  obtain ⟨v29, hv29⟩ : ∃ z : Int32, z = (if (2 : Int32) < p1 then (if (List.getD K ((2 : Int32)).toInt.toNat 0) < p0 then (v19 + (1 : Int32)) else v19) else v19) := ⟨_, rfl⟩
  have st30 : ∀ t, Steps p.tables e below (s₁.setTop (mkF m 46 #[.val (.int p0), .val (.int p1), .val (.ref o2), .val (.int v29)] [])) t → Steps p.tables e below (s₁.setTop (mkF m 33 #[.val (.int p0), .val (.int p1), .val (.ref o2), .val (.int v19)] [(.int (2 : Int32)), (.int p1)])) t := by
    rw [hv29]
    by_cases hc33_22 : (2 : Int32) < p1
    · repeat rw [if_pos hc33_22]
      have st23 : ∀ t, Steps p.tables e below (s₁.setTop (mkF m 40 #[.val (.int p0), .val (.int p1), .val (.ref o2), .val (.int v19)] [(.int p0), (.int (List.getD K ((2 : Int32)).toInt.toNat 0))])) t → Steps p.tables e below (s₁.setTop (mkF m 33 #[.val (.int p0), .val (.int p1), .val (.ref o2), .val (.int v19)] [(.int (2 : Int32)), (.int p1)])) t := by
        intro t k
        show Steps p.tables e below (s₁.setTop (mkF m 33 #[.val (.int p0), .val (.int p1), .val (.ref o2), .val (.int v19)] [(.int (2 : Int32)), (.int p1)])) _
        refine XS.icmpNo X0.here hx rfl (hb hby own_d4_33) rfl (tlt hc33_22).2.2.2 ?_
        show Steps p.tables e below (s₁.setTop (mkF m 36 #[.val (.int p0), .val (.int p1), .val (.ref o2), .val (.int v19)] [])) _
        refine XS.aloadN X0.here hx rfl (hb hby own_d4_36) rfl rfl ?_
        show Steps p.tables e below (s₁.setTop (mkF m 37 #[.val (.int p0), .val (.int p1), .val (.ref o2), .val (.int v19)] [(.ref o2)])) _
        refine XS.iconst X0.here hx rfl (hb hby own_d4_37) ?_
        show Steps p.tables e below (s₁.setTop (mkF m 38 #[.val (.int p0), .val (.int p1), .val (.ref o2), .val (.int v19)] [(.int (2 : Int32)), (.ref o2)])) _
        refine own_ialoadI X0 hx hZ e0 V_o2 (j := (2 : Int32)) (own_in (m := 4) hK4 (by decide)) (g := (mkF m 38 #[.val (.int p0), .val (.int p1), .val (.ref o2), .val (.int v19)] [(.int (2 : Int32)), (.ref o2)])) rfl rfl (hb hby own_d4_38) _ ?_
        show Steps p.tables e below (s₁.setTop (mkF m 39 #[.val (.int p0), .val (.int p1), .val (.ref o2), .val (.int v19)] [(.int (List.getD K ((2 : Int32)).toInt.toNat 0))])) _
        refine XS.iloadN X0.here hx rfl (hb hby own_d4_39) rfl ?_
        exact k
      have st27 : ∀ t, Steps p.tables e below (s₁.setTop (mkF m 46 #[.val (.int p0), .val (.int p1), .val (.ref o2), .val (.int (if (List.getD K ((2 : Int32)).toInt.toNat 0) < p0 then (v19 + (1 : Int32)) else v19))] [])) t → Steps p.tables e below (s₁.setTop (mkF m 40 #[.val (.int p0), .val (.int p1), .val (.ref o2), .val (.int v19)] [(.int p0), (.int (List.getD K ((2 : Int32)).toInt.toNat 0))])) t := by
        by_cases hc40_24 : (List.getD K ((2 : Int32)).toInt.toNat 0) < p0
        · repeat rw [if_pos hc40_24]
          have st25 : ∀ t, Steps p.tables e below (s₁.setTop (mkF m 46 #[.val (.int p0), .val (.int p1), .val (.ref o2), .val (.int (v19 + (1 : Int32)))] [])) t → Steps p.tables e below (s₁.setTop (mkF m 40 #[.val (.int p0), .val (.int p1), .val (.ref o2), .val (.int v19)] [(.int p0), (.int (List.getD K ((2 : Int32)).toInt.toNat 0))])) t := by
            intro t k
            show Steps p.tables e below (s₁.setTop (mkF m 40 #[.val (.int p0), .val (.int p1), .val (.ref o2), .val (.int v19)] [(.int p0), (.int (List.getD K ((2 : Int32)).toInt.toNat 0))])) _
            refine XS.icmpNo X0.here hx rfl (hb hby own_d4_40) rfl (tlt hc40_24).2.1 ?_
            show Steps p.tables e below (s₁.setTop (mkF m 43 #[.val (.int p0), .val (.int p1), .val (.ref o2), .val (.int v19)] [])) _
            refine XS.iinc X0.here hx rfl (hb hby own_d4_43) rfl (l' := #[.val (.int p0), .val (.int p1), .val (.ref o2), .val (.int (v19 + (1 : Int32)))]) rfl ?_
            exact k
          exact fun t k => st25 _ k
        · repeat rw [if_neg hc40_24]
          have st26 : ∀ t, Steps p.tables e below (s₁.setTop (mkF m 46 #[.val (.int p0), .val (.int p1), .val (.ref o2), .val (.int v19)] [])) t → Steps p.tables e below (s₁.setTop (mkF m 40 #[.val (.int p0), .val (.int p1), .val (.ref o2), .val (.int v19)] [(.int p0), (.int (List.getD K ((2 : Int32)).toInt.toNat 0))])) t := by
            intro t k
            show Steps p.tables e below (s₁.setTop (mkF m 40 #[.val (.int p0), .val (.int p1), .val (.ref o2), .val (.int v19)] [(.int p0), (.int (List.getD K ((2 : Int32)).toInt.toNat 0))])) _
            refine XS.icmpYes X0.here hx rfl (pc0 := 40) (pc' := 46) rfl (hb hby own_d4_40) rfl (flt hc40_24).2.1 (by decide) (by decide) ?_
            exact k
          exact fun t k => st26 _ k
      exact fun t k => st23 _ (st27 _ k)
    · repeat rw [if_neg hc33_22]
      have st28 : ∀ t, Steps p.tables e below (s₁.setTop (mkF m 46 #[.val (.int p0), .val (.int p1), .val (.ref o2), .val (.int v19)] [])) t → Steps p.tables e below (s₁.setTop (mkF m 33 #[.val (.int p0), .val (.int p1), .val (.ref o2), .val (.int v19)] [(.int (2 : Int32)), (.int p1)])) t := by
        intro t k
        show Steps p.tables e below (s₁.setTop (mkF m 33 #[.val (.int p0), .val (.int p1), .val (.ref o2), .val (.int v19)] [(.int (2 : Int32)), (.int p1)])) _
        refine XS.icmpYes X0.here hx rfl (pc0 := 33) (pc' := 46) rfl (hb hby own_d4_33) rfl (flt hc33_22).2.2.2 (by decide) (by decide) ?_
        exact k
      exact fun t k => st28 _ k
  have st31 : ∀ t, Steps p.tables e below (s₁.setTop (mkF m 48 #[.val (.int p0), .val (.int p1), .val (.ref o2), .val (.int v29)] [(.int (3 : Int32)), (.int p1)])) t → Steps p.tables e below (s₁.setTop (mkF m 46 #[.val (.int p0), .val (.int p1), .val (.ref o2), .val (.int v29)] [])) t := by
    intro t k
    show Steps p.tables e below (s₁.setTop (mkF m 46 #[.val (.int p0), .val (.int p1), .val (.ref o2), .val (.int v29)] [])) _
    refine XS.iloadN X0.here hx rfl (hb hby own_d4_46) rfl ?_
    show Steps p.tables e below (s₁.setTop (mkF m 47 #[.val (.int p0), .val (.int p1), .val (.ref o2), .val (.int v29)] [(.int p1)])) _
    refine XS.iconst X0.here hx rfl (hb hby own_d4_47) ?_
    exact k
  refine own_End.go (fun t k => st1 _ (st10 _ (st11 _ (st20 _ (st21 _ (st30 _ (st31 _ k))))))) ?_
  by_cases hc48_32 : (3 : Int32) < p1
  · have st33 : ∀ t, Steps p.tables e below (s₁.setTop (mkF m 55 #[.val (.int p0), .val (.int p1), .val (.ref o2), .val (.int v29)] [(.int p0), (.int (List.getD K ((3 : Int32)).toInt.toNat 0))])) t → Steps p.tables e below (s₁.setTop (mkF m 48 #[.val (.int p0), .val (.int p1), .val (.ref o2), .val (.int v29)] [(.int (3 : Int32)), (.int p1)])) t := by
      intro t k
      show Steps p.tables e below (s₁.setTop (mkF m 48 #[.val (.int p0), .val (.int p1), .val (.ref o2), .val (.int v29)] [(.int (3 : Int32)), (.int p1)])) _
      refine XS.icmpNo X0.here hx rfl (hb hby own_d4_48) rfl (tlt hc48_32).2.2.2 ?_
      show Steps p.tables e below (s₁.setTop (mkF m 51 #[.val (.int p0), .val (.int p1), .val (.ref o2), .val (.int v29)] [])) _
      refine XS.aloadN X0.here hx rfl (hb hby own_d4_51) rfl rfl ?_
      show Steps p.tables e below (s₁.setTop (mkF m 52 #[.val (.int p0), .val (.int p1), .val (.ref o2), .val (.int v29)] [(.ref o2)])) _
      refine XS.iconst X0.here hx rfl (hb hby own_d4_52) ?_
      show Steps p.tables e below (s₁.setTop (mkF m 53 #[.val (.int p0), .val (.int p1), .val (.ref o2), .val (.int v29)] [(.int (3 : Int32)), (.ref o2)])) _
      refine own_ialoadI X0 hx hZ e0 V_o2 (j := (3 : Int32)) (own_in (m := 4) hK4 (by decide)) (g := (mkF m 53 #[.val (.int p0), .val (.int p1), .val (.ref o2), .val (.int v29)] [(.int (3 : Int32)), (.ref o2)])) rfl rfl (hb hby own_d4_53) _ ?_
      show Steps p.tables e below (s₁.setTop (mkF m 54 #[.val (.int p0), .val (.int p1), .val (.ref o2), .val (.int v29)] [(.int (List.getD K ((3 : Int32)).toInt.toNat 0))])) _
      refine XS.iloadN X0.here hx rfl (hb hby own_d4_54) rfl ?_
      exact k
    refine own_End.go (fun t k => st33 _ k) ?_
    by_cases hc55_34 : (List.getD K ((3 : Int32)).toInt.toNat 0) < p0
    · obtain ⟨v35, hv35⟩ : ∃ z : Int32, z = (v29 + (1 : Int32)) := ⟨_, rfl⟩
      have st36 : ∀ t, Steps p.tables e below (s₁.setTop (mkF m 61 #[.val (.int p0), .val (.int p1), .val (.ref o2), .val (.int v35)] [])) t → Steps p.tables e below (s₁.setTop (mkF m 55 #[.val (.int p0), .val (.int p1), .val (.ref o2), .val (.int v29)] [(.int p0), (.int (List.getD K ((3 : Int32)).toInt.toNat 0))])) t := by
        rw [hv35]
        intro t k
        show Steps p.tables e below (s₁.setTop (mkF m 55 #[.val (.int p0), .val (.int p1), .val (.ref o2), .val (.int v29)] [(.int p0), (.int (List.getD K ((3 : Int32)).toInt.toNat 0))])) _
        refine XS.icmpNo X0.here hx rfl (hb hby own_d4_55) rfl (tlt hc55_34).2.1 ?_
        show Steps p.tables e below (s₁.setTop (mkF m 58 #[.val (.int p0), .val (.int p1), .val (.ref o2), .val (.int v29)] [])) _
        refine XS.iinc X0.here hx rfl (hb hby own_d4_58) rfl (l' := #[.val (.int p0), .val (.int p1), .val (.ref o2), .val (.int (v29 + (1 : Int32)))]) rfl ?_
        exact k
      have st37 : ∀ t, Steps p.tables e below (s₁.setTop (mkF m 62 #[.val (.int p0), .val (.int p1), .val (.ref o2), .val (.int v35)] [(.int v35)])) t → Steps p.tables e below (s₁.setTop (mkF m 61 #[.val (.int p0), .val (.int p1), .val (.ref o2), .val (.int v35)] [])) t := by
        intro t k
        show Steps p.tables e below (s₁.setTop (mkF m 61 #[.val (.int p0), .val (.int p1), .val (.ref o2), .val (.int v35)] [])) _
        refine XS.iloadN X0.here hx rfl (hb hby own_d4_61) rfl ?_
        exact k
      refine own_End.go (fun t k => st36 _ (st37 _ k)) ?_
      exact own_leafI X0 hx Bd.notSynchronized Bd.returns (hb hby own_d4_62) ⟨congrArg (fun z => some (Value.int z)) (own_e4_38 hv9 hv19 hv29 hv35 hc48_32 hc55_34), rfl, e0⟩ (by decide) (by decide)
    · have st39 : ∀ t, Steps p.tables e below (s₁.setTop (mkF m 62 #[.val (.int p0), .val (.int p1), .val (.ref o2), .val (.int v29)] [(.int v29)])) t → Steps p.tables e below (s₁.setTop (mkF m 55 #[.val (.int p0), .val (.int p1), .val (.ref o2), .val (.int v29)] [(.int p0), (.int (List.getD K ((3 : Int32)).toInt.toNat 0))])) t := by
        intro t k
        show Steps p.tables e below (s₁.setTop (mkF m 55 #[.val (.int p0), .val (.int p1), .val (.ref o2), .val (.int v29)] [(.int p0), (.int (List.getD K ((3 : Int32)).toInt.toNat 0))])) _
        refine XS.icmpYes X0.here hx rfl (pc0 := 55) (pc' := 61) rfl (hb hby own_d4_55) rfl (flt hc55_34).2.1 (by decide) (by decide) ?_
        show Steps p.tables e below (s₁.setTop (mkF m 61 #[.val (.int p0), .val (.int p1), .val (.ref o2), .val (.int v29)] [])) _
        refine XS.iloadN X0.here hx rfl (hb hby own_d4_61) rfl ?_
        exact k
      refine own_End.go (fun t k => st39 _ k) ?_
      exact own_leafI X0 hx Bd.notSynchronized Bd.returns (hb hby own_d4_62) ⟨congrArg (fun z => some (Value.int z)) (own_e4_40 hv9 hv19 hv29 hc48_32 hc55_34), rfl, e0⟩ (by decide) (by decide)
  · have st41 : ∀ t, Steps p.tables e below (s₁.setTop (mkF m 62 #[.val (.int p0), .val (.int p1), .val (.ref o2), .val (.int v29)] [(.int v29)])) t → Steps p.tables e below (s₁.setTop (mkF m 48 #[.val (.int p0), .val (.int p1), .val (.ref o2), .val (.int v29)] [(.int (3 : Int32)), (.int p1)])) t := by
      intro t k
      show Steps p.tables e below (s₁.setTop (mkF m 48 #[.val (.int p0), .val (.int p1), .val (.ref o2), .val (.int v29)] [(.int (3 : Int32)), (.int p1)])) _
      refine XS.icmpYes X0.here hx rfl (pc0 := 48) (pc' := 61) rfl (hb hby own_d4_48) rfl (flt hc48_32).2.2.2 (by decide) (by decide) ?_
      show Steps p.tables e below (s₁.setTop (mkF m 61 #[.val (.int p0), .val (.int p1), .val (.ref o2), .val (.int v29)] [])) _
      refine XS.iloadN X0.here hx rfl (hb hby own_d4_61) rfl ?_
      exact k
    refine own_End.go (fun t k => st41 _ k) ?_
    exact own_leafI X0 hx Bd.notSynchronized Bd.returns (hb hby own_d4_62) ⟨congrArg (fun z => some (Value.int z)) (own_e4_42 hv9 hv19 hv29 hc48_32), rfl, e0⟩ (by decide) (by decide)
theorem own_d3_0 : decode method_5_code 0 = .ok (.iload_n 1, 1) := by decide +kernel
theorem own_d3_1 : decode method_5_code 1 = .ok (.iload_n 2, 1) := by decide +kernel
theorem own_d3_2 : decode method_5_code 2 = .ok (.if_icmp .le 5, 3) := by decide +kernel
theorem own_d3_5 : decode method_5_code 5 = .ok (.iconst 1, 1) := by decide +kernel
theorem own_d3_6 : decode method_5_code 6 = .ok (.ireturn, 1) := by decide +kernel
theorem own_d3_7 : decode method_5_code 7 = .ok (.aload_n 0, 1) := by decide +kernel
theorem own_d3_8 : decode method_5_code 8 = .ok (.iload_n 1, 1) := by decide +kernel
theorem own_d3_9 : decode method_5_code 9 = .ok (.iaload, 1) := by decide +kernel
theorem own_d3_10 : decode method_5_code 10 = .ok (.iload_n 1, 1) := by decide +kernel
theorem own_d3_11 : decode method_5_code 11 = .ok (.iload 5, 2) := by decide +kernel
theorem own_d3_13 : decode method_5_code 13 = .ok (.imul, 1) := by decide +kernel
theorem own_d3_14 : decode method_5_code 14 = .ok (.iload 6, 2) := by decide +kernel
theorem own_d3_16 : decode method_5_code 16 = .ok (.iload_n 1, 1) := by decide +kernel
theorem own_d3_17 : decode method_5_code 17 = .ok (.iload_n 3, 1) := by decide +kernel
theorem own_d3_18 : decode method_5_code 18 = .ok (.aload 4, 2) := by decide +kernel
theorem own_d3_20 : decode method_5_code 20 = .ok (.invokestatic 24, 3) := by decide +kernel
theorem own_d3_23 : decode method_5_code 23 = .ok (.imul, 1) := by decide +kernel
theorem own_d3_24 : decode method_5_code 24 = .ok (.iadd, 1) := by decide +kernel
theorem own_d3_25 : decode method_5_code 25 = .ok (.if_icmp .ne 7, 3) := by decide +kernel
theorem own_d3_28 : decode method_5_code 28 = .ok (.iconst 1, 1) := by decide +kernel
theorem own_d3_29 : decode method_5_code 29 = .ok (.goto 4, 3) := by decide +kernel
theorem own_d3_32 : decode method_5_code 32 = .ok (.iconst 0, 1) := by decide +kernel
theorem own_d3_33 : decode method_5_code 33 = .ok (.ireturn, 1) := by decide +kernel
theorem own_pn3 : plainName "com/example/overlaid_graphs/overlaidgraphs/graph/BucketsStartsPinLaw" = true := by first | (simp [plainName, overriddenIn]; done) | decide +kernel
theorem own_ef3 (m : MethodId) (o0 : Addr) (p1 : Int32) (p2 : Int32) (p3 : Int32) (o4 : Addr) (p5 : Int32) (p6 : Int32) : entryFrame m #[(.ref o0), (.int p1), (.int p2), (.int p3), (.ref o4), (.int p5), (.int p6)] 7 = mkF m 0 #[.val (.ref o0), .val (.int p1), .val (.int p2), .val (.int p3), .val (.ref o4), .val (.int p5), .val (.int p6)] [] := by first | (simp [entryFrame, mkF, argsToLocals, Value.category]; done) | rfl
abbrev own_R3 : Room := { frames := 1, cells := 0, slots := 0, locals := 18 }
def own_F3 (p1 : Int32) (p2 : Int32) (p3 : Int32) (p5 : Int32) (p6 : Int32) (R : List Int32) (K : List Int32) : Int32 :=
  if p2 < p1 then
    (1 : Int32)
  else
    let v7 : Int32 := (own_F4 p1 p3 K)
    if (List.getD R (p1).toInt.toNat 0) = ((p1 * p5) + (p6 * v7)) then
      (1 : Int32)
    else
      (0 : Int32)
def own_Q3 (Z : State) (o0 : Addr) (p1 : Int32) (p2 : Int32) (p3 : Int32) (o4 : Addr) (p5 : Int32) (p6 : Int32) (R : List Int32) (K : List Int32) (h0 : Heap) (n0 : Nat) (vz : Option Value) (h : Heap) (Lz : List Loc) : Prop := vz = some (.int (own_F3 p1 p2 p3 p5 p6 R K)) ∧ Lz = [] ∧ h = h0
theorem own_e3_4 {p1 : Int32} {p2 : Int32} {p3 : Int32} {p5 : Int32} {p6 : Int32} {R : List Int32} {K : List Int32} (hc2_2 : p2 < p1) : (nar .boolean (1 : Int32)) = (own_F3 p1 p2 p3 p5 p6 R K) := by
  rw [own_nb1]
  skip
  first
    | (simp only [own_F3, if_pos hc2_2]; done)
    | (exfalso; contradiction)
theorem own_e3_11 {p1 : Int32} {p2 : Int32} {p3 : Int32} {p5 : Int32} {p6 : Int32} {R : List Int32} {K : List Int32} {v7 : Int32} (hv7 : v7 = (own_F4 p1 p3 K)) (hc2_2 : ¬ (p2 < p1)) (hc25_9 : (List.getD R (p1).toInt.toNat 0) = ((p1 * p5) + (p6 * v7))) : (nar .boolean (1 : Int32)) = (own_F3 p1 p2 p3 p5 p6 R K) := by
  rw [own_nb1]
  subst hv7
  first
    | (simp only [own_F3, if_neg hc2_2, if_pos hc25_9]; done)
    | (exfalso; contradiction)
theorem own_e3_13 {p1 : Int32} {p2 : Int32} {p3 : Int32} {p5 : Int32} {p6 : Int32} {R : List Int32} {K : List Int32} {v7 : Int32} (hv7 : v7 = (own_F4 p1 p3 K)) (hc2_2 : ¬ (p2 < p1)) (hc25_9 : ¬ ((List.getD R (p1).toInt.toNat 0) = ((p1 * p5) + (p6 * v7)))) : (nar .boolean (0 : Int32)) = (own_F3 p1 p2 p3 p5 p6 R K) := by
  rw [own_nb0]
  subst hv7
  first
    | (simp only [own_F3, if_neg hc2_2, if_neg hc25_9]; done)
    | (exfalso; contradiction)
set_option maxRecDepth 65536 in
set_option maxHeartbeats 40000000 in
theorem own_rm3 (l : Launch) (Z : State) (a0 : Array Value) (hw : ∀ d ∈ tables_1, d.before a0 Z = true) (ws : List Jvm.Cond) (o0 : Addr) (p1 : Int32) (p2 : Int32) (p3 : Int32) (o4 : Addr) (p5 : Int32) (p6 : Int32) (R : List Int32) (K : List Int32) (h0 : Heap) (n0 : Nat) (Z0 : n0 ≤ h0.size) (V_o0 : own_IA Z h0 o0 .int R) (V_o4 : own_IA Z h0 o4 .int K) (hK4 : K.length = 4) (hb2 : ¬ p2 < p1 → 0 ≤ p1.toInt ∧ p1.toInt < (R.length : Int)) :
    MetFree l (⟨"com/example/overlaid_graphs/overlaidgraphs/graph/BucketsStartsPinLaw", "at", "([IIII[III)Z"⟩ : MethodName) (head1 (Jvm.Cond.code (⟨"com/example/overlaid_graphs/overlaidgraphs/graph/BucketsStartsPinLaw", "at", "([IIII[III)Z"⟩ : MethodName) method_5_code 7 (some .boolean) :: ws) own_R3) (fun a U => a = #[(.ref o0), (.int p1), (.int p2), (.int p3), (.ref o4), (.int p5), (.int p6)] ∧ Z.Warmed39 U.vm ∧ U.heap = h0) (fun _ _ _ _ _ => True) (fun _ U o U' => ∃ vz Lz, o = .returned vz ∧ own_Q3 Z o0 p1 p2 p3 o4 p5 p6 R K h0 n0 vz U'.heap Lz ∧ FrameEnd U o U' Lz own_R3.cells own_R3.slots) := by
  refine MetFree.of_bodySF (plainFor_of_name own_pn3) hisR ?_
  intro p e s m args below meth c s₁ Bd hml0 hP hK
  obtain ⟨rfl, hZ, hh⟩ := hP
  have hx := Bd.exec
  have hby := Bd.bytes
  have hml : c.maxLocals = 7 := hml0
  have hown : s.vm.findClass "com/example/overlaid_graphs/overlaidgraphs/graph/BucketsStartsPinLaw" = some m.cls := findClass_of_methodNamed Bd.named
  have hnm := (name_of_methodNamed Bd.named Bd.method).1
  have X0 : Stand p l e own_R3 s m #[(.ref o0), (.int p1), (.int p2), (.int p3), (.ref o4), (.int p5), (.int p6)] below meth c s₁ [] 0 0 := Stand.of_body Bd
  have e0 : s₁.heap = h0 := by rw [← hh, Bd.state]; rfl
  show own_End p e below s (fun vz h Lz => vz = some (.int (own_F3 p1 p2 p3 p5 p6 R K)) ∧ Lz = [] ∧ h = h0) own_R3.cells own_R3.slots s₁ (entryFrame m #[(.ref o0), (.int p1), (.int p2), (.int p3), (.ref o4), (.int p5), (.int p6)] 7)
  refine own_End.go (fun t k => castTop (own_ef3 m o0 p1 p2 p3 o4 p5 p6) k) ?_
  show own_End p e below s _ _ _ s₁ (mkF m 0 #[.val (.ref o0), .val (.int p1), .val (.int p2), .val (.int p3), .val (.ref o4), .val (.int p5), .val (.int p6)] [])
  have N0 := Fr.nil n0
  have K0 : Keep h0 h0 [] := Keep.refl h0 _
  have st1 : ∀ t, Steps p.tables e below (s₁.setTop (mkF m 2 #[.val (.ref o0), .val (.int p1), .val (.int p2), .val (.int p3), .val (.ref o4), .val (.int p5), .val (.int p6)] [(.int p2), (.int p1)])) t → Steps p.tables e below (s₁.setTop (mkF m 0 #[.val (.ref o0), .val (.int p1), .val (.int p2), .val (.int p3), .val (.ref o4), .val (.int p5), .val (.int p6)] [])) t := by
    intro t k
    show Steps p.tables e below (s₁.setTop (mkF m 0 #[.val (.ref o0), .val (.int p1), .val (.int p2), .val (.int p3), .val (.ref o4), .val (.int p5), .val (.int p6)] [])) _
    refine XS.iloadN X0.here hx rfl (hb hby own_d3_0) rfl ?_
    show Steps p.tables e below (s₁.setTop (mkF m 1 #[.val (.ref o0), .val (.int p1), .val (.int p2), .val (.int p3), .val (.ref o4), .val (.int p5), .val (.int p6)] [(.int p1)])) _
    refine XS.iloadN X0.here hx rfl (hb hby own_d3_1) rfl ?_
    exact k
  refine own_End.go (fun t k => st1 _ k) ?_
  by_cases hc2_2 : p2 < p1
  · have st3 : ∀ t, Steps p.tables e below (s₁.setTop (mkF m 6 #[.val (.ref o0), .val (.int p1), .val (.int p2), .val (.int p3), .val (.ref o4), .val (.int p5), .val (.int p6)] [(.int (1 : Int32))])) t → Steps p.tables e below (s₁.setTop (mkF m 2 #[.val (.ref o0), .val (.int p1), .val (.int p2), .val (.int p3), .val (.ref o4), .val (.int p5), .val (.int p6)] [(.int p2), (.int p1)])) t := by
      intro t k
      show Steps p.tables e below (s₁.setTop (mkF m 2 #[.val (.ref o0), .val (.int p1), .val (.int p2), .val (.int p3), .val (.ref o4), .val (.int p5), .val (.int p6)] [(.int p2), (.int p1)])) _
      refine XS.icmpNo X0.here hx rfl (hb hby own_d3_2) rfl (tlt hc2_2).2.2.2 ?_
      show Steps p.tables e below (s₁.setTop (mkF m 5 #[.val (.ref o0), .val (.int p1), .val (.int p2), .val (.int p3), .val (.ref o4), .val (.int p5), .val (.int p6)] [])) _
      refine XS.iconst X0.here hx rfl (hb hby own_d3_5) ?_
      exact k
    refine own_End.go (fun t k => st3 _ k) ?_
    exact own_leafN X0 hx Bd.notSynchronized (t := .boolean) Bd.returns (by simp) (hb hby own_d3_6) ⟨congrArg (fun z => some (Value.int z)) (own_e3_4 hc2_2), rfl, e0⟩ (by decide) (by decide)
  · have st5 : ∀ t, Steps p.tables e below (s₁.setTop (mkF m 20 #[.val (.ref o0), .val (.int p1), .val (.int p2), .val (.int p3), .val (.ref o4), .val (.int p5), .val (.int p6)] [(.ref o4), (.int p3), (.int p1), (.int p6), (.int (p1 * p5)), (.int (List.getD R (p1).toInt.toNat 0))])) t → Steps p.tables e below (s₁.setTop (mkF m 2 #[.val (.ref o0), .val (.int p1), .val (.int p2), .val (.int p3), .val (.ref o4), .val (.int p5), .val (.int p6)] [(.int p2), (.int p1)])) t := by
      intro t k
      show Steps p.tables e below (s₁.setTop (mkF m 2 #[.val (.ref o0), .val (.int p1), .val (.int p2), .val (.int p3), .val (.ref o4), .val (.int p5), .val (.int p6)] [(.int p2), (.int p1)])) _
      refine XS.icmpYes X0.here hx rfl (pc0 := 2) (pc' := 7) rfl (hb hby own_d3_2) rfl (flt hc2_2).2.2.2 (by decide) (by decide) ?_
      show Steps p.tables e below (s₁.setTop (mkF m 7 #[.val (.ref o0), .val (.int p1), .val (.int p2), .val (.int p3), .val (.ref o4), .val (.int p5), .val (.int p6)] [])) _
      refine XS.aloadN X0.here hx rfl (hb hby own_d3_7) rfl rfl ?_
      show Steps p.tables e below (s₁.setTop (mkF m 8 #[.val (.ref o0), .val (.int p1), .val (.int p2), .val (.int p3), .val (.ref o4), .val (.int p5), .val (.int p6)] [(.ref o0)])) _
      refine XS.iloadN X0.here hx rfl (hb hby own_d3_8) rfl ?_
      show Steps p.tables e below (s₁.setTop (mkF m 9 #[.val (.ref o0), .val (.int p1), .val (.int p2), .val (.int p3), .val (.ref o4), .val (.int p5), .val (.int p6)] [(.int p1), (.ref o0)])) _
      refine own_ialoadI X0 hx hZ e0 V_o0 (j := p1) (hb2 hc2_2) (g := (mkF m 9 #[.val (.ref o0), .val (.int p1), .val (.int p2), .val (.int p3), .val (.ref o4), .val (.int p5), .val (.int p6)] [(.int p1), (.ref o0)])) rfl rfl (hb hby own_d3_9) _ ?_
      show Steps p.tables e below (s₁.setTop (mkF m 10 #[.val (.ref o0), .val (.int p1), .val (.int p2), .val (.int p3), .val (.ref o4), .val (.int p5), .val (.int p6)] [(.int (List.getD R (p1).toInt.toNat 0))])) _
      refine XS.iloadN X0.here hx rfl (hb hby own_d3_10) rfl ?_
      show Steps p.tables e below (s₁.setTop (mkF m 11 #[.val (.ref o0), .val (.int p1), .val (.int p2), .val (.int p3), .val (.ref o4), .val (.int p5), .val (.int p6)] [(.int p1), (.int (List.getD R (p1).toInt.toNat 0))])) _
      refine XS.iload X0.here hx rfl (hb hby own_d3_11) rfl ?_
      show Steps p.tables e below (s₁.setTop (mkF m 13 #[.val (.ref o0), .val (.int p1), .val (.int p2), .val (.int p3), .val (.ref o4), .val (.int p5), .val (.int p6)] [(.int p5), (.int p1), (.int (List.getD R (p1).toInt.toNat 0))])) _
      refine XS.imul X0.here hx rfl (hb hby own_d3_13) rfl ?_
      show Steps p.tables e below (s₁.setTop (mkF m 14 #[.val (.ref o0), .val (.int p1), .val (.int p2), .val (.int p3), .val (.ref o4), .val (.int p5), .val (.int p6)] [(.int (p1 * p5)), (.int (List.getD R (p1).toInt.toNat 0))])) _
      refine XS.iload X0.here hx rfl (hb hby own_d3_14) rfl ?_
      show Steps p.tables e below (s₁.setTop (mkF m 16 #[.val (.ref o0), .val (.int p1), .val (.int p2), .val (.int p3), .val (.ref o4), .val (.int p5), .val (.int p6)] [(.int p6), (.int (p1 * p5)), (.int (List.getD R (p1).toInt.toNat 0))])) _
      refine XS.iloadN X0.here hx rfl (hb hby own_d3_16) rfl ?_
      show Steps p.tables e below (s₁.setTop (mkF m 17 #[.val (.ref o0), .val (.int p1), .val (.int p2), .val (.int p3), .val (.ref o4), .val (.int p5), .val (.int p6)] [(.int p1), (.int p6), (.int (p1 * p5)), (.int (List.getD R (p1).toInt.toNat 0))])) _
      refine XS.iloadN X0.here hx rfl (hb hby own_d3_17) rfl ?_
      show Steps p.tables e below (s₁.setTop (mkF m 18 #[.val (.ref o0), .val (.int p1), .val (.int p2), .val (.int p3), .val (.ref o4), .val (.int p5), .val (.int p6)] [(.int p3), (.int p1), (.int p6), (.int (p1 * p5)), (.int (List.getD R (p1).toInt.toNat 0))])) _
      refine XS.aload X0.here hx rfl (hb hby own_d3_18) rfl rfl ?_
      exact k
    obtain ⟨_, _, ⟨T6, L6, k6, n6⟩, -, X6, ⟨Lc6, hQ6, l6, y6, z6⟩, st6⟩ := Jvm.LawKit.callS X0 hx (y := (⟨"com/example/overlaid_graphs/overlaidgraphs/graph/BucketsStartsPinLaw", "count", "(II[I)I"⟩ : MethodName)) hown (mvT hZ (hw _ (List.mem_of_getElem? (i := 13) rfl))) (mvT hZ (hw _ (List.mem_of_getElem? (i := 14) rfl))) (mvT hZ (hw _ (List.mem_of_getElem? (i := 4) rfl))) (mvT hZ (hw _ (List.mem_of_getElem? (i := 15) rfl))) (by decide) (backOf (W := 3) (own_rm4 l Z a0 hw [] p1 p3 o4 K h0 n0 Z0 V_o4 (hK4)) hZ (hw _ (List.mem_of_getElem? (i := 15) rfl)) (hw _ (List.mem_of_getElem? (i := 4) rfl)) (by decide) (by decide)) (g := (mkF m 20 #[.val (.ref o0), .val (.int p1), .val (.int p2), .val (.int p3), .val (.ref o4), .val (.int p5), .val (.int p6)] [(.ref o4), (.int p3), (.int p1), (.int p6), (.int (p1 * p5)), (.int (List.getD R (p1).toInt.toNat 0))])) rfl (by rw [hml]; rfl) (argsL := [(.int p1), (.int p3), (.ref o4)]) (rest := [(.int p6), (.int (p1 * p5)), (.int (List.getD R (p1).toInt.toNat 0))]) (lenOf own_pd0 rfl) rfl (by show 2 * 0 + _ ≤ _; exact Nat.le_of_eq rfl) (hb hby own_d3_20) (fun _ _ => ⟨rfl, e0, (by decide : 0 + 0 ≤ _), (by decide : 0 + 0 ≤ _)⟩)
    dsimp only [Pt.U, Pt.locs, Pt.cells, Pt.slots] at X6 l6 y6 z6 st6 hQ6
    subst y6 z6
    obtain ⟨rfl, rfl, e6⟩ := hQ6
    have X6' : Stand p l e own_R3 s m #[(.ref o0), (.int p1), (.int p2), (.int p3), (.ref o4), (.int p5), (.int p6)] below meth c T6 [] 0 0 := by rw [show L6 = [] from by rw [l6]; first | rfl | exact List.append_nil _] at X6; exact X6
    obtain ⟨v7, hv7⟩ : ∃ z : Int32, z = (own_F4 p1 p3 K) := ⟨_, rfl⟩
    rw [← hv7] at st6
    have st8 : ∀ t, Steps p.tables e below (T6.setTop (mkF m 25 #[.val (.ref o0), .val (.int p1), .val (.int p2), .val (.int p3), .val (.ref o4), .val (.int p5), .val (.int p6)] [(.int ((p1 * p5) + (p6 * v7))), (.int (List.getD R (p1).toInt.toNat 0))])) t → Steps p.tables e below (T6.setTop (mkF m 23 #[.val (.ref o0), .val (.int p1), .val (.int p2), .val (.int p3), .val (.ref o4), .val (.int p5), .val (.int p6)] [(.int v7), (.int p6), (.int (p1 * p5)), (.int (List.getD R (p1).toInt.toNat 0))])) t := by
      intro t k
      show Steps p.tables e below (T6.setTop (mkF m 23 #[.val (.ref o0), .val (.int p1), .val (.int p2), .val (.int p3), .val (.ref o4), .val (.int p5), .val (.int p6)] [(.int v7), (.int p6), (.int (p1 * p5)), (.int (List.getD R (p1).toInt.toNat 0))])) _
      refine XS.imul X6'.here hx rfl (hb hby own_d3_23) rfl ?_
      show Steps p.tables e below (T6.setTop (mkF m 24 #[.val (.ref o0), .val (.int p1), .val (.int p2), .val (.int p3), .val (.ref o4), .val (.int p5), .val (.int p6)] [(.int (p6 * v7)), (.int (p1 * p5)), (.int (List.getD R (p1).toInt.toNat 0))])) _
      refine XS.iadd X6'.here hx rfl (hb hby own_d3_24) rfl ?_
      exact k
    refine own_End.go (fun t k => st5 _ (st6 _ (st8 _ k))) ?_
    by_cases hc25_9 : (List.getD R (p1).toInt.toNat 0) = ((p1 * p5) + (p6 * v7))
    · have st10 : ∀ t, Steps p.tables e below (T6.setTop (mkF m 33 #[.val (.ref o0), .val (.int p1), .val (.int p2), .val (.int p3), .val (.ref o4), .val (.int p5), .val (.int p6)] [(.int (1 : Int32))])) t → Steps p.tables e below (T6.setTop (mkF m 25 #[.val (.ref o0), .val (.int p1), .val (.int p2), .val (.int p3), .val (.ref o4), .val (.int p5), .val (.int p6)] [(.int ((p1 * p5) + (p6 * v7))), (.int (List.getD R (p1).toInt.toNat 0))])) t := by
        intro t k
        show Steps p.tables e below (T6.setTop (mkF m 25 #[.val (.ref o0), .val (.int p1), .val (.int p2), .val (.int p3), .val (.ref o4), .val (.int p5), .val (.int p6)] [(.int ((p1 * p5) + (p6 * v7))), (.int (List.getD R (p1).toInt.toNat 0))])) _
        refine XS.icmpNo X6'.here hx rfl (hb hby own_d3_25) rfl (teq hc25_9).2 ?_
        show Steps p.tables e below (T6.setTop (mkF m 28 #[.val (.ref o0), .val (.int p1), .val (.int p2), .val (.int p3), .val (.ref o4), .val (.int p5), .val (.int p6)] [])) _
        refine XS.iconst X6'.here hx rfl (hb hby own_d3_28) ?_
        show Steps p.tables e below (T6.setTop (mkF m 29 #[.val (.ref o0), .val (.int p1), .val (.int p2), .val (.int p3), .val (.ref o4), .val (.int p5), .val (.int p6)] [(.int (1 : Int32))])) _
        refine XS.goto X6'.here hx rfl (pc0 := 29) (pc' := 33) rfl (hb hby own_d3_29) (by decide) (by decide) ?_
        exact k
      refine own_End.go (fun t k => st10 _ k) ?_
      exact own_leafN X6' hx Bd.notSynchronized (t := .boolean) Bd.returns (by simp) (hb hby own_d3_33) ⟨congrArg (fun z => some (Value.int z)) (own_e3_11 hv7 hc2_2 hc25_9), rfl, e6⟩ (by decide) (by decide)
    · have st12 : ∀ t, Steps p.tables e below (T6.setTop (mkF m 33 #[.val (.ref o0), .val (.int p1), .val (.int p2), .val (.int p3), .val (.ref o4), .val (.int p5), .val (.int p6)] [(.int (0 : Int32))])) t → Steps p.tables e below (T6.setTop (mkF m 25 #[.val (.ref o0), .val (.int p1), .val (.int p2), .val (.int p3), .val (.ref o4), .val (.int p5), .val (.int p6)] [(.int ((p1 * p5) + (p6 * v7))), (.int (List.getD R (p1).toInt.toNat 0))])) t := by
        intro t k
        show Steps p.tables e below (T6.setTop (mkF m 25 #[.val (.ref o0), .val (.int p1), .val (.int p2), .val (.int p3), .val (.ref o4), .val (.int p5), .val (.int p6)] [(.int ((p1 * p5) + (p6 * v7))), (.int (List.getD R (p1).toInt.toNat 0))])) _
        refine XS.icmpYes X6'.here hx rfl (pc0 := 25) (pc' := 32) rfl (hb hby own_d3_25) rfl (feq hc25_9).2 (by decide) (by decide) ?_
        show Steps p.tables e below (T6.setTop (mkF m 32 #[.val (.ref o0), .val (.int p1), .val (.int p2), .val (.int p3), .val (.ref o4), .val (.int p5), .val (.int p6)] [])) _
        refine XS.iconst X6'.here hx rfl (hb hby own_d3_32) ?_
        exact k
      refine own_End.go (fun t k => st12 _ k) ?_
      exact own_leafN X6' hx Bd.notSynchronized (t := .boolean) Bd.returns (by simp) (hb hby own_d3_33) ⟨congrArg (fun z => some (Value.int z)) (own_e3_13 hv7 hc2_2 hc25_9), rfl, e6⟩ (by decide) (by decide)
theorem own_os2_30 {z0 : Value} {z1 : Value} {z2 : Value} {z3 : Value} {z4 : Value} {z5 : Value} {z6 : Value} {z7 : Value} {s8 : Slot} {v : Int32} (h : One s8) : storeLocals #[.val z0, .val z1, .val z2, .val z3, .val z4, .val z5, .val z6, .val z7, s8] 8 (.int v) = some #[.val z0, .val z1, .val z2, .val z3, .val z4, .val z5, .val z6, .val z7, .val (.int v)] := by
  rcases h with rfl | ⟨w, rfl, hw⟩
  · rfl
  · cases w <;> first | rfl | (simp [Value.category] at hw)
theorem own_d2_0 : decode prog_92_method_4_code 0 = .ok (.iload_n 0, 1) := by decide +kernel
theorem own_d2_1 : decode prog_92_method_4_code 1 = .ok (.iconst 1, 1) := by decide +kernel
theorem own_d2_2 : decode prog_92_method_4_code 2 = .ok (.iadd, 1) := by decide +kernel
theorem own_d2_3 : decode prog_92_method_4_code 3 = .ok (.newarray .int, 2) := by decide +kernel
theorem own_d2_5 : decode prog_92_method_4_code 5 = .ok (.astore 4, 2) := by decide +kernel
theorem own_d2_7 : decode prog_92_method_4_code 7 = .ok (.aload_n 1, 1) := by decide +kernel
theorem own_d2_8 : decode prog_92_method_4_code 8 = .ok (.astore 5, 2) := by decide +kernel
theorem own_d2_10 : decode prog_92_method_4_code 10 = .ok (.aload 5, 2) := by decide +kernel
theorem own_d2_12 : decode prog_92_method_4_code 12 = .ok (.arraylength, 1) := by decide +kernel
theorem own_d2_13 : decode prog_92_method_4_code 13 = .ok (.istore 6, 2) := by decide +kernel
theorem own_d2_15 : decode prog_92_method_4_code 15 = .ok (.iconst 0, 1) := by decide +kernel
theorem own_d2_16 : decode prog_92_method_4_code 16 = .ok (.istore 7, 2) := by decide +kernel
theorem own_d2_18 : decode prog_92_method_4_code 18 = .ok (.iload 7, 2) := by decide +kernel
theorem own_d2_20 : decode prog_92_method_4_code 20 = .ok (.iload 6, 2) := by decide +kernel
theorem own_d2_22 : decode prog_92_method_4_code 22 = .ok (.if_icmp .ge 27, 3) := by decide +kernel
theorem own_d2_25 : decode prog_92_method_4_code 25 = .ok (.aload 5, 2) := by decide +kernel
theorem own_d2_27 : decode prog_92_method_4_code 27 = .ok (.iload 7, 2) := by decide +kernel
theorem own_d2_29 : decode prog_92_method_4_code 29 = .ok (.iaload, 1) := by decide +kernel
theorem own_d2_30 : decode prog_92_method_4_code 30 = .ok (.istore 8, 2) := by decide +kernel
theorem own_d2_32 : decode prog_92_method_4_code 32 = .ok (.aload 4, 2) := by decide +kernel
theorem own_d2_34 : decode prog_92_method_4_code 34 = .ok (.iload 8, 2) := by decide +kernel
theorem own_d2_36 : decode prog_92_method_4_code 36 = .ok (.iconst 1, 1) := by decide +kernel
theorem own_d2_37 : decode prog_92_method_4_code 37 = .ok (.iadd, 1) := by decide +kernel
theorem own_d2_38 : decode prog_92_method_4_code 38 = .ok (.dup2, 1) := by decide +kernel
theorem own_d2_39 : decode prog_92_method_4_code 39 = .ok (.iaload, 1) := by decide +kernel
theorem own_d2_40 : decode prog_92_method_4_code 40 = .ok (.iload_n 3, 1) := by decide +kernel
theorem own_d2_41 : decode prog_92_method_4_code 41 = .ok (.iadd, 1) := by decide +kernel
theorem own_d2_42 : decode prog_92_method_4_code 42 = .ok (.iastore, 1) := by decide +kernel
theorem own_d2_43 : decode prog_92_method_4_code 43 = .ok (.iinc 7 1, 3) := by decide +kernel
theorem own_d2_46 : decode prog_92_method_4_code 46 = .ok (.goto (-28), 3) := by decide +kernel
theorem own_d2_49 : decode prog_92_method_4_code 49 = .ok (.iconst 0, 1) := by decide +kernel
theorem own_d2_50 : decode prog_92_method_4_code 50 = .ok (.istore 5, 2) := by decide +kernel
theorem own_d2_52 : decode prog_92_method_4_code 52 = .ok (.iload 5, 2) := by decide +kernel
theorem own_d2_54 : decode prog_92_method_4_code 54 = .ok (.iload_n 0, 1) := by decide +kernel
theorem own_d2_55 : decode prog_92_method_4_code 55 = .ok (.if_icmp .ge 26, 3) := by decide +kernel
theorem own_d2_58 : decode prog_92_method_4_code 58 = .ok (.aload 4, 2) := by decide +kernel
theorem own_d2_60 : decode prog_92_method_4_code 60 = .ok (.iload 5, 2) := by decide +kernel
theorem own_d2_62 : decode prog_92_method_4_code 62 = .ok (.iconst 1, 1) := by decide +kernel
theorem own_d2_63 : decode prog_92_method_4_code 63 = .ok (.iadd, 1) := by decide +kernel
theorem own_d2_64 : decode prog_92_method_4_code 64 = .ok (.dup2, 1) := by decide +kernel
theorem own_d2_65 : decode prog_92_method_4_code 65 = .ok (.iaload, 1) := by decide +kernel
theorem own_d2_66 : decode prog_92_method_4_code 66 = .ok (.aload 4, 2) := by decide +kernel
theorem own_d2_68 : decode prog_92_method_4_code 68 = .ok (.iload 5, 2) := by decide +kernel
theorem own_d2_70 : decode prog_92_method_4_code 70 = .ok (.iaload, 1) := by decide +kernel
theorem own_d2_71 : decode prog_92_method_4_code 71 = .ok (.iload_n 2, 1) := by decide +kernel
theorem own_d2_72 : decode prog_92_method_4_code 72 = .ok (.iadd, 1) := by decide +kernel
theorem own_d2_73 : decode prog_92_method_4_code 73 = .ok (.iadd, 1) := by decide +kernel
theorem own_d2_74 : decode prog_92_method_4_code 74 = .ok (.iastore, 1) := by decide +kernel
theorem own_d2_75 : decode prog_92_method_4_code 75 = .ok (.iinc 5 1, 3) := by decide +kernel
theorem own_d2_78 : decode prog_92_method_4_code 78 = .ok (.goto (-26), 3) := by decide +kernel
theorem own_d2_81 : decode prog_92_method_4_code 81 = .ok (.aload 4, 2) := by decide +kernel
theorem own_d2_83 : decode prog_92_method_4_code 83 = .ok (.areturn, 1) := by decide +kernel
theorem own_pn2 : plainName "com/example/overlaid_graphs/overlaidgraphs/graph/Buckets" = true := by first | (simp [plainName, overriddenIn]; done) | decide +kernel
theorem own_ef2 (m : MethodId) (p0 : Int32) (o1 : Addr) (p2 : Int32) (p3 : Int32) : entryFrame m #[(.int p0), (.ref o1), (.int p2), (.int p3)] 9 = mkF m 0 #[.val (.int p0), .val (.ref o1), .val (.int p2), .val (.int p3), .unset, .unset, .unset, .unset, .unset] [] := by first | (simp [entryFrame, mkF, argsToLocals, Value.category]; done) | rfl
abbrev own_R2 : Room := { frames := 0, cells := 1, slots := 5, locals := 0 }
def own_P2_52_0 (p0 : Int32) (p2 : Int32) (p3 : Int32) (K : List Int32) (v5 : Int32) (i : Int32) : Nat → Int32 → List Int32 → List Int32
  | 0, _, _ => []
  | fuel + 1, j, M =>
    if j < p0 then
      let v27 : Int32 := (j + (1 : Int32))
      (own_P2_52_0 p0 p2 p3 K v5 i fuel v27 (List.set M ((j + (1 : Int32))).toInt.toNat ((List.getD M ((j + (1 : Int32))).toInt.toNat 0) + ((List.getD M (j).toInt.toNat 0) + p2))))
    else
      M
theorem own_e2_30 {p0 : Int32} {p2 : Int32} {p3 : Int32} {K : List Int32} {v5 : Int32} {i : Int32} {fuel : Nat} {j : Int32} {M : List Int32} {v27 : Int32} (hv27 : v27 = (j + (1 : Int32))) (hc55_22 : j < p0) : (own_P2_52_0 p0 p2 p3 K v5 i fuel v27 (List.set M ((j + (1 : Int32))).toInt.toNat ((List.getD M ((j + (1 : Int32))).toInt.toNat 0) + ((List.getD M (j).toInt.toNat 0) + p2)))) = (own_P2_52_0 p0 p2 p3 K v5 i (fuel + 1) j M) := by
  subst hv27
  first
    | (simp only [own_P2_52_0, if_pos hc55_22]; done)
    | (exfalso; contradiction)
theorem own_e2_32 {p0 : Int32} {p2 : Int32} {p3 : Int32} {K : List Int32} {v5 : Int32} {i : Int32} {fuel : Nat} {j : Int32} {M : List Int32} (hc55_22 : ¬ (j < p0)) : M = (own_P2_52_0 p0 p2 p3 K v5 i (fuel + 1) j M) := by
  skip
  first
    | (simp only [own_P2_52_0, if_neg hc55_22]; done)
    | (exfalso; contradiction)
set_option maxRecDepth 65536 in
set_option maxHeartbeats 40000000 in
theorem own_lp2_52 {p : Program} {l : Launch} {e : Env} {s : State} {m : MethodId} {below : List Frame} {meth : Method} {c : Code} {Z : State} {a0 : Array Value} {h0 : Heap} {n0 : Nat} (hx : p.tables.exec = Jvm.exec) (hZ : Z.Warmed39 s.vm) (hw : ∀ d ∈ tables_1, d.before a0 Z = true) (hby : c.code = prog_92_method_4_code) (hml : c.maxLocals = 9) (hown : s.vm.findClass "com/example/overlaid_graphs/overlaidgraphs/graph/Buckets" = some m.cls) (hnm : meth.name = "starts") (hret : meth.sig.returnType = (some (.array .int))) (hk : meth.locks = false) (p0 : Int32) (o1 : Addr) (p2 : Int32) (p3 : Int32) (K : List Int32) (b2 : Addr) (v5 : Int32) (i : Int32) (s8 : Slot) (g_b2 : n0 ≤ b2) (sz_b2 : h0.size ≤ b2) (ne_o1_b2 : o1 ≠ b2) :
    ∀ (fuel : Nat) (T : State) (h : Heap) (locs : List Loc) (j : Int32) (M : List Int32) (X : Stand p l e own_R2 s m #[(.int p0), (.ref o1), (.int p2), (.int p3)] below meth c T locs 1 5) (N : Fr n0 locs) (eT : T.heap = h) (K0 : Keep h0 h []) (Zp : n0 ≤ h.size) (f_0 : own_IA Z h o1 .int K) (f_1 : own_IA Z h b2 .int M) (h5 : 0 ≤ p0.toInt ∧ p0.toInt ≤ 4) (hM : (M.length : Int) = p0.toInt + 1) (j1 : 0 ≤ j.toInt) (j2 : j.toInt ≤ p0.toInt) (hf : p0.toInt - j.toInt < (fuel : Int)), own_End p e below s (fun vz h Lz => ∃ b, vz = some (.ref b) ∧ Fr n0 Lz ∧ Keep h0 h [] ∧ h0.size ≤ b ∧ own_IA Z h b .int (own_P2_52_0 p0 p2 p3 K v5 i fuel j M) ∧ True) own_R2.cells own_R2.slots T (mkF m 52 #[.val (.int p0), .val (.ref o1), .val (.int p2), .val (.int p3), .val (.ref b2), .val (.int j), .val (.int v5), .val (.int i), s8] []) := by
  intro fuel
  induction fuel with
  | zero =>
    intro T h locs j M X N eT K0 Zp f_0 f_1 h5 hM j1 j2 hf
    exfalso
    omega
  | succ fuel ih =>
    intro T h locs j M X N eT K0 Zp f_0 f_1 h5 hM j1 j2 hf
    have st21 : ∀ t, Steps p.tables e below (T.setTop (mkF m 55 #[.val (.int p0), .val (.ref o1), .val (.int p2), .val (.int p3), .val (.ref b2), .val (.int j), .val (.int v5), .val (.int i), s8] [(.int p0), (.int j)])) t → Steps p.tables e below (T.setTop (mkF m 52 #[.val (.int p0), .val (.ref o1), .val (.int p2), .val (.int p3), .val (.ref b2), .val (.int j), .val (.int v5), .val (.int i), s8] [])) t := by
      intro t k
      show Steps p.tables e below (T.setTop (mkF m 52 #[.val (.int p0), .val (.ref o1), .val (.int p2), .val (.int p3), .val (.ref b2), .val (.int j), .val (.int v5), .val (.int i), s8] [])) _
      refine XS.iload X.here hx rfl (hb hby own_d2_52) rfl ?_
      show Steps p.tables e below (T.setTop (mkF m 54 #[.val (.int p0), .val (.ref o1), .val (.int p2), .val (.int p3), .val (.ref b2), .val (.int j), .val (.int v5), .val (.int i), s8] [(.int j)])) _
      refine XS.iloadN X.here hx rfl (hb hby own_d2_54) rfl ?_
      exact k
    refine own_End.go (fun t k => st21 _ k) ?_
    by_cases hc55_22 : j < p0
    · have st23 : ∀ t, Steps p.tables e below (T.setTop (mkF m 74 #[.val (.int p0), .val (.ref o1), .val (.int p2), .val (.int p3), .val (.ref b2), .val (.int j), .val (.int v5), .val (.int i), s8] [(.int ((List.getD M ((j + (1 : Int32))).toInt.toNat 0) + ((List.getD M (j).toInt.toNat 0) + p2))), (.int (j + (1 : Int32))), (.ref b2)])) t → Steps p.tables e below (T.setTop (mkF m 55 #[.val (.int p0), .val (.ref o1), .val (.int p2), .val (.int p3), .val (.ref b2), .val (.int j), .val (.int v5), .val (.int i), s8] [(.int p0), (.int j)])) t := by
        intro t k
        show Steps p.tables e below (T.setTop (mkF m 55 #[.val (.int p0), .val (.ref o1), .val (.int p2), .val (.int p3), .val (.ref b2), .val (.int j), .val (.int v5), .val (.int i), s8] [(.int p0), (.int j)])) _
        refine XS.icmpNo X.here hx rfl (hb hby own_d2_55) rfl (tlt hc55_22).2.1 ?_
        show Steps p.tables e below (T.setTop (mkF m 58 #[.val (.int p0), .val (.ref o1), .val (.int p2), .val (.int p3), .val (.ref b2), .val (.int j), .val (.int v5), .val (.int i), s8] [])) _
        refine XS.aload X.here hx rfl (hb hby own_d2_58) rfl rfl ?_
        show Steps p.tables e below (T.setTop (mkF m 60 #[.val (.int p0), .val (.ref o1), .val (.int p2), .val (.int p3), .val (.ref b2), .val (.int j), .val (.int v5), .val (.int i), s8] [(.ref b2)])) _
        refine XS.iload X.here hx rfl (hb hby own_d2_60) rfl ?_
        show Steps p.tables e below (T.setTop (mkF m 62 #[.val (.int p0), .val (.ref o1), .val (.int p2), .val (.int p3), .val (.ref b2), .val (.int j), .val (.int v5), .val (.int i), s8] [(.int j), (.ref b2)])) _
        refine XS.iconst X.here hx rfl (hb hby own_d2_62) ?_
        show Steps p.tables e below (T.setTop (mkF m 63 #[.val (.int p0), .val (.ref o1), .val (.int p2), .val (.int p3), .val (.ref b2), .val (.int j), .val (.int v5), .val (.int i), s8] [(.int (1 : Int32)), (.int j), (.ref b2)])) _
        refine XS.iadd X.here hx rfl (hb hby own_d2_63) rfl ?_
        show Steps p.tables e below (T.setTop (mkF m 64 #[.val (.int p0), .val (.ref o1), .val (.int p2), .val (.int p3), .val (.ref b2), .val (.int j), .val (.int v5), .val (.int i), s8] [(.int (j + (1 : Int32))), (.ref b2)])) _
        jvm_step X.here [X.here.top, hx, (hb hby own_d2_64), Value.category]
        show Steps p.tables e below (T.setTop (mkF m 65 #[.val (.int p0), .val (.ref o1), .val (.int p2), .val (.int p3), .val (.ref b2), .val (.int j), .val (.int v5), .val (.int i), s8] [(.int (j + (1 : Int32))), (.ref b2), (.int (j + (1 : Int32))), (.ref b2)])) _
        refine own_ialoadI X hx hZ eT f_1 (j := (j + (1 : Int32))) (own_nx h5 hM j1 hc55_22) (g := (mkF m 65 #[.val (.int p0), .val (.ref o1), .val (.int p2), .val (.int p3), .val (.ref b2), .val (.int j), .val (.int v5), .val (.int i), s8] [(.int (j + (1 : Int32))), (.ref b2), (.int (j + (1 : Int32))), (.ref b2)])) rfl rfl (hb hby own_d2_65) _ ?_
        show Steps p.tables e below (T.setTop (mkF m 66 #[.val (.int p0), .val (.ref o1), .val (.int p2), .val (.int p3), .val (.ref b2), .val (.int j), .val (.int v5), .val (.int i), s8] [(.int (List.getD M ((j + (1 : Int32))).toInt.toNat 0)), (.int (j + (1 : Int32))), (.ref b2)])) _
        refine XS.aload X.here hx rfl (hb hby own_d2_66) rfl rfl ?_
        show Steps p.tables e below (T.setTop (mkF m 68 #[.val (.int p0), .val (.ref o1), .val (.int p2), .val (.int p3), .val (.ref b2), .val (.int j), .val (.int v5), .val (.int i), s8] [(.ref b2), (.int (List.getD M ((j + (1 : Int32))).toInt.toNat 0)), (.int (j + (1 : Int32))), (.ref b2)])) _
        refine XS.iload X.here hx rfl (hb hby own_d2_68) rfl ?_
        show Steps p.tables e below (T.setTop (mkF m 70 #[.val (.int p0), .val (.ref o1), .val (.int p2), .val (.int p3), .val (.ref b2), .val (.int j), .val (.int v5), .val (.int i), s8] [(.int j), (.ref b2), (.int (List.getD M ((j + (1 : Int32))).toInt.toNat 0)), (.int (j + (1 : Int32))), (.ref b2)])) _
        refine own_ialoadI X hx hZ eT f_1 (j := j) (own_pv h5 hM j1 hc55_22) (g := (mkF m 70 #[.val (.int p0), .val (.ref o1), .val (.int p2), .val (.int p3), .val (.ref b2), .val (.int j), .val (.int v5), .val (.int i), s8] [(.int j), (.ref b2), (.int (List.getD M ((j + (1 : Int32))).toInt.toNat 0)), (.int (j + (1 : Int32))), (.ref b2)])) rfl rfl (hb hby own_d2_70) _ ?_
        show Steps p.tables e below (T.setTop (mkF m 71 #[.val (.int p0), .val (.ref o1), .val (.int p2), .val (.int p3), .val (.ref b2), .val (.int j), .val (.int v5), .val (.int i), s8] [(.int (List.getD M (j).toInt.toNat 0)), (.int (List.getD M ((j + (1 : Int32))).toInt.toNat 0)), (.int (j + (1 : Int32))), (.ref b2)])) _
        refine XS.iloadN X.here hx rfl (hb hby own_d2_71) rfl ?_
        show Steps p.tables e below (T.setTop (mkF m 72 #[.val (.int p0), .val (.ref o1), .val (.int p2), .val (.int p3), .val (.ref b2), .val (.int j), .val (.int v5), .val (.int i), s8] [(.int p2), (.int (List.getD M (j).toInt.toNat 0)), (.int (List.getD M ((j + (1 : Int32))).toInt.toNat 0)), (.int (j + (1 : Int32))), (.ref b2)])) _
        refine XS.iadd X.here hx rfl (hb hby own_d2_72) rfl ?_
        show Steps p.tables e below (T.setTop (mkF m 73 #[.val (.int p0), .val (.ref o1), .val (.int p2), .val (.int p3), .val (.ref b2), .val (.int j), .val (.int v5), .val (.int i), s8] [(.int ((List.getD M (j).toInt.toNat 0) + p2)), (.int (List.getD M ((j + (1 : Int32))).toInt.toNat 0)), (.int (j + (1 : Int32))), (.ref b2)])) _
        refine XS.iadd X.here hx rfl (hb hby own_d2_73) rfl ?_
        exact k
      obtain ⟨T24, h24, L24, X24, N24, e24, K24, V24, st24⟩ := own_iastoreI X hx hZ N eT f_1 (j := (j + (1 : Int32))) (own_nx h5 hM j1 hc55_22) g_b2 (g := (mkF m 74 #[.val (.int p0), .val (.ref o1), .val (.int p2), .val (.int p3), .val (.ref b2), .val (.int j), .val (.int v5), .val (.int i), s8] [(.int ((List.getD M ((j + (1 : Int32))).toInt.toNat 0) + ((List.getD M (j).toInt.toNat 0) + p2))), (.int (j + (1 : Int32))), (.ref b2)])) rfl rfl (hb hby own_d2_74)
      have V24 : own_IA Z h24 b2 .int (List.set M ((j + (1 : Int32))).toInt.toNat ((List.getD M ((j + (1 : Int32))).toInt.toNat 0) + ((List.getD M (j).toInt.toNat 0) + p2))) := V24
      have f25 : own_IA Z h24 o1 .int K := f_0.keep K24 (ninS ne_o1_b2 nin0)
      have Zp26 : n0 ≤ h24.size := Nat.le_trans Zp K24.1
      have Kz26 : Keep h0 h24 [] := K0.trans K24 (allS (Or.inr sz_b2) all0)
      obtain ⟨v27, hv27⟩ : ∃ z : Int32, z = (j + (1 : Int32)) := ⟨_, rfl⟩
      have st28 : ∀ t, Steps p.tables e below (T24.setTop (mkF m 78 #[.val (.int p0), .val (.ref o1), .val (.int p2), .val (.int p3), .val (.ref b2), .val (.int v27), .val (.int v5), .val (.int i), s8] [])) t → Steps p.tables e below (T24.setTop (mkF m 75 #[.val (.int p0), .val (.ref o1), .val (.int p2), .val (.int p3), .val (.ref b2), .val (.int j), .val (.int v5), .val (.int i), s8] [])) t := by
        rw [hv27]
        intro t k
        show Steps p.tables e below (T24.setTop (mkF m 75 #[.val (.int p0), .val (.ref o1), .val (.int p2), .val (.int p3), .val (.ref b2), .val (.int j), .val (.int v5), .val (.int i), s8] [])) _
        refine XS.iinc X24.here hx rfl (hb hby own_d2_75) rfl (l' := #[.val (.int p0), .val (.ref o1), .val (.int p2), .val (.int p3), .val (.ref b2), .val (.int (j + (1 : Int32))), .val (.int v5), .val (.int i), s8]) rfl ?_
        exact k
      have st29 : ∀ t, Steps p.tables e below (T24.setTop (mkF m 52 #[.val (.int p0), .val (.ref o1), .val (.int p2), .val (.int p3), .val (.ref b2), .val (.int v27), .val (.int v5), .val (.int i), s8] [])) t → Steps p.tables e below (T24.setTop (mkF m 78 #[.val (.int p0), .val (.ref o1), .val (.int p2), .val (.int p3), .val (.ref b2), .val (.int v27), .val (.int v5), .val (.int i), s8] [])) t := by
        intro t k
        show Steps p.tables e below (T24.setTop (mkF m 78 #[.val (.int p0), .val (.ref o1), .val (.int p2), .val (.int p3), .val (.ref b2), .val (.int v27), .val (.int v5), .val (.int i), s8] [])) _
        refine XS.goto X24.here hx rfl (pc0 := 78) (pc' := 52) rfl (hb hby own_d2_78) (by decide) (by decide) ?_
        exact k
      refine own_End.go (fun t k => st23 _ (st24 _ (st28 _ (st29 _ k)))) ?_
      rw [← (own_e2_30 hv27 hc55_22)]
      exact ih T24 h24 L24 v27 (List.set M ((j + (1 : Int32))).toInt.toNat ((List.getD M ((j + (1 : Int32))).toInt.toNat 0) + ((List.getD M (j).toInt.toNat 0) + p2))) X24 N24 e24 Kz26 Zp26 f25 V24 h5 (by rw [List.length_set]; exact hM) (by have c := hc55_22; rw [Int32.lt_iff_toInt_lt] at c; have e := own_succ hv27 (by have := rng32 p0; omega); omega) (by have c := hc55_22; rw [Int32.lt_iff_toInt_lt] at c; have e := own_succ hv27 (by have := rng32 p0; omega); omega) (by have c := hc55_22; rw [Int32.lt_iff_toInt_lt] at c; have e := own_succ hv27 (by have := rng32 p0; omega); omega)
    · have st31 : ∀ t, Steps p.tables e below (T.setTop (mkF m 83 #[.val (.int p0), .val (.ref o1), .val (.int p2), .val (.int p3), .val (.ref b2), .val (.int j), .val (.int v5), .val (.int i), s8] [(.ref b2)])) t → Steps p.tables e below (T.setTop (mkF m 55 #[.val (.int p0), .val (.ref o1), .val (.int p2), .val (.int p3), .val (.ref b2), .val (.int j), .val (.int v5), .val (.int i), s8] [(.int p0), (.int j)])) t := by
        intro t k
        show Steps p.tables e below (T.setTop (mkF m 55 #[.val (.int p0), .val (.ref o1), .val (.int p2), .val (.int p3), .val (.ref b2), .val (.int j), .val (.int v5), .val (.int i), s8] [(.int p0), (.int j)])) _
        refine XS.icmpYes X.here hx rfl (pc0 := 55) (pc' := 81) rfl (hb hby own_d2_55) rfl (flt hc55_22).2.1 (by decide) (by decide) ?_
        show Steps p.tables e below (T.setTop (mkF m 81 #[.val (.int p0), .val (.ref o1), .val (.int p2), .val (.int p3), .val (.ref b2), .val (.int j), .val (.int v5), .val (.int i), s8] [])) _
        refine XS.aload X.here hx rfl (hb hby own_d2_81) rfl rfl ?_
        exact k
      refine own_End.go (fun t k => st31 _ k) ?_
      exact own_leafR X hx hk hret rfl (hb hby own_d2_83) ⟨b2, rfl, N, (by rw [eT]; exact K0), (by have := sz_b2; exact this), (show own_IA Z T.heap b2 .int (own_P2_52_0 p0 p2 p3 K v5 i (fuel + 1) j M) from by
          rw [← (own_e2_32 hc55_22)]; exact (by rw [eT]; exact f_1)), trivial⟩ (by decide) (by decide)
def own_P2_18_0 (p0 : Int32) (p2 : Int32) (p3 : Int32) (K : List Int32) (v5 : Int32) : Nat → Int32 → List Int32 → List Int32
  | 0, _, _ => []
  | fuel + 1, i, M =>
    if i < v5 then
      let v10 : Int32 := (List.getD K (i).toInt.toNat 0)
      let v16 : Int32 := (i + (1 : Int32))
      (own_P2_18_0 p0 p2 p3 K v5 fuel v16 (List.set M ((v10 + (1 : Int32))).toInt.toNat ((List.getD M ((v10 + (1 : Int32))).toInt.toNat 0) + p3)))
    else
      (own_P2_52_0 p0 p2 p3 K v5 i 6 (0 : Int32) M)
theorem own_e2_19 {p0 : Int32} {p2 : Int32} {p3 : Int32} {K : List Int32} {v5 : Int32} {fuel : Nat} {i : Int32} {M : List Int32} {v10 : Int32} {v16 : Int32} (hv10 : v10 = (List.getD K (i).toInt.toNat 0)) (hv16 : v16 = (i + (1 : Int32))) (hc22_9 : i < v5) : (own_P2_18_0 p0 p2 p3 K v5 fuel v16 (List.set M ((v10 + (1 : Int32))).toInt.toNat ((List.getD M ((v10 + (1 : Int32))).toInt.toNat 0) + p3))) = (own_P2_18_0 p0 p2 p3 K v5 (fuel + 1) i M) := by
  subst hv10 hv16
  first
    | (simp only [own_P2_18_0, if_pos hc22_9]; done)
    | (exfalso; contradiction)
theorem own_e2_33 {p0 : Int32} {p2 : Int32} {p3 : Int32} {K : List Int32} {v5 : Int32} {fuel : Nat} {i : Int32} {M : List Int32} (hc22_9 : ¬ (i < v5)) : (own_P2_52_0 p0 p2 p3 K v5 i 6 (0 : Int32) M) = (own_P2_18_0 p0 p2 p3 K v5 (fuel + 1) i M) := by
  skip
  first
    | (simp only [own_P2_18_0, if_neg hc22_9]; done)
    | (exfalso; contradiction)
set_option maxRecDepth 65536 in
set_option maxHeartbeats 40000000 in
theorem own_lp2_18 {p : Program} {l : Launch} {e : Env} {s : State} {m : MethodId} {below : List Frame} {meth : Method} {c : Code} {Z : State} {a0 : Array Value} {h0 : Heap} {n0 : Nat} (hx : p.tables.exec = Jvm.exec) (hZ : Z.Warmed39 s.vm) (hw : ∀ d ∈ tables_1, d.before a0 Z = true) (hby : c.code = prog_92_method_4_code) (hml : c.maxLocals = 9) (hown : s.vm.findClass "com/example/overlaid_graphs/overlaidgraphs/graph/Buckets" = some m.cls) (hnm : meth.name = "starts") (hret : meth.sig.returnType = (some (.array .int))) (hk : meth.locks = false) (p0 : Int32) (o1 : Addr) (p2 : Int32) (p3 : Int32) (K : List Int32) (b2 : Addr) (v5 : Int32) (g_b2 : n0 ≤ b2) (sz_b2 : h0.size ≤ b2) (ne_o1_b2 : o1 ≠ b2) :
    ∀ (fuel : Nat) (T : State) (h : Heap) (locs : List Loc) (i : Int32) (M : List Int32) (s8 : Slot) (X : Stand p l e own_R2 s m #[(.int p0), (.ref o1), (.int p2), (.int p3)] below meth c T locs 1 5) (N : Fr n0 locs) (eT : T.heap = h) (K0 : Keep h0 h []) (Zp : n0 ≤ h.size) (f_0 : own_IA Z h o1 .int K) (f_1 : own_IA Z h b2 .int M) (h_s8 : One s8) (hky : ∀ x ∈ K, 0 ≤ x.toInt ∧ x.toInt < p0.toInt) (h5 : 0 ≤ p0.toInt ∧ p0.toInt ≤ 4) (hM : (M.length : Int) = p0.toInt + 1) (i0 : v5.toInt = (K.length : Int)) (i1 : 0 ≤ i.toInt) (i2 : i.toInt ≤ v5.toInt) (hf : v5.toInt - i.toInt < (fuel : Int)), own_End p e below s (fun vz h Lz => ∃ b, vz = some (.ref b) ∧ Fr n0 Lz ∧ Keep h0 h [] ∧ h0.size ≤ b ∧ own_IA Z h b .int (own_P2_18_0 p0 p2 p3 K v5 fuel i M) ∧ True) own_R2.cells own_R2.slots T (mkF m 18 #[.val (.int p0), .val (.ref o1), .val (.int p2), .val (.int p3), .val (.ref b2), .val (.ref o1), .val (.int v5), .val (.int i), s8] []) := by
  intro fuel
  induction fuel with
  | zero =>
    intro T h locs i M s8 X N eT K0 Zp f_0 f_1 h_s8 hky h5 hM i0 i1 i2 hf
    exfalso
    omega
  | succ fuel ih =>
    intro T h locs i M s8 X N eT K0 Zp f_0 f_1 h_s8 hky h5 hM i0 i1 i2 hf
    have st8 : ∀ t, Steps p.tables e below (T.setTop (mkF m 22 #[.val (.int p0), .val (.ref o1), .val (.int p2), .val (.int p3), .val (.ref b2), .val (.ref o1), .val (.int v5), .val (.int i), s8] [(.int v5), (.int i)])) t → Steps p.tables e below (T.setTop (mkF m 18 #[.val (.int p0), .val (.ref o1), .val (.int p2), .val (.int p3), .val (.ref b2), .val (.ref o1), .val (.int v5), .val (.int i), s8] [])) t := by
      intro t k
      show Steps p.tables e below (T.setTop (mkF m 18 #[.val (.int p0), .val (.ref o1), .val (.int p2), .val (.int p3), .val (.ref b2), .val (.ref o1), .val (.int v5), .val (.int i), s8] [])) _
      refine XS.iload X.here hx rfl (hb hby own_d2_18) rfl ?_
      show Steps p.tables e below (T.setTop (mkF m 20 #[.val (.int p0), .val (.ref o1), .val (.int p2), .val (.int p3), .val (.ref b2), .val (.ref o1), .val (.int v5), .val (.int i), s8] [(.int i)])) _
      refine XS.iload X.here hx rfl (hb hby own_d2_20) rfl ?_
      exact k
    refine own_End.go (fun t k => st8 _ k) ?_
    by_cases hc22_9 : i < v5
    · obtain ⟨v10, hv10⟩ : ∃ z : Int32, z = (List.getD K (i).toInt.toNat 0) := ⟨_, rfl⟩
      have st11 : ∀ t, Steps p.tables e below (T.setTop (mkF m 32 #[.val (.int p0), .val (.ref o1), .val (.int p2), .val (.int p3), .val (.ref b2), .val (.ref o1), .val (.int v5), .val (.int i), .val (.int v10)] [])) t → Steps p.tables e below (T.setTop (mkF m 22 #[.val (.int p0), .val (.ref o1), .val (.int p2), .val (.int p3), .val (.ref b2), .val (.ref o1), .val (.int v5), .val (.int i), s8] [(.int v5), (.int i)])) t := by
        rw [hv10]
        intro t k
        show Steps p.tables e below (T.setTop (mkF m 22 #[.val (.int p0), .val (.ref o1), .val (.int p2), .val (.int p3), .val (.ref b2), .val (.ref o1), .val (.int v5), .val (.int i), s8] [(.int v5), (.int i)])) _
        refine XS.icmpNo X.here hx rfl (hb hby own_d2_22) rfl (tlt hc22_9).2.1 ?_
        show Steps p.tables e below (T.setTop (mkF m 25 #[.val (.int p0), .val (.ref o1), .val (.int p2), .val (.int p3), .val (.ref b2), .val (.ref o1), .val (.int v5), .val (.int i), s8] [])) _
        refine XS.aload X.here hx rfl (hb hby own_d2_25) rfl rfl ?_
        show Steps p.tables e below (T.setTop (mkF m 27 #[.val (.int p0), .val (.ref o1), .val (.int p2), .val (.int p3), .val (.ref b2), .val (.ref o1), .val (.int v5), .val (.int i), s8] [(.ref o1)])) _
        refine XS.iload X.here hx rfl (hb hby own_d2_27) rfl ?_
        show Steps p.tables e below (T.setTop (mkF m 29 #[.val (.int p0), .val (.ref o1), .val (.int p2), .val (.int p3), .val (.ref b2), .val (.ref o1), .val (.int v5), .val (.int i), s8] [(.int i), (.ref o1)])) _
        refine own_ialoadI X hx hZ eT f_0 (j := i) ⟨i1, own_ltl hc22_9 (Int.le_of_eq i0)⟩ (g := (mkF m 29 #[.val (.int p0), .val (.ref o1), .val (.int p2), .val (.int p3), .val (.ref b2), .val (.ref o1), .val (.int v5), .val (.int i), s8] [(.int i), (.ref o1)])) rfl rfl (hb hby own_d2_29) _ ?_
        show Steps p.tables e below (T.setTop (mkF m 30 #[.val (.int p0), .val (.ref o1), .val (.int p2), .val (.int p3), .val (.ref b2), .val (.ref o1), .val (.int v5), .val (.int i), s8] [(.int (List.getD K (i).toInt.toNat 0))])) _
        refine XS.istore X.here hx rfl (hb hby own_d2_30) rfl (l' := #[.val (.int p0), .val (.ref o1), .val (.int p2), .val (.int p3), .val (.ref b2), .val (.ref o1), .val (.int v5), .val (.int i), .val (.int (List.getD K (i).toInt.toNat 0))]) (own_os2_30 h_s8) ?_
        exact k
      have st12 : ∀ t, Steps p.tables e below (T.setTop (mkF m 42 #[.val (.int p0), .val (.ref o1), .val (.int p2), .val (.int p3), .val (.ref b2), .val (.ref o1), .val (.int v5), .val (.int i), .val (.int v10)] [(.int ((List.getD M ((v10 + (1 : Int32))).toInt.toNat 0) + p3)), (.int (v10 + (1 : Int32))), (.ref b2)])) t → Steps p.tables e below (T.setTop (mkF m 32 #[.val (.int p0), .val (.ref o1), .val (.int p2), .val (.int p3), .val (.ref b2), .val (.ref o1), .val (.int v5), .val (.int i), .val (.int v10)] [])) t := by
        intro t k
        show Steps p.tables e below (T.setTop (mkF m 32 #[.val (.int p0), .val (.ref o1), .val (.int p2), .val (.int p3), .val (.ref b2), .val (.ref o1), .val (.int v5), .val (.int i), .val (.int v10)] [])) _
        refine XS.aload X.here hx rfl (hb hby own_d2_32) rfl rfl ?_
        show Steps p.tables e below (T.setTop (mkF m 34 #[.val (.int p0), .val (.ref o1), .val (.int p2), .val (.int p3), .val (.ref b2), .val (.ref o1), .val (.int v5), .val (.int i), .val (.int v10)] [(.ref b2)])) _
        refine XS.iload X.here hx rfl (hb hby own_d2_34) rfl ?_
        show Steps p.tables e below (T.setTop (mkF m 36 #[.val (.int p0), .val (.ref o1), .val (.int p2), .val (.int p3), .val (.ref b2), .val (.ref o1), .val (.int v5), .val (.int i), .val (.int v10)] [(.int v10), (.ref b2)])) _
        refine XS.iconst X.here hx rfl (hb hby own_d2_36) ?_
        show Steps p.tables e below (T.setTop (mkF m 37 #[.val (.int p0), .val (.ref o1), .val (.int p2), .val (.int p3), .val (.ref b2), .val (.ref o1), .val (.int v5), .val (.int i), .val (.int v10)] [(.int (1 : Int32)), (.int v10), (.ref b2)])) _
        refine XS.iadd X.here hx rfl (hb hby own_d2_37) rfl ?_
        show Steps p.tables e below (T.setTop (mkF m 38 #[.val (.int p0), .val (.ref o1), .val (.int p2), .val (.int p3), .val (.ref b2), .val (.ref o1), .val (.int v5), .val (.int i), .val (.int v10)] [(.int (v10 + (1 : Int32))), (.ref b2)])) _
        jvm_step X.here [X.here.top, hx, (hb hby own_d2_38), Value.category]
        show Steps p.tables e below (T.setTop (mkF m 39 #[.val (.int p0), .val (.ref o1), .val (.int p2), .val (.int p3), .val (.ref b2), .val (.ref o1), .val (.int v5), .val (.int i), .val (.int v10)] [(.int (v10 + (1 : Int32))), (.ref b2), (.int (v10 + (1 : Int32))), (.ref b2)])) _
        refine own_ialoadI X hx hZ eT f_1 (j := (v10 + (1 : Int32))) (own_key hky h5 hM hv10 ⟨i1, own_ltl hc22_9 (Int.le_of_eq i0)⟩) (g := (mkF m 39 #[.val (.int p0), .val (.ref o1), .val (.int p2), .val (.int p3), .val (.ref b2), .val (.ref o1), .val (.int v5), .val (.int i), .val (.int v10)] [(.int (v10 + (1 : Int32))), (.ref b2), (.int (v10 + (1 : Int32))), (.ref b2)])) rfl rfl (hb hby own_d2_39) _ ?_
        show Steps p.tables e below (T.setTop (mkF m 40 #[.val (.int p0), .val (.ref o1), .val (.int p2), .val (.int p3), .val (.ref b2), .val (.ref o1), .val (.int v5), .val (.int i), .val (.int v10)] [(.int (List.getD M ((v10 + (1 : Int32))).toInt.toNat 0)), (.int (v10 + (1 : Int32))), (.ref b2)])) _
        refine XS.iloadN X.here hx rfl (hb hby own_d2_40) rfl ?_
        show Steps p.tables e below (T.setTop (mkF m 41 #[.val (.int p0), .val (.ref o1), .val (.int p2), .val (.int p3), .val (.ref b2), .val (.ref o1), .val (.int v5), .val (.int i), .val (.int v10)] [(.int p3), (.int (List.getD M ((v10 + (1 : Int32))).toInt.toNat 0)), (.int (v10 + (1 : Int32))), (.ref b2)])) _
        refine XS.iadd X.here hx rfl (hb hby own_d2_41) rfl ?_
        exact k
      obtain ⟨T13, h13, L13, X13, N13, e13, K13, V13, st13⟩ := own_iastoreI X hx hZ N eT f_1 (j := (v10 + (1 : Int32))) (own_key hky h5 hM hv10 ⟨i1, own_ltl hc22_9 (Int.le_of_eq i0)⟩) g_b2 (g := (mkF m 42 #[.val (.int p0), .val (.ref o1), .val (.int p2), .val (.int p3), .val (.ref b2), .val (.ref o1), .val (.int v5), .val (.int i), .val (.int v10)] [(.int ((List.getD M ((v10 + (1 : Int32))).toInt.toNat 0) + p3)), (.int (v10 + (1 : Int32))), (.ref b2)])) rfl rfl (hb hby own_d2_42)
      have V13 : own_IA Z h13 b2 .int (List.set M ((v10 + (1 : Int32))).toInt.toNat ((List.getD M ((v10 + (1 : Int32))).toInt.toNat 0) + p3)) := V13
      have f14 : own_IA Z h13 o1 .int K := f_0.keep K13 (ninS ne_o1_b2 nin0)
      have Zp15 : n0 ≤ h13.size := Nat.le_trans Zp K13.1
      have Kz15 : Keep h0 h13 [] := K0.trans K13 (allS (Or.inr sz_b2) all0)
      obtain ⟨v16, hv16⟩ : ∃ z : Int32, z = (i + (1 : Int32)) := ⟨_, rfl⟩
      have st17 : ∀ t, Steps p.tables e below (T13.setTop (mkF m 46 #[.val (.int p0), .val (.ref o1), .val (.int p2), .val (.int p3), .val (.ref b2), .val (.ref o1), .val (.int v5), .val (.int v16), .val (.int v10)] [])) t → Steps p.tables e below (T13.setTop (mkF m 43 #[.val (.int p0), .val (.ref o1), .val (.int p2), .val (.int p3), .val (.ref b2), .val (.ref o1), .val (.int v5), .val (.int i), .val (.int v10)] [])) t := by
        rw [hv16]
        intro t k
        show Steps p.tables e below (T13.setTop (mkF m 43 #[.val (.int p0), .val (.ref o1), .val (.int p2), .val (.int p3), .val (.ref b2), .val (.ref o1), .val (.int v5), .val (.int i), .val (.int v10)] [])) _
        refine XS.iinc X13.here hx rfl (hb hby own_d2_43) rfl (l' := #[.val (.int p0), .val (.ref o1), .val (.int p2), .val (.int p3), .val (.ref b2), .val (.ref o1), .val (.int v5), .val (.int (i + (1 : Int32))), .val (.int v10)]) rfl ?_
        exact k
      have st18 : ∀ t, Steps p.tables e below (T13.setTop (mkF m 18 #[.val (.int p0), .val (.ref o1), .val (.int p2), .val (.int p3), .val (.ref b2), .val (.ref o1), .val (.int v5), .val (.int v16), .val (.int v10)] [])) t → Steps p.tables e below (T13.setTop (mkF m 46 #[.val (.int p0), .val (.ref o1), .val (.int p2), .val (.int p3), .val (.ref b2), .val (.ref o1), .val (.int v5), .val (.int v16), .val (.int v10)] [])) t := by
        intro t k
        show Steps p.tables e below (T13.setTop (mkF m 46 #[.val (.int p0), .val (.ref o1), .val (.int p2), .val (.int p3), .val (.ref b2), .val (.ref o1), .val (.int v5), .val (.int v16), .val (.int v10)] [])) _
        refine XS.goto X13.here hx rfl (pc0 := 46) (pc' := 18) rfl (hb hby own_d2_46) (by decide) (by decide) ?_
        exact k
      refine own_End.go (fun t k => st11 _ (st12 _ (st13 _ (st17 _ (st18 _ k))))) ?_
      rw [← (own_e2_19 hv10 hv16 hc22_9)]
      exact ih T13 h13 L13 v16 (List.set M ((v10 + (1 : Int32))).toInt.toNat ((List.getD M ((v10 + (1 : Int32))).toInt.toNat 0) + p3)) (.val (.int v10)) X13 N13 e13 Kz15 Zp15 f14 V13 (One.val rfl) hky h5 (by rw [List.length_set]; exact hM) i0 (by have c := hc22_9; rw [Int32.lt_iff_toInt_lt] at c; have e := own_succ hv16 (by have := rng32 v5; omega); omega) (by have c := hc22_9; rw [Int32.lt_iff_toInt_lt] at c; have e := own_succ hv16 (by have := rng32 v5; omega); omega) (by have c := hc22_9; rw [Int32.lt_iff_toInt_lt] at c; have e := own_succ hv16 (by have := rng32 v5; omega); omega)
    · have st20 : ∀ t, Steps p.tables e below (T.setTop (mkF m 52 #[.val (.int p0), .val (.ref o1), .val (.int p2), .val (.int p3), .val (.ref b2), .val (.int (0 : Int32)), .val (.int v5), .val (.int i), s8] [])) t → Steps p.tables e below (T.setTop (mkF m 22 #[.val (.int p0), .val (.ref o1), .val (.int p2), .val (.int p3), .val (.ref b2), .val (.ref o1), .val (.int v5), .val (.int i), s8] [(.int v5), (.int i)])) t := by
        intro t k
        show Steps p.tables e below (T.setTop (mkF m 22 #[.val (.int p0), .val (.ref o1), .val (.int p2), .val (.int p3), .val (.ref b2), .val (.ref o1), .val (.int v5), .val (.int i), s8] [(.int v5), (.int i)])) _
        refine XS.icmpYes X.here hx rfl (pc0 := 22) (pc' := 49) rfl (hb hby own_d2_22) rfl (flt hc22_9).2.1 (by decide) (by decide) ?_
        show Steps p.tables e below (T.setTop (mkF m 49 #[.val (.int p0), .val (.ref o1), .val (.int p2), .val (.int p3), .val (.ref b2), .val (.ref o1), .val (.int v5), .val (.int i), s8] [])) _
        refine XS.iconst X.here hx rfl (hb hby own_d2_49) ?_
        show Steps p.tables e below (T.setTop (mkF m 50 #[.val (.int p0), .val (.ref o1), .val (.int p2), .val (.int p3), .val (.ref b2), .val (.ref o1), .val (.int v5), .val (.int i), s8] [(.int (0 : Int32))])) _
        refine XS.istore X.here hx rfl (hb hby own_d2_50) rfl (l' := #[.val (.int p0), .val (.ref o1), .val (.int p2), .val (.int p3), .val (.ref b2), .val (.int (0 : Int32)), .val (.int v5), .val (.int i), s8]) rfl ?_
        exact k
      refine own_End.go (fun t k => st20 _ k) ?_
      rw [← (own_e2_33 hc22_9)]
      exact own_lp2_52 (n0 := n0) hx hZ hw hby hml hown hnm hret hk p0 o1 p2 p3 K b2 v5 i s8 g_b2 sz_b2 ne_o1_b2 6 T h locs (0 : Int32) M X N eT K0 Zp f_0 f_1 h5 hM (by decide) (by have := own_z0; omega) (by have := own_z0; omega)
def own_G2_0 (p0 : Int32) (p2 : Int32) (p3 : Int32) (K : List Int32) : List Int32 :=
  let v5 : Int32 := (Int32.ofNat (List.length K))
  (own_P2_18_0 p0 p2 p3 K v5 (K.length + 1) (0 : Int32) (List.replicate (p0 + (1 : Int32)).toInt.toNat (0 : Int32)))
def own_Q2 (Z : State) (p0 : Int32) (o1 : Addr) (p2 : Int32) (p3 : Int32) (K : List Int32) (h0 : Heap) (n0 : Nat) (vz : Option Value) (h : Heap) (Lz : List Loc) : Prop := ∃ b, vz = some (.ref b) ∧ Fr n0 Lz ∧ Keep h0 h [] ∧ h0.size ≤ b ∧ own_IA Z h b .int (own_G2_0 p0 p2 p3 K) ∧ True
theorem own_e2_34 {p0 : Int32} {p2 : Int32} {p3 : Int32} {K : List Int32} {v5 : Int32} (hv5 : v5 = (Int32.ofNat (List.length K))) : (own_P2_18_0 p0 p2 p3 K v5 (K.length + 1) (0 : Int32) (List.replicate (p0 + (1 : Int32)).toInt.toNat (0 : Int32))) = (own_G2_0 p0 p2 p3 K) := by
  subst hv5
  first
    | (simp only [own_G2_0]; done)
    | (exfalso; contradiction)
set_option maxRecDepth 65536 in
set_option maxHeartbeats 40000000 in
theorem own_rm2 (l : Launch) (Z : State) (a0 : Array Value) (hw : ∀ d ∈ tables_1, d.before a0 Z = true) (ws : List Jvm.Cond) (p0 : Int32) (o1 : Addr) (p2 : Int32) (p3 : Int32) (K : List Int32) (h0 : Heap) (n0 : Nat) (Z0 : n0 ≤ h0.size) (V_o1 : own_IA Z h0 o1 .int K) (hky : ∀ x ∈ K, 0 ≤ x.toInt ∧ x.toInt < p0.toInt) (h5 : 0 ≤ p0.toInt ∧ p0.toInt ≤ 4) :
    MetFree l (⟨"com/example/overlaid_graphs/overlaidgraphs/graph/Buckets", "starts", "(I[III)[I"⟩ : MethodName) (head1 (Jvm.Cond.code (⟨"com/example/overlaid_graphs/overlaidgraphs/graph/Buckets", "starts", "(I[III)[I"⟩ : MethodName) prog_92_method_4_code 9 (some (.array .int)) :: ws) own_R2) (fun a U => a = #[(.int p0), (.ref o1), (.int p2), (.int p3)] ∧ Z.Warmed39 U.vm ∧ U.heap = h0) (fun _ _ _ _ _ => True) (fun _ U o U' => ∃ vz Lz, o = .returned vz ∧ own_Q2 Z p0 o1 p2 p3 K h0 n0 vz U'.heap Lz ∧ FrameEnd U o U' Lz own_R2.cells own_R2.slots) := by
  refine MetFree.of_bodySF (plainFor_of_name own_pn2) hisR ?_
  intro p e s m args below meth c s₁ Bd hml0 hP hK
  obtain ⟨rfl, hZ, hh⟩ := hP
  have hx := Bd.exec
  have hby := Bd.bytes
  have hml : c.maxLocals = 9 := hml0
  have hown : s.vm.findClass "com/example/overlaid_graphs/overlaidgraphs/graph/Buckets" = some m.cls := findClass_of_methodNamed Bd.named
  have hnm := (name_of_methodNamed Bd.named Bd.method).1
  have X0 : Stand p l e own_R2 s m #[(.int p0), (.ref o1), (.int p2), (.int p3)] below meth c s₁ [] 0 0 := Stand.of_body Bd
  have e0 : s₁.heap = h0 := by rw [← hh, Bd.state]; rfl
  show own_End p e below s (fun vz h Lz => ∃ b, vz = some (.ref b) ∧ Fr n0 Lz ∧ Keep h0 h [] ∧ h0.size ≤ b ∧ own_IA Z h b .int (own_G2_0 p0 p2 p3 K) ∧ True) own_R2.cells own_R2.slots s₁ (entryFrame m #[(.int p0), (.ref o1), (.int p2), (.int p3)] 9)
  refine own_End.go (fun t k => castTop (own_ef2 m p0 o1 p2 p3) k) ?_
  show own_End p e below s _ _ _ s₁ (mkF m 0 #[.val (.int p0), .val (.ref o1), .val (.int p2), .val (.int p3), .unset, .unset, .unset, .unset, .unset] [])
  have N0 := Fr.nil n0
  have K0 : Keep h0 h0 [] := Keep.refl h0 _
  have st1 : ∀ t, Steps p.tables e below (s₁.setTop (mkF m 3 #[.val (.int p0), .val (.ref o1), .val (.int p2), .val (.int p3), .unset, .unset, .unset, .unset, .unset] [(.int (p0 + (1 : Int32)))])) t → Steps p.tables e below (s₁.setTop (mkF m 0 #[.val (.int p0), .val (.ref o1), .val (.int p2), .val (.int p3), .unset, .unset, .unset, .unset, .unset] [])) t := by
    intro t k
    show Steps p.tables e below (s₁.setTop (mkF m 0 #[.val (.int p0), .val (.ref o1), .val (.int p2), .val (.int p3), .unset, .unset, .unset, .unset, .unset] [])) _
    refine XS.iloadN X0.here hx rfl (hb hby own_d2_0) rfl ?_
    show Steps p.tables e below (s₁.setTop (mkF m 1 #[.val (.int p0), .val (.ref o1), .val (.int p2), .val (.int p3), .unset, .unset, .unset, .unset, .unset] [(.int p0)])) _
    refine XS.iconst X0.here hx rfl (hb hby own_d2_1) ?_
    show Steps p.tables e below (s₁.setTop (mkF m 2 #[.val (.int p0), .val (.ref o1), .val (.int p2), .val (.int p3), .unset, .unset, .unset, .unset, .unset] [(.int (1 : Int32)), (.int p0)])) _
    refine XS.iadd X0.here hx rfl (hb hby own_d2_2) rfl ?_
    exact k
  obtain ⟨T2, h2, b2, X2, e2, K2, q2, V2, st2⟩ := own_newA X0 hx hZ (ty := .int) rfl (hw _ (List.mem_of_getElem? (i := 1) rfl)) rfl e0 (g := (mkF m 3 #[.val (.int p0), .val (.ref o1), .val (.int p2), .val (.int p3), .unset, .unset, .unset, .unset, .unset] [(.int (p0 + (1 : Int32)))])) rfl (hb hby own_d2_3) rfl ((p0 + (1 : Int32)).toInt.toNat) (Int.toNat_of_nonneg (by have := own_p1 h5; omega)).symm (cap := 5) (by have := own_p1 h5; omega) (by decide) (by decide) (by decide)
  have X2 : Stand p l e own_R2 s m #[(.int p0), (.ref o1), (.int p2), (.int p3)] below meth c T2 [] 1 5 := X2
  have V2 : own_IA Z h2 b2 .int (List.replicate (p0 + (1 : Int32)).toInt.toNat (0 : Int32)) := V2
  have ne_o1_b2 : o1 ≠ b2 := own_ne V_o1.lt q2
  have g_b2 : n0 ≤ b2 := Nat.le_trans Z0 q2
  have sz_b2 : h0.size ≤ b2 := Nat.le_trans K0.1 q2
  have f3 : own_IA Z h2 o1 .int K := V_o1.keep K2 nin0
  have Zp4 : n0 ≤ h2.size := Nat.le_trans Z0 K2.1
  have Kz4 : Keep h0 h2 [] := K0.trans K2 all0
  obtain ⟨v5, hv5⟩ : ∃ z : Int32, z = (Int32.ofNat (List.length K)) := ⟨_, rfl⟩
  have st6 : ∀ t, Steps p.tables e below (T2.setTop (mkF m 15 #[.val (.int p0), .val (.ref o1), .val (.int p2), .val (.int p3), .val (.ref b2), .val (.ref o1), .val (.int v5), .unset, .unset] [])) t → Steps p.tables e below (T2.setTop (mkF m 5 #[.val (.int p0), .val (.ref o1), .val (.int p2), .val (.int p3), .unset, .unset, .unset, .unset, .unset] [(.ref b2)])) t := by
    rw [hv5]
    intro t k
    show Steps p.tables e below (T2.setTop (mkF m 5 #[.val (.int p0), .val (.ref o1), .val (.int p2), .val (.int p3), .unset, .unset, .unset, .unset, .unset] [(.ref b2)])) _
    refine XS.astore X2.here hx rfl (hb hby own_d2_5) rfl rfl (l' := #[.val (.int p0), .val (.ref o1), .val (.int p2), .val (.int p3), .val (.ref b2), .unset, .unset, .unset, .unset]) rfl ?_
    show Steps p.tables e below (T2.setTop (mkF m 7 #[.val (.int p0), .val (.ref o1), .val (.int p2), .val (.int p3), .val (.ref b2), .unset, .unset, .unset, .unset] [])) _
    refine XS.aloadN X2.here hx rfl (hb hby own_d2_7) rfl rfl ?_
    show Steps p.tables e below (T2.setTop (mkF m 8 #[.val (.int p0), .val (.ref o1), .val (.int p2), .val (.int p3), .val (.ref b2), .unset, .unset, .unset, .unset] [(.ref o1)])) _
    refine XS.astore X2.here hx rfl (hb hby own_d2_8) rfl rfl (l' := #[.val (.int p0), .val (.ref o1), .val (.int p2), .val (.int p3), .val (.ref b2), .val (.ref o1), .unset, .unset, .unset]) rfl ?_
    show Steps p.tables e below (T2.setTop (mkF m 10 #[.val (.int p0), .val (.ref o1), .val (.int p2), .val (.int p3), .val (.ref b2), .val (.ref o1), .unset, .unset, .unset] [])) _
    refine XS.aload X2.here hx rfl (hb hby own_d2_10) rfl rfl ?_
    show Steps p.tables e below (T2.setTop (mkF m 12 #[.val (.int p0), .val (.ref o1), .val (.int p2), .val (.int p3), .val (.ref b2), .val (.ref o1), .unset, .unset, .unset] [(.ref o1)])) _
    refine own_lenI X2 hx hZ e2 f3 (g := (mkF m 12 #[.val (.int p0), .val (.ref o1), .val (.int p2), .val (.int p3), .val (.ref b2), .val (.ref o1), .unset, .unset, .unset] [(.ref o1)])) rfl rfl (hb hby own_d2_12) _ ?_
    show Steps p.tables e below (T2.setTop (mkF m 13 #[.val (.int p0), .val (.ref o1), .val (.int p2), .val (.int p3), .val (.ref b2), .val (.ref o1), .unset, .unset, .unset] [(.int (Int32.ofNat (List.length K)))])) _
    refine XS.istore X2.here hx rfl (hb hby own_d2_13) rfl (l' := #[.val (.int p0), .val (.ref o1), .val (.int p2), .val (.int p3), .val (.ref b2), .val (.ref o1), .val (.int (Int32.ofNat (List.length K))), .unset, .unset]) rfl ?_
    exact k
  have st7 : ∀ t, Steps p.tables e below (T2.setTop (mkF m 18 #[.val (.int p0), .val (.ref o1), .val (.int p2), .val (.int p3), .val (.ref b2), .val (.ref o1), .val (.int v5), .val (.int (0 : Int32)), .unset] [])) t → Steps p.tables e below (T2.setTop (mkF m 15 #[.val (.int p0), .val (.ref o1), .val (.int p2), .val (.int p3), .val (.ref b2), .val (.ref o1), .val (.int v5), .unset, .unset] [])) t := by
    intro t k
    show Steps p.tables e below (T2.setTop (mkF m 15 #[.val (.int p0), .val (.ref o1), .val (.int p2), .val (.int p3), .val (.ref b2), .val (.ref o1), .val (.int v5), .unset, .unset] [])) _
    refine XS.iconst X2.here hx rfl (hb hby own_d2_15) ?_
    show Steps p.tables e below (T2.setTop (mkF m 16 #[.val (.int p0), .val (.ref o1), .val (.int p2), .val (.int p3), .val (.ref b2), .val (.ref o1), .val (.int v5), .unset, .unset] [(.int (0 : Int32))])) _
    refine XS.istore X2.here hx rfl (hb hby own_d2_16) rfl (l' := #[.val (.int p0), .val (.ref o1), .val (.int p2), .val (.int p3), .val (.ref b2), .val (.ref o1), .val (.int v5), .val (.int (0 : Int32)), .unset]) rfl ?_
    exact k
  refine own_End.go (fun t k => st1 _ (st2 _ (st6 _ (st7 _ k)))) ?_
  rw [← (own_e2_34 hv5)]
  exact own_lp2_18 (n0 := n0) hx hZ hw hby hml hown hnm Bd.returns Bd.notSynchronized p0 o1 p2 p3 K b2 v5 g_b2 sz_b2 ne_o1_b2 (K.length + 1) T2 h2 [] (0 : Int32) (List.replicate (p0 + (1 : Int32)).toInt.toNat (0 : Int32)) (.unset) X2 N0 e2 Kz4 Zp4 f3 V2 One.u hky h5 (own_len h5) (own_ofN hv5 (by have := V_o1.len; omega)) (by decide) (by have := own_ofN hv5 (by have := V_o1.len; omega); have := own_z0; omega) (by have := own_ofN hv5 (by have := V_o1.len; omega); have := own_z0; omega)
theorem own_keys {v1 v7 v13 k0 k1 k2 k3 X p : Int32} {K : List Int32} {y0 y1 y2 y3 : Int32} (h1 : v1 = ((p &&& (2147483647 : Int32)) - ((p &&& (2147483647 : Int32)) / (5 : Int32)) * (5 : Int32))) (h7 : v7 = (if v1 = (0 : Int32) then (0 : Int32) else X)) (h13 : v13 = (if v1 = (0 : Int32) then (1 : Int32) else v1))
    (e0 : k0 = ((y0 &&& (255 : Int32)) - ((y0 &&& (255 : Int32)) / v13) * v13)) (e1 : k1 = ((y1 &&& (255 : Int32)) - ((y1 &&& (255 : Int32)) / v13) * v13)) (e2 : k2 = ((y2 &&& (255 : Int32)) - ((y2 &&& (255 : Int32)) / v13) * v13)) (e3 : k3 = ((y3 &&& (255 : Int32)) - ((y3 &&& (255 : Int32)) / v13) * v13)) (hK : K = own_G1_0 v7 k0 k1 k2 k3) : ∀ x ∈ K, 0 ≤ x.toInt ∧ x.toInt < v1.toInt := by
  have hm := own_m h1 h13
  have b0 := own_k (y := y0) hm.1
  have b1 := own_k (y := y1) hm.1
  have b2 := own_k (y := y2) hm.1
  have b3 := own_k (y := y3) hm.1
  rw [← e0] at b0
  rw [← e1] at b1
  rw [← e2] at b2
  rw [← e3] at b3
  by_cases z : v1 = 0
  · rw [if_pos z] at h7
    subst hK
    simp [own_G1_0, h7]
  · rw [hm.2 z] at b0 b1 b2 b3
    subst hK
    intro x hx
    unfold own_G1_0 at hx
    split at hx
    · simp at hx
    · split at hx
      · simp only [List.mem_cons, List.not_mem_nil, or_false] at hx
        rw [hx]; exact b0
      · split at hx
        · simp only [List.mem_cons, List.not_mem_nil, or_false] at hx
          rcases hx with rfl | rfl
          · exact b0
          · exact b1
        · split at hx
          · simp only [List.mem_cons, List.not_mem_nil, or_false] at hx
            rcases hx with rfl | rfl | rfl
            · exact b0
            · exact b1
            · exact b2
          · simp only [List.mem_cons, List.not_mem_nil, or_false] at hx
            rcases hx with rfl | rfl | rfl | rfl
            · exact b0
            · exact b1
            · exact b2
            · exact b3
theorem own_len52 {p0 p2 p3 v5 i : Int32} {K : List Int32} : ∀ (fuel : Nat) (j : Int32) (M : List Int32), 0 ≤ j.toInt → j.toInt ≤ p0.toInt → p0.toInt - j.toInt < (fuel : Int) → (own_P2_52_0 p0 p2 p3 K v5 i fuel j M).length = M.length := by
  intro fuel
  induction fuel with
  | zero => intro j M _ _ _; omega
  | succ fuel ih =>
    intro j M h1 h2 h3
    by_cases c : j < p0
    · simp only [own_P2_52_0, if_pos c]
      rw [Int32.lt_iff_toInt_lt] at c
      have e := own_succ (x := j) rfl (by have := rng32 p0; omega)
      rw [ih _ _ (by omega) (by omega) (by omega), List.length_set]
    · simp only [own_P2_52_0, if_neg c]
theorem own_len18 {p0 p2 p3 v5 : Int32} {K : List Int32} (h5 : 0 ≤ p0.toInt ∧ p0.toInt ≤ 4) : ∀ (fuel : Nat) (i : Int32) (M : List Int32), 0 ≤ i.toInt → i.toInt ≤ v5.toInt → v5.toInt - i.toInt < (fuel : Int) → (own_P2_18_0 p0 p2 p3 K v5 fuel i M).length = M.length := by
  intro fuel
  induction fuel with
  | zero => intro j M _ _ _; omega
  | succ fuel ih =>
    intro i M h1 h2 h3
    by_cases c : i < v5
    · simp only [own_P2_18_0, if_pos c]
      rw [Int32.lt_iff_toInt_lt] at c
      have e := own_succ (x := i) rfl (by have := rng32 v5; omega)
      rw [ih _ _ (by omega) (by omega) (by omega), List.length_set]
    · simp only [own_P2_18_0, if_neg c]
      exact own_len52 6 0 M (by decide) (by have := own_z0; omega) (by have := own_z0; omega)
theorem own_Glen {p0 p2 p3 : Int32} {K : List Int32} (h5 : 0 ≤ p0.toInt ∧ p0.toInt ≤ 4) (hK : K.length < 2147483648) : ((own_G2_0 p0 p2 p3 K).length : Int) = p0.toInt + 1 := by
  unfold own_G2_0
  have e := own_ofN (v := Int32.ofNat (List.length K)) rfl hK
  simp only []
  rw [own_len18 h5 _ _ _ (by decide) (by have := own_z0; omega) (by have := own_z0; omega)]
  exact own_len h5
theorem own_G1len (n a b c d : Int32) : (own_G1_0 n a b c d).length ≤ 4 := by
  unfold own_G1_0
  repeat' split
  all_goals simp
theorem own_inR {k v1 p p2 p3 n a b c d : Int32} {K R : List Int32} (h1 : v1 = ((p &&& (2147483647 : Int32)) - ((p &&& (2147483647 : Int32)) / (5 : Int32)) * (5 : Int32))) (hK : K = own_G1_0 n a b c d) (hR : R = own_G2_0 v1 p2 p3 K) (hk : 0 ≤ k.toInt) : ¬ v1 < k → 0 ≤ k.toInt ∧ k.toInt < (R.length : Int) := fun hc => by
  rw [Int32.lt_iff_toInt_lt] at hc
  have := own_G1len n a b c d
  have := own_Glen (p0 := v1) (p2 := p2) (p3 := p3) (K := K) (own_len5 h1) (by rw [hK]; omega)
  rw [hR]
  omega

theorem own_pn0 : plainName "com/example/overlaid_graphs/overlaidgraphs/graph/BucketsStartsPinLaw" = true := by first | (simp [plainName, overriddenIn]; done) | decide +kernel
theorem own_ef0 (m : MethodId) (p0 : Int32) (p1 : Int32) (p2 : Int32) (p3 : Int32) : entryFrame m #[(.int p0), (.int p1), (.int p2), (.int p3)] maxLocals = mkF m 0 #[.val (.int p0), .val (.int p1), .val (.int p2), .val (.int p3), .unset, .unset, .unset, .unset, .unset, .unset, .unset, .unset, .unset, .unset] [] := by first | (simp [entryFrame, mkF, argsToLocals, Value.category, maxLocals]; done) | rfl
def own_F0 (p0 : Int32) (p1 : Int32) (p2 : Int32) (p3 : Int32) : Int32 :=
  let v1 : Int32 := ((p0 &&& (2147483647 : Int32)) - ((p0 &&& (2147483647 : Int32)) / (5 : Int32)) * (5 : Int32))
  let v7 : Int32 := (if v1 = (0 : Int32) then (0 : Int32) else ((((p0.toUInt32 >>> ((8 : Int32) &&& 31).toUInt32).toInt32) &&& (7 : Int32)) - ((((p0.toUInt32 >>> ((8 : Int32) &&& 31).toUInt32).toInt32) &&& (7 : Int32)) / (5 : Int32)) * (5 : Int32)))
  let v13 : Int32 := (if v1 = (0 : Int32) then (1 : Int32) else v1)
  let v15 : Int32 := ((p1 &&& (255 : Int32)) - ((p1 &&& (255 : Int32)) / v13) * v13)
  let v17 : Int32 := ((((p1.toUInt32 >>> ((8 : Int32) &&& 31).toUInt32).toInt32) &&& (255 : Int32)) - ((((p1.toUInt32 >>> ((8 : Int32) &&& 31).toUInt32).toInt32) &&& (255 : Int32)) / v13) * v13)
  let v19 : Int32 := ((((p1.toUInt32 >>> ((16 : Int32) &&& 31).toUInt32).toInt32) &&& (255 : Int32)) - ((((p1.toUInt32 >>> ((16 : Int32) &&& 31).toUInt32).toInt32) &&& (255 : Int32)) / v13) * v13)
  let v21 : Int32 := ((((p1.toUInt32 >>> ((24 : Int32) &&& 31).toUInt32).toInt32) &&& (255 : Int32)) - ((((p1.toUInt32 >>> ((24 : Int32) &&& 31).toUInt32).toInt32) &&& (255 : Int32)) / v13) * v13)
  let v40 : List Int32 := (own_G1_0 v7 v15 v17 v19 v21)
  let v47 : List Int32 := (own_G2_0 v1 p2 p3 v40)
  if (Int32.ofNat (List.length v47)) = (v1 + (1 : Int32)) then
    let v57 : Int32 := (own_F3 (0 : Int32) v1 v7 p2 p3 v47 ([v15, v17, v19, v21] : List Int32))
    if v57 = (0 : Int32) then
      (0 : Int32)
    else
      let v65 : Int32 := (own_F3 (1 : Int32) v1 v7 p2 p3 v47 ([v15, v17, v19, v21] : List Int32))
      if v65 = (0 : Int32) then
        (0 : Int32)
      else
        let v73 : Int32 := (own_F3 (2 : Int32) v1 v7 p2 p3 v47 ([v15, v17, v19, v21] : List Int32))
        if v73 = (0 : Int32) then
          (0 : Int32)
        else
          let v81 : Int32 := (own_F3 (3 : Int32) v1 v7 p2 p3 v47 ([v15, v17, v19, v21] : List Int32))
          if v81 = (0 : Int32) then
            (0 : Int32)
          else
            let v89 : Int32 := (own_F3 (4 : Int32) v1 v7 p2 p3 v47 ([v15, v17, v19, v21] : List Int32))
            if v89 = (0 : Int32) then
              (0 : Int32)
            else
              (1 : Int32)
  else
    (0 : Int32)
def own_Q0 (Z : State) (p0 : Int32) (p1 : Int32) (p2 : Int32) (p3 : Int32) (h0 : Heap) (n0 : Nat) (vz : Option Value) (h : Heap) (Lz : List Loc) : Prop := vz = some (.int (own_F0 p0 p1 p2 p3)) ∧ Fr n0 Lz
theorem own_e0_60 {p0 : Int32} {p1 : Int32} {p2 : Int32} {p3 : Int32} {v1 : Int32} {v7 : Int32} {v13 : Int32} {v15 : Int32} {v17 : Int32} {v19 : Int32} {v21 : Int32} {v40 : List Int32} {v47 : List Int32} {v57 : Int32} (hv1 : v1 = ((p0 &&& (2147483647 : Int32)) - ((p0 &&& (2147483647 : Int32)) / (5 : Int32)) * (5 : Int32))) (hv7 : v7 = (if v1 = (0 : Int32) then (0 : Int32) else ((((p0.toUInt32 >>> ((8 : Int32) &&& 31).toUInt32).toInt32) &&& (7 : Int32)) - ((((p0.toUInt32 >>> ((8 : Int32) &&& 31).toUInt32).toInt32) &&& (7 : Int32)) / (5 : Int32)) * (5 : Int32)))) (hv13 : v13 = (if v1 = (0 : Int32) then (1 : Int32) else v1)) (hv15 : v15 = ((p1 &&& (255 : Int32)) - ((p1 &&& (255 : Int32)) / v13) * v13)) (hv17 : v17 = ((((p1.toUInt32 >>> ((8 : Int32) &&& 31).toUInt32).toInt32) &&& (255 : Int32)) - ((((p1.toUInt32 >>> ((8 : Int32) &&& 31).toUInt32).toInt32) &&& (255 : Int32)) / v13) * v13)) (hv19 : v19 = ((((p1.toUInt32 >>> ((16 : Int32) &&& 31).toUInt32).toInt32) &&& (255 : Int32)) - ((((p1.toUInt32 >>> ((16 : Int32) &&& 31).toUInt32).toInt32) &&& (255 : Int32)) / v13) * v13)) (hv21 : v21 = ((((p1.toUInt32 >>> ((24 : Int32) &&& 31).toUInt32).toInt32) &&& (255 : Int32)) - ((((p1.toUInt32 >>> ((24 : Int32) &&& 31).toUInt32).toInt32) &&& (255 : Int32)) / v13) * v13)) (hv40 : v40 = (own_G1_0 v7 v15 v17 v19 v21)) (hv47 : v47 = (own_G2_0 v1 p2 p3 v40)) (hv57 : v57 = (own_F3 (0 : Int32) v1 v7 p2 p3 v47 ([v15, v17, v19, v21] : List Int32))) (hc148_52 : (Int32.ofNat (List.length v47)) = (v1 + (1 : Int32))) (hc167_58 : v57 = (0 : Int32)) : (nar .boolean (0 : Int32)) = (own_F0 p0 p1 p2 p3) := by
  rw [own_nb0]
  subst hv1 hv7 hv13 hv15 hv17 hv19 hv21 hv40 hv47 hv57
  first
    | (simp only [own_F0, if_pos hc148_52, if_pos hc167_58]; done)
    | (exfalso; contradiction)
theorem own_e0_68 {p0 : Int32} {p1 : Int32} {p2 : Int32} {p3 : Int32} {v1 : Int32} {v7 : Int32} {v13 : Int32} {v15 : Int32} {v17 : Int32} {v19 : Int32} {v21 : Int32} {v40 : List Int32} {v47 : List Int32} {v57 : Int32} {v65 : Int32} (hv1 : v1 = ((p0 &&& (2147483647 : Int32)) - ((p0 &&& (2147483647 : Int32)) / (5 : Int32)) * (5 : Int32))) (hv7 : v7 = (if v1 = (0 : Int32) then (0 : Int32) else ((((p0.toUInt32 >>> ((8 : Int32) &&& 31).toUInt32).toInt32) &&& (7 : Int32)) - ((((p0.toUInt32 >>> ((8 : Int32) &&& 31).toUInt32).toInt32) &&& (7 : Int32)) / (5 : Int32)) * (5 : Int32)))) (hv13 : v13 = (if v1 = (0 : Int32) then (1 : Int32) else v1)) (hv15 : v15 = ((p1 &&& (255 : Int32)) - ((p1 &&& (255 : Int32)) / v13) * v13)) (hv17 : v17 = ((((p1.toUInt32 >>> ((8 : Int32) &&& 31).toUInt32).toInt32) &&& (255 : Int32)) - ((((p1.toUInt32 >>> ((8 : Int32) &&& 31).toUInt32).toInt32) &&& (255 : Int32)) / v13) * v13)) (hv19 : v19 = ((((p1.toUInt32 >>> ((16 : Int32) &&& 31).toUInt32).toInt32) &&& (255 : Int32)) - ((((p1.toUInt32 >>> ((16 : Int32) &&& 31).toUInt32).toInt32) &&& (255 : Int32)) / v13) * v13)) (hv21 : v21 = ((((p1.toUInt32 >>> ((24 : Int32) &&& 31).toUInt32).toInt32) &&& (255 : Int32)) - ((((p1.toUInt32 >>> ((24 : Int32) &&& 31).toUInt32).toInt32) &&& (255 : Int32)) / v13) * v13)) (hv40 : v40 = (own_G1_0 v7 v15 v17 v19 v21)) (hv47 : v47 = (own_G2_0 v1 p2 p3 v40)) (hv57 : v57 = (own_F3 (0 : Int32) v1 v7 p2 p3 v47 ([v15, v17, v19, v21] : List Int32))) (hv65 : v65 = (own_F3 (1 : Int32) v1 v7 p2 p3 v47 ([v15, v17, v19, v21] : List Int32))) (hc148_52 : (Int32.ofNat (List.length v47)) = (v1 + (1 : Int32))) (hc167_58 : ¬ (v57 = (0 : Int32))) (hc184_66 : v65 = (0 : Int32)) : (nar .boolean (0 : Int32)) = (own_F0 p0 p1 p2 p3) := by
  rw [own_nb0]
  subst hv1 hv7 hv13 hv15 hv17 hv19 hv21 hv40 hv47 hv57 hv65
  first
    | (simp only [own_F0, if_pos hc148_52, if_neg hc167_58, if_pos hc184_66]; done)
    | (exfalso; contradiction)
theorem own_e0_76 {p0 : Int32} {p1 : Int32} {p2 : Int32} {p3 : Int32} {v1 : Int32} {v7 : Int32} {v13 : Int32} {v15 : Int32} {v17 : Int32} {v19 : Int32} {v21 : Int32} {v40 : List Int32} {v47 : List Int32} {v57 : Int32} {v65 : Int32} {v73 : Int32} (hv1 : v1 = ((p0 &&& (2147483647 : Int32)) - ((p0 &&& (2147483647 : Int32)) / (5 : Int32)) * (5 : Int32))) (hv7 : v7 = (if v1 = (0 : Int32) then (0 : Int32) else ((((p0.toUInt32 >>> ((8 : Int32) &&& 31).toUInt32).toInt32) &&& (7 : Int32)) - ((((p0.toUInt32 >>> ((8 : Int32) &&& 31).toUInt32).toInt32) &&& (7 : Int32)) / (5 : Int32)) * (5 : Int32)))) (hv13 : v13 = (if v1 = (0 : Int32) then (1 : Int32) else v1)) (hv15 : v15 = ((p1 &&& (255 : Int32)) - ((p1 &&& (255 : Int32)) / v13) * v13)) (hv17 : v17 = ((((p1.toUInt32 >>> ((8 : Int32) &&& 31).toUInt32).toInt32) &&& (255 : Int32)) - ((((p1.toUInt32 >>> ((8 : Int32) &&& 31).toUInt32).toInt32) &&& (255 : Int32)) / v13) * v13)) (hv19 : v19 = ((((p1.toUInt32 >>> ((16 : Int32) &&& 31).toUInt32).toInt32) &&& (255 : Int32)) - ((((p1.toUInt32 >>> ((16 : Int32) &&& 31).toUInt32).toInt32) &&& (255 : Int32)) / v13) * v13)) (hv21 : v21 = ((((p1.toUInt32 >>> ((24 : Int32) &&& 31).toUInt32).toInt32) &&& (255 : Int32)) - ((((p1.toUInt32 >>> ((24 : Int32) &&& 31).toUInt32).toInt32) &&& (255 : Int32)) / v13) * v13)) (hv40 : v40 = (own_G1_0 v7 v15 v17 v19 v21)) (hv47 : v47 = (own_G2_0 v1 p2 p3 v40)) (hv57 : v57 = (own_F3 (0 : Int32) v1 v7 p2 p3 v47 ([v15, v17, v19, v21] : List Int32))) (hv65 : v65 = (own_F3 (1 : Int32) v1 v7 p2 p3 v47 ([v15, v17, v19, v21] : List Int32))) (hv73 : v73 = (own_F3 (2 : Int32) v1 v7 p2 p3 v47 ([v15, v17, v19, v21] : List Int32))) (hc148_52 : (Int32.ofNat (List.length v47)) = (v1 + (1 : Int32))) (hc167_58 : ¬ (v57 = (0 : Int32))) (hc184_66 : ¬ (v65 = (0 : Int32))) (hc201_74 : v73 = (0 : Int32)) : (nar .boolean (0 : Int32)) = (own_F0 p0 p1 p2 p3) := by
  rw [own_nb0]
  subst hv1 hv7 hv13 hv15 hv17 hv19 hv21 hv40 hv47 hv57 hv65 hv73
  first
    | (simp only [own_F0, if_pos hc148_52, if_neg hc167_58, if_neg hc184_66, if_pos hc201_74]; done)
    | (exfalso; contradiction)
theorem own_e0_84 {p0 : Int32} {p1 : Int32} {p2 : Int32} {p3 : Int32} {v1 : Int32} {v7 : Int32} {v13 : Int32} {v15 : Int32} {v17 : Int32} {v19 : Int32} {v21 : Int32} {v40 : List Int32} {v47 : List Int32} {v57 : Int32} {v65 : Int32} {v73 : Int32} {v81 : Int32} (hv1 : v1 = ((p0 &&& (2147483647 : Int32)) - ((p0 &&& (2147483647 : Int32)) / (5 : Int32)) * (5 : Int32))) (hv7 : v7 = (if v1 = (0 : Int32) then (0 : Int32) else ((((p0.toUInt32 >>> ((8 : Int32) &&& 31).toUInt32).toInt32) &&& (7 : Int32)) - ((((p0.toUInt32 >>> ((8 : Int32) &&& 31).toUInt32).toInt32) &&& (7 : Int32)) / (5 : Int32)) * (5 : Int32)))) (hv13 : v13 = (if v1 = (0 : Int32) then (1 : Int32) else v1)) (hv15 : v15 = ((p1 &&& (255 : Int32)) - ((p1 &&& (255 : Int32)) / v13) * v13)) (hv17 : v17 = ((((p1.toUInt32 >>> ((8 : Int32) &&& 31).toUInt32).toInt32) &&& (255 : Int32)) - ((((p1.toUInt32 >>> ((8 : Int32) &&& 31).toUInt32).toInt32) &&& (255 : Int32)) / v13) * v13)) (hv19 : v19 = ((((p1.toUInt32 >>> ((16 : Int32) &&& 31).toUInt32).toInt32) &&& (255 : Int32)) - ((((p1.toUInt32 >>> ((16 : Int32) &&& 31).toUInt32).toInt32) &&& (255 : Int32)) / v13) * v13)) (hv21 : v21 = ((((p1.toUInt32 >>> ((24 : Int32) &&& 31).toUInt32).toInt32) &&& (255 : Int32)) - ((((p1.toUInt32 >>> ((24 : Int32) &&& 31).toUInt32).toInt32) &&& (255 : Int32)) / v13) * v13)) (hv40 : v40 = (own_G1_0 v7 v15 v17 v19 v21)) (hv47 : v47 = (own_G2_0 v1 p2 p3 v40)) (hv57 : v57 = (own_F3 (0 : Int32) v1 v7 p2 p3 v47 ([v15, v17, v19, v21] : List Int32))) (hv65 : v65 = (own_F3 (1 : Int32) v1 v7 p2 p3 v47 ([v15, v17, v19, v21] : List Int32))) (hv73 : v73 = (own_F3 (2 : Int32) v1 v7 p2 p3 v47 ([v15, v17, v19, v21] : List Int32))) (hv81 : v81 = (own_F3 (3 : Int32) v1 v7 p2 p3 v47 ([v15, v17, v19, v21] : List Int32))) (hc148_52 : (Int32.ofNat (List.length v47)) = (v1 + (1 : Int32))) (hc167_58 : ¬ (v57 = (0 : Int32))) (hc184_66 : ¬ (v65 = (0 : Int32))) (hc201_74 : ¬ (v73 = (0 : Int32))) (hc218_82 : v81 = (0 : Int32)) : (nar .boolean (0 : Int32)) = (own_F0 p0 p1 p2 p3) := by
  rw [own_nb0]
  subst hv1 hv7 hv13 hv15 hv17 hv19 hv21 hv40 hv47 hv57 hv65 hv73 hv81
  first
    | (simp only [own_F0, if_pos hc148_52, if_neg hc167_58, if_neg hc184_66, if_neg hc201_74, if_pos hc218_82]; done)
    | (exfalso; contradiction)
theorem own_e0_92 {p0 : Int32} {p1 : Int32} {p2 : Int32} {p3 : Int32} {v1 : Int32} {v7 : Int32} {v13 : Int32} {v15 : Int32} {v17 : Int32} {v19 : Int32} {v21 : Int32} {v40 : List Int32} {v47 : List Int32} {v57 : Int32} {v65 : Int32} {v73 : Int32} {v81 : Int32} {v89 : Int32} (hv1 : v1 = ((p0 &&& (2147483647 : Int32)) - ((p0 &&& (2147483647 : Int32)) / (5 : Int32)) * (5 : Int32))) (hv7 : v7 = (if v1 = (0 : Int32) then (0 : Int32) else ((((p0.toUInt32 >>> ((8 : Int32) &&& 31).toUInt32).toInt32) &&& (7 : Int32)) - ((((p0.toUInt32 >>> ((8 : Int32) &&& 31).toUInt32).toInt32) &&& (7 : Int32)) / (5 : Int32)) * (5 : Int32)))) (hv13 : v13 = (if v1 = (0 : Int32) then (1 : Int32) else v1)) (hv15 : v15 = ((p1 &&& (255 : Int32)) - ((p1 &&& (255 : Int32)) / v13) * v13)) (hv17 : v17 = ((((p1.toUInt32 >>> ((8 : Int32) &&& 31).toUInt32).toInt32) &&& (255 : Int32)) - ((((p1.toUInt32 >>> ((8 : Int32) &&& 31).toUInt32).toInt32) &&& (255 : Int32)) / v13) * v13)) (hv19 : v19 = ((((p1.toUInt32 >>> ((16 : Int32) &&& 31).toUInt32).toInt32) &&& (255 : Int32)) - ((((p1.toUInt32 >>> ((16 : Int32) &&& 31).toUInt32).toInt32) &&& (255 : Int32)) / v13) * v13)) (hv21 : v21 = ((((p1.toUInt32 >>> ((24 : Int32) &&& 31).toUInt32).toInt32) &&& (255 : Int32)) - ((((p1.toUInt32 >>> ((24 : Int32) &&& 31).toUInt32).toInt32) &&& (255 : Int32)) / v13) * v13)) (hv40 : v40 = (own_G1_0 v7 v15 v17 v19 v21)) (hv47 : v47 = (own_G2_0 v1 p2 p3 v40)) (hv57 : v57 = (own_F3 (0 : Int32) v1 v7 p2 p3 v47 ([v15, v17, v19, v21] : List Int32))) (hv65 : v65 = (own_F3 (1 : Int32) v1 v7 p2 p3 v47 ([v15, v17, v19, v21] : List Int32))) (hv73 : v73 = (own_F3 (2 : Int32) v1 v7 p2 p3 v47 ([v15, v17, v19, v21] : List Int32))) (hv81 : v81 = (own_F3 (3 : Int32) v1 v7 p2 p3 v47 ([v15, v17, v19, v21] : List Int32))) (hv89 : v89 = (own_F3 (4 : Int32) v1 v7 p2 p3 v47 ([v15, v17, v19, v21] : List Int32))) (hc148_52 : (Int32.ofNat (List.length v47)) = (v1 + (1 : Int32))) (hc167_58 : ¬ (v57 = (0 : Int32))) (hc184_66 : ¬ (v65 = (0 : Int32))) (hc201_74 : ¬ (v73 = (0 : Int32))) (hc218_82 : ¬ (v81 = (0 : Int32))) (hc235_90 : v89 = (0 : Int32)) : (nar .boolean (0 : Int32)) = (own_F0 p0 p1 p2 p3) := by
  rw [own_nb0]
  subst hv1 hv7 hv13 hv15 hv17 hv19 hv21 hv40 hv47 hv57 hv65 hv73 hv81 hv89
  first
    | (simp only [own_F0, if_pos hc148_52, if_neg hc167_58, if_neg hc184_66, if_neg hc201_74, if_neg hc218_82, if_pos hc235_90]; done)
    | (exfalso; contradiction)
theorem own_e0_94 {p0 : Int32} {p1 : Int32} {p2 : Int32} {p3 : Int32} {v1 : Int32} {v7 : Int32} {v13 : Int32} {v15 : Int32} {v17 : Int32} {v19 : Int32} {v21 : Int32} {v40 : List Int32} {v47 : List Int32} {v57 : Int32} {v65 : Int32} {v73 : Int32} {v81 : Int32} {v89 : Int32} (hv1 : v1 = ((p0 &&& (2147483647 : Int32)) - ((p0 &&& (2147483647 : Int32)) / (5 : Int32)) * (5 : Int32))) (hv7 : v7 = (if v1 = (0 : Int32) then (0 : Int32) else ((((p0.toUInt32 >>> ((8 : Int32) &&& 31).toUInt32).toInt32) &&& (7 : Int32)) - ((((p0.toUInt32 >>> ((8 : Int32) &&& 31).toUInt32).toInt32) &&& (7 : Int32)) / (5 : Int32)) * (5 : Int32)))) (hv13 : v13 = (if v1 = (0 : Int32) then (1 : Int32) else v1)) (hv15 : v15 = ((p1 &&& (255 : Int32)) - ((p1 &&& (255 : Int32)) / v13) * v13)) (hv17 : v17 = ((((p1.toUInt32 >>> ((8 : Int32) &&& 31).toUInt32).toInt32) &&& (255 : Int32)) - ((((p1.toUInt32 >>> ((8 : Int32) &&& 31).toUInt32).toInt32) &&& (255 : Int32)) / v13) * v13)) (hv19 : v19 = ((((p1.toUInt32 >>> ((16 : Int32) &&& 31).toUInt32).toInt32) &&& (255 : Int32)) - ((((p1.toUInt32 >>> ((16 : Int32) &&& 31).toUInt32).toInt32) &&& (255 : Int32)) / v13) * v13)) (hv21 : v21 = ((((p1.toUInt32 >>> ((24 : Int32) &&& 31).toUInt32).toInt32) &&& (255 : Int32)) - ((((p1.toUInt32 >>> ((24 : Int32) &&& 31).toUInt32).toInt32) &&& (255 : Int32)) / v13) * v13)) (hv40 : v40 = (own_G1_0 v7 v15 v17 v19 v21)) (hv47 : v47 = (own_G2_0 v1 p2 p3 v40)) (hv57 : v57 = (own_F3 (0 : Int32) v1 v7 p2 p3 v47 ([v15, v17, v19, v21] : List Int32))) (hv65 : v65 = (own_F3 (1 : Int32) v1 v7 p2 p3 v47 ([v15, v17, v19, v21] : List Int32))) (hv73 : v73 = (own_F3 (2 : Int32) v1 v7 p2 p3 v47 ([v15, v17, v19, v21] : List Int32))) (hv81 : v81 = (own_F3 (3 : Int32) v1 v7 p2 p3 v47 ([v15, v17, v19, v21] : List Int32))) (hv89 : v89 = (own_F3 (4 : Int32) v1 v7 p2 p3 v47 ([v15, v17, v19, v21] : List Int32))) (hc148_52 : (Int32.ofNat (List.length v47)) = (v1 + (1 : Int32))) (hc167_58 : ¬ (v57 = (0 : Int32))) (hc184_66 : ¬ (v65 = (0 : Int32))) (hc201_74 : ¬ (v73 = (0 : Int32))) (hc218_82 : ¬ (v81 = (0 : Int32))) (hc235_90 : ¬ (v89 = (0 : Int32))) : (nar .boolean (1 : Int32)) = (own_F0 p0 p1 p2 p3) := by
  rw [own_nb1]
  subst hv1 hv7 hv13 hv15 hv17 hv19 hv21 hv40 hv47 hv57 hv65 hv73 hv81 hv89
  first
    | (simp only [own_F0, if_pos hc148_52, if_neg hc167_58, if_neg hc184_66, if_neg hc201_74, if_neg hc218_82, if_neg hc235_90]; done)
    | (exfalso; contradiction)
theorem own_e0_96 {p0 : Int32} {p1 : Int32} {p2 : Int32} {p3 : Int32} {v1 : Int32} {v7 : Int32} {v13 : Int32} {v15 : Int32} {v17 : Int32} {v19 : Int32} {v21 : Int32} {v40 : List Int32} {v47 : List Int32} (hv1 : v1 = ((p0 &&& (2147483647 : Int32)) - ((p0 &&& (2147483647 : Int32)) / (5 : Int32)) * (5 : Int32))) (hv7 : v7 = (if v1 = (0 : Int32) then (0 : Int32) else ((((p0.toUInt32 >>> ((8 : Int32) &&& 31).toUInt32).toInt32) &&& (7 : Int32)) - ((((p0.toUInt32 >>> ((8 : Int32) &&& 31).toUInt32).toInt32) &&& (7 : Int32)) / (5 : Int32)) * (5 : Int32)))) (hv13 : v13 = (if v1 = (0 : Int32) then (1 : Int32) else v1)) (hv15 : v15 = ((p1 &&& (255 : Int32)) - ((p1 &&& (255 : Int32)) / v13) * v13)) (hv17 : v17 = ((((p1.toUInt32 >>> ((8 : Int32) &&& 31).toUInt32).toInt32) &&& (255 : Int32)) - ((((p1.toUInt32 >>> ((8 : Int32) &&& 31).toUInt32).toInt32) &&& (255 : Int32)) / v13) * v13)) (hv19 : v19 = ((((p1.toUInt32 >>> ((16 : Int32) &&& 31).toUInt32).toInt32) &&& (255 : Int32)) - ((((p1.toUInt32 >>> ((16 : Int32) &&& 31).toUInt32).toInt32) &&& (255 : Int32)) / v13) * v13)) (hv21 : v21 = ((((p1.toUInt32 >>> ((24 : Int32) &&& 31).toUInt32).toInt32) &&& (255 : Int32)) - ((((p1.toUInt32 >>> ((24 : Int32) &&& 31).toUInt32).toInt32) &&& (255 : Int32)) / v13) * v13)) (hv40 : v40 = (own_G1_0 v7 v15 v17 v19 v21)) (hv47 : v47 = (own_G2_0 v1 p2 p3 v40)) (hc148_52 : ¬ ((Int32.ofNat (List.length v47)) = (v1 + (1 : Int32)))) : (nar .boolean (0 : Int32)) = (own_F0 p0 p1 p2 p3) := by
  rw [own_nb0]
  subst hv1 hv7 hv13 hv15 hv17 hv19 hv21 hv40 hv47
  first
    | (simp only [own_F0, if_neg hc148_52]; done)
    | (exfalso; contradiction)
theorem own_h0_45 {p0 : Int32} {p1 : Int32} {p2 : Int32} {p3 : Int32} {v1 : Int32} {v7 : Int32} {v13 : Int32} {v15 : Int32} {v17 : Int32} {v19 : Int32} {v21 : Int32} {v40 : List Int32} (hv1 : v1 = ((p0 &&& (2147483647 : Int32)) - ((p0 &&& (2147483647 : Int32)) / (5 : Int32)) * (5 : Int32))) (hv7 : v7 = (if v1 = (0 : Int32) then (0 : Int32) else ((((p0.toUInt32 >>> ((8 : Int32) &&& 31).toUInt32).toInt32) &&& (7 : Int32)) - ((((p0.toUInt32 >>> ((8 : Int32) &&& 31).toUInt32).toInt32) &&& (7 : Int32)) / (5 : Int32)) * (5 : Int32)))) (hv13 : v13 = (if v1 = (0 : Int32) then (1 : Int32) else v1)) (hv15 : v15 = ((p1 &&& (255 : Int32)) - ((p1 &&& (255 : Int32)) / v13) * v13)) (hv17 : v17 = ((((p1.toUInt32 >>> ((8 : Int32) &&& 31).toUInt32).toInt32) &&& (255 : Int32)) - ((((p1.toUInt32 >>> ((8 : Int32) &&& 31).toUInt32).toInt32) &&& (255 : Int32)) / v13) * v13)) (hv19 : v19 = ((((p1.toUInt32 >>> ((16 : Int32) &&& 31).toUInt32).toInt32) &&& (255 : Int32)) - ((((p1.toUInt32 >>> ((16 : Int32) &&& 31).toUInt32).toInt32) &&& (255 : Int32)) / v13) * v13)) (hv21 : v21 = ((((p1.toUInt32 >>> ((24 : Int32) &&& 31).toUInt32).toInt32) &&& (255 : Int32)) - ((((p1.toUInt32 >>> ((24 : Int32) &&& 31).toUInt32).toInt32) &&& (255 : Int32)) / v13) * v13)) (hv40 : v40 = (own_G1_0 v7 v15 v17 v19 v21)) : ∀ x ∈ v40, 0 ≤ x.toInt ∧ x.toInt < v1.toInt := by
  exact own_keys hv1 hv7 hv13 hv15 hv17 hv19 hv21 hv40
theorem own_h0_46 {p0 : Int32} {p1 : Int32} {p2 : Int32} {p3 : Int32} {v1 : Int32} {v7 : Int32} {v13 : Int32} {v15 : Int32} {v17 : Int32} {v19 : Int32} {v21 : Int32} {v40 : List Int32} (hv1 : v1 = ((p0 &&& (2147483647 : Int32)) - ((p0 &&& (2147483647 : Int32)) / (5 : Int32)) * (5 : Int32))) (hv7 : v7 = (if v1 = (0 : Int32) then (0 : Int32) else ((((p0.toUInt32 >>> ((8 : Int32) &&& 31).toUInt32).toInt32) &&& (7 : Int32)) - ((((p0.toUInt32 >>> ((8 : Int32) &&& 31).toUInt32).toInt32) &&& (7 : Int32)) / (5 : Int32)) * (5 : Int32)))) (hv13 : v13 = (if v1 = (0 : Int32) then (1 : Int32) else v1)) (hv15 : v15 = ((p1 &&& (255 : Int32)) - ((p1 &&& (255 : Int32)) / v13) * v13)) (hv17 : v17 = ((((p1.toUInt32 >>> ((8 : Int32) &&& 31).toUInt32).toInt32) &&& (255 : Int32)) - ((((p1.toUInt32 >>> ((8 : Int32) &&& 31).toUInt32).toInt32) &&& (255 : Int32)) / v13) * v13)) (hv19 : v19 = ((((p1.toUInt32 >>> ((16 : Int32) &&& 31).toUInt32).toInt32) &&& (255 : Int32)) - ((((p1.toUInt32 >>> ((16 : Int32) &&& 31).toUInt32).toInt32) &&& (255 : Int32)) / v13) * v13)) (hv21 : v21 = ((((p1.toUInt32 >>> ((24 : Int32) &&& 31).toUInt32).toInt32) &&& (255 : Int32)) - ((((p1.toUInt32 >>> ((24 : Int32) &&& 31).toUInt32).toInt32) &&& (255 : Int32)) / v13) * v13)) (hv40 : v40 = (own_G1_0 v7 v15 v17 v19 v21)) : 0 ≤ v1.toInt ∧ v1.toInt ≤ 4 := by
  exact own_len5 hv1
theorem own_h0_55 {p0 : Int32} {p1 : Int32} {p2 : Int32} {p3 : Int32} {v1 : Int32} {v7 : Int32} {v13 : Int32} {v15 : Int32} {v17 : Int32} {v19 : Int32} {v21 : Int32} {v40 : List Int32} {v47 : List Int32} (hv1 : v1 = ((p0 &&& (2147483647 : Int32)) - ((p0 &&& (2147483647 : Int32)) / (5 : Int32)) * (5 : Int32))) (hv7 : v7 = (if v1 = (0 : Int32) then (0 : Int32) else ((((p0.toUInt32 >>> ((8 : Int32) &&& 31).toUInt32).toInt32) &&& (7 : Int32)) - ((((p0.toUInt32 >>> ((8 : Int32) &&& 31).toUInt32).toInt32) &&& (7 : Int32)) / (5 : Int32)) * (5 : Int32)))) (hv13 : v13 = (if v1 = (0 : Int32) then (1 : Int32) else v1)) (hv15 : v15 = ((p1 &&& (255 : Int32)) - ((p1 &&& (255 : Int32)) / v13) * v13)) (hv17 : v17 = ((((p1.toUInt32 >>> ((8 : Int32) &&& 31).toUInt32).toInt32) &&& (255 : Int32)) - ((((p1.toUInt32 >>> ((8 : Int32) &&& 31).toUInt32).toInt32) &&& (255 : Int32)) / v13) * v13)) (hv19 : v19 = ((((p1.toUInt32 >>> ((16 : Int32) &&& 31).toUInt32).toInt32) &&& (255 : Int32)) - ((((p1.toUInt32 >>> ((16 : Int32) &&& 31).toUInt32).toInt32) &&& (255 : Int32)) / v13) * v13)) (hv21 : v21 = ((((p1.toUInt32 >>> ((24 : Int32) &&& 31).toUInt32).toInt32) &&& (255 : Int32)) - ((((p1.toUInt32 >>> ((24 : Int32) &&& 31).toUInt32).toInt32) &&& (255 : Int32)) / v13) * v13)) (hv40 : v40 = (own_G1_0 v7 v15 v17 v19 v21)) (hv47 : v47 = (own_G2_0 v1 p2 p3 v40)) (hc148_52 : (Int32.ofNat (List.length v47)) = (v1 + (1 : Int32))) : ([v15, v17, v19, v21] : List Int32).length = 4 := by
  rfl
theorem own_h0_56 {p0 : Int32} {p1 : Int32} {p2 : Int32} {p3 : Int32} {v1 : Int32} {v7 : Int32} {v13 : Int32} {v15 : Int32} {v17 : Int32} {v19 : Int32} {v21 : Int32} {v40 : List Int32} {v47 : List Int32} (hv1 : v1 = ((p0 &&& (2147483647 : Int32)) - ((p0 &&& (2147483647 : Int32)) / (5 : Int32)) * (5 : Int32))) (hv7 : v7 = (if v1 = (0 : Int32) then (0 : Int32) else ((((p0.toUInt32 >>> ((8 : Int32) &&& 31).toUInt32).toInt32) &&& (7 : Int32)) - ((((p0.toUInt32 >>> ((8 : Int32) &&& 31).toUInt32).toInt32) &&& (7 : Int32)) / (5 : Int32)) * (5 : Int32)))) (hv13 : v13 = (if v1 = (0 : Int32) then (1 : Int32) else v1)) (hv15 : v15 = ((p1 &&& (255 : Int32)) - ((p1 &&& (255 : Int32)) / v13) * v13)) (hv17 : v17 = ((((p1.toUInt32 >>> ((8 : Int32) &&& 31).toUInt32).toInt32) &&& (255 : Int32)) - ((((p1.toUInt32 >>> ((8 : Int32) &&& 31).toUInt32).toInt32) &&& (255 : Int32)) / v13) * v13)) (hv19 : v19 = ((((p1.toUInt32 >>> ((16 : Int32) &&& 31).toUInt32).toInt32) &&& (255 : Int32)) - ((((p1.toUInt32 >>> ((16 : Int32) &&& 31).toUInt32).toInt32) &&& (255 : Int32)) / v13) * v13)) (hv21 : v21 = ((((p1.toUInt32 >>> ((24 : Int32) &&& 31).toUInt32).toInt32) &&& (255 : Int32)) - ((((p1.toUInt32 >>> ((24 : Int32) &&& 31).toUInt32).toInt32) &&& (255 : Int32)) / v13) * v13)) (hv40 : v40 = (own_G1_0 v7 v15 v17 v19 v21)) (hv47 : v47 = (own_G2_0 v1 p2 p3 v40)) (hc148_52 : (Int32.ofNat (List.length v47)) = (v1 + (1 : Int32))) : ¬ v1 < (0 : Int32) → 0 ≤ (0 : Int32).toInt ∧ (0 : Int32).toInt < (v47.length : Int) := by
  exact own_inR hv1 hv40 hv47 (by decide)
theorem own_h0_63 {p0 : Int32} {p1 : Int32} {p2 : Int32} {p3 : Int32} {v1 : Int32} {v7 : Int32} {v13 : Int32} {v15 : Int32} {v17 : Int32} {v19 : Int32} {v21 : Int32} {v40 : List Int32} {v47 : List Int32} {v57 : Int32} (hv1 : v1 = ((p0 &&& (2147483647 : Int32)) - ((p0 &&& (2147483647 : Int32)) / (5 : Int32)) * (5 : Int32))) (hv7 : v7 = (if v1 = (0 : Int32) then (0 : Int32) else ((((p0.toUInt32 >>> ((8 : Int32) &&& 31).toUInt32).toInt32) &&& (7 : Int32)) - ((((p0.toUInt32 >>> ((8 : Int32) &&& 31).toUInt32).toInt32) &&& (7 : Int32)) / (5 : Int32)) * (5 : Int32)))) (hv13 : v13 = (if v1 = (0 : Int32) then (1 : Int32) else v1)) (hv15 : v15 = ((p1 &&& (255 : Int32)) - ((p1 &&& (255 : Int32)) / v13) * v13)) (hv17 : v17 = ((((p1.toUInt32 >>> ((8 : Int32) &&& 31).toUInt32).toInt32) &&& (255 : Int32)) - ((((p1.toUInt32 >>> ((8 : Int32) &&& 31).toUInt32).toInt32) &&& (255 : Int32)) / v13) * v13)) (hv19 : v19 = ((((p1.toUInt32 >>> ((16 : Int32) &&& 31).toUInt32).toInt32) &&& (255 : Int32)) - ((((p1.toUInt32 >>> ((16 : Int32) &&& 31).toUInt32).toInt32) &&& (255 : Int32)) / v13) * v13)) (hv21 : v21 = ((((p1.toUInt32 >>> ((24 : Int32) &&& 31).toUInt32).toInt32) &&& (255 : Int32)) - ((((p1.toUInt32 >>> ((24 : Int32) &&& 31).toUInt32).toInt32) &&& (255 : Int32)) / v13) * v13)) (hv40 : v40 = (own_G1_0 v7 v15 v17 v19 v21)) (hv47 : v47 = (own_G2_0 v1 p2 p3 v40)) (hv57 : v57 = (own_F3 (0 : Int32) v1 v7 p2 p3 v47 ([v15, v17, v19, v21] : List Int32))) (hc148_52 : (Int32.ofNat (List.length v47)) = (v1 + (1 : Int32))) (hc167_58 : ¬ (v57 = (0 : Int32))) : ([v15, v17, v19, v21] : List Int32).length = 4 := by
  rfl
theorem own_h0_64 {p0 : Int32} {p1 : Int32} {p2 : Int32} {p3 : Int32} {v1 : Int32} {v7 : Int32} {v13 : Int32} {v15 : Int32} {v17 : Int32} {v19 : Int32} {v21 : Int32} {v40 : List Int32} {v47 : List Int32} {v57 : Int32} (hv1 : v1 = ((p0 &&& (2147483647 : Int32)) - ((p0 &&& (2147483647 : Int32)) / (5 : Int32)) * (5 : Int32))) (hv7 : v7 = (if v1 = (0 : Int32) then (0 : Int32) else ((((p0.toUInt32 >>> ((8 : Int32) &&& 31).toUInt32).toInt32) &&& (7 : Int32)) - ((((p0.toUInt32 >>> ((8 : Int32) &&& 31).toUInt32).toInt32) &&& (7 : Int32)) / (5 : Int32)) * (5 : Int32)))) (hv13 : v13 = (if v1 = (0 : Int32) then (1 : Int32) else v1)) (hv15 : v15 = ((p1 &&& (255 : Int32)) - ((p1 &&& (255 : Int32)) / v13) * v13)) (hv17 : v17 = ((((p1.toUInt32 >>> ((8 : Int32) &&& 31).toUInt32).toInt32) &&& (255 : Int32)) - ((((p1.toUInt32 >>> ((8 : Int32) &&& 31).toUInt32).toInt32) &&& (255 : Int32)) / v13) * v13)) (hv19 : v19 = ((((p1.toUInt32 >>> ((16 : Int32) &&& 31).toUInt32).toInt32) &&& (255 : Int32)) - ((((p1.toUInt32 >>> ((16 : Int32) &&& 31).toUInt32).toInt32) &&& (255 : Int32)) / v13) * v13)) (hv21 : v21 = ((((p1.toUInt32 >>> ((24 : Int32) &&& 31).toUInt32).toInt32) &&& (255 : Int32)) - ((((p1.toUInt32 >>> ((24 : Int32) &&& 31).toUInt32).toInt32) &&& (255 : Int32)) / v13) * v13)) (hv40 : v40 = (own_G1_0 v7 v15 v17 v19 v21)) (hv47 : v47 = (own_G2_0 v1 p2 p3 v40)) (hv57 : v57 = (own_F3 (0 : Int32) v1 v7 p2 p3 v47 ([v15, v17, v19, v21] : List Int32))) (hc148_52 : (Int32.ofNat (List.length v47)) = (v1 + (1 : Int32))) (hc167_58 : ¬ (v57 = (0 : Int32))) : ¬ v1 < (1 : Int32) → 0 ≤ (1 : Int32).toInt ∧ (1 : Int32).toInt < (v47.length : Int) := by
  exact own_inR hv1 hv40 hv47 (by decide)
theorem own_h0_71 {p0 : Int32} {p1 : Int32} {p2 : Int32} {p3 : Int32} {v1 : Int32} {v7 : Int32} {v13 : Int32} {v15 : Int32} {v17 : Int32} {v19 : Int32} {v21 : Int32} {v40 : List Int32} {v47 : List Int32} {v57 : Int32} {v65 : Int32} (hv1 : v1 = ((p0 &&& (2147483647 : Int32)) - ((p0 &&& (2147483647 : Int32)) / (5 : Int32)) * (5 : Int32))) (hv7 : v7 = (if v1 = (0 : Int32) then (0 : Int32) else ((((p0.toUInt32 >>> ((8 : Int32) &&& 31).toUInt32).toInt32) &&& (7 : Int32)) - ((((p0.toUInt32 >>> ((8 : Int32) &&& 31).toUInt32).toInt32) &&& (7 : Int32)) / (5 : Int32)) * (5 : Int32)))) (hv13 : v13 = (if v1 = (0 : Int32) then (1 : Int32) else v1)) (hv15 : v15 = ((p1 &&& (255 : Int32)) - ((p1 &&& (255 : Int32)) / v13) * v13)) (hv17 : v17 = ((((p1.toUInt32 >>> ((8 : Int32) &&& 31).toUInt32).toInt32) &&& (255 : Int32)) - ((((p1.toUInt32 >>> ((8 : Int32) &&& 31).toUInt32).toInt32) &&& (255 : Int32)) / v13) * v13)) (hv19 : v19 = ((((p1.toUInt32 >>> ((16 : Int32) &&& 31).toUInt32).toInt32) &&& (255 : Int32)) - ((((p1.toUInt32 >>> ((16 : Int32) &&& 31).toUInt32).toInt32) &&& (255 : Int32)) / v13) * v13)) (hv21 : v21 = ((((p1.toUInt32 >>> ((24 : Int32) &&& 31).toUInt32).toInt32) &&& (255 : Int32)) - ((((p1.toUInt32 >>> ((24 : Int32) &&& 31).toUInt32).toInt32) &&& (255 : Int32)) / v13) * v13)) (hv40 : v40 = (own_G1_0 v7 v15 v17 v19 v21)) (hv47 : v47 = (own_G2_0 v1 p2 p3 v40)) (hv57 : v57 = (own_F3 (0 : Int32) v1 v7 p2 p3 v47 ([v15, v17, v19, v21] : List Int32))) (hv65 : v65 = (own_F3 (1 : Int32) v1 v7 p2 p3 v47 ([v15, v17, v19, v21] : List Int32))) (hc148_52 : (Int32.ofNat (List.length v47)) = (v1 + (1 : Int32))) (hc167_58 : ¬ (v57 = (0 : Int32))) (hc184_66 : ¬ (v65 = (0 : Int32))) : ([v15, v17, v19, v21] : List Int32).length = 4 := by
  rfl
theorem own_h0_72 {p0 : Int32} {p1 : Int32} {p2 : Int32} {p3 : Int32} {v1 : Int32} {v7 : Int32} {v13 : Int32} {v15 : Int32} {v17 : Int32} {v19 : Int32} {v21 : Int32} {v40 : List Int32} {v47 : List Int32} {v57 : Int32} {v65 : Int32} (hv1 : v1 = ((p0 &&& (2147483647 : Int32)) - ((p0 &&& (2147483647 : Int32)) / (5 : Int32)) * (5 : Int32))) (hv7 : v7 = (if v1 = (0 : Int32) then (0 : Int32) else ((((p0.toUInt32 >>> ((8 : Int32) &&& 31).toUInt32).toInt32) &&& (7 : Int32)) - ((((p0.toUInt32 >>> ((8 : Int32) &&& 31).toUInt32).toInt32) &&& (7 : Int32)) / (5 : Int32)) * (5 : Int32)))) (hv13 : v13 = (if v1 = (0 : Int32) then (1 : Int32) else v1)) (hv15 : v15 = ((p1 &&& (255 : Int32)) - ((p1 &&& (255 : Int32)) / v13) * v13)) (hv17 : v17 = ((((p1.toUInt32 >>> ((8 : Int32) &&& 31).toUInt32).toInt32) &&& (255 : Int32)) - ((((p1.toUInt32 >>> ((8 : Int32) &&& 31).toUInt32).toInt32) &&& (255 : Int32)) / v13) * v13)) (hv19 : v19 = ((((p1.toUInt32 >>> ((16 : Int32) &&& 31).toUInt32).toInt32) &&& (255 : Int32)) - ((((p1.toUInt32 >>> ((16 : Int32) &&& 31).toUInt32).toInt32) &&& (255 : Int32)) / v13) * v13)) (hv21 : v21 = ((((p1.toUInt32 >>> ((24 : Int32) &&& 31).toUInt32).toInt32) &&& (255 : Int32)) - ((((p1.toUInt32 >>> ((24 : Int32) &&& 31).toUInt32).toInt32) &&& (255 : Int32)) / v13) * v13)) (hv40 : v40 = (own_G1_0 v7 v15 v17 v19 v21)) (hv47 : v47 = (own_G2_0 v1 p2 p3 v40)) (hv57 : v57 = (own_F3 (0 : Int32) v1 v7 p2 p3 v47 ([v15, v17, v19, v21] : List Int32))) (hv65 : v65 = (own_F3 (1 : Int32) v1 v7 p2 p3 v47 ([v15, v17, v19, v21] : List Int32))) (hc148_52 : (Int32.ofNat (List.length v47)) = (v1 + (1 : Int32))) (hc167_58 : ¬ (v57 = (0 : Int32))) (hc184_66 : ¬ (v65 = (0 : Int32))) : ¬ v1 < (2 : Int32) → 0 ≤ (2 : Int32).toInt ∧ (2 : Int32).toInt < (v47.length : Int) := by
  exact own_inR hv1 hv40 hv47 (by decide)
theorem own_h0_79 {p0 : Int32} {p1 : Int32} {p2 : Int32} {p3 : Int32} {v1 : Int32} {v7 : Int32} {v13 : Int32} {v15 : Int32} {v17 : Int32} {v19 : Int32} {v21 : Int32} {v40 : List Int32} {v47 : List Int32} {v57 : Int32} {v65 : Int32} {v73 : Int32} (hv1 : v1 = ((p0 &&& (2147483647 : Int32)) - ((p0 &&& (2147483647 : Int32)) / (5 : Int32)) * (5 : Int32))) (hv7 : v7 = (if v1 = (0 : Int32) then (0 : Int32) else ((((p0.toUInt32 >>> ((8 : Int32) &&& 31).toUInt32).toInt32) &&& (7 : Int32)) - ((((p0.toUInt32 >>> ((8 : Int32) &&& 31).toUInt32).toInt32) &&& (7 : Int32)) / (5 : Int32)) * (5 : Int32)))) (hv13 : v13 = (if v1 = (0 : Int32) then (1 : Int32) else v1)) (hv15 : v15 = ((p1 &&& (255 : Int32)) - ((p1 &&& (255 : Int32)) / v13) * v13)) (hv17 : v17 = ((((p1.toUInt32 >>> ((8 : Int32) &&& 31).toUInt32).toInt32) &&& (255 : Int32)) - ((((p1.toUInt32 >>> ((8 : Int32) &&& 31).toUInt32).toInt32) &&& (255 : Int32)) / v13) * v13)) (hv19 : v19 = ((((p1.toUInt32 >>> ((16 : Int32) &&& 31).toUInt32).toInt32) &&& (255 : Int32)) - ((((p1.toUInt32 >>> ((16 : Int32) &&& 31).toUInt32).toInt32) &&& (255 : Int32)) / v13) * v13)) (hv21 : v21 = ((((p1.toUInt32 >>> ((24 : Int32) &&& 31).toUInt32).toInt32) &&& (255 : Int32)) - ((((p1.toUInt32 >>> ((24 : Int32) &&& 31).toUInt32).toInt32) &&& (255 : Int32)) / v13) * v13)) (hv40 : v40 = (own_G1_0 v7 v15 v17 v19 v21)) (hv47 : v47 = (own_G2_0 v1 p2 p3 v40)) (hv57 : v57 = (own_F3 (0 : Int32) v1 v7 p2 p3 v47 ([v15, v17, v19, v21] : List Int32))) (hv65 : v65 = (own_F3 (1 : Int32) v1 v7 p2 p3 v47 ([v15, v17, v19, v21] : List Int32))) (hv73 : v73 = (own_F3 (2 : Int32) v1 v7 p2 p3 v47 ([v15, v17, v19, v21] : List Int32))) (hc148_52 : (Int32.ofNat (List.length v47)) = (v1 + (1 : Int32))) (hc167_58 : ¬ (v57 = (0 : Int32))) (hc184_66 : ¬ (v65 = (0 : Int32))) (hc201_74 : ¬ (v73 = (0 : Int32))) : ([v15, v17, v19, v21] : List Int32).length = 4 := by
  rfl
theorem own_h0_80 {p0 : Int32} {p1 : Int32} {p2 : Int32} {p3 : Int32} {v1 : Int32} {v7 : Int32} {v13 : Int32} {v15 : Int32} {v17 : Int32} {v19 : Int32} {v21 : Int32} {v40 : List Int32} {v47 : List Int32} {v57 : Int32} {v65 : Int32} {v73 : Int32} (hv1 : v1 = ((p0 &&& (2147483647 : Int32)) - ((p0 &&& (2147483647 : Int32)) / (5 : Int32)) * (5 : Int32))) (hv7 : v7 = (if v1 = (0 : Int32) then (0 : Int32) else ((((p0.toUInt32 >>> ((8 : Int32) &&& 31).toUInt32).toInt32) &&& (7 : Int32)) - ((((p0.toUInt32 >>> ((8 : Int32) &&& 31).toUInt32).toInt32) &&& (7 : Int32)) / (5 : Int32)) * (5 : Int32)))) (hv13 : v13 = (if v1 = (0 : Int32) then (1 : Int32) else v1)) (hv15 : v15 = ((p1 &&& (255 : Int32)) - ((p1 &&& (255 : Int32)) / v13) * v13)) (hv17 : v17 = ((((p1.toUInt32 >>> ((8 : Int32) &&& 31).toUInt32).toInt32) &&& (255 : Int32)) - ((((p1.toUInt32 >>> ((8 : Int32) &&& 31).toUInt32).toInt32) &&& (255 : Int32)) / v13) * v13)) (hv19 : v19 = ((((p1.toUInt32 >>> ((16 : Int32) &&& 31).toUInt32).toInt32) &&& (255 : Int32)) - ((((p1.toUInt32 >>> ((16 : Int32) &&& 31).toUInt32).toInt32) &&& (255 : Int32)) / v13) * v13)) (hv21 : v21 = ((((p1.toUInt32 >>> ((24 : Int32) &&& 31).toUInt32).toInt32) &&& (255 : Int32)) - ((((p1.toUInt32 >>> ((24 : Int32) &&& 31).toUInt32).toInt32) &&& (255 : Int32)) / v13) * v13)) (hv40 : v40 = (own_G1_0 v7 v15 v17 v19 v21)) (hv47 : v47 = (own_G2_0 v1 p2 p3 v40)) (hv57 : v57 = (own_F3 (0 : Int32) v1 v7 p2 p3 v47 ([v15, v17, v19, v21] : List Int32))) (hv65 : v65 = (own_F3 (1 : Int32) v1 v7 p2 p3 v47 ([v15, v17, v19, v21] : List Int32))) (hv73 : v73 = (own_F3 (2 : Int32) v1 v7 p2 p3 v47 ([v15, v17, v19, v21] : List Int32))) (hc148_52 : (Int32.ofNat (List.length v47)) = (v1 + (1 : Int32))) (hc167_58 : ¬ (v57 = (0 : Int32))) (hc184_66 : ¬ (v65 = (0 : Int32))) (hc201_74 : ¬ (v73 = (0 : Int32))) : ¬ v1 < (3 : Int32) → 0 ≤ (3 : Int32).toInt ∧ (3 : Int32).toInt < (v47.length : Int) := by
  exact own_inR hv1 hv40 hv47 (by decide)
theorem own_h0_87 {p0 : Int32} {p1 : Int32} {p2 : Int32} {p3 : Int32} {v1 : Int32} {v7 : Int32} {v13 : Int32} {v15 : Int32} {v17 : Int32} {v19 : Int32} {v21 : Int32} {v40 : List Int32} {v47 : List Int32} {v57 : Int32} {v65 : Int32} {v73 : Int32} {v81 : Int32} (hv1 : v1 = ((p0 &&& (2147483647 : Int32)) - ((p0 &&& (2147483647 : Int32)) / (5 : Int32)) * (5 : Int32))) (hv7 : v7 = (if v1 = (0 : Int32) then (0 : Int32) else ((((p0.toUInt32 >>> ((8 : Int32) &&& 31).toUInt32).toInt32) &&& (7 : Int32)) - ((((p0.toUInt32 >>> ((8 : Int32) &&& 31).toUInt32).toInt32) &&& (7 : Int32)) / (5 : Int32)) * (5 : Int32)))) (hv13 : v13 = (if v1 = (0 : Int32) then (1 : Int32) else v1)) (hv15 : v15 = ((p1 &&& (255 : Int32)) - ((p1 &&& (255 : Int32)) / v13) * v13)) (hv17 : v17 = ((((p1.toUInt32 >>> ((8 : Int32) &&& 31).toUInt32).toInt32) &&& (255 : Int32)) - ((((p1.toUInt32 >>> ((8 : Int32) &&& 31).toUInt32).toInt32) &&& (255 : Int32)) / v13) * v13)) (hv19 : v19 = ((((p1.toUInt32 >>> ((16 : Int32) &&& 31).toUInt32).toInt32) &&& (255 : Int32)) - ((((p1.toUInt32 >>> ((16 : Int32) &&& 31).toUInt32).toInt32) &&& (255 : Int32)) / v13) * v13)) (hv21 : v21 = ((((p1.toUInt32 >>> ((24 : Int32) &&& 31).toUInt32).toInt32) &&& (255 : Int32)) - ((((p1.toUInt32 >>> ((24 : Int32) &&& 31).toUInt32).toInt32) &&& (255 : Int32)) / v13) * v13)) (hv40 : v40 = (own_G1_0 v7 v15 v17 v19 v21)) (hv47 : v47 = (own_G2_0 v1 p2 p3 v40)) (hv57 : v57 = (own_F3 (0 : Int32) v1 v7 p2 p3 v47 ([v15, v17, v19, v21] : List Int32))) (hv65 : v65 = (own_F3 (1 : Int32) v1 v7 p2 p3 v47 ([v15, v17, v19, v21] : List Int32))) (hv73 : v73 = (own_F3 (2 : Int32) v1 v7 p2 p3 v47 ([v15, v17, v19, v21] : List Int32))) (hv81 : v81 = (own_F3 (3 : Int32) v1 v7 p2 p3 v47 ([v15, v17, v19, v21] : List Int32))) (hc148_52 : (Int32.ofNat (List.length v47)) = (v1 + (1 : Int32))) (hc167_58 : ¬ (v57 = (0 : Int32))) (hc184_66 : ¬ (v65 = (0 : Int32))) (hc201_74 : ¬ (v73 = (0 : Int32))) (hc218_82 : ¬ (v81 = (0 : Int32))) : ([v15, v17, v19, v21] : List Int32).length = 4 := by
  rfl
theorem own_h0_88 {p0 : Int32} {p1 : Int32} {p2 : Int32} {p3 : Int32} {v1 : Int32} {v7 : Int32} {v13 : Int32} {v15 : Int32} {v17 : Int32} {v19 : Int32} {v21 : Int32} {v40 : List Int32} {v47 : List Int32} {v57 : Int32} {v65 : Int32} {v73 : Int32} {v81 : Int32} (hv1 : v1 = ((p0 &&& (2147483647 : Int32)) - ((p0 &&& (2147483647 : Int32)) / (5 : Int32)) * (5 : Int32))) (hv7 : v7 = (if v1 = (0 : Int32) then (0 : Int32) else ((((p0.toUInt32 >>> ((8 : Int32) &&& 31).toUInt32).toInt32) &&& (7 : Int32)) - ((((p0.toUInt32 >>> ((8 : Int32) &&& 31).toUInt32).toInt32) &&& (7 : Int32)) / (5 : Int32)) * (5 : Int32)))) (hv13 : v13 = (if v1 = (0 : Int32) then (1 : Int32) else v1)) (hv15 : v15 = ((p1 &&& (255 : Int32)) - ((p1 &&& (255 : Int32)) / v13) * v13)) (hv17 : v17 = ((((p1.toUInt32 >>> ((8 : Int32) &&& 31).toUInt32).toInt32) &&& (255 : Int32)) - ((((p1.toUInt32 >>> ((8 : Int32) &&& 31).toUInt32).toInt32) &&& (255 : Int32)) / v13) * v13)) (hv19 : v19 = ((((p1.toUInt32 >>> ((16 : Int32) &&& 31).toUInt32).toInt32) &&& (255 : Int32)) - ((((p1.toUInt32 >>> ((16 : Int32) &&& 31).toUInt32).toInt32) &&& (255 : Int32)) / v13) * v13)) (hv21 : v21 = ((((p1.toUInt32 >>> ((24 : Int32) &&& 31).toUInt32).toInt32) &&& (255 : Int32)) - ((((p1.toUInt32 >>> ((24 : Int32) &&& 31).toUInt32).toInt32) &&& (255 : Int32)) / v13) * v13)) (hv40 : v40 = (own_G1_0 v7 v15 v17 v19 v21)) (hv47 : v47 = (own_G2_0 v1 p2 p3 v40)) (hv57 : v57 = (own_F3 (0 : Int32) v1 v7 p2 p3 v47 ([v15, v17, v19, v21] : List Int32))) (hv65 : v65 = (own_F3 (1 : Int32) v1 v7 p2 p3 v47 ([v15, v17, v19, v21] : List Int32))) (hv73 : v73 = (own_F3 (2 : Int32) v1 v7 p2 p3 v47 ([v15, v17, v19, v21] : List Int32))) (hv81 : v81 = (own_F3 (3 : Int32) v1 v7 p2 p3 v47 ([v15, v17, v19, v21] : List Int32))) (hc148_52 : (Int32.ofNat (List.length v47)) = (v1 + (1 : Int32))) (hc167_58 : ¬ (v57 = (0 : Int32))) (hc184_66 : ¬ (v65 = (0 : Int32))) (hc201_74 : ¬ (v73 = (0 : Int32))) (hc218_82 : ¬ (v81 = (0 : Int32))) : ¬ v1 < (4 : Int32) → 0 ≤ (4 : Int32).toInt ∧ (4 : Int32).toInt < (v47.length : Int) := by
  exact own_inR hv1 hv40 hv47 (by decide)
set_option maxRecDepth 65536 in
set_option maxHeartbeats 40000000 in
theorem own_rm0 (l : Launch) (Z : State) (a0 : Array Value) (hw : ∀ d ∈ tables_1, d.before a0 Z = true) (ws : List Jvm.Cond) (p0 : Int32) (p1 : Int32) (p2 : Int32) (p3 : Int32) (h0 : Heap) (n0 : Nat) (Z0 : n0 ≤ h0.size) :
    MetFree l x (head1 (Jvm.Cond.code x code maxLocals ret :: ws) room_1) (fun a U => a = #[(.int p0), (.int p1), (.int p2), (.int p3)] ∧ Z.Warmed39 U.vm ∧ U.heap = h0) (fun _ _ _ _ _ => True) (fun _ U o U' => ∃ vz Lz, o = .returned vz ∧ own_Q0 Z p0 p1 p2 p3 h0 n0 vz U'.heap Lz ∧ FrameEnd U o U' Lz room_1.cells room_1.slots) := by
  refine MetFree.of_bodySF (plainFor_of_name own_pn0) hisR ?_
  intro p e s m args below meth c s₁ Bd hml0 hP hK
  obtain ⟨rfl, hZ, hh⟩ := hP
  have hx := Bd.exec
  have hby := Bd.bytes
  have hml : c.maxLocals = 14 := hml0
  have hown : s.vm.findClass "com/example/overlaid_graphs/overlaidgraphs/graph/BucketsStartsPinLaw" = some m.cls := findClass_of_methodNamed Bd.named
  have hnm := (name_of_methodNamed Bd.named Bd.method).1
  have X0 : Stand p l e room_1 s m #[(.int p0), (.int p1), (.int p2), (.int p3)] below meth c s₁ [] 0 0 := Stand.of_body Bd
  have e0 : s₁.heap = h0 := by rw [← hh, Bd.state]; rfl
  show own_End p e below s (fun vz h Lz => vz = some (.int (own_F0 p0 p1 p2 p3)) ∧ Fr n0 Lz) room_1.cells room_1.slots s₁ (entryFrame m #[(.int p0), (.int p1), (.int p2), (.int p3)] maxLocals)
  refine own_End.go (fun t k => castTop (own_ef0 m p0 p1 p2 p3) k) ?_
  show own_End p e below s _ _ _ s₁ (mkF m 0 #[.val (.int p0), .val (.int p1), .val (.int p2), .val (.int p3), .unset, .unset, .unset, .unset, .unset, .unset, .unset, .unset, .unset, .unset] [])
  have N0 := Fr.nil n0
  obtain ⟨v1, hv1⟩ : ∃ z : Int32, z = ((p0 &&& (2147483647 : Int32)) - ((p0 &&& (2147483647 : Int32)) / (5 : Int32)) * (5 : Int32)) := ⟨_, rfl⟩
  have st2 : ∀ t, Steps p.tables e below (s₁.setTop (mkF m 8 #[.val (.int p0), .val (.int p1), .val (.int p2), .val (.int p3), .val (.int v1), .unset, .unset, .unset, .unset, .unset, .unset, .unset, .unset, .unset] [])) t → Steps p.tables e below (s₁.setTop (mkF m 0 #[.val (.int p0), .val (.int p1), .val (.int p2), .val (.int p3), .unset, .unset, .unset, .unset, .unset, .unset, .unset, .unset, .unset, .unset] [])) t := by
    rw [hv1]
    intro t k
    show Steps p.tables e below (s₁.setTop (mkF m 0 #[.val (.int p0), .val (.int p1), .val (.int p2), .val (.int p3), .unset, .unset, .unset, .unset, .unset, .unset, .unset, .unset, .unset, .unset] [])) _
    refine XS.iloadN X0.here hx rfl (hb hby at_0) rfl ?_
    show Steps p.tables e below (s₁.setTop (mkF m 1 #[.val (.int p0), .val (.int p1), .val (.int p2), .val (.int p3), .unset, .unset, .unset, .unset, .unset, .unset, .unset, .unset, .unset, .unset] [(.int p0)])) _
    refine X0.ldcInt hx hown (mvT hZ (hw _ (List.mem_of_getElem? (i := 0) rfl))) (g := (mkF m 1 #[.val (.int p0), .val (.int p1), .val (.int p2), .val (.int p3), .unset, .unset, .unset, .unset, .unset, .unset, .unset, .unset, .unset, .unset] [(.int p0)])) rfl (hb hby at_1) _ ?_
    show Steps p.tables e below (s₁.setTop (mkF m 3 #[.val (.int p0), .val (.int p1), .val (.int p2), .val (.int p3), .unset, .unset, .unset, .unset, .unset, .unset, .unset, .unset, .unset, .unset] [(.int (2147483647 : Int32)), (.int p0)])) _
    refine XS.iand X0.here hx rfl (hb hby at_3) rfl ?_
    show Steps p.tables e below (s₁.setTop (mkF m 4 #[.val (.int p0), .val (.int p1), .val (.int p2), .val (.int p3), .unset, .unset, .unset, .unset, .unset, .unset, .unset, .unset, .unset, .unset] [(.int (p0 &&& (2147483647 : Int32)))])) _
    refine XS.iconst X0.here hx rfl (hb hby at_4) ?_
    show Steps p.tables e below (s₁.setTop (mkF m 5 #[.val (.int p0), .val (.int p1), .val (.int p2), .val (.int p3), .unset, .unset, .unset, .unset, .unset, .unset, .unset, .unset, .unset, .unset] [(.int (5 : Int32)), (.int (p0 &&& (2147483647 : Int32)))])) _
    refine XS.irem X0.here hx rfl (hb hby at_5) rfl (by decide) ?_
    show Steps p.tables e below (s₁.setTop (mkF m 6 #[.val (.int p0), .val (.int p1), .val (.int p2), .val (.int p3), .unset, .unset, .unset, .unset, .unset, .unset, .unset, .unset, .unset, .unset] [(.int ((p0 &&& (2147483647 : Int32)) - ((p0 &&& (2147483647 : Int32)) / (5 : Int32)) * (5 : Int32)))])) _
    refine XS.istore X0.here hx rfl (hb hby at_6) rfl (l' := #[.val (.int p0), .val (.int p1), .val (.int p2), .val (.int p3), .val (.int ((p0 &&& (2147483647 : Int32)) - ((p0 &&& (2147483647 : Int32)) / (5 : Int32)) * (5 : Int32))), .unset, .unset, .unset, .unset, .unset, .unset, .unset, .unset, .unset]) rfl ?_
    exact k
  have st3 : ∀ t, Steps p.tables e below (s₁.setTop (mkF m 10 #[.val (.int p0), .val (.int p1), .val (.int p2), .val (.int p3), .val (.int v1), .unset, .unset, .unset, .unset, .unset, .unset, .unset, .unset, .unset] [(.int v1)])) t → Steps p.tables e below (s₁.setTop (mkF m 8 #[.val (.int p0), .val (.int p1), .val (.int p2), .val (.int p3), .val (.int v1), .unset, .unset, .unset, .unset, .unset, .unset, .unset, .unset, .unset] [])) t := by
    intro t k
    show Steps p.tables e below (s₁.setTop (mkF m 8 #[.val (.int p0), .val (.int p1), .val (.int p2), .val (.int p3), .val (.int v1), .unset, .unset, .unset, .unset, .unset, .unset, .unset, .unset, .unset] [])) _
    refine XS.iload X0.here hx rfl (hb hby at_8) rfl ?_
    exact k
  obtain ⟨v7, hv7⟩ : ∃ z : Int32, z = (if v1 = (0 : Int32) then (0 : Int32) else ((((p0.toUInt32 >>> ((8 : Int32) &&& 31).toUInt32).toInt32) &&& (7 : Int32)) - ((((p0.toUInt32 >>> ((8 : Int32) &&& 31).toUInt32).toInt32) &&& (7 : Int32)) / (5 : Int32)) * (5 : Int32))) := ⟨_, rfl⟩
  have st8 : ∀ t, Steps p.tables e below (s₁.setTop (mkF m 26 #[.val (.int p0), .val (.int p1), .val (.int p2), .val (.int p3), .val (.int v1), .unset, .unset, .unset, .unset, .unset, .unset, .unset, .unset, .unset] [(.int v7)])) t → Steps p.tables e below (s₁.setTop (mkF m 10 #[.val (.int p0), .val (.int p1), .val (.int p2), .val (.int p3), .val (.int v1), .unset, .unset, .unset, .unset, .unset, .unset, .unset, .unset, .unset] [(.int v1)])) t := by
    rw [hv7]
    by_cases hc10_4 : v1 = (0 : Int32)
    · repeat rw [if_pos hc10_4]
      have st5 : ∀ t, Steps p.tables e below (s₁.setTop (mkF m 26 #[.val (.int p0), .val (.int p1), .val (.int p2), .val (.int p3), .val (.int v1), .unset, .unset, .unset, .unset, .unset, .unset, .unset, .unset, .unset] [(.int (0 : Int32))])) t → Steps p.tables e below (s₁.setTop (mkF m 10 #[.val (.int p0), .val (.int p1), .val (.int p2), .val (.int p3), .val (.int v1), .unset, .unset, .unset, .unset, .unset, .unset, .unset, .unset, .unset] [(.int v1)])) t := by
        intro t k
        show Steps p.tables e below (s₁.setTop (mkF m 10 #[.val (.int p0), .val (.int p1), .val (.int p2), .val (.int p3), .val (.int v1), .unset, .unset, .unset, .unset, .unset, .unset, .unset, .unset, .unset] [(.int v1)])) _
        refine XS.ifNo X0.here hx rfl (hb hby at_10) rfl ((if0 _ _).trans (teq hc10_4).2) ?_
        show Steps p.tables e below (s₁.setTop (mkF m 13 #[.val (.int p0), .val (.int p1), .val (.int p2), .val (.int p3), .val (.int v1), .unset, .unset, .unset, .unset, .unset, .unset, .unset, .unset, .unset] [])) _
        refine XS.iconst X0.here hx rfl (hb hby at_13) ?_
        show Steps p.tables e below (s₁.setTop (mkF m 14 #[.val (.int p0), .val (.int p1), .val (.int p2), .val (.int p3), .val (.int v1), .unset, .unset, .unset, .unset, .unset, .unset, .unset, .unset, .unset] [(.int (0 : Int32))])) _
        refine XS.goto X0.here hx rfl (pc0 := 14) (pc' := 26) rfl (hb hby at_14) (by decide) (by decide) ?_
        exact k
      exact fun t k => st5 _ k
    · repeat rw [if_neg hc10_4]
      have st6 : ∀ t, Steps p.tables e below (s₁.setTop (mkF m 26 #[.val (.int p0), .val (.int p1), .val (.int p2), .val (.int p3), .val (.int v1), .unset, .unset, .unset, .unset, .unset, .unset, .unset, .unset, .unset] [(.int ((((p0.toUInt32 >>> ((8 : Int32) &&& 31).toUInt32).toInt32) &&& (7 : Int32)) - ((((p0.toUInt32 >>> ((8 : Int32) &&& 31).toUInt32).toInt32) &&& (7 : Int32)) / (5 : Int32)) * (5 : Int32)))])) t → Steps p.tables e below (s₁.setTop (mkF m 10 #[.val (.int p0), .val (.int p1), .val (.int p2), .val (.int p3), .val (.int v1), .unset, .unset, .unset, .unset, .unset, .unset, .unset, .unset, .unset] [(.int v1)])) t := by
        intro t k
        show Steps p.tables e below (s₁.setTop (mkF m 10 #[.val (.int p0), .val (.int p1), .val (.int p2), .val (.int p3), .val (.int v1), .unset, .unset, .unset, .unset, .unset, .unset, .unset, .unset, .unset] [(.int v1)])) _
        refine XS.ifYes X0.here hx rfl (pc0 := 10) (pc' := 17) rfl (hb hby at_10) rfl ((if0 _ _).trans (feq hc10_4).2) (by decide) (by decide) ?_
        show Steps p.tables e below (s₁.setTop (mkF m 17 #[.val (.int p0), .val (.int p1), .val (.int p2), .val (.int p3), .val (.int v1), .unset, .unset, .unset, .unset, .unset, .unset, .unset, .unset, .unset] [])) _
        refine XS.iloadN X0.here hx rfl (hb hby at_17) rfl ?_
        show Steps p.tables e below (s₁.setTop (mkF m 18 #[.val (.int p0), .val (.int p1), .val (.int p2), .val (.int p3), .val (.int v1), .unset, .unset, .unset, .unset, .unset, .unset, .unset, .unset, .unset] [(.int p0)])) _
        refine XS.bipush X0.here hx rfl (hb hby at_18) ?_
        show Steps p.tables e below (s₁.setTop (mkF m 20 #[.val (.int p0), .val (.int p1), .val (.int p2), .val (.int p3), .val (.int v1), .unset, .unset, .unset, .unset, .unset, .unset, .unset, .unset, .unset] [(.int (8 : Int32)), (.int p0)])) _
        refine XS.iushr X0.here hx rfl (hb hby at_20) rfl ?_
        show Steps p.tables e below (s₁.setTop (mkF m 21 #[.val (.int p0), .val (.int p1), .val (.int p2), .val (.int p3), .val (.int v1), .unset, .unset, .unset, .unset, .unset, .unset, .unset, .unset, .unset] [(.int ((p0.toUInt32 >>> ((8 : Int32) &&& 31).toUInt32).toInt32))])) _
        refine XS.bipush X0.here hx rfl (hb hby at_21) ?_
        show Steps p.tables e below (s₁.setTop (mkF m 23 #[.val (.int p0), .val (.int p1), .val (.int p2), .val (.int p3), .val (.int v1), .unset, .unset, .unset, .unset, .unset, .unset, .unset, .unset, .unset] [(.int (7 : Int32)), (.int ((p0.toUInt32 >>> ((8 : Int32) &&& 31).toUInt32).toInt32))])) _
        refine XS.iand X0.here hx rfl (hb hby at_23) rfl ?_
        show Steps p.tables e below (s₁.setTop (mkF m 24 #[.val (.int p0), .val (.int p1), .val (.int p2), .val (.int p3), .val (.int v1), .unset, .unset, .unset, .unset, .unset, .unset, .unset, .unset, .unset] [(.int (((p0.toUInt32 >>> ((8 : Int32) &&& 31).toUInt32).toInt32) &&& (7 : Int32)))])) _
        refine XS.iconst X0.here hx rfl (hb hby at_24) ?_
        show Steps p.tables e below (s₁.setTop (mkF m 25 #[.val (.int p0), .val (.int p1), .val (.int p2), .val (.int p3), .val (.int v1), .unset, .unset, .unset, .unset, .unset, .unset, .unset, .unset, .unset] [(.int (5 : Int32)), (.int (((p0.toUInt32 >>> ((8 : Int32) &&& 31).toUInt32).toInt32) &&& (7 : Int32)))])) _
        refine XS.irem X0.here hx rfl (hb hby at_25) rfl (by decide) ?_
        exact k
      exact fun t k => st6 _ k
  have st9 : ∀ t, Steps p.tables e below (s₁.setTop (mkF m 30 #[.val (.int p0), .val (.int p1), .val (.int p2), .val (.int p3), .val (.int v1), .val (.int v7), .unset, .unset, .unset, .unset, .unset, .unset, .unset, .unset] [(.int v1)])) t → Steps p.tables e below (s₁.setTop (mkF m 26 #[.val (.int p0), .val (.int p1), .val (.int p2), .val (.int p3), .val (.int v1), .unset, .unset, .unset, .unset, .unset, .unset, .unset, .unset, .unset] [(.int v7)])) t := by
    intro t k
    show Steps p.tables e below (s₁.setTop (mkF m 26 #[.val (.int p0), .val (.int p1), .val (.int p2), .val (.int p3), .val (.int v1), .unset, .unset, .unset, .unset, .unset, .unset, .unset, .unset, .unset] [(.int v7)])) _
    refine XS.istore X0.here hx rfl (hb hby at_26) rfl (l' := #[.val (.int p0), .val (.int p1), .val (.int p2), .val (.int p3), .val (.int v1), .val (.int v7), .unset, .unset, .unset, .unset, .unset, .unset, .unset, .unset]) rfl ?_
    show Steps p.tables e below (s₁.setTop (mkF m 28 #[.val (.int p0), .val (.int p1), .val (.int p2), .val (.int p3), .val (.int v1), .val (.int v7), .unset, .unset, .unset, .unset, .unset, .unset, .unset, .unset] [])) _
    refine XS.iload X0.here hx rfl (hb hby at_28) rfl ?_
    exact k
  obtain ⟨v13, hv13⟩ : ∃ z : Int32, z = (if v1 = (0 : Int32) then (1 : Int32) else v1) := ⟨_, rfl⟩
  have st14 : ∀ t, Steps p.tables e below (s₁.setTop (mkF m 39 #[.val (.int p0), .val (.int p1), .val (.int p2), .val (.int p3), .val (.int v1), .val (.int v7), .unset, .unset, .unset, .unset, .unset, .unset, .unset, .unset] [(.int v13)])) t → Steps p.tables e below (s₁.setTop (mkF m 30 #[.val (.int p0), .val (.int p1), .val (.int p2), .val (.int p3), .val (.int v1), .val (.int v7), .unset, .unset, .unset, .unset, .unset, .unset, .unset, .unset] [(.int v1)])) t := by
    rw [hv13]
    by_cases hc30_10 : v1 = (0 : Int32)
    · repeat rw [if_pos hc30_10]
      have st11 : ∀ t, Steps p.tables e below (s₁.setTop (mkF m 39 #[.val (.int p0), .val (.int p1), .val (.int p2), .val (.int p3), .val (.int v1), .val (.int v7), .unset, .unset, .unset, .unset, .unset, .unset, .unset, .unset] [(.int (1 : Int32))])) t → Steps p.tables e below (s₁.setTop (mkF m 30 #[.val (.int p0), .val (.int p1), .val (.int p2), .val (.int p3), .val (.int v1), .val (.int v7), .unset, .unset, .unset, .unset, .unset, .unset, .unset, .unset] [(.int v1)])) t := by
        intro t k
        show Steps p.tables e below (s₁.setTop (mkF m 30 #[.val (.int p0), .val (.int p1), .val (.int p2), .val (.int p3), .val (.int v1), .val (.int v7), .unset, .unset, .unset, .unset, .unset, .unset, .unset, .unset] [(.int v1)])) _
        refine XS.ifNo X0.here hx rfl (hb hby at_30) rfl ((if0 _ _).trans (teq hc30_10).2) ?_
        show Steps p.tables e below (s₁.setTop (mkF m 33 #[.val (.int p0), .val (.int p1), .val (.int p2), .val (.int p3), .val (.int v1), .val (.int v7), .unset, .unset, .unset, .unset, .unset, .unset, .unset, .unset] [])) _
        refine XS.iconst X0.here hx rfl (hb hby at_33) ?_
        show Steps p.tables e below (s₁.setTop (mkF m 34 #[.val (.int p0), .val (.int p1), .val (.int p2), .val (.int p3), .val (.int v1), .val (.int v7), .unset, .unset, .unset, .unset, .unset, .unset, .unset, .unset] [(.int (1 : Int32))])) _
        refine XS.goto X0.here hx rfl (pc0 := 34) (pc' := 39) rfl (hb hby at_34) (by decide) (by decide) ?_
        exact k
      exact fun t k => st11 _ k
    · repeat rw [if_neg hc30_10]
      have st12 : ∀ t, Steps p.tables e below (s₁.setTop (mkF m 39 #[.val (.int p0), .val (.int p1), .val (.int p2), .val (.int p3), .val (.int v1), .val (.int v7), .unset, .unset, .unset, .unset, .unset, .unset, .unset, .unset] [(.int v1)])) t → Steps p.tables e below (s₁.setTop (mkF m 30 #[.val (.int p0), .val (.int p1), .val (.int p2), .val (.int p3), .val (.int v1), .val (.int v7), .unset, .unset, .unset, .unset, .unset, .unset, .unset, .unset] [(.int v1)])) t := by
        intro t k
        show Steps p.tables e below (s₁.setTop (mkF m 30 #[.val (.int p0), .val (.int p1), .val (.int p2), .val (.int p3), .val (.int v1), .val (.int v7), .unset, .unset, .unset, .unset, .unset, .unset, .unset, .unset] [(.int v1)])) _
        refine XS.ifYes X0.here hx rfl (pc0 := 30) (pc' := 37) rfl (hb hby at_30) rfl ((if0 _ _).trans (feq hc30_10).2) (by decide) (by decide) ?_
        show Steps p.tables e below (s₁.setTop (mkF m 37 #[.val (.int p0), .val (.int p1), .val (.int p2), .val (.int p3), .val (.int v1), .val (.int v7), .unset, .unset, .unset, .unset, .unset, .unset, .unset, .unset] [])) _
        refine XS.iload X0.here hx rfl (hb hby at_37) rfl ?_
        exact k
      exact fun t k => st12 _ k
  obtain ⟨v15, hv15⟩ : ∃ z : Int32, z = ((p1 &&& (255 : Int32)) - ((p1 &&& (255 : Int32)) / v13) * v13) := ⟨_, rfl⟩
  have st16 : ∀ t, Steps p.tables e below (s₁.setTop (mkF m 51 #[.val (.int p0), .val (.int p1), .val (.int p2), .val (.int p3), .val (.int v1), .val (.int v7), .val (.int v13), .val (.int v15), .unset, .unset, .unset, .unset, .unset, .unset] [])) t → Steps p.tables e below (s₁.setTop (mkF m 39 #[.val (.int p0), .val (.int p1), .val (.int p2), .val (.int p3), .val (.int v1), .val (.int v7), .unset, .unset, .unset, .unset, .unset, .unset, .unset, .unset] [(.int v13)])) t := by
    rw [hv15]
    intro t k
    show Steps p.tables e below (s₁.setTop (mkF m 39 #[.val (.int p0), .val (.int p1), .val (.int p2), .val (.int p3), .val (.int v1), .val (.int v7), .unset, .unset, .unset, .unset, .unset, .unset, .unset, .unset] [(.int v13)])) _
    refine XS.istore X0.here hx rfl (hb hby at_39) rfl (l' := #[.val (.int p0), .val (.int p1), .val (.int p2), .val (.int p3), .val (.int v1), .val (.int v7), .val (.int v13), .unset, .unset, .unset, .unset, .unset, .unset, .unset]) rfl ?_
    show Steps p.tables e below (s₁.setTop (mkF m 41 #[.val (.int p0), .val (.int p1), .val (.int p2), .val (.int p3), .val (.int v1), .val (.int v7), .val (.int v13), .unset, .unset, .unset, .unset, .unset, .unset, .unset] [])) _
    refine XS.iloadN X0.here hx rfl (hb hby at_41) rfl ?_
    show Steps p.tables e below (s₁.setTop (mkF m 42 #[.val (.int p0), .val (.int p1), .val (.int p2), .val (.int p3), .val (.int v1), .val (.int v7), .val (.int v13), .unset, .unset, .unset, .unset, .unset, .unset, .unset] [(.int p1)])) _
    refine XS.sipush X0.here hx rfl (hb hby at_42) ?_
    show Steps p.tables e below (s₁.setTop (mkF m 45 #[.val (.int p0), .val (.int p1), .val (.int p2), .val (.int p3), .val (.int v1), .val (.int v7), .val (.int v13), .unset, .unset, .unset, .unset, .unset, .unset, .unset] [(.int (255 : Int32)), (.int p1)])) _
    refine XS.iand X0.here hx rfl (hb hby at_45) rfl ?_
    show Steps p.tables e below (s₁.setTop (mkF m 46 #[.val (.int p0), .val (.int p1), .val (.int p2), .val (.int p3), .val (.int v1), .val (.int v7), .val (.int v13), .unset, .unset, .unset, .unset, .unset, .unset, .unset] [(.int (p1 &&& (255 : Int32)))])) _
    refine XS.iload X0.here hx rfl (hb hby at_46) rfl ?_
    show Steps p.tables e below (s₁.setTop (mkF m 48 #[.val (.int p0), .val (.int p1), .val (.int p2), .val (.int p3), .val (.int v1), .val (.int v7), .val (.int v13), .unset, .unset, .unset, .unset, .unset, .unset, .unset] [(.int v13), (.int (p1 &&& (255 : Int32)))])) _
    refine XS.irem X0.here hx rfl (hb hby at_48) rfl (own_mnz hv1 hv13) ?_
    show Steps p.tables e below (s₁.setTop (mkF m 49 #[.val (.int p0), .val (.int p1), .val (.int p2), .val (.int p3), .val (.int v1), .val (.int v7), .val (.int v13), .unset, .unset, .unset, .unset, .unset, .unset, .unset] [(.int ((p1 &&& (255 : Int32)) - ((p1 &&& (255 : Int32)) / v13) * v13))])) _
    refine XS.istore X0.here hx rfl (hb hby at_49) rfl (l' := #[.val (.int p0), .val (.int p1), .val (.int p2), .val (.int p3), .val (.int v1), .val (.int v7), .val (.int v13), .val (.int ((p1 &&& (255 : Int32)) - ((p1 &&& (255 : Int32)) / v13) * v13)), .unset, .unset, .unset, .unset, .unset, .unset]) rfl ?_
    exact k
  obtain ⟨v17, hv17⟩ : ∃ z : Int32, z = ((((p1.toUInt32 >>> ((8 : Int32) &&& 31).toUInt32).toInt32) &&& (255 : Int32)) - ((((p1.toUInt32 >>> ((8 : Int32) &&& 31).toUInt32).toInt32) &&& (255 : Int32)) / v13) * v13) := ⟨_, rfl⟩
  have st18 : ∀ t, Steps p.tables e below (s₁.setTop (mkF m 64 #[.val (.int p0), .val (.int p1), .val (.int p2), .val (.int p3), .val (.int v1), .val (.int v7), .val (.int v13), .val (.int v15), .val (.int v17), .unset, .unset, .unset, .unset, .unset] [])) t → Steps p.tables e below (s₁.setTop (mkF m 51 #[.val (.int p0), .val (.int p1), .val (.int p2), .val (.int p3), .val (.int v1), .val (.int v7), .val (.int v13), .val (.int v15), .unset, .unset, .unset, .unset, .unset, .unset] [])) t := by
    rw [hv17]
    intro t k
    show Steps p.tables e below (s₁.setTop (mkF m 51 #[.val (.int p0), .val (.int p1), .val (.int p2), .val (.int p3), .val (.int v1), .val (.int v7), .val (.int v13), .val (.int v15), .unset, .unset, .unset, .unset, .unset, .unset] [])) _
    refine XS.iloadN X0.here hx rfl (hb hby at_51) rfl ?_
    show Steps p.tables e below (s₁.setTop (mkF m 52 #[.val (.int p0), .val (.int p1), .val (.int p2), .val (.int p3), .val (.int v1), .val (.int v7), .val (.int v13), .val (.int v15), .unset, .unset, .unset, .unset, .unset, .unset] [(.int p1)])) _
    refine XS.bipush X0.here hx rfl (hb hby at_52) ?_
    show Steps p.tables e below (s₁.setTop (mkF m 54 #[.val (.int p0), .val (.int p1), .val (.int p2), .val (.int p3), .val (.int v1), .val (.int v7), .val (.int v13), .val (.int v15), .unset, .unset, .unset, .unset, .unset, .unset] [(.int (8 : Int32)), (.int p1)])) _
    refine XS.iushr X0.here hx rfl (hb hby at_54) rfl ?_
    show Steps p.tables e below (s₁.setTop (mkF m 55 #[.val (.int p0), .val (.int p1), .val (.int p2), .val (.int p3), .val (.int v1), .val (.int v7), .val (.int v13), .val (.int v15), .unset, .unset, .unset, .unset, .unset, .unset] [(.int ((p1.toUInt32 >>> ((8 : Int32) &&& 31).toUInt32).toInt32))])) _
    refine XS.sipush X0.here hx rfl (hb hby at_55) ?_
    show Steps p.tables e below (s₁.setTop (mkF m 58 #[.val (.int p0), .val (.int p1), .val (.int p2), .val (.int p3), .val (.int v1), .val (.int v7), .val (.int v13), .val (.int v15), .unset, .unset, .unset, .unset, .unset, .unset] [(.int (255 : Int32)), (.int ((p1.toUInt32 >>> ((8 : Int32) &&& 31).toUInt32).toInt32))])) _
    refine XS.iand X0.here hx rfl (hb hby at_58) rfl ?_
    show Steps p.tables e below (s₁.setTop (mkF m 59 #[.val (.int p0), .val (.int p1), .val (.int p2), .val (.int p3), .val (.int v1), .val (.int v7), .val (.int v13), .val (.int v15), .unset, .unset, .unset, .unset, .unset, .unset] [(.int (((p1.toUInt32 >>> ((8 : Int32) &&& 31).toUInt32).toInt32) &&& (255 : Int32)))])) _
    refine XS.iload X0.here hx rfl (hb hby at_59) rfl ?_
    show Steps p.tables e below (s₁.setTop (mkF m 61 #[.val (.int p0), .val (.int p1), .val (.int p2), .val (.int p3), .val (.int v1), .val (.int v7), .val (.int v13), .val (.int v15), .unset, .unset, .unset, .unset, .unset, .unset] [(.int v13), (.int (((p1.toUInt32 >>> ((8 : Int32) &&& 31).toUInt32).toInt32) &&& (255 : Int32)))])) _
    refine XS.irem X0.here hx rfl (hb hby at_61) rfl (own_mnz hv1 hv13) ?_
    show Steps p.tables e below (s₁.setTop (mkF m 62 #[.val (.int p0), .val (.int p1), .val (.int p2), .val (.int p3), .val (.int v1), .val (.int v7), .val (.int v13), .val (.int v15), .unset, .unset, .unset, .unset, .unset, .unset] [(.int ((((p1.toUInt32 >>> ((8 : Int32) &&& 31).toUInt32).toInt32) &&& (255 : Int32)) - ((((p1.toUInt32 >>> ((8 : Int32) &&& 31).toUInt32).toInt32) &&& (255 : Int32)) / v13) * v13))])) _
    refine XS.istore X0.here hx rfl (hb hby at_62) rfl (l' := #[.val (.int p0), .val (.int p1), .val (.int p2), .val (.int p3), .val (.int v1), .val (.int v7), .val (.int v13), .val (.int v15), .val (.int ((((p1.toUInt32 >>> ((8 : Int32) &&& 31).toUInt32).toInt32) &&& (255 : Int32)) - ((((p1.toUInt32 >>> ((8 : Int32) &&& 31).toUInt32).toInt32) &&& (255 : Int32)) / v13) * v13)), .unset, .unset, .unset, .unset, .unset]) rfl ?_
    exact k
  obtain ⟨v19, hv19⟩ : ∃ z : Int32, z = ((((p1.toUInt32 >>> ((16 : Int32) &&& 31).toUInt32).toInt32) &&& (255 : Int32)) - ((((p1.toUInt32 >>> ((16 : Int32) &&& 31).toUInt32).toInt32) &&& (255 : Int32)) / v13) * v13) := ⟨_, rfl⟩
  have st20 : ∀ t, Steps p.tables e below (s₁.setTop (mkF m 77 #[.val (.int p0), .val (.int p1), .val (.int p2), .val (.int p3), .val (.int v1), .val (.int v7), .val (.int v13), .val (.int v15), .val (.int v17), .val (.int v19), .unset, .unset, .unset, .unset] [])) t → Steps p.tables e below (s₁.setTop (mkF m 64 #[.val (.int p0), .val (.int p1), .val (.int p2), .val (.int p3), .val (.int v1), .val (.int v7), .val (.int v13), .val (.int v15), .val (.int v17), .unset, .unset, .unset, .unset, .unset] [])) t := by
    rw [hv19]
    intro t k
    show Steps p.tables e below (s₁.setTop (mkF m 64 #[.val (.int p0), .val (.int p1), .val (.int p2), .val (.int p3), .val (.int v1), .val (.int v7), .val (.int v13), .val (.int v15), .val (.int v17), .unset, .unset, .unset, .unset, .unset] [])) _
    refine XS.iloadN X0.here hx rfl (hb hby at_64) rfl ?_
    show Steps p.tables e below (s₁.setTop (mkF m 65 #[.val (.int p0), .val (.int p1), .val (.int p2), .val (.int p3), .val (.int v1), .val (.int v7), .val (.int v13), .val (.int v15), .val (.int v17), .unset, .unset, .unset, .unset, .unset] [(.int p1)])) _
    refine XS.bipush X0.here hx rfl (hb hby at_65) ?_
    show Steps p.tables e below (s₁.setTop (mkF m 67 #[.val (.int p0), .val (.int p1), .val (.int p2), .val (.int p3), .val (.int v1), .val (.int v7), .val (.int v13), .val (.int v15), .val (.int v17), .unset, .unset, .unset, .unset, .unset] [(.int (16 : Int32)), (.int p1)])) _
    refine XS.iushr X0.here hx rfl (hb hby at_67) rfl ?_
    show Steps p.tables e below (s₁.setTop (mkF m 68 #[.val (.int p0), .val (.int p1), .val (.int p2), .val (.int p3), .val (.int v1), .val (.int v7), .val (.int v13), .val (.int v15), .val (.int v17), .unset, .unset, .unset, .unset, .unset] [(.int ((p1.toUInt32 >>> ((16 : Int32) &&& 31).toUInt32).toInt32))])) _
    refine XS.sipush X0.here hx rfl (hb hby at_68) ?_
    show Steps p.tables e below (s₁.setTop (mkF m 71 #[.val (.int p0), .val (.int p1), .val (.int p2), .val (.int p3), .val (.int v1), .val (.int v7), .val (.int v13), .val (.int v15), .val (.int v17), .unset, .unset, .unset, .unset, .unset] [(.int (255 : Int32)), (.int ((p1.toUInt32 >>> ((16 : Int32) &&& 31).toUInt32).toInt32))])) _
    refine XS.iand X0.here hx rfl (hb hby at_71) rfl ?_
    show Steps p.tables e below (s₁.setTop (mkF m 72 #[.val (.int p0), .val (.int p1), .val (.int p2), .val (.int p3), .val (.int v1), .val (.int v7), .val (.int v13), .val (.int v15), .val (.int v17), .unset, .unset, .unset, .unset, .unset] [(.int (((p1.toUInt32 >>> ((16 : Int32) &&& 31).toUInt32).toInt32) &&& (255 : Int32)))])) _
    refine XS.iload X0.here hx rfl (hb hby at_72) rfl ?_
    show Steps p.tables e below (s₁.setTop (mkF m 74 #[.val (.int p0), .val (.int p1), .val (.int p2), .val (.int p3), .val (.int v1), .val (.int v7), .val (.int v13), .val (.int v15), .val (.int v17), .unset, .unset, .unset, .unset, .unset] [(.int v13), (.int (((p1.toUInt32 >>> ((16 : Int32) &&& 31).toUInt32).toInt32) &&& (255 : Int32)))])) _
    refine XS.irem X0.here hx rfl (hb hby at_74) rfl (own_mnz hv1 hv13) ?_
    show Steps p.tables e below (s₁.setTop (mkF m 75 #[.val (.int p0), .val (.int p1), .val (.int p2), .val (.int p3), .val (.int v1), .val (.int v7), .val (.int v13), .val (.int v15), .val (.int v17), .unset, .unset, .unset, .unset, .unset] [(.int ((((p1.toUInt32 >>> ((16 : Int32) &&& 31).toUInt32).toInt32) &&& (255 : Int32)) - ((((p1.toUInt32 >>> ((16 : Int32) &&& 31).toUInt32).toInt32) &&& (255 : Int32)) / v13) * v13))])) _
    refine XS.istore X0.here hx rfl (hb hby at_75) rfl (l' := #[.val (.int p0), .val (.int p1), .val (.int p2), .val (.int p3), .val (.int v1), .val (.int v7), .val (.int v13), .val (.int v15), .val (.int v17), .val (.int ((((p1.toUInt32 >>> ((16 : Int32) &&& 31).toUInt32).toInt32) &&& (255 : Int32)) - ((((p1.toUInt32 >>> ((16 : Int32) &&& 31).toUInt32).toInt32) &&& (255 : Int32)) / v13) * v13)), .unset, .unset, .unset, .unset]) rfl ?_
    exact k
  obtain ⟨v21, hv21⟩ : ∃ z : Int32, z = ((((p1.toUInt32 >>> ((24 : Int32) &&& 31).toUInt32).toInt32) &&& (255 : Int32)) - ((((p1.toUInt32 >>> ((24 : Int32) &&& 31).toUInt32).toInt32) &&& (255 : Int32)) / v13) * v13) := ⟨_, rfl⟩
  have st22 : ∀ t, Steps p.tables e below (s₁.setTop (mkF m 90 #[.val (.int p0), .val (.int p1), .val (.int p2), .val (.int p3), .val (.int v1), .val (.int v7), .val (.int v13), .val (.int v15), .val (.int v17), .val (.int v19), .val (.int v21), .unset, .unset, .unset] [])) t → Steps p.tables e below (s₁.setTop (mkF m 77 #[.val (.int p0), .val (.int p1), .val (.int p2), .val (.int p3), .val (.int v1), .val (.int v7), .val (.int v13), .val (.int v15), .val (.int v17), .val (.int v19), .unset, .unset, .unset, .unset] [])) t := by
    rw [hv21]
    intro t k
    show Steps p.tables e below (s₁.setTop (mkF m 77 #[.val (.int p0), .val (.int p1), .val (.int p2), .val (.int p3), .val (.int v1), .val (.int v7), .val (.int v13), .val (.int v15), .val (.int v17), .val (.int v19), .unset, .unset, .unset, .unset] [])) _
    refine XS.iloadN X0.here hx rfl (hb hby at_77) rfl ?_
    show Steps p.tables e below (s₁.setTop (mkF m 78 #[.val (.int p0), .val (.int p1), .val (.int p2), .val (.int p3), .val (.int v1), .val (.int v7), .val (.int v13), .val (.int v15), .val (.int v17), .val (.int v19), .unset, .unset, .unset, .unset] [(.int p1)])) _
    refine XS.bipush X0.here hx rfl (hb hby at_78) ?_
    show Steps p.tables e below (s₁.setTop (mkF m 80 #[.val (.int p0), .val (.int p1), .val (.int p2), .val (.int p3), .val (.int v1), .val (.int v7), .val (.int v13), .val (.int v15), .val (.int v17), .val (.int v19), .unset, .unset, .unset, .unset] [(.int (24 : Int32)), (.int p1)])) _
    refine XS.iushr X0.here hx rfl (hb hby at_80) rfl ?_
    show Steps p.tables e below (s₁.setTop (mkF m 81 #[.val (.int p0), .val (.int p1), .val (.int p2), .val (.int p3), .val (.int v1), .val (.int v7), .val (.int v13), .val (.int v15), .val (.int v17), .val (.int v19), .unset, .unset, .unset, .unset] [(.int ((p1.toUInt32 >>> ((24 : Int32) &&& 31).toUInt32).toInt32))])) _
    refine XS.sipush X0.here hx rfl (hb hby at_81) ?_
    show Steps p.tables e below (s₁.setTop (mkF m 84 #[.val (.int p0), .val (.int p1), .val (.int p2), .val (.int p3), .val (.int v1), .val (.int v7), .val (.int v13), .val (.int v15), .val (.int v17), .val (.int v19), .unset, .unset, .unset, .unset] [(.int (255 : Int32)), (.int ((p1.toUInt32 >>> ((24 : Int32) &&& 31).toUInt32).toInt32))])) _
    refine XS.iand X0.here hx rfl (hb hby at_84) rfl ?_
    show Steps p.tables e below (s₁.setTop (mkF m 85 #[.val (.int p0), .val (.int p1), .val (.int p2), .val (.int p3), .val (.int v1), .val (.int v7), .val (.int v13), .val (.int v15), .val (.int v17), .val (.int v19), .unset, .unset, .unset, .unset] [(.int (((p1.toUInt32 >>> ((24 : Int32) &&& 31).toUInt32).toInt32) &&& (255 : Int32)))])) _
    refine XS.iload X0.here hx rfl (hb hby at_85) rfl ?_
    show Steps p.tables e below (s₁.setTop (mkF m 87 #[.val (.int p0), .val (.int p1), .val (.int p2), .val (.int p3), .val (.int v1), .val (.int v7), .val (.int v13), .val (.int v15), .val (.int v17), .val (.int v19), .unset, .unset, .unset, .unset] [(.int v13), (.int (((p1.toUInt32 >>> ((24 : Int32) &&& 31).toUInt32).toInt32) &&& (255 : Int32)))])) _
    refine XS.irem X0.here hx rfl (hb hby at_87) rfl (own_mnz hv1 hv13) ?_
    show Steps p.tables e below (s₁.setTop (mkF m 88 #[.val (.int p0), .val (.int p1), .val (.int p2), .val (.int p3), .val (.int v1), .val (.int v7), .val (.int v13), .val (.int v15), .val (.int v17), .val (.int v19), .unset, .unset, .unset, .unset] [(.int ((((p1.toUInt32 >>> ((24 : Int32) &&& 31).toUInt32).toInt32) &&& (255 : Int32)) - ((((p1.toUInt32 >>> ((24 : Int32) &&& 31).toUInt32).toInt32) &&& (255 : Int32)) / v13) * v13))])) _
    refine XS.istore X0.here hx rfl (hb hby at_88) rfl (l' := #[.val (.int p0), .val (.int p1), .val (.int p2), .val (.int p3), .val (.int v1), .val (.int v7), .val (.int v13), .val (.int v15), .val (.int v17), .val (.int v19), .val (.int ((((p1.toUInt32 >>> ((24 : Int32) &&& 31).toUInt32).toInt32) &&& (255 : Int32)) - ((((p1.toUInt32 >>> ((24 : Int32) &&& 31).toUInt32).toInt32) &&& (255 : Int32)) / v13) * v13)), .unset, .unset, .unset]) rfl ?_
    exact k
  have st23 : ∀ t, Steps p.tables e below (s₁.setTop (mkF m 91 #[.val (.int p0), .val (.int p1), .val (.int p2), .val (.int p3), .val (.int v1), .val (.int v7), .val (.int v13), .val (.int v15), .val (.int v17), .val (.int v19), .val (.int v21), .unset, .unset, .unset] [(.int (4 : Int32))])) t → Steps p.tables e below (s₁.setTop (mkF m 90 #[.val (.int p0), .val (.int p1), .val (.int p2), .val (.int p3), .val (.int v1), .val (.int v7), .val (.int v13), .val (.int v15), .val (.int v17), .val (.int v19), .val (.int v21), .unset, .unset, .unset] [])) t := by
    intro t k
    show Steps p.tables e below (s₁.setTop (mkF m 90 #[.val (.int p0), .val (.int p1), .val (.int p2), .val (.int p3), .val (.int v1), .val (.int v7), .val (.int v13), .val (.int v15), .val (.int v17), .val (.int v19), .val (.int v21), .unset, .unset, .unset] [])) _
    refine XS.iconst X0.here hx rfl (hb hby at_90) ?_
    exact k
  obtain ⟨T24, h24, b24, X24, e24, K24, q24, V24, st24⟩ := own_newA X0 hx hZ (ty := .int) rfl (hw _ (List.mem_of_getElem? (i := 1) rfl)) rfl e0 (g := (mkF m 91 #[.val (.int p0), .val (.int p1), .val (.int p2), .val (.int p3), .val (.int v1), .val (.int v7), .val (.int v13), .val (.int v15), .val (.int v17), .val (.int v19), .val (.int v21), .unset, .unset, .unset] [(.int (4 : Int32))])) rfl (hb hby at_91) rfl (4) (by decide) (cap := 4) (by decide) (by decide) (by decide) (by decide)
  have X24 : Stand p l e room_1 s m #[(.int p0), (.int p1), (.int p2), (.int p3)] below meth c T24 [] 1 4 := X24
  have V24 : own_IA Z h24 b24 .int ([(0 : Int32), (0 : Int32), (0 : Int32), (0 : Int32)] : List Int32) := V24
  have g_b24 : n0 ≤ b24 := Nat.le_trans Z0 q24
  have Zp25 : n0 ≤ h24.size := Nat.le_trans Z0 K24.1
  have st26 : ∀ t, Steps p.tables e below (T24.setTop (mkF m 97 #[.val (.int p0), .val (.int p1), .val (.int p2), .val (.int p3), .val (.int v1), .val (.int v7), .val (.int v13), .val (.int v15), .val (.int v17), .val (.int v19), .val (.int v21), .unset, .unset, .unset] [(.int v15), (.int (0 : Int32)), (.ref b24), (.ref b24)])) t → Steps p.tables e below (T24.setTop (mkF m 93 #[.val (.int p0), .val (.int p1), .val (.int p2), .val (.int p3), .val (.int v1), .val (.int v7), .val (.int v13), .val (.int v15), .val (.int v17), .val (.int v19), .val (.int v21), .unset, .unset, .unset] [(.ref b24)])) t := by
    intro t k
    show Steps p.tables e below (T24.setTop (mkF m 93 #[.val (.int p0), .val (.int p1), .val (.int p2), .val (.int p3), .val (.int v1), .val (.int v7), .val (.int v13), .val (.int v15), .val (.int v17), .val (.int v19), .val (.int v21), .unset, .unset, .unset] [(.ref b24)])) _
    refine XS.dup X24.here hx rfl (hb hby at_93) rfl rfl ?_
    show Steps p.tables e below (T24.setTop (mkF m 94 #[.val (.int p0), .val (.int p1), .val (.int p2), .val (.int p3), .val (.int v1), .val (.int v7), .val (.int v13), .val (.int v15), .val (.int v17), .val (.int v19), .val (.int v21), .unset, .unset, .unset] [(.ref b24), (.ref b24)])) _
    refine XS.iconst X24.here hx rfl (hb hby at_94) ?_
    show Steps p.tables e below (T24.setTop (mkF m 95 #[.val (.int p0), .val (.int p1), .val (.int p2), .val (.int p3), .val (.int v1), .val (.int v7), .val (.int v13), .val (.int v15), .val (.int v17), .val (.int v19), .val (.int v21), .unset, .unset, .unset] [(.int (0 : Int32)), (.ref b24), (.ref b24)])) _
    refine XS.iload X24.here hx rfl (hb hby at_95) rfl ?_
    exact k
  obtain ⟨T27, h27, L27, X27, N27, e27, K27, V27, st27⟩ := own_iastoreI X24 hx hZ N0 e24 V24 (j := (0 : Int32)) (own_in (m := 4) rfl (by decide)) g_b24 (g := (mkF m 97 #[.val (.int p0), .val (.int p1), .val (.int p2), .val (.int p3), .val (.int v1), .val (.int v7), .val (.int v13), .val (.int v15), .val (.int v17), .val (.int v19), .val (.int v21), .unset, .unset, .unset] [(.int v15), (.int (0 : Int32)), (.ref b24), (.ref b24)])) rfl rfl (hb hby at_97)
  have V27 : own_IA Z h27 b24 .int ([v15, (0 : Int32), (0 : Int32), (0 : Int32)] : List Int32) := V27
  have Zp28 : n0 ≤ h27.size := Nat.le_trans Zp25 K27.1
  have st29 : ∀ t, Steps p.tables e below (T27.setTop (mkF m 102 #[.val (.int p0), .val (.int p1), .val (.int p2), .val (.int p3), .val (.int v1), .val (.int v7), .val (.int v13), .val (.int v15), .val (.int v17), .val (.int v19), .val (.int v21), .unset, .unset, .unset] [(.int v17), (.int (1 : Int32)), (.ref b24), (.ref b24)])) t → Steps p.tables e below (T27.setTop (mkF m 98 #[.val (.int p0), .val (.int p1), .val (.int p2), .val (.int p3), .val (.int v1), .val (.int v7), .val (.int v13), .val (.int v15), .val (.int v17), .val (.int v19), .val (.int v21), .unset, .unset, .unset] [(.ref b24)])) t := by
    intro t k
    show Steps p.tables e below (T27.setTop (mkF m 98 #[.val (.int p0), .val (.int p1), .val (.int p2), .val (.int p3), .val (.int v1), .val (.int v7), .val (.int v13), .val (.int v15), .val (.int v17), .val (.int v19), .val (.int v21), .unset, .unset, .unset] [(.ref b24)])) _
    refine XS.dup X27.here hx rfl (hb hby at_98) rfl rfl ?_
    show Steps p.tables e below (T27.setTop (mkF m 99 #[.val (.int p0), .val (.int p1), .val (.int p2), .val (.int p3), .val (.int v1), .val (.int v7), .val (.int v13), .val (.int v15), .val (.int v17), .val (.int v19), .val (.int v21), .unset, .unset, .unset] [(.ref b24), (.ref b24)])) _
    refine XS.iconst X27.here hx rfl (hb hby at_99) ?_
    show Steps p.tables e below (T27.setTop (mkF m 100 #[.val (.int p0), .val (.int p1), .val (.int p2), .val (.int p3), .val (.int v1), .val (.int v7), .val (.int v13), .val (.int v15), .val (.int v17), .val (.int v19), .val (.int v21), .unset, .unset, .unset] [(.int (1 : Int32)), (.ref b24), (.ref b24)])) _
    refine XS.iload X27.here hx rfl (hb hby at_100) rfl ?_
    exact k
  obtain ⟨T30, h30, L30, X30, N30, e30, K30, V30, st30⟩ := own_iastoreI X27 hx hZ N27 e27 V27 (j := (1 : Int32)) (own_in (m := 4) rfl (by decide)) g_b24 (g := (mkF m 102 #[.val (.int p0), .val (.int p1), .val (.int p2), .val (.int p3), .val (.int v1), .val (.int v7), .val (.int v13), .val (.int v15), .val (.int v17), .val (.int v19), .val (.int v21), .unset, .unset, .unset] [(.int v17), (.int (1 : Int32)), (.ref b24), (.ref b24)])) rfl rfl (hb hby at_102)
  have V30 : own_IA Z h30 b24 .int ([v15, v17, (0 : Int32), (0 : Int32)] : List Int32) := V30
  have Zp31 : n0 ≤ h30.size := Nat.le_trans Zp28 K30.1
  have st32 : ∀ t, Steps p.tables e below (T30.setTop (mkF m 107 #[.val (.int p0), .val (.int p1), .val (.int p2), .val (.int p3), .val (.int v1), .val (.int v7), .val (.int v13), .val (.int v15), .val (.int v17), .val (.int v19), .val (.int v21), .unset, .unset, .unset] [(.int v19), (.int (2 : Int32)), (.ref b24), (.ref b24)])) t → Steps p.tables e below (T30.setTop (mkF m 103 #[.val (.int p0), .val (.int p1), .val (.int p2), .val (.int p3), .val (.int v1), .val (.int v7), .val (.int v13), .val (.int v15), .val (.int v17), .val (.int v19), .val (.int v21), .unset, .unset, .unset] [(.ref b24)])) t := by
    intro t k
    show Steps p.tables e below (T30.setTop (mkF m 103 #[.val (.int p0), .val (.int p1), .val (.int p2), .val (.int p3), .val (.int v1), .val (.int v7), .val (.int v13), .val (.int v15), .val (.int v17), .val (.int v19), .val (.int v21), .unset, .unset, .unset] [(.ref b24)])) _
    refine XS.dup X30.here hx rfl (hb hby at_103) rfl rfl ?_
    show Steps p.tables e below (T30.setTop (mkF m 104 #[.val (.int p0), .val (.int p1), .val (.int p2), .val (.int p3), .val (.int v1), .val (.int v7), .val (.int v13), .val (.int v15), .val (.int v17), .val (.int v19), .val (.int v21), .unset, .unset, .unset] [(.ref b24), (.ref b24)])) _
    refine XS.iconst X30.here hx rfl (hb hby at_104) ?_
    show Steps p.tables e below (T30.setTop (mkF m 105 #[.val (.int p0), .val (.int p1), .val (.int p2), .val (.int p3), .val (.int v1), .val (.int v7), .val (.int v13), .val (.int v15), .val (.int v17), .val (.int v19), .val (.int v21), .unset, .unset, .unset] [(.int (2 : Int32)), (.ref b24), (.ref b24)])) _
    refine XS.iload X30.here hx rfl (hb hby at_105) rfl ?_
    exact k
  obtain ⟨T33, h33, L33, X33, N33, e33, K33, V33, st33⟩ := own_iastoreI X30 hx hZ N30 e30 V30 (j := (2 : Int32)) (own_in (m := 4) rfl (by decide)) g_b24 (g := (mkF m 107 #[.val (.int p0), .val (.int p1), .val (.int p2), .val (.int p3), .val (.int v1), .val (.int v7), .val (.int v13), .val (.int v15), .val (.int v17), .val (.int v19), .val (.int v21), .unset, .unset, .unset] [(.int v19), (.int (2 : Int32)), (.ref b24), (.ref b24)])) rfl rfl (hb hby at_107)
  have V33 : own_IA Z h33 b24 .int ([v15, v17, v19, (0 : Int32)] : List Int32) := V33
  have Zp34 : n0 ≤ h33.size := Nat.le_trans Zp31 K33.1
  have st35 : ∀ t, Steps p.tables e below (T33.setTop (mkF m 112 #[.val (.int p0), .val (.int p1), .val (.int p2), .val (.int p3), .val (.int v1), .val (.int v7), .val (.int v13), .val (.int v15), .val (.int v17), .val (.int v19), .val (.int v21), .unset, .unset, .unset] [(.int v21), (.int (3 : Int32)), (.ref b24), (.ref b24)])) t → Steps p.tables e below (T33.setTop (mkF m 108 #[.val (.int p0), .val (.int p1), .val (.int p2), .val (.int p3), .val (.int v1), .val (.int v7), .val (.int v13), .val (.int v15), .val (.int v17), .val (.int v19), .val (.int v21), .unset, .unset, .unset] [(.ref b24)])) t := by
    intro t k
    show Steps p.tables e below (T33.setTop (mkF m 108 #[.val (.int p0), .val (.int p1), .val (.int p2), .val (.int p3), .val (.int v1), .val (.int v7), .val (.int v13), .val (.int v15), .val (.int v17), .val (.int v19), .val (.int v21), .unset, .unset, .unset] [(.ref b24)])) _
    refine XS.dup X33.here hx rfl (hb hby at_108) rfl rfl ?_
    show Steps p.tables e below (T33.setTop (mkF m 109 #[.val (.int p0), .val (.int p1), .val (.int p2), .val (.int p3), .val (.int v1), .val (.int v7), .val (.int v13), .val (.int v15), .val (.int v17), .val (.int v19), .val (.int v21), .unset, .unset, .unset] [(.ref b24), (.ref b24)])) _
    refine XS.iconst X33.here hx rfl (hb hby at_109) ?_
    show Steps p.tables e below (T33.setTop (mkF m 110 #[.val (.int p0), .val (.int p1), .val (.int p2), .val (.int p3), .val (.int v1), .val (.int v7), .val (.int v13), .val (.int v15), .val (.int v17), .val (.int v19), .val (.int v21), .unset, .unset, .unset] [(.int (3 : Int32)), (.ref b24), (.ref b24)])) _
    refine XS.iload X33.here hx rfl (hb hby at_110) rfl ?_
    exact k
  obtain ⟨T36, h36, L36, X36, N36, e36, K36, V36, st36⟩ := own_iastoreI X33 hx hZ N33 e33 V33 (j := (3 : Int32)) (own_in (m := 4) rfl (by decide)) g_b24 (g := (mkF m 112 #[.val (.int p0), .val (.int p1), .val (.int p2), .val (.int p3), .val (.int v1), .val (.int v7), .val (.int v13), .val (.int v15), .val (.int v17), .val (.int v19), .val (.int v21), .unset, .unset, .unset] [(.int v21), (.int (3 : Int32)), (.ref b24), (.ref b24)])) rfl rfl (hb hby at_112)
  have V36 : own_IA Z h36 b24 .int ([v15, v17, v19, v21] : List Int32) := V36
  have Zp37 : n0 ≤ h36.size := Nat.le_trans Zp34 K36.1
  have st38 : ∀ t, Steps p.tables e below (T36.setTop (mkF m 125 #[.val (.int p0), .val (.int p1), .val (.int p2), .val (.int p3), .val (.int v1), .val (.int v7), .val (.int v13), .val (.int v15), .val (.int v17), .val (.int v19), .val (.int v21), .val (.ref b24), .unset, .unset] [(.int v21), (.int v19), (.int v17), (.int v15), (.int v7)])) t → Steps p.tables e below (T36.setTop (mkF m 113 #[.val (.int p0), .val (.int p1), .val (.int p2), .val (.int p3), .val (.int v1), .val (.int v7), .val (.int v13), .val (.int v15), .val (.int v17), .val (.int v19), .val (.int v21), .unset, .unset, .unset] [(.ref b24)])) t := by
    intro t k
    show Steps p.tables e below (T36.setTop (mkF m 113 #[.val (.int p0), .val (.int p1), .val (.int p2), .val (.int p3), .val (.int v1), .val (.int v7), .val (.int v13), .val (.int v15), .val (.int v17), .val (.int v19), .val (.int v21), .unset, .unset, .unset] [(.ref b24)])) _
    refine XS.astore X36.here hx rfl (hb hby at_113) rfl rfl (l' := #[.val (.int p0), .val (.int p1), .val (.int p2), .val (.int p3), .val (.int v1), .val (.int v7), .val (.int v13), .val (.int v15), .val (.int v17), .val (.int v19), .val (.int v21), .val (.ref b24), .unset, .unset]) rfl ?_
    show Steps p.tables e below (T36.setTop (mkF m 115 #[.val (.int p0), .val (.int p1), .val (.int p2), .val (.int p3), .val (.int v1), .val (.int v7), .val (.int v13), .val (.int v15), .val (.int v17), .val (.int v19), .val (.int v21), .val (.ref b24), .unset, .unset] [])) _
    refine XS.iload X36.here hx rfl (hb hby at_115) rfl ?_
    show Steps p.tables e below (T36.setTop (mkF m 117 #[.val (.int p0), .val (.int p1), .val (.int p2), .val (.int p3), .val (.int v1), .val (.int v7), .val (.int v13), .val (.int v15), .val (.int v17), .val (.int v19), .val (.int v21), .val (.ref b24), .unset, .unset] [(.int v7)])) _
    refine XS.iload X36.here hx rfl (hb hby at_117) rfl ?_
    show Steps p.tables e below (T36.setTop (mkF m 119 #[.val (.int p0), .val (.int p1), .val (.int p2), .val (.int p3), .val (.int v1), .val (.int v7), .val (.int v13), .val (.int v15), .val (.int v17), .val (.int v19), .val (.int v21), .val (.ref b24), .unset, .unset] [(.int v15), (.int v7)])) _
    refine XS.iload X36.here hx rfl (hb hby at_119) rfl ?_
    show Steps p.tables e below (T36.setTop (mkF m 121 #[.val (.int p0), .val (.int p1), .val (.int p2), .val (.int p3), .val (.int v1), .val (.int v7), .val (.int v13), .val (.int v15), .val (.int v17), .val (.int v19), .val (.int v21), .val (.ref b24), .unset, .unset] [(.int v17), (.int v15), (.int v7)])) _
    refine XS.iload X36.here hx rfl (hb hby at_121) rfl ?_
    show Steps p.tables e below (T36.setTop (mkF m 123 #[.val (.int p0), .val (.int p1), .val (.int p2), .val (.int p3), .val (.int v1), .val (.int v7), .val (.int v13), .val (.int v15), .val (.int v17), .val (.int v19), .val (.int v21), .val (.ref b24), .unset, .unset] [(.int v19), (.int v17), (.int v15), (.int v7)])) _
    refine XS.iload X36.here hx rfl (hb hby at_123) rfl ?_
    exact k
  obtain ⟨_, _, ⟨T39, L39, k39, n39⟩, -, X39, ⟨Lc39, hQ39, l39, y39, z39⟩, st39⟩ := Jvm.LawKit.callS X36 hx (y := (⟨"com/example/overlaid_graphs/overlaidgraphs/graph/BucketsStartsPinLaw", "make", "(IIIII)[I"⟩ : MethodName)) hown (mvT hZ (hw _ (List.mem_of_getElem? (i := 2) rfl))) (mvT hZ (hw _ (List.mem_of_getElem? (i := 3) rfl))) (mvT hZ (hw _ (List.mem_of_getElem? (i := 4) rfl))) (mvT hZ (hw _ (List.mem_of_getElem? (i := 5) rfl))) (by decide) (backOf (W := 0) (own_rm1 l Z a0 hw [] v7 v15 v17 v19 v21 h36 n0 Zp37) hZ (hw _ (List.mem_of_getElem? (i := 5) rfl)) (hw _ (List.mem_of_getElem? (i := 4) rfl)) (by decide) (by decide)) (g := (mkF m 125 #[.val (.int p0), .val (.int p1), .val (.int p2), .val (.int p3), .val (.int v1), .val (.int v7), .val (.int v13), .val (.int v15), .val (.int v17), .val (.int v19), .val (.int v21), .val (.ref b24), .unset, .unset] [(.int v21), (.int v19), (.int v17), (.int v15), (.int v7)])) rfl (by rw [hml]; rfl) (argsL := [(.int v7), (.int v15), (.int v17), (.int v19), (.int v21)]) (rest := []) (lenOf own_pd1 rfl) rfl (by show 2 * 0 + _ ≤ _; exact Nat.le_of_eq rfl) (hb hby at_125) (fun _ _ => ⟨rfl, e36, (by decide : 1 + 1 ≤ _), (by decide : 4 + 4 ≤ _)⟩)
  dsimp only [Pt.U, Pt.locs, Pt.cells, Pt.slots] at X39 l39 y39 z39 st39 hQ39
  subst y39 z39
  obtain ⟨b39, rfl, Nq39, K39, q39, Q39_0, -⟩ := hQ39
  have N39 : Fr n0 L39 := by rw [l39]; exact Fr.app N36 Nq39
  have X39' : Stand p l e room_1 s m #[(.int p0), (.int p1), (.int p2), (.int p3)] below meth c T39 L39 2 8 := X39
  obtain ⟨v40, hv40⟩ : ∃ z : List Int32, z = (own_G1_0 v7 v15 v17 v19 v21) := ⟨_, rfl⟩
  rw [← hv40] at Q39_0
  have ne_b24_b39 : b24 ≠ b39 := own_ne V36.lt q39
  have g_b39 : n0 ≤ b39 := Nat.le_trans Zp37 q39
  have f41 : own_IA Z T39.heap b24 .int ([v15, v17, v19, v21] : List Int32) := V36.keep K39 nin0
  have Zp42 : n0 ≤ T39.heap.size := Nat.le_trans Zp37 K39.1
  have st43 : ∀ t, Steps p.tables e below (T39.setTop (mkF m 136 #[.val (.int p0), .val (.int p1), .val (.int p2), .val (.int p3), .val (.int v1), .val (.int v7), .val (.int v13), .val (.int v15), .val (.int v17), .val (.int v19), .val (.int v21), .val (.ref b24), .val (.ref b39), .unset] [(.int p3), (.int p2), (.ref b39), (.int v1)])) t → Steps p.tables e below (T39.setTop (mkF m 128 #[.val (.int p0), .val (.int p1), .val (.int p2), .val (.int p3), .val (.int v1), .val (.int v7), .val (.int v13), .val (.int v15), .val (.int v17), .val (.int v19), .val (.int v21), .val (.ref b24), .unset, .unset] [(.ref b39)])) t := by
    intro t k
    show Steps p.tables e below (T39.setTop (mkF m 128 #[.val (.int p0), .val (.int p1), .val (.int p2), .val (.int p3), .val (.int v1), .val (.int v7), .val (.int v13), .val (.int v15), .val (.int v17), .val (.int v19), .val (.int v21), .val (.ref b24), .unset, .unset] [(.ref b39)])) _
    refine XS.astore X39'.here hx rfl (hb hby at_128) rfl rfl (l' := #[.val (.int p0), .val (.int p1), .val (.int p2), .val (.int p3), .val (.int v1), .val (.int v7), .val (.int v13), .val (.int v15), .val (.int v17), .val (.int v19), .val (.int v21), .val (.ref b24), .val (.ref b39), .unset]) rfl ?_
    show Steps p.tables e below (T39.setTop (mkF m 130 #[.val (.int p0), .val (.int p1), .val (.int p2), .val (.int p3), .val (.int v1), .val (.int v7), .val (.int v13), .val (.int v15), .val (.int v17), .val (.int v19), .val (.int v21), .val (.ref b24), .val (.ref b39), .unset] [])) _
    refine XS.iload X39'.here hx rfl (hb hby at_130) rfl ?_
    show Steps p.tables e below (T39.setTop (mkF m 132 #[.val (.int p0), .val (.int p1), .val (.int p2), .val (.int p3), .val (.int v1), .val (.int v7), .val (.int v13), .val (.int v15), .val (.int v17), .val (.int v19), .val (.int v21), .val (.ref b24), .val (.ref b39), .unset] [(.int v1)])) _
    refine XS.aload X39'.here hx rfl (hb hby at_132) rfl rfl ?_
    show Steps p.tables e below (T39.setTop (mkF m 134 #[.val (.int p0), .val (.int p1), .val (.int p2), .val (.int p3), .val (.int v1), .val (.int v7), .val (.int v13), .val (.int v15), .val (.int v17), .val (.int v19), .val (.int v21), .val (.ref b24), .val (.ref b39), .unset] [(.ref b39), (.int v1)])) _
    refine XS.iloadN X39'.here hx rfl (hb hby at_134) rfl ?_
    show Steps p.tables e below (T39.setTop (mkF m 135 #[.val (.int p0), .val (.int p1), .val (.int p2), .val (.int p3), .val (.int v1), .val (.int v7), .val (.int v13), .val (.int v15), .val (.int v17), .val (.int v19), .val (.int v21), .val (.ref b24), .val (.ref b39), .unset] [(.int p2), (.ref b39), (.int v1)])) _
    refine XS.iloadN X39'.here hx rfl (hb hby at_135) rfl ?_
    exact k
  obtain ⟨_, _, ⟨T44, L44, k44, n44⟩, -, X44, ⟨Lc44, hQ44, l44, y44, z44⟩, st44⟩ := Jvm.LawKit.callS X39' hx (y := (⟨"com/example/overlaid_graphs/overlaidgraphs/graph/Buckets", "starts", "(I[III)[I"⟩ : MethodName)) hown (mvT hZ (hw _ (List.mem_of_getElem? (i := 6) rfl))) (mvT hZ (hw _ (List.mem_of_getElem? (i := 7) rfl))) (mvT hZ (hw _ (List.mem_of_getElem? (i := 8) rfl))) (mvT hZ (hw _ (List.mem_of_getElem? (i := 9) rfl))) (by decide) (backOf (W := 0) (own_rm2 l Z a0 hw [] v1 b39 p2 p3 v40 T39.heap n0 Zp42 Q39_0 (own_h0_45 (p0 := p0) (p1 := p1) (p2 := p2) (p3 := p3) hv1 hv7 hv13 hv15 hv17 hv19 hv21 hv40) (own_h0_46 (p0 := p0) (p1 := p1) (p2 := p2) (p3 := p3) hv1 hv7 hv13 hv15 hv17 hv19 hv21 hv40)) hZ (hw _ (List.mem_of_getElem? (i := 9) rfl)) (hw _ (List.mem_of_getElem? (i := 8) rfl)) (by decide) (by decide)) (g := (mkF m 136 #[.val (.int p0), .val (.int p1), .val (.int p2), .val (.int p3), .val (.int v1), .val (.int v7), .val (.int v13), .val (.int v15), .val (.int v17), .val (.int v19), .val (.int v21), .val (.ref b24), .val (.ref b39), .unset] [(.int p3), (.int p2), (.ref b39), (.int v1)])) rfl (by rw [hml]; rfl) (argsL := [(.int v1), (.ref b39), (.int p2), (.int p3)]) (rest := []) (lenOf own_pd2 rfl) rfl (by show 2 * 0 + _ ≤ _; exact Nat.le_of_eq rfl) (hb hby at_136) (fun _ _ => ⟨rfl, (rfl : T39.heap = T39.heap), (by decide : 2 + 1 ≤ _), (by decide : 8 + 5 ≤ _)⟩)
  dsimp only [Pt.U, Pt.locs, Pt.cells, Pt.slots] at X44 l44 y44 z44 st44 hQ44
  subst y44 z44
  obtain ⟨b44, rfl, Nq44, K44, q44, Q44_0, -⟩ := hQ44
  have N44 : Fr n0 L44 := by rw [l44]; exact Fr.app N39 Nq44
  have X44' : Stand p l e room_1 s m #[(.int p0), (.int p1), (.int p2), (.int p3)] below meth c T44 L44 3 13 := X44
  obtain ⟨v47, hv47⟩ : ∃ z : List Int32, z = (own_G2_0 v1 p2 p3 v40) := ⟨_, rfl⟩
  rw [← hv47] at Q44_0
  have ne_b24_b44 : b24 ≠ b44 := own_ne f41.lt q44
  have ne_b39_b44 : b39 ≠ b44 := own_ne Q39_0.lt q44
  have g_b44 : n0 ≤ b44 := Nat.le_trans Zp42 q44
  have f48 : own_IA Z T44.heap b24 .int ([v15, v17, v19, v21] : List Int32) := f41.keep K44 nin0
  have f49 : own_IA Z T44.heap b39 .int v40 := Q39_0.keep K44 nin0
  have Zp50 : n0 ≤ T44.heap.size := Nat.le_trans Zp42 K44.1
  have st51 : ∀ t, Steps p.tables e below (T44.setTop (mkF m 148 #[.val (.int p0), .val (.int p1), .val (.int p2), .val (.int p3), .val (.int v1), .val (.int v7), .val (.int v13), .val (.int v15), .val (.int v17), .val (.int v19), .val (.int v21), .val (.ref b24), .val (.ref b39), .val (.ref b44)] [(.int (v1 + (1 : Int32))), (.int (Int32.ofNat (List.length v47)))])) t → Steps p.tables e below (T44.setTop (mkF m 139 #[.val (.int p0), .val (.int p1), .val (.int p2), .val (.int p3), .val (.int v1), .val (.int v7), .val (.int v13), .val (.int v15), .val (.int v17), .val (.int v19), .val (.int v21), .val (.ref b24), .val (.ref b39), .unset] [(.ref b44)])) t := by
    intro t k
    show Steps p.tables e below (T44.setTop (mkF m 139 #[.val (.int p0), .val (.int p1), .val (.int p2), .val (.int p3), .val (.int v1), .val (.int v7), .val (.int v13), .val (.int v15), .val (.int v17), .val (.int v19), .val (.int v21), .val (.ref b24), .val (.ref b39), .unset] [(.ref b44)])) _
    refine XS.astore X44'.here hx rfl (hb hby at_139) rfl rfl (l' := #[.val (.int p0), .val (.int p1), .val (.int p2), .val (.int p3), .val (.int v1), .val (.int v7), .val (.int v13), .val (.int v15), .val (.int v17), .val (.int v19), .val (.int v21), .val (.ref b24), .val (.ref b39), .val (.ref b44)]) rfl ?_
    show Steps p.tables e below (T44.setTop (mkF m 141 #[.val (.int p0), .val (.int p1), .val (.int p2), .val (.int p3), .val (.int v1), .val (.int v7), .val (.int v13), .val (.int v15), .val (.int v17), .val (.int v19), .val (.int v21), .val (.ref b24), .val (.ref b39), .val (.ref b44)] [])) _
    refine XS.aload X44'.here hx rfl (hb hby at_141) rfl rfl ?_
    show Steps p.tables e below (T44.setTop (mkF m 143 #[.val (.int p0), .val (.int p1), .val (.int p2), .val (.int p3), .val (.int v1), .val (.int v7), .val (.int v13), .val (.int v15), .val (.int v17), .val (.int v19), .val (.int v21), .val (.ref b24), .val (.ref b39), .val (.ref b44)] [(.ref b44)])) _
    refine own_lenI X44' hx hZ (rfl : T44.heap = T44.heap) Q44_0 (g := (mkF m 143 #[.val (.int p0), .val (.int p1), .val (.int p2), .val (.int p3), .val (.int v1), .val (.int v7), .val (.int v13), .val (.int v15), .val (.int v17), .val (.int v19), .val (.int v21), .val (.ref b24), .val (.ref b39), .val (.ref b44)] [(.ref b44)])) rfl rfl (hb hby at_143) _ ?_
    show Steps p.tables e below (T44.setTop (mkF m 144 #[.val (.int p0), .val (.int p1), .val (.int p2), .val (.int p3), .val (.int v1), .val (.int v7), .val (.int v13), .val (.int v15), .val (.int v17), .val (.int v19), .val (.int v21), .val (.ref b24), .val (.ref b39), .val (.ref b44)] [(.int (Int32.ofNat (List.length v47)))])) _
    refine XS.iload X44'.here hx rfl (hb hby at_144) rfl ?_
    show Steps p.tables e below (T44.setTop (mkF m 146 #[.val (.int p0), .val (.int p1), .val (.int p2), .val (.int p3), .val (.int v1), .val (.int v7), .val (.int v13), .val (.int v15), .val (.int v17), .val (.int v19), .val (.int v21), .val (.ref b24), .val (.ref b39), .val (.ref b44)] [(.int v1), (.int (Int32.ofNat (List.length v47)))])) _
    refine XS.iconst X44'.here hx rfl (hb hby at_146) ?_
    show Steps p.tables e below (T44.setTop (mkF m 147 #[.val (.int p0), .val (.int p1), .val (.int p2), .val (.int p3), .val (.int v1), .val (.int v7), .val (.int v13), .val (.int v15), .val (.int v17), .val (.int v19), .val (.int v21), .val (.ref b24), .val (.ref b39), .val (.ref b44)] [(.int (1 : Int32)), (.int v1), (.int (Int32.ofNat (List.length v47)))])) _
    refine XS.iadd X44'.here hx rfl (hb hby at_147) rfl ?_
    exact k
  refine own_End.go (fun t k => st2 _ (st3 _ (st8 _ (st9 _ (st14 _ (st16 _ (st18 _ (st20 _ (st22 _ (st23 _ (st24 _ (st26 _ (st27 _ (st29 _ (st30 _ (st32 _ (st33 _ (st35 _ (st36 _ (st38 _ (st39 _ (st43 _ (st44 _ (st51 _ k)))))))))))))))))))))))) ?_
  by_cases hc148_52 : (Int32.ofNat (List.length v47)) = (v1 + (1 : Int32))
  · have st53 : ∀ t, Steps p.tables e below (T44.setTop (mkF m 164 #[.val (.int p0), .val (.int p1), .val (.int p2), .val (.int p3), .val (.int v1), .val (.int v7), .val (.int v13), .val (.int v15), .val (.int v17), .val (.int v19), .val (.int v21), .val (.ref b24), .val (.ref b39), .val (.ref b44)] [(.int p3), (.int p2), (.ref b24), (.int v7), (.int v1), (.int (0 : Int32)), (.ref b44)])) t → Steps p.tables e below (T44.setTop (mkF m 148 #[.val (.int p0), .val (.int p1), .val (.int p2), .val (.int p3), .val (.int v1), .val (.int v7), .val (.int v13), .val (.int v15), .val (.int v17), .val (.int v19), .val (.int v21), .val (.ref b24), .val (.ref b39), .val (.ref b44)] [(.int (v1 + (1 : Int32))), (.int (Int32.ofNat (List.length v47)))])) t := by
      intro t k
      show Steps p.tables e below (T44.setTop (mkF m 148 #[.val (.int p0), .val (.int p1), .val (.int p2), .val (.int p3), .val (.int v1), .val (.int v7), .val (.int v13), .val (.int v15), .val (.int v17), .val (.int v19), .val (.int v21), .val (.ref b24), .val (.ref b39), .val (.ref b44)] [(.int (v1 + (1 : Int32))), (.int (Int32.ofNat (List.length v47)))])) _
      refine XS.icmpYes X44'.here hx rfl (pc0 := 148) (pc' := 153) rfl (hb hby at_148) rfl (teq hc148_52).1 (by decide) (by decide) ?_
      show Steps p.tables e below (T44.setTop (mkF m 153 #[.val (.int p0), .val (.int p1), .val (.int p2), .val (.int p3), .val (.int v1), .val (.int v7), .val (.int v13), .val (.int v15), .val (.int v17), .val (.int v19), .val (.int v21), .val (.ref b24), .val (.ref b39), .val (.ref b44)] [])) _
      refine XS.aload X44'.here hx rfl (hb hby at_153) rfl rfl ?_
      show Steps p.tables e below (T44.setTop (mkF m 155 #[.val (.int p0), .val (.int p1), .val (.int p2), .val (.int p3), .val (.int v1), .val (.int v7), .val (.int v13), .val (.int v15), .val (.int v17), .val (.int v19), .val (.int v21), .val (.ref b24), .val (.ref b39), .val (.ref b44)] [(.ref b44)])) _
      refine XS.iconst X44'.here hx rfl (hb hby at_155) ?_
      show Steps p.tables e below (T44.setTop (mkF m 156 #[.val (.int p0), .val (.int p1), .val (.int p2), .val (.int p3), .val (.int v1), .val (.int v7), .val (.int v13), .val (.int v15), .val (.int v17), .val (.int v19), .val (.int v21), .val (.ref b24), .val (.ref b39), .val (.ref b44)] [(.int (0 : Int32)), (.ref b44)])) _
      refine XS.iload X44'.here hx rfl (hb hby at_156) rfl ?_
      show Steps p.tables e below (T44.setTop (mkF m 158 #[.val (.int p0), .val (.int p1), .val (.int p2), .val (.int p3), .val (.int v1), .val (.int v7), .val (.int v13), .val (.int v15), .val (.int v17), .val (.int v19), .val (.int v21), .val (.ref b24), .val (.ref b39), .val (.ref b44)] [(.int v1), (.int (0 : Int32)), (.ref b44)])) _
      refine XS.iload X44'.here hx rfl (hb hby at_158) rfl ?_
      show Steps p.tables e below (T44.setTop (mkF m 160 #[.val (.int p0), .val (.int p1), .val (.int p2), .val (.int p3), .val (.int v1), .val (.int v7), .val (.int v13), .val (.int v15), .val (.int v17), .val (.int v19), .val (.int v21), .val (.ref b24), .val (.ref b39), .val (.ref b44)] [(.int v7), (.int v1), (.int (0 : Int32)), (.ref b44)])) _
      refine XS.aload X44'.here hx rfl (hb hby at_160) rfl rfl ?_
      show Steps p.tables e below (T44.setTop (mkF m 162 #[.val (.int p0), .val (.int p1), .val (.int p2), .val (.int p3), .val (.int v1), .val (.int v7), .val (.int v13), .val (.int v15), .val (.int v17), .val (.int v19), .val (.int v21), .val (.ref b24), .val (.ref b39), .val (.ref b44)] [(.ref b24), (.int v7), (.int v1), (.int (0 : Int32)), (.ref b44)])) _
      refine XS.iloadN X44'.here hx rfl (hb hby at_162) rfl ?_
      show Steps p.tables e below (T44.setTop (mkF m 163 #[.val (.int p0), .val (.int p1), .val (.int p2), .val (.int p3), .val (.int v1), .val (.int v7), .val (.int v13), .val (.int v15), .val (.int v17), .val (.int v19), .val (.int v21), .val (.ref b24), .val (.ref b39), .val (.ref b44)] [(.int p2), (.ref b24), (.int v7), (.int v1), (.int (0 : Int32)), (.ref b44)])) _
      refine XS.iloadN X44'.here hx rfl (hb hby at_163) rfl ?_
      exact k
    obtain ⟨_, _, ⟨T54, L54, k54, n54⟩, -, X54, ⟨Lc54, hQ54, l54, y54, z54⟩, st54⟩ := Jvm.LawKit.callS X44' hx (y := (⟨"com/example/overlaid_graphs/overlaidgraphs/graph/BucketsStartsPinLaw", "at", "([IIII[III)Z"⟩ : MethodName)) hown (mvT hZ (hw _ (List.mem_of_getElem? (i := 10) rfl))) (mvT hZ (hw _ (List.mem_of_getElem? (i := 11) rfl))) (mvT hZ (hw _ (List.mem_of_getElem? (i := 4) rfl))) (mvT hZ (hw _ (List.mem_of_getElem? (i := 12) rfl))) (by decide) (backOf (W := 0) (own_rm3 l Z a0 hw [] b44 (0 : Int32) v1 v7 b24 p2 p3 v47 ([v15, v17, v19, v21] : List Int32) T44.heap n0 Zp50 Q44_0 f48 (own_h0_55 (p0 := p0) (p1 := p1) (p2 := p2) (p3 := p3) hv1 hv7 hv13 hv15 hv17 hv19 hv21 hv40 hv47 hc148_52) (own_h0_56 (p0 := p0) (p1 := p1) (p2 := p2) (p3 := p3) hv1 hv7 hv13 hv15 hv17 hv19 hv21 hv40 hv47 hc148_52)) hZ (hw _ (List.mem_of_getElem? (i := 12) rfl)) (hw _ (List.mem_of_getElem? (i := 4) rfl)) (by decide) (by decide)) (g := (mkF m 164 #[.val (.int p0), .val (.int p1), .val (.int p2), .val (.int p3), .val (.int v1), .val (.int v7), .val (.int v13), .val (.int v15), .val (.int v17), .val (.int v19), .val (.int v21), .val (.ref b24), .val (.ref b39), .val (.ref b44)] [(.int p3), (.int p2), (.ref b24), (.int v7), (.int v1), (.int (0 : Int32)), (.ref b44)])) rfl (by rw [hml]; rfl) (argsL := [(.ref b44), (.int (0 : Int32)), (.int v1), (.int v7), (.ref b24), (.int p2), (.int p3)]) (rest := []) (lenOf own_pd3 rfl) rfl (by show 2 * 0 + _ ≤ _; exact Nat.le_of_eq rfl) (hb hby at_164) (fun _ _ => ⟨rfl, (rfl : T44.heap = T44.heap), (by decide : 3 + 0 ≤ _), (by decide : 13 + 0 ≤ _)⟩)
    dsimp only [Pt.U, Pt.locs, Pt.cells, Pt.slots] at X54 l54 y54 z54 st54 hQ54
    subst y54 z54
    obtain ⟨rfl, rfl, e54⟩ := hQ54
    have X54' : Stand p l e room_1 s m #[(.int p0), (.int p1), (.int p2), (.int p3)] below meth c T54 L44 3 13 := by rw [show L54 = L44 from by rw [l54]; first | rfl | exact List.append_nil _] at X54; exact X54
    obtain ⟨v57, hv57⟩ : ∃ z : Int32, z = (own_F3 (0 : Int32) v1 v7 p2 p3 v47 ([v15, v17, v19, v21] : List Int32)) := ⟨_, rfl⟩
    rw [← hv57] at st54
    refine own_End.go (fun t k => st53 _ (st54 _ k)) ?_
    by_cases hc167_58 : v57 = (0 : Int32)
    · have st59 : ∀ t, Steps p.tables e below (T54.setTop (mkF m 243 #[.val (.int p0), .val (.int p1), .val (.int p2), .val (.int p3), .val (.int v1), .val (.int v7), .val (.int v13), .val (.int v15), .val (.int v17), .val (.int v19), .val (.int v21), .val (.ref b24), .val (.ref b39), .val (.ref b44)] [(.int (0 : Int32))])) t → Steps p.tables e below (T54.setTop (mkF m 167 #[.val (.int p0), .val (.int p1), .val (.int p2), .val (.int p3), .val (.int v1), .val (.int v7), .val (.int v13), .val (.int v15), .val (.int v17), .val (.int v19), .val (.int v21), .val (.ref b24), .val (.ref b39), .val (.ref b44)] [(.int v57)])) t := by
        intro t k
        show Steps p.tables e below (T54.setTop (mkF m 167 #[.val (.int p0), .val (.int p1), .val (.int p2), .val (.int p3), .val (.int v1), .val (.int v7), .val (.int v13), .val (.int v15), .val (.int v17), .val (.int v19), .val (.int v21), .val (.ref b24), .val (.ref b39), .val (.ref b44)] [(.int v57)])) _
        refine XS.ifYes X54'.here hx rfl (pc0 := 167) (pc' := 242) rfl (hb hby at_167) rfl ((if0 _ _).trans (teq hc167_58).1) (by decide) (by decide) ?_
        show Steps p.tables e below (T54.setTop (mkF m 242 #[.val (.int p0), .val (.int p1), .val (.int p2), .val (.int p3), .val (.int v1), .val (.int v7), .val (.int v13), .val (.int v15), .val (.int v17), .val (.int v19), .val (.int v21), .val (.ref b24), .val (.ref b39), .val (.ref b44)] [])) _
        refine XS.iconst X54'.here hx rfl (hb hby at_242) ?_
        exact k
      refine own_End.go (fun t k => st59 _ k) ?_
      exact own_leafN X54' hx Bd.notSynchronized (t := .boolean) Bd.returns (by simp) (hb hby at_243) ⟨congrArg (fun z => some (Value.int z)) (own_e0_60 hv1 hv7 hv13 hv15 hv17 hv19 hv21 hv40 hv47 hv57 hc148_52 hc167_58), N44⟩ (by decide) (by decide)
    · have st61 : ∀ t, Steps p.tables e below (T54.setTop (mkF m 181 #[.val (.int p0), .val (.int p1), .val (.int p2), .val (.int p3), .val (.int v1), .val (.int v7), .val (.int v13), .val (.int v15), .val (.int v17), .val (.int v19), .val (.int v21), .val (.ref b24), .val (.ref b39), .val (.ref b44)] [(.int p3), (.int p2), (.ref b24), (.int v7), (.int v1), (.int (1 : Int32)), (.ref b44)])) t → Steps p.tables e below (T54.setTop (mkF m 167 #[.val (.int p0), .val (.int p1), .val (.int p2), .val (.int p3), .val (.int v1), .val (.int v7), .val (.int v13), .val (.int v15), .val (.int v17), .val (.int v19), .val (.int v21), .val (.ref b24), .val (.ref b39), .val (.ref b44)] [(.int v57)])) t := by
        intro t k
        show Steps p.tables e below (T54.setTop (mkF m 167 #[.val (.int p0), .val (.int p1), .val (.int p2), .val (.int p3), .val (.int v1), .val (.int v7), .val (.int v13), .val (.int v15), .val (.int v17), .val (.int v19), .val (.int v21), .val (.ref b24), .val (.ref b39), .val (.ref b44)] [(.int v57)])) _
        refine XS.ifNo X54'.here hx rfl (hb hby at_167) rfl ((if0 _ _).trans (feq hc167_58).1) ?_
        show Steps p.tables e below (T54.setTop (mkF m 170 #[.val (.int p0), .val (.int p1), .val (.int p2), .val (.int p3), .val (.int v1), .val (.int v7), .val (.int v13), .val (.int v15), .val (.int v17), .val (.int v19), .val (.int v21), .val (.ref b24), .val (.ref b39), .val (.ref b44)] [])) _
        refine XS.aload X54'.here hx rfl (hb hby at_170) rfl rfl ?_
        show Steps p.tables e below (T54.setTop (mkF m 172 #[.val (.int p0), .val (.int p1), .val (.int p2), .val (.int p3), .val (.int v1), .val (.int v7), .val (.int v13), .val (.int v15), .val (.int v17), .val (.int v19), .val (.int v21), .val (.ref b24), .val (.ref b39), .val (.ref b44)] [(.ref b44)])) _
        refine XS.iconst X54'.here hx rfl (hb hby at_172) ?_
        show Steps p.tables e below (T54.setTop (mkF m 173 #[.val (.int p0), .val (.int p1), .val (.int p2), .val (.int p3), .val (.int v1), .val (.int v7), .val (.int v13), .val (.int v15), .val (.int v17), .val (.int v19), .val (.int v21), .val (.ref b24), .val (.ref b39), .val (.ref b44)] [(.int (1 : Int32)), (.ref b44)])) _
        refine XS.iload X54'.here hx rfl (hb hby at_173) rfl ?_
        show Steps p.tables e below (T54.setTop (mkF m 175 #[.val (.int p0), .val (.int p1), .val (.int p2), .val (.int p3), .val (.int v1), .val (.int v7), .val (.int v13), .val (.int v15), .val (.int v17), .val (.int v19), .val (.int v21), .val (.ref b24), .val (.ref b39), .val (.ref b44)] [(.int v1), (.int (1 : Int32)), (.ref b44)])) _
        refine XS.iload X54'.here hx rfl (hb hby at_175) rfl ?_
        show Steps p.tables e below (T54.setTop (mkF m 177 #[.val (.int p0), .val (.int p1), .val (.int p2), .val (.int p3), .val (.int v1), .val (.int v7), .val (.int v13), .val (.int v15), .val (.int v17), .val (.int v19), .val (.int v21), .val (.ref b24), .val (.ref b39), .val (.ref b44)] [(.int v7), (.int v1), (.int (1 : Int32)), (.ref b44)])) _
        refine XS.aload X54'.here hx rfl (hb hby at_177) rfl rfl ?_
        show Steps p.tables e below (T54.setTop (mkF m 179 #[.val (.int p0), .val (.int p1), .val (.int p2), .val (.int p3), .val (.int v1), .val (.int v7), .val (.int v13), .val (.int v15), .val (.int v17), .val (.int v19), .val (.int v21), .val (.ref b24), .val (.ref b39), .val (.ref b44)] [(.ref b24), (.int v7), (.int v1), (.int (1 : Int32)), (.ref b44)])) _
        refine XS.iloadN X54'.here hx rfl (hb hby at_179) rfl ?_
        show Steps p.tables e below (T54.setTop (mkF m 180 #[.val (.int p0), .val (.int p1), .val (.int p2), .val (.int p3), .val (.int v1), .val (.int v7), .val (.int v13), .val (.int v15), .val (.int v17), .val (.int v19), .val (.int v21), .val (.ref b24), .val (.ref b39), .val (.ref b44)] [(.int p2), (.ref b24), (.int v7), (.int v1), (.int (1 : Int32)), (.ref b44)])) _
        refine XS.iloadN X54'.here hx rfl (hb hby at_180) rfl ?_
        exact k
      obtain ⟨_, _, ⟨T62, L62, k62, n62⟩, -, X62, ⟨Lc62, hQ62, l62, y62, z62⟩, st62⟩ := Jvm.LawKit.callS X54' hx (y := (⟨"com/example/overlaid_graphs/overlaidgraphs/graph/BucketsStartsPinLaw", "at", "([IIII[III)Z"⟩ : MethodName)) hown (mvT hZ (hw _ (List.mem_of_getElem? (i := 10) rfl))) (mvT hZ (hw _ (List.mem_of_getElem? (i := 11) rfl))) (mvT hZ (hw _ (List.mem_of_getElem? (i := 4) rfl))) (mvT hZ (hw _ (List.mem_of_getElem? (i := 12) rfl))) (by decide) (backOf (W := 0) (own_rm3 l Z a0 hw [] b44 (1 : Int32) v1 v7 b24 p2 p3 v47 ([v15, v17, v19, v21] : List Int32) T44.heap n0 Zp50 Q44_0 f48 (own_h0_63 (p0 := p0) (p1 := p1) (p2 := p2) (p3 := p3) hv1 hv7 hv13 hv15 hv17 hv19 hv21 hv40 hv47 hv57 hc148_52 hc167_58) (own_h0_64 (p0 := p0) (p1 := p1) (p2 := p2) (p3 := p3) hv1 hv7 hv13 hv15 hv17 hv19 hv21 hv40 hv47 hv57 hc148_52 hc167_58)) hZ (hw _ (List.mem_of_getElem? (i := 12) rfl)) (hw _ (List.mem_of_getElem? (i := 4) rfl)) (by decide) (by decide)) (g := (mkF m 181 #[.val (.int p0), .val (.int p1), .val (.int p2), .val (.int p3), .val (.int v1), .val (.int v7), .val (.int v13), .val (.int v15), .val (.int v17), .val (.int v19), .val (.int v21), .val (.ref b24), .val (.ref b39), .val (.ref b44)] [(.int p3), (.int p2), (.ref b24), (.int v7), (.int v1), (.int (1 : Int32)), (.ref b44)])) rfl (by rw [hml]; rfl) (argsL := [(.ref b44), (.int (1 : Int32)), (.int v1), (.int v7), (.ref b24), (.int p2), (.int p3)]) (rest := []) (lenOf own_pd3 rfl) rfl (by show 2 * 0 + _ ≤ _; exact Nat.le_of_eq rfl) (hb hby at_181) (fun _ _ => ⟨rfl, e54, (by decide : 3 + 0 ≤ _), (by decide : 13 + 0 ≤ _)⟩)
      dsimp only [Pt.U, Pt.locs, Pt.cells, Pt.slots] at X62 l62 y62 z62 st62 hQ62
      subst y62 z62
      obtain ⟨rfl, rfl, e62⟩ := hQ62
      have X62' : Stand p l e room_1 s m #[(.int p0), (.int p1), (.int p2), (.int p3)] below meth c T62 L44 3 13 := by rw [show L62 = L44 from by rw [l62]; first | rfl | exact List.append_nil _] at X62; exact X62
      obtain ⟨v65, hv65⟩ : ∃ z : Int32, z = (own_F3 (1 : Int32) v1 v7 p2 p3 v47 ([v15, v17, v19, v21] : List Int32)) := ⟨_, rfl⟩
      rw [← hv65] at st62
      refine own_End.go (fun t k => st61 _ (st62 _ k)) ?_
      by_cases hc184_66 : v65 = (0 : Int32)
      · have st67 : ∀ t, Steps p.tables e below (T62.setTop (mkF m 243 #[.val (.int p0), .val (.int p1), .val (.int p2), .val (.int p3), .val (.int v1), .val (.int v7), .val (.int v13), .val (.int v15), .val (.int v17), .val (.int v19), .val (.int v21), .val (.ref b24), .val (.ref b39), .val (.ref b44)] [(.int (0 : Int32))])) t → Steps p.tables e below (T62.setTop (mkF m 184 #[.val (.int p0), .val (.int p1), .val (.int p2), .val (.int p3), .val (.int v1), .val (.int v7), .val (.int v13), .val (.int v15), .val (.int v17), .val (.int v19), .val (.int v21), .val (.ref b24), .val (.ref b39), .val (.ref b44)] [(.int v65)])) t := by
          intro t k
          show Steps p.tables e below (T62.setTop (mkF m 184 #[.val (.int p0), .val (.int p1), .val (.int p2), .val (.int p3), .val (.int v1), .val (.int v7), .val (.int v13), .val (.int v15), .val (.int v17), .val (.int v19), .val (.int v21), .val (.ref b24), .val (.ref b39), .val (.ref b44)] [(.int v65)])) _
          refine XS.ifYes X62'.here hx rfl (pc0 := 184) (pc' := 242) rfl (hb hby at_184) rfl ((if0 _ _).trans (teq hc184_66).1) (by decide) (by decide) ?_
          show Steps p.tables e below (T62.setTop (mkF m 242 #[.val (.int p0), .val (.int p1), .val (.int p2), .val (.int p3), .val (.int v1), .val (.int v7), .val (.int v13), .val (.int v15), .val (.int v17), .val (.int v19), .val (.int v21), .val (.ref b24), .val (.ref b39), .val (.ref b44)] [])) _
          refine XS.iconst X62'.here hx rfl (hb hby at_242) ?_
          exact k
        refine own_End.go (fun t k => st67 _ k) ?_
        exact own_leafN X62' hx Bd.notSynchronized (t := .boolean) Bd.returns (by simp) (hb hby at_243) ⟨congrArg (fun z => some (Value.int z)) (own_e0_68 hv1 hv7 hv13 hv15 hv17 hv19 hv21 hv40 hv47 hv57 hv65 hc148_52 hc167_58 hc184_66), N44⟩ (by decide) (by decide)
      · have st69 : ∀ t, Steps p.tables e below (T62.setTop (mkF m 198 #[.val (.int p0), .val (.int p1), .val (.int p2), .val (.int p3), .val (.int v1), .val (.int v7), .val (.int v13), .val (.int v15), .val (.int v17), .val (.int v19), .val (.int v21), .val (.ref b24), .val (.ref b39), .val (.ref b44)] [(.int p3), (.int p2), (.ref b24), (.int v7), (.int v1), (.int (2 : Int32)), (.ref b44)])) t → Steps p.tables e below (T62.setTop (mkF m 184 #[.val (.int p0), .val (.int p1), .val (.int p2), .val (.int p3), .val (.int v1), .val (.int v7), .val (.int v13), .val (.int v15), .val (.int v17), .val (.int v19), .val (.int v21), .val (.ref b24), .val (.ref b39), .val (.ref b44)] [(.int v65)])) t := by
          intro t k
          show Steps p.tables e below (T62.setTop (mkF m 184 #[.val (.int p0), .val (.int p1), .val (.int p2), .val (.int p3), .val (.int v1), .val (.int v7), .val (.int v13), .val (.int v15), .val (.int v17), .val (.int v19), .val (.int v21), .val (.ref b24), .val (.ref b39), .val (.ref b44)] [(.int v65)])) _
          refine XS.ifNo X62'.here hx rfl (hb hby at_184) rfl ((if0 _ _).trans (feq hc184_66).1) ?_
          show Steps p.tables e below (T62.setTop (mkF m 187 #[.val (.int p0), .val (.int p1), .val (.int p2), .val (.int p3), .val (.int v1), .val (.int v7), .val (.int v13), .val (.int v15), .val (.int v17), .val (.int v19), .val (.int v21), .val (.ref b24), .val (.ref b39), .val (.ref b44)] [])) _
          refine XS.aload X62'.here hx rfl (hb hby at_187) rfl rfl ?_
          show Steps p.tables e below (T62.setTop (mkF m 189 #[.val (.int p0), .val (.int p1), .val (.int p2), .val (.int p3), .val (.int v1), .val (.int v7), .val (.int v13), .val (.int v15), .val (.int v17), .val (.int v19), .val (.int v21), .val (.ref b24), .val (.ref b39), .val (.ref b44)] [(.ref b44)])) _
          refine XS.iconst X62'.here hx rfl (hb hby at_189) ?_
          show Steps p.tables e below (T62.setTop (mkF m 190 #[.val (.int p0), .val (.int p1), .val (.int p2), .val (.int p3), .val (.int v1), .val (.int v7), .val (.int v13), .val (.int v15), .val (.int v17), .val (.int v19), .val (.int v21), .val (.ref b24), .val (.ref b39), .val (.ref b44)] [(.int (2 : Int32)), (.ref b44)])) _
          refine XS.iload X62'.here hx rfl (hb hby at_190) rfl ?_
          show Steps p.tables e below (T62.setTop (mkF m 192 #[.val (.int p0), .val (.int p1), .val (.int p2), .val (.int p3), .val (.int v1), .val (.int v7), .val (.int v13), .val (.int v15), .val (.int v17), .val (.int v19), .val (.int v21), .val (.ref b24), .val (.ref b39), .val (.ref b44)] [(.int v1), (.int (2 : Int32)), (.ref b44)])) _
          refine XS.iload X62'.here hx rfl (hb hby at_192) rfl ?_
          show Steps p.tables e below (T62.setTop (mkF m 194 #[.val (.int p0), .val (.int p1), .val (.int p2), .val (.int p3), .val (.int v1), .val (.int v7), .val (.int v13), .val (.int v15), .val (.int v17), .val (.int v19), .val (.int v21), .val (.ref b24), .val (.ref b39), .val (.ref b44)] [(.int v7), (.int v1), (.int (2 : Int32)), (.ref b44)])) _
          refine XS.aload X62'.here hx rfl (hb hby at_194) rfl rfl ?_
          show Steps p.tables e below (T62.setTop (mkF m 196 #[.val (.int p0), .val (.int p1), .val (.int p2), .val (.int p3), .val (.int v1), .val (.int v7), .val (.int v13), .val (.int v15), .val (.int v17), .val (.int v19), .val (.int v21), .val (.ref b24), .val (.ref b39), .val (.ref b44)] [(.ref b24), (.int v7), (.int v1), (.int (2 : Int32)), (.ref b44)])) _
          refine XS.iloadN X62'.here hx rfl (hb hby at_196) rfl ?_
          show Steps p.tables e below (T62.setTop (mkF m 197 #[.val (.int p0), .val (.int p1), .val (.int p2), .val (.int p3), .val (.int v1), .val (.int v7), .val (.int v13), .val (.int v15), .val (.int v17), .val (.int v19), .val (.int v21), .val (.ref b24), .val (.ref b39), .val (.ref b44)] [(.int p2), (.ref b24), (.int v7), (.int v1), (.int (2 : Int32)), (.ref b44)])) _
          refine XS.iloadN X62'.here hx rfl (hb hby at_197) rfl ?_
          exact k
        obtain ⟨_, _, ⟨T70, L70, k70, n70⟩, -, X70, ⟨Lc70, hQ70, l70, y70, z70⟩, st70⟩ := Jvm.LawKit.callS X62' hx (y := (⟨"com/example/overlaid_graphs/overlaidgraphs/graph/BucketsStartsPinLaw", "at", "([IIII[III)Z"⟩ : MethodName)) hown (mvT hZ (hw _ (List.mem_of_getElem? (i := 10) rfl))) (mvT hZ (hw _ (List.mem_of_getElem? (i := 11) rfl))) (mvT hZ (hw _ (List.mem_of_getElem? (i := 4) rfl))) (mvT hZ (hw _ (List.mem_of_getElem? (i := 12) rfl))) (by decide) (backOf (W := 0) (own_rm3 l Z a0 hw [] b44 (2 : Int32) v1 v7 b24 p2 p3 v47 ([v15, v17, v19, v21] : List Int32) T44.heap n0 Zp50 Q44_0 f48 (own_h0_71 (p0 := p0) (p1 := p1) (p2 := p2) (p3 := p3) hv1 hv7 hv13 hv15 hv17 hv19 hv21 hv40 hv47 hv57 hv65 hc148_52 hc167_58 hc184_66) (own_h0_72 (p0 := p0) (p1 := p1) (p2 := p2) (p3 := p3) hv1 hv7 hv13 hv15 hv17 hv19 hv21 hv40 hv47 hv57 hv65 hc148_52 hc167_58 hc184_66)) hZ (hw _ (List.mem_of_getElem? (i := 12) rfl)) (hw _ (List.mem_of_getElem? (i := 4) rfl)) (by decide) (by decide)) (g := (mkF m 198 #[.val (.int p0), .val (.int p1), .val (.int p2), .val (.int p3), .val (.int v1), .val (.int v7), .val (.int v13), .val (.int v15), .val (.int v17), .val (.int v19), .val (.int v21), .val (.ref b24), .val (.ref b39), .val (.ref b44)] [(.int p3), (.int p2), (.ref b24), (.int v7), (.int v1), (.int (2 : Int32)), (.ref b44)])) rfl (by rw [hml]; rfl) (argsL := [(.ref b44), (.int (2 : Int32)), (.int v1), (.int v7), (.ref b24), (.int p2), (.int p3)]) (rest := []) (lenOf own_pd3 rfl) rfl (by show 2 * 0 + _ ≤ _; exact Nat.le_of_eq rfl) (hb hby at_198) (fun _ _ => ⟨rfl, e62, (by decide : 3 + 0 ≤ _), (by decide : 13 + 0 ≤ _)⟩)
        dsimp only [Pt.U, Pt.locs, Pt.cells, Pt.slots] at X70 l70 y70 z70 st70 hQ70
        subst y70 z70
        obtain ⟨rfl, rfl, e70⟩ := hQ70
        have X70' : Stand p l e room_1 s m #[(.int p0), (.int p1), (.int p2), (.int p3)] below meth c T70 L44 3 13 := by rw [show L70 = L44 from by rw [l70]; first | rfl | exact List.append_nil _] at X70; exact X70
        obtain ⟨v73, hv73⟩ : ∃ z : Int32, z = (own_F3 (2 : Int32) v1 v7 p2 p3 v47 ([v15, v17, v19, v21] : List Int32)) := ⟨_, rfl⟩
        rw [← hv73] at st70
        refine own_End.go (fun t k => st69 _ (st70 _ k)) ?_
        by_cases hc201_74 : v73 = (0 : Int32)
        · have st75 : ∀ t, Steps p.tables e below (T70.setTop (mkF m 243 #[.val (.int p0), .val (.int p1), .val (.int p2), .val (.int p3), .val (.int v1), .val (.int v7), .val (.int v13), .val (.int v15), .val (.int v17), .val (.int v19), .val (.int v21), .val (.ref b24), .val (.ref b39), .val (.ref b44)] [(.int (0 : Int32))])) t → Steps p.tables e below (T70.setTop (mkF m 201 #[.val (.int p0), .val (.int p1), .val (.int p2), .val (.int p3), .val (.int v1), .val (.int v7), .val (.int v13), .val (.int v15), .val (.int v17), .val (.int v19), .val (.int v21), .val (.ref b24), .val (.ref b39), .val (.ref b44)] [(.int v73)])) t := by
            intro t k
            show Steps p.tables e below (T70.setTop (mkF m 201 #[.val (.int p0), .val (.int p1), .val (.int p2), .val (.int p3), .val (.int v1), .val (.int v7), .val (.int v13), .val (.int v15), .val (.int v17), .val (.int v19), .val (.int v21), .val (.ref b24), .val (.ref b39), .val (.ref b44)] [(.int v73)])) _
            refine XS.ifYes X70'.here hx rfl (pc0 := 201) (pc' := 242) rfl (hb hby at_201) rfl ((if0 _ _).trans (teq hc201_74).1) (by decide) (by decide) ?_
            show Steps p.tables e below (T70.setTop (mkF m 242 #[.val (.int p0), .val (.int p1), .val (.int p2), .val (.int p3), .val (.int v1), .val (.int v7), .val (.int v13), .val (.int v15), .val (.int v17), .val (.int v19), .val (.int v21), .val (.ref b24), .val (.ref b39), .val (.ref b44)] [])) _
            refine XS.iconst X70'.here hx rfl (hb hby at_242) ?_
            exact k
          refine own_End.go (fun t k => st75 _ k) ?_
          exact own_leafN X70' hx Bd.notSynchronized (t := .boolean) Bd.returns (by simp) (hb hby at_243) ⟨congrArg (fun z => some (Value.int z)) (own_e0_76 hv1 hv7 hv13 hv15 hv17 hv19 hv21 hv40 hv47 hv57 hv65 hv73 hc148_52 hc167_58 hc184_66 hc201_74), N44⟩ (by decide) (by decide)
        · have st77 : ∀ t, Steps p.tables e below (T70.setTop (mkF m 215 #[.val (.int p0), .val (.int p1), .val (.int p2), .val (.int p3), .val (.int v1), .val (.int v7), .val (.int v13), .val (.int v15), .val (.int v17), .val (.int v19), .val (.int v21), .val (.ref b24), .val (.ref b39), .val (.ref b44)] [(.int p3), (.int p2), (.ref b24), (.int v7), (.int v1), (.int (3 : Int32)), (.ref b44)])) t → Steps p.tables e below (T70.setTop (mkF m 201 #[.val (.int p0), .val (.int p1), .val (.int p2), .val (.int p3), .val (.int v1), .val (.int v7), .val (.int v13), .val (.int v15), .val (.int v17), .val (.int v19), .val (.int v21), .val (.ref b24), .val (.ref b39), .val (.ref b44)] [(.int v73)])) t := by
            intro t k
            show Steps p.tables e below (T70.setTop (mkF m 201 #[.val (.int p0), .val (.int p1), .val (.int p2), .val (.int p3), .val (.int v1), .val (.int v7), .val (.int v13), .val (.int v15), .val (.int v17), .val (.int v19), .val (.int v21), .val (.ref b24), .val (.ref b39), .val (.ref b44)] [(.int v73)])) _
            refine XS.ifNo X70'.here hx rfl (hb hby at_201) rfl ((if0 _ _).trans (feq hc201_74).1) ?_
            show Steps p.tables e below (T70.setTop (mkF m 204 #[.val (.int p0), .val (.int p1), .val (.int p2), .val (.int p3), .val (.int v1), .val (.int v7), .val (.int v13), .val (.int v15), .val (.int v17), .val (.int v19), .val (.int v21), .val (.ref b24), .val (.ref b39), .val (.ref b44)] [])) _
            refine XS.aload X70'.here hx rfl (hb hby at_204) rfl rfl ?_
            show Steps p.tables e below (T70.setTop (mkF m 206 #[.val (.int p0), .val (.int p1), .val (.int p2), .val (.int p3), .val (.int v1), .val (.int v7), .val (.int v13), .val (.int v15), .val (.int v17), .val (.int v19), .val (.int v21), .val (.ref b24), .val (.ref b39), .val (.ref b44)] [(.ref b44)])) _
            refine XS.iconst X70'.here hx rfl (hb hby at_206) ?_
            show Steps p.tables e below (T70.setTop (mkF m 207 #[.val (.int p0), .val (.int p1), .val (.int p2), .val (.int p3), .val (.int v1), .val (.int v7), .val (.int v13), .val (.int v15), .val (.int v17), .val (.int v19), .val (.int v21), .val (.ref b24), .val (.ref b39), .val (.ref b44)] [(.int (3 : Int32)), (.ref b44)])) _
            refine XS.iload X70'.here hx rfl (hb hby at_207) rfl ?_
            show Steps p.tables e below (T70.setTop (mkF m 209 #[.val (.int p0), .val (.int p1), .val (.int p2), .val (.int p3), .val (.int v1), .val (.int v7), .val (.int v13), .val (.int v15), .val (.int v17), .val (.int v19), .val (.int v21), .val (.ref b24), .val (.ref b39), .val (.ref b44)] [(.int v1), (.int (3 : Int32)), (.ref b44)])) _
            refine XS.iload X70'.here hx rfl (hb hby at_209) rfl ?_
            show Steps p.tables e below (T70.setTop (mkF m 211 #[.val (.int p0), .val (.int p1), .val (.int p2), .val (.int p3), .val (.int v1), .val (.int v7), .val (.int v13), .val (.int v15), .val (.int v17), .val (.int v19), .val (.int v21), .val (.ref b24), .val (.ref b39), .val (.ref b44)] [(.int v7), (.int v1), (.int (3 : Int32)), (.ref b44)])) _
            refine XS.aload X70'.here hx rfl (hb hby at_211) rfl rfl ?_
            show Steps p.tables e below (T70.setTop (mkF m 213 #[.val (.int p0), .val (.int p1), .val (.int p2), .val (.int p3), .val (.int v1), .val (.int v7), .val (.int v13), .val (.int v15), .val (.int v17), .val (.int v19), .val (.int v21), .val (.ref b24), .val (.ref b39), .val (.ref b44)] [(.ref b24), (.int v7), (.int v1), (.int (3 : Int32)), (.ref b44)])) _
            refine XS.iloadN X70'.here hx rfl (hb hby at_213) rfl ?_
            show Steps p.tables e below (T70.setTop (mkF m 214 #[.val (.int p0), .val (.int p1), .val (.int p2), .val (.int p3), .val (.int v1), .val (.int v7), .val (.int v13), .val (.int v15), .val (.int v17), .val (.int v19), .val (.int v21), .val (.ref b24), .val (.ref b39), .val (.ref b44)] [(.int p2), (.ref b24), (.int v7), (.int v1), (.int (3 : Int32)), (.ref b44)])) _
            refine XS.iloadN X70'.here hx rfl (hb hby at_214) rfl ?_
            exact k
          obtain ⟨_, _, ⟨T78, L78, k78, n78⟩, -, X78, ⟨Lc78, hQ78, l78, y78, z78⟩, st78⟩ := Jvm.LawKit.callS X70' hx (y := (⟨"com/example/overlaid_graphs/overlaidgraphs/graph/BucketsStartsPinLaw", "at", "([IIII[III)Z"⟩ : MethodName)) hown (mvT hZ (hw _ (List.mem_of_getElem? (i := 10) rfl))) (mvT hZ (hw _ (List.mem_of_getElem? (i := 11) rfl))) (mvT hZ (hw _ (List.mem_of_getElem? (i := 4) rfl))) (mvT hZ (hw _ (List.mem_of_getElem? (i := 12) rfl))) (by decide) (backOf (W := 0) (own_rm3 l Z a0 hw [] b44 (3 : Int32) v1 v7 b24 p2 p3 v47 ([v15, v17, v19, v21] : List Int32) T44.heap n0 Zp50 Q44_0 f48 (own_h0_79 (p0 := p0) (p1 := p1) (p2 := p2) (p3 := p3) hv1 hv7 hv13 hv15 hv17 hv19 hv21 hv40 hv47 hv57 hv65 hv73 hc148_52 hc167_58 hc184_66 hc201_74) (own_h0_80 (p0 := p0) (p1 := p1) (p2 := p2) (p3 := p3) hv1 hv7 hv13 hv15 hv17 hv19 hv21 hv40 hv47 hv57 hv65 hv73 hc148_52 hc167_58 hc184_66 hc201_74)) hZ (hw _ (List.mem_of_getElem? (i := 12) rfl)) (hw _ (List.mem_of_getElem? (i := 4) rfl)) (by decide) (by decide)) (g := (mkF m 215 #[.val (.int p0), .val (.int p1), .val (.int p2), .val (.int p3), .val (.int v1), .val (.int v7), .val (.int v13), .val (.int v15), .val (.int v17), .val (.int v19), .val (.int v21), .val (.ref b24), .val (.ref b39), .val (.ref b44)] [(.int p3), (.int p2), (.ref b24), (.int v7), (.int v1), (.int (3 : Int32)), (.ref b44)])) rfl (by rw [hml]; rfl) (argsL := [(.ref b44), (.int (3 : Int32)), (.int v1), (.int v7), (.ref b24), (.int p2), (.int p3)]) (rest := []) (lenOf own_pd3 rfl) rfl (by show 2 * 0 + _ ≤ _; exact Nat.le_of_eq rfl) (hb hby at_215) (fun _ _ => ⟨rfl, e70, (by decide : 3 + 0 ≤ _), (by decide : 13 + 0 ≤ _)⟩)
          dsimp only [Pt.U, Pt.locs, Pt.cells, Pt.slots] at X78 l78 y78 z78 st78 hQ78
          subst y78 z78
          obtain ⟨rfl, rfl, e78⟩ := hQ78
          have X78' : Stand p l e room_1 s m #[(.int p0), (.int p1), (.int p2), (.int p3)] below meth c T78 L44 3 13 := by rw [show L78 = L44 from by rw [l78]; first | rfl | exact List.append_nil _] at X78; exact X78
          obtain ⟨v81, hv81⟩ : ∃ z : Int32, z = (own_F3 (3 : Int32) v1 v7 p2 p3 v47 ([v15, v17, v19, v21] : List Int32)) := ⟨_, rfl⟩
          rw [← hv81] at st78
          refine own_End.go (fun t k => st77 _ (st78 _ k)) ?_
          by_cases hc218_82 : v81 = (0 : Int32)
          · have st83 : ∀ t, Steps p.tables e below (T78.setTop (mkF m 243 #[.val (.int p0), .val (.int p1), .val (.int p2), .val (.int p3), .val (.int v1), .val (.int v7), .val (.int v13), .val (.int v15), .val (.int v17), .val (.int v19), .val (.int v21), .val (.ref b24), .val (.ref b39), .val (.ref b44)] [(.int (0 : Int32))])) t → Steps p.tables e below (T78.setTop (mkF m 218 #[.val (.int p0), .val (.int p1), .val (.int p2), .val (.int p3), .val (.int v1), .val (.int v7), .val (.int v13), .val (.int v15), .val (.int v17), .val (.int v19), .val (.int v21), .val (.ref b24), .val (.ref b39), .val (.ref b44)] [(.int v81)])) t := by
              intro t k
              show Steps p.tables e below (T78.setTop (mkF m 218 #[.val (.int p0), .val (.int p1), .val (.int p2), .val (.int p3), .val (.int v1), .val (.int v7), .val (.int v13), .val (.int v15), .val (.int v17), .val (.int v19), .val (.int v21), .val (.ref b24), .val (.ref b39), .val (.ref b44)] [(.int v81)])) _
              refine XS.ifYes X78'.here hx rfl (pc0 := 218) (pc' := 242) rfl (hb hby at_218) rfl ((if0 _ _).trans (teq hc218_82).1) (by decide) (by decide) ?_
              show Steps p.tables e below (T78.setTop (mkF m 242 #[.val (.int p0), .val (.int p1), .val (.int p2), .val (.int p3), .val (.int v1), .val (.int v7), .val (.int v13), .val (.int v15), .val (.int v17), .val (.int v19), .val (.int v21), .val (.ref b24), .val (.ref b39), .val (.ref b44)] [])) _
              refine XS.iconst X78'.here hx rfl (hb hby at_242) ?_
              exact k
            refine own_End.go (fun t k => st83 _ k) ?_
            exact own_leafN X78' hx Bd.notSynchronized (t := .boolean) Bd.returns (by simp) (hb hby at_243) ⟨congrArg (fun z => some (Value.int z)) (own_e0_84 hv1 hv7 hv13 hv15 hv17 hv19 hv21 hv40 hv47 hv57 hv65 hv73 hv81 hc148_52 hc167_58 hc184_66 hc201_74 hc218_82), N44⟩ (by decide) (by decide)
          · have st85 : ∀ t, Steps p.tables e below (T78.setTop (mkF m 232 #[.val (.int p0), .val (.int p1), .val (.int p2), .val (.int p3), .val (.int v1), .val (.int v7), .val (.int v13), .val (.int v15), .val (.int v17), .val (.int v19), .val (.int v21), .val (.ref b24), .val (.ref b39), .val (.ref b44)] [(.int p3), (.int p2), (.ref b24), (.int v7), (.int v1), (.int (4 : Int32)), (.ref b44)])) t → Steps p.tables e below (T78.setTop (mkF m 218 #[.val (.int p0), .val (.int p1), .val (.int p2), .val (.int p3), .val (.int v1), .val (.int v7), .val (.int v13), .val (.int v15), .val (.int v17), .val (.int v19), .val (.int v21), .val (.ref b24), .val (.ref b39), .val (.ref b44)] [(.int v81)])) t := by
              intro t k
              show Steps p.tables e below (T78.setTop (mkF m 218 #[.val (.int p0), .val (.int p1), .val (.int p2), .val (.int p3), .val (.int v1), .val (.int v7), .val (.int v13), .val (.int v15), .val (.int v17), .val (.int v19), .val (.int v21), .val (.ref b24), .val (.ref b39), .val (.ref b44)] [(.int v81)])) _
              refine XS.ifNo X78'.here hx rfl (hb hby at_218) rfl ((if0 _ _).trans (feq hc218_82).1) ?_
              show Steps p.tables e below (T78.setTop (mkF m 221 #[.val (.int p0), .val (.int p1), .val (.int p2), .val (.int p3), .val (.int v1), .val (.int v7), .val (.int v13), .val (.int v15), .val (.int v17), .val (.int v19), .val (.int v21), .val (.ref b24), .val (.ref b39), .val (.ref b44)] [])) _
              refine XS.aload X78'.here hx rfl (hb hby at_221) rfl rfl ?_
              show Steps p.tables e below (T78.setTop (mkF m 223 #[.val (.int p0), .val (.int p1), .val (.int p2), .val (.int p3), .val (.int v1), .val (.int v7), .val (.int v13), .val (.int v15), .val (.int v17), .val (.int v19), .val (.int v21), .val (.ref b24), .val (.ref b39), .val (.ref b44)] [(.ref b44)])) _
              refine XS.iconst X78'.here hx rfl (hb hby at_223) ?_
              show Steps p.tables e below (T78.setTop (mkF m 224 #[.val (.int p0), .val (.int p1), .val (.int p2), .val (.int p3), .val (.int v1), .val (.int v7), .val (.int v13), .val (.int v15), .val (.int v17), .val (.int v19), .val (.int v21), .val (.ref b24), .val (.ref b39), .val (.ref b44)] [(.int (4 : Int32)), (.ref b44)])) _
              refine XS.iload X78'.here hx rfl (hb hby at_224) rfl ?_
              show Steps p.tables e below (T78.setTop (mkF m 226 #[.val (.int p0), .val (.int p1), .val (.int p2), .val (.int p3), .val (.int v1), .val (.int v7), .val (.int v13), .val (.int v15), .val (.int v17), .val (.int v19), .val (.int v21), .val (.ref b24), .val (.ref b39), .val (.ref b44)] [(.int v1), (.int (4 : Int32)), (.ref b44)])) _
              refine XS.iload X78'.here hx rfl (hb hby at_226) rfl ?_
              show Steps p.tables e below (T78.setTop (mkF m 228 #[.val (.int p0), .val (.int p1), .val (.int p2), .val (.int p3), .val (.int v1), .val (.int v7), .val (.int v13), .val (.int v15), .val (.int v17), .val (.int v19), .val (.int v21), .val (.ref b24), .val (.ref b39), .val (.ref b44)] [(.int v7), (.int v1), (.int (4 : Int32)), (.ref b44)])) _
              refine XS.aload X78'.here hx rfl (hb hby at_228) rfl rfl ?_
              show Steps p.tables e below (T78.setTop (mkF m 230 #[.val (.int p0), .val (.int p1), .val (.int p2), .val (.int p3), .val (.int v1), .val (.int v7), .val (.int v13), .val (.int v15), .val (.int v17), .val (.int v19), .val (.int v21), .val (.ref b24), .val (.ref b39), .val (.ref b44)] [(.ref b24), (.int v7), (.int v1), (.int (4 : Int32)), (.ref b44)])) _
              refine XS.iloadN X78'.here hx rfl (hb hby at_230) rfl ?_
              show Steps p.tables e below (T78.setTop (mkF m 231 #[.val (.int p0), .val (.int p1), .val (.int p2), .val (.int p3), .val (.int v1), .val (.int v7), .val (.int v13), .val (.int v15), .val (.int v17), .val (.int v19), .val (.int v21), .val (.ref b24), .val (.ref b39), .val (.ref b44)] [(.int p2), (.ref b24), (.int v7), (.int v1), (.int (4 : Int32)), (.ref b44)])) _
              refine XS.iloadN X78'.here hx rfl (hb hby at_231) rfl ?_
              exact k
            obtain ⟨_, _, ⟨T86, L86, k86, n86⟩, -, X86, ⟨Lc86, hQ86, l86, y86, z86⟩, st86⟩ := Jvm.LawKit.callS X78' hx (y := (⟨"com/example/overlaid_graphs/overlaidgraphs/graph/BucketsStartsPinLaw", "at", "([IIII[III)Z"⟩ : MethodName)) hown (mvT hZ (hw _ (List.mem_of_getElem? (i := 10) rfl))) (mvT hZ (hw _ (List.mem_of_getElem? (i := 11) rfl))) (mvT hZ (hw _ (List.mem_of_getElem? (i := 4) rfl))) (mvT hZ (hw _ (List.mem_of_getElem? (i := 12) rfl))) (by decide) (backOf (W := 0) (own_rm3 l Z a0 hw [] b44 (4 : Int32) v1 v7 b24 p2 p3 v47 ([v15, v17, v19, v21] : List Int32) T44.heap n0 Zp50 Q44_0 f48 (own_h0_87 (p0 := p0) (p1 := p1) (p2 := p2) (p3 := p3) hv1 hv7 hv13 hv15 hv17 hv19 hv21 hv40 hv47 hv57 hv65 hv73 hv81 hc148_52 hc167_58 hc184_66 hc201_74 hc218_82) (own_h0_88 (p0 := p0) (p1 := p1) (p2 := p2) (p3 := p3) hv1 hv7 hv13 hv15 hv17 hv19 hv21 hv40 hv47 hv57 hv65 hv73 hv81 hc148_52 hc167_58 hc184_66 hc201_74 hc218_82)) hZ (hw _ (List.mem_of_getElem? (i := 12) rfl)) (hw _ (List.mem_of_getElem? (i := 4) rfl)) (by decide) (by decide)) (g := (mkF m 232 #[.val (.int p0), .val (.int p1), .val (.int p2), .val (.int p3), .val (.int v1), .val (.int v7), .val (.int v13), .val (.int v15), .val (.int v17), .val (.int v19), .val (.int v21), .val (.ref b24), .val (.ref b39), .val (.ref b44)] [(.int p3), (.int p2), (.ref b24), (.int v7), (.int v1), (.int (4 : Int32)), (.ref b44)])) rfl (by rw [hml]; rfl) (argsL := [(.ref b44), (.int (4 : Int32)), (.int v1), (.int v7), (.ref b24), (.int p2), (.int p3)]) (rest := []) (lenOf own_pd3 rfl) rfl (by show 2 * 0 + _ ≤ _; exact Nat.le_of_eq rfl) (hb hby at_232) (fun _ _ => ⟨rfl, e78, (by decide : 3 + 0 ≤ _), (by decide : 13 + 0 ≤ _)⟩)
            dsimp only [Pt.U, Pt.locs, Pt.cells, Pt.slots] at X86 l86 y86 z86 st86 hQ86
            subst y86 z86
            obtain ⟨rfl, rfl, e86⟩ := hQ86
            have X86' : Stand p l e room_1 s m #[(.int p0), (.int p1), (.int p2), (.int p3)] below meth c T86 L44 3 13 := by rw [show L86 = L44 from by rw [l86]; first | rfl | exact List.append_nil _] at X86; exact X86
            obtain ⟨v89, hv89⟩ : ∃ z : Int32, z = (own_F3 (4 : Int32) v1 v7 p2 p3 v47 ([v15, v17, v19, v21] : List Int32)) := ⟨_, rfl⟩
            rw [← hv89] at st86
            refine own_End.go (fun t k => st85 _ (st86 _ k)) ?_
            by_cases hc235_90 : v89 = (0 : Int32)
            · have st91 : ∀ t, Steps p.tables e below (T86.setTop (mkF m 243 #[.val (.int p0), .val (.int p1), .val (.int p2), .val (.int p3), .val (.int v1), .val (.int v7), .val (.int v13), .val (.int v15), .val (.int v17), .val (.int v19), .val (.int v21), .val (.ref b24), .val (.ref b39), .val (.ref b44)] [(.int (0 : Int32))])) t → Steps p.tables e below (T86.setTop (mkF m 235 #[.val (.int p0), .val (.int p1), .val (.int p2), .val (.int p3), .val (.int v1), .val (.int v7), .val (.int v13), .val (.int v15), .val (.int v17), .val (.int v19), .val (.int v21), .val (.ref b24), .val (.ref b39), .val (.ref b44)] [(.int v89)])) t := by
                intro t k
                show Steps p.tables e below (T86.setTop (mkF m 235 #[.val (.int p0), .val (.int p1), .val (.int p2), .val (.int p3), .val (.int v1), .val (.int v7), .val (.int v13), .val (.int v15), .val (.int v17), .val (.int v19), .val (.int v21), .val (.ref b24), .val (.ref b39), .val (.ref b44)] [(.int v89)])) _
                refine XS.ifYes X86'.here hx rfl (pc0 := 235) (pc' := 242) rfl (hb hby at_235) rfl ((if0 _ _).trans (teq hc235_90).1) (by decide) (by decide) ?_
                show Steps p.tables e below (T86.setTop (mkF m 242 #[.val (.int p0), .val (.int p1), .val (.int p2), .val (.int p3), .val (.int v1), .val (.int v7), .val (.int v13), .val (.int v15), .val (.int v17), .val (.int v19), .val (.int v21), .val (.ref b24), .val (.ref b39), .val (.ref b44)] [])) _
                refine XS.iconst X86'.here hx rfl (hb hby at_242) ?_
                exact k
              refine own_End.go (fun t k => st91 _ k) ?_
              exact own_leafN X86' hx Bd.notSynchronized (t := .boolean) Bd.returns (by simp) (hb hby at_243) ⟨congrArg (fun z => some (Value.int z)) (own_e0_92 hv1 hv7 hv13 hv15 hv17 hv19 hv21 hv40 hv47 hv57 hv65 hv73 hv81 hv89 hc148_52 hc167_58 hc184_66 hc201_74 hc218_82 hc235_90), N44⟩ (by decide) (by decide)
            · have st93 : ∀ t, Steps p.tables e below (T86.setTop (mkF m 243 #[.val (.int p0), .val (.int p1), .val (.int p2), .val (.int p3), .val (.int v1), .val (.int v7), .val (.int v13), .val (.int v15), .val (.int v17), .val (.int v19), .val (.int v21), .val (.ref b24), .val (.ref b39), .val (.ref b44)] [(.int (1 : Int32))])) t → Steps p.tables e below (T86.setTop (mkF m 235 #[.val (.int p0), .val (.int p1), .val (.int p2), .val (.int p3), .val (.int v1), .val (.int v7), .val (.int v13), .val (.int v15), .val (.int v17), .val (.int v19), .val (.int v21), .val (.ref b24), .val (.ref b39), .val (.ref b44)] [(.int v89)])) t := by
                intro t k
                show Steps p.tables e below (T86.setTop (mkF m 235 #[.val (.int p0), .val (.int p1), .val (.int p2), .val (.int p3), .val (.int v1), .val (.int v7), .val (.int v13), .val (.int v15), .val (.int v17), .val (.int v19), .val (.int v21), .val (.ref b24), .val (.ref b39), .val (.ref b44)] [(.int v89)])) _
                refine XS.ifNo X86'.here hx rfl (hb hby at_235) rfl ((if0 _ _).trans (feq hc235_90).1) ?_
                show Steps p.tables e below (T86.setTop (mkF m 238 #[.val (.int p0), .val (.int p1), .val (.int p2), .val (.int p3), .val (.int v1), .val (.int v7), .val (.int v13), .val (.int v15), .val (.int v17), .val (.int v19), .val (.int v21), .val (.ref b24), .val (.ref b39), .val (.ref b44)] [])) _
                refine XS.iconst X86'.here hx rfl (hb hby at_238) ?_
                show Steps p.tables e below (T86.setTop (mkF m 239 #[.val (.int p0), .val (.int p1), .val (.int p2), .val (.int p3), .val (.int v1), .val (.int v7), .val (.int v13), .val (.int v15), .val (.int v17), .val (.int v19), .val (.int v21), .val (.ref b24), .val (.ref b39), .val (.ref b44)] [(.int (1 : Int32))])) _
                refine XS.goto X86'.here hx rfl (pc0 := 239) (pc' := 243) rfl (hb hby at_239) (by decide) (by decide) ?_
                exact k
              refine own_End.go (fun t k => st93 _ k) ?_
              exact own_leafN X86' hx Bd.notSynchronized (t := .boolean) Bd.returns (by simp) (hb hby at_243) ⟨congrArg (fun z => some (Value.int z)) (own_e0_94 hv1 hv7 hv13 hv15 hv17 hv19 hv21 hv40 hv47 hv57 hv65 hv73 hv81 hv89 hc148_52 hc167_58 hc184_66 hc201_74 hc218_82 hc235_90), N44⟩ (by decide) (by decide)
  · have st95 : ∀ t, Steps p.tables e below (T44.setTop (mkF m 152 #[.val (.int p0), .val (.int p1), .val (.int p2), .val (.int p3), .val (.int v1), .val (.int v7), .val (.int v13), .val (.int v15), .val (.int v17), .val (.int v19), .val (.int v21), .val (.ref b24), .val (.ref b39), .val (.ref b44)] [(.int (0 : Int32))])) t → Steps p.tables e below (T44.setTop (mkF m 148 #[.val (.int p0), .val (.int p1), .val (.int p2), .val (.int p3), .val (.int v1), .val (.int v7), .val (.int v13), .val (.int v15), .val (.int v17), .val (.int v19), .val (.int v21), .val (.ref b24), .val (.ref b39), .val (.ref b44)] [(.int (v1 + (1 : Int32))), (.int (Int32.ofNat (List.length v47)))])) t := by
      intro t k
      show Steps p.tables e below (T44.setTop (mkF m 148 #[.val (.int p0), .val (.int p1), .val (.int p2), .val (.int p3), .val (.int v1), .val (.int v7), .val (.int v13), .val (.int v15), .val (.int v17), .val (.int v19), .val (.int v21), .val (.ref b24), .val (.ref b39), .val (.ref b44)] [(.int (v1 + (1 : Int32))), (.int (Int32.ofNat (List.length v47)))])) _
      refine XS.icmpNo X44'.here hx rfl (hb hby at_148) rfl (feq hc148_52).1 ?_
      show Steps p.tables e below (T44.setTop (mkF m 151 #[.val (.int p0), .val (.int p1), .val (.int p2), .val (.int p3), .val (.int v1), .val (.int v7), .val (.int v13), .val (.int v15), .val (.int v17), .val (.int v19), .val (.int v21), .val (.ref b24), .val (.ref b39), .val (.ref b44)] [])) _
      refine XS.iconst X44'.here hx rfl (hb hby at_151) ?_
      exact k
    refine own_End.go (fun t k => st95 _ k) ?_
    exact own_leafN X44' hx Bd.notSynchronized (t := .boolean) Bd.returns (by simp) (hb hby at_152) ⟨congrArg (fun z => some (Value.int z)) (own_e0_96 hv1 hv7 hv13 hv15 hv17 hv19 hv21 hv40 hv47 hc148_52), N44⟩ (by decide) (by decide)
def own_st (w : Int32) (M : List Int32) (x : Int32) : List Int32 := List.set M ((x + (1 : Int32))).toInt.toNat ((List.getD M ((x + (1 : Int32))).toInt.toNat 0) + w)
theorem own_fold {p0 h w v5 : Int32} {K : List Int32} (hv : v5.toInt = (K.length : Int)) : ∀ (fuel idx : Nat) (i : Int32) (M : List Int32), i.toInt = (idx : Int) → idx ≤ K.length → K.length - idx < fuel → own_P2_18_0 p0 h w K v5 fuel i M = own_P2_52_0 p0 h w K v5 v5 6 0 ((K.drop idx).foldl (own_st w) M) := by
  intro fuel
  induction fuel with
  | zero => intro idx i M _ _ h; omega
  | succ fuel ih =>
    intro idx i M h1 h2 h3
    by_cases c : i < v5
    · have c' := c
      rw [Int32.lt_iff_toInt_lt] at c'
      have hi : idx < K.length := by omega
      have e := own_succ (x := i) rfl (by have := rng32 v5; omega)
      simp only [own_P2_18_0, if_pos c]
      rw [ih (idx + 1) _ _ (by rw [e, h1]; omega) (by omega) (by omega)]
      rw [List.drop_eq_getElem_cons hi, List.foldl_cons]
      have g : List.getD K i.toInt.toNat 0 = K[idx] := by
        rw [h1, Int.toNat_natCast, List.getD_eq_getElem?_getD, List.getElem?_eq_getElem hi]; rfl
      rw [g]
      rfl
    · have c' := c
      rw [Int32.lt_iff_toInt_lt] at c'
      have hi : idx = K.length := by omega
      have e : i = v5 := Int32.toInt_inj.mp (by omega)
      simp only [own_P2_18_0, if_neg c]
      rw [hi, List.drop_length, List.foldl_nil, e]
theorem own_up {p0 h w v5 i : Int32} {K : List Int32} (fuel : Nat) {j j' : Int32} (M : List Int32) (hc : j < p0) (hj : j + 1 = j') : own_P2_52_0 p0 h w K v5 i (fuel + 1) j M = own_P2_52_0 p0 h w K v5 i fuel j' (List.set M j'.toInt.toNat ((List.getD M j'.toInt.toNat 0) + ((List.getD M (j).toInt.toNat 0) + h))) := by
  subst hj
  simp only [own_P2_52_0, if_pos hc]
theorem own_end {p0 h w v5 i : Int32} {K : List Int32} (fuel : Nat) {j : Int32} (M : List Int32) (hc : ¬ j < p0) : own_P2_52_0 p0 h w K v5 i (fuel + 1) j M = M := by
  simp only [own_P2_52_0, if_neg hc]
def own_d (x : Int32) (t : Nat) : Int32 := if (x + (1 : Int32)).toInt.toNat = t then 1 else 0
def own_S (K : List Int32) (t : Nat) : Int32 := K.foldr (fun x s => own_d x t + s) 0
def own_C (K : List Int32) (k : Int32) : Int32 := K.foldr (fun x s => (if x < k then 1 else 0) + s) 0
theorem own_cases {x : Int32} (h : 0 ≤ x.toInt ∧ x.toInt < 4) : x = 0 ∨ x = 1 ∨ x = 2 ∨ x = 3 := by
  rcases (by omega : x.toInt = 0 ∨ x.toInt = 1 ∨ x.toInt = 2 ∨ x.toInt = 3) with q | q | q | q
  · exact Or.inl (Int32.toInt_inj.mp q)
  · exact Or.inr (Or.inl (Int32.toInt_inj.mp q))
  · exact Or.inr (Or.inr (Or.inl (Int32.toInt_inj.mp q)))
  · exact Or.inr (Or.inr (Or.inr (Int32.toInt_inj.mp q)))
theorem own_ind1 {x : Int32} (h : 0 ≤ x.toInt ∧ x.toInt < 4) : (if x < (1 : Int32) then (1 : Int32) else 0) = own_d x 1 := by
  rcases own_cases h with rfl | rfl | rfl | rfl <;> decide
theorem own_CS1 : ∀ (K : List Int32), (∀ x ∈ K, 0 ≤ x.toInt ∧ x.toInt < 4) → own_C K 1 = own_S K 1
  | [], _ => by decide
  | x :: K, h => by
    have i := own_ind1 (h x (List.mem_cons_self ..))
    have r := own_CS1 K (fun y hy => h y (List.mem_cons_of_mem _ hy))
    show (if x < (1 : Int32) then (1 : Int32) else 0) + own_C K 1 = (own_d x 1 + own_S K 1)
    rw [i, r]
    all_goals grind
theorem own_ind2 {x : Int32} (h : 0 ≤ x.toInt ∧ x.toInt < 4) : (if x < (2 : Int32) then (1 : Int32) else 0) = own_d x 1 + own_d x 2 := by
  rcases own_cases h with rfl | rfl | rfl | rfl <;> decide
theorem own_CS2 : ∀ (K : List Int32), (∀ x ∈ K, 0 ≤ x.toInt ∧ x.toInt < 4) → own_C K 2 = own_S K 1 + own_S K 2
  | [], _ => by decide
  | x :: K, h => by
    have i := own_ind2 (h x (List.mem_cons_self ..))
    have r := own_CS2 K (fun y hy => h y (List.mem_cons_of_mem _ hy))
    show (if x < (2 : Int32) then (1 : Int32) else 0) + own_C K 2 = (own_d x 1 + own_S K 1) + (own_d x 2 + own_S K 2)
    rw [i, r]
    all_goals grind
theorem own_ind3 {x : Int32} (h : 0 ≤ x.toInt ∧ x.toInt < 4) : (if x < (3 : Int32) then (1 : Int32) else 0) = own_d x 1 + own_d x 2 + own_d x 3 := by
  rcases own_cases h with rfl | rfl | rfl | rfl <;> decide
theorem own_CS3 : ∀ (K : List Int32), (∀ x ∈ K, 0 ≤ x.toInt ∧ x.toInt < 4) → own_C K 3 = own_S K 1 + own_S K 2 + own_S K 3
  | [], _ => by decide
  | x :: K, h => by
    have i := own_ind3 (h x (List.mem_cons_self ..))
    have r := own_CS3 K (fun y hy => h y (List.mem_cons_of_mem _ hy))
    show (if x < (3 : Int32) then (1 : Int32) else 0) + own_C K 3 = (own_d x 1 + own_S K 1) + (own_d x 2 + own_S K 2) + (own_d x 3 + own_S K 3)
    rw [i, r]
    all_goals grind
theorem own_ind4 {x : Int32} (h : 0 ≤ x.toInt ∧ x.toInt < 4) : (if x < (4 : Int32) then (1 : Int32) else 0) = own_d x 1 + own_d x 2 + own_d x 3 + own_d x 4 := by
  rcases own_cases h with rfl | rfl | rfl | rfl <;> decide
theorem own_CS4 : ∀ (K : List Int32), (∀ x ∈ K, 0 ≤ x.toInt ∧ x.toInt < 4) → own_C K 4 = own_S K 1 + own_S K 2 + own_S K 3 + own_S K 4
  | [], _ => by decide
  | x :: K, h => by
    have i := own_ind4 (h x (List.mem_cons_self ..))
    have r := own_CS4 K (fun y hy => h y (List.mem_cons_of_mem _ hy))
    show (if x < (4 : Int32) then (1 : Int32) else 0) + own_C K 4 = (own_d x 1 + own_S K 1) + (own_d x 2 + own_S K 2) + (own_d x 3 + own_S K 3) + (own_d x 4 + own_S K 4)
    rw [i, r]
    all_goals grind
theorem own_CS0 : ∀ (K : List Int32), (∀ x ∈ K, 0 ≤ x.toInt ∧ x.toInt < 4) → own_C K 0 = 0
  | [], _ => by decide
  | x :: K, h => by
    have r := own_CS0 K (fun y hy => h y (List.mem_cons_of_mem _ hy))
    show (if x < (0 : Int32) then (1 : Int32) else 0) + own_C K 0 = 0
    rw [r, if_neg (by rw [Int32.lt_iff_toInt_lt]; have := h x (List.mem_cons_self ..); have := own_z0; omega)]
    rfl
theorem own_pre0 {h w v5 i : Int32} {K : List Int32} (m0 : Int32) : own_P2_52_0 0 h w K v5 i 6 0 [m0] = [m0] := by
  rw [own_end 5 [m0] (by decide)]
theorem own_R0' {h w : Int32} {K : List Int32} (hK : ∀ x ∈ K, 0 ≤ x.toInt ∧ x.toInt < 0) (hl : K.length < 2147483648) : own_G2_0 0 h w K = [0] := by
  have e := own_ofN (v := Int32.ofNat (List.length K)) rfl hl
  unfold own_G2_0
  simp only []
  rw [own_fold e (K.length + 1) 0 0 _ own_z0 (Nat.zero_le _) (by omega)]
  show own_P2_52_0 0 h w K _ _ 6 0 (List.foldl (own_st w) [0] K) = _
  rw [(show List.foldl (own_st w) [0] K = [0] from by cases K with | nil => rfl | cons x K => exact absurd (hK x (List.mem_cons_self ..)) (by omega)), own_pre0]
theorem own_set1 (w x m0 m1 : Int32) (h : 0 ≤ x.toInt ∧ x.toInt < 1) : own_st w [m0, m1] x = [m0, m1 + w * own_d x 1] := by
  rcases (by omega : x.toInt = 0) with q
  · obtain rfl : x = 0 := Int32.toInt_inj.mp q
    have e1 : ∀ z : Int32, z + w * 1 = z + w := fun z => by rw [Int32.mul_one]
    have e0 : ∀ z : Int32, z + w * 0 = z := fun z => by rw [Int32.mul_zero, Int32.add_zero]
    show [m0, m1 + w] = [m0, m1 + w * 1]
    rw [e1]
theorem own_fo1 (w : Int32) : ∀ (K : List Int32) (m0 m1 : Int32), (∀ x ∈ K, 0 ≤ x.toInt ∧ x.toInt < 1) → K.foldl (own_st w) [m0, m1] = [m0, m1 + w * own_S K 1]
  | [], m0, m1, _ => by
    have e0 : ∀ z : Int32, z + w * 0 = z := fun z => by rw [Int32.mul_zero, Int32.add_zero]
    show [m0, m1] = [m0, m1 + w * 0]
    rw [e0]
  | x :: K, m0, m1, h => by
    rw [List.foldl_cons, own_set1 w x m0 m1 (h x (List.mem_cons_self ..)), own_fo1 w K m0 (m1 + w * own_d x 1) (fun y hy => h y (List.mem_cons_of_mem _ hy))]
    have e : ∀ (z : Int32) (t : Nat), z + w * own_d x t + w * own_S K t = z + w * own_S (x :: K) t := fun z t => by
      show _ = z + w * (own_d x t + own_S K t)
      grind
    rw [e]
theorem own_pre1 {h w v5 i : Int32} {K : List Int32} (m0 m1 : Int32) : own_P2_52_0 1 h w K v5 i 6 0 [m0, m1] = [m0, (m1 + (m0 + h))] := by
  rw [own_up 5 (j := 0) (j' := 1) [m0, m1] (by decide) (by decide)]
  show own_P2_52_0 1 h w K v5 i 5 1 [m0, (m1 + (m0 + h))] = _
  rw [own_end 4 [m0, (m1 + (m0 + h))] (by decide)]
theorem own_R1' {h w : Int32} {K : List Int32} (hK : ∀ x ∈ K, 0 ≤ x.toInt ∧ x.toInt < 1) (hl : K.length < 2147483648) : own_G2_0 1 h w K = [0, ((0 + w * own_S K 1) + (0 + h))] := by
  have e := own_ofN (v := Int32.ofNat (List.length K)) rfl hl
  unfold own_G2_0
  simp only []
  rw [own_fold e (K.length + 1) 0 0 _ own_z0 (Nat.zero_le _) (by omega)]
  show own_P2_52_0 1 h w K _ _ 6 0 (List.foldl (own_st w) [0, 0] K) = _
  rw [own_fo1 w K 0 0 hK, own_pre1]
theorem own_set2 (w x m0 m1 m2 : Int32) (h : 0 ≤ x.toInt ∧ x.toInt < 2) : own_st w [m0, m1, m2] x = [m0, m1 + w * own_d x 1, m2 + w * own_d x 2] := by
  rcases (by omega : x.toInt = 0 ∨ x.toInt = 1) with q | q
  · obtain rfl : x = 0 := Int32.toInt_inj.mp q
    have e1 : ∀ z : Int32, z + w * 1 = z + w := fun z => by rw [Int32.mul_one]
    have e0 : ∀ z : Int32, z + w * 0 = z := fun z => by rw [Int32.mul_zero, Int32.add_zero]
    show [m0, m1 + w, m2] = [m0, m1 + w * 1, m2 + w * 0]
    rw [e1, e0]
  · obtain rfl : x = 1 := Int32.toInt_inj.mp q
    have e1 : ∀ z : Int32, z + w * 1 = z + w := fun z => by rw [Int32.mul_one]
    have e0 : ∀ z : Int32, z + w * 0 = z := fun z => by rw [Int32.mul_zero, Int32.add_zero]
    show [m0, m1, m2 + w] = [m0, m1 + w * 0, m2 + w * 1]
    rw [e0, e1]
theorem own_fo2 (w : Int32) : ∀ (K : List Int32) (m0 m1 m2 : Int32), (∀ x ∈ K, 0 ≤ x.toInt ∧ x.toInt < 2) → K.foldl (own_st w) [m0, m1, m2] = [m0, m1 + w * own_S K 1, m2 + w * own_S K 2]
  | [], m0, m1, m2, _ => by
    have e0 : ∀ z : Int32, z + w * 0 = z := fun z => by rw [Int32.mul_zero, Int32.add_zero]
    show [m0, m1, m2] = [m0, m1 + w * 0, m2 + w * 0]
    rw [e0, e0]
  | x :: K, m0, m1, m2, h => by
    rw [List.foldl_cons, own_set2 w x m0 m1 m2 (h x (List.mem_cons_self ..)), own_fo2 w K m0 (m1 + w * own_d x 1) (m2 + w * own_d x 2) (fun y hy => h y (List.mem_cons_of_mem _ hy))]
    have e : ∀ (z : Int32) (t : Nat), z + w * own_d x t + w * own_S K t = z + w * own_S (x :: K) t := fun z t => by
      show _ = z + w * (own_d x t + own_S K t)
      grind
    rw [e, e]
theorem own_pre2 {h w v5 i : Int32} {K : List Int32} (m0 m1 m2 : Int32) : own_P2_52_0 2 h w K v5 i 6 0 [m0, m1, m2] = [m0, (m1 + (m0 + h)), (m2 + ((m1 + (m0 + h)) + h))] := by
  rw [own_up 5 (j := 0) (j' := 1) [m0, m1, m2] (by decide) (by decide)]
  show own_P2_52_0 2 h w K v5 i 5 1 [m0, (m1 + (m0 + h)), m2] = _
  rw [own_up 4 (j := 1) (j' := 2) [m0, (m1 + (m0 + h)), m2] (by decide) (by decide)]
  show own_P2_52_0 2 h w K v5 i 4 2 [m0, (m1 + (m0 + h)), (m2 + ((m1 + (m0 + h)) + h))] = _
  rw [own_end 3 [m0, (m1 + (m0 + h)), (m2 + ((m1 + (m0 + h)) + h))] (by decide)]
theorem own_R2' {h w : Int32} {K : List Int32} (hK : ∀ x ∈ K, 0 ≤ x.toInt ∧ x.toInt < 2) (hl : K.length < 2147483648) : own_G2_0 2 h w K = [0, ((0 + w * own_S K 1) + (0 + h)), ((0 + w * own_S K 2) + (((0 + w * own_S K 1) + (0 + h)) + h))] := by
  have e := own_ofN (v := Int32.ofNat (List.length K)) rfl hl
  unfold own_G2_0
  simp only []
  rw [own_fold e (K.length + 1) 0 0 _ own_z0 (Nat.zero_le _) (by omega)]
  show own_P2_52_0 2 h w K _ _ 6 0 (List.foldl (own_st w) [0, 0, 0] K) = _
  rw [own_fo2 w K 0 0 0 hK, own_pre2]
theorem own_set3 (w x m0 m1 m2 m3 : Int32) (h : 0 ≤ x.toInt ∧ x.toInt < 3) : own_st w [m0, m1, m2, m3] x = [m0, m1 + w * own_d x 1, m2 + w * own_d x 2, m3 + w * own_d x 3] := by
  rcases (by omega : x.toInt = 0 ∨ x.toInt = 1 ∨ x.toInt = 2) with q | q | q
  · obtain rfl : x = 0 := Int32.toInt_inj.mp q
    have e1 : ∀ z : Int32, z + w * 1 = z + w := fun z => by rw [Int32.mul_one]
    have e0 : ∀ z : Int32, z + w * 0 = z := fun z => by rw [Int32.mul_zero, Int32.add_zero]
    show [m0, m1 + w, m2, m3] = [m0, m1 + w * 1, m2 + w * 0, m3 + w * 0]
    rw [e1, e0, e0]
  · obtain rfl : x = 1 := Int32.toInt_inj.mp q
    have e1 : ∀ z : Int32, z + w * 1 = z + w := fun z => by rw [Int32.mul_one]
    have e0 : ∀ z : Int32, z + w * 0 = z := fun z => by rw [Int32.mul_zero, Int32.add_zero]
    show [m0, m1, m2 + w, m3] = [m0, m1 + w * 0, m2 + w * 1, m3 + w * 0]
    rw [e0, e1, e0]
  · obtain rfl : x = 2 := Int32.toInt_inj.mp q
    have e1 : ∀ z : Int32, z + w * 1 = z + w := fun z => by rw [Int32.mul_one]
    have e0 : ∀ z : Int32, z + w * 0 = z := fun z => by rw [Int32.mul_zero, Int32.add_zero]
    show [m0, m1, m2, m3 + w] = [m0, m1 + w * 0, m2 + w * 0, m3 + w * 1]
    rw [e0, e0, e1]
theorem own_fo3 (w : Int32) : ∀ (K : List Int32) (m0 m1 m2 m3 : Int32), (∀ x ∈ K, 0 ≤ x.toInt ∧ x.toInt < 3) → K.foldl (own_st w) [m0, m1, m2, m3] = [m0, m1 + w * own_S K 1, m2 + w * own_S K 2, m3 + w * own_S K 3]
  | [], m0, m1, m2, m3, _ => by
    have e0 : ∀ z : Int32, z + w * 0 = z := fun z => by rw [Int32.mul_zero, Int32.add_zero]
    show [m0, m1, m2, m3] = [m0, m1 + w * 0, m2 + w * 0, m3 + w * 0]
    rw [e0, e0, e0]
  | x :: K, m0, m1, m2, m3, h => by
    rw [List.foldl_cons, own_set3 w x m0 m1 m2 m3 (h x (List.mem_cons_self ..)), own_fo3 w K m0 (m1 + w * own_d x 1) (m2 + w * own_d x 2) (m3 + w * own_d x 3) (fun y hy => h y (List.mem_cons_of_mem _ hy))]
    have e : ∀ (z : Int32) (t : Nat), z + w * own_d x t + w * own_S K t = z + w * own_S (x :: K) t := fun z t => by
      show _ = z + w * (own_d x t + own_S K t)
      grind
    rw [e, e, e]
theorem own_pre3 {h w v5 i : Int32} {K : List Int32} (m0 m1 m2 m3 : Int32) : own_P2_52_0 3 h w K v5 i 6 0 [m0, m1, m2, m3] = [m0, (m1 + (m0 + h)), (m2 + ((m1 + (m0 + h)) + h)), (m3 + ((m2 + ((m1 + (m0 + h)) + h)) + h))] := by
  rw [own_up 5 (j := 0) (j' := 1) [m0, m1, m2, m3] (by decide) (by decide)]
  show own_P2_52_0 3 h w K v5 i 5 1 [m0, (m1 + (m0 + h)), m2, m3] = _
  rw [own_up 4 (j := 1) (j' := 2) [m0, (m1 + (m0 + h)), m2, m3] (by decide) (by decide)]
  show own_P2_52_0 3 h w K v5 i 4 2 [m0, (m1 + (m0 + h)), (m2 + ((m1 + (m0 + h)) + h)), m3] = _
  rw [own_up 3 (j := 2) (j' := 3) [m0, (m1 + (m0 + h)), (m2 + ((m1 + (m0 + h)) + h)), m3] (by decide) (by decide)]
  show own_P2_52_0 3 h w K v5 i 3 3 [m0, (m1 + (m0 + h)), (m2 + ((m1 + (m0 + h)) + h)), (m3 + ((m2 + ((m1 + (m0 + h)) + h)) + h))] = _
  rw [own_end 2 [m0, (m1 + (m0 + h)), (m2 + ((m1 + (m0 + h)) + h)), (m3 + ((m2 + ((m1 + (m0 + h)) + h)) + h))] (by decide)]
theorem own_R3' {h w : Int32} {K : List Int32} (hK : ∀ x ∈ K, 0 ≤ x.toInt ∧ x.toInt < 3) (hl : K.length < 2147483648) : own_G2_0 3 h w K = [0, ((0 + w * own_S K 1) + (0 + h)), ((0 + w * own_S K 2) + (((0 + w * own_S K 1) + (0 + h)) + h)), ((0 + w * own_S K 3) + (((0 + w * own_S K 2) + (((0 + w * own_S K 1) + (0 + h)) + h)) + h))] := by
  have e := own_ofN (v := Int32.ofNat (List.length K)) rfl hl
  unfold own_G2_0
  simp only []
  rw [own_fold e (K.length + 1) 0 0 _ own_z0 (Nat.zero_le _) (by omega)]
  show own_P2_52_0 3 h w K _ _ 6 0 (List.foldl (own_st w) [0, 0, 0, 0] K) = _
  rw [own_fo3 w K 0 0 0 0 hK, own_pre3]
theorem own_set4 (w x m0 m1 m2 m3 m4 : Int32) (h : 0 ≤ x.toInt ∧ x.toInt < 4) : own_st w [m0, m1, m2, m3, m4] x = [m0, m1 + w * own_d x 1, m2 + w * own_d x 2, m3 + w * own_d x 3, m4 + w * own_d x 4] := by
  rcases (by omega : x.toInt = 0 ∨ x.toInt = 1 ∨ x.toInt = 2 ∨ x.toInt = 3) with q | q | q | q
  · obtain rfl : x = 0 := Int32.toInt_inj.mp q
    have e1 : ∀ z : Int32, z + w * 1 = z + w := fun z => by rw [Int32.mul_one]
    have e0 : ∀ z : Int32, z + w * 0 = z := fun z => by rw [Int32.mul_zero, Int32.add_zero]
    show [m0, m1 + w, m2, m3, m4] = [m0, m1 + w * 1, m2 + w * 0, m3 + w * 0, m4 + w * 0]
    rw [e1, e0, e0, e0]
  · obtain rfl : x = 1 := Int32.toInt_inj.mp q
    have e1 : ∀ z : Int32, z + w * 1 = z + w := fun z => by rw [Int32.mul_one]
    have e0 : ∀ z : Int32, z + w * 0 = z := fun z => by rw [Int32.mul_zero, Int32.add_zero]
    show [m0, m1, m2 + w, m3, m4] = [m0, m1 + w * 0, m2 + w * 1, m3 + w * 0, m4 + w * 0]
    rw [e0, e1, e0, e0]
  · obtain rfl : x = 2 := Int32.toInt_inj.mp q
    have e1 : ∀ z : Int32, z + w * 1 = z + w := fun z => by rw [Int32.mul_one]
    have e0 : ∀ z : Int32, z + w * 0 = z := fun z => by rw [Int32.mul_zero, Int32.add_zero]
    show [m0, m1, m2, m3 + w, m4] = [m0, m1 + w * 0, m2 + w * 0, m3 + w * 1, m4 + w * 0]
    rw [e0, e0, e1, e0]
  · obtain rfl : x = 3 := Int32.toInt_inj.mp q
    have e1 : ∀ z : Int32, z + w * 1 = z + w := fun z => by rw [Int32.mul_one]
    have e0 : ∀ z : Int32, z + w * 0 = z := fun z => by rw [Int32.mul_zero, Int32.add_zero]
    show [m0, m1, m2, m3, m4 + w] = [m0, m1 + w * 0, m2 + w * 0, m3 + w * 0, m4 + w * 1]
    rw [e0, e0, e0, e1]
theorem own_fo4 (w : Int32) : ∀ (K : List Int32) (m0 m1 m2 m3 m4 : Int32), (∀ x ∈ K, 0 ≤ x.toInt ∧ x.toInt < 4) → K.foldl (own_st w) [m0, m1, m2, m3, m4] = [m0, m1 + w * own_S K 1, m2 + w * own_S K 2, m3 + w * own_S K 3, m4 + w * own_S K 4]
  | [], m0, m1, m2, m3, m4, _ => by
    have e0 : ∀ z : Int32, z + w * 0 = z := fun z => by rw [Int32.mul_zero, Int32.add_zero]
    show [m0, m1, m2, m3, m4] = [m0, m1 + w * 0, m2 + w * 0, m3 + w * 0, m4 + w * 0]
    rw [e0, e0, e0, e0]
  | x :: K, m0, m1, m2, m3, m4, h => by
    rw [List.foldl_cons, own_set4 w x m0 m1 m2 m3 m4 (h x (List.mem_cons_self ..)), own_fo4 w K m0 (m1 + w * own_d x 1) (m2 + w * own_d x 2) (m3 + w * own_d x 3) (m4 + w * own_d x 4) (fun y hy => h y (List.mem_cons_of_mem _ hy))]
    have e : ∀ (z : Int32) (t : Nat), z + w * own_d x t + w * own_S K t = z + w * own_S (x :: K) t := fun z t => by
      show _ = z + w * (own_d x t + own_S K t)
      grind
    rw [e, e, e, e]
theorem own_pre4 {h w v5 i : Int32} {K : List Int32} (m0 m1 m2 m3 m4 : Int32) : own_P2_52_0 4 h w K v5 i 6 0 [m0, m1, m2, m3, m4] = [m0, (m1 + (m0 + h)), (m2 + ((m1 + (m0 + h)) + h)), (m3 + ((m2 + ((m1 + (m0 + h)) + h)) + h)), (m4 + ((m3 + ((m2 + ((m1 + (m0 + h)) + h)) + h)) + h))] := by
  rw [own_up 5 (j := 0) (j' := 1) [m0, m1, m2, m3, m4] (by decide) (by decide)]
  show own_P2_52_0 4 h w K v5 i 5 1 [m0, (m1 + (m0 + h)), m2, m3, m4] = _
  rw [own_up 4 (j := 1) (j' := 2) [m0, (m1 + (m0 + h)), m2, m3, m4] (by decide) (by decide)]
  show own_P2_52_0 4 h w K v5 i 4 2 [m0, (m1 + (m0 + h)), (m2 + ((m1 + (m0 + h)) + h)), m3, m4] = _
  rw [own_up 3 (j := 2) (j' := 3) [m0, (m1 + (m0 + h)), (m2 + ((m1 + (m0 + h)) + h)), m3, m4] (by decide) (by decide)]
  show own_P2_52_0 4 h w K v5 i 3 3 [m0, (m1 + (m0 + h)), (m2 + ((m1 + (m0 + h)) + h)), (m3 + ((m2 + ((m1 + (m0 + h)) + h)) + h)), m4] = _
  rw [own_up 2 (j := 3) (j' := 4) [m0, (m1 + (m0 + h)), (m2 + ((m1 + (m0 + h)) + h)), (m3 + ((m2 + ((m1 + (m0 + h)) + h)) + h)), m4] (by decide) (by decide)]
  show own_P2_52_0 4 h w K v5 i 2 4 [m0, (m1 + (m0 + h)), (m2 + ((m1 + (m0 + h)) + h)), (m3 + ((m2 + ((m1 + (m0 + h)) + h)) + h)), (m4 + ((m3 + ((m2 + ((m1 + (m0 + h)) + h)) + h)) + h))] = _
  rw [own_end 1 [m0, (m1 + (m0 + h)), (m2 + ((m1 + (m0 + h)) + h)), (m3 + ((m2 + ((m1 + (m0 + h)) + h)) + h)), (m4 + ((m3 + ((m2 + ((m1 + (m0 + h)) + h)) + h)) + h))] (by decide)]
theorem own_R4' {h w : Int32} {K : List Int32} (hK : ∀ x ∈ K, 0 ≤ x.toInt ∧ x.toInt < 4) (hl : K.length < 2147483648) : own_G2_0 4 h w K = [0, ((0 + w * own_S K 1) + (0 + h)), ((0 + w * own_S K 2) + (((0 + w * own_S K 1) + (0 + h)) + h)), ((0 + w * own_S K 3) + (((0 + w * own_S K 2) + (((0 + w * own_S K 1) + (0 + h)) + h)) + h)), ((0 + w * own_S K 4) + (((0 + w * own_S K 3) + (((0 + w * own_S K 2) + (((0 + w * own_S K 1) + (0 + h)) + h)) + h)) + h))] := by
  have e := own_ofN (v := Int32.ofNat (List.length K)) rfl hl
  unfold own_G2_0
  simp only []
  rw [own_fold e (K.length + 1) 0 0 _ own_z0 (Nat.zero_le _) (by omega)]
  show own_P2_52_0 4 h w K _ _ 6 0 (List.foldl (own_st w) [0, 0, 0, 0, 0] K) = _
  rw [own_fo4 w K 0 0 0 0 0 hK, own_pre4]
def own_e (n j x k : Int32) : Int32 := if j < n then (if x < k then 1 else 0) else 0
theorem own_l2 (P Q : Prop) [Decidable P] [Decidable Q] (v : Int32) : (if P then (if Q then v + (1 : Int32) else v) else v) = v + (if P then (if Q then 1 else 0) else 0) := by
  by_cases p : P
  · by_cases q : Q
    · simp only [if_pos p, if_pos q]
    · simp only [if_pos p, if_neg q, Int32.add_zero]
  · simp only [if_neg p, Int32.add_zero]
theorem own_f4 (k n a b c d : Int32) : own_F4 k n [a, b, c, d] = ((own_e n 0 a k + own_e n 1 b k) + own_e n 2 c k) + own_e n 3 d k := by
  have g0 : List.getD [a, b, c, d] ((0 : Int32)).toInt.toNat 0 = a := rfl
  have g1 : List.getD [a, b, c, d] ((1 : Int32)).toInt.toNat 0 = b := rfl
  have g2 : List.getD [a, b, c, d] ((2 : Int32)).toInt.toNat 0 = c := rfl
  have g3 : List.getD [a, b, c, d] ((3 : Int32)).toInt.toNat 0 = d := rfl
  unfold own_F4
  simp only [g0, g1, g2, g3, own_l2, Int32.zero_add]
  rfl
theorem own_ep {n j : Int32} (x k : Int32) (h : j < n) : own_e n j x k = (if x < k then 1 else 0) := if_pos h
theorem own_en {n j : Int32} (x k : Int32) (h : ¬ j < n) : own_e n j x k = 0 := if_neg h
theorem own_cnt (k n a b c d : Int32) (hn : 0 ≤ n.toInt ∧ n.toInt ≤ 4) : own_F4 k n [a, b, c, d] = own_C (own_G1_0 n a b c d) k := by
  rw [own_f4]
  rcases (by omega : n.toInt = 0 ∨ n.toInt = 1 ∨ n.toInt = 2 ∨ n.toInt = 3 ∨ n.toInt = 4) with q | q | q | q | q
  · obtain rfl : n = 0 := Int32.toInt_inj.mp q
    rw [own_en a k (n := 0) (j := 0) (by decide), own_en b k (n := 0) (j := 1) (by decide), own_en c k (n := 0) (j := 2) (by decide), own_en d k (n := 0) (j := 3) (by decide)]
    show _ = (0 : Int32)
    simp only [Int32.add_zero, Int32.zero_add, Int32.add_assoc]
  · obtain rfl : n = 1 := Int32.toInt_inj.mp q
    rw [own_ep a k (n := 1) (j := 0) (by decide), own_en b k (n := 1) (j := 1) (by decide), own_en c k (n := 1) (j := 2) (by decide), own_en d k (n := 1) (j := 3) (by decide)]
    show _ = (if a < k then (1 : Int32) else 0) + 0
    simp only [Int32.add_zero, Int32.zero_add, Int32.add_assoc]
  · obtain rfl : n = 2 := Int32.toInt_inj.mp q
    rw [own_ep a k (n := 2) (j := 0) (by decide), own_ep b k (n := 2) (j := 1) (by decide), own_en c k (n := 2) (j := 2) (by decide), own_en d k (n := 2) (j := 3) (by decide)]
    show _ = (if a < k then (1 : Int32) else 0) + ((if b < k then (1 : Int32) else 0) + 0)
    simp only [Int32.add_zero, Int32.zero_add, Int32.add_assoc]
  · obtain rfl : n = 3 := Int32.toInt_inj.mp q
    rw [own_ep a k (n := 3) (j := 0) (by decide), own_ep b k (n := 3) (j := 1) (by decide), own_ep c k (n := 3) (j := 2) (by decide), own_en d k (n := 3) (j := 3) (by decide)]
    show _ = (if a < k then (1 : Int32) else 0) + ((if b < k then (1 : Int32) else 0) + ((if c < k then (1 : Int32) else 0) + 0))
    simp only [Int32.add_zero, Int32.zero_add, Int32.add_assoc]
  · obtain rfl : n = 4 := Int32.toInt_inj.mp q
    rw [own_ep a k (n := 4) (j := 0) (by decide), own_ep b k (n := 4) (j := 1) (by decide), own_ep c k (n := 4) (j := 2) (by decide), own_ep d k (n := 4) (j := 3) (by decide)]
    show _ = (if a < k then (1 : Int32) else 0) + ((if b < k then (1 : Int32) else 0) + ((if c < k then (1 : Int32) else 0) + ((if d < k then (1 : Int32) else 0) + 0)))
    simp only [Int32.add_zero, Int32.zero_add, Int32.add_assoc]
theorem own_id0 (h w : Int32) (K : List Int32) : (0 : Int32) = 0 * h + w * (0) := by grind
theorem own_id1 (h w : Int32) (K : List Int32) : (((0 + w * own_S K 1) + (0 + h)) : Int32) = 1 * h + w * (own_S K 1) := by grind
theorem own_id2 (h w : Int32) (K : List Int32) : (((0 + w * own_S K 2) + (((0 + w * own_S K 1) + (0 + h)) + h)) : Int32) = 2 * h + w * (own_S K 1 + own_S K 2) := by grind
theorem own_id3 (h w : Int32) (K : List Int32) : (((0 + w * own_S K 3) + (((0 + w * own_S K 2) + (((0 + w * own_S K 1) + (0 + h)) + h)) + h)) : Int32) = 3 * h + w * (own_S K 1 + own_S K 2 + own_S K 3) := by grind
theorem own_id4 (h w : Int32) (K : List Int32) : (((0 + w * own_S K 4) + (((0 + w * own_S K 3) + (((0 + w * own_S K 2) + (((0 + w * own_S K 1) + (0 + h)) + h)) + h)) + h)) : Int32) = 4 * h + w * (own_S K 1 + own_S K 2 + own_S K 3 + own_S K 4) := by grind
def own_T (B n h w : Int32) (R ks : List Int32) : Int32 :=
  if (Int32.ofNat (List.length R)) = (B + (1 : Int32)) then
    if (own_F3 (0 : Int32) B n h w R ks) = (0 : Int32) then (0 : Int32)
    else if (own_F3 (1 : Int32) B n h w R ks) = (0 : Int32) then (0 : Int32)
    else if (own_F3 (2 : Int32) B n h w R ks) = (0 : Int32) then (0 : Int32)
    else if (own_F3 (3 : Int32) B n h w R ks) = (0 : Int32) then (0 : Int32)
    else if (own_F3 (4 : Int32) B n h w R ks) = (0 : Int32) then (0 : Int32)
    else (1 : Int32)
  else (0 : Int32)
theorem own_T1 {B n h w : Int32} {R ks : List Int32} (hl : (Int32.ofNat (List.length R)) = (B + (1 : Int32))) (h0 : own_F3 0 B n h w R ks = 1) (h1 : own_F3 1 B n h w R ks = 1) (h2 : own_F3 2 B n h w R ks = 1) (h3 : own_F3 3 B n h w R ks = 1) (h4 : own_F3 4 B n h w R ks = 1) : own_T B n h w R ks = 1 := by
  have z : ¬ (1 : Int32) = 0 := by decide
  unfold own_T
  rw [if_pos hl, h0, h1, h2, h3, h4]
  simp only [if_neg z]
theorem own_far {k B n h w : Int32} {R ks : List Int32} (c : B < k) : own_F3 k B n h w R ks = 1 := by
  unfold own_F3; rw [if_pos c]
theorem own_near {k B n h w : Int32} {R ks : List Int32} (c : ¬ B < k) (e : List.getD R k.toInt.toNat 0 = k * h + w * own_F4 k n ks) : own_F3 k B n h w R ks = 1 := by
  unfold own_F3; rw [if_neg c]; simp only []; rw [if_pos e]
theorem own_all {B n h w a b c d : Int32} (hB : 0 ≤ B.toInt ∧ B.toInt ≤ 4) (hn : 0 ≤ n.toInt ∧ n.toInt ≤ 4) (hK : ∀ x ∈ own_G1_0 n a b c d, 0 ≤ x.toInt ∧ x.toInt < B.toInt) : own_T B n h w (own_G2_0 B h w (own_G1_0 n a b c d)) [a, b, c, d] = 1 := by
  have hl : (own_G1_0 n a b c d).length < 2147483648 := by have := own_G1len n a b c d; omega
  have hc (k : Int32) := own_cnt k n a b c d hn
  have h4 : ∀ x ∈ own_G1_0 n a b c d, 0 ≤ x.toInt ∧ x.toInt < 4 := fun x hx => by have := hK x hx; omega
  have s0 := own_CS0 _ h4
  have s1 := own_CS1 _ h4
  have s2 := own_CS2 _ h4
  have s3 := own_CS3 _ h4
  have s4 := own_CS4 _ h4
  generalize own_G1_0 n a b c d = K at *
  rcases (by omega : B.toInt = 0 ∨ B.toInt = 1 ∨ B.toInt = 2 ∨ B.toInt = 3 ∨ B.toInt = 4) with q | q | q | q | q
  · obtain rfl : B = 0 := Int32.toInt_inj.mp q
    rw [own_R0' hK hl]
    exact own_T1 rfl (own_near (by decide) (by rw [hc, s0]; exact own_id0 h w K)) (own_far (by decide)) (own_far (by decide)) (own_far (by decide)) (own_far (by decide))
  · obtain rfl : B = 1 := Int32.toInt_inj.mp q
    rw [own_R1' hK hl]
    exact own_T1 rfl (own_near (by decide) (by rw [hc, s0]; exact own_id0 h w K)) (own_near (by decide) (by rw [hc, s1]; exact own_id1 h w K)) (own_far (by decide)) (own_far (by decide)) (own_far (by decide))
  · obtain rfl : B = 2 := Int32.toInt_inj.mp q
    rw [own_R2' hK hl]
    exact own_T1 rfl (own_near (by decide) (by rw [hc, s0]; exact own_id0 h w K)) (own_near (by decide) (by rw [hc, s1]; exact own_id1 h w K)) (own_near (by decide) (by rw [hc, s2]; exact own_id2 h w K)) (own_far (by decide)) (own_far (by decide))
  · obtain rfl : B = 3 := Int32.toInt_inj.mp q
    rw [own_R3' hK hl]
    exact own_T1 rfl (own_near (by decide) (by rw [hc, s0]; exact own_id0 h w K)) (own_near (by decide) (by rw [hc, s1]; exact own_id1 h w K)) (own_near (by decide) (by rw [hc, s2]; exact own_id2 h w K)) (own_near (by decide) (by rw [hc, s3]; exact own_id3 h w K)) (own_far (by decide))
  · obtain rfl : B = 4 := Int32.toInt_inj.mp q
    rw [own_R4' hK hl]
    exact own_T1 rfl (own_near (by decide) (by rw [hc, s0]; exact own_id0 h w K)) (own_near (by decide) (by rw [hc, s1]; exact own_id1 h w K)) (own_near (by decide) (by rw [hc, s2]; exact own_id2 h w K)) (own_near (by decide) (by rw [hc, s3]; exact own_id3 h w K)) (own_near (by decide) (by rw [hc, s4]; exact own_id4 h w K))
theorem own_plain (p0 p1 p2 p3 : Int32) : own_F0 p0 p1 p2 p3 = 1 := by
  show own_T _ _ _ _ (own_G2_0 _ _ _ (own_G1_0 _ _ _ _ _)) [_, _, _, _] = 1
  refine own_all (own_len5 rfl) ?_ (own_keys rfl rfl rfl rfl rfl rfl rfl rfl)
  split
  · decide
  · have m : (((p0.toUInt32 >>> ((8 : Int32) &&& 31).toUInt32).toInt32) &&& (7 : Int32)).toInt = ((p0.toUInt32 >>> ((8 : Int32) &&& 31).toUInt32).toInt32).toInt % (2 ^ 3 : Nat) := c_mask _ 7 3 (by decide) (by decide)
    have r := own_remP (((p0.toUInt32 >>> ((8 : Int32) &&& 31).toUInt32).toInt32) &&& (7 : Int32)) 5 5 (by decide) (by omega)
    rw [r]
    omega

set_option maxRecDepth 65536 in
set_option maxHeartbeats 40000000 in
theorem comes_1 {Post : Tables → Env → Array Value → State → Outcome → State → Prop} (hpost : ∀ tb e args s v u, (limb_1_1.after args s (.returned v) u = true ∧ limb_1_2.after args s (.returned v) u = true ∧ True) → FrameEnd s (.returned v) u (Jvm.fieldLocs frame_1_writes args s ++ Jvm.arrayLocs frame_1_arrays args s ++ Jvm.staticLocs frame_1_statics s) 16 128 → Post tb e args s (.returned v) u) :
    ArmFor flags0 classFile x code maxLocals ret World_1 tables_1 room_1 Calls_1 rest_1 Pre_1 Post := by
  intro l hfl _ _ p e ha hc hk s m args below hf hA hF happ hP
  obtain ⟨hcalls, hrest, hpre⟩ := hP
  obtain ⟨-, -, -, hnamed, -, -, -, hat⟩ := (Spec.applies_iff hf).mp happ
  obtain ⟨hg, hn⟩ := and_e (Cond.before_iff.mp (show (Jvm.Cond.and given_1 narrow_1).before args s = true from hpre))
  obtain ⟨g1, g2⟩ := and_e hg
  obtain ⟨ga0, gb0⟩ := and_e g2
  obtain ⟨ga1, gb1⟩ := and_e gb0
  obtain ⟨ga2, gb2⟩ := and_e gb1
  obtain ⟨w0, w1, w2, w3, rfl⟩ : ∃ w0 w1 w2 w3 : Value, args = #[w0, w1, w2, w3] := by
    have hs : args.size = 4 := by simpa [Cond.value, given_1] using g1
    obtain ⟨L⟩ := args
    match L, hs with
    | [w0, w1, w2, w3], _ => exact ⟨w0, w1, w2, w3, rfl⟩
  have hw := fun d (hd : d ∈ tables_1) => atoms_spec (ws := Jvm.Cond.code x code maxLocals ret :: tables_1) hat d (List.mem_cons_of_mem _ hd)
  obtain ⟨i0, ei0⟩ := is_v ga0
  obtain rfl : w0 = (.int i0) := Option.some.inj ei0
  obtain ⟨i1, ei1⟩ := is_v ga1
  obtain rfl : w1 = (.int i1) := Option.some.inj ei1
  obtain ⟨i2, ei2⟩ := is_v ga2
  obtain rfl : w2 = (.int i2) := Option.some.inj ei2
  obtain ⟨i3, ei3⟩ := is_v gb2
  obtain rfl : w3 = (.int i3) := Option.some.inj ei3
  obtain ⟨n, o, h1, h2, h3, _, L, rfl, ⟨hv, N⟩, hq⟩ := own_rm0 l s _ hw tables_1 i0 i1 i2 i3 s.heap s.heap.size (Nat.le_refl _) p e ha hc hk s m _ below hf ((Spec.applies_iff_loose hf).mp happ).1 ⟨rfl, State.Warmed39.refl s, rfl⟩ trivial
  rw [own_plain i0 i1 i2 i3] at hv
  subst hv
  refine ⟨n, _, h1, h2, h3, hpost _ _ _ _ _ _ ⟨Cond.after_iff.mpr rfl, Cond.after_iff.mpr (eq_i res_at (Term.int_eval (1)) rfl), trivial⟩ ⟨hq.1, hq.2.1, (hq.2.2.sift fun y hy => Or.inr (N y hy)).mono (by decide) (by decide)⟩⟩
theorem main_1_1 : Claimed_1_1 := comes_1 fun _ _ _ _ _ _ h hF => ⟨h.1, hF⟩
theorem main_1_2 : Claimed_1_2 := comes_1 fun _ _ _ _ _ _ h hF => ⟨h.2.1, hF⟩
end Jvm.Pilot.@@N@@
namespace Jvm.Pilot.@@N@@
open Jvm Jvm.ClassFile Sem Op Lib Jvm.Free Jvm.Stand Jvm.Pilot.@@N@@.Jvm.D
/-! MADE BY PROGRAM (witnessworld.py) out of the Statement's table words and the real class files: 9 classes; the members and pool entries that the words name. The judged class is class 1, her method 1. -/
namespace start1
open Jvm.ClassFile
def u (s : String) : CpInfo := .utf8 (stringToUtf16 s)
/-- a pool by its gaps: so many unusable entries, then the entry; so many at the end -/
def gap : Nat → List CpInfo → List CpInfo
  | 0, r => r
  | n + 1, r => .unusable :: gap n r
def poolList (es : List (Nat × CpInfo)) (last : Nat) : List CpInfo := es.foldr (fun e r => gap e.1 (e.2 :: r)) (gap last [])
def pool (es : List (Nat × CpInfo)) (last : Nat) : Array CpInfo := ⟨poolList es last⟩
def fileOf (pool : Array CpInfo) (this : Nat) (attrs : Array Attribute := #[]) (ms : Array MethodInfo := #[]) (fl : Nat := 33) (sup : Nat := 0) (ifs : Array Nat := #[]) (fds : Array FieldInfo := #[]) : ClassFile where
  minorVersion := 0
  majorVersion := 65
  constantPool := pool
  accessFlags := fl
  thisClass := this
  superClass := sup
  interfaces := ifs
  fields := fds
  methods := ms
  attributes := attrs
def plain (name : String) (sup : Option ClassId) : Class where
  name := name
  kind := .ordinary
  loader := none
  accessFlags := 33
  super := sup
  interfaces := #[]
  cf := none
  fields := #[]
  methods := #[]
  instanceTypes := #[]
  staticTypes := #[]
  resolved := #[]
  callSites := []
  init := .initialized
  statics := none
  mirror := none

def pool0 : Array CpInfo := pool [(5, u "<init>"), (0, u "()V"), (1, .class_ 10), (1, u "java/lang/Object")] 113

def k0m0 : Method := { name := "<init>", desc := "()V", sig := { parameters := [], returnType := none }, accessFlags := 1, code := none }
/-- java/lang/Object -/
def k0 : Class := { plain "java/lang/Object" none with
  accessFlags := 33
  interfaces := #[]
  cf := some (fileOf pool0 8 #[] #[{ accessFlags := 1, nameIndex := 5, descriptorIndex := 6, attributes := #[] }] 33 0 #[] #[])
  fields := #[]
  methods := #[k0m0]
  instanceTypes := #[]
  staticTypes := #[]
  resolved := Array.replicate 124 none
  statics := none }

def pool1 : Array CpInfo := pool [(2, .class_ 4), (1, u "java/lang/Object"), (0, u "<init>"), (0, u "()V"), (0, .integer 2147483647), (0, .methodref 9 10), (0, .class_ 11), (0, .nameAndType 12 13), (0, u "com/example/overlaid_graphs/overlaidgraphs/graph/BucketsStartsPinLaw"), (0, u "make"), (0, u "(IIIII)[I"), (0, .methodref 15 16), (0, .class_ 17), (0, .nameAndType 18 19), (0, u "com/example/overlaid_graphs/overlaidgraphs/graph/Buckets"), (0, u "starts"), (0, u "(I[III)[I"), (0, .methodref 9 21), (0, .nameAndType 22 23), (0, u "at"), (0, u "([IIII[III)Z"), (0, .methodref 9 25), (0, .nameAndType 26 27), (0, u "count"), (0, u "(II[I)I"), (2, u "law"), (0, u "(IIII)Z")] 5

def k1m0 : Method := { name := "<init>", desc := "()V", sig := { parameters := [], returnType := none }, accessFlags := 1, code := none }
def k1c1 : Code := { maxStack := 7, maxLocals := 14, code := code, exceptionTable := #[], attributes := #[] }
def k1m1 : Method := { name := "law", desc := "(IIII)Z", sig := { parameters := [.int, .int, .int, .int], returnType := some .boolean }, accessFlags := 9, code := some k1c1 }
def k1c2 : Code := { maxStack := 4, maxLocals := 5, code := method_3_code, exceptionTable := #[], attributes := #[] }
def k1m2 : Method := { name := "make", desc := "(IIIII)[I", sig := { parameters := [.int, .int, .int, .int, .int], returnType := some (.array .int) }, accessFlags := 10, code := some k1c2 }
def k1c3 : Code := { maxStack := 2, maxLocals := 4, code := method_4_code, exceptionTable := #[], attributes := #[] }
def k1m3 : Method := { name := "count", desc := "(II[I)I", sig := { parameters := [.int, .int, (.array .int)], returnType := some .int }, accessFlags := 10, code := some k1c3 }
def k1c4 : Code := { maxStack := 6, maxLocals := 7, code := method_5_code, exceptionTable := #[], attributes := #[] }
def k1m4 : Method := { name := "at", desc := "([IIII[III)Z", sig := { parameters := [(.array .int), .int, .int, .int, (.array .int), .int, .int], returnType := some .boolean }, accessFlags := 10, code := some k1c4 }
/-- com/example/overlaid_graphs/overlaidgraphs/graph/BucketsStartsPinLaw -/
def k1 : Class := { plain "com/example/overlaid_graphs/overlaidgraphs/graph/BucketsStartsPinLaw" (some 0) with
  accessFlags := 49
  interfaces := #[]
  cf := some (fileOf pool1 9 #[] #[{ accessFlags := 1, nameIndex := 5, descriptorIndex := 6, attributes := #[] }, { accessFlags := 9, nameIndex := 30, descriptorIndex := 31, attributes := #[] }, { accessFlags := 10, nameIndex := 12, descriptorIndex := 13, attributes := #[] }, { accessFlags := 10, nameIndex := 26, descriptorIndex := 27, attributes := #[] }, { accessFlags := 10, nameIndex := 22, descriptorIndex := 23, attributes := #[] }] 49 2 #[] #[])
  fields := #[]
  methods := #[k1m0, k1m1, k1m2, k1m3, k1m4]
  instanceTypes := #[]
  staticTypes := #[]
  resolved := Array.replicate 37 none
  statics := none }

def pool2 : Array CpInfo := pool [(2, .class_ 4), (1, u "java/lang/Object"), (3, .class_ 10), (1, u "com/example/overlaid_graphs/overlaidgraphs/graph/Buckets"), (0, u "mStart"), (0, u "[I"), (2, u "mItems"), (2, u "starts"), (0, u "(I[III)[I")] 27

def k2c0 : Code := { maxStack := 5, maxLocals := 9, code := prog_92_method_4_code, exceptionTable := #[], attributes := #[] }
def k2m0 : Method := { name := "starts", desc := "(I[III)[I", sig := { parameters := [.int, (.array .int), .int, .int], returnType := some (.array .int) }, accessFlags := 8, code := some k2c0 }
/-- com/example/overlaid_graphs/overlaidgraphs/graph/Buckets -/
def k2 : Class := { plain "com/example/overlaid_graphs/overlaidgraphs/graph/Buckets" (some 0) with
  accessFlags := 48
  interfaces := #[]
  cf := some (fileOf pool2 8 #[] #[{ accessFlags := 8, nameIndex := 18, descriptorIndex := 19, attributes := #[] }] 48 2 #[] #[{ accessFlags := 18, nameIndex := 11, descriptorIndex := 12, attributes := #[] }, { accessFlags := 18, nameIndex := 15, descriptorIndex := 12, attributes := #[] }])
  fields := #[{ name := "mStart", type := (.array .int), accessFlags := 18, slot := 0, constantValue := 0 }, { name := "mItems", type := (.array .int), accessFlags := 18, slot := 1, constantValue := 0 }]
  methods := #[k2m0]
  instanceTypes := #[(.array .int), (.array .int)]
  staticTypes := #[]
  resolved := Array.replicate 47 none
  statics := none }

def pool3 : Array CpInfo := pool [(1, u "java/lang/Cloneable"), (0, .class_ 1), (0, u "java/lang/Object"), (0, .class_ 3)] 3

/-- java/lang/Cloneable -/
def k3 : Class := { plain "java/lang/Cloneable" (some 0) with
  accessFlags := 1537
  interfaces := #[]
  cf := some (fileOf pool3 2 #[] #[] 1537 4 #[] #[])
  fields := #[]
  methods := #[]
  instanceTypes := #[]
  staticTypes := #[]
  resolved := Array.replicate 8 none
  statics := none }

def pool4 : Array CpInfo := pool [(1, u "java/io/Serializable"), (0, .class_ 1), (0, u "java/lang/Object"), (0, .class_ 3)] 3

/-- java/io/Serializable -/
def k4 : Class := { plain "java/io/Serializable" (some 0) with
  accessFlags := 1537
  interfaces := #[]
  cf := some (fileOf pool4 2 #[] #[] 1537 4 #[] #[])
  fields := #[]
  methods := #[]
  instanceTypes := #[]
  staticTypes := #[]
  resolved := Array.replicate 8 none
  statics := none }

/-- the primitive byte -/
def k5 : Class := { plain "byte" none with kind := .primitive 'B', accessFlags := 0x411 }
/-- [B -/
def k6 : Class := { plain "[B" (some 0) with kind := .array 5 .byte, interfaces := #[3, 4], accessFlags := 1041 }

/-- the primitive int -/
def k7 : Class := { plain "int" none with kind := .primitive 'I', accessFlags := 0x411 }
/-- [I -/
def k8 : Class := { plain "[I" (some 0) with kind := .array 7 .int, interfaces := #[3, 4], accessFlags := 1041 }

def heap : Heap := #[]
def classes : Array Class := #[k0, k1, k2, k3, k4, k5, k6, k7, k8]
def interned : List (Array UInt16 × Addr) := []
def slotsUsed : Nat := 0
def theMethod : MethodId := ⟨1, 1⟩
def args0 : Array Value := #[.int 5, .int 5, .int 5, .int 5]
def aboutOver (below : List Frame) : State where
  vm := { classes := classes, interned := interned.toArray }
  heap := heap
  slotsUsed := slotsUsed
  threads := #[{ frames := .invoking theMethod args0 :: below }]
def below0 : List Frame := [.native { method := ⟨0, 0⟩, args := #[] }]
def about1 : State := aboutOver below0
def p0 : Program := .bare "" "" ""
def e0 : Env := launch0.env 0 0 0
theorem w_frames : about1.frames = Frame.invoking theMethod args0 :: below0 := rfl
set_option maxRecDepth 65536 in
theorem w_args : argsFit about1.vm theMethod args0 = true := by decide +kernel
set_option maxRecDepth 65536 in
theorem w_heap : heapFits about1 = true := by decide +kernel
set_option maxRecDepth 65536 in
theorem w_runnable : about1.curStatus? = some .runnable := by decide +kernel
set_option maxRecDepth 65536 in
theorem w_alone : about1.alone = true := by decide +kernel
set_option maxRecDepth 65536 in
theorem w_named : about1.methodNamed? x = some theMethod := by decide +kernel
set_option maxRecDepth 65536 in
theorem w_hears : about1.hears theMethod below0 = true := by decide +kernel
set_option maxRecDepth 65536 in
theorem w_ripe : about1.ripe theMethod args0 below0 = true := by decide +kernel
theorem w_running : about1.status = .running := rfl
set_option maxRecDepth 65536 in
theorem w_room : about1.hasRoom e0.platform room_1 = true :=
  launch0.hasRoom_least _ room_1 (by decide +kernel) (by decide +kernel) (by decide +kernel) (by decide +kernel) (by decide +kernel) (by decide +kernel)
theorem allAtoms_all (ts : List Jvm.Cond) (a : Array Jvm.Value) (st : Jvm.State) : (allAtoms ts).before a st = ts.all (fun c => c.before a st) := by
  induction ts with
  | nil => rfl
  | cons c t ih =>
    show (Jvm.Cond.and c (allAtoms t)).before a st = _
    rw [Jvm.Cond.before_and, ih, List.all_cons]
def words1 : List Jvm.Cond := Jvm.Cond.code x code maxLocals ret :: tables_1
/-- a 'code' word, met by the world's own term for the bytes: nothing is compared byte by byte -/
theorem code_word {y : MethodName} {bytes : ByteArray} {mx : Nat} {rt : Option FieldType} {a : Array Value} {s : State} {m : MethodId} {meth : Method} {c : Code} (h1 : s.methodNamed? y = some m) (h2 : s.vm.method? m = some meth) (h3 : meth.code = some c) (h4 : c.code = bytes)
    (h5 : (c.maxLocals == mx && c.exceptionTable.isEmpty && decide (c.maxStack ≤ mostOperands) && decide (meth.sig.returnType = rt) && !meth.locks && decide (parseMethodDescriptor y.desc = some meth.sig)) = true) : (Jvm.Cond.code y bytes mx rt).before a s = true := by
  simp only [Bool.and_eq_true, beq_iff_eq, Bool.not_eq_true', decide_eq_true_eq] at h5
  obtain ⟨⟨⟨⟨⟨g1, g2⟩, g3⟩, g4⟩, g5⟩, g6⟩ := h5
  simp [Cond.before, Cond.holds, Cond.value, h1, h2, h3, h4, g1, g2, g3, g4, g5, g6]
def isCode : Jvm.Cond → Bool
  | .code _ _ _ _ => true
  | _ => false
theorem all_split {L : List Jvm.Cond} {P : Jvm.Cond → Bool} (h1 : L.all (fun c => isCode c || P c) = true) (h2 : ∀ c ∈ L.filter isCode, P c = true) : L.all P = true := by
  refine List.all_eq_true.mpr fun c hc => ?_
  have h := List.all_eq_true.mp h1 c hc
  rcases Bool.eq_false_or_eq_true (isCode c) with hi | hi
  · exact h2 c (List.mem_filter.mpr ⟨hc, hi⟩)
  · simpa [hi] using h
set_option maxRecDepth 65536 in
theorem w_c0 : (Jvm.Cond.code x code maxLocals ret).before args0 about1 = true := code_word (m := ⟨1, 1⟩) (meth := k1m1) (c := k1c1) (by decide +kernel) rfl rfl rfl (by decide +kernel)
set_option maxRecDepth 65536 in
theorem w_c1 : (Jvm.Cond.code ({ cls := "com/example/overlaid_graphs/overlaidgraphs/graph/BucketsStartsPinLaw", name := "make", desc := "(IIIII)[I" } : Jvm.MethodName) method_3_code (5 : Nat) (Option.some (Jvm.ClassFile.FieldType.array Jvm.ClassFile.FieldType.int))).before args0 about1 = true := code_word (m := ⟨1, 2⟩) (meth := k1m2) (c := k1c2) (by decide +kernel) rfl rfl rfl (by decide +kernel)
set_option maxRecDepth 65536 in
theorem w_c2 : (Jvm.Cond.code ({ cls := "com/example/overlaid_graphs/overlaidgraphs/graph/Buckets", name := "starts", desc := "(I[III)[I" } : Jvm.MethodName) prog_92_method_4_code (9 : Nat) (Option.some (Jvm.ClassFile.FieldType.array Jvm.ClassFile.FieldType.int))).before args0 about1 = true := code_word (m := ⟨2, 0⟩) (meth := k2m0) (c := k2c0) (by decide +kernel) rfl rfl rfl (by decide +kernel)
set_option maxRecDepth 65536 in
theorem w_c3 : (Jvm.Cond.code ({ cls := "com/example/overlaid_graphs/overlaidgraphs/graph/BucketsStartsPinLaw", name := "at", desc := "([IIII[III)Z" } : Jvm.MethodName) method_5_code (7 : Nat) (Option.some Jvm.ClassFile.FieldType.boolean)).before args0 about1 = true := code_word (m := ⟨1, 4⟩) (meth := k1m4) (c := k1c4) (by decide +kernel) rfl rfl rfl (by decide +kernel)
set_option maxRecDepth 65536 in
theorem w_c4 : (Jvm.Cond.code ({ cls := "com/example/overlaid_graphs/overlaidgraphs/graph/BucketsStartsPinLaw", name := "count", desc := "(II[I)I" } : Jvm.MethodName) method_4_code (4 : Nat) (Option.some Jvm.ClassFile.FieldType.int)).before args0 about1 = true := code_word (m := ⟨1, 3⟩) (meth := k1m3) (c := k1c3) (by decide +kernel) rfl rfl rfl (by decide +kernel)
def codes1 : List Jvm.Cond := [Jvm.Cond.code x code maxLocals ret, Jvm.Cond.code ({ cls := "com/example/overlaid_graphs/overlaidgraphs/graph/BucketsStartsPinLaw", name := "make", desc := "(IIIII)[I" } : Jvm.MethodName) method_3_code (5 : Nat) (Option.some (Jvm.ClassFile.FieldType.array Jvm.ClassFile.FieldType.int)), Jvm.Cond.code ({ cls := "com/example/overlaid_graphs/overlaidgraphs/graph/Buckets", name := "starts", desc := "(I[III)[I" } : Jvm.MethodName) prog_92_method_4_code (9 : Nat) (Option.some (Jvm.ClassFile.FieldType.array Jvm.ClassFile.FieldType.int)), Jvm.Cond.code ({ cls := "com/example/overlaid_graphs/overlaidgraphs/graph/BucketsStartsPinLaw", name := "at", desc := "([IIII[III)Z" } : Jvm.MethodName) method_5_code (7 : Nat) (Option.some Jvm.ClassFile.FieldType.boolean), Jvm.Cond.code ({ cls := "com/example/overlaid_graphs/overlaidgraphs/graph/BucketsStartsPinLaw", name := "count", desc := "(II[I)I" } : Jvm.MethodName) method_4_code (4 : Nat) (Option.some Jvm.ClassFile.FieldType.int)]
set_option maxRecDepth 65536 in
theorem codes_eq : words1.filter isCode = codes1 := rfl
theorem w_codes : ∀ c ∈ words1.filter isCode, c.before args0 about1 = true := by
  rw [codes_eq]
  intro c hc
  simp only [codes1, List.mem_cons, List.not_mem_nil, or_false] at hc
  rcases hc with rfl | rfl | rfl | rfl | rfl
  · exact w_c0
  · exact w_c1
  · exact w_c2
  · exact w_c3
  · exact w_c4
set_option maxRecDepth 65536 in
theorem w_t1 : words1.all (fun c => isCode c || c.before args0 about1) = true := by decide +kernel
theorem w_tables : (allAtoms (Jvm.Cond.code x code maxLocals ret :: tables_1)).before args0 about1 = true := by
  rw [allAtoms_all]
  show words1.all (fun c => c.before args0 about1) = true
  refine all_split ?_ w_codes
  rw [w_t1]
set_option maxRecDepth 65536 in
theorem w_case : (Jvm.Cond.and given_1 narrow_1).before args0 about1 = true := by decide +kernel
theorem w_applies : (headSpec (Jvm.Cond.code x code maxLocals ret :: tables_1) room_1).applies x e0.platform about1 = true :=
  (Spec.applies_iff w_frames).mpr ⟨w_running, w_runnable, w_alone, w_named, w_hears, w_ripe, w_room, w_tables⟩
theorem atStart : AtStart classFile x code maxLocals ret World_1 tables_1 room_1 Calls_1 rest_1 Pre_1 launch0 p0 e0 about1 theMethod args0 below0 :=
  ⟨lists_1, trivial, launch0.admits_env _ _ _, launch0.least_env, fairChoices_fair.cas, fairChoices_fair.clock, w_frames, w_args, w_heap, w_applies, trivial, trivial, w_case⟩
end start1
theorem witness_1 : WitnessClaimed_1 := ⟨start1.p0, start1.e0, start1.about1, start1.theMethod, start1.args0, start1.below0, start1.atStart⟩
end Jvm.Pilot.@@N@@
