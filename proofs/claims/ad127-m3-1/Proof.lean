import JvmDerived
import JvmDerived.Pilot.@@N@@Statement
import JvmDerived.Pilot.@@N@@Code
set_option linter.unusedVariables false
set_option linter.unusedSimpArgs false
namespace Jvm.RoadKit
open Sem ClassFile Op Lib Jvm.Stand Jvm.Free Jvm.LawKit
section New
variable {p : Program} {l : Launch} {e : Env} {R : Room} {s : State} {m : MethodId} {args : Array Value} {below : List Frame} {meth : Method} {c : Code} {T : State} {locs : List Loc} {cells slots : Nat}
theorem retI (X : Stand p l e R s m args below meth c T locs cells slots) (hx : p.tables.exec = Jvm.exec) {pc : Nat} {Ls : Array Slot} {z : Int32} {rest : List Value} (hret : meth.sig.returnType = some .int) (hd : decode c.code pc = .ok (.ireturn, 1)) {fs : List Frame}
    (hl : ∀ (f : JFrame) (acts : List Action), f.method = m → f.locked = none → f.entered = [] → (doReturn e (T.setTop f) acts (some (.int z))).1 = T.setFrames fs) : Steps p.tables e below (T.setTop (mkF m pc Ls (.int z :: rest))) (T.setFrames fs) := by
  have hm' : T.vm.method? m = some meth := X.method'
  have hn : narrow .int (.int z) = .int z := rfl
  show Steps p.tables e below (T.setTop { method := m, pc := pc, locals := Ls, stack := _ :: rest, locked := none }) _
  jvm_step X.here [X.here.top, hx, hd, hm', hret, hn]
  first | (intro acts; rw [hl _ acts rfl rfl rfl]) | rw [hl _ _ rfl rfl rfl]
  exact Steps.refl _
theorem retJ (X : Stand p l e R s m args below meth c T locs cells slots) (hx : p.tables.exec = Jvm.exec) {pc : Nat} {Ls : Array Slot} {z : Int64} {rest : List Value} (hret : meth.sig.returnType = some .long) (hd : decode c.code pc = .ok (.lreturn, 1)) {fs : List Frame}
    (hl : ∀ (f : JFrame) (acts : List Action), f.method = m → f.locked = none → f.entered = [] → (doReturn e (T.setTop f) acts (some (.long z))).1 = T.setFrames fs) : Steps p.tables e below (T.setTop (mkF m pc Ls (.long z :: rest))) (T.setFrames fs) := by
  have hm' : T.vm.method? m = some meth := X.method'
  show Steps p.tables e below (T.setTop { method := m, pc := pc, locals := Ls, stack := _ :: rest, locked := none }) _
  jvm_step X.here [X.here.top, hx, hd, hm', hret]
  first | (intro acts; rw [hl _ acts rfl rfl rfl]) | rw [hl _ _ rfl rfl rfl]
  exact Steps.refl _
theorem retR (X : Stand p l e R s m args below meth c T locs cells slots) (hx : p.tables.exec = Jvm.exec) {pc : Nat} {Ls : Array Slot} {z : Addr} {t : FieldType} {rest : List Value} (hret : meth.sig.returnType = some t) (ht : t.isReference = true) (hd : decode c.code pc = .ok (.areturn, 1)) {fs : List Frame}
    (hl : ∀ (f : JFrame) (acts : List Action), f.method = m → f.locked = none → f.entered = [] → (doReturn e (T.setTop f) acts (some (.ref z))).1 = T.setFrames fs) : Steps p.tables e below (T.setTop (mkF m pc Ls (.ref z :: rest))) (T.setFrames fs) := by
  have hm' : T.vm.method? m = some meth := X.method'
  show Steps p.tables e below (T.setTop { method := m, pc := pc, locals := Ls, stack := _ :: rest, locked := none }) _
  jvm_step X.here [X.here.top, hx, hd, hm', hret, Value.isRef, ht]
  first | (intro acts; rw [hl _ acts rfl rfl rfl]) | rw [hl _ _ rfl rfl rfl]
  exact Steps.refl _
end New
end Jvm.RoadKit
namespace Jvm.Pilot.@@N@@
open Jvm Jvm.ClassFile Sem Op Lib Jvm.Free Jvm.Stand Jvm.LawKit Jvm.RoadKit Bundle Jvm.Pilot.@@N@@.Jvm.D
/-- from the frame g, where T stands, the body comes to its end, and its end is as QQ says -/
def own_End (p : Program) (e : Env) (below : List Frame) (s : State) (QQ : Option Value → Heap → List Loc → Prop) (rc rs : Nat) (T : State) (g : JFrame) : Prop :=
  ∃ s₂ o, Steps p.tables e below (T.setTop g) s₂ ∧ s₂.status = .running ∧ Ended s₂ below o ∧ ∃ v L, o = .returned v ∧ QQ v s₂.heap L ∧ FrameEnd s o s₂ L rc rs
section Own
variable {p : Program} {l : Launch} {e : Env} {R : Room} {s : State} {m : MethodId} {args : Array Value} {below : List Frame} {meth : Method} {c : Code} {T T' : State} {locs : List Loc} {cells slots : Nat} {QQ : Option Value → Heap → List Loc → Prop} {rc rs : Nat}
theorem own_End.go {g g' : JFrame} (st : ∀ t, Steps p.tables e below (T'.setTop g') t → Steps p.tables e below (T.setTop g) t) (h : own_End p e below s QQ rc rs T' g') : own_End p e below s QQ rc rs T g := by
  obtain ⟨s2, o, a, b⟩ := h
  exact ⟨s2, o, st _ a, b⟩
theorem own_leafI (X : Stand p l e R s m args below meth c T locs cells slots) (hx : p.tables.exec = Jvm.exec) (hk : meth.locks = false) {pc : Nat} {Ls : Array Slot} {z : Int32} {rest : List Value} (hret : meth.sig.returnType = some .int) (hd : decode c.code pc = .ok (.ireturn, 1)) (hq : QQ (some (.int z)) T.heap locs) (h1 : cells ≤ rc) (h2 : slots ≤ rs) : own_End p e below s QQ rc rs T (mkF m pc Ls (.int z :: rest)) := by
  obtain ⟨fs, hr, hrun, hended, hW, hsame⟩ := X.leave (v := some (.int z)) (fun h => by rw [hret] at h; cases h) hk
  exact ⟨_, _, retI X hx hret hd hr, hrun, hended, _, _, rfl, hq, ⟨_, rfl⟩, hW, hsame.mono h1 h2⟩
theorem own_leafN (X : Stand p l e R s m args below meth c T locs cells slots) (hx : p.tables.exec = Jvm.exec) (hk : meth.locks = false) {pc : Nat} {Ls : Array Slot} {z : Int32} {t : FieldType} {rest : List Value} (hret : meth.sig.returnType = some t) (ht : t = .boolean ∨ t = .byte ∨ t = .char ∨ t = .short) (hd : decode c.code pc = .ok (.ireturn, 1)) (hq : QQ (some (.int (nar t z))) T.heap locs) (h1 : cells ≤ rc) (h2 : slots ≤ rs) : own_End p e below s QQ rc rs T (mkF m pc Ls (.int z :: rest)) := by
  obtain ⟨fs, hr, hrun, hended, hW, hsame⟩ := X.leave (v := some (.int (nar t z))) (fun h => by rw [hret] at h; cases h) hk
  exact ⟨_, _, retN X hx hret ht hd hr, hrun, hended, _, _, rfl, hq, ⟨_, rfl⟩, hW, hsame.mono h1 h2⟩
theorem own_leafJ (X : Stand p l e R s m args below meth c T locs cells slots) (hx : p.tables.exec = Jvm.exec) (hk : meth.locks = false) {pc : Nat} {Ls : Array Slot} {z : Int64} {rest : List Value} (hret : meth.sig.returnType = some .long) (hd : decode c.code pc = .ok (.lreturn, 1)) (hq : QQ (some (.long z)) T.heap locs) (h1 : cells ≤ rc) (h2 : slots ≤ rs) : own_End p e below s QQ rc rs T (mkF m pc Ls (.long z :: rest)) := by
  obtain ⟨fs, hr, hrun, hended, hW, hsame⟩ := X.leave (v := some (.long z)) (fun h => by rw [hret] at h; cases h) hk
  exact ⟨_, _, retJ X hx hret hd hr, hrun, hended, _, _, rfl, hq, ⟨_, rfl⟩, hW, hsame.mono h1 h2⟩
theorem own_leafR (X : Stand p l e R s m args below meth c T locs cells slots) (hx : p.tables.exec = Jvm.exec) (hk : meth.locks = false) {pc : Nat} {Ls : Array Slot} {z : Addr} {t : FieldType} {rest : List Value} (hret : meth.sig.returnType = some t) (ht : t.isReference = true) (hd : decode c.code pc = .ok (.areturn, 1)) (hq : QQ (some (.ref z)) T.heap locs) (h1 : cells ≤ rc) (h2 : slots ≤ rs) : own_End p e below s QQ rc rs T (mkF m pc Ls (.ref z :: rest)) := by
  obtain ⟨fs, hr, hrun, hended, hW, hsame⟩ := X.leave (v := some (.ref z)) (fun h => by rw [hret] at h; cases h) hk
  exact ⟨_, _, retR X hx hret ht hd hr, hrun, hended, _, _, rfl, hq, ⟨_, rfl⟩, hW, hsame.mono h1 h2⟩
theorem own_leafV (X : Stand p l e R s m args below meth c T locs cells slots) (hx : p.tables.exec = Jvm.exec) (hk : meth.locks = false) {pc : Nat} {Ls : Array Slot} (hret : meth.sig.returnType = none) (hd : decode c.code pc = .ok (.return_, 1)) (hq : QQ none T.heap locs) (h1 : cells ≤ rc) (h2 : slots ≤ rs) : own_End p e below s QQ rc rs T (mkF m pc Ls []) := by
  obtain ⟨fs, hr, hrun, hended, hW, hsame⟩ := X.leave (v := none) (fun _ => rfl) hk
  exact ⟨_, _, X.returnOut hx hret hd hr, hrun, hended, _, _, rfl, hq, ⟨_, rfl⟩, hW, hsame.mono h1 h2⟩
end Own
theorem own_nb0 : nar .boolean (0 : Int32) = 0 := by decide
theorem own_nb1 : nar .boolean (1 : Int32) = 1 := by decide
theorem own_oneif {P : Prop} [Decidable P] {x y : Slot} (hx : One x) (hy : One y) : One (if P then x else y) := by split <;> assumption

/-! arrays as lists; one step, one row -/
def own_IA (Z : State) (h : Heap) (a : Addr) (ty : FieldType) (L : List Int32) : Prop := ∃ k n, Arv Z h a k ty n (L.map Value.int) (.int 0) ∧ n.toInt = (L.length : Int)
def own_JA (Z : State) (h : Heap) (a : Addr) (L : List Int64) : Prop := ∃ k n, Arv Z h a k .long n (L.map Value.long) (.long 0) ∧ n.toInt = (L.length : Int)
theorem own_IA.keep {Z : State} {h h' : Heap} {a : Addr} {ty : FieldType} {L : List Int32} {ws : List Addr} (V : own_IA Z h a ty L) (K : Keep h h' ws) (q : a ∉ ws) : own_IA Z h' a ty L := by
  obtain ⟨k, n, A, e⟩ := V; exact ⟨k, n, A.keep K q, e⟩
theorem own_JA.keep {Z : State} {h h' : Heap} {a : Addr} {L : List Int64} {ws : List Addr} (V : own_JA Z h a L) (K : Keep h h' ws) (q : a ∉ ws) : own_JA Z h' a L := by
  obtain ⟨k, n, A, e⟩ := V; exact ⟨k, n, A.keep K q, e⟩
theorem own_IA.lt {Z : State} {h : Heap} {a : Addr} {ty : FieldType} {L : List Int32} (V : own_IA Z h a ty L) : a < h.size := by
  obtain ⟨k, n, A, e⟩ := V; exact A.lt
theorem own_JA.lt {Z : State} {h : Heap} {a : Addr} {L : List Int64} (V : own_JA Z h a L) : a < h.size := by
  obtain ⟨k, n, A, e⟩ := V; exact A.lt
theorem own_IA.len {Z : State} {h : Heap} {a : Addr} {ty : FieldType} {L : List Int32} (V : own_IA Z h a ty L) : (L.length : Int) < 2147483648 := by
  obtain ⟨k, n, A, e⟩ := V; have := rng32 n; omega
theorem own_keepE {h h' : Heap} (E : Ext h h') : Keep h h' [] := (Keep.refl h []).ext E
theorem own_ne {h : Heap} {x y : Addr} (hx : x < h.size) (hy : h.size ≤ y) : x ≠ y := Nat.ne_of_lt (Nat.lt_of_lt_of_le hx hy)
theorem own_clamp {j : Int32} (h : 0 ≤ j.toInt) : j.toNatClampNeg = j.toInt.toNat := rfl
theorem own_lt0 {n : Int32} (h : 0 ≤ n.toInt) : ¬ n < 0 := by
  rw [Int32.lt_iff_toInt_lt]; have : (0 : Int32).toInt = 0 := by decide
  omega
theorem own_in {j : Int32} {n m : Nat} (hn : n = m) (h : 0 ≤ j.toInt ∧ j.toInt < (m : Int)) : 0 ≤ j.toInt ∧ j.toInt < (n : Int) := hn ▸ h
theorem own_mapD (L : List Int32) (i : Nat) : (L.map Value.int).getD i (.int 0) = .int (L.getD i 0) := by
  simp only [List.getD_eq_getElem?_getD, List.getElem?_map]; cases L[i]? <;> rfl
theorem own_mapDJ (L : List Int64) (i : Nat) : (L.map Value.long).getD i (.long 0) = .long (L.getD i 0) := by
  simp only [List.getD_eq_getElem?_getD, List.getElem?_map]; cases L[i]? <;> rfl
theorem own_mapS {α β : Type} (f : α → β) (L : List α) (i : Nat) (x : α) : (L.map f).set i (f x) = (L.set i x).map f := by
  induction L generalizing i with
  | nil => rfl
  | cons y L ih => cases i with
    | zero => rfl
    | succ i => simp only [List.map_cons, List.set_cons_succ, ih]
section Heap
variable {p : Program} {l : Launch} {e : Env} {R : Room} {s : State} {m : MethodId} {args : Array Value} {below : List Frame} {meth : Method} {c : Code} {T : State} {locs : List Loc} {cells slots : Nat} {Z : State} {a0 : Array Value} {h : Heap} {n0 : Nat}
/-- newarray of ints, bytes, booleans, chars, shorts -/
theorem own_newA (X : Stand p l e R s m args below meth c T locs cells slots) (hx : p.tables.exec = Jvm.exec) (hZ : Z.Warmed39 s.vm) {aty : ArrayType} {ty : FieldType} (hty : newarray.typeOf aty = ty) (w : (Cond.arrayClass ty).before a0 Z = true) (hd0 : defaultValue ty = .int 0) (eT : T.heap = h) {g : JFrame} (hg : g.method = m) (hd : decode c.code g.pc = .ok (.newarray aty, 2)) {n : Int32} {rest : List Value} (hs : g.stack = .int n :: rest)
    (len : Nat) (hn : n.toInt = len) {cap : Nat} (hcap : len ≤ cap) (hb : cap * 8 ≤ 536870912) (hc : cells + 1 ≤ R.cells) (hl : slots + cap ≤ R.slots) :
    ∃ T' h' a, Stand p l e R s m args below meth c T' locs (cells + 1) (slots + cap) ∧ T'.heap = h' ∧ Keep h h' [] ∧ h.size ≤ a ∧ own_IA Z h' a ty (List.replicate len 0) ∧
      ∀ target, Steps p.tables e below (T'.setTop { g with pc := g.pc + 2, stack := .ref a :: rest }) target → Steps p.tables e below (T.setTop g) target := by
  subst hty
  have h0 : ¬ n < 0 := own_lt0 (by omega)
  obtain ⟨T', h', cA, X', e', E, A, st⟩ := newP X hx hZ w eT hg hd hs h0 (cap := cap) (by show n.toInt.toNat ≤ cap; omega) hb hc hl
  refine ⟨T', h', h.size, X', e', own_keepE E, Nat.le_refl _, ⟨cA, n, ?_, ?_⟩, st⟩
  · have V := (Arv.new A h0).pad (pad_rep [] _ len)
    rw [hd0] at V
    simpa using V
  · simpa using hn
theorem own_newJ (X : Stand p l e R s m args below meth c T locs cells slots) (hx : p.tables.exec = Jvm.exec) (hZ : Z.Warmed39 s.vm) (w : (Cond.arrayClass .long).before a0 Z = true) (eT : T.heap = h) {g : JFrame} (hg : g.method = m) (hd : decode c.code g.pc = .ok (.newarray .long, 2)) {n : Int32} {rest : List Value} (hs : g.stack = .int n :: rest)
    (len : Nat) (hn : n.toInt = len) {cap : Nat} (hcap : len ≤ cap) (hb : cap * 8 ≤ 536870912) (hc : cells + 1 ≤ R.cells) (hl : slots + cap ≤ R.slots) :
    ∃ T' h' a, Stand p l e R s m args below meth c T' locs (cells + 1) (slots + cap) ∧ T'.heap = h' ∧ Keep h h' [] ∧ h.size ≤ a ∧ own_JA Z h' a (List.replicate len 0) ∧
      ∀ target, Steps p.tables e below (T'.setTop { g with pc := g.pc + 2, stack := .ref a :: rest }) target → Steps p.tables e below (T.setTop g) target := by
  have h0 : ¬ n < 0 := own_lt0 (by omega)
  obtain ⟨T', h', cA, X', e', E, A, st⟩ := newP X hx hZ (aty := .long) w eT hg hd hs h0 (cap := cap) (by show n.toInt.toNat ≤ cap; omega) hb hc hl
  refine ⟨T', h', h.size, X', e', own_keepE E, Nat.le_refl _, ⟨cA, n, ?_, ?_⟩, st⟩
  · have V := (Arv.new A h0).pad (pad_rep [] _ len)
    have hd0 : defaultValue (newarray.typeOf .long) = .long 0 := rfl
    rw [hd0] at V
    have V' : Arv Z h' h.size cA .long n ([] ++ List.replicate len (Value.long 0)) (.long 0) := V
    simpa using V'
  · simpa using hn
theorem own_bounds {Z : State} {h : Heap} {a : Addr} {cl : Cell} {n j : Int32} {len : Nat} (S : cl.slots.size = n.toNatClampNeg) (hn : n.toInt = (len : Int)) (hj : 0 ≤ j.toInt ∧ j.toInt < (len : Int)) : ¬ (j < 0 ∨ cl.slots.size ≤ j.toNatClampNeg) := by
  have hn' : n.toNatClampNeg = n.toInt.toNat := rfl
  have hj' : j.toNatClampNeg = j.toInt.toNat := rfl
  rintro (q | q)
  · exact own_lt0 hj.1 q
  · omega
theorem own_ialoadI (X : Stand p l e R s m args below meth c T locs cells slots) (hx : p.tables.exec = Jvm.exec) (hZ : Z.Warmed39 s.vm) (eT : T.heap = h) {a : Addr} {L : List Int32} (V : own_IA Z h a .int L) {j : Int32} (hj : 0 ≤ j.toInt ∧ j.toInt < (L.length : Int)) {g : JFrame} (hg : g.method = m) {rest : List Value} (hs : g.stack = .int j :: .ref a :: rest) (hd : decode c.code g.pc = .ok (.iaload, 1)) :
    ∀ target, Steps p.tables e below (T.setTop { g with pc := g.pc + 1, stack := .int (L.getD j.toInt.toNat 0) :: rest }) target → Steps p.tables e below (T.setTop g) target := by
  obtain ⟨k, n, ⟨cl, A, q1, S, q3, H, G⟩, hn⟩ := V
  have hb := own_bounds (Z := Z) (h := h) (a := a) S hn hj
  exact X.iaload hx (j := j) (v := .int (L.getD j.toInt.toNat 0)) (by rw [eT]; exact A.1) (State.isArrayOf_alike hZ.alike A.2.1) A.2.2 hb (H.at hb (own_mapD L _)) hg hs hd
theorem own_baloadB (X : Stand p l e R s m args below meth c T locs cells slots) (hx : p.tables.exec = Jvm.exec) (hZ : Z.Warmed39 s.vm) (eT : T.heap = h) {a : Addr} {L : List Int32} (V : own_IA Z h a .byte L) {j : Int32} (hj : 0 ≤ j.toInt ∧ j.toInt < (L.length : Int)) {g : JFrame} (hg : g.method = m) {rest : List Value} (hs : g.stack = .int j :: .ref a :: rest) (hd : decode c.code g.pc = .ok (.baload, 1)) :
    ∀ target, Steps p.tables e below (T.setTop { g with pc := g.pc + 1, stack := .int (L.getD j.toInt.toNat 0) :: rest }) target → Steps p.tables e below (T.setTop g) target := by
  obtain ⟨k, n, ⟨cl, A, q1, S, q3, H, G⟩, hn⟩ := V
  have hb := own_bounds (Z := Z) (h := h) (a := a) S hn hj
  exact X.baloadBytes hx (j := j) (v := .int (L.getD j.toInt.toNat 0)) (by rw [eT]; exact A.1) (State.isArrayOf_alike hZ.alike A.2.1) A.2.2 hb (H.at hb (own_mapD L _)) hg hs hd
theorem own_baloadZ (X : Stand p l e R s m args below meth c T locs cells slots) (hx : p.tables.exec = Jvm.exec) (hZ : Z.Warmed39 s.vm) (eT : T.heap = h) {a : Addr} {L : List Int32} (V : own_IA Z h a .boolean L) {j : Int32} (hj : 0 ≤ j.toInt ∧ j.toInt < (L.length : Int)) {g : JFrame} (hg : g.method = m) {rest : List Value} (hs : g.stack = .int j :: .ref a :: rest) (hd : decode c.code g.pc = .ok (.baload, 1)) :
    ∀ target, Steps p.tables e below (T.setTop { g with pc := g.pc + 1, stack := .int (L.getD j.toInt.toNat 0) :: rest }) target → Steps p.tables e below (T.setTop g) target := by
  obtain ⟨k, n, ⟨cl, A, q1, S, q3, H, G⟩, hn⟩ := V
  have hb := own_bounds (Z := Z) (h := h) (a := a) S hn hj
  exact X.baloadBooleans hx (j := j) (v := .int (L.getD j.toInt.toNat 0)) (by rw [eT]; exact A.1) (State.isArrayOf_alike hZ.alike A.2.1) A.2.2 hb (H.at hb (own_mapD L _)) hg hs hd
theorem own_laloadJ (X : Stand p l e R s m args below meth c T locs cells slots) (hx : p.tables.exec = Jvm.exec) (hZ : Z.Warmed39 s.vm) (eT : T.heap = h) {a : Addr} {L : List Int64} (V : own_JA Z h a L) {j : Int32} (hj : 0 ≤ j.toInt ∧ j.toInt < (L.length : Int)) {g : JFrame} (hg : g.method = m) {rest : List Value} (hs : g.stack = .int j :: .ref a :: rest) (hd : decode c.code g.pc = .ok (.laload, 1)) :
    ∀ target, Steps p.tables e below (T.setTop { g with pc := g.pc + 1, stack := .long (L.getD j.toInt.toNat 0) :: rest }) target → Steps p.tables e below (T.setTop g) target := by
  obtain ⟨k, n, ⟨cl, A, q1, S, q3, H, G⟩, hn⟩ := V
  have hb := own_bounds (Z := Z) (h := h) (a := a) S hn hj
  exact X.laload hx (j := j) (v := .long (L.getD j.toInt.toNat 0)) (by rw [eT]; exact A.1) (State.isArrayOf_alike hZ.alike A.2.1) A.2.2 hb (H.at hb (own_mapDJ L _)) hg hs hd
theorem own_lenI (X : Stand p l e R s m args below meth c T locs cells slots) (hx : p.tables.exec = Jvm.exec) (hZ : Z.Warmed39 s.vm) (eT : T.heap = h) {a : Addr} {ty : FieldType} {L : List Int32} (V : own_IA Z h a ty L) {g : JFrame} (hg : g.method = m) {rest : List Value} (hs : g.stack = .ref a :: rest) (hd : decode c.code g.pc = .ok (.arraylength, 1)) :
    ∀ target, Steps p.tables e below (T.setTop { g with pc := g.pc + 1, stack := .int (Int32.ofNat L.length) :: rest }) target → Steps p.tables e below (T.setTop g) target := by
  have hl := V.len
  obtain ⟨k, n, ⟨cl, A, q1, S, q3, H, G⟩, hn⟩ := V
  intro t k
  refine X.arraylength hx (by rw [eT]; exact A.1) (State.isArrayOf_alike hZ.alike A.2.1) hg hs hd t ?_
  rw [len_of S q3]
  have e : n = Int32.ofNat L.length := by
    rw [← Int32.toInt_inj, Int32.toInt_ofNat_of_lt (by omega)]; exact hn
  rw [e]; exact k
theorem own_lenJ (X : Stand p l e R s m args below meth c T locs cells slots) (hx : p.tables.exec = Jvm.exec) (hZ : Z.Warmed39 s.vm) (eT : T.heap = h) {a : Addr} {L : List Int64} (V : own_JA Z h a L) {g : JFrame} (hg : g.method = m) {rest : List Value} (hs : g.stack = .ref a :: rest) (hd : decode c.code g.pc = .ok (.arraylength, 1)) :
    ∀ target, Steps p.tables e below (T.setTop { g with pc := g.pc + 1, stack := .int (Int32.ofNat L.length) :: rest }) target → Steps p.tables e below (T.setTop g) target := by
  obtain ⟨k, n, ⟨cl, A, q1, S, q3, H, G⟩, hn⟩ := V
  have hl := rng32 n
  intro t k
  refine X.arraylength hx (by rw [eT]; exact A.1) (State.isArrayOf_alike hZ.alike A.2.1) hg hs hd t ?_
  rw [len_of S q3]
  have e : n = Int32.ofNat L.length := by
    rw [← Int32.toInt_inj, Int32.toInt_ofNat_of_lt (by omega)]; exact hn
  rw [e]; exact k
theorem own_iastoreI (X : Stand p l e R s m args below meth c T locs cells slots) (hx : p.tables.exec = Jvm.exec) (hZ : Z.Warmed39 s.vm) (N : Fr n0 locs) (eT : T.heap = h) {a : Addr} {L : List Int32} (V : own_IA Z h a .int L) {j x : Int32} (hj : 0 ≤ j.toInt ∧ j.toInt < (L.length : Int)) (ha : n0 ≤ a) {g : JFrame} (hg : g.method = m) {rest : List Value} (hs : g.stack = .int x :: .int j :: .ref a :: rest) (hd : decode c.code g.pc = .ok (.iastore, 1)) :
    ∃ T' h' locs', Stand p l e R s m args below meth c T' locs' cells slots ∧ Fr n0 locs' ∧ T'.heap = h' ∧ Keep h h' [a] ∧ own_IA Z h' a .int (L.set j.toInt.toNat x) ∧
      ∀ target, Steps p.tables e below (T'.setTop { g with pc := g.pc + 1, stack := rest }) target → Steps p.tables e below (T.setTop g) target := by
  obtain ⟨k, n, ⟨cl, A, q1, S, q3, H, G⟩, hn⟩ := V
  have hb := own_bounds (Z := Z) (h := h) (a := a) S hn hj
  obtain ⟨T', h', X', e', W, st⟩ := stI X hx hZ eT A (j := j) hb hg hs hd
  have V' := Arv.set A q1 S q3 H G (v := .int x) rfl W j.toInt.toNat rfl (by simp only [List.length_map]; omega)
  rw [own_mapS] at V'
  exact ⟨T', h', _, X', Fr.snoc X' N ha, e', Keep.of_wr W, ⟨k, n, V', by simpa using hn⟩, st⟩
theorem own_bastoreB (X : Stand p l e R s m args below meth c T locs cells slots) (hx : p.tables.exec = Jvm.exec) (hZ : Z.Warmed39 s.vm) (N : Fr n0 locs) (eT : T.heap = h) {a : Addr} {L : List Int32} (V : own_IA Z h a .byte L) {j x : Int32} (hj : 0 ≤ j.toInt ∧ j.toInt < (L.length : Int)) (ha : n0 ≤ a) {g : JFrame} (hg : g.method = m) {rest : List Value} (hs : g.stack = .int x :: .int j :: .ref a :: rest) (hd : decode c.code g.pc = .ok (.bastore, 1)) :
    ∃ T' h' locs', Stand p l e R s m args below meth c T' locs' cells slots ∧ Fr n0 locs' ∧ T'.heap = h' ∧ Keep h h' [a] ∧ own_IA Z h' a .byte (L.set j.toInt.toNat (nar .byte x)) ∧
      ∀ target, Steps p.tables e below (T'.setTop { g with pc := g.pc + 1, stack := rest }) target → Steps p.tables e below (T.setTop g) target := by
  obtain ⟨k, n, ⟨cl, A, q1, S, q3, H, G⟩, hn⟩ := V
  have hb := own_bounds (Z := Z) (h := h) (a := a) S hn hj
  obtain ⟨T', h', X', e', W, st⟩ := stB X hx hZ eT A (j := j) hb hg hs hd
  have V' := Arv.set A q1 S q3 H G (v := .int (nar .byte x)) (fits_nar_byte _) W j.toInt.toNat rfl (by simp only [List.length_map]; omega)
  rw [own_mapS] at V'
  exact ⟨T', h', _, X', Fr.snoc X' N ha, e', Keep.of_wr W, ⟨k, n, V', by simpa using hn⟩, st⟩
theorem own_bastoreZ (X : Stand p l e R s m args below meth c T locs cells slots) (hx : p.tables.exec = Jvm.exec) (hZ : Z.Warmed39 s.vm) (N : Fr n0 locs) (eT : T.heap = h) {a : Addr} {L : List Int32} (V : own_IA Z h a .boolean L) {j x : Int32} (hj : 0 ≤ j.toInt ∧ j.toInt < (L.length : Int)) (ha : n0 ≤ a) {g : JFrame} (hg : g.method = m) {rest : List Value} (hs : g.stack = .int x :: .int j :: .ref a :: rest) (hd : decode c.code g.pc = .ok (.bastore, 1)) :
    ∃ T' h' locs', Stand p l e R s m args below meth c T' locs' cells slots ∧ Fr n0 locs' ∧ T'.heap = h' ∧ Keep h h' [a] ∧ own_IA Z h' a .boolean (L.set j.toInt.toNat (nar .boolean x)) ∧
      ∀ target, Steps p.tables e below (T'.setTop { g with pc := g.pc + 1, stack := rest }) target → Steps p.tables e below (T.setTop g) target := by
  obtain ⟨k, n, ⟨cl, A, q1, S, q3, H, G⟩, hn⟩ := V
  have hb := own_bounds (Z := Z) (h := h) (a := a) S hn hj
  obtain ⟨T', h', X', e', W, st⟩ := stZ X hx hZ eT A (j := j) hb hg hs hd
  have V' := Arv.set A q1 S q3 H G (v := .int (nar .boolean x)) (fits_nar_bool _) W j.toInt.toNat rfl (by simp only [List.length_map]; omega)
  rw [own_mapS] at V'
  exact ⟨T', h', _, X', Fr.snoc X' N ha, e', Keep.of_wr W, ⟨k, n, V', by simpa using hn⟩, st⟩
theorem own_lastoreJ (X : Stand p l e R s m args below meth c T locs cells slots) (hx : p.tables.exec = Jvm.exec) (hZ : Z.Warmed39 s.vm) (N : Fr n0 locs) (eT : T.heap = h) {a : Addr} {L : List Int64} (V : own_JA Z h a L) {j : Int32} {x : Int64} (hj : 0 ≤ j.toInt ∧ j.toInt < (L.length : Int)) (ha : n0 ≤ a) {g : JFrame} (hg : g.method = m) {rest : List Value} (hs : g.stack = .long x :: .int j :: .ref a :: rest) (hd : decode c.code g.pc = .ok (.lastore, 1)) :
    ∃ T' h' locs', Stand p l e R s m args below meth c T' locs' cells slots ∧ Fr n0 locs' ∧ T'.heap = h' ∧ Keep h h' [a] ∧ own_JA Z h' a (L.set j.toInt.toNat x) ∧
      ∀ target, Steps p.tables e below (T'.setTop { g with pc := g.pc + 1, stack := rest }) target → Steps p.tables e below (T.setTop g) target := by
  obtain ⟨k, n, ⟨cl, A, q1, S, q3, H, G⟩, hn⟩ := V
  have hb := own_bounds (Z := Z) (h := h) (a := a) S hn hj
  obtain ⟨T', h', X', e', W, st⟩ := stJ X hx hZ eT A (j := j) hb hg hs hd
  have V' := Arv.set A q1 S q3 H G (v := .long x) rfl W j.toInt.toNat rfl (by simp only [List.length_map]; omega)
  rw [own_mapS] at V'
  exact ⟨T', h', _, X', Fr.snoc X' N ha, e', Keep.of_wr W, ⟨k, n, V', by simpa using hn⟩, st⟩
/-- new -/
theorem own_new (X : Stand p l e R s m args below meth c T locs cells slots) (hx : p.tables.exec = Jvm.exec) (hZ : Z.Warmed39 s.vm) {own C : String} {index n : Nat} (hown : s.vm.findClass own = some m.cls) (w : (Cond.classLink own index C).before a0 Z = true) (wi : (Cond.instantiable C n).before a0 Z = true) (wz : (Cond.initialized C).before a0 Z = true) (eT : T.heap = h)
    {g : JFrame} (hg : g.method = m) (hd : decode c.code g.pc = .ok (.new index, 3)) (hc : cells + 1 ≤ R.cells) (hl : slots + n ≤ R.slots) :
    ∃ T' h' a, Stand p l e R s m args below meth c T' locs (cells + 1) (slots + n) ∧ T'.heap = h' ∧ Keep h h' [] ∧ h.size ≤ a ∧ Exa Z h' a C ∧ (∀ {O nm d : String} {ty : FieldType}, Laid Z a0 C O nm d → parseFieldDescriptor d = some ty → Fld Z h' a O nm d (defaultValue ty)) ∧
      ∀ target, Steps p.tables e below (T'.setTop { g with pc := g.pc + 3, stack := .ref a :: g.stack }) target → Steps p.tables e below (T.setTop g) target := by
  obtain ⟨T', h', X', e', E, A, D, -, st⟩ := newO X hx hZ hown w wi wz eT hg hd hc hl
  exact ⟨T', h', h.size, X', e', own_keepE E, Nat.le_refl _, A, D, st⟩
end Heap
theorem own_mask7 (p : Int32) : 0 ≤ (p &&& (7 : Int32)).toInt ∧ (p &&& (7 : Int32)).toInt ≤ 7 := by
  have : (p &&& (7 : Int32)).toInt = p.toInt % (2 ^ 3 : Nat) := c_mask p 7 3 (by decide) (by decide)
  omega
theorem own_sum3 {x y z p q r : Int32} (hx : x = (p &&& (7 : Int32))) (hy : y = (q &&& (7 : Int32))) (hz : z = (r &&& (7 : Int32))) : 0 ≤ ((x + y) + z).toInt ∧ ((x + y) + z).toInt ≤ 21 := by
  have h1 := own_mask7 p
  have h2 := own_mask7 q
  have h3 := own_mask7 r
  rw [← hx] at h1
  rw [← hy] at h2
  rw [← hz] at h3
  have a1 := c_iadd x y
  have a2 := c_iadd (x + y) z
  have r1 := rng32 (x + y)
  have r2 := rng32 (x + y + z)
  omega
theorem own_pd0 : parseMethodDescriptor "([I[I)V" = some ⟨[(.array .int), (.array .int)], none⟩ := by decide +kernel
theorem own_pd1 : parseMethodDescriptor "(I)I" = some ⟨[.int], some .int⟩ := by decide +kernel
theorem own_d1_0 : decode prog_93_method_1_code 0 = .ok (.aload_n 0, 1) := by decide +kernel
theorem own_d1_1 : decode prog_93_method_1_code 1 = .ok (.invokespecial 1, 3) := by decide +kernel
theorem own_d1_4 : decode prog_93_method_1_code 4 = .ok (.aload_n 0, 1) := by decide +kernel
theorem own_d1_5 : decode prog_93_method_1_code 5 = .ok (.aload_n 1, 1) := by decide +kernel
theorem own_d1_6 : decode prog_93_method_1_code 6 = .ok (.putfield 7, 3) := by decide +kernel
theorem own_d1_9 : decode prog_93_method_1_code 9 = .ok (.aload_n 0, 1) := by decide +kernel
theorem own_d1_10 : decode prog_93_method_1_code 10 = .ok (.aload_n 2, 1) := by decide +kernel
theorem own_d1_11 : decode prog_93_method_1_code 11 = .ok (.putfield 13, 3) := by decide +kernel
theorem own_d1_14 : decode prog_93_method_1_code 14 = .ok (.return_, 1) := by decide +kernel
theorem own_pn1 : plainName "com/example/overlaid_graphs/overlaidgraphs/graph/Embedding" = true := by first | (simp [plainName, overriddenIn]; done) | decide +kernel
theorem own_ef1 (m : MethodId) (o0 : Addr) (o1 : Addr) (o2 : Addr) : entryFrame m #[(.ref o0), (.ref o1), (.ref o2)] 3 = mkF m 0 #[.val (.ref o0), .val (.ref o1), .val (.ref o2)] [] := by first | (simp [entryFrame, mkF, argsToLocals, Value.category]; done) | rfl
abbrev own_R1 : Room := { frames := 1, cells := 0, slots := 0, locals := 12 }
def own_Q1 (Z : State) (o0 : Addr) (o1 : Addr) (o2 : Addr) (h0 : Heap) (n0 : Nat) (vz : Option Value) (h : Heap) (Lz : List Loc) : Prop := vz = none ∧ Fr n0 Lz ∧ Keep h0 h [o0] ∧ Exa Z h o0 "com/example/overlaid_graphs/overlaidgraphs/graph/Embedding" ∧ Fld Z h o0 "com/example/overlaid_graphs/overlaidgraphs/graph/Embedding" "mStart" "[I" (.ref o1) ∧ True
set_option maxRecDepth 65536 in
set_option maxHeartbeats 40000000 in
theorem own_rm1 (l : Launch) (Z : State) (a0 : Array Value) (hw : ∀ d ∈ tables_1, d.before a0 Z = true) (ws : List Jvm.Cond) (o0 : Addr) (o1 : Addr) (o2 : Addr) (h0 : Heap) (n0 : Nat) (Z0 : n0 ≤ h0.size) (E_o0 : Exa Z h0 o0 "com/example/overlaid_graphs/overlaidgraphs/graph/Embedding") (F_o0_mStart : Fld Z h0 o0 "com/example/overlaid_graphs/overlaidgraphs/graph/Embedding" "mStart" "[I" .null) (F_o0_mAround : Fld Z h0 o0 "com/example/overlaid_graphs/overlaidgraphs/graph/Embedding" "mAround" "[I" .null) (g_o0 : n0 ≤ o0) :
    MetFree l (⟨"com/example/overlaid_graphs/overlaidgraphs/graph/Embedding", "<init>", "([I[I)V"⟩ : MethodName) (head1 (Jvm.Cond.code (⟨"com/example/overlaid_graphs/overlaidgraphs/graph/Embedding", "<init>", "([I[I)V"⟩ : MethodName) prog_93_method_1_code 3 none :: ws) own_R1) (fun a U => a = #[(.ref o0), (.ref o1), (.ref o2)] ∧ Z.Warmed39 U.vm ∧ U.heap = h0) (fun _ _ _ _ _ => True) (fun _ U o U' => ∃ vz Lz, o = .returned vz ∧ own_Q1 Z o0 o1 o2 h0 n0 vz U'.heap Lz ∧ FrameEnd U o U' Lz own_R1.cells own_R1.slots) := by
  refine MetFree.of_bodySF (plainFor_of_name own_pn1) hisR ?_
  intro p e s m args below meth c s₁ Bd hml0 hP hK
  obtain ⟨rfl, hZ, hh⟩ := hP
  have hx := Bd.exec
  have hby := Bd.bytes
  have hml : c.maxLocals = 3 := hml0
  have hown : s.vm.findClass "com/example/overlaid_graphs/overlaidgraphs/graph/Embedding" = some m.cls := findClass_of_methodNamed Bd.named
  have hnm := (name_of_methodNamed Bd.named Bd.method).1
  have X0 : Stand p l e own_R1 s m #[(.ref o0), (.ref o1), (.ref o2)] below meth c s₁ [] 0 0 := Stand.of_body Bd
  have e0 : s₁.heap = h0 := by rw [← hh, Bd.state]; rfl
  show own_End p e below s (fun vz h Lz => vz = none ∧ Fr n0 Lz ∧ Keep h0 h [o0] ∧ Exa Z h o0 "com/example/overlaid_graphs/overlaidgraphs/graph/Embedding" ∧ Fld Z h o0 "com/example/overlaid_graphs/overlaidgraphs/graph/Embedding" "mStart" "[I" (.ref o1) ∧ True) own_R1.cells own_R1.slots s₁ (entryFrame m #[(.ref o0), (.ref o1), (.ref o2)] 3)
  refine own_End.go (fun t k => castTop (own_ef1 m o0 o1 o2) k) ?_
  show own_End p e below s _ _ _ s₁ (mkF m 0 #[.val (.ref o0), .val (.ref o1), .val (.ref o2)] [])
  have N0 := Fr.nil n0
  have K0 : Keep h0 h0 [o0] := Keep.refl h0 _
  have st1 : ∀ t, Steps p.tables e below (s₁.setTop (mkF m 1 #[.val (.ref o0), .val (.ref o1), .val (.ref o2)] [(.ref o0)])) t → Steps p.tables e below (s₁.setTop (mkF m 0 #[.val (.ref o0), .val (.ref o1), .val (.ref o2)] [])) t := by
    intro t k
    show Steps p.tables e below (s₁.setTop (mkF m 0 #[.val (.ref o0), .val (.ref o1), .val (.ref o2)] [])) _
    refine XS.aloadN X0.here hx rfl (hb hby own_d1_0) rfl rfl ?_
    exact k
  obtain ⟨T2, X2, e2, st2⟩ := initO X0 hx hZ hown (hw _ (List.mem_of_getElem? (i := 7) rfl)) (hw _ (List.mem_of_getElem? (i := 8) rfl)) (hw _ (List.mem_of_getElem? (i := 9) rfl)) e0 (g := (mkF m 1 #[.val (.ref o0), .val (.ref o1), .val (.ref o2)] [(.ref o0)])) rfl (by rw [hml]; rfl) rfl (hb hby own_d1_1) (by decide) (W := 0) (by show 2 * 0 + _ ≤ _; exact Nat.le_of_eq rfl) (by decide)
  have st3 : ∀ t, Steps p.tables e below (T2.setTop (mkF m 6 #[.val (.ref o0), .val (.ref o1), .val (.ref o2)] [(.ref o1), (.ref o0)])) t → Steps p.tables e below (T2.setTop (mkF m 4 #[.val (.ref o0), .val (.ref o1), .val (.ref o2)] [])) t := by
    intro t k
    show Steps p.tables e below (T2.setTop (mkF m 4 #[.val (.ref o0), .val (.ref o1), .val (.ref o2)] [])) _
    refine XS.aloadN X2.here hx rfl (hb hby own_d1_4) rfl rfl ?_
    show Steps p.tables e below (T2.setTop (mkF m 5 #[.val (.ref o0), .val (.ref o1), .val (.ref o2)] [(.ref o0)])) _
    refine XS.aloadN X2.here hx rfl (hb hby own_d1_5) rfl rfl ?_
    exact k
  obtain ⟨T4, h4, X4, e4, W4, st4⟩ := putF X2 hx hZ hown (host := "") (Or.inl (hw _ (List.mem_of_getElem? (i := 10) rfl))) Via.refl e2 F_o0_mStart E_o0 (Or.inr ⟨(hw _ (List.mem_of_getElem? (i := 11) rfl)), rfl, hnm⟩) (hw _ (List.mem_of_getElem? (i := 2) rfl)) (ty := (.array .int)) (by decide) rfl rfl (g := (mkF m 6 #[.val (.ref o0), .val (.ref o1), .val (.ref o2)] [(.ref o1), (.ref o0)])) rfl rfl (hb hby own_d1_6)
  obtain ⟨L4, X4, N4⟩ : ∃ L : List Loc, Stand p l e own_R1 s m #[(.ref o0), (.ref o1), (.ref o2)] below meth c T4 L 0 0 ∧ Fr n0 L := ⟨_, X4, Fr.snoc X4 N0 g_o0⟩
  have K4 := Keep.of_wr W4
  have Fw4 : Fld Z h4 o0 "com/example/overlaid_graphs/overlaidgraphs/graph/Embedding" "mStart" "[I" (.ref o1) := F_o0_mStart.same W4
  have Ew4 : Exa Z h4 o0 "com/example/overlaid_graphs/overlaidgraphs/graph/Embedding" := E_o0.wr W4
  have Fo5 : Fld Z h4 o0 "com/example/overlaid_graphs/overlaidgraphs/graph/Embedding" "mAround" "[I" .null := F_o0_mAround.other W4 (Or.inr (slot_ne (Or.inr (hw _ (List.mem_of_getElem? (i := 13) rfl))) (Or.inr (hw _ (List.mem_of_getElem? (i := 11) rfl))) (by decide) (t := (.array .int)) (t' := (.array .int)) (by decide) (by decide)))
  have Zp6 : n0 ≤ h4.size := Nat.le_trans Z0 K4.1
  have Kz6 : Keep h0 h4 [o0] := K0.trans K4 (allS (Or.inl (List.mem_of_getElem? (i := 0) rfl)) all0)
  have st7 : ∀ t, Steps p.tables e below (T4.setTop (mkF m 11 #[.val (.ref o0), .val (.ref o1), .val (.ref o2)] [(.ref o2), (.ref o0)])) t → Steps p.tables e below (T4.setTop (mkF m 9 #[.val (.ref o0), .val (.ref o1), .val (.ref o2)] [])) t := by
    intro t k
    show Steps p.tables e below (T4.setTop (mkF m 9 #[.val (.ref o0), .val (.ref o1), .val (.ref o2)] [])) _
    refine XS.aloadN X4.here hx rfl (hb hby own_d1_9) rfl rfl ?_
    show Steps p.tables e below (T4.setTop (mkF m 10 #[.val (.ref o0), .val (.ref o1), .val (.ref o2)] [(.ref o0)])) _
    refine XS.aloadN X4.here hx rfl (hb hby own_d1_10) rfl rfl ?_
    exact k
  obtain ⟨T8, h8, X8, e8, W8, st8⟩ := putF X4 hx hZ hown (host := "") (Or.inl (hw _ (List.mem_of_getElem? (i := 12) rfl))) Via.refl e4 Fo5 Ew4 (Or.inr ⟨(hw _ (List.mem_of_getElem? (i := 13) rfl)), rfl, hnm⟩) (hw _ (List.mem_of_getElem? (i := 2) rfl)) (ty := (.array .int)) (by decide) rfl rfl (g := (mkF m 11 #[.val (.ref o0), .val (.ref o1), .val (.ref o2)] [(.ref o2), (.ref o0)])) rfl rfl (hb hby own_d1_11)
  obtain ⟨L8, X8, N8⟩ : ∃ L : List Loc, Stand p l e own_R1 s m #[(.ref o0), (.ref o1), (.ref o2)] below meth c T8 L 0 0 ∧ Fr n0 L := ⟨_, X8, Fr.snoc X8 N4 g_o0⟩
  have K8 := Keep.of_wr W8
  have Fw8 : Fld Z h8 o0 "com/example/overlaid_graphs/overlaidgraphs/graph/Embedding" "mAround" "[I" (.ref o2) := Fo5.same W8
  have Ew8 : Exa Z h8 o0 "com/example/overlaid_graphs/overlaidgraphs/graph/Embedding" := Ew4.wr W8
  have Fo9 : Fld Z h8 o0 "com/example/overlaid_graphs/overlaidgraphs/graph/Embedding" "mStart" "[I" (.ref o1) := Fw4.other W8 (Or.inr (slot_ne (Or.inr (hw _ (List.mem_of_getElem? (i := 11) rfl))) (Or.inr (hw _ (List.mem_of_getElem? (i := 13) rfl))) (by decide) (t := (.array .int)) (t' := (.array .int)) (by decide) (by decide)))
  have Zp10 : n0 ≤ h8.size := Nat.le_trans Zp6 K8.1
  have Kz10 : Keep h0 h8 [o0] := Kz6.trans K8 (allS (Or.inl (List.mem_of_getElem? (i := 0) rfl)) all0)
  refine own_End.go (fun t k => st1 _ (st2 _ (st3 _ (st4 _ (st7 _ (st8 _ k)))))) ?_
  exact own_leafV X8 hx Bd.notSynchronized Bd.returns (hb hby own_d1_14) ⟨rfl, N8, (by rw [e8]; exact Kz10), (by rw [e8]; exact Ew8), (by rw [e8]; exact Fo9), trivial⟩ (by decide) (by decide)
theorem own_d3_0 : decode prog_93_method_4_code 0 = .ok (.aload_n 0, 1) := by decide +kernel
theorem own_d3_1 : decode prog_93_method_4_code 1 = .ok (.getfield 7, 3) := by decide +kernel
theorem own_d3_4 : decode prog_93_method_4_code 4 = .ok (.iload_n 1, 1) := by decide +kernel
theorem own_d3_5 : decode prog_93_method_4_code 5 = .ok (.iconst 1, 1) := by decide +kernel
theorem own_d3_6 : decode prog_93_method_4_code 6 = .ok (.iadd, 1) := by decide +kernel
theorem own_d3_7 : decode prog_93_method_4_code 7 = .ok (.iaload, 1) := by decide +kernel
theorem own_d3_8 : decode prog_93_method_4_code 8 = .ok (.aload_n 0, 1) := by decide +kernel
theorem own_d3_9 : decode prog_93_method_4_code 9 = .ok (.getfield 7, 3) := by decide +kernel
theorem own_d3_12 : decode prog_93_method_4_code 12 = .ok (.iload_n 1, 1) := by decide +kernel
theorem own_d3_13 : decode prog_93_method_4_code 13 = .ok (.iaload, 1) := by decide +kernel
theorem own_d3_14 : decode prog_93_method_4_code 14 = .ok (.isub, 1) := by decide +kernel
theorem own_d3_15 : decode prog_93_method_4_code 15 = .ok (.ireturn, 1) := by decide +kernel
theorem own_pn3 : plainName "com/example/overlaid_graphs/overlaidgraphs/graph/Embedding" = true := by first | (simp [plainName, overriddenIn]; done) | decide +kernel
theorem own_ef3 (m : MethodId) (o0 : Addr) (p1 : Int32) : entryFrame m #[(.ref o0), (.int p1)] 2 = mkF m 0 #[.val (.ref o0), .val (.int p1)] [] := by first | (simp [entryFrame, mkF, argsToLocals, Value.category]; done) | rfl
abbrev own_R3 : Room := { frames := 0, cells := 0, slots := 0, locals := 0 }
def own_F3 (p1 : Int32) (L : List Int32) : Int32 :=
  ((List.getD L ((p1 + (1 : Int32))).toInt.toNat 0) - (List.getD L (p1).toInt.toNat 0))
def own_Q3 (Z : State) (o0 : Addr) (p1 : Int32) (b : Addr) (L : List Int32) (h0 : Heap) (n0 : Nat) (vz : Option Value) (h : Heap) (Lz : List Loc) : Prop := vz = some (.int (own_F3 p1 L)) ∧ Lz = [] ∧ h = h0
set_option maxRecDepth 65536 in
set_option maxHeartbeats 40000000 in
theorem own_rm3 (l : Launch) (Z : State) (a0 : Array Value) (hw : ∀ d ∈ tables_1, d.before a0 Z = true) (ws : List Jvm.Cond) (o0 : Addr) (p1 : Int32) (b : Addr) (L : List Int32) (h0 : Heap) (n0 : Nat) (Z0 : n0 ≤ h0.size) (F_o0_mStart : Fld Z h0 o0 "com/example/overlaid_graphs/overlaidgraphs/graph/Embedding" "mStart" "[I" (.ref b)) (V_b : own_IA Z h0 b .int L) (hi : 0 ≤ p1.toInt ∧ p1.toInt < (L.length : Int)) (hj : 0 ≤ (p1 + (1 : Int32)).toInt ∧ (p1 + (1 : Int32)).toInt < (L.length : Int)) :
    MetFree l (⟨"com/example/overlaid_graphs/overlaidgraphs/graph/Embedding", "degree", "(I)I"⟩ : MethodName) (head1 (Jvm.Cond.code (⟨"com/example/overlaid_graphs/overlaidgraphs/graph/Embedding", "degree", "(I)I"⟩ : MethodName) prog_93_method_4_code 2 (some .int) :: ws) own_R3) (fun a U => a = #[(.ref o0), (.int p1)] ∧ Z.Warmed39 U.vm ∧ U.heap = h0) (fun _ _ _ _ _ => True) (fun _ U o U' => ∃ vz Lz, o = .returned vz ∧ own_Q3 Z o0 p1 b L h0 n0 vz U'.heap Lz ∧ FrameEnd U o U' Lz own_R3.cells own_R3.slots) := by
  refine MetFree.of_bodySF (plainFor_of_name own_pn3) hisR ?_
  intro p e s m args below meth c s₁ Bd hml0 hP hK
  obtain ⟨rfl, hZ, hh⟩ := hP
  have hx := Bd.exec
  have hby := Bd.bytes
  have hml : c.maxLocals = 2 := hml0
  have hown : s.vm.findClass "com/example/overlaid_graphs/overlaidgraphs/graph/Embedding" = some m.cls := findClass_of_methodNamed Bd.named
  have hnm := (name_of_methodNamed Bd.named Bd.method).1
  have X0 : Stand p l e own_R3 s m #[(.ref o0), (.int p1)] below meth c s₁ [] 0 0 := Stand.of_body Bd
  have e0 : s₁.heap = h0 := by rw [← hh, Bd.state]; rfl
  show own_End p e below s (fun vz h Lz => vz = some (.int (own_F3 p1 L)) ∧ Lz = [] ∧ h = h0) own_R3.cells own_R3.slots s₁ (entryFrame m #[(.ref o0), (.int p1)] 2)
  refine own_End.go (fun t k => castTop (own_ef3 m o0 p1) k) ?_
  show own_End p e below s _ _ _ s₁ (mkF m 0 #[.val (.ref o0), .val (.int p1)] [])
  have N0 := Fr.nil n0
  have K0 : Keep h0 h0 [] := Keep.refl h0 _
  have st1 : ∀ t, Steps p.tables e below (s₁.setTop (mkF m 1 #[.val (.ref o0), .val (.int p1)] [(.ref o0)])) t → Steps p.tables e below (s₁.setTop (mkF m 0 #[.val (.ref o0), .val (.int p1)] [])) t := by
    intro t k
    show Steps p.tables e below (s₁.setTop (mkF m 0 #[.val (.ref o0), .val (.int p1)] [])) _
    refine XS.aloadN X0.here hx rfl (hb hby own_d3_0) rfl rfl ?_
    exact k
  obtain ⟨T2, X2, e2, st2⟩ := getF X0 hx hZ hown (host := "") (Or.inl (hw _ (List.mem_of_getElem? (i := 10) rfl))) Via.refl e0 F_o0_mStart (g := (mkF m 1 #[.val (.ref o0), .val (.int p1)] [(.ref o0)])) rfl rfl (hb hby own_d3_1)
  have st3 : ∀ t, Steps p.tables e below (T2.setTop (mkF m 9 #[.val (.ref o0), .val (.int p1)] [(.ref o0), (.int (List.getD L ((p1 + (1 : Int32))).toInt.toNat 0))])) t → Steps p.tables e below (T2.setTop (mkF m 4 #[.val (.ref o0), .val (.int p1)] [(.ref b)])) t := by
    intro t k
    show Steps p.tables e below (T2.setTop (mkF m 4 #[.val (.ref o0), .val (.int p1)] [(.ref b)])) _
    refine XS.iloadN X2.here hx rfl (hb hby own_d3_4) rfl ?_
    show Steps p.tables e below (T2.setTop (mkF m 5 #[.val (.ref o0), .val (.int p1)] [(.int p1), (.ref b)])) _
    refine XS.iconst X2.here hx rfl (hb hby own_d3_5) ?_
    show Steps p.tables e below (T2.setTop (mkF m 6 #[.val (.ref o0), .val (.int p1)] [(.int (1 : Int32)), (.int p1), (.ref b)])) _
    refine XS.iadd X2.here hx rfl (hb hby own_d3_6) rfl ?_
    show Steps p.tables e below (T2.setTop (mkF m 7 #[.val (.ref o0), .val (.int p1)] [(.int (p1 + (1 : Int32))), (.ref b)])) _
    refine own_ialoadI X2 hx hZ e2 V_b (j := (p1 + (1 : Int32))) hj (g := (mkF m 7 #[.val (.ref o0), .val (.int p1)] [(.int (p1 + (1 : Int32))), (.ref b)])) rfl rfl (hb hby own_d3_7) _ ?_
    show Steps p.tables e below (T2.setTop (mkF m 8 #[.val (.ref o0), .val (.int p1)] [(.int (List.getD L ((p1 + (1 : Int32))).toInt.toNat 0))])) _
    refine XS.aloadN X2.here hx rfl (hb hby own_d3_8) rfl rfl ?_
    exact k
  obtain ⟨T4, X4, e4, st4⟩ := getF X2 hx hZ hown (host := "") (Or.inl (hw _ (List.mem_of_getElem? (i := 10) rfl))) Via.refl e2 F_o0_mStart (g := (mkF m 9 #[.val (.ref o0), .val (.int p1)] [(.ref o0), (.int (List.getD L ((p1 + (1 : Int32))).toInt.toNat 0))])) rfl rfl (hb hby own_d3_9)
  have st5 : ∀ t, Steps p.tables e below (T4.setTop (mkF m 15 #[.val (.ref o0), .val (.int p1)] [(.int ((List.getD L ((p1 + (1 : Int32))).toInt.toNat 0) - (List.getD L (p1).toInt.toNat 0)))])) t → Steps p.tables e below (T4.setTop (mkF m 12 #[.val (.ref o0), .val (.int p1)] [(.ref b), (.int (List.getD L ((p1 + (1 : Int32))).toInt.toNat 0))])) t := by
    intro t k
    show Steps p.tables e below (T4.setTop (mkF m 12 #[.val (.ref o0), .val (.int p1)] [(.ref b), (.int (List.getD L ((p1 + (1 : Int32))).toInt.toNat 0))])) _
    refine XS.iloadN X4.here hx rfl (hb hby own_d3_12) rfl ?_
    show Steps p.tables e below (T4.setTop (mkF m 13 #[.val (.ref o0), .val (.int p1)] [(.int p1), (.ref b), (.int (List.getD L ((p1 + (1 : Int32))).toInt.toNat 0))])) _
    refine own_ialoadI X4 hx hZ e4 V_b (j := p1) hi (g := (mkF m 13 #[.val (.ref o0), .val (.int p1)] [(.int p1), (.ref b), (.int (List.getD L ((p1 + (1 : Int32))).toInt.toNat 0))])) rfl rfl (hb hby own_d3_13) _ ?_
    show Steps p.tables e below (T4.setTop (mkF m 14 #[.val (.ref o0), .val (.int p1)] [(.int (List.getD L (p1).toInt.toNat 0)), (.int (List.getD L ((p1 + (1 : Int32))).toInt.toNat 0))])) _
    refine XS.isub X4.here hx rfl (hb hby own_d3_14) rfl ?_
    exact k
  refine own_End.go (fun t k => st1 _ (st2 _ (st3 _ (st4 _ (st5 _ k))))) ?_
  exact own_leafI X4 hx Bd.notSynchronized Bd.returns (hb hby own_d3_15) ⟨congrArg (fun z => some (Value.int z)) (by
      simp only [own_F3, own_nb0, own_nb1]), rfl, e4⟩ (by decide) (by decide)
theorem own_pn0 : plainName "com/example/overlaid_graphs/overlaidgraphs/graph/EmbeddingDegreePinLaw" = true := by first | (simp [plainName, overriddenIn]; done) | decide +kernel
theorem own_ef0 (m : MethodId) (p0 : Int32) (p1 : Int32) (p2 : Int32) : entryFrame m #[(.int p0), (.int p1), (.int p2)] maxLocals = mkF m 0 #[.val (.int p0), .val (.int p1), .val (.int p2), .unset, .unset, .unset, .unset, .unset, .unset] [] := by first | (simp [entryFrame, mkF, argsToLocals, Value.category, maxLocals]; done) | rfl
def own_F0 (p0 : Int32) (p1 : Int32) (p2 : Int32) : Int32 :=
  let v1 : Int32 := (p0 &&& (7 : Int32))
  let v3 : Int32 := (p1 &&& (7 : Int32))
  let v5 : Int32 := (p2 &&& (7 : Int32))
  let v38 : Int32 := (own_F3 (0 : Int32) ([(0 : Int32), v1, (v1 + v3), ((v1 + v3) + v5)] : List Int32))
  if v38 = v1 then
    let v43 : Int32 := (own_F3 (1 : Int32) ([(0 : Int32), v1, (v1 + v3), ((v1 + v3) + v5)] : List Int32))
    if v43 = v3 then
      let v48 : Int32 := (own_F3 (2 : Int32) ([(0 : Int32), v1, (v1 + v3), ((v1 + v3) + v5)] : List Int32))
      if v48 = v5 then
        (1 : Int32)
      else
        (0 : Int32)
    else
      (0 : Int32)
  else
    (0 : Int32)
def own_Q0 (Z : State) (p0 : Int32) (p1 : Int32) (p2 : Int32) (h0 : Heap) (n0 : Nat) (vz : Option Value) (h : Heap) (Lz : List Loc) : Prop := vz = some (.int (own_F0 p0 p1 p2)) ∧ Fr n0 Lz
set_option maxRecDepth 65536 in
set_option maxHeartbeats 40000000 in
theorem own_rm0 (l : Launch) (Z : State) (a0 : Array Value) (hw : ∀ d ∈ tables_1, d.before a0 Z = true) (ws : List Jvm.Cond) (p0 : Int32) (p1 : Int32) (p2 : Int32) (h0 : Heap) (n0 : Nat) (Z0 : n0 ≤ h0.size) :
    MetFree l x (head1 (Jvm.Cond.code x code maxLocals ret :: ws) room_1) (fun a U => a = #[(.int p0), (.int p1), (.int p2)] ∧ Z.Warmed39 U.vm ∧ U.heap = h0) (fun _ _ _ _ _ => True) (fun _ U o U' => ∃ vz Lz, o = .returned vz ∧ own_Q0 Z p0 p1 p2 h0 n0 vz U'.heap Lz ∧ FrameEnd U o U' Lz room_1.cells room_1.slots) := by
  refine MetFree.of_bodySF (plainFor_of_name own_pn0) hisR ?_
  intro p e s m args below meth c s₁ Bd hml0 hP hK
  obtain ⟨rfl, hZ, hh⟩ := hP
  have hx := Bd.exec
  have hby := Bd.bytes
  have hml : c.maxLocals = 9 := hml0
  have hown : s.vm.findClass "com/example/overlaid_graphs/overlaidgraphs/graph/EmbeddingDegreePinLaw" = some m.cls := findClass_of_methodNamed Bd.named
  have hnm := (name_of_methodNamed Bd.named Bd.method).1
  have X0 : Stand p l e room_1 s m #[(.int p0), (.int p1), (.int p2)] below meth c s₁ [] 0 0 := Stand.of_body Bd
  have e0 : s₁.heap = h0 := by rw [← hh, Bd.state]; rfl
  show own_End p e below s (fun vz h Lz => vz = some (.int (own_F0 p0 p1 p2)) ∧ Fr n0 Lz) room_1.cells room_1.slots s₁ (entryFrame m #[(.int p0), (.int p1), (.int p2)] maxLocals)
  refine own_End.go (fun t k => castTop (own_ef0 m p0 p1 p2) k) ?_
  show own_End p e below s _ _ _ s₁ (mkF m 0 #[.val (.int p0), .val (.int p1), .val (.int p2), .unset, .unset, .unset, .unset, .unset, .unset] [])
  have N0 := Fr.nil n0
  obtain ⟨v1, hv1⟩ : ∃ z : Int32, z = (p0 &&& (7 : Int32)) := ⟨_, rfl⟩
  have st2 : ∀ t, Steps p.tables e below (s₁.setTop (mkF m 5 #[.val (.int p0), .val (.int p1), .val (.int p2), .val (.int v1), .unset, .unset, .unset, .unset, .unset] [])) t → Steps p.tables e below (s₁.setTop (mkF m 0 #[.val (.int p0), .val (.int p1), .val (.int p2), .unset, .unset, .unset, .unset, .unset, .unset] [])) t := by
    rw [hv1]
    intro t k
    show Steps p.tables e below (s₁.setTop (mkF m 0 #[.val (.int p0), .val (.int p1), .val (.int p2), .unset, .unset, .unset, .unset, .unset, .unset] [])) _
    refine XS.iloadN X0.here hx rfl (hb hby at_0) rfl ?_
    show Steps p.tables e below (s₁.setTop (mkF m 1 #[.val (.int p0), .val (.int p1), .val (.int p2), .unset, .unset, .unset, .unset, .unset, .unset] [(.int p0)])) _
    refine XS.bipush X0.here hx rfl (hb hby at_1) ?_
    show Steps p.tables e below (s₁.setTop (mkF m 3 #[.val (.int p0), .val (.int p1), .val (.int p2), .unset, .unset, .unset, .unset, .unset, .unset] [(.int (7 : Int32)), (.int p0)])) _
    refine XS.iand X0.here hx rfl (hb hby at_3) rfl ?_
    show Steps p.tables e below (s₁.setTop (mkF m 4 #[.val (.int p0), .val (.int p1), .val (.int p2), .unset, .unset, .unset, .unset, .unset, .unset] [(.int (p0 &&& (7 : Int32)))])) _
    refine XS.istoreN X0.here hx rfl (hb hby at_4) rfl (l' := #[.val (.int p0), .val (.int p1), .val (.int p2), .val (.int (p0 &&& (7 : Int32))), .unset, .unset, .unset, .unset, .unset]) rfl ?_
    exact k
  obtain ⟨v3, hv3⟩ : ∃ z : Int32, z = (p1 &&& (7 : Int32)) := ⟨_, rfl⟩
  have st4 : ∀ t, Steps p.tables e below (s₁.setTop (mkF m 11 #[.val (.int p0), .val (.int p1), .val (.int p2), .val (.int v1), .val (.int v3), .unset, .unset, .unset, .unset] [])) t → Steps p.tables e below (s₁.setTop (mkF m 5 #[.val (.int p0), .val (.int p1), .val (.int p2), .val (.int v1), .unset, .unset, .unset, .unset, .unset] [])) t := by
    rw [hv3]
    intro t k
    show Steps p.tables e below (s₁.setTop (mkF m 5 #[.val (.int p0), .val (.int p1), .val (.int p2), .val (.int v1), .unset, .unset, .unset, .unset, .unset] [])) _
    refine XS.iloadN X0.here hx rfl (hb hby at_5) rfl ?_
    show Steps p.tables e below (s₁.setTop (mkF m 6 #[.val (.int p0), .val (.int p1), .val (.int p2), .val (.int v1), .unset, .unset, .unset, .unset, .unset] [(.int p1)])) _
    refine XS.bipush X0.here hx rfl (hb hby at_6) ?_
    show Steps p.tables e below (s₁.setTop (mkF m 8 #[.val (.int p0), .val (.int p1), .val (.int p2), .val (.int v1), .unset, .unset, .unset, .unset, .unset] [(.int (7 : Int32)), (.int p1)])) _
    refine XS.iand X0.here hx rfl (hb hby at_8) rfl ?_
    show Steps p.tables e below (s₁.setTop (mkF m 9 #[.val (.int p0), .val (.int p1), .val (.int p2), .val (.int v1), .unset, .unset, .unset, .unset, .unset] [(.int (p1 &&& (7 : Int32)))])) _
    refine XS.istore X0.here hx rfl (hb hby at_9) rfl (l' := #[.val (.int p0), .val (.int p1), .val (.int p2), .val (.int v1), .val (.int (p1 &&& (7 : Int32))), .unset, .unset, .unset, .unset]) rfl ?_
    exact k
  obtain ⟨v5, hv5⟩ : ∃ z : Int32, z = (p2 &&& (7 : Int32)) := ⟨_, rfl⟩
  have st6 : ∀ t, Steps p.tables e below (s₁.setTop (mkF m 17 #[.val (.int p0), .val (.int p1), .val (.int p2), .val (.int v1), .val (.int v3), .val (.int v5), .unset, .unset, .unset] [])) t → Steps p.tables e below (s₁.setTop (mkF m 11 #[.val (.int p0), .val (.int p1), .val (.int p2), .val (.int v1), .val (.int v3), .unset, .unset, .unset, .unset] [])) t := by
    rw [hv5]
    intro t k
    show Steps p.tables e below (s₁.setTop (mkF m 11 #[.val (.int p0), .val (.int p1), .val (.int p2), .val (.int v1), .val (.int v3), .unset, .unset, .unset, .unset] [])) _
    refine XS.iloadN X0.here hx rfl (hb hby at_11) rfl ?_
    show Steps p.tables e below (s₁.setTop (mkF m 12 #[.val (.int p0), .val (.int p1), .val (.int p2), .val (.int v1), .val (.int v3), .unset, .unset, .unset, .unset] [(.int p2)])) _
    refine XS.bipush X0.here hx rfl (hb hby at_12) ?_
    show Steps p.tables e below (s₁.setTop (mkF m 14 #[.val (.int p0), .val (.int p1), .val (.int p2), .val (.int v1), .val (.int v3), .unset, .unset, .unset, .unset] [(.int (7 : Int32)), (.int p2)])) _
    refine XS.iand X0.here hx rfl (hb hby at_14) rfl ?_
    show Steps p.tables e below (s₁.setTop (mkF m 15 #[.val (.int p0), .val (.int p1), .val (.int p2), .val (.int v1), .val (.int v3), .unset, .unset, .unset, .unset] [(.int (p2 &&& (7 : Int32)))])) _
    refine XS.istore X0.here hx rfl (hb hby at_15) rfl (l' := #[.val (.int p0), .val (.int p1), .val (.int p2), .val (.int v1), .val (.int v3), .val (.int (p2 &&& (7 : Int32))), .unset, .unset, .unset]) rfl ?_
    exact k
  have st7 : ∀ t, Steps p.tables e below (s₁.setTop (mkF m 18 #[.val (.int p0), .val (.int p1), .val (.int p2), .val (.int v1), .val (.int v3), .val (.int v5), .unset, .unset, .unset] [(.int (4 : Int32))])) t → Steps p.tables e below (s₁.setTop (mkF m 17 #[.val (.int p0), .val (.int p1), .val (.int p2), .val (.int v1), .val (.int v3), .val (.int v5), .unset, .unset, .unset] [])) t := by
    intro t k
    show Steps p.tables e below (s₁.setTop (mkF m 17 #[.val (.int p0), .val (.int p1), .val (.int p2), .val (.int v1), .val (.int v3), .val (.int v5), .unset, .unset, .unset] [])) _
    refine XS.iconst X0.here hx rfl (hb hby at_17) ?_
    exact k
  obtain ⟨T8, h8, b8, X8, e8, K8, q8, V8, st8⟩ := own_newA X0 hx hZ (ty := .int) rfl (hw _ (List.mem_of_getElem? (i := 0) rfl)) rfl e0 (g := (mkF m 18 #[.val (.int p0), .val (.int p1), .val (.int p2), .val (.int v1), .val (.int v3), .val (.int v5), .unset, .unset, .unset] [(.int (4 : Int32))])) rfl (hb hby at_18) rfl (4) (by decide) (cap := 4) (by decide) (by decide) (by decide) (by decide)
  have X8 : Stand p l e room_1 s m #[(.int p0), (.int p1), (.int p2)] below meth c T8 [] 1 4 := X8
  have V8 : own_IA Z h8 b8 .int ([(0 : Int32), (0 : Int32), (0 : Int32), (0 : Int32)] : List Int32) := V8
  have g_b8 : n0 ≤ b8 := Nat.le_trans Z0 q8
  have Zp9 : n0 ≤ h8.size := Nat.le_trans Z0 K8.1
  have st10 : ∀ t, Steps p.tables e below (T8.setTop (mkF m 26 #[.val (.int p0), .val (.int p1), .val (.int p2), .val (.int v1), .val (.int v3), .val (.int v5), .val (.ref b8), .unset, .unset] [(.int (0 : Int32)), (.int (0 : Int32)), (.ref b8)])) t → Steps p.tables e below (T8.setTop (mkF m 20 #[.val (.int p0), .val (.int p1), .val (.int p2), .val (.int v1), .val (.int v3), .val (.int v5), .unset, .unset, .unset] [(.ref b8)])) t := by
    intro t k
    show Steps p.tables e below (T8.setTop (mkF m 20 #[.val (.int p0), .val (.int p1), .val (.int p2), .val (.int v1), .val (.int v3), .val (.int v5), .unset, .unset, .unset] [(.ref b8)])) _
    refine XS.astore X8.here hx rfl (hb hby at_20) rfl rfl (l' := #[.val (.int p0), .val (.int p1), .val (.int p2), .val (.int v1), .val (.int v3), .val (.int v5), .val (.ref b8), .unset, .unset]) rfl ?_
    show Steps p.tables e below (T8.setTop (mkF m 22 #[.val (.int p0), .val (.int p1), .val (.int p2), .val (.int v1), .val (.int v3), .val (.int v5), .val (.ref b8), .unset, .unset] [])) _
    refine XS.aload X8.here hx rfl (hb hby at_22) rfl rfl ?_
    show Steps p.tables e below (T8.setTop (mkF m 24 #[.val (.int p0), .val (.int p1), .val (.int p2), .val (.int v1), .val (.int v3), .val (.int v5), .val (.ref b8), .unset, .unset] [(.ref b8)])) _
    refine XS.iconst X8.here hx rfl (hb hby at_24) ?_
    show Steps p.tables e below (T8.setTop (mkF m 25 #[.val (.int p0), .val (.int p1), .val (.int p2), .val (.int v1), .val (.int v3), .val (.int v5), .val (.ref b8), .unset, .unset] [(.int (0 : Int32)), (.ref b8)])) _
    refine XS.iconst X8.here hx rfl (hb hby at_25) ?_
    exact k
  obtain ⟨T11, h11, L11, X11, N11, e11, K11, V11, st11⟩ := own_iastoreI X8 hx hZ N0 e8 V8 (j := (0 : Int32)) (own_in (m := 4) rfl (by decide)) g_b8 (g := (mkF m 26 #[.val (.int p0), .val (.int p1), .val (.int p2), .val (.int v1), .val (.int v3), .val (.int v5), .val (.ref b8), .unset, .unset] [(.int (0 : Int32)), (.int (0 : Int32)), (.ref b8)])) rfl rfl (hb hby at_26)
  have V11 : own_IA Z h11 b8 .int ([(0 : Int32), (0 : Int32), (0 : Int32), (0 : Int32)] : List Int32) := V11
  have Zp12 : n0 ≤ h11.size := Nat.le_trans Zp9 K11.1
  have st13 : ∀ t, Steps p.tables e below (T11.setTop (mkF m 31 #[.val (.int p0), .val (.int p1), .val (.int p2), .val (.int v1), .val (.int v3), .val (.int v5), .val (.ref b8), .unset, .unset] [(.int v1), (.int (1 : Int32)), (.ref b8)])) t → Steps p.tables e below (T11.setTop (mkF m 27 #[.val (.int p0), .val (.int p1), .val (.int p2), .val (.int v1), .val (.int v3), .val (.int v5), .val (.ref b8), .unset, .unset] [])) t := by
    intro t k
    show Steps p.tables e below (T11.setTop (mkF m 27 #[.val (.int p0), .val (.int p1), .val (.int p2), .val (.int v1), .val (.int v3), .val (.int v5), .val (.ref b8), .unset, .unset] [])) _
    refine XS.aload X11.here hx rfl (hb hby at_27) rfl rfl ?_
    show Steps p.tables e below (T11.setTop (mkF m 29 #[.val (.int p0), .val (.int p1), .val (.int p2), .val (.int v1), .val (.int v3), .val (.int v5), .val (.ref b8), .unset, .unset] [(.ref b8)])) _
    refine XS.iconst X11.here hx rfl (hb hby at_29) ?_
    show Steps p.tables e below (T11.setTop (mkF m 30 #[.val (.int p0), .val (.int p1), .val (.int p2), .val (.int v1), .val (.int v3), .val (.int v5), .val (.ref b8), .unset, .unset] [(.int (1 : Int32)), (.ref b8)])) _
    refine XS.iloadN X11.here hx rfl (hb hby at_30) rfl ?_
    exact k
  obtain ⟨T14, h14, L14, X14, N14, e14, K14, V14, st14⟩ := own_iastoreI X11 hx hZ N11 e11 V11 (j := (1 : Int32)) (own_in (m := 4) rfl (by decide)) g_b8 (g := (mkF m 31 #[.val (.int p0), .val (.int p1), .val (.int p2), .val (.int v1), .val (.int v3), .val (.int v5), .val (.ref b8), .unset, .unset] [(.int v1), (.int (1 : Int32)), (.ref b8)])) rfl rfl (hb hby at_31)
  have V14 : own_IA Z h14 b8 .int ([(0 : Int32), v1, (0 : Int32), (0 : Int32)] : List Int32) := V14
  have Zp15 : n0 ≤ h14.size := Nat.le_trans Zp12 K14.1
  have st16 : ∀ t, Steps p.tables e below (T14.setTop (mkF m 39 #[.val (.int p0), .val (.int p1), .val (.int p2), .val (.int v1), .val (.int v3), .val (.int v5), .val (.ref b8), .unset, .unset] [(.int (v1 + v3)), (.int (2 : Int32)), (.ref b8)])) t → Steps p.tables e below (T14.setTop (mkF m 32 #[.val (.int p0), .val (.int p1), .val (.int p2), .val (.int v1), .val (.int v3), .val (.int v5), .val (.ref b8), .unset, .unset] [])) t := by
    intro t k
    show Steps p.tables e below (T14.setTop (mkF m 32 #[.val (.int p0), .val (.int p1), .val (.int p2), .val (.int v1), .val (.int v3), .val (.int v5), .val (.ref b8), .unset, .unset] [])) _
    refine XS.aload X14.here hx rfl (hb hby at_32) rfl rfl ?_
    show Steps p.tables e below (T14.setTop (mkF m 34 #[.val (.int p0), .val (.int p1), .val (.int p2), .val (.int v1), .val (.int v3), .val (.int v5), .val (.ref b8), .unset, .unset] [(.ref b8)])) _
    refine XS.iconst X14.here hx rfl (hb hby at_34) ?_
    show Steps p.tables e below (T14.setTop (mkF m 35 #[.val (.int p0), .val (.int p1), .val (.int p2), .val (.int v1), .val (.int v3), .val (.int v5), .val (.ref b8), .unset, .unset] [(.int (2 : Int32)), (.ref b8)])) _
    refine XS.iloadN X14.here hx rfl (hb hby at_35) rfl ?_
    show Steps p.tables e below (T14.setTop (mkF m 36 #[.val (.int p0), .val (.int p1), .val (.int p2), .val (.int v1), .val (.int v3), .val (.int v5), .val (.ref b8), .unset, .unset] [(.int v1), (.int (2 : Int32)), (.ref b8)])) _
    refine XS.iload X14.here hx rfl (hb hby at_36) rfl ?_
    show Steps p.tables e below (T14.setTop (mkF m 38 #[.val (.int p0), .val (.int p1), .val (.int p2), .val (.int v1), .val (.int v3), .val (.int v5), .val (.ref b8), .unset, .unset] [(.int v3), (.int v1), (.int (2 : Int32)), (.ref b8)])) _
    refine XS.iadd X14.here hx rfl (hb hby at_38) rfl ?_
    exact k
  obtain ⟨T17, h17, L17, X17, N17, e17, K17, V17, st17⟩ := own_iastoreI X14 hx hZ N14 e14 V14 (j := (2 : Int32)) (own_in (m := 4) rfl (by decide)) g_b8 (g := (mkF m 39 #[.val (.int p0), .val (.int p1), .val (.int p2), .val (.int v1), .val (.int v3), .val (.int v5), .val (.ref b8), .unset, .unset] [(.int (v1 + v3)), (.int (2 : Int32)), (.ref b8)])) rfl rfl (hb hby at_39)
  have V17 : own_IA Z h17 b8 .int ([(0 : Int32), v1, (v1 + v3), (0 : Int32)] : List Int32) := V17
  have Zp18 : n0 ≤ h17.size := Nat.le_trans Zp15 K17.1
  have st19 : ∀ t, Steps p.tables e below (T17.setTop (mkF m 50 #[.val (.int p0), .val (.int p1), .val (.int p2), .val (.int v1), .val (.int v3), .val (.int v5), .val (.ref b8), .unset, .unset] [(.int ((v1 + v3) + v5)), (.int (3 : Int32)), (.ref b8)])) t → Steps p.tables e below (T17.setTop (mkF m 40 #[.val (.int p0), .val (.int p1), .val (.int p2), .val (.int v1), .val (.int v3), .val (.int v5), .val (.ref b8), .unset, .unset] [])) t := by
    intro t k
    show Steps p.tables e below (T17.setTop (mkF m 40 #[.val (.int p0), .val (.int p1), .val (.int p2), .val (.int v1), .val (.int v3), .val (.int v5), .val (.ref b8), .unset, .unset] [])) _
    refine XS.aload X17.here hx rfl (hb hby at_40) rfl rfl ?_
    show Steps p.tables e below (T17.setTop (mkF m 42 #[.val (.int p0), .val (.int p1), .val (.int p2), .val (.int v1), .val (.int v3), .val (.int v5), .val (.ref b8), .unset, .unset] [(.ref b8)])) _
    refine XS.iconst X17.here hx rfl (hb hby at_42) ?_
    show Steps p.tables e below (T17.setTop (mkF m 43 #[.val (.int p0), .val (.int p1), .val (.int p2), .val (.int v1), .val (.int v3), .val (.int v5), .val (.ref b8), .unset, .unset] [(.int (3 : Int32)), (.ref b8)])) _
    refine XS.iloadN X17.here hx rfl (hb hby at_43) rfl ?_
    show Steps p.tables e below (T17.setTop (mkF m 44 #[.val (.int p0), .val (.int p1), .val (.int p2), .val (.int v1), .val (.int v3), .val (.int v5), .val (.ref b8), .unset, .unset] [(.int v1), (.int (3 : Int32)), (.ref b8)])) _
    refine XS.iload X17.here hx rfl (hb hby at_44) rfl ?_
    show Steps p.tables e below (T17.setTop (mkF m 46 #[.val (.int p0), .val (.int p1), .val (.int p2), .val (.int v1), .val (.int v3), .val (.int v5), .val (.ref b8), .unset, .unset] [(.int v3), (.int v1), (.int (3 : Int32)), (.ref b8)])) _
    refine XS.iadd X17.here hx rfl (hb hby at_46) rfl ?_
    show Steps p.tables e below (T17.setTop (mkF m 47 #[.val (.int p0), .val (.int p1), .val (.int p2), .val (.int v1), .val (.int v3), .val (.int v5), .val (.ref b8), .unset, .unset] [(.int (v1 + v3)), (.int (3 : Int32)), (.ref b8)])) _
    refine XS.iload X17.here hx rfl (hb hby at_47) rfl ?_
    show Steps p.tables e below (T17.setTop (mkF m 49 #[.val (.int p0), .val (.int p1), .val (.int p2), .val (.int v1), .val (.int v3), .val (.int v5), .val (.ref b8), .unset, .unset] [(.int v5), (.int (v1 + v3)), (.int (3 : Int32)), (.ref b8)])) _
    refine XS.iadd X17.here hx rfl (hb hby at_49) rfl ?_
    exact k
  obtain ⟨T20, h20, L20, X20, N20, e20, K20, V20, st20⟩ := own_iastoreI X17 hx hZ N17 e17 V17 (j := (3 : Int32)) (own_in (m := 4) rfl (by decide)) g_b8 (g := (mkF m 50 #[.val (.int p0), .val (.int p1), .val (.int p2), .val (.int v1), .val (.int v3), .val (.int v5), .val (.ref b8), .unset, .unset] [(.int ((v1 + v3) + v5)), (.int (3 : Int32)), (.ref b8)])) rfl rfl (hb hby at_50)
  have V20 : own_IA Z h20 b8 .int ([(0 : Int32), v1, (v1 + v3), ((v1 + v3) + v5)] : List Int32) := V20
  have Zp21 : n0 ≤ h20.size := Nat.le_trans Zp18 K20.1
  have st22 : ∀ t, Steps p.tables e below (T20.setTop (mkF m 58 #[.val (.int p0), .val (.int p1), .val (.int p2), .val (.int v1), .val (.int v3), .val (.int v5), .val (.ref b8), .unset, .unset] [(.int ((v1 + v3) + v5))])) t → Steps p.tables e below (T20.setTop (mkF m 51 #[.val (.int p0), .val (.int p1), .val (.int p2), .val (.int v1), .val (.int v3), .val (.int v5), .val (.ref b8), .unset, .unset] [])) t := by
    intro t k
    show Steps p.tables e below (T20.setTop (mkF m 51 #[.val (.int p0), .val (.int p1), .val (.int p2), .val (.int v1), .val (.int v3), .val (.int v5), .val (.ref b8), .unset, .unset] [])) _
    refine XS.iloadN X20.here hx rfl (hb hby at_51) rfl ?_
    show Steps p.tables e below (T20.setTop (mkF m 52 #[.val (.int p0), .val (.int p1), .val (.int p2), .val (.int v1), .val (.int v3), .val (.int v5), .val (.ref b8), .unset, .unset] [(.int v1)])) _
    refine XS.iload X20.here hx rfl (hb hby at_52) rfl ?_
    show Steps p.tables e below (T20.setTop (mkF m 54 #[.val (.int p0), .val (.int p1), .val (.int p2), .val (.int v1), .val (.int v3), .val (.int v5), .val (.ref b8), .unset, .unset] [(.int v3), (.int v1)])) _
    refine XS.iadd X20.here hx rfl (hb hby at_54) rfl ?_
    show Steps p.tables e below (T20.setTop (mkF m 55 #[.val (.int p0), .val (.int p1), .val (.int p2), .val (.int v1), .val (.int v3), .val (.int v5), .val (.ref b8), .unset, .unset] [(.int (v1 + v3))])) _
    refine XS.iload X20.here hx rfl (hb hby at_55) rfl ?_
    show Steps p.tables e below (T20.setTop (mkF m 57 #[.val (.int p0), .val (.int p1), .val (.int p2), .val (.int v1), .val (.int v3), .val (.int v5), .val (.ref b8), .unset, .unset] [(.int v5), (.int (v1 + v3))])) _
    refine XS.iadd X20.here hx rfl (hb hby at_57) rfl ?_
    exact k
  obtain ⟨T23, h23, b23, X23, e23, K23, q23, V23, st23⟩ := own_newA X20 hx hZ (ty := .int) rfl (hw _ (List.mem_of_getElem? (i := 0) rfl)) rfl e20 (g := (mkF m 58 #[.val (.int p0), .val (.int p1), .val (.int p2), .val (.int v1), .val (.int v3), .val (.int v5), .val (.ref b8), .unset, .unset] [(.int ((v1 + v3) + v5))])) rfl (hb hby at_58) rfl (((v1 + v3) + v5).toInt.toNat) (Int.toNat_of_nonneg (own_sum3 hv1 hv3 hv5).1).symm (cap := 21) (by have := (own_sum3 hv1 hv3 hv5).2; omega) (by decide) (by decide) (by decide)
  have X23 : Stand p l e room_1 s m #[(.int p0), (.int p1), (.int p2)] below meth c T23 L20 2 25 := X23
  have V23 : own_IA Z h23 b23 .int (List.replicate ((v1 + v3) + v5).toInt.toNat (0 : Int32)) := V23
  have ne_b8_b23 : b8 ≠ b23 := own_ne V20.lt q23
  have g_b23 : n0 ≤ b23 := Nat.le_trans Zp21 q23
  have f24 : own_IA Z h23 b8 .int ([(0 : Int32), v1, (v1 + v3), ((v1 + v3) + v5)] : List Int32) := V20.keep K23 nin0
  have Zp25 : n0 ≤ h23.size := Nat.le_trans Zp21 K23.1
  have st26 : ∀ t, Steps p.tables e below (T23.setTop (mkF m 62 #[.val (.int p0), .val (.int p1), .val (.int p2), .val (.int v1), .val (.int v3), .val (.int v5), .val (.ref b8), .val (.ref b23), .unset] [])) t → Steps p.tables e below (T23.setTop (mkF m 60 #[.val (.int p0), .val (.int p1), .val (.int p2), .val (.int v1), .val (.int v3), .val (.int v5), .val (.ref b8), .unset, .unset] [(.ref b23)])) t := by
    intro t k
    show Steps p.tables e below (T23.setTop (mkF m 60 #[.val (.int p0), .val (.int p1), .val (.int p2), .val (.int v1), .val (.int v3), .val (.int v5), .val (.ref b8), .unset, .unset] [(.ref b23)])) _
    refine XS.astore X23.here hx rfl (hb hby at_60) rfl rfl (l' := #[.val (.int p0), .val (.int p1), .val (.int p2), .val (.int v1), .val (.int v3), .val (.int v5), .val (.ref b8), .val (.ref b23), .unset]) rfl ?_
    exact k
  obtain ⟨T27, h27, b27, X27, e27, K27, q27, E27, D27, st27⟩ := own_new X23 hx hZ hown (hw _ (List.mem_of_getElem? (i := 1) rfl)) (hw _ (List.mem_of_getElem? (i := 2) rfl)) (hw _ (List.mem_of_getElem? (i := 3) rfl)) e23 (g := (mkF m 62 #[.val (.int p0), .val (.int p1), .val (.int p2), .val (.int v1), .val (.int v3), .val (.int v5), .val (.ref b8), .val (.ref b23), .unset] [])) rfl (hb hby at_62) (by decide) (by decide)
  have X27 : Stand p l e room_1 s m #[(.int p0), (.int p1), (.int p2)] below meth c T27 L20 3 27 := X27
  have F27_mStart : Fld Z h27 b27 "com/example/overlaid_graphs/overlaidgraphs/graph/Embedding" "mStart" "[I" .null := D27 (Or.inr (hw _ (List.mem_of_getElem? (i := 11) rfl))) (ty := (.array .int)) (by decide)
  have F27_mAround : Fld Z h27 b27 "com/example/overlaid_graphs/overlaidgraphs/graph/Embedding" "mAround" "[I" .null := D27 (Or.inr (hw _ (List.mem_of_getElem? (i := 13) rfl))) (ty := (.array .int)) (by decide)
  have ne_b8_b27 : b8 ≠ b27 := own_ne f24.lt q27
  have ne_b23_b27 : b23 ≠ b27 := own_ne V23.lt q27
  have g_b27 : n0 ≤ b27 := Nat.le_trans Zp25 q27
  have f28 : own_IA Z h27 b8 .int ([(0 : Int32), v1, (v1 + v3), ((v1 + v3) + v5)] : List Int32) := f24.keep K27 nin0
  have f29 : own_IA Z h27 b23 .int (List.replicate ((v1 + v3) + v5).toInt.toNat (0 : Int32)) := V23.keep K27 nin0
  have Zp30 : n0 ≤ h27.size := Nat.le_trans Zp25 K27.1
  have st31 : ∀ t, Steps p.tables e below (T27.setTop (mkF m 70 #[.val (.int p0), .val (.int p1), .val (.int p2), .val (.int v1), .val (.int v3), .val (.int v5), .val (.ref b8), .val (.ref b23), .unset] [(.ref b23), (.ref b8), (.ref b27), (.ref b27)])) t → Steps p.tables e below (T27.setTop (mkF m 65 #[.val (.int p0), .val (.int p1), .val (.int p2), .val (.int v1), .val (.int v3), .val (.int v5), .val (.ref b8), .val (.ref b23), .unset] [(.ref b27)])) t := by
    intro t k
    show Steps p.tables e below (T27.setTop (mkF m 65 #[.val (.int p0), .val (.int p1), .val (.int p2), .val (.int v1), .val (.int v3), .val (.int v5), .val (.ref b8), .val (.ref b23), .unset] [(.ref b27)])) _
    refine XS.dup X27.here hx rfl (hb hby at_65) rfl rfl ?_
    show Steps p.tables e below (T27.setTop (mkF m 66 #[.val (.int p0), .val (.int p1), .val (.int p2), .val (.int v1), .val (.int v3), .val (.int v5), .val (.ref b8), .val (.ref b23), .unset] [(.ref b27), (.ref b27)])) _
    refine XS.aload X27.here hx rfl (hb hby at_66) rfl rfl ?_
    show Steps p.tables e below (T27.setTop (mkF m 68 #[.val (.int p0), .val (.int p1), .val (.int p2), .val (.int v1), .val (.int v3), .val (.int v5), .val (.ref b8), .val (.ref b23), .unset] [(.ref b8), (.ref b27), (.ref b27)])) _
    refine XS.aload X27.here hx rfl (hb hby at_68) rfl rfl ?_
    exact k
  obtain ⟨_, _, ⟨T32, L32, k32, n32⟩, -, X32, ⟨Lc32, hQ32, l32, y32, z32⟩, st32⟩ := X27.specialBack hx (y := (⟨"com/example/overlaid_graphs/overlaidgraphs/graph/Embedding", "<init>", "([I[I)V"⟩ : MethodName)) rfl hown (mvT hZ (hw _ (List.mem_of_getElem? (i := 4) rfl))) (mvT hZ (hw _ (List.mem_of_getElem? (i := 5) rfl))) (mvT hZ (hw _ (List.mem_of_getElem? (i := 6) rfl))) (by decide) (backOf (W := 1) (own_rm1 l Z a0 hw [] b27 b8 b23 h27 n0 Zp30 E27 F27_mStart F27_mAround g_b27) hZ (hw _ (List.mem_of_getElem? (i := 6) rfl)) (hw _ (List.mem_of_getElem? (i := 3) rfl)) (by decide) (by decide)) (g := (mkF m 70 #[.val (.int p0), .val (.int p1), .val (.int p2), .val (.int v1), .val (.int v3), .val (.int v5), .val (.ref b8), .val (.ref b23), .unset] [(.ref b23), (.ref b8), (.ref b27), (.ref b27)])) rfl (by rw [hml]; rfl) (Steps.refl _) (a := b27) (argsL := [(.ref b8), (.ref b23)]) (rest := [(.ref b27)]) (lenOf own_pd0 rfl) rfl (by show 2 * 0 + _ ≤ _; exact Nat.le_of_eq rfl) (hb hby at_70) (fun _ _ => ⟨rfl, e27, (by decide : 3 + 0 ≤ _), (by decide : 27 + 0 ≤ _)⟩)
  dsimp only [Pt.U, Pt.locs, Pt.cells, Pt.slots] at X32 l32 y32 z32 st32 hQ32
  subst y32 z32
  obtain ⟨rfl, Nq32, K32, Q32_0, Q32_1, -⟩ := hQ32
  have N32 : Fr n0 L32 := by rw [l32]; exact Fr.app N20 Nq32
  have X32' : Stand p l e room_1 s m #[(.int p0), (.int p1), (.int p2)] below meth c T32 L32 3 27 := X32
  have f33 : own_IA Z T32.heap b8 .int ([(0 : Int32), v1, (v1 + v3), ((v1 + v3) + v5)] : List Int32) := f28.keep K32 (ninS ne_b8_b27 nin0)
  have f34 : own_IA Z T32.heap b23 .int (List.replicate ((v1 + v3) + v5).toInt.toNat (0 : Int32)) := f29.keep K32 (ninS ne_b23_b27 nin0)
  have Zp35 : n0 ≤ T32.heap.size := Nat.le_trans Zp30 K32.1
  have st32 : ∀ t, Steps p.tables e below (T32.setTop (mkF m 73 #[.val (.int p0), .val (.int p1), .val (.int p2), .val (.int v1), .val (.int v3), .val (.int v5), .val (.ref b8), .val (.ref b23), .unset] [(.ref b27)])) t → Steps p.tables e below (T27.setTop (mkF m 70 #[.val (.int p0), .val (.int p1), .val (.int p2), .val (.int v1), .val (.int v3), .val (.int v5), .val (.ref b8), .val (.ref b23), .unset] [(.ref b23), (.ref b8), (.ref b27), (.ref b27)])) t := fun t k => st32.trans k
  have st36 : ∀ t, Steps p.tables e below (T32.setTop (mkF m 78 #[.val (.int p0), .val (.int p1), .val (.int p2), .val (.int v1), .val (.int v3), .val (.int v5), .val (.ref b8), .val (.ref b23), .val (.ref b27)] [(.int (0 : Int32)), (.ref b27)])) t → Steps p.tables e below (T32.setTop (mkF m 73 #[.val (.int p0), .val (.int p1), .val (.int p2), .val (.int v1), .val (.int v3), .val (.int v5), .val (.ref b8), .val (.ref b23), .unset] [(.ref b27)])) t := by
    intro t k
    show Steps p.tables e below (T32.setTop (mkF m 73 #[.val (.int p0), .val (.int p1), .val (.int p2), .val (.int v1), .val (.int v3), .val (.int v5), .val (.ref b8), .val (.ref b23), .unset] [(.ref b27)])) _
    refine XS.astore X32'.here hx rfl (hb hby at_73) rfl rfl (l' := #[.val (.int p0), .val (.int p1), .val (.int p2), .val (.int v1), .val (.int v3), .val (.int v5), .val (.ref b8), .val (.ref b23), .val (.ref b27)]) rfl ?_
    show Steps p.tables e below (T32.setTop (mkF m 75 #[.val (.int p0), .val (.int p1), .val (.int p2), .val (.int v1), .val (.int v3), .val (.int v5), .val (.ref b8), .val (.ref b23), .val (.ref b27)] [])) _
    refine XS.aload X32'.here hx rfl (hb hby at_75) rfl rfl ?_
    show Steps p.tables e below (T32.setTop (mkF m 77 #[.val (.int p0), .val (.int p1), .val (.int p2), .val (.int v1), .val (.int v3), .val (.int v5), .val (.ref b8), .val (.ref b23), .val (.ref b27)] [(.ref b27)])) _
    refine XS.iconst X32'.here hx rfl (hb hby at_77) ?_
    exact k
  obtain ⟨cq37, kq37, q37a, q37b, q37c⟩ := isOf hZ (rfl : T32.heap = T32.heap) Q32_0
  obtain ⟨_, _, ⟨T37, L37, k37, n37⟩, -, X37, ⟨Lc37, hQ37, l37, y37, z37⟩, st37⟩ := X32'.virtualBack hx (y := (⟨"com/example/overlaid_graphs/overlaidgraphs/graph/Embedding", "degree", "(I)I"⟩ : MethodName)) (z := (⟨"com/example/overlaid_graphs/overlaidgraphs/graph/Embedding", "degree", "(I)I"⟩ : MethodName)) hown (mvT hZ (hw _ (List.mem_of_getElem? (i := 14) rfl))) (mvT hZ (hw _ (List.mem_of_getElem? (i := 15) rfl))) (notFace_of_selects (args := #[]) (mvT hZ (hw _ (List.mem_of_getElem? (i := 17) rfl)))) (mvT hZ (hw _ (List.mem_of_getElem? (i := 17) rfl))) (mvT hZ (hw _ (List.mem_of_getElem? (i := 16) rfl))) (by decide) (backOf (W := 0) (own_rm3 l Z a0 hw [] b27 (0 : Int32) b8 ([(0 : Int32), v1, (v1 + v3), ((v1 + v3) + v5)] : List Int32) T32.heap n0 Zp35 Q32_1 f33 (own_in (m := 4) rfl (by decide)) (own_in (m := 4) rfl (by decide))) hZ (hw _ (List.mem_of_getElem? (i := 18) rfl)) (hw _ (List.mem_of_getElem? (i := 3) rfl)) (by decide) (by decide)) q37a q37c (g := (mkF m 78 #[.val (.int p0), .val (.int p1), .val (.int p2), .val (.int v1), .val (.int v3), .val (.int v5), .val (.ref b8), .val (.ref b23), .val (.ref b27)] [(.int (0 : Int32)), (.ref b27)])) rfl (by rw [hml]; rfl) (Steps.refl _) (argsL := [(.int (0 : Int32))]) (rest := []) (lenOf own_pd1 rfl) rfl (by show 2 * 0 + _ ≤ _; exact Nat.le_of_eq rfl) (hb hby at_78) (fun _ _ => ⟨rfl, (rfl : T32.heap = T32.heap), (by decide : 3 + 0 ≤ _), (by decide : 27 + 0 ≤ _)⟩)
  dsimp only [Pt.U, Pt.locs, Pt.cells, Pt.slots] at X37 l37 y37 z37 st37 hQ37
  subst y37 z37
  obtain ⟨rfl, rfl, e37⟩ := hQ37
  have X37' : Stand p l e room_1 s m #[(.int p0), (.int p1), (.int p2)] below meth c T37 L32 3 27 := by rw [show L37 = L32 from by rw [l37]; first | rfl | exact List.append_nil _] at X37; exact X37
  have st37 : ∀ t, Steps p.tables e below (T37.setTop (mkF m 81 #[.val (.int p0), .val (.int p1), .val (.int p2), .val (.int v1), .val (.int v3), .val (.int v5), .val (.ref b8), .val (.ref b23), .val (.ref b27)] [(.int (own_F3 (0 : Int32) ([(0 : Int32), v1, (v1 + v3), ((v1 + v3) + v5)] : List Int32)))])) t → Steps p.tables e below (T32.setTop (mkF m 78 #[.val (.int p0), .val (.int p1), .val (.int p2), .val (.int v1), .val (.int v3), .val (.int v5), .val (.ref b8), .val (.ref b23), .val (.ref b27)] [(.int (0 : Int32)), (.ref b27)])) t := fun t k => st37.trans k
  obtain ⟨v38, hv38⟩ : ∃ z : Int32, z = (own_F3 (0 : Int32) ([(0 : Int32), v1, (v1 + v3), ((v1 + v3) + v5)] : List Int32)) := ⟨_, rfl⟩
  rw [← hv38] at st37
  have st39 : ∀ t, Steps p.tables e below (T37.setTop (mkF m 82 #[.val (.int p0), .val (.int p1), .val (.int p2), .val (.int v1), .val (.int v3), .val (.int v5), .val (.ref b8), .val (.ref b23), .val (.ref b27)] [(.int v1), (.int v38)])) t → Steps p.tables e below (T37.setTop (mkF m 81 #[.val (.int p0), .val (.int p1), .val (.int p2), .val (.int v1), .val (.int v3), .val (.int v5), .val (.ref b8), .val (.ref b23), .val (.ref b27)] [(.int v38)])) t := by
    intro t k
    show Steps p.tables e below (T37.setTop (mkF m 81 #[.val (.int p0), .val (.int p1), .val (.int p2), .val (.int v1), .val (.int v3), .val (.int v5), .val (.ref b8), .val (.ref b23), .val (.ref b27)] [(.int v38)])) _
    refine XS.iloadN X37'.here hx rfl (hb hby at_81) rfl ?_
    exact k
  refine own_End.go (fun t k => st2 _ (st4 _ (st6 _ (st7 _ (st8 _ (st10 _ (st11 _ (st13 _ (st14 _ (st16 _ (st17 _ (st19 _ (st20 _ (st22 _ (st23 _ (st26 _ (st27 _ (st31 _ (st32 _ (st36 _ (st37 _ (st39 _ k)))))))))))))))))))))) ?_
  by_cases hc82_40 : v38 = v1
  · have st41 : ∀ t, Steps p.tables e below (T37.setTop (mkF m 88 #[.val (.int p0), .val (.int p1), .val (.int p2), .val (.int v1), .val (.int v3), .val (.int v5), .val (.ref b8), .val (.ref b23), .val (.ref b27)] [(.int (1 : Int32)), (.ref b27)])) t → Steps p.tables e below (T37.setTop (mkF m 82 #[.val (.int p0), .val (.int p1), .val (.int p2), .val (.int v1), .val (.int v3), .val (.int v5), .val (.ref b8), .val (.ref b23), .val (.ref b27)] [(.int v1), (.int v38)])) t := by
      intro t k
      show Steps p.tables e below (T37.setTop (mkF m 82 #[.val (.int p0), .val (.int p1), .val (.int p2), .val (.int v1), .val (.int v3), .val (.int v5), .val (.ref b8), .val (.ref b23), .val (.ref b27)] [(.int v1), (.int v38)])) _
      refine XS.icmpNo X37'.here hx rfl (hb hby at_82) rfl (teq hc82_40).2 ?_
      show Steps p.tables e below (T37.setTop (mkF m 85 #[.val (.int p0), .val (.int p1), .val (.int p2), .val (.int v1), .val (.int v3), .val (.int v5), .val (.ref b8), .val (.ref b23), .val (.ref b27)] [])) _
      refine XS.aload X37'.here hx rfl (hb hby at_85) rfl rfl ?_
      show Steps p.tables e below (T37.setTop (mkF m 87 #[.val (.int p0), .val (.int p1), .val (.int p2), .val (.int v1), .val (.int v3), .val (.int v5), .val (.ref b8), .val (.ref b23), .val (.ref b27)] [(.ref b27)])) _
      refine XS.iconst X37'.here hx rfl (hb hby at_87) ?_
      exact k
    obtain ⟨cq42, kq42, q42a, q42b, q42c⟩ := isOf hZ e37 Q32_0
    obtain ⟨_, _, ⟨T42, L42, k42, n42⟩, -, X42, ⟨Lc42, hQ42, l42, y42, z42⟩, st42⟩ := X37'.virtualBack hx (y := (⟨"com/example/overlaid_graphs/overlaidgraphs/graph/Embedding", "degree", "(I)I"⟩ : MethodName)) (z := (⟨"com/example/overlaid_graphs/overlaidgraphs/graph/Embedding", "degree", "(I)I"⟩ : MethodName)) hown (mvT hZ (hw _ (List.mem_of_getElem? (i := 14) rfl))) (mvT hZ (hw _ (List.mem_of_getElem? (i := 15) rfl))) (notFace_of_selects (args := #[]) (mvT hZ (hw _ (List.mem_of_getElem? (i := 17) rfl)))) (mvT hZ (hw _ (List.mem_of_getElem? (i := 17) rfl))) (mvT hZ (hw _ (List.mem_of_getElem? (i := 16) rfl))) (by decide) (backOf (W := 0) (own_rm3 l Z a0 hw [] b27 (1 : Int32) b8 ([(0 : Int32), v1, (v1 + v3), ((v1 + v3) + v5)] : List Int32) T32.heap n0 Zp35 Q32_1 f33 (own_in (m := 4) rfl (by decide)) (own_in (m := 4) rfl (by decide))) hZ (hw _ (List.mem_of_getElem? (i := 18) rfl)) (hw _ (List.mem_of_getElem? (i := 3) rfl)) (by decide) (by decide)) q42a q42c (g := (mkF m 88 #[.val (.int p0), .val (.int p1), .val (.int p2), .val (.int v1), .val (.int v3), .val (.int v5), .val (.ref b8), .val (.ref b23), .val (.ref b27)] [(.int (1 : Int32)), (.ref b27)])) rfl (by rw [hml]; rfl) (Steps.refl _) (argsL := [(.int (1 : Int32))]) (rest := []) (lenOf own_pd1 rfl) rfl (by show 2 * 0 + _ ≤ _; exact Nat.le_of_eq rfl) (hb hby at_88) (fun _ _ => ⟨rfl, e37, (by decide : 3 + 0 ≤ _), (by decide : 27 + 0 ≤ _)⟩)
    dsimp only [Pt.U, Pt.locs, Pt.cells, Pt.slots] at X42 l42 y42 z42 st42 hQ42
    subst y42 z42
    obtain ⟨rfl, rfl, e42⟩ := hQ42
    have X42' : Stand p l e room_1 s m #[(.int p0), (.int p1), (.int p2)] below meth c T42 L32 3 27 := by rw [show L42 = L32 from by rw [l42]; first | rfl | exact List.append_nil _] at X42; exact X42
    have st42 : ∀ t, Steps p.tables e below (T42.setTop (mkF m 91 #[.val (.int p0), .val (.int p1), .val (.int p2), .val (.int v1), .val (.int v3), .val (.int v5), .val (.ref b8), .val (.ref b23), .val (.ref b27)] [(.int (own_F3 (1 : Int32) ([(0 : Int32), v1, (v1 + v3), ((v1 + v3) + v5)] : List Int32)))])) t → Steps p.tables e below (T37.setTop (mkF m 88 #[.val (.int p0), .val (.int p1), .val (.int p2), .val (.int v1), .val (.int v3), .val (.int v5), .val (.ref b8), .val (.ref b23), .val (.ref b27)] [(.int (1 : Int32)), (.ref b27)])) t := fun t k => st42.trans k
    obtain ⟨v43, hv43⟩ : ∃ z : Int32, z = (own_F3 (1 : Int32) ([(0 : Int32), v1, (v1 + v3), ((v1 + v3) + v5)] : List Int32)) := ⟨_, rfl⟩
    rw [← hv43] at st42
    have st44 : ∀ t, Steps p.tables e below (T42.setTop (mkF m 93 #[.val (.int p0), .val (.int p1), .val (.int p2), .val (.int v1), .val (.int v3), .val (.int v5), .val (.ref b8), .val (.ref b23), .val (.ref b27)] [(.int v3), (.int v43)])) t → Steps p.tables e below (T42.setTop (mkF m 91 #[.val (.int p0), .val (.int p1), .val (.int p2), .val (.int v1), .val (.int v3), .val (.int v5), .val (.ref b8), .val (.ref b23), .val (.ref b27)] [(.int v43)])) t := by
      intro t k
      show Steps p.tables e below (T42.setTop (mkF m 91 #[.val (.int p0), .val (.int p1), .val (.int p2), .val (.int v1), .val (.int v3), .val (.int v5), .val (.ref b8), .val (.ref b23), .val (.ref b27)] [(.int v43)])) _
      refine XS.iload X42'.here hx rfl (hb hby at_91) rfl ?_
      exact k
    refine own_End.go (fun t k => st41 _ (st42 _ (st44 _ k))) ?_
    by_cases hc93_45 : v43 = v3
    · have st46 : ∀ t, Steps p.tables e below (T42.setTop (mkF m 99 #[.val (.int p0), .val (.int p1), .val (.int p2), .val (.int v1), .val (.int v3), .val (.int v5), .val (.ref b8), .val (.ref b23), .val (.ref b27)] [(.int (2 : Int32)), (.ref b27)])) t → Steps p.tables e below (T42.setTop (mkF m 93 #[.val (.int p0), .val (.int p1), .val (.int p2), .val (.int v1), .val (.int v3), .val (.int v5), .val (.ref b8), .val (.ref b23), .val (.ref b27)] [(.int v3), (.int v43)])) t := by
        intro t k
        show Steps p.tables e below (T42.setTop (mkF m 93 #[.val (.int p0), .val (.int p1), .val (.int p2), .val (.int v1), .val (.int v3), .val (.int v5), .val (.ref b8), .val (.ref b23), .val (.ref b27)] [(.int v3), (.int v43)])) _
        refine XS.icmpNo X42'.here hx rfl (hb hby at_93) rfl (teq hc93_45).2 ?_
        show Steps p.tables e below (T42.setTop (mkF m 96 #[.val (.int p0), .val (.int p1), .val (.int p2), .val (.int v1), .val (.int v3), .val (.int v5), .val (.ref b8), .val (.ref b23), .val (.ref b27)] [])) _
        refine XS.aload X42'.here hx rfl (hb hby at_96) rfl rfl ?_
        show Steps p.tables e below (T42.setTop (mkF m 98 #[.val (.int p0), .val (.int p1), .val (.int p2), .val (.int v1), .val (.int v3), .val (.int v5), .val (.ref b8), .val (.ref b23), .val (.ref b27)] [(.ref b27)])) _
        refine XS.iconst X42'.here hx rfl (hb hby at_98) ?_
        exact k
      obtain ⟨cq47, kq47, q47a, q47b, q47c⟩ := isOf hZ e42 Q32_0
      obtain ⟨_, _, ⟨T47, L47, k47, n47⟩, -, X47, ⟨Lc47, hQ47, l47, y47, z47⟩, st47⟩ := X42'.virtualBack hx (y := (⟨"com/example/overlaid_graphs/overlaidgraphs/graph/Embedding", "degree", "(I)I"⟩ : MethodName)) (z := (⟨"com/example/overlaid_graphs/overlaidgraphs/graph/Embedding", "degree", "(I)I"⟩ : MethodName)) hown (mvT hZ (hw _ (List.mem_of_getElem? (i := 14) rfl))) (mvT hZ (hw _ (List.mem_of_getElem? (i := 15) rfl))) (notFace_of_selects (args := #[]) (mvT hZ (hw _ (List.mem_of_getElem? (i := 17) rfl)))) (mvT hZ (hw _ (List.mem_of_getElem? (i := 17) rfl))) (mvT hZ (hw _ (List.mem_of_getElem? (i := 16) rfl))) (by decide) (backOf (W := 0) (own_rm3 l Z a0 hw [] b27 (2 : Int32) b8 ([(0 : Int32), v1, (v1 + v3), ((v1 + v3) + v5)] : List Int32) T32.heap n0 Zp35 Q32_1 f33 (own_in (m := 4) rfl (by decide)) (own_in (m := 4) rfl (by decide))) hZ (hw _ (List.mem_of_getElem? (i := 18) rfl)) (hw _ (List.mem_of_getElem? (i := 3) rfl)) (by decide) (by decide)) q47a q47c (g := (mkF m 99 #[.val (.int p0), .val (.int p1), .val (.int p2), .val (.int v1), .val (.int v3), .val (.int v5), .val (.ref b8), .val (.ref b23), .val (.ref b27)] [(.int (2 : Int32)), (.ref b27)])) rfl (by rw [hml]; rfl) (Steps.refl _) (argsL := [(.int (2 : Int32))]) (rest := []) (lenOf own_pd1 rfl) rfl (by show 2 * 0 + _ ≤ _; exact Nat.le_of_eq rfl) (hb hby at_99) (fun _ _ => ⟨rfl, e42, (by decide : 3 + 0 ≤ _), (by decide : 27 + 0 ≤ _)⟩)
      dsimp only [Pt.U, Pt.locs, Pt.cells, Pt.slots] at X47 l47 y47 z47 st47 hQ47
      subst y47 z47
      obtain ⟨rfl, rfl, e47⟩ := hQ47
      have X47' : Stand p l e room_1 s m #[(.int p0), (.int p1), (.int p2)] below meth c T47 L32 3 27 := by rw [show L47 = L32 from by rw [l47]; first | rfl | exact List.append_nil _] at X47; exact X47
      have st47 : ∀ t, Steps p.tables e below (T47.setTop (mkF m 102 #[.val (.int p0), .val (.int p1), .val (.int p2), .val (.int v1), .val (.int v3), .val (.int v5), .val (.ref b8), .val (.ref b23), .val (.ref b27)] [(.int (own_F3 (2 : Int32) ([(0 : Int32), v1, (v1 + v3), ((v1 + v3) + v5)] : List Int32)))])) t → Steps p.tables e below (T42.setTop (mkF m 99 #[.val (.int p0), .val (.int p1), .val (.int p2), .val (.int v1), .val (.int v3), .val (.int v5), .val (.ref b8), .val (.ref b23), .val (.ref b27)] [(.int (2 : Int32)), (.ref b27)])) t := fun t k => st47.trans k
      obtain ⟨v48, hv48⟩ : ∃ z : Int32, z = (own_F3 (2 : Int32) ([(0 : Int32), v1, (v1 + v3), ((v1 + v3) + v5)] : List Int32)) := ⟨_, rfl⟩
      rw [← hv48] at st47
      have st49 : ∀ t, Steps p.tables e below (T47.setTop (mkF m 104 #[.val (.int p0), .val (.int p1), .val (.int p2), .val (.int v1), .val (.int v3), .val (.int v5), .val (.ref b8), .val (.ref b23), .val (.ref b27)] [(.int v5), (.int v48)])) t → Steps p.tables e below (T47.setTop (mkF m 102 #[.val (.int p0), .val (.int p1), .val (.int p2), .val (.int v1), .val (.int v3), .val (.int v5), .val (.ref b8), .val (.ref b23), .val (.ref b27)] [(.int v48)])) t := by
        intro t k
        show Steps p.tables e below (T47.setTop (mkF m 102 #[.val (.int p0), .val (.int p1), .val (.int p2), .val (.int v1), .val (.int v3), .val (.int v5), .val (.ref b8), .val (.ref b23), .val (.ref b27)] [(.int v48)])) _
        refine XS.iload X47'.here hx rfl (hb hby at_102) rfl ?_
        exact k
      refine own_End.go (fun t k => st46 _ (st47 _ (st49 _ k))) ?_
      by_cases hc104_50 : v48 = v5
      · have st51 : ∀ t, Steps p.tables e below (T47.setTop (mkF m 112 #[.val (.int p0), .val (.int p1), .val (.int p2), .val (.int v1), .val (.int v3), .val (.int v5), .val (.ref b8), .val (.ref b23), .val (.ref b27)] [(.int (1 : Int32))])) t → Steps p.tables e below (T47.setTop (mkF m 104 #[.val (.int p0), .val (.int p1), .val (.int p2), .val (.int v1), .val (.int v3), .val (.int v5), .val (.ref b8), .val (.ref b23), .val (.ref b27)] [(.int v5), (.int v48)])) t := by
          intro t k
          show Steps p.tables e below (T47.setTop (mkF m 104 #[.val (.int p0), .val (.int p1), .val (.int p2), .val (.int v1), .val (.int v3), .val (.int v5), .val (.ref b8), .val (.ref b23), .val (.ref b27)] [(.int v5), (.int v48)])) _
          refine XS.icmpNo X47'.here hx rfl (hb hby at_104) rfl (teq hc104_50).2 ?_
          show Steps p.tables e below (T47.setTop (mkF m 107 #[.val (.int p0), .val (.int p1), .val (.int p2), .val (.int v1), .val (.int v3), .val (.int v5), .val (.ref b8), .val (.ref b23), .val (.ref b27)] [])) _
          refine XS.iconst X47'.here hx rfl (hb hby at_107) ?_
          show Steps p.tables e below (T47.setTop (mkF m 108 #[.val (.int p0), .val (.int p1), .val (.int p2), .val (.int v1), .val (.int v3), .val (.int v5), .val (.ref b8), .val (.ref b23), .val (.ref b27)] [(.int (1 : Int32))])) _
          refine XS.goto X47'.here hx rfl (pc0 := 108) (pc' := 112) rfl (hb hby at_108) (by decide) (by decide) ?_
          exact k
        refine own_End.go (fun t k => st51 _ k) ?_
        exact own_leafN X47' hx Bd.notSynchronized (t := .boolean) Bd.returns (by simp) (hb hby at_112) ⟨congrArg (fun z => some (Value.int z)) (by
            subst hv1 hv3 hv5 hv38 hv43 hv48; simp only [own_F0, own_nb0, own_nb1, if_pos hc82_40, if_pos hc93_45, if_pos hc104_50]), N32⟩ (by decide) (by decide)
      · have st52 : ∀ t, Steps p.tables e below (T47.setTop (mkF m 112 #[.val (.int p0), .val (.int p1), .val (.int p2), .val (.int v1), .val (.int v3), .val (.int v5), .val (.ref b8), .val (.ref b23), .val (.ref b27)] [(.int (0 : Int32))])) t → Steps p.tables e below (T47.setTop (mkF m 104 #[.val (.int p0), .val (.int p1), .val (.int p2), .val (.int v1), .val (.int v3), .val (.int v5), .val (.ref b8), .val (.ref b23), .val (.ref b27)] [(.int v5), (.int v48)])) t := by
          intro t k
          show Steps p.tables e below (T47.setTop (mkF m 104 #[.val (.int p0), .val (.int p1), .val (.int p2), .val (.int v1), .val (.int v3), .val (.int v5), .val (.ref b8), .val (.ref b23), .val (.ref b27)] [(.int v5), (.int v48)])) _
          refine XS.icmpYes X47'.here hx rfl (pc0 := 104) (pc' := 111) rfl (hb hby at_104) rfl (feq hc104_50).2 (by decide) (by decide) ?_
          show Steps p.tables e below (T47.setTop (mkF m 111 #[.val (.int p0), .val (.int p1), .val (.int p2), .val (.int v1), .val (.int v3), .val (.int v5), .val (.ref b8), .val (.ref b23), .val (.ref b27)] [])) _
          refine XS.iconst X47'.here hx rfl (hb hby at_111) ?_
          exact k
        refine own_End.go (fun t k => st52 _ k) ?_
        exact own_leafN X47' hx Bd.notSynchronized (t := .boolean) Bd.returns (by simp) (hb hby at_112) ⟨congrArg (fun z => some (Value.int z)) (by
            subst hv1 hv3 hv5 hv38 hv43 hv48; simp only [own_F0, own_nb0, own_nb1, if_pos hc82_40, if_pos hc93_45, if_neg hc104_50]), N32⟩ (by decide) (by decide)
    · have st53 : ∀ t, Steps p.tables e below (T42.setTop (mkF m 112 #[.val (.int p0), .val (.int p1), .val (.int p2), .val (.int v1), .val (.int v3), .val (.int v5), .val (.ref b8), .val (.ref b23), .val (.ref b27)] [(.int (0 : Int32))])) t → Steps p.tables e below (T42.setTop (mkF m 93 #[.val (.int p0), .val (.int p1), .val (.int p2), .val (.int v1), .val (.int v3), .val (.int v5), .val (.ref b8), .val (.ref b23), .val (.ref b27)] [(.int v3), (.int v43)])) t := by
        intro t k
        show Steps p.tables e below (T42.setTop (mkF m 93 #[.val (.int p0), .val (.int p1), .val (.int p2), .val (.int v1), .val (.int v3), .val (.int v5), .val (.ref b8), .val (.ref b23), .val (.ref b27)] [(.int v3), (.int v43)])) _
        refine XS.icmpYes X42'.here hx rfl (pc0 := 93) (pc' := 111) rfl (hb hby at_93) rfl (feq hc93_45).2 (by decide) (by decide) ?_
        show Steps p.tables e below (T42.setTop (mkF m 111 #[.val (.int p0), .val (.int p1), .val (.int p2), .val (.int v1), .val (.int v3), .val (.int v5), .val (.ref b8), .val (.ref b23), .val (.ref b27)] [])) _
        refine XS.iconst X42'.here hx rfl (hb hby at_111) ?_
        exact k
      refine own_End.go (fun t k => st53 _ k) ?_
      exact own_leafN X42' hx Bd.notSynchronized (t := .boolean) Bd.returns (by simp) (hb hby at_112) ⟨congrArg (fun z => some (Value.int z)) (by
          subst hv1 hv3 hv5 hv38 hv43; simp only [own_F0, own_nb0, own_nb1, if_pos hc82_40, if_neg hc93_45]), N32⟩ (by decide) (by decide)
  · have st54 : ∀ t, Steps p.tables e below (T37.setTop (mkF m 112 #[.val (.int p0), .val (.int p1), .val (.int p2), .val (.int v1), .val (.int v3), .val (.int v5), .val (.ref b8), .val (.ref b23), .val (.ref b27)] [(.int (0 : Int32))])) t → Steps p.tables e below (T37.setTop (mkF m 82 #[.val (.int p0), .val (.int p1), .val (.int p2), .val (.int v1), .val (.int v3), .val (.int v5), .val (.ref b8), .val (.ref b23), .val (.ref b27)] [(.int v1), (.int v38)])) t := by
      intro t k
      show Steps p.tables e below (T37.setTop (mkF m 82 #[.val (.int p0), .val (.int p1), .val (.int p2), .val (.int v1), .val (.int v3), .val (.int v5), .val (.ref b8), .val (.ref b23), .val (.ref b27)] [(.int v1), (.int v38)])) _
      refine XS.icmpYes X37'.here hx rfl (pc0 := 82) (pc' := 111) rfl (hb hby at_82) rfl (feq hc82_40).2 (by decide) (by decide) ?_
      show Steps p.tables e below (T37.setTop (mkF m 111 #[.val (.int p0), .val (.int p1), .val (.int p2), .val (.int v1), .val (.int v3), .val (.int v5), .val (.ref b8), .val (.ref b23), .val (.ref b27)] [])) _
      refine XS.iconst X37'.here hx rfl (hb hby at_111) ?_
      exact k
    refine own_End.go (fun t k => st54 _ k) ?_
    exact own_leafN X37' hx Bd.notSynchronized (t := .boolean) Bd.returns (by simp) (hb hby at_112) ⟨congrArg (fun z => some (Value.int z)) (by
        subst hv1 hv3 hv5 hv38; simp only [own_F0, own_nb0, own_nb1, if_neg hc82_40]), N32⟩ (by decide) (by decide)
theorem own_plain (p0 p1 p2 : Int32) : own_F0 p0 p1 p2 = 1 := by
  have e1 (x y : Int32) : x + y - x = y := by
    rw [← Int32.toInt_inj]; have := c_iadd x y; have := c_isub (x + y) x; have := rng32 (x + y - x); have := rng32 y; have := rng32 x; omega
  have e0 (x : Int32) : x - (0 : Int32) = x := by simp
  simp [own_F0, own_F3, e1, e0]

set_option maxRecDepth 65536 in
set_option maxHeartbeats 40000000 in
theorem comes_1 {Post : Tables → Env → Array Value → State → Outcome → State → Prop} (hpost : ∀ tb e args s v u, (limb_1_1.after args s (.returned v) u = true ∧ limb_1_2.after args s (.returned v) u = true ∧ True) → FrameEnd s (.returned v) u (Jvm.fieldLocs frame_1_writes args s ++ Jvm.arrayLocs frame_1_arrays args s ++ Jvm.staticLocs frame_1_statics s) 16 128 → Post tb e args s (.returned v) u) :
    ArmFor flags0 classFile x code maxLocals ret World_1 tables_1 room_1 Calls_1 rest_1 Pre_1 Post := by
  intro l hfl _ _ p e ha hc hk s m args below hf hA hF happ hP
  obtain ⟨hcalls, hrest, hpre⟩ := hP
  obtain ⟨-, -, -, hnamed, -, -, -, hat⟩ := (Spec.applies_iff hf).mp happ
  obtain ⟨hg, hn⟩ := and_e (Cond.before_iff.mp (show (Jvm.Cond.and given_1 narrow_1).before args s = true from hpre))
  obtain ⟨g1, g2⟩ := and_e hg
  obtain ⟨ga0, gb0⟩ := and_e g2
  obtain ⟨ga1, gb1⟩ := and_e gb0
  obtain ⟨w0, w1, w2, rfl⟩ : ∃ w0 w1 w2 : Value, args = #[w0, w1, w2] := by
    have hs : args.size = 3 := by simpa [Cond.value, given_1] using g1
    obtain ⟨L⟩ := args
    match L, hs with
    | [w0, w1, w2], _ => exact ⟨w0, w1, w2, rfl⟩
  have hw := fun d (hd : d ∈ tables_1) => atoms_spec (ws := Jvm.Cond.code x code maxLocals ret :: tables_1) hat d (List.mem_cons_of_mem _ hd)
  obtain ⟨i0, ei0⟩ := is_v ga0
  obtain rfl : w0 = (.int i0) := Option.some.inj ei0
  obtain ⟨i1, ei1⟩ := is_v ga1
  obtain rfl : w1 = (.int i1) := Option.some.inj ei1
  obtain ⟨i2, ei2⟩ := is_v gb1
  obtain rfl : w2 = (.int i2) := Option.some.inj ei2
  obtain ⟨n, o, h1, h2, h3, _, L, rfl, ⟨hv, N⟩, hq⟩ := own_rm0 l s _ hw tables_1 i0 i1 i2 s.heap s.heap.size (Nat.le_refl _) p e ha hc hk s m _ below hf ((Spec.applies_iff_loose hf).mp happ).1 ⟨rfl, State.Warmed39.refl s, rfl⟩ trivial
  rw [own_plain i0 i1 i2] at hv
  subst hv
  refine ⟨n, _, h1, h2, h3, hpost _ _ _ _ _ _ ⟨Cond.after_iff.mpr rfl, Cond.after_iff.mpr (eq_i res_at (Term.int_eval (1)) rfl), trivial⟩ ⟨hq.1, hq.2.1, (hq.2.2.sift fun y hy => Or.inr (N y hy)).mono (by decide) (by decide)⟩⟩
theorem main_1_1 : Claimed_1_1 := comes_1 fun _ _ _ _ _ _ h hF => ⟨h.1, hF⟩
theorem main_1_2 : Claimed_1_2 := comes_1 fun _ _ _ _ _ _ h hF => ⟨h.2.1, hF⟩
end Jvm.Pilot.@@N@@
namespace Jvm.Pilot.@@N@@
open Jvm Jvm.ClassFile Sem Op Lib Jvm.Free Jvm.Stand Jvm.Pilot.@@N@@.Jvm.D
/-! MADE BY PROGRAM (witnessworld.py) out of the Statement's table words and the real class files: 9 classes; the members and pool entries that the words name. The judged class is class 1, her method 1. -/
namespace start1
open Jvm.ClassFile
def u (s : String) : CpInfo := .utf8 (stringToUtf16 s)
/-- a pool by its gaps: so many unusable entries, then the entry; so many at the end -/
def gap : Nat → List CpInfo → List CpInfo
  | 0, r => r
  | n + 1, r => .unusable :: gap n r
def poolList (es : List (Nat × CpInfo)) (last : Nat) : List CpInfo := es.foldr (fun e r => gap e.1 (e.2 :: r)) (gap last [])
def pool (es : List (Nat × CpInfo)) (last : Nat) : Array CpInfo := ⟨poolList es last⟩
def fileOf (pool : Array CpInfo) (this : Nat) (attrs : Array Attribute := #[]) (ms : Array MethodInfo := #[]) (fl : Nat := 33) (sup : Nat := 0) (ifs : Array Nat := #[]) (fds : Array FieldInfo := #[]) : ClassFile where
  minorVersion := 0
  majorVersion := 65
  constantPool := pool
  accessFlags := fl
  thisClass := this
  superClass := sup
  interfaces := ifs
  fields := fds
  methods := ms
  attributes := attrs
def plain (name : String) (sup : Option ClassId) : Class where
  name := name
  kind := .ordinary
  loader := none
  accessFlags := 33
  super := sup
  interfaces := #[]
  cf := none
  fields := #[]
  methods := #[]
  instanceTypes := #[]
  staticTypes := #[]
  resolved := #[]
  callSites := []
  init := .initialized
  statics := none
  mirror := none

def pool0 : Array CpInfo := pool [(5, u "<init>"), (0, u "()V"), (1, .class_ 10), (1, u "java/lang/Object")] 113

def k0c0 : Code := { maxStack := 0, maxLocals := 1, code := object_method_1_code, exceptionTable := #[], attributes := #[] }
def k0m0 : Method := { name := "<init>", desc := "()V", sig := { parameters := [], returnType := none }, accessFlags := 1, code := some k0c0 }
/-- java/lang/Object -/
def k0 : Class := { plain "java/lang/Object" none with
  accessFlags := 33
  interfaces := #[]
  cf := some (fileOf pool0 8 #[] #[{ accessFlags := 1, nameIndex := 5, descriptorIndex := 6, attributes := #[] }] 33 0 #[] #[])
  fields := #[]
  methods := #[k0m0]
  instanceTypes := #[]
  staticTypes := #[]
  resolved := Array.replicate 124 none
  statics := none }

def pool1 : Array CpInfo := pool [(2, .class_ 4), (1, u "java/lang/Object"), (0, u "<init>"), (0, u "()V"), (0, .class_ 8), (0, u "com/example/overlaid_graphs/overlaidgraphs/graph/Embedding"), (0, .methodref 7 10), (0, .nameAndType 5 11), (0, u "([I[I)V"), (0, .methodref 7 13), (0, .nameAndType 14 15), (0, u "degree"), (0, u "(I)I"), (0, .class_ 17), (0, u "com/example/overlaid_graphs/overlaidgraphs/graph/EmbeddingDegreePinLaw"), (2, u "law"), (0, u "(III)Z")] 5

def k1m0 : Method := { name := "<init>", desc := "()V", sig := { parameters := [], returnType := none }, accessFlags := 1, code := none }
def k1c1 : Code := { maxStack := 4, maxLocals := 9, code := code, exceptionTable := #[], attributes := #[] }
def k1m1 : Method := { name := "law", desc := "(III)Z", sig := { parameters := [.int, .int, .int], returnType := some .boolean }, accessFlags := 9, code := some k1c1 }
/-- com/example/overlaid_graphs/overlaidgraphs/graph/EmbeddingDegreePinLaw -/
def k1 : Class := { plain "com/example/overlaid_graphs/overlaidgraphs/graph/EmbeddingDegreePinLaw" (some 0) with
  accessFlags := 49
  interfaces := #[]
  cf := some (fileOf pool1 16 #[] #[{ accessFlags := 1, nameIndex := 5, descriptorIndex := 6, attributes := #[] }, { accessFlags := 9, nameIndex := 20, descriptorIndex := 21, attributes := #[] }] 49 2 #[] #[])
  fields := #[]
  methods := #[k1m0, k1m1]
  instanceTypes := #[]
  staticTypes := #[]
  resolved := Array.replicate 27 none
  statics := none }

def pool2 : Array CpInfo := pool [(1, .methodref 2 3), (0, .class_ 4), (0, .nameAndType 5 6), (0, u "java/lang/Object"), (0, u "<init>"), (0, u "()V"), (0, .fieldref 8 9), (0, .class_ 10), (0, .nameAndType 11 12), (0, u "com/example/overlaid_graphs/overlaidgraphs/graph/Embedding"), (0, u "mStart"), (0, u "[I"), (0, .fieldref 8 14), (0, .nameAndType 15 12), (0, u "mAround"), (8, u "([I[I)V"), (2, u "degree"), (0, u "(I)I")] 17

def k2c0 : Code := { maxStack := 2, maxLocals := 3, code := prog_93_method_1_code, exceptionTable := #[], attributes := #[] }
def k2m0 : Method := { name := "<init>", desc := "([I[I)V", sig := { parameters := [(.array .int), (.array .int)], returnType := none }, accessFlags := 0, code := some k2c0 }
def k2c1 : Code := { maxStack := 3, maxLocals := 2, code := prog_93_method_4_code, exceptionTable := #[], attributes := #[] }
def k2m1 : Method := { name := "degree", desc := "(I)I", sig := { parameters := [.int], returnType := some .int }, accessFlags := 1, code := some k2c1 }
/-- com/example/overlaid_graphs/overlaidgraphs/graph/Embedding -/
def k2 : Class := { plain "com/example/overlaid_graphs/overlaidgraphs/graph/Embedding" (some 0) with
  accessFlags := 49
  interfaces := #[]
  cf := some (fileOf pool2 8 #[] #[{ accessFlags := 0, nameIndex := 5, descriptorIndex := 24, attributes := #[] }, { accessFlags := 1, nameIndex := 27, descriptorIndex := 28, attributes := #[] }] 49 2 #[] #[{ accessFlags := 18, nameIndex := 11, descriptorIndex := 12, attributes := #[] }, { accessFlags := 18, nameIndex := 15, descriptorIndex := 12, attributes := #[] }])
  fields := #[{ name := "mStart", type := (.array .int), accessFlags := 18, slot := 0, constantValue := 0 }, { name := "mAround", type := (.array .int), accessFlags := 18, slot := 1, constantValue := 0 }]
  methods := #[k2m0, k2m1]
  instanceTypes := #[(.array .int), (.array .int)]
  staticTypes := #[]
  resolved := Array.replicate 46 none
  statics := none }

def pool3 : Array CpInfo := pool [(1, u "java/lang/Cloneable"), (0, .class_ 1), (0, u "java/lang/Object"), (0, .class_ 3)] 3

/-- java/lang/Cloneable -/
def k3 : Class := { plain "java/lang/Cloneable" (some 0) with
  accessFlags := 1537
  interfaces := #[]
  cf := some (fileOf pool3 2 #[] #[] 1537 4 #[] #[])
  fields := #[]
  methods := #[]
  instanceTypes := #[]
  staticTypes := #[]
  resolved := Array.replicate 8 none
  statics := none }

def pool4 : Array CpInfo := pool [(1, u "java/io/Serializable"), (0, .class_ 1), (0, u "java/lang/Object"), (0, .class_ 3)] 3

/-- java/io/Serializable -/
def k4 : Class := { plain "java/io/Serializable" (some 0) with
  accessFlags := 1537
  interfaces := #[]
  cf := some (fileOf pool4 2 #[] #[] 1537 4 #[] #[])
  fields := #[]
  methods := #[]
  instanceTypes := #[]
  staticTypes := #[]
  resolved := Array.replicate 8 none
  statics := none }

/-- the primitive byte -/
def k5 : Class := { plain "byte" none with kind := .primitive 'B', accessFlags := 0x411 }
/-- [B -/
def k6 : Class := { plain "[B" (some 0) with kind := .array 5 .byte, interfaces := #[3, 4], accessFlags := 1041 }

/-- the primitive int -/
def k7 : Class := { plain "int" none with kind := .primitive 'I', accessFlags := 0x411 }
/-- [I -/
def k8 : Class := { plain "[I" (some 0) with kind := .array 7 .int, interfaces := #[3, 4], accessFlags := 1041 }

def heap : Heap := #[]
def classes : Array Class := #[k0, k1, k2, k3, k4, k5, k6, k7, k8]
def interned : List (Array UInt16 × Addr) := []
def slotsUsed : Nat := 0
def theMethod : MethodId := ⟨1, 1⟩
def args0 : Array Value := #[.int 5, .int 5, .int 5]
def aboutOver (below : List Frame) : State where
  vm := { classes := classes, interned := interned.toArray }
  heap := heap
  slotsUsed := slotsUsed
  threads := #[{ frames := .invoking theMethod args0 :: below }]
def below0 : List Frame := [.native { method := ⟨0, 0⟩, args := #[] }]
def about1 : State := aboutOver below0
def p0 : Program := .bare "" "" ""
def e0 : Env := launch0.env 0 0 0
theorem w_frames : about1.frames = Frame.invoking theMethod args0 :: below0 := rfl
set_option maxRecDepth 65536 in
theorem w_args : argsFit about1.vm theMethod args0 = true := by decide +kernel
set_option maxRecDepth 65536 in
theorem w_heap : heapFits about1 = true := by decide +kernel
set_option maxRecDepth 65536 in
theorem w_runnable : about1.curStatus? = some .runnable := by decide +kernel
set_option maxRecDepth 65536 in
theorem w_alone : about1.alone = true := by decide +kernel
set_option maxRecDepth 65536 in
theorem w_named : about1.methodNamed? x = some theMethod := by decide +kernel
set_option maxRecDepth 65536 in
theorem w_hears : about1.hears theMethod below0 = true := by decide +kernel
set_option maxRecDepth 65536 in
theorem w_ripe : about1.ripe theMethod args0 below0 = true := by decide +kernel
theorem w_running : about1.status = .running := rfl
set_option maxRecDepth 65536 in
theorem w_room : about1.hasRoom e0.platform room_1 = true :=
  launch0.hasRoom_least _ room_1 (by decide +kernel) (by decide +kernel) (by decide +kernel) (by decide +kernel) (by decide +kernel) (by decide +kernel)
theorem allAtoms_all (ts : List Jvm.Cond) (a : Array Jvm.Value) (st : Jvm.State) : (allAtoms ts).before a st = ts.all (fun c => c.before a st) := by
  induction ts with
  | nil => rfl
  | cons c t ih =>
    show (Jvm.Cond.and c (allAtoms t)).before a st = _
    rw [Jvm.Cond.before_and, ih, List.all_cons]
def words1 : List Jvm.Cond := Jvm.Cond.code x code maxLocals ret :: tables_1
/-- a 'code' word, met by the world's own term for the bytes: nothing is compared byte by byte -/
theorem code_word {y : MethodName} {bytes : ByteArray} {mx : Nat} {rt : Option FieldType} {a : Array Value} {s : State} {m : MethodId} {meth : Method} {c : Code} (h1 : s.methodNamed? y = some m) (h2 : s.vm.method? m = some meth) (h3 : meth.code = some c) (h4 : c.code = bytes)
    (h5 : (c.maxLocals == mx && c.exceptionTable.isEmpty && decide (c.maxStack ≤ mostOperands) && decide (meth.sig.returnType = rt) && !meth.locks && decide (parseMethodDescriptor y.desc = some meth.sig)) = true) : (Jvm.Cond.code y bytes mx rt).before a s = true := by
  simp only [Bool.and_eq_true, beq_iff_eq, Bool.not_eq_true', decide_eq_true_eq] at h5
  obtain ⟨⟨⟨⟨⟨g1, g2⟩, g3⟩, g4⟩, g5⟩, g6⟩ := h5
  simp [Cond.before, Cond.holds, Cond.value, h1, h2, h3, h4, g1, g2, g3, g4, g5, g6]
def isCode : Jvm.Cond → Bool
  | .code _ _ _ _ => true
  | _ => false
theorem all_split {L : List Jvm.Cond} {P : Jvm.Cond → Bool} (h1 : L.all (fun c => isCode c || P c) = true) (h2 : ∀ c ∈ L.filter isCode, P c = true) : L.all P = true := by
  refine List.all_eq_true.mpr fun c hc => ?_
  have h := List.all_eq_true.mp h1 c hc
  rcases Bool.eq_false_or_eq_true (isCode c) with hi | hi
  · exact h2 c (List.mem_filter.mpr ⟨hc, hi⟩)
  · simpa [hi] using h
set_option maxRecDepth 65536 in
theorem w_c0 : (Jvm.Cond.code x code maxLocals ret).before args0 about1 = true := code_word (m := ⟨1, 1⟩) (meth := k1m1) (c := k1c1) (by decide +kernel) rfl rfl rfl (by decide +kernel)
set_option maxRecDepth 65536 in
theorem w_c1 : (Jvm.Cond.code ({ cls := "com/example/overlaid_graphs/overlaidgraphs/graph/Embedding", name := "<init>", desc := "([I[I)V" } : Jvm.MethodName) prog_93_method_1_code (3 : Nat) (Option.none : Option Jvm.ClassFile.FieldType)).before args0 about1 = true := code_word (m := ⟨2, 0⟩) (meth := k2m0) (c := k2c0) (by decide +kernel) rfl rfl rfl (by decide +kernel)
set_option maxRecDepth 65536 in
theorem w_c2 : (Jvm.Cond.code ({ cls := "java/lang/Object", name := "<init>", desc := "()V" } : Jvm.MethodName) object_method_1_code (1 : Nat) (Option.none : Option Jvm.ClassFile.FieldType)).before args0 about1 = true := code_word (m := ⟨0, 0⟩) (meth := k0m0) (c := k0c0) (by decide +kernel) rfl rfl rfl (by decide +kernel)
set_option maxRecDepth 65536 in
theorem w_c3 : (Jvm.Cond.code ({ cls := "com/example/overlaid_graphs/overlaidgraphs/graph/Embedding", name := "degree", desc := "(I)I" } : Jvm.MethodName) prog_93_method_4_code (2 : Nat) (Option.some Jvm.ClassFile.FieldType.int)).before args0 about1 = true := code_word (m := ⟨2, 1⟩) (meth := k2m1) (c := k2c1) (by decide +kernel) rfl rfl rfl (by decide +kernel)
def codes1 : List Jvm.Cond := [Jvm.Cond.code x code maxLocals ret, Jvm.Cond.code ({ cls := "com/example/overlaid_graphs/overlaidgraphs/graph/Embedding", name := "<init>", desc := "([I[I)V" } : Jvm.MethodName) prog_93_method_1_code (3 : Nat) (Option.none : Option Jvm.ClassFile.FieldType), Jvm.Cond.code ({ cls := "java/lang/Object", name := "<init>", desc := "()V" } : Jvm.MethodName) object_method_1_code (1 : Nat) (Option.none : Option Jvm.ClassFile.FieldType), Jvm.Cond.code ({ cls := "com/example/overlaid_graphs/overlaidgraphs/graph/Embedding", name := "degree", desc := "(I)I" } : Jvm.MethodName) prog_93_method_4_code (2 : Nat) (Option.some Jvm.ClassFile.FieldType.int)]
set_option maxRecDepth 65536 in
theorem codes_eq : words1.filter isCode = codes1 := rfl
theorem w_codes : ∀ c ∈ words1.filter isCode, c.before args0 about1 = true := by
  rw [codes_eq]
  intro c hc
  simp only [codes1, List.mem_cons, List.not_mem_nil, or_false] at hc
  rcases hc with rfl | rfl | rfl | rfl
  · exact w_c0
  · exact w_c1
  · exact w_c2
  · exact w_c3
set_option maxRecDepth 65536 in
theorem w_t1 : words1.all (fun c => isCode c || c.before args0 about1) = true := by decide +kernel
theorem w_tables : (allAtoms (Jvm.Cond.code x code maxLocals ret :: tables_1)).before args0 about1 = true := by
  rw [allAtoms_all]
  show words1.all (fun c => c.before args0 about1) = true
  refine all_split ?_ w_codes
  rw [w_t1]
set_option maxRecDepth 65536 in
theorem w_case : (Jvm.Cond.and given_1 narrow_1).before args0 about1 = true := by decide +kernel
theorem w_applies : (headSpec (Jvm.Cond.code x code maxLocals ret :: tables_1) room_1).applies x e0.platform about1 = true :=
  (Spec.applies_iff w_frames).mpr ⟨w_running, w_runnable, w_alone, w_named, w_hears, w_ripe, w_room, w_tables⟩
theorem atStart : AtStart classFile x code maxLocals ret World_1 tables_1 room_1 Calls_1 rest_1 Pre_1 launch0 p0 e0 about1 theMethod args0 below0 :=
  ⟨lists_1, trivial, launch0.admits_env _ _ _, launch0.least_env, fairChoices_fair.cas, fairChoices_fair.clock, w_frames, w_args, w_heap, w_applies, trivial, trivial, w_case⟩
end start1
theorem witness_1 : WitnessClaimed_1 := ⟨start1.p0, start1.e0, start1.about1, start1.theMethod, start1.args0, start1.below0, start1.atStart⟩
end Jvm.Pilot.@@N@@
