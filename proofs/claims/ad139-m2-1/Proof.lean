import JvmDerived
import JvmDerived.Pilot.@@N@@Statement
import JvmDerived.Pilot.@@N@@Code
set_option linter.unusedVariables false
set_option linter.unusedSimpArgs false
namespace Jvm.RoadKit
open Sem ClassFile Op Lib Jvm.Stand Jvm.Free Jvm.LawKit
section New
variable {p : Program} {l : Launch} {e : Env} {R : Room} {s : State} {m : MethodId} {args : Array Value} {below : List Frame} {meth : Method} {c : Code} {T : State} {locs : List Loc} {cells slots : Nat}
theorem retI (X : Stand p l e R s m args below meth c T locs cells slots) (hx : p.tables.exec = Jvm.exec) {pc : Nat} {Ls : Array Slot} {z : Int32} {rest : List Value} (hret : meth.sig.returnType = some .int) (hd : decode c.code pc = .ok (.ireturn, 1)) {fs : List Frame}
    (hl : ∀ (f : JFrame) (acts : List Action), f.method = m → f.locked = none → f.entered = [] → (doReturn e (T.setTop f) acts (some (.int z))).1 = T.setFrames fs) : Steps p.tables e below (T.setTop (mkF m pc Ls (.int z :: rest))) (T.setFrames fs) := by
  have hm' : T.vm.method? m = some meth := X.method'
  have hn : narrow .int (.int z) = .int z := rfl
  show Steps p.tables e below (T.setTop { method := m, pc := pc, locals := Ls, stack := _ :: rest, locked := none }) _
  jvm_step X.here [X.here.top, hx, hd, hm', hret, hn]
  first | (intro acts; rw [hl _ acts rfl rfl rfl]) | rw [hl _ _ rfl rfl rfl]
  exact Steps.refl _
theorem retJ (X : Stand p l e R s m args below meth c T locs cells slots) (hx : p.tables.exec = Jvm.exec) {pc : Nat} {Ls : Array Slot} {z : Int64} {rest : List Value} (hret : meth.sig.returnType = some .long) (hd : decode c.code pc = .ok (.lreturn, 1)) {fs : List Frame}
    (hl : ∀ (f : JFrame) (acts : List Action), f.method = m → f.locked = none → f.entered = [] → (doReturn e (T.setTop f) acts (some (.long z))).1 = T.setFrames fs) : Steps p.tables e below (T.setTop (mkF m pc Ls (.long z :: rest))) (T.setFrames fs) := by
  have hm' : T.vm.method? m = some meth := X.method'
  show Steps p.tables e below (T.setTop { method := m, pc := pc, locals := Ls, stack := _ :: rest, locked := none }) _
  jvm_step X.here [X.here.top, hx, hd, hm', hret]
  first | (intro acts; rw [hl _ acts rfl rfl rfl]) | rw [hl _ _ rfl rfl rfl]
  exact Steps.refl _
theorem retR (X : Stand p l e R s m args below meth c T locs cells slots) (hx : p.tables.exec = Jvm.exec) {pc : Nat} {Ls : Array Slot} {z : Addr} {t : FieldType} {rest : List Value} (hret : meth.sig.returnType = some t) (ht : t.isReference = true) (hd : decode c.code pc = .ok (.areturn, 1)) {fs : List Frame}
    (hl : ∀ (f : JFrame) (acts : List Action), f.method = m → f.locked = none → f.entered = [] → (doReturn e (T.setTop f) acts (some (.ref z))).1 = T.setFrames fs) : Steps p.tables e below (T.setTop (mkF m pc Ls (.ref z :: rest))) (T.setFrames fs) := by
  have hm' : T.vm.method? m = some meth := X.method'
  show Steps p.tables e below (T.setTop { method := m, pc := pc, locals := Ls, stack := _ :: rest, locked := none }) _
  jvm_step X.here [X.here.top, hx, hd, hm', hret, Value.isRef, ht]
  first | (intro acts; rw [hl _ acts rfl rfl rfl]) | rw [hl _ _ rfl rfl rfl]
  exact Steps.refl _
end New
end Jvm.RoadKit
namespace Jvm.Pilot.@@N@@
open Jvm Jvm.ClassFile Sem Op Lib Jvm.Free Jvm.Stand Jvm.LawKit Jvm.RoadKit Bundle Jvm.Pilot.@@N@@.Jvm.D
/-- from the frame g, where T stands, the body comes to its end, and its end is as QQ says -/
def own_End (p : Program) (e : Env) (below : List Frame) (s : State) (QQ : Option Value → Heap → List Loc → Prop) (rc rs : Nat) (T : State) (g : JFrame) : Prop :=
  ∃ s₂ o, Steps p.tables e below (T.setTop g) s₂ ∧ s₂.status = .running ∧ Ended s₂ below o ∧ ∃ v L, o = .returned v ∧ QQ v s₂.heap L ∧ FrameEnd s o s₂ L rc rs
section Own
variable {p : Program} {l : Launch} {e : Env} {R : Room} {s : State} {m : MethodId} {args : Array Value} {below : List Frame} {meth : Method} {c : Code} {T T' : State} {locs : List Loc} {cells slots : Nat} {QQ : Option Value → Heap → List Loc → Prop} {rc rs : Nat}
theorem own_End.go {g g' : JFrame} (st : ∀ t, Steps p.tables e below (T'.setTop g') t → Steps p.tables e below (T.setTop g) t) (h : own_End p e below s QQ rc rs T' g') : own_End p e below s QQ rc rs T g := by
  obtain ⟨s2, o, a, b⟩ := h
  exact ⟨s2, o, st _ a, b⟩
theorem own_leafI (X : Stand p l e R s m args below meth c T locs cells slots) (hx : p.tables.exec = Jvm.exec) (hk : meth.locks = false) {pc : Nat} {Ls : Array Slot} {z : Int32} {rest : List Value} (hret : meth.sig.returnType = some .int) (hd : decode c.code pc = .ok (.ireturn, 1)) (hq : QQ (some (.int z)) T.heap locs) (h1 : cells ≤ rc) (h2 : slots ≤ rs) : own_End p e below s QQ rc rs T (mkF m pc Ls (.int z :: rest)) := by
  obtain ⟨fs, hr, hrun, hended, hW, hsame⟩ := X.leave (v := some (.int z)) (fun h => by rw [hret] at h; cases h) hk
  exact ⟨_, _, retI X hx hret hd hr, hrun, hended, _, _, rfl, hq, ⟨_, rfl⟩, hW, hsame.mono h1 h2⟩
theorem own_leafN (X : Stand p l e R s m args below meth c T locs cells slots) (hx : p.tables.exec = Jvm.exec) (hk : meth.locks = false) {pc : Nat} {Ls : Array Slot} {z : Int32} {t : FieldType} {rest : List Value} (hret : meth.sig.returnType = some t) (ht : t = .boolean ∨ t = .byte ∨ t = .char ∨ t = .short) (hd : decode c.code pc = .ok (.ireturn, 1)) (hq : QQ (some (.int (nar t z))) T.heap locs) (h1 : cells ≤ rc) (h2 : slots ≤ rs) : own_End p e below s QQ rc rs T (mkF m pc Ls (.int z :: rest)) := by
  obtain ⟨fs, hr, hrun, hended, hW, hsame⟩ := X.leave (v := some (.int (nar t z))) (fun h => by rw [hret] at h; cases h) hk
  exact ⟨_, _, retN X hx hret ht hd hr, hrun, hended, _, _, rfl, hq, ⟨_, rfl⟩, hW, hsame.mono h1 h2⟩
theorem own_leafJ (X : Stand p l e R s m args below meth c T locs cells slots) (hx : p.tables.exec = Jvm.exec) (hk : meth.locks = false) {pc : Nat} {Ls : Array Slot} {z : Int64} {rest : List Value} (hret : meth.sig.returnType = some .long) (hd : decode c.code pc = .ok (.lreturn, 1)) (hq : QQ (some (.long z)) T.heap locs) (h1 : cells ≤ rc) (h2 : slots ≤ rs) : own_End p e below s QQ rc rs T (mkF m pc Ls (.long z :: rest)) := by
  obtain ⟨fs, hr, hrun, hended, hW, hsame⟩ := X.leave (v := some (.long z)) (fun h => by rw [hret] at h; cases h) hk
  exact ⟨_, _, retJ X hx hret hd hr, hrun, hended, _, _, rfl, hq, ⟨_, rfl⟩, hW, hsame.mono h1 h2⟩
theorem own_leafR (X : Stand p l e R s m args below meth c T locs cells slots) (hx : p.tables.exec = Jvm.exec) (hk : meth.locks = false) {pc : Nat} {Ls : Array Slot} {z : Addr} {t : FieldType} {rest : List Value} (hret : meth.sig.returnType = some t) (ht : t.isReference = true) (hd : decode c.code pc = .ok (.areturn, 1)) (hq : QQ (some (.ref z)) T.heap locs) (h1 : cells ≤ rc) (h2 : slots ≤ rs) : own_End p e below s QQ rc rs T (mkF m pc Ls (.ref z :: rest)) := by
  obtain ⟨fs, hr, hrun, hended, hW, hsame⟩ := X.leave (v := some (.ref z)) (fun h => by rw [hret] at h; cases h) hk
  exact ⟨_, _, retR X hx hret ht hd hr, hrun, hended, _, _, rfl, hq, ⟨_, rfl⟩, hW, hsame.mono h1 h2⟩
theorem own_leafV (X : Stand p l e R s m args below meth c T locs cells slots) (hx : p.tables.exec = Jvm.exec) (hk : meth.locks = false) {pc : Nat} {Ls : Array Slot} (hret : meth.sig.returnType = none) (hd : decode c.code pc = .ok (.return_, 1)) (hq : QQ none T.heap locs) (h1 : cells ≤ rc) (h2 : slots ≤ rs) : own_End p e below s QQ rc rs T (mkF m pc Ls []) := by
  obtain ⟨fs, hr, hrun, hended, hW, hsame⟩ := X.leave (v := none) (fun _ => rfl) hk
  exact ⟨_, _, X.returnOut hx hret hd hr, hrun, hended, _, _, rfl, hq, ⟨_, rfl⟩, hW, hsame.mono h1 h2⟩
end Own
theorem own_nb0 : nar .boolean (0 : Int32) = 0 := by decide
theorem own_nb1 : nar .boolean (1 : Int32) = 1 := by decide
theorem own_oneif {P : Prop} [Decidable P] {x y : Slot} (hx : One x) (hy : One y) : One (if P then x else y) := by split <;> assumption

/-! arrays as lists; one step, one row -/
def own_IA (Z : State) (h : Heap) (a : Addr) (ty : FieldType) (L : List Int32) : Prop := ∃ k n, Arv Z h a k ty n (L.map Value.int) (.int 0) ∧ n.toInt = (L.length : Int)
def own_JA (Z : State) (h : Heap) (a : Addr) (L : List Int64) : Prop := ∃ k n, Arv Z h a k .long n (L.map Value.long) (.long 0) ∧ n.toInt = (L.length : Int)
theorem own_IA.keep {Z : State} {h h' : Heap} {a : Addr} {ty : FieldType} {L : List Int32} {ws : List Addr} (V : own_IA Z h a ty L) (K : Keep h h' ws) (q : a ∉ ws) : own_IA Z h' a ty L := by
  obtain ⟨k, n, A, e⟩ := V; exact ⟨k, n, A.keep K q, e⟩
theorem own_JA.keep {Z : State} {h h' : Heap} {a : Addr} {L : List Int64} {ws : List Addr} (V : own_JA Z h a L) (K : Keep h h' ws) (q : a ∉ ws) : own_JA Z h' a L := by
  obtain ⟨k, n, A, e⟩ := V; exact ⟨k, n, A.keep K q, e⟩
theorem own_IA.lt {Z : State} {h : Heap} {a : Addr} {ty : FieldType} {L : List Int32} (V : own_IA Z h a ty L) : a < h.size := by
  obtain ⟨k, n, A, e⟩ := V; exact A.lt
theorem own_JA.lt {Z : State} {h : Heap} {a : Addr} {L : List Int64} (V : own_JA Z h a L) : a < h.size := by
  obtain ⟨k, n, A, e⟩ := V; exact A.lt
theorem own_IA.len {Z : State} {h : Heap} {a : Addr} {ty : FieldType} {L : List Int32} (V : own_IA Z h a ty L) : (L.length : Int) < 2147483648 := by
  obtain ⟨k, n, A, e⟩ := V; have := rng32 n; omega
theorem own_keepE {h h' : Heap} (E : Ext h h') : Keep h h' [] := (Keep.refl h []).ext E
theorem own_ne {h : Heap} {x y : Addr} (hx : x < h.size) (hy : h.size ≤ y) : x ≠ y := Nat.ne_of_lt (Nat.lt_of_lt_of_le hx hy)
theorem own_clamp {j : Int32} (h : 0 ≤ j.toInt) : j.toNatClampNeg = j.toInt.toNat := rfl
theorem own_lt0 {n : Int32} (h : 0 ≤ n.toInt) : ¬ n < 0 := by
  rw [Int32.lt_iff_toInt_lt]; have : (0 : Int32).toInt = 0 := by decide
  omega
theorem own_in {j : Int32} {n m : Nat} (hn : n = m) (h : 0 ≤ j.toInt ∧ j.toInt < (m : Int)) : 0 ≤ j.toInt ∧ j.toInt < (n : Int) := hn ▸ h
theorem own_mapD (L : List Int32) (i : Nat) : (L.map Value.int).getD i (.int 0) = .int (L.getD i 0) := by
  simp only [List.getD_eq_getElem?_getD, List.getElem?_map]; cases L[i]? <;> rfl
theorem own_mapDJ (L : List Int64) (i : Nat) : (L.map Value.long).getD i (.long 0) = .long (L.getD i 0) := by
  simp only [List.getD_eq_getElem?_getD, List.getElem?_map]; cases L[i]? <;> rfl
theorem own_mapS {α β : Type} (f : α → β) (L : List α) (i : Nat) (x : α) : (L.map f).set i (f x) = (L.set i x).map f := by
  induction L generalizing i with
  | nil => rfl
  | cons y L ih => cases i with
    | zero => rfl
    | succ i => simp only [List.map_cons, List.set_cons_succ, ih]
section Heap
variable {p : Program} {l : Launch} {e : Env} {R : Room} {s : State} {m : MethodId} {args : Array Value} {below : List Frame} {meth : Method} {c : Code} {T : State} {locs : List Loc} {cells slots : Nat} {Z : State} {a0 : Array Value} {h : Heap} {n0 : Nat}
/-- newarray of ints, bytes, booleans, chars, shorts -/
theorem own_newA (X : Stand p l e R s m args below meth c T locs cells slots) (hx : p.tables.exec = Jvm.exec) (hZ : Z.Warmed39 s.vm) {aty : ArrayType} {ty : FieldType} (hty : newarray.typeOf aty = ty) (w : (Cond.arrayClass ty).before a0 Z = true) (hd0 : defaultValue ty = .int 0) (eT : T.heap = h) {g : JFrame} (hg : g.method = m) (hd : decode c.code g.pc = .ok (.newarray aty, 2)) {n : Int32} {rest : List Value} (hs : g.stack = .int n :: rest)
    (len : Nat) (hn : n.toInt = len) {cap : Nat} (hcap : len ≤ cap) (hb : cap * 8 ≤ 536870912) (hc : cells + 1 ≤ R.cells) (hl : slots + cap ≤ R.slots) :
    ∃ T' h' a, Stand p l e R s m args below meth c T' locs (cells + 1) (slots + cap) ∧ T'.heap = h' ∧ Keep h h' [] ∧ h.size ≤ a ∧ own_IA Z h' a ty (List.replicate len 0) ∧
      ∀ target, Steps p.tables e below (T'.setTop { g with pc := g.pc + 2, stack := .ref a :: rest }) target → Steps p.tables e below (T.setTop g) target := by
  subst hty
  have h0 : ¬ n < 0 := own_lt0 (by omega)
  obtain ⟨T', h', cA, X', e', E, A, st⟩ := newP X hx hZ w eT hg hd hs h0 (cap := cap) (by show n.toInt.toNat ≤ cap; omega) hb hc hl
  refine ⟨T', h', h.size, X', e', own_keepE E, Nat.le_refl _, ⟨cA, n, ?_, ?_⟩, st⟩
  · have V := (Arv.new A h0).pad (pad_rep [] _ len)
    rw [hd0] at V
    simpa using V
  · simpa using hn
theorem own_newJ (X : Stand p l e R s m args below meth c T locs cells slots) (hx : p.tables.exec = Jvm.exec) (hZ : Z.Warmed39 s.vm) (w : (Cond.arrayClass .long).before a0 Z = true) (eT : T.heap = h) {g : JFrame} (hg : g.method = m) (hd : decode c.code g.pc = .ok (.newarray .long, 2)) {n : Int32} {rest : List Value} (hs : g.stack = .int n :: rest)
    (len : Nat) (hn : n.toInt = len) {cap : Nat} (hcap : len ≤ cap) (hb : cap * 8 ≤ 536870912) (hc : cells + 1 ≤ R.cells) (hl : slots + cap ≤ R.slots) :
    ∃ T' h' a, Stand p l e R s m args below meth c T' locs (cells + 1) (slots + cap) ∧ T'.heap = h' ∧ Keep h h' [] ∧ h.size ≤ a ∧ own_JA Z h' a (List.replicate len 0) ∧
      ∀ target, Steps p.tables e below (T'.setTop { g with pc := g.pc + 2, stack := .ref a :: rest }) target → Steps p.tables e below (T.setTop g) target := by
  have h0 : ¬ n < 0 := own_lt0 (by omega)
  obtain ⟨T', h', cA, X', e', E, A, st⟩ := newP X hx hZ (aty := .long) w eT hg hd hs h0 (cap := cap) (by show n.toInt.toNat ≤ cap; omega) hb hc hl
  refine ⟨T', h', h.size, X', e', own_keepE E, Nat.le_refl _, ⟨cA, n, ?_, ?_⟩, st⟩
  · have V := (Arv.new A h0).pad (pad_rep [] _ len)
    have hd0 : defaultValue (newarray.typeOf .long) = .long 0 := rfl
    rw [hd0] at V
    have V' : Arv Z h' h.size cA .long n ([] ++ List.replicate len (Value.long 0)) (.long 0) := V
    simpa using V'
  · simpa using hn
theorem own_bounds {Z : State} {h : Heap} {a : Addr} {cl : Cell} {n j : Int32} {len : Nat} (S : cl.slots.size = n.toNatClampNeg) (hn : n.toInt = (len : Int)) (hj : 0 ≤ j.toInt ∧ j.toInt < (len : Int)) : ¬ (j < 0 ∨ cl.slots.size ≤ j.toNatClampNeg) := by
  have hn' : n.toNatClampNeg = n.toInt.toNat := rfl
  have hj' : j.toNatClampNeg = j.toInt.toNat := rfl
  rintro (q | q)
  · exact own_lt0 hj.1 q
  · omega
theorem own_ialoadI (X : Stand p l e R s m args below meth c T locs cells slots) (hx : p.tables.exec = Jvm.exec) (hZ : Z.Warmed39 s.vm) (eT : T.heap = h) {a : Addr} {L : List Int32} (V : own_IA Z h a .int L) {j : Int32} (hj : 0 ≤ j.toInt ∧ j.toInt < (L.length : Int)) {g : JFrame} (hg : g.method = m) {rest : List Value} (hs : g.stack = .int j :: .ref a :: rest) (hd : decode c.code g.pc = .ok (.iaload, 1)) :
    ∀ target, Steps p.tables e below (T.setTop { g with pc := g.pc + 1, stack := .int (L.getD j.toInt.toNat 0) :: rest }) target → Steps p.tables e below (T.setTop g) target := by
  obtain ⟨k, n, ⟨cl, A, q1, S, q3, H, G⟩, hn⟩ := V
  have hb := own_bounds (Z := Z) (h := h) (a := a) S hn hj
  exact X.iaload hx (j := j) (v := .int (L.getD j.toInt.toNat 0)) (by rw [eT]; exact A.1) (State.isArrayOf_alike hZ.alike A.2.1) A.2.2 hb (H.at hb (own_mapD L _)) hg hs hd
theorem own_baloadB (X : Stand p l e R s m args below meth c T locs cells slots) (hx : p.tables.exec = Jvm.exec) (hZ : Z.Warmed39 s.vm) (eT : T.heap = h) {a : Addr} {L : List Int32} (V : own_IA Z h a .byte L) {j : Int32} (hj : 0 ≤ j.toInt ∧ j.toInt < (L.length : Int)) {g : JFrame} (hg : g.method = m) {rest : List Value} (hs : g.stack = .int j :: .ref a :: rest) (hd : decode c.code g.pc = .ok (.baload, 1)) :
    ∀ target, Steps p.tables e below (T.setTop { g with pc := g.pc + 1, stack := .int (L.getD j.toInt.toNat 0) :: rest }) target → Steps p.tables e below (T.setTop g) target := by
  obtain ⟨k, n, ⟨cl, A, q1, S, q3, H, G⟩, hn⟩ := V
  have hb := own_bounds (Z := Z) (h := h) (a := a) S hn hj
  exact X.baloadBytes hx (j := j) (v := .int (L.getD j.toInt.toNat 0)) (by rw [eT]; exact A.1) (State.isArrayOf_alike hZ.alike A.2.1) A.2.2 hb (H.at hb (own_mapD L _)) hg hs hd
theorem own_baloadZ (X : Stand p l e R s m args below meth c T locs cells slots) (hx : p.tables.exec = Jvm.exec) (hZ : Z.Warmed39 s.vm) (eT : T.heap = h) {a : Addr} {L : List Int32} (V : own_IA Z h a .boolean L) {j : Int32} (hj : 0 ≤ j.toInt ∧ j.toInt < (L.length : Int)) {g : JFrame} (hg : g.method = m) {rest : List Value} (hs : g.stack = .int j :: .ref a :: rest) (hd : decode c.code g.pc = .ok (.baload, 1)) :
    ∀ target, Steps p.tables e below (T.setTop { g with pc := g.pc + 1, stack := .int (L.getD j.toInt.toNat 0) :: rest }) target → Steps p.tables e below (T.setTop g) target := by
  obtain ⟨k, n, ⟨cl, A, q1, S, q3, H, G⟩, hn⟩ := V
  have hb := own_bounds (Z := Z) (h := h) (a := a) S hn hj
  exact X.baloadBooleans hx (j := j) (v := .int (L.getD j.toInt.toNat 0)) (by rw [eT]; exact A.1) (State.isArrayOf_alike hZ.alike A.2.1) A.2.2 hb (H.at hb (own_mapD L _)) hg hs hd
theorem own_laloadJ (X : Stand p l e R s m args below meth c T locs cells slots) (hx : p.tables.exec = Jvm.exec) (hZ : Z.Warmed39 s.vm) (eT : T.heap = h) {a : Addr} {L : List Int64} (V : own_JA Z h a L) {j : Int32} (hj : 0 ≤ j.toInt ∧ j.toInt < (L.length : Int)) {g : JFrame} (hg : g.method = m) {rest : List Value} (hs : g.stack = .int j :: .ref a :: rest) (hd : decode c.code g.pc = .ok (.laload, 1)) :
    ∀ target, Steps p.tables e below (T.setTop { g with pc := g.pc + 1, stack := .long (L.getD j.toInt.toNat 0) :: rest }) target → Steps p.tables e below (T.setTop g) target := by
  obtain ⟨k, n, ⟨cl, A, q1, S, q3, H, G⟩, hn⟩ := V
  have hb := own_bounds (Z := Z) (h := h) (a := a) S hn hj
  exact X.laload hx (j := j) (v := .long (L.getD j.toInt.toNat 0)) (by rw [eT]; exact A.1) (State.isArrayOf_alike hZ.alike A.2.1) A.2.2 hb (H.at hb (own_mapDJ L _)) hg hs hd
theorem own_lenI (X : Stand p l e R s m args below meth c T locs cells slots) (hx : p.tables.exec = Jvm.exec) (hZ : Z.Warmed39 s.vm) (eT : T.heap = h) {a : Addr} {ty : FieldType} {L : List Int32} (V : own_IA Z h a ty L) {g : JFrame} (hg : g.method = m) {rest : List Value} (hs : g.stack = .ref a :: rest) (hd : decode c.code g.pc = .ok (.arraylength, 1)) :
    ∀ target, Steps p.tables e below (T.setTop { g with pc := g.pc + 1, stack := .int (Int32.ofNat L.length) :: rest }) target → Steps p.tables e below (T.setTop g) target := by
  have hl := V.len
  obtain ⟨k, n, ⟨cl, A, q1, S, q3, H, G⟩, hn⟩ := V
  intro t k
  refine X.arraylength hx (by rw [eT]; exact A.1) (State.isArrayOf_alike hZ.alike A.2.1) hg hs hd t ?_
  rw [len_of S q3]
  have e : n = Int32.ofNat L.length := by
    rw [← Int32.toInt_inj, Int32.toInt_ofNat_of_lt (by omega)]; exact hn
  rw [e]; exact k
theorem own_lenJ (X : Stand p l e R s m args below meth c T locs cells slots) (hx : p.tables.exec = Jvm.exec) (hZ : Z.Warmed39 s.vm) (eT : T.heap = h) {a : Addr} {L : List Int64} (V : own_JA Z h a L) {g : JFrame} (hg : g.method = m) {rest : List Value} (hs : g.stack = .ref a :: rest) (hd : decode c.code g.pc = .ok (.arraylength, 1)) :
    ∀ target, Steps p.tables e below (T.setTop { g with pc := g.pc + 1, stack := .int (Int32.ofNat L.length) :: rest }) target → Steps p.tables e below (T.setTop g) target := by
  obtain ⟨k, n, ⟨cl, A, q1, S, q3, H, G⟩, hn⟩ := V
  have hl := rng32 n
  intro t k
  refine X.arraylength hx (by rw [eT]; exact A.1) (State.isArrayOf_alike hZ.alike A.2.1) hg hs hd t ?_
  rw [len_of S q3]
  have e : n = Int32.ofNat L.length := by
    rw [← Int32.toInt_inj, Int32.toInt_ofNat_of_lt (by omega)]; exact hn
  rw [e]; exact k
theorem own_iastoreI (X : Stand p l e R s m args below meth c T locs cells slots) (hx : p.tables.exec = Jvm.exec) (hZ : Z.Warmed39 s.vm) (N : Fr n0 locs) (eT : T.heap = h) {a : Addr} {L : List Int32} (V : own_IA Z h a .int L) {j x : Int32} (hj : 0 ≤ j.toInt ∧ j.toInt < (L.length : Int)) (ha : n0 ≤ a) {g : JFrame} (hg : g.method = m) {rest : List Value} (hs : g.stack = .int x :: .int j :: .ref a :: rest) (hd : decode c.code g.pc = .ok (.iastore, 1)) :
    ∃ T' h' locs', Stand p l e R s m args below meth c T' locs' cells slots ∧ Fr n0 locs' ∧ T'.heap = h' ∧ Keep h h' [a] ∧ own_IA Z h' a .int (L.set j.toInt.toNat x) ∧
      ∀ target, Steps p.tables e below (T'.setTop { g with pc := g.pc + 1, stack := rest }) target → Steps p.tables e below (T.setTop g) target := by
  obtain ⟨k, n, ⟨cl, A, q1, S, q3, H, G⟩, hn⟩ := V
  have hb := own_bounds (Z := Z) (h := h) (a := a) S hn hj
  obtain ⟨T', h', X', e', W, st⟩ := stI X hx hZ eT A (j := j) hb hg hs hd
  have V' := Arv.set A q1 S q3 H G (v := .int x) rfl W j.toInt.toNat rfl (by simp only [List.length_map]; omega)
  rw [own_mapS] at V'
  exact ⟨T', h', _, X', Fr.snoc X' N ha, e', Keep.of_wr W, ⟨k, n, V', by simpa using hn⟩, st⟩
theorem own_bastoreB (X : Stand p l e R s m args below meth c T locs cells slots) (hx : p.tables.exec = Jvm.exec) (hZ : Z.Warmed39 s.vm) (N : Fr n0 locs) (eT : T.heap = h) {a : Addr} {L : List Int32} (V : own_IA Z h a .byte L) {j x : Int32} (hj : 0 ≤ j.toInt ∧ j.toInt < (L.length : Int)) (ha : n0 ≤ a) {g : JFrame} (hg : g.method = m) {rest : List Value} (hs : g.stack = .int x :: .int j :: .ref a :: rest) (hd : decode c.code g.pc = .ok (.bastore, 1)) :
    ∃ T' h' locs', Stand p l e R s m args below meth c T' locs' cells slots ∧ Fr n0 locs' ∧ T'.heap = h' ∧ Keep h h' [a] ∧ own_IA Z h' a .byte (L.set j.toInt.toNat (nar .byte x)) ∧
      ∀ target, Steps p.tables e below (T'.setTop { g with pc := g.pc + 1, stack := rest }) target → Steps p.tables e below (T.setTop g) target := by
  obtain ⟨k, n, ⟨cl, A, q1, S, q3, H, G⟩, hn⟩ := V
  have hb := own_bounds (Z := Z) (h := h) (a := a) S hn hj
  obtain ⟨T', h', X', e', W, st⟩ := stB X hx hZ eT A (j := j) hb hg hs hd
  have V' := Arv.set A q1 S q3 H G (v := .int (nar .byte x)) (fits_nar_byte _) W j.toInt.toNat rfl (by simp only [List.length_map]; omega)
  rw [own_mapS] at V'
  exact ⟨T', h', _, X', Fr.snoc X' N ha, e', Keep.of_wr W, ⟨k, n, V', by simpa using hn⟩, st⟩
theorem own_bastoreZ (X : Stand p l e R s m args below meth c T locs cells slots) (hx : p.tables.exec = Jvm.exec) (hZ : Z.Warmed39 s.vm) (N : Fr n0 locs) (eT : T.heap = h) {a : Addr} {L : List Int32} (V : own_IA Z h a .boolean L) {j x : Int32} (hj : 0 ≤ j.toInt ∧ j.toInt < (L.length : Int)) (ha : n0 ≤ a) {g : JFrame} (hg : g.method = m) {rest : List Value} (hs : g.stack = .int x :: .int j :: .ref a :: rest) (hd : decode c.code g.pc = .ok (.bastore, 1)) :
    ∃ T' h' locs', Stand p l e R s m args below meth c T' locs' cells slots ∧ Fr n0 locs' ∧ T'.heap = h' ∧ Keep h h' [a] ∧ own_IA Z h' a .boolean (L.set j.toInt.toNat (nar .boolean x)) ∧
      ∀ target, Steps p.tables e below (T'.setTop { g with pc := g.pc + 1, stack := rest }) target → Steps p.tables e below (T.setTop g) target := by
  obtain ⟨k, n, ⟨cl, A, q1, S, q3, H, G⟩, hn⟩ := V
  have hb := own_bounds (Z := Z) (h := h) (a := a) S hn hj
  obtain ⟨T', h', X', e', W, st⟩ := stZ X hx hZ eT A (j := j) hb hg hs hd
  have V' := Arv.set A q1 S q3 H G (v := .int (nar .boolean x)) (fits_nar_bool _) W j.toInt.toNat rfl (by simp only [List.length_map]; omega)
  rw [own_mapS] at V'
  exact ⟨T', h', _, X', Fr.snoc X' N ha, e', Keep.of_wr W, ⟨k, n, V', by simpa using hn⟩, st⟩
theorem own_lastoreJ (X : Stand p l e R s m args below meth c T locs cells slots) (hx : p.tables.exec = Jvm.exec) (hZ : Z.Warmed39 s.vm) (N : Fr n0 locs) (eT : T.heap = h) {a : Addr} {L : List Int64} (V : own_JA Z h a L) {j : Int32} {x : Int64} (hj : 0 ≤ j.toInt ∧ j.toInt < (L.length : Int)) (ha : n0 ≤ a) {g : JFrame} (hg : g.method = m) {rest : List Value} (hs : g.stack = .long x :: .int j :: .ref a :: rest) (hd : decode c.code g.pc = .ok (.lastore, 1)) :
    ∃ T' h' locs', Stand p l e R s m args below meth c T' locs' cells slots ∧ Fr n0 locs' ∧ T'.heap = h' ∧ Keep h h' [a] ∧ own_JA Z h' a (L.set j.toInt.toNat x) ∧
      ∀ target, Steps p.tables e below (T'.setTop { g with pc := g.pc + 1, stack := rest }) target → Steps p.tables e below (T.setTop g) target := by
  obtain ⟨k, n, ⟨cl, A, q1, S, q3, H, G⟩, hn⟩ := V
  have hb := own_bounds (Z := Z) (h := h) (a := a) S hn hj
  obtain ⟨T', h', X', e', W, st⟩ := stJ X hx hZ eT A (j := j) hb hg hs hd
  have V' := Arv.set A q1 S q3 H G (v := .long x) rfl W j.toInt.toNat rfl (by simp only [List.length_map]; omega)
  rw [own_mapS] at V'
  exact ⟨T', h', _, X', Fr.snoc X' N ha, e', Keep.of_wr W, ⟨k, n, V', by simpa using hn⟩, st⟩
/-- new -/
theorem own_new (X : Stand p l e R s m args below meth c T locs cells slots) (hx : p.tables.exec = Jvm.exec) (hZ : Z.Warmed39 s.vm) {own C : String} {index n : Nat} (hown : s.vm.findClass own = some m.cls) (w : (Cond.classLink own index C).before a0 Z = true) (wi : (Cond.instantiable C n).before a0 Z = true) (wz : (Cond.initialized C).before a0 Z = true) (eT : T.heap = h)
    {g : JFrame} (hg : g.method = m) (hd : decode c.code g.pc = .ok (.new index, 3)) (hc : cells + 1 ≤ R.cells) (hl : slots + n ≤ R.slots) :
    ∃ T' h' a, Stand p l e R s m args below meth c T' locs (cells + 1) (slots + n) ∧ T'.heap = h' ∧ Keep h h' [] ∧ h.size ≤ a ∧ Exa Z h' a C ∧ (∀ {O nm d : String} {ty : FieldType}, Laid Z a0 C O nm d → parseFieldDescriptor d = some ty → Fld Z h' a O nm d (defaultValue ty)) ∧
      ∀ target, Steps p.tables e below (T'.setTop { g with pc := g.pc + 3, stack := .ref a :: g.stack }) target → Steps p.tables e below (T.setTop g) target := by
  obtain ⟨T', h', X', e', E, A, D, -, st⟩ := newO X hx hZ hown w wi wz eT hg hd hc hl
  exact ⟨T', h', h.size, X', e', own_keepE E, Nat.le_refl _, A, D, st⟩
end Heap
theorem own_irem (x y : Int32) : x - (x / y) * y = x % y := by
  have lo (z : Int32) : Int32.minValue.toInt ≤ z.toInt := z.minValue_le_toInt
  have hi (z : Int32) : z.toInt ≤ Int32.maxValue.toInt := z.toInt_le
  have d := Int32.ofInt_tdiv (a := x.toInt) (b := y.toInt) (lo x) (hi x) (lo y) (hi y)
  have m := Int32.ofInt_tmod (a := x.toInt) (b := y.toInt) (lo x) (hi x) (lo y) (hi y)
  simp only [Int32.ofInt_toInt] at d m
  have e : x.toInt.tmod y.toInt = x.toInt - (x.toInt.tdiv y.toInt) * y.toInt := by
    have := Int.tmod_add_mul_tdiv x.toInt y.toInt
    rw [Int.mul_comm (x.toInt.tdiv y.toInt)]; omega
  rw [← d, ← m, e, Int32.ofInt_sub, Int32.ofInt_mul, Int32.ofInt_toInt, Int32.ofInt_toInt]
theorem own_remP (x d : Int32) (k : Int) (hd : d.toInt = k) (h : 0 ≤ x.toInt) : (x - (x / d) * d).toInt = x.toInt % k := by
  rw [own_irem]; exact (c_irem x d k hd).1 h
theorem own_mask31 (x : Int32) : (x &&& (2147483647 : Int32)).toInt = x.toInt % 2147483648 := by
  have : (x &&& (2147483647 : Int32)).toInt = x.toInt % (2 ^ 31 : Nat) := c_mask x 2147483647 31 (by decide) (by decide)
  omega
theorem own_succ {x y : Int32} (h : y = x + (1 : Int32)) (hb : x.toInt < 2147483647) : y.toInt = x.toInt + 1 := by
  subst h
  have a := c_iadd x 1
  have r := rng32 (x + 1)
  have r' := rng32 x
  have z : (1 : Int32).toInt = 1 := by decide
  omega
theorem own_ofN {v : Int32} {n : Nat} (h : v = Int32.ofNat n) (hn : n < 2147483648) : v.toInt = n := by
  subst h; exact Int32.toInt_ofNat_of_lt hn
theorem own_z0 : (0 : Int32).toInt = 0 := by decide

theorem own_ltl {i n : Int32} {k : Nat} (hc : i < n) (h : n.toInt ≤ (k : Int)) : i.toInt < (k : Int) := by
  rw [Int32.lt_iff_toInt_lt] at hc; omega
theorem own_from {v p : Int32} (h : v = ((p &&& (2147483647 : Int32)) - ((p &&& (2147483647 : Int32)) / (7 : Int32)) * (7 : Int32))) : 0 ≤ v.toInt ∧ v.toInt ≤ 6 := by
  have m := own_mask31 p
  have r := own_remP (p &&& (2147483647 : Int32)) 7 7 (by decide) (by omega)
  rw [← h] at r
  omega
theorem own_7m {v p : Int32} (h : v = ((p &&& (2147483647 : Int32)) - ((p &&& (2147483647 : Int32)) / (7 : Int32)) * (7 : Int32))) : ((7 : Int32) - v).toInt = 7 - v.toInt := by
  have b := own_from h
  have s := c_isub 7 v
  have r := rng32 ((7 : Int32) - v)
  have z : (7 : Int32).toInt = 7 := by decide
  omega
theorem own_nz {v p : Int32} (h : v = ((p &&& (2147483647 : Int32)) - ((p &&& (2147483647 : Int32)) / (7 : Int32)) * (7 : Int32))) : ((7 : Int32) - v) ≠ 0 := fun q => by
  have b := own_from h
  have s := own_7m h
  rw [q] at s
  have z : (0 : Int32).toInt = 0 := by decide
  omega
theorem own_lenb {v w p q : Int32} (h : v = ((p &&& (2147483647 : Int32)) - ((p &&& (2147483647 : Int32)) / (7 : Int32)) * (7 : Int32))) (hw : w = ((q &&& (2147483647 : Int32)) - ((q &&& (2147483647 : Int32)) / ((7 : Int32) - v)) * ((7 : Int32) - v))) : 0 ≤ w.toInt ∧ w.toInt + v.toInt ≤ 6 := by
  have b := own_from h
  have s := own_7m h
  have m := own_mask31 q
  have r := own_remP (q &&& (2147483647 : Int32)) ((7 : Int32) - v) (7 - v.toInt) s (by omega)
  rw [← hw] at r
  have h1 := Int.emod_nonneg (q &&& (2147483647 : Int32)).toInt (show (7 - v.toInt) ≠ 0 by omega)
  have h2 := Int.emod_lt_of_pos (q &&& (2147483647 : Int32)).toInt (show 0 < (7 - v.toInt) by omega)
  omega
theorem own_hb {v w p q k : Int32} (h : v = ((p &&& (2147483647 : Int32)) - ((p &&& (2147483647 : Int32)) / (7 : Int32)) * (7 : Int32))) (hw : w = ((q &&& (2147483647 : Int32)) - ((q &&& (2147483647 : Int32)) / ((7 : Int32) - v)) * ((7 : Int32) - v))) (hk : 0 ≤ k.toInt) : k < w → 0 ≤ (v + k).toInt ∧ (v + k).toInt < ((6 : Nat) : Int) := fun hc => by
  rw [Int32.lt_iff_toInt_lt] at hc
  have b := own_from h
  have l := own_lenb h hw
  have a := c_iadd v k
  have r := rng32 (v + k)
  omega
theorem own_fl {v w p q : Int32} (h : v = ((p &&& (2147483647 : Int32)) - ((p &&& (2147483647 : Int32)) / (7 : Int32)) * (7 : Int32))) (hw : w = ((q &&& (2147483647 : Int32)) - ((q &&& (2147483647 : Int32)) / ((7 : Int32) - v)) * ((7 : Int32) - v))) : 0 ≤ v.toInt ∧ v.toInt ≤ (v + w).toInt ∧ (v + w).toInt ≤ ((6 : Nat) : Int) := by
  have b := own_from h
  have l := own_lenb h hw
  have a := c_iadd v w
  have r := rng32 (v + w)
  omega
theorem own_pd0 : parseMethodDescriptor "(B)I" = some ⟨[.byte], some .int⟩ := by decide +kernel
theorem own_pd1 : parseMethodDescriptor "(I)I" = some ⟨[.int], some .int⟩ := by decide +kernel
theorem own_pd2 : parseMethodDescriptor "(JII)B" = some ⟨[.long, .int, .int], some .byte⟩ := by decide +kernel
theorem own_pd3 : parseMethodDescriptor "([BIII)Z" = some ⟨[(.array .byte), .int, .int, .int], some .boolean⟩ := by decide +kernel
theorem own_pd4 : parseMethodDescriptor "([BIII)I" = some ⟨[(.array .byte), .int, .int, .int], some .int⟩ := by decide +kernel
theorem own_pd5 : parseMethodDescriptor "([BII)I" = some ⟨[(.array .byte), .int, .int], some .int⟩ := by decide +kernel
theorem own_d1_0 : decode method_3_code 0 = .ok (.lload_n 0, 1) := by decide +kernel
theorem own_d1_1 : decode method_3_code 1 = .ok (.bipush 8, 2) := by decide +kernel
theorem own_d1_3 : decode method_3_code 3 = .ok (.iload_n 3, 1) := by decide +kernel
theorem own_d1_4 : decode method_3_code 4 = .ok (.imul, 1) := by decide +kernel
theorem own_d1_5 : decode method_3_code 5 = .ok (.lushr, 1) := by decide +kernel
theorem own_d1_6 : decode method_3_code 6 = .ok (.ldc2_w 8, 3) := by decide +kernel
theorem own_d1_9 : decode method_3_code 9 = .ok (.land, 1) := by decide +kernel
theorem own_d1_10 : decode method_3_code 10 = .ok (.l2i, 1) := by decide +kernel
theorem own_d1_11 : decode method_3_code 11 = .ok (.istore 4, 2) := by decide +kernel
theorem own_d1_13 : decode method_3_code 13 = .ok (.iload_n 2, 1) := by decide +kernel
theorem own_d1_14 : decode method_3_code 14 = .ok (.iload_n 3, 1) := by decide +kernel
theorem own_d1_15 : decode method_3_code 15 = .ok (.iushr, 1) := by decide +kernel
theorem own_d1_16 : decode method_3_code 16 = .ok (.iconst 1, 1) := by decide +kernel
theorem own_d1_17 : decode method_3_code 17 = .ok (.iand, 1) := by decide +kernel
theorem own_d1_18 : decode method_3_code 18 = .ok (.ifCond .eq 13, 3) := by decide +kernel
theorem own_d1_21 : decode method_3_code 21 = .ok (.bipush 48, 2) := by decide +kernel
theorem own_d1_23 : decode method_3_code 23 = .ok (.iload 4, 2) := by decide +kernel
theorem own_d1_25 : decode method_3_code 25 = .ok (.bipush 10, 2) := by decide +kernel
theorem own_d1_27 : decode method_3_code 27 = .ok (.irem, 1) := by decide +kernel
theorem own_d1_28 : decode method_3_code 28 = .ok (.iadd, 1) := by decide +kernel
theorem own_d1_29 : decode method_3_code 29 = .ok (.i2b, 1) := by decide +kernel
theorem own_d1_30 : decode method_3_code 30 = .ok (.ireturn, 1) := by decide +kernel
theorem own_d1_31 : decode method_3_code 31 = .ok (.iload 4, 2) := by decide +kernel
theorem own_d1_33 : decode method_3_code 33 = .ok (.i2b, 1) := by decide +kernel
theorem own_d1_34 : decode method_3_code 34 = .ok (.ireturn, 1) := by decide +kernel
theorem own_pn1 : plainName "com/example/kazalo/kazalo/records/RecordNumberPinLaw" = true := by first | (simp [plainName, overriddenIn]; done) | decide +kernel
theorem own_ef1 (m : MethodId) (q0 : Int64) (p1 : Int32) (p2 : Int32) : entryFrame m #[(.long q0), (.int p1), (.int p2)] 5 = mkF m 0 #[.val (.long q0), .second, .val (.int p1), .val (.int p2), .unset] [] := by first | (simp [entryFrame, mkF, argsToLocals, Value.category]; done) | rfl
abbrev own_R1 : Room := { frames := 0, cells := 0, slots := 0, locals := 0 }
def own_F1 (q0 : Int64) (p1 : Int32) (p2 : Int32) : Int32 :=
  let v1 : Int32 := ((((q0.toUInt64 >>> (((8 : Int32) * p2) &&& 0x3f).toInt64.toUInt64).toInt64) &&& (255 : Int64)).toInt32)
  if (((p1.toUInt32 >>> (p2 &&& 31).toUInt32).toInt32) &&& (1 : Int32)) = (0 : Int32) then
    (nar .byte (v1.toInt8.toInt32))
  else
    (nar .byte (((48 : Int32) + (v1 - (v1 / (10 : Int32)) * (10 : Int32))).toInt8.toInt32))
def own_Q1 (q0 : Int64) (p1 : Int32) (p2 : Int32) (h0 : Heap) (vz : Option Value) (h : Heap) (Lz : List Loc) : Prop :=  vz = some (.int (own_F1 q0 p1 p2)) ∧ Lz = [] ∧ h = h0
theorem own_e1_6 {q0 : Int64} {p1 : Int32} {p2 : Int32} {v1 : Int32} (hv1 : v1 = ((((q0.toUInt64 >>> (((8 : Int32) * p2) &&& 0x3f).toInt64.toUInt64).toInt64) &&& (255 : Int64)).toInt32)) (hc18_4 : (((p1.toUInt32 >>> (p2 &&& 31).toUInt32).toInt32) &&& (1 : Int32)) = (0 : Int32)) : (nar .byte (v1.toInt8.toInt32)) = (own_F1 q0 p1 p2) := by
  subst hv1
  first
    | (simp only [own_F1, if_pos hc18_4]; done)
    | (exfalso; contradiction)
theorem own_e1_8 {q0 : Int64} {p1 : Int32} {p2 : Int32} {v1 : Int32} (hv1 : v1 = ((((q0.toUInt64 >>> (((8 : Int32) * p2) &&& 0x3f).toInt64.toUInt64).toInt64) &&& (255 : Int64)).toInt32)) (hc18_4 : ¬ ((((p1.toUInt32 >>> (p2 &&& 31).toUInt32).toInt32) &&& (1 : Int32)) = (0 : Int32))) : (nar .byte (((48 : Int32) + (v1 - (v1 / (10 : Int32)) * (10 : Int32))).toInt8.toInt32)) = (own_F1 q0 p1 p2) := by
  subst hv1
  first
    | (simp only [own_F1, if_neg hc18_4]; done)
    | (exfalso; contradiction)
set_option maxRecDepth 65536 in
set_option maxHeartbeats 40000000 in
theorem own_rm1 (l : Launch) (Z : State) (a0 : Array Value) (hw : ∀ d ∈ tables_1, d.before a0 Z = true) (ws : List Jvm.Cond) (q0 : Int64) (p1 : Int32) (p2 : Int32) (h0 : Heap) :
    MetFree l (⟨"com/example/kazalo/kazalo/records/RecordNumberPinLaw", "drawn", "(JII)B"⟩ : MethodName) (head1 (Jvm.Cond.code (⟨"com/example/kazalo/kazalo/records/RecordNumberPinLaw", "drawn", "(JII)B"⟩ : MethodName) method_3_code 5 (some .byte) :: ws) own_R1) (fun a U => a = #[(.long q0), (.int p1), (.int p2)] ∧ Z.Warmed39 U.vm ∧ U.heap = h0) (fun _ _ _ _ _ => True) (fun _ U o U' => ∃ vz Lz, o = .returned vz ∧ own_Q1 q0 p1 p2 h0 vz U'.heap Lz ∧ FrameEnd U o U' Lz own_R1.cells own_R1.slots) := by
  refine MetFree.of_bodySF (plainFor_of_name own_pn1) hisR ?_
  intro p e s m args below meth c s₁ Bd hml0 hP hK
  obtain ⟨rfl, hZ, hh⟩ := hP
  have hx := Bd.exec
  have hby := Bd.bytes
  have hml : c.maxLocals = 5 := hml0
  have hown : s.vm.findClass "com/example/kazalo/kazalo/records/RecordNumberPinLaw" = some m.cls := findClass_of_methodNamed Bd.named
  have hnm := (name_of_methodNamed Bd.named Bd.method).1
  have X0 : Stand p l e own_R1 s m #[(.long q0), (.int p1), (.int p2)] below meth c s₁ [] 0 0 := Stand.of_body Bd
  have e0 : s₁.heap = h0 := by rw [← hh, Bd.state]; rfl
  show own_End p e below s (fun vz h Lz => vz = some (.int (own_F1 q0 p1 p2)) ∧ Lz = [] ∧ h = h0) own_R1.cells own_R1.slots s₁ (entryFrame m #[(.long q0), (.int p1), (.int p2)] 5)
  refine own_End.go (fun t k => castTop (own_ef1 m q0 p1 p2) k) ?_
  show own_End p e below s _ _ _ s₁ (mkF m 0 #[.val (.long q0), .second, .val (.int p1), .val (.int p2), .unset] [])
  obtain ⟨v1, hv1⟩ : ∃ z : Int32, z = ((((q0.toUInt64 >>> (((8 : Int32) * p2) &&& 0x3f).toInt64.toUInt64).toInt64) &&& (255 : Int64)).toInt32) := ⟨_, rfl⟩
  have st2 : ∀ t, Steps p.tables e below (s₁.setTop (mkF m 13 #[.val (.long q0), .second, .val (.int p1), .val (.int p2), .val (.int v1)] [])) t → Steps p.tables e below (s₁.setTop (mkF m 0 #[.val (.long q0), .second, .val (.int p1), .val (.int p2), .unset] [])) t := by
    rw [hv1]
    intro t k
    show Steps p.tables e below (s₁.setTop (mkF m 0 #[.val (.long q0), .second, .val (.int p1), .val (.int p2), .unset] [])) _
    refine XS.lloadN X0.here hx rfl (hb hby own_d1_0) rfl ?_
    show Steps p.tables e below (s₁.setTop (mkF m 1 #[.val (.long q0), .second, .val (.int p1), .val (.int p2), .unset] [(.long q0)])) _
    refine XS.bipush X0.here hx rfl (hb hby own_d1_1) ?_
    show Steps p.tables e below (s₁.setTop (mkF m 3 #[.val (.long q0), .second, .val (.int p1), .val (.int p2), .unset] [(.int (8 : Int32)), (.long q0)])) _
    refine XS.iloadN X0.here hx rfl (hb hby own_d1_3) rfl ?_
    show Steps p.tables e below (s₁.setTop (mkF m 4 #[.val (.long q0), .second, .val (.int p1), .val (.int p2), .unset] [(.int p2), (.int (8 : Int32)), (.long q0)])) _
    refine XS.imul X0.here hx rfl (hb hby own_d1_4) rfl ?_
    show Steps p.tables e below (s₁.setTop (mkF m 5 #[.val (.long q0), .second, .val (.int p1), .val (.int p2), .unset] [(.int ((8 : Int32) * p2)), (.long q0)])) _
    refine XS.lushr X0.here hx rfl (hb hby own_d1_5) rfl ?_
    show Steps p.tables e below (s₁.setTop (mkF m 6 #[.val (.long q0), .second, .val (.int p1), .val (.int p2), .unset] [(.long ((q0.toUInt64 >>> (((8 : Int32) * p2) &&& 0x3f).toInt64.toUInt64).toInt64))])) _
    refine X0.ldc2Long hx hown (mvT hZ (hw _ (List.mem_of_getElem? (i := 5) rfl))) (g := (mkF m 6 #[.val (.long q0), .second, .val (.int p1), .val (.int p2), .unset] [(.long ((q0.toUInt64 >>> (((8 : Int32) * p2) &&& 0x3f).toInt64.toUInt64).toInt64))])) rfl (hb hby own_d1_6) _ ?_
    show Steps p.tables e below (s₁.setTop (mkF m 9 #[.val (.long q0), .second, .val (.int p1), .val (.int p2), .unset] [(.long (255 : Int64)), (.long ((q0.toUInt64 >>> (((8 : Int32) * p2) &&& 0x3f).toInt64.toUInt64).toInt64))])) _
    refine XS.land X0.here hx rfl (hb hby own_d1_9) rfl ?_
    show Steps p.tables e below (s₁.setTop (mkF m 10 #[.val (.long q0), .second, .val (.int p1), .val (.int p2), .unset] [(.long (((q0.toUInt64 >>> (((8 : Int32) * p2) &&& 0x3f).toInt64.toUInt64).toInt64) &&& (255 : Int64)))])) _
    refine XS.l2i X0.here hx rfl (hb hby own_d1_10) rfl ?_
    show Steps p.tables e below (s₁.setTop (mkF m 11 #[.val (.long q0), .second, .val (.int p1), .val (.int p2), .unset] [(.int ((((q0.toUInt64 >>> (((8 : Int32) * p2) &&& 0x3f).toInt64.toUInt64).toInt64) &&& (255 : Int64)).toInt32))])) _
    refine XS.istore X0.here hx rfl (hb hby own_d1_11) rfl (l' := #[.val (.long q0), .second, .val (.int p1), .val (.int p2), .val (.int ((((q0.toUInt64 >>> (((8 : Int32) * p2) &&& 0x3f).toInt64.toUInt64).toInt64) &&& (255 : Int64)).toInt32))]) rfl ?_
    exact k
  have st3 : ∀ t, Steps p.tables e below (s₁.setTop (mkF m 18 #[.val (.long q0), .second, .val (.int p1), .val (.int p2), .val (.int v1)] [(.int (((p1.toUInt32 >>> (p2 &&& 31).toUInt32).toInt32) &&& (1 : Int32)))])) t → Steps p.tables e below (s₁.setTop (mkF m 13 #[.val (.long q0), .second, .val (.int p1), .val (.int p2), .val (.int v1)] [])) t := by
    intro t k
    show Steps p.tables e below (s₁.setTop (mkF m 13 #[.val (.long q0), .second, .val (.int p1), .val (.int p2), .val (.int v1)] [])) _
    refine XS.iloadN X0.here hx rfl (hb hby own_d1_13) rfl ?_
    show Steps p.tables e below (s₁.setTop (mkF m 14 #[.val (.long q0), .second, .val (.int p1), .val (.int p2), .val (.int v1)] [(.int p1)])) _
    refine XS.iloadN X0.here hx rfl (hb hby own_d1_14) rfl ?_
    show Steps p.tables e below (s₁.setTop (mkF m 15 #[.val (.long q0), .second, .val (.int p1), .val (.int p2), .val (.int v1)] [(.int p2), (.int p1)])) _
    refine XS.iushr X0.here hx rfl (hb hby own_d1_15) rfl ?_
    show Steps p.tables e below (s₁.setTop (mkF m 16 #[.val (.long q0), .second, .val (.int p1), .val (.int p2), .val (.int v1)] [(.int ((p1.toUInt32 >>> (p2 &&& 31).toUInt32).toInt32))])) _
    refine XS.iconst X0.here hx rfl (hb hby own_d1_16) ?_
    show Steps p.tables e below (s₁.setTop (mkF m 17 #[.val (.long q0), .second, .val (.int p1), .val (.int p2), .val (.int v1)] [(.int (1 : Int32)), (.int ((p1.toUInt32 >>> (p2 &&& 31).toUInt32).toInt32))])) _
    refine XS.iand X0.here hx rfl (hb hby own_d1_17) rfl ?_
    exact k
  refine own_End.go (fun t k => st2 _ (st3 _ k)) ?_
  by_cases hc18_4 : (((p1.toUInt32 >>> (p2 &&& 31).toUInt32).toInt32) &&& (1 : Int32)) = (0 : Int32)
  · have st5 : ∀ t, Steps p.tables e below (s₁.setTop (mkF m 34 #[.val (.long q0), .second, .val (.int p1), .val (.int p2), .val (.int v1)] [(.int (v1.toInt8.toInt32))])) t → Steps p.tables e below (s₁.setTop (mkF m 18 #[.val (.long q0), .second, .val (.int p1), .val (.int p2), .val (.int v1)] [(.int (((p1.toUInt32 >>> (p2 &&& 31).toUInt32).toInt32) &&& (1 : Int32)))])) t := by
      intro t k
      show Steps p.tables e below (s₁.setTop (mkF m 18 #[.val (.long q0), .second, .val (.int p1), .val (.int p2), .val (.int v1)] [(.int (((p1.toUInt32 >>> (p2 &&& 31).toUInt32).toInt32) &&& (1 : Int32)))])) _
      refine XS.ifYes X0.here hx rfl (pc0 := 18) (pc' := 31) rfl (hb hby own_d1_18) rfl ((if0 _ _).trans (teq hc18_4).1) (by decide) (by decide) ?_
      show Steps p.tables e below (s₁.setTop (mkF m 31 #[.val (.long q0), .second, .val (.int p1), .val (.int p2), .val (.int v1)] [])) _
      refine XS.iload X0.here hx rfl (hb hby own_d1_31) rfl ?_
      show Steps p.tables e below (s₁.setTop (mkF m 33 #[.val (.long q0), .second, .val (.int p1), .val (.int p2), .val (.int v1)] [(.int v1)])) _
      refine XS.i2b X0.here hx rfl (hb hby own_d1_33) rfl ?_
      exact k
    refine own_End.go (fun t k => st5 _ k) ?_
    exact own_leafN X0 hx Bd.notSynchronized (t := .byte) Bd.returns (by simp) (hb hby own_d1_34) ⟨congrArg (fun z => some (Value.int z)) (own_e1_6 hv1 hc18_4), rfl, e0⟩ (by decide) (by decide)
  · have st7 : ∀ t, Steps p.tables e below (s₁.setTop (mkF m 30 #[.val (.long q0), .second, .val (.int p1), .val (.int p2), .val (.int v1)] [(.int (((48 : Int32) + (v1 - (v1 / (10 : Int32)) * (10 : Int32))).toInt8.toInt32))])) t → Steps p.tables e below (s₁.setTop (mkF m 18 #[.val (.long q0), .second, .val (.int p1), .val (.int p2), .val (.int v1)] [(.int (((p1.toUInt32 >>> (p2 &&& 31).toUInt32).toInt32) &&& (1 : Int32)))])) t := by
      intro t k
      show Steps p.tables e below (s₁.setTop (mkF m 18 #[.val (.long q0), .second, .val (.int p1), .val (.int p2), .val (.int v1)] [(.int (((p1.toUInt32 >>> (p2 &&& 31).toUInt32).toInt32) &&& (1 : Int32)))])) _
      refine XS.ifNo X0.here hx rfl (hb hby own_d1_18) rfl ((if0 _ _).trans (feq hc18_4).1) ?_
      show Steps p.tables e below (s₁.setTop (mkF m 21 #[.val (.long q0), .second, .val (.int p1), .val (.int p2), .val (.int v1)] [])) _
      refine XS.bipush X0.here hx rfl (hb hby own_d1_21) ?_
      show Steps p.tables e below (s₁.setTop (mkF m 23 #[.val (.long q0), .second, .val (.int p1), .val (.int p2), .val (.int v1)] [(.int (48 : Int32))])) _
      refine XS.iload X0.here hx rfl (hb hby own_d1_23) rfl ?_
      show Steps p.tables e below (s₁.setTop (mkF m 25 #[.val (.long q0), .second, .val (.int p1), .val (.int p2), .val (.int v1)] [(.int v1), (.int (48 : Int32))])) _
      refine XS.bipush X0.here hx rfl (hb hby own_d1_25) ?_
      show Steps p.tables e below (s₁.setTop (mkF m 27 #[.val (.long q0), .second, .val (.int p1), .val (.int p2), .val (.int v1)] [(.int (10 : Int32)), (.int v1), (.int (48 : Int32))])) _
      refine XS.irem X0.here hx rfl (hb hby own_d1_27) rfl (by decide) ?_
      show Steps p.tables e below (s₁.setTop (mkF m 28 #[.val (.long q0), .second, .val (.int p1), .val (.int p2), .val (.int v1)] [(.int (v1 - (v1 / (10 : Int32)) * (10 : Int32))), (.int (48 : Int32))])) _
      refine XS.iadd X0.here hx rfl (hb hby own_d1_28) rfl ?_
      show Steps p.tables e below (s₁.setTop (mkF m 29 #[.val (.long q0), .second, .val (.int p1), .val (.int p2), .val (.int v1)] [(.int ((48 : Int32) + (v1 - (v1 / (10 : Int32)) * (10 : Int32))))])) _
      refine XS.i2b X0.here hx rfl (hb hby own_d1_29) rfl ?_
      exact k
    refine own_End.go (fun t k => st7 _ k) ?_
    exact own_leafN X0 hx Bd.notSynchronized (t := .byte) Bd.returns (by simp) (hb hby own_d1_30) ⟨congrArg (fun z => some (Value.int z)) (own_e1_8 hv1 hc18_4), rfl, e0⟩ (by decide) (by decide)
theorem own_d5_0 : decode method_4_code 0 = .ok (.iload_n 0, 1) := by decide +kernel
theorem own_d5_1 : decode method_4_code 1 = .ok (.bipush 48, 2) := by decide +kernel
theorem own_d5_3 : decode method_4_code 3 = .ok (.if_icmp .lt 14, 3) := by decide +kernel
theorem own_d5_6 : decode method_4_code 6 = .ok (.iload_n 0, 1) := by decide +kernel
theorem own_d5_7 : decode method_4_code 7 = .ok (.bipush 57, 2) := by decide +kernel
theorem own_d5_9 : decode method_4_code 9 = .ok (.if_icmp .gt 8, 3) := by decide +kernel
theorem own_d5_12 : decode method_4_code 12 = .ok (.iload_n 0, 1) := by decide +kernel
theorem own_d5_13 : decode method_4_code 13 = .ok (.bipush 48, 2) := by decide +kernel
theorem own_d5_15 : decode method_4_code 15 = .ok (.isub, 1) := by decide +kernel
theorem own_d5_16 : decode method_4_code 16 = .ok (.ireturn, 1) := by decide +kernel
theorem own_d5_17 : decode method_4_code 17 = .ok (.iconst (-1), 1) := by decide +kernel
theorem own_d5_18 : decode method_4_code 18 = .ok (.ireturn, 1) := by decide +kernel
theorem own_pn5 : plainName "com/example/kazalo/kazalo/records/RecordNumberPinLaw" = true := by first | (simp [plainName, overriddenIn]; done) | decide +kernel
theorem own_ef5 (m : MethodId) (p0 : Int32) : entryFrame m #[(.int p0)] 1 = mkF m 0 #[.val (.int p0)] [] := by first | (simp [entryFrame, mkF, argsToLocals, Value.category]; done) | rfl
abbrev own_R5 : Room := { frames := 0, cells := 0, slots := 0, locals := 0 }
def own_F5 (p0 : Int32) : Int32 :=
  if p0 < (48 : Int32) then
    (-1 : Int32)
  else
    if (57 : Int32) < p0 then
      (-1 : Int32)
    else
      (p0 - (48 : Int32))
def own_Q5 (p0 : Int32) (h0 : Heap) (vz : Option Value) (h : Heap) (Lz : List Loc) : Prop :=  vz = some (.int (own_F5 p0)) ∧ Lz = [] ∧ h = h0
theorem own_e5_4 {p0 : Int32} (hc3_2 : p0 < (48 : Int32)) : (-1 : Int32) = (own_F5 p0) := by
  skip
  first
    | (simp only [own_F5, if_pos hc3_2]; done)
    | (exfalso; contradiction)
theorem own_e5_8 {p0 : Int32} (hc3_2 : ¬ (p0 < (48 : Int32))) (hc9_6 : (57 : Int32) < p0) : (-1 : Int32) = (own_F5 p0) := by
  skip
  first
    | (simp only [own_F5, if_neg hc3_2, if_pos hc9_6]; done)
    | (exfalso; contradiction)
theorem own_e5_10 {p0 : Int32} (hc3_2 : ¬ (p0 < (48 : Int32))) (hc9_6 : ¬ ((57 : Int32) < p0)) : (p0 - (48 : Int32)) = (own_F5 p0) := by
  skip
  first
    | (simp only [own_F5, if_neg hc3_2, if_neg hc9_6]; done)
    | (exfalso; contradiction)
set_option maxRecDepth 65536 in
set_option maxHeartbeats 40000000 in
theorem own_rm5 (l : Launch) (Z : State) (a0 : Array Value) (hw : ∀ d ∈ tables_1, d.before a0 Z = true) (ws : List Jvm.Cond) (p0 : Int32) (h0 : Heap) :
    MetFree l (⟨"com/example/kazalo/kazalo/records/RecordNumberPinLaw", "digitOf", "(B)I"⟩ : MethodName) (head1 (Jvm.Cond.code (⟨"com/example/kazalo/kazalo/records/RecordNumberPinLaw", "digitOf", "(B)I"⟩ : MethodName) method_4_code 1 (some .int) :: ws) own_R5) (fun a U => a = #[(.int p0)] ∧ Z.Warmed39 U.vm ∧ U.heap = h0) (fun _ _ _ _ _ => True) (fun _ U o U' => ∃ vz Lz, o = .returned vz ∧ own_Q5 p0 h0 vz U'.heap Lz ∧ FrameEnd U o U' Lz own_R5.cells own_R5.slots) := by
  refine MetFree.of_bodySF (plainFor_of_name own_pn5) hisR ?_
  intro p e s m args below meth c s₁ Bd hml0 hP hK
  obtain ⟨rfl, hZ, hh⟩ := hP
  have hx := Bd.exec
  have hby := Bd.bytes
  have hml : c.maxLocals = 1 := hml0
  have hown : s.vm.findClass "com/example/kazalo/kazalo/records/RecordNumberPinLaw" = some m.cls := findClass_of_methodNamed Bd.named
  have hnm := (name_of_methodNamed Bd.named Bd.method).1
  have X0 : Stand p l e own_R5 s m #[(.int p0)] below meth c s₁ [] 0 0 := Stand.of_body Bd
  have e0 : s₁.heap = h0 := by rw [← hh, Bd.state]; rfl
  show own_End p e below s (fun vz h Lz => vz = some (.int (own_F5 p0)) ∧ Lz = [] ∧ h = h0) own_R5.cells own_R5.slots s₁ (entryFrame m #[(.int p0)] 1)
  refine own_End.go (fun t k => castTop (own_ef5 m p0) k) ?_
  show own_End p e below s _ _ _ s₁ (mkF m 0 #[.val (.int p0)] [])
  have st1 : ∀ t, Steps p.tables e below (s₁.setTop (mkF m 3 #[.val (.int p0)] [(.int (48 : Int32)), (.int p0)])) t → Steps p.tables e below (s₁.setTop (mkF m 0 #[.val (.int p0)] [])) t := by
    intro t k
    show Steps p.tables e below (s₁.setTop (mkF m 0 #[.val (.int p0)] [])) _
    refine XS.iloadN X0.here hx rfl (hb hby own_d5_0) rfl ?_
    show Steps p.tables e below (s₁.setTop (mkF m 1 #[.val (.int p0)] [(.int p0)])) _
    refine XS.bipush X0.here hx rfl (hb hby own_d5_1) ?_
    exact k
  refine own_End.go (fun t k => st1 _ k) ?_
  by_cases hc3_2 : p0 < (48 : Int32)
  · have st3 : ∀ t, Steps p.tables e below (s₁.setTop (mkF m 18 #[.val (.int p0)] [(.int (-1 : Int32))])) t → Steps p.tables e below (s₁.setTop (mkF m 3 #[.val (.int p0)] [(.int (48 : Int32)), (.int p0)])) t := by
      intro t k
      show Steps p.tables e below (s₁.setTop (mkF m 3 #[.val (.int p0)] [(.int (48 : Int32)), (.int p0)])) _
      refine XS.icmpYes X0.here hx rfl (pc0 := 3) (pc' := 17) rfl (hb hby own_d5_3) rfl (tlt hc3_2).1 (by decide) (by decide) ?_
      show Steps p.tables e below (s₁.setTop (mkF m 17 #[.val (.int p0)] [])) _
      refine XS.iconst X0.here hx rfl (hb hby own_d5_17) ?_
      exact k
    refine own_End.go (fun t k => st3 _ k) ?_
    exact own_leafI X0 hx Bd.notSynchronized Bd.returns (hb hby own_d5_18) ⟨congrArg (fun z => some (Value.int z)) (own_e5_4 hc3_2), rfl, e0⟩ (by decide) (by decide)
  · have st5 : ∀ t, Steps p.tables e below (s₁.setTop (mkF m 9 #[.val (.int p0)] [(.int (57 : Int32)), (.int p0)])) t → Steps p.tables e below (s₁.setTop (mkF m 3 #[.val (.int p0)] [(.int (48 : Int32)), (.int p0)])) t := by
      intro t k
      show Steps p.tables e below (s₁.setTop (mkF m 3 #[.val (.int p0)] [(.int (48 : Int32)), (.int p0)])) _
      refine XS.icmpNo X0.here hx rfl (hb hby own_d5_3) rfl (flt hc3_2).1 ?_
      show Steps p.tables e below (s₁.setTop (mkF m 6 #[.val (.int p0)] [])) _
      refine XS.iloadN X0.here hx rfl (hb hby own_d5_6) rfl ?_
      show Steps p.tables e below (s₁.setTop (mkF m 7 #[.val (.int p0)] [(.int p0)])) _
      refine XS.bipush X0.here hx rfl (hb hby own_d5_7) ?_
      exact k
    refine own_End.go (fun t k => st5 _ k) ?_
    by_cases hc9_6 : (57 : Int32) < p0
    · have st7 : ∀ t, Steps p.tables e below (s₁.setTop (mkF m 18 #[.val (.int p0)] [(.int (-1 : Int32))])) t → Steps p.tables e below (s₁.setTop (mkF m 9 #[.val (.int p0)] [(.int (57 : Int32)), (.int p0)])) t := by
        intro t k
        show Steps p.tables e below (s₁.setTop (mkF m 9 #[.val (.int p0)] [(.int (57 : Int32)), (.int p0)])) _
        refine XS.icmpYes X0.here hx rfl (pc0 := 9) (pc' := 17) rfl (hb hby own_d5_9) rfl (tlt hc9_6).2.2.1 (by decide) (by decide) ?_
        show Steps p.tables e below (s₁.setTop (mkF m 17 #[.val (.int p0)] [])) _
        refine XS.iconst X0.here hx rfl (hb hby own_d5_17) ?_
        exact k
      refine own_End.go (fun t k => st7 _ k) ?_
      exact own_leafI X0 hx Bd.notSynchronized Bd.returns (hb hby own_d5_18) ⟨congrArg (fun z => some (Value.int z)) (own_e5_8 hc3_2 hc9_6), rfl, e0⟩ (by decide) (by decide)
    · have st9 : ∀ t, Steps p.tables e below (s₁.setTop (mkF m 16 #[.val (.int p0)] [(.int (p0 - (48 : Int32)))])) t → Steps p.tables e below (s₁.setTop (mkF m 9 #[.val (.int p0)] [(.int (57 : Int32)), (.int p0)])) t := by
        intro t k
        show Steps p.tables e below (s₁.setTop (mkF m 9 #[.val (.int p0)] [(.int (57 : Int32)), (.int p0)])) _
        refine XS.icmpNo X0.here hx rfl (hb hby own_d5_9) rfl (flt hc9_6).2.2.1 ?_
        show Steps p.tables e below (s₁.setTop (mkF m 12 #[.val (.int p0)] [])) _
        refine XS.iloadN X0.here hx rfl (hb hby own_d5_12) rfl ?_
        show Steps p.tables e below (s₁.setTop (mkF m 13 #[.val (.int p0)] [(.int p0)])) _
        refine XS.bipush X0.here hx rfl (hb hby own_d5_13) ?_
        show Steps p.tables e below (s₁.setTop (mkF m 15 #[.val (.int p0)] [(.int (48 : Int32)), (.int p0)])) _
        refine XS.isub X0.here hx rfl (hb hby own_d5_15) rfl ?_
        exact k
      refine own_End.go (fun t k => st9 _ k) ?_
      exact own_leafI X0 hx Bd.notSynchronized Bd.returns (hb hby own_d5_16) ⟨congrArg (fun z => some (Value.int z)) (own_e5_10 hc3_2 hc9_6), rfl, e0⟩ (by decide) (by decide)
theorem own_d6_0 : decode method_2_code 0 = .ok (.iload_n 0, 1) := by decide +kernel
theorem own_d6_1 : decode method_2_code 1 = .ok (.ifCond .ne 5, 3) := by decide +kernel
theorem own_d6_4 : decode method_2_code 4 = .ok (.iconst 1, 1) := by decide +kernel
theorem own_d6_5 : decode method_2_code 5 = .ok (.ireturn, 1) := by decide +kernel
theorem own_d6_6 : decode method_2_code 6 = .ok (.iload_n 0, 1) := by decide +kernel
theorem own_d6_7 : decode method_2_code 7 = .ok (.iconst 1, 1) := by decide +kernel
theorem own_d6_8 : decode method_2_code 8 = .ok (.if_icmp .ne 6, 3) := by decide +kernel
theorem own_d6_11 : decode method_2_code 11 = .ok (.bipush 10, 2) := by decide +kernel
theorem own_d6_13 : decode method_2_code 13 = .ok (.ireturn, 1) := by decide +kernel
theorem own_d6_14 : decode method_2_code 14 = .ok (.iload_n 0, 1) := by decide +kernel
theorem own_d6_15 : decode method_2_code 15 = .ok (.iconst 2, 1) := by decide +kernel
theorem own_d6_16 : decode method_2_code 16 = .ok (.if_icmp .ne 6, 3) := by decide +kernel
theorem own_d6_19 : decode method_2_code 19 = .ok (.bipush 100, 2) := by decide +kernel
theorem own_d6_21 : decode method_2_code 21 = .ok (.ireturn, 1) := by decide +kernel
theorem own_d6_22 : decode method_2_code 22 = .ok (.iload_n 0, 1) := by decide +kernel
theorem own_d6_23 : decode method_2_code 23 = .ok (.iconst 3, 1) := by decide +kernel
theorem own_d6_24 : decode method_2_code 24 = .ok (.if_icmp .ne 7, 3) := by decide +kernel
theorem own_d6_27 : decode method_2_code 27 = .ok (.sipush 1000, 3) := by decide +kernel
theorem own_d6_30 : decode method_2_code 30 = .ok (.ireturn, 1) := by decide +kernel
theorem own_d6_31 : decode method_2_code 31 = .ok (.iload_n 0, 1) := by decide +kernel
theorem own_d6_32 : decode method_2_code 32 = .ok (.iconst 4, 1) := by decide +kernel
theorem own_d6_33 : decode method_2_code 33 = .ok (.if_icmp .ne 7, 3) := by decide +kernel
theorem own_d6_36 : decode method_2_code 36 = .ok (.sipush 10000, 3) := by decide +kernel
theorem own_d6_39 : decode method_2_code 39 = .ok (.ireturn, 1) := by decide +kernel
theorem own_d6_40 : decode method_2_code 40 = .ok (.ldc 7, 2) := by decide +kernel
theorem own_d6_42 : decode method_2_code 42 = .ok (.ireturn, 1) := by decide +kernel
theorem own_pn6 : plainName "com/example/kazalo/kazalo/records/RecordNumberPinLaw" = true := by first | (simp [plainName, overriddenIn]; done) | decide +kernel
theorem own_ef6 (m : MethodId) (p0 : Int32) : entryFrame m #[(.int p0)] 1 = mkF m 0 #[.val (.int p0)] [] := by first | (simp [entryFrame, mkF, argsToLocals, Value.category]; done) | rfl
abbrev own_R6 : Room := { frames := 0, cells := 0, slots := 0, locals := 0 }
def own_F6 (p0 : Int32) : Int32 :=
  if p0 = (0 : Int32) then
    (1 : Int32)
  else
    if p0 = (1 : Int32) then
      (10 : Int32)
    else
      if p0 = (2 : Int32) then
        (100 : Int32)
      else
        if p0 = (3 : Int32) then
          (1000 : Int32)
        else
          if p0 = (4 : Int32) then
            (10000 : Int32)
          else
            (100000 : Int32)
def own_Q6 (p0 : Int32) (h0 : Heap) (vz : Option Value) (h : Heap) (Lz : List Loc) : Prop :=  vz = some (.int (own_F6 p0)) ∧ Lz = [] ∧ h = h0
theorem own_e6_4 {p0 : Int32} (hc1_2 : p0 = (0 : Int32)) : (1 : Int32) = (own_F6 p0) := by
  skip
  first
    | (simp only [own_F6, if_pos hc1_2]; done)
    | (exfalso; contradiction)
theorem own_e6_8 {p0 : Int32} (hc1_2 : ¬ (p0 = (0 : Int32))) (hc8_6 : p0 = (1 : Int32)) : (10 : Int32) = (own_F6 p0) := by
  skip
  first
    | (simp only [own_F6, if_neg hc1_2, if_pos hc8_6]; done)
    | (exfalso; contradiction)
theorem own_e6_12 {p0 : Int32} (hc1_2 : ¬ (p0 = (0 : Int32))) (hc8_6 : ¬ (p0 = (1 : Int32))) (hc16_10 : p0 = (2 : Int32)) : (100 : Int32) = (own_F6 p0) := by
  skip
  first
    | (simp only [own_F6, if_neg hc1_2, if_neg hc8_6, if_pos hc16_10]; done)
    | (exfalso; contradiction)
theorem own_e6_16 {p0 : Int32} (hc1_2 : ¬ (p0 = (0 : Int32))) (hc8_6 : ¬ (p0 = (1 : Int32))) (hc16_10 : ¬ (p0 = (2 : Int32))) (hc24_14 : p0 = (3 : Int32)) : (1000 : Int32) = (own_F6 p0) := by
  skip
  first
    | (simp only [own_F6, if_neg hc1_2, if_neg hc8_6, if_neg hc16_10, if_pos hc24_14]; done)
    | (exfalso; contradiction)
theorem own_e6_20 {p0 : Int32} (hc1_2 : ¬ (p0 = (0 : Int32))) (hc8_6 : ¬ (p0 = (1 : Int32))) (hc16_10 : ¬ (p0 = (2 : Int32))) (hc24_14 : ¬ (p0 = (3 : Int32))) (hc33_18 : p0 = (4 : Int32)) : (10000 : Int32) = (own_F6 p0) := by
  skip
  first
    | (simp only [own_F6, if_neg hc1_2, if_neg hc8_6, if_neg hc16_10, if_neg hc24_14, if_pos hc33_18]; done)
    | (exfalso; contradiction)
theorem own_e6_22 {p0 : Int32} (hc1_2 : ¬ (p0 = (0 : Int32))) (hc8_6 : ¬ (p0 = (1 : Int32))) (hc16_10 : ¬ (p0 = (2 : Int32))) (hc24_14 : ¬ (p0 = (3 : Int32))) (hc33_18 : ¬ (p0 = (4 : Int32))) : (100000 : Int32) = (own_F6 p0) := by
  skip
  first
    | (simp only [own_F6, if_neg hc1_2, if_neg hc8_6, if_neg hc16_10, if_neg hc24_14, if_neg hc33_18]; done)
    | (exfalso; contradiction)
set_option maxRecDepth 65536 in
set_option maxHeartbeats 40000000 in
theorem own_rm6 (l : Launch) (Z : State) (a0 : Array Value) (hw : ∀ d ∈ tables_1, d.before a0 Z = true) (ws : List Jvm.Cond) (p0 : Int32) (h0 : Heap) :
    MetFree l (⟨"com/example/kazalo/kazalo/records/RecordNumberPinLaw", "pow10", "(I)I"⟩ : MethodName) (head1 (Jvm.Cond.code (⟨"com/example/kazalo/kazalo/records/RecordNumberPinLaw", "pow10", "(I)I"⟩ : MethodName) method_2_code 1 (some .int) :: ws) own_R6) (fun a U => a = #[(.int p0)] ∧ Z.Warmed39 U.vm ∧ U.heap = h0) (fun _ _ _ _ _ => True) (fun _ U o U' => ∃ vz Lz, o = .returned vz ∧ own_Q6 p0 h0 vz U'.heap Lz ∧ FrameEnd U o U' Lz own_R6.cells own_R6.slots) := by
  refine MetFree.of_bodySF (plainFor_of_name own_pn6) hisR ?_
  intro p e s m args below meth c s₁ Bd hml0 hP hK
  obtain ⟨rfl, hZ, hh⟩ := hP
  have hx := Bd.exec
  have hby := Bd.bytes
  have hml : c.maxLocals = 1 := hml0
  have hown : s.vm.findClass "com/example/kazalo/kazalo/records/RecordNumberPinLaw" = some m.cls := findClass_of_methodNamed Bd.named
  have hnm := (name_of_methodNamed Bd.named Bd.method).1
  have X0 : Stand p l e own_R6 s m #[(.int p0)] below meth c s₁ [] 0 0 := Stand.of_body Bd
  have e0 : s₁.heap = h0 := by rw [← hh, Bd.state]; rfl
  show own_End p e below s (fun vz h Lz => vz = some (.int (own_F6 p0)) ∧ Lz = [] ∧ h = h0) own_R6.cells own_R6.slots s₁ (entryFrame m #[(.int p0)] 1)
  refine own_End.go (fun t k => castTop (own_ef6 m p0) k) ?_
  show own_End p e below s _ _ _ s₁ (mkF m 0 #[.val (.int p0)] [])
  have st1 : ∀ t, Steps p.tables e below (s₁.setTop (mkF m 1 #[.val (.int p0)] [(.int p0)])) t → Steps p.tables e below (s₁.setTop (mkF m 0 #[.val (.int p0)] [])) t := by
    intro t k
    show Steps p.tables e below (s₁.setTop (mkF m 0 #[.val (.int p0)] [])) _
    refine XS.iloadN X0.here hx rfl (hb hby own_d6_0) rfl ?_
    exact k
  refine own_End.go (fun t k => st1 _ k) ?_
  by_cases hc1_2 : p0 = (0 : Int32)
  · have st3 : ∀ t, Steps p.tables e below (s₁.setTop (mkF m 5 #[.val (.int p0)] [(.int (1 : Int32))])) t → Steps p.tables e below (s₁.setTop (mkF m 1 #[.val (.int p0)] [(.int p0)])) t := by
      intro t k
      show Steps p.tables e below (s₁.setTop (mkF m 1 #[.val (.int p0)] [(.int p0)])) _
      refine XS.ifNo X0.here hx rfl (hb hby own_d6_1) rfl ((if0 _ _).trans (teq hc1_2).2) ?_
      show Steps p.tables e below (s₁.setTop (mkF m 4 #[.val (.int p0)] [])) _
      refine XS.iconst X0.here hx rfl (hb hby own_d6_4) ?_
      exact k
    refine own_End.go (fun t k => st3 _ k) ?_
    exact own_leafI X0 hx Bd.notSynchronized Bd.returns (hb hby own_d6_5) ⟨congrArg (fun z => some (Value.int z)) (own_e6_4 hc1_2), rfl, e0⟩ (by decide) (by decide)
  · have st5 : ∀ t, Steps p.tables e below (s₁.setTop (mkF m 8 #[.val (.int p0)] [(.int (1 : Int32)), (.int p0)])) t → Steps p.tables e below (s₁.setTop (mkF m 1 #[.val (.int p0)] [(.int p0)])) t := by
      intro t k
      show Steps p.tables e below (s₁.setTop (mkF m 1 #[.val (.int p0)] [(.int p0)])) _
      refine XS.ifYes X0.here hx rfl (pc0 := 1) (pc' := 6) rfl (hb hby own_d6_1) rfl ((if0 _ _).trans (feq hc1_2).2) (by decide) (by decide) ?_
      show Steps p.tables e below (s₁.setTop (mkF m 6 #[.val (.int p0)] [])) _
      refine XS.iloadN X0.here hx rfl (hb hby own_d6_6) rfl ?_
      show Steps p.tables e below (s₁.setTop (mkF m 7 #[.val (.int p0)] [(.int p0)])) _
      refine XS.iconst X0.here hx rfl (hb hby own_d6_7) ?_
      exact k
    refine own_End.go (fun t k => st5 _ k) ?_
    by_cases hc8_6 : p0 = (1 : Int32)
    · have st7 : ∀ t, Steps p.tables e below (s₁.setTop (mkF m 13 #[.val (.int p0)] [(.int (10 : Int32))])) t → Steps p.tables e below (s₁.setTop (mkF m 8 #[.val (.int p0)] [(.int (1 : Int32)), (.int p0)])) t := by
        intro t k
        show Steps p.tables e below (s₁.setTop (mkF m 8 #[.val (.int p0)] [(.int (1 : Int32)), (.int p0)])) _
        refine XS.icmpNo X0.here hx rfl (hb hby own_d6_8) rfl (teq hc8_6).2 ?_
        show Steps p.tables e below (s₁.setTop (mkF m 11 #[.val (.int p0)] [])) _
        refine XS.bipush X0.here hx rfl (hb hby own_d6_11) ?_
        exact k
      refine own_End.go (fun t k => st7 _ k) ?_
      exact own_leafI X0 hx Bd.notSynchronized Bd.returns (hb hby own_d6_13) ⟨congrArg (fun z => some (Value.int z)) (own_e6_8 hc1_2 hc8_6), rfl, e0⟩ (by decide) (by decide)
    · have st9 : ∀ t, Steps p.tables e below (s₁.setTop (mkF m 16 #[.val (.int p0)] [(.int (2 : Int32)), (.int p0)])) t → Steps p.tables e below (s₁.setTop (mkF m 8 #[.val (.int p0)] [(.int (1 : Int32)), (.int p0)])) t := by
        intro t k
        show Steps p.tables e below (s₁.setTop (mkF m 8 #[.val (.int p0)] [(.int (1 : Int32)), (.int p0)])) _
        refine XS.icmpYes X0.here hx rfl (pc0 := 8) (pc' := 14) rfl (hb hby own_d6_8) rfl (feq hc8_6).2 (by decide) (by decide) ?_
        show Steps p.tables e below (s₁.setTop (mkF m 14 #[.val (.int p0)] [])) _
        refine XS.iloadN X0.here hx rfl (hb hby own_d6_14) rfl ?_
        show Steps p.tables e below (s₁.setTop (mkF m 15 #[.val (.int p0)] [(.int p0)])) _
        refine XS.iconst X0.here hx rfl (hb hby own_d6_15) ?_
        exact k
      refine own_End.go (fun t k => st9 _ k) ?_
      by_cases hc16_10 : p0 = (2 : Int32)
      · have st11 : ∀ t, Steps p.tables e below (s₁.setTop (mkF m 21 #[.val (.int p0)] [(.int (100 : Int32))])) t → Steps p.tables e below (s₁.setTop (mkF m 16 #[.val (.int p0)] [(.int (2 : Int32)), (.int p0)])) t := by
          intro t k
          show Steps p.tables e below (s₁.setTop (mkF m 16 #[.val (.int p0)] [(.int (2 : Int32)), (.int p0)])) _
          refine XS.icmpNo X0.here hx rfl (hb hby own_d6_16) rfl (teq hc16_10).2 ?_
          show Steps p.tables e below (s₁.setTop (mkF m 19 #[.val (.int p0)] [])) _
          refine XS.bipush X0.here hx rfl (hb hby own_d6_19) ?_
          exact k
        refine own_End.go (fun t k => st11 _ k) ?_
        exact own_leafI X0 hx Bd.notSynchronized Bd.returns (hb hby own_d6_21) ⟨congrArg (fun z => some (Value.int z)) (own_e6_12 hc1_2 hc8_6 hc16_10), rfl, e0⟩ (by decide) (by decide)
      · have st13 : ∀ t, Steps p.tables e below (s₁.setTop (mkF m 24 #[.val (.int p0)] [(.int (3 : Int32)), (.int p0)])) t → Steps p.tables e below (s₁.setTop (mkF m 16 #[.val (.int p0)] [(.int (2 : Int32)), (.int p0)])) t := by
          intro t k
          show Steps p.tables e below (s₁.setTop (mkF m 16 #[.val (.int p0)] [(.int (2 : Int32)), (.int p0)])) _
          refine XS.icmpYes X0.here hx rfl (pc0 := 16) (pc' := 22) rfl (hb hby own_d6_16) rfl (feq hc16_10).2 (by decide) (by decide) ?_
          show Steps p.tables e below (s₁.setTop (mkF m 22 #[.val (.int p0)] [])) _
          refine XS.iloadN X0.here hx rfl (hb hby own_d6_22) rfl ?_
          show Steps p.tables e below (s₁.setTop (mkF m 23 #[.val (.int p0)] [(.int p0)])) _
          refine XS.iconst X0.here hx rfl (hb hby own_d6_23) ?_
          exact k
        refine own_End.go (fun t k => st13 _ k) ?_
        by_cases hc24_14 : p0 = (3 : Int32)
        · have st15 : ∀ t, Steps p.tables e below (s₁.setTop (mkF m 30 #[.val (.int p0)] [(.int (1000 : Int32))])) t → Steps p.tables e below (s₁.setTop (mkF m 24 #[.val (.int p0)] [(.int (3 : Int32)), (.int p0)])) t := by
            intro t k
            show Steps p.tables e below (s₁.setTop (mkF m 24 #[.val (.int p0)] [(.int (3 : Int32)), (.int p0)])) _
            refine XS.icmpNo X0.here hx rfl (hb hby own_d6_24) rfl (teq hc24_14).2 ?_
            show Steps p.tables e below (s₁.setTop (mkF m 27 #[.val (.int p0)] [])) _
            refine XS.sipush X0.here hx rfl (hb hby own_d6_27) ?_
            exact k
          refine own_End.go (fun t k => st15 _ k) ?_
          exact own_leafI X0 hx Bd.notSynchronized Bd.returns (hb hby own_d6_30) ⟨congrArg (fun z => some (Value.int z)) (own_e6_16 hc1_2 hc8_6 hc16_10 hc24_14), rfl, e0⟩ (by decide) (by decide)
        · have st17 : ∀ t, Steps p.tables e below (s₁.setTop (mkF m 33 #[.val (.int p0)] [(.int (4 : Int32)), (.int p0)])) t → Steps p.tables e below (s₁.setTop (mkF m 24 #[.val (.int p0)] [(.int (3 : Int32)), (.int p0)])) t := by
            intro t k
            show Steps p.tables e below (s₁.setTop (mkF m 24 #[.val (.int p0)] [(.int (3 : Int32)), (.int p0)])) _
            refine XS.icmpYes X0.here hx rfl (pc0 := 24) (pc' := 31) rfl (hb hby own_d6_24) rfl (feq hc24_14).2 (by decide) (by decide) ?_
            show Steps p.tables e below (s₁.setTop (mkF m 31 #[.val (.int p0)] [])) _
            refine XS.iloadN X0.here hx rfl (hb hby own_d6_31) rfl ?_
            show Steps p.tables e below (s₁.setTop (mkF m 32 #[.val (.int p0)] [(.int p0)])) _
            refine XS.iconst X0.here hx rfl (hb hby own_d6_32) ?_
            exact k
          refine own_End.go (fun t k => st17 _ k) ?_
          by_cases hc33_18 : p0 = (4 : Int32)
          · have st19 : ∀ t, Steps p.tables e below (s₁.setTop (mkF m 39 #[.val (.int p0)] [(.int (10000 : Int32))])) t → Steps p.tables e below (s₁.setTop (mkF m 33 #[.val (.int p0)] [(.int (4 : Int32)), (.int p0)])) t := by
              intro t k
              show Steps p.tables e below (s₁.setTop (mkF m 33 #[.val (.int p0)] [(.int (4 : Int32)), (.int p0)])) _
              refine XS.icmpNo X0.here hx rfl (hb hby own_d6_33) rfl (teq hc33_18).2 ?_
              show Steps p.tables e below (s₁.setTop (mkF m 36 #[.val (.int p0)] [])) _
              refine XS.sipush X0.here hx rfl (hb hby own_d6_36) ?_
              exact k
            refine own_End.go (fun t k => st19 _ k) ?_
            exact own_leafI X0 hx Bd.notSynchronized Bd.returns (hb hby own_d6_39) ⟨congrArg (fun z => some (Value.int z)) (own_e6_20 hc1_2 hc8_6 hc16_10 hc24_14 hc33_18), rfl, e0⟩ (by decide) (by decide)
          · have st21 : ∀ t, Steps p.tables e below (s₁.setTop (mkF m 42 #[.val (.int p0)] [(.int (100000 : Int32))])) t → Steps p.tables e below (s₁.setTop (mkF m 33 #[.val (.int p0)] [(.int (4 : Int32)), (.int p0)])) t := by
              intro t k
              show Steps p.tables e below (s₁.setTop (mkF m 33 #[.val (.int p0)] [(.int (4 : Int32)), (.int p0)])) _
              refine XS.icmpYes X0.here hx rfl (pc0 := 33) (pc' := 40) rfl (hb hby own_d6_33) rfl (feq hc33_18).2 (by decide) (by decide) ?_
              show Steps p.tables e below (s₁.setTop (mkF m 40 #[.val (.int p0)] [])) _
              refine X0.ldcInt hx hown (mvT hZ (hw _ (List.mem_of_getElem? (i := 23) rfl))) (g := (mkF m 40 #[.val (.int p0)] [])) rfl (hb hby own_d6_40) _ ?_
              exact k
            refine own_End.go (fun t k => st21 _ k) ?_
            exact own_leafI X0 hx Bd.notSynchronized Bd.returns (hb hby own_d6_42) ⟨congrArg (fun z => some (Value.int z)) (own_e6_22 hc1_2 hc8_6 hc16_10 hc24_14 hc33_18), rfl, e0⟩ (by decide) (by decide)
theorem own_d2_0 : decode method_5_code 0 = .ok (.iload_n 3, 1) := by decide +kernel
theorem own_d2_1 : decode method_5_code 1 = .ok (.iload_n 2, 1) := by decide +kernel
theorem own_d2_2 : decode method_5_code 2 = .ok (.if_icmp .ge 18, 3) := by decide +kernel
theorem own_d2_5 : decode method_5_code 5 = .ok (.aload_n 0, 1) := by decide +kernel
theorem own_d2_6 : decode method_5_code 6 = .ok (.iload_n 1, 1) := by decide +kernel
theorem own_d2_7 : decode method_5_code 7 = .ok (.iload_n 3, 1) := by decide +kernel
theorem own_d2_8 : decode method_5_code 8 = .ok (.iadd, 1) := by decide +kernel
theorem own_d2_9 : decode method_5_code 9 = .ok (.baload, 1) := by decide +kernel
theorem own_d2_10 : decode method_5_code 10 = .ok (.invokestatic 10, 3) := by decide +kernel
theorem own_d2_13 : decode method_5_code 13 = .ok (.ifCond .ge 7, 3) := by decide +kernel
theorem own_d2_16 : decode method_5_code 16 = .ok (.iconst 1, 1) := by decide +kernel
theorem own_d2_17 : decode method_5_code 17 = .ok (.goto 4, 3) := by decide +kernel
theorem own_d2_20 : decode method_5_code 20 = .ok (.iconst 0, 1) := by decide +kernel
theorem own_d2_21 : decode method_5_code 21 = .ok (.ireturn, 1) := by decide +kernel
theorem own_pn2 : plainName "com/example/kazalo/kazalo/records/RecordNumberPinLaw" = true := by first | (simp [plainName, overriddenIn]; done) | decide +kernel
theorem own_ef2 (m : MethodId) (o0 : Addr) (p1 : Int32) (p2 : Int32) (p3 : Int32) : entryFrame m #[(.ref o0), (.int p1), (.int p2), (.int p3)] 4 = mkF m 0 #[.val (.ref o0), .val (.int p1), .val (.int p2), .val (.int p3)] [] := by first | (simp [entryFrame, mkF, argsToLocals, Value.category]; done) | rfl
abbrev own_R2 : Room := { frames := 1, cells := 0, slots := 0, locals := 12 }
def own_F2 (p1 : Int32) (p2 : Int32) (p3 : Int32) (L : List Int32) : Int32 :=
  if p3 < p2 then
    let v5 : Int32 := (own_F5 (List.getD L ((p1 + p3)).toInt.toNat 0))
    if v5 < (0 : Int32) then
      (1 : Int32)
    else
      (0 : Int32)
  else
    (0 : Int32)
def own_Q2 (Z : State) (o0 : Addr) (p1 : Int32) (p2 : Int32) (p3 : Int32) (L : List Int32) (h0 : Heap) (n0 : Nat) (vz : Option Value) (h : Heap) (Lz : List Loc) : Prop := vz = some (.int (own_F2 p1 p2 p3 L)) ∧ Lz = [] ∧ h = h0
theorem own_e2_8 {p1 : Int32} {p2 : Int32} {p3 : Int32} {L : List Int32} {v5 : Int32} (hv5 : v5 = (own_F5 (List.getD L ((p1 + p3)).toInt.toNat 0))) (hc2_2 : p3 < p2) (hc13_6 : v5 < (0 : Int32)) : (nar .boolean (1 : Int32)) = (own_F2 p1 p2 p3 L) := by
  rw [own_nb1]
  subst hv5
  first
    | (simp only [own_F2, if_pos hc2_2, if_pos hc13_6]; done)
    | (exfalso; contradiction)
theorem own_e2_10 {p1 : Int32} {p2 : Int32} {p3 : Int32} {L : List Int32} {v5 : Int32} (hv5 : v5 = (own_F5 (List.getD L ((p1 + p3)).toInt.toNat 0))) (hc2_2 : p3 < p2) (hc13_6 : ¬ (v5 < (0 : Int32))) : (nar .boolean (0 : Int32)) = (own_F2 p1 p2 p3 L) := by
  rw [own_nb0]
  subst hv5
  first
    | (simp only [own_F2, if_pos hc2_2, if_neg hc13_6]; done)
    | (exfalso; contradiction)
theorem own_e2_12 {p1 : Int32} {p2 : Int32} {p3 : Int32} {L : List Int32} (hc2_2 : ¬ (p3 < p2)) : (nar .boolean (0 : Int32)) = (own_F2 p1 p2 p3 L) := by
  rw [own_nb0]
  skip
  first
    | (simp only [own_F2, if_neg hc2_2]; done)
    | (exfalso; contradiction)
set_option maxRecDepth 65536 in
set_option maxHeartbeats 40000000 in
theorem own_rm2 (l : Launch) (Z : State) (a0 : Array Value) (hw : ∀ d ∈ tables_1, d.before a0 Z = true) (ws : List Jvm.Cond) (o0 : Addr) (p1 : Int32) (p2 : Int32) (p3 : Int32) (L : List Int32) (h0 : Heap) (n0 : Nat) (Z0 : n0 ≤ h0.size) (V_o0 : own_IA Z h0 o0 .byte L) (hbd : p3 < p2 → 0 ≤ (p1 + p3).toInt ∧ (p1 + p3).toInt < (L.length : Int)) :
    MetFree l (⟨"com/example/kazalo/kazalo/records/RecordNumberPinLaw", "bad", "([BIII)Z"⟩ : MethodName) (head1 (Jvm.Cond.code (⟨"com/example/kazalo/kazalo/records/RecordNumberPinLaw", "bad", "([BIII)Z"⟩ : MethodName) method_5_code 4 (some .boolean) :: ws) own_R2) (fun a U => a = #[(.ref o0), (.int p1), (.int p2), (.int p3)] ∧ Z.Warmed39 U.vm ∧ U.heap = h0) (fun _ _ _ _ _ => True) (fun _ U o U' => ∃ vz Lz, o = .returned vz ∧ own_Q2 Z o0 p1 p2 p3 L h0 n0 vz U'.heap Lz ∧ FrameEnd U o U' Lz own_R2.cells own_R2.slots) := by
  refine MetFree.of_bodySF (plainFor_of_name own_pn2) hisR ?_
  intro p e s m args below meth c s₁ Bd hml0 hP hK
  obtain ⟨rfl, hZ, hh⟩ := hP
  have hx := Bd.exec
  have hby := Bd.bytes
  have hml : c.maxLocals = 4 := hml0
  have hown : s.vm.findClass "com/example/kazalo/kazalo/records/RecordNumberPinLaw" = some m.cls := findClass_of_methodNamed Bd.named
  have hnm := (name_of_methodNamed Bd.named Bd.method).1
  have X0 : Stand p l e own_R2 s m #[(.ref o0), (.int p1), (.int p2), (.int p3)] below meth c s₁ [] 0 0 := Stand.of_body Bd
  have e0 : s₁.heap = h0 := by rw [← hh, Bd.state]; rfl
  show own_End p e below s (fun vz h Lz => vz = some (.int (own_F2 p1 p2 p3 L)) ∧ Lz = [] ∧ h = h0) own_R2.cells own_R2.slots s₁ (entryFrame m #[(.ref o0), (.int p1), (.int p2), (.int p3)] 4)
  refine own_End.go (fun t k => castTop (own_ef2 m o0 p1 p2 p3) k) ?_
  show own_End p e below s _ _ _ s₁ (mkF m 0 #[.val (.ref o0), .val (.int p1), .val (.int p2), .val (.int p3)] [])
  have N0 := Fr.nil n0
  have K0 : Keep h0 h0 [] := Keep.refl h0 _
  have st1 : ∀ t, Steps p.tables e below (s₁.setTop (mkF m 2 #[.val (.ref o0), .val (.int p1), .val (.int p2), .val (.int p3)] [(.int p2), (.int p3)])) t → Steps p.tables e below (s₁.setTop (mkF m 0 #[.val (.ref o0), .val (.int p1), .val (.int p2), .val (.int p3)] [])) t := by
    intro t k
    show Steps p.tables e below (s₁.setTop (mkF m 0 #[.val (.ref o0), .val (.int p1), .val (.int p2), .val (.int p3)] [])) _
    refine XS.iloadN X0.here hx rfl (hb hby own_d2_0) rfl ?_
    show Steps p.tables e below (s₁.setTop (mkF m 1 #[.val (.ref o0), .val (.int p1), .val (.int p2), .val (.int p3)] [(.int p3)])) _
    refine XS.iloadN X0.here hx rfl (hb hby own_d2_1) rfl ?_
    exact k
  refine own_End.go (fun t k => st1 _ k) ?_
  by_cases hc2_2 : p3 < p2
  · have st3 : ∀ t, Steps p.tables e below (s₁.setTop (mkF m 10 #[.val (.ref o0), .val (.int p1), .val (.int p2), .val (.int p3)] [(.int (List.getD L ((p1 + p3)).toInt.toNat 0))])) t → Steps p.tables e below (s₁.setTop (mkF m 2 #[.val (.ref o0), .val (.int p1), .val (.int p2), .val (.int p3)] [(.int p2), (.int p3)])) t := by
      intro t k
      show Steps p.tables e below (s₁.setTop (mkF m 2 #[.val (.ref o0), .val (.int p1), .val (.int p2), .val (.int p3)] [(.int p2), (.int p3)])) _
      refine XS.icmpNo X0.here hx rfl (hb hby own_d2_2) rfl (tlt hc2_2).2.1 ?_
      show Steps p.tables e below (s₁.setTop (mkF m 5 #[.val (.ref o0), .val (.int p1), .val (.int p2), .val (.int p3)] [])) _
      refine XS.aloadN X0.here hx rfl (hb hby own_d2_5) rfl rfl ?_
      show Steps p.tables e below (s₁.setTop (mkF m 6 #[.val (.ref o0), .val (.int p1), .val (.int p2), .val (.int p3)] [(.ref o0)])) _
      refine XS.iloadN X0.here hx rfl (hb hby own_d2_6) rfl ?_
      show Steps p.tables e below (s₁.setTop (mkF m 7 #[.val (.ref o0), .val (.int p1), .val (.int p2), .val (.int p3)] [(.int p1), (.ref o0)])) _
      refine XS.iloadN X0.here hx rfl (hb hby own_d2_7) rfl ?_
      show Steps p.tables e below (s₁.setTop (mkF m 8 #[.val (.ref o0), .val (.int p1), .val (.int p2), .val (.int p3)] [(.int p3), (.int p1), (.ref o0)])) _
      refine XS.iadd X0.here hx rfl (hb hby own_d2_8) rfl ?_
      show Steps p.tables e below (s₁.setTop (mkF m 9 #[.val (.ref o0), .val (.int p1), .val (.int p2), .val (.int p3)] [(.int (p1 + p3)), (.ref o0)])) _
      refine own_baloadB X0 hx hZ e0 V_o0 (j := (p1 + p3)) (hbd hc2_2) (g := (mkF m 9 #[.val (.ref o0), .val (.int p1), .val (.int p2), .val (.int p3)] [(.int (p1 + p3)), (.ref o0)])) rfl rfl (hb hby own_d2_9) _ ?_
      exact k
    obtain ⟨_, _, ⟨T4, L4, k4, n4⟩, -, X4, ⟨Lc4, hQ4, l4, y4, z4⟩, st4⟩ := Jvm.LawKit.callS X0 hx (y := (⟨"com/example/kazalo/kazalo/records/RecordNumberPinLaw", "digitOf", "(B)I"⟩ : MethodName)) hown (mvT hZ (hw _ (List.mem_of_getElem? (i := 17) rfl))) (mvT hZ (hw _ (List.mem_of_getElem? (i := 18) rfl))) (mvT hZ (hw _ (List.mem_of_getElem? (i := 3) rfl))) (mvT hZ (hw _ (List.mem_of_getElem? (i := 19) rfl))) (by decide) (backOf (W := 0) (own_rm5 l Z a0 hw [] (List.getD L ((p1 + p3)).toInt.toNat 0) h0) hZ (hw _ (List.mem_of_getElem? (i := 19) rfl)) (hw _ (List.mem_of_getElem? (i := 3) rfl)) (by decide) (by decide)) (g := (mkF m 10 #[.val (.ref o0), .val (.int p1), .val (.int p2), .val (.int p3)] [(.int (List.getD L ((p1 + p3)).toInt.toNat 0))])) rfl (by rw [hml]; rfl) (argsL := [(.int (List.getD L ((p1 + p3)).toInt.toNat 0))]) (rest := []) (lenOf own_pd0 rfl) rfl (by show 2 * 0 + _ ≤ _; exact Nat.le_of_eq rfl) (hb hby own_d2_10) (fun _ _ => ⟨rfl, e0, (by decide : 0 + 0 ≤ _), (by decide : 0 + 0 ≤ _)⟩)
    dsimp only [Pt.U, Pt.locs, Pt.cells, Pt.slots] at X4 l4 y4 z4 st4 hQ4
    subst y4 z4
    obtain ⟨rfl, rfl, e4⟩ := hQ4
    have X4' : Stand p l e own_R2 s m #[(.ref o0), (.int p1), (.int p2), (.int p3)] below meth c T4 [] 0 0 := by rw [show L4 = [] from by rw [l4]; first | rfl | exact List.append_nil _] at X4; exact X4
    obtain ⟨v5, hv5⟩ : ∃ z : Int32, z = (own_F5 (List.getD L ((p1 + p3)).toInt.toNat 0)) := ⟨_, rfl⟩
    rw [← hv5] at st4
    refine own_End.go (fun t k => st3 _ (st4 _ k)) ?_
    by_cases hc13_6 : v5 < (0 : Int32)
    · have st7 : ∀ t, Steps p.tables e below (T4.setTop (mkF m 21 #[.val (.ref o0), .val (.int p1), .val (.int p2), .val (.int p3)] [(.int (1 : Int32))])) t → Steps p.tables e below (T4.setTop (mkF m 13 #[.val (.ref o0), .val (.int p1), .val (.int p2), .val (.int p3)] [(.int v5)])) t := by
        intro t k
        show Steps p.tables e below (T4.setTop (mkF m 13 #[.val (.ref o0), .val (.int p1), .val (.int p2), .val (.int p3)] [(.int v5)])) _
        refine XS.ifNo X4'.here hx rfl (hb hby own_d2_13) rfl ((if0 _ _).trans (tlt hc13_6).2.1) ?_
        show Steps p.tables e below (T4.setTop (mkF m 16 #[.val (.ref o0), .val (.int p1), .val (.int p2), .val (.int p3)] [])) _
        refine XS.iconst X4'.here hx rfl (hb hby own_d2_16) ?_
        show Steps p.tables e below (T4.setTop (mkF m 17 #[.val (.ref o0), .val (.int p1), .val (.int p2), .val (.int p3)] [(.int (1 : Int32))])) _
        refine XS.goto X4'.here hx rfl (pc0 := 17) (pc' := 21) rfl (hb hby own_d2_17) (by decide) (by decide) ?_
        exact k
      refine own_End.go (fun t k => st7 _ k) ?_
      exact own_leafN X4' hx Bd.notSynchronized (t := .boolean) Bd.returns (by simp) (hb hby own_d2_21) ⟨congrArg (fun z => some (Value.int z)) (own_e2_8 hv5 hc2_2 hc13_6), rfl, e4⟩ (by decide) (by decide)
    · have st9 : ∀ t, Steps p.tables e below (T4.setTop (mkF m 21 #[.val (.ref o0), .val (.int p1), .val (.int p2), .val (.int p3)] [(.int (0 : Int32))])) t → Steps p.tables e below (T4.setTop (mkF m 13 #[.val (.ref o0), .val (.int p1), .val (.int p2), .val (.int p3)] [(.int v5)])) t := by
        intro t k
        show Steps p.tables e below (T4.setTop (mkF m 13 #[.val (.ref o0), .val (.int p1), .val (.int p2), .val (.int p3)] [(.int v5)])) _
        refine XS.ifYes X4'.here hx rfl (pc0 := 13) (pc' := 20) rfl (hb hby own_d2_13) rfl ((if0 _ _).trans (flt hc13_6).2.1) (by decide) (by decide) ?_
        show Steps p.tables e below (T4.setTop (mkF m 20 #[.val (.ref o0), .val (.int p1), .val (.int p2), .val (.int p3)] [])) _
        refine XS.iconst X4'.here hx rfl (hb hby own_d2_20) ?_
        exact k
      refine own_End.go (fun t k => st9 _ k) ?_
      exact own_leafN X4' hx Bd.notSynchronized (t := .boolean) Bd.returns (by simp) (hb hby own_d2_21) ⟨congrArg (fun z => some (Value.int z)) (own_e2_10 hv5 hc2_2 hc13_6), rfl, e4⟩ (by decide) (by decide)
  · have st11 : ∀ t, Steps p.tables e below (s₁.setTop (mkF m 21 #[.val (.ref o0), .val (.int p1), .val (.int p2), .val (.int p3)] [(.int (0 : Int32))])) t → Steps p.tables e below (s₁.setTop (mkF m 2 #[.val (.ref o0), .val (.int p1), .val (.int p2), .val (.int p3)] [(.int p2), (.int p3)])) t := by
      intro t k
      show Steps p.tables e below (s₁.setTop (mkF m 2 #[.val (.ref o0), .val (.int p1), .val (.int p2), .val (.int p3)] [(.int p2), (.int p3)])) _
      refine XS.icmpYes X0.here hx rfl (pc0 := 2) (pc' := 20) rfl (hb hby own_d2_2) rfl (flt hc2_2).2.1 (by decide) (by decide) ?_
      show Steps p.tables e below (s₁.setTop (mkF m 20 #[.val (.ref o0), .val (.int p1), .val (.int p2), .val (.int p3)] [])) _
      refine XS.iconst X0.here hx rfl (hb hby own_d2_20) ?_
      exact k
    refine own_End.go (fun t k => st11 _ k) ?_
    exact own_leafN X0 hx Bd.notSynchronized (t := .boolean) Bd.returns (by simp) (hb hby own_d2_21) ⟨congrArg (fun z => some (Value.int z)) (own_e2_12 hc2_2), rfl, e0⟩ (by decide) (by decide)
theorem own_d3_0 : decode method_6_code 0 = .ok (.iload_n 3, 1) := by decide +kernel
theorem own_d3_1 : decode method_6_code 1 = .ok (.iload_n 2, 1) := by decide +kernel
theorem own_d3_2 : decode method_6_code 2 = .ok (.if_icmp .lt 5, 3) := by decide +kernel
theorem own_d3_5 : decode method_6_code 5 = .ok (.iconst 0, 1) := by decide +kernel
theorem own_d3_6 : decode method_6_code 6 = .ok (.ireturn, 1) := by decide +kernel
theorem own_d3_7 : decode method_6_code 7 = .ok (.aload_n 0, 1) := by decide +kernel
theorem own_d3_8 : decode method_6_code 8 = .ok (.iload_n 1, 1) := by decide +kernel
theorem own_d3_9 : decode method_6_code 9 = .ok (.iload_n 3, 1) := by decide +kernel
theorem own_d3_10 : decode method_6_code 10 = .ok (.iadd, 1) := by decide +kernel
theorem own_d3_11 : decode method_6_code 11 = .ok (.baload, 1) := by decide +kernel
theorem own_d3_12 : decode method_6_code 12 = .ok (.invokestatic 10, 3) := by decide +kernel
theorem own_d3_15 : decode method_6_code 15 = .ok (.iload_n 2, 1) := by decide +kernel
theorem own_d3_16 : decode method_6_code 16 = .ok (.iconst 1, 1) := by decide +kernel
theorem own_d3_17 : decode method_6_code 17 = .ok (.isub, 1) := by decide +kernel
theorem own_d3_18 : decode method_6_code 18 = .ok (.iload_n 3, 1) := by decide +kernel
theorem own_d3_19 : decode method_6_code 19 = .ok (.isub, 1) := by decide +kernel
theorem own_d3_20 : decode method_6_code 20 = .ok (.invokestatic 16, 3) := by decide +kernel
theorem own_d3_23 : decode method_6_code 23 = .ok (.imul, 1) := by decide +kernel
theorem own_d3_24 : decode method_6_code 24 = .ok (.ireturn, 1) := by decide +kernel
theorem own_pn3 : plainName "com/example/kazalo/kazalo/records/RecordNumberPinLaw" = true := by first | (simp [plainName, overriddenIn]; done) | decide +kernel
theorem own_ef3 (m : MethodId) (o0 : Addr) (p1 : Int32) (p2 : Int32) (p3 : Int32) : entryFrame m #[(.ref o0), (.int p1), (.int p2), (.int p3)] 4 = mkF m 0 #[.val (.ref o0), .val (.int p1), .val (.int p2), .val (.int p3)] [] := by first | (simp [entryFrame, mkF, argsToLocals, Value.category]; done) | rfl
abbrev own_R3 : Room := { frames := 1, cells := 0, slots := 0, locals := 13 }
def own_F3 (p1 : Int32) (p2 : Int32) (p3 : Int32) (L : List Int32) : Int32 :=
  if p3 < p2 then
    let v5 : Int32 := (own_F5 (List.getD L ((p1 + p3)).toInt.toNat 0))
    let v8 : Int32 := (own_F6 ((p2 - (1 : Int32)) - p3))
    (v5 * v8)
  else
    (0 : Int32)
def own_Q3 (Z : State) (o0 : Addr) (p1 : Int32) (p2 : Int32) (p3 : Int32) (L : List Int32) (h0 : Heap) (n0 : Nat) (vz : Option Value) (h : Heap) (Lz : List Loc) : Prop := vz = some (.int (own_F3 p1 p2 p3 L)) ∧ Lz = [] ∧ h = h0
theorem own_e3_10 {p1 : Int32} {p2 : Int32} {p3 : Int32} {L : List Int32} {v5 : Int32} {v8 : Int32} (hv5 : v5 = (own_F5 (List.getD L ((p1 + p3)).toInt.toNat 0))) (hv8 : v8 = (own_F6 ((p2 - (1 : Int32)) - p3))) (hc2_2 : p3 < p2) : (v5 * v8) = (own_F3 p1 p2 p3 L) := by
  subst hv5 hv8
  first
    | (simp only [own_F3, if_pos hc2_2]; done)
    | (exfalso; contradiction)
theorem own_e3_12 {p1 : Int32} {p2 : Int32} {p3 : Int32} {L : List Int32} (hc2_2 : ¬ (p3 < p2)) : (0 : Int32) = (own_F3 p1 p2 p3 L) := by
  skip
  first
    | (simp only [own_F3, if_neg hc2_2]; done)
    | (exfalso; contradiction)
set_option maxRecDepth 65536 in
set_option maxHeartbeats 40000000 in
theorem own_rm3 (l : Launch) (Z : State) (a0 : Array Value) (hw : ∀ d ∈ tables_1, d.before a0 Z = true) (ws : List Jvm.Cond) (o0 : Addr) (p1 : Int32) (p2 : Int32) (p3 : Int32) (L : List Int32) (h0 : Heap) (n0 : Nat) (Z0 : n0 ≤ h0.size) (V_o0 : own_IA Z h0 o0 .byte L) (hbd : p3 < p2 → 0 ≤ (p1 + p3).toInt ∧ (p1 + p3).toInt < (L.length : Int)) :
    MetFree l (⟨"com/example/kazalo/kazalo/records/RecordNumberPinLaw", "term", "([BIII)I"⟩ : MethodName) (head1 (Jvm.Cond.code (⟨"com/example/kazalo/kazalo/records/RecordNumberPinLaw", "term", "([BIII)I"⟩ : MethodName) method_6_code 4 (some .int) :: ws) own_R3) (fun a U => a = #[(.ref o0), (.int p1), (.int p2), (.int p3)] ∧ Z.Warmed39 U.vm ∧ U.heap = h0) (fun _ _ _ _ _ => True) (fun _ U o U' => ∃ vz Lz, o = .returned vz ∧ own_Q3 Z o0 p1 p2 p3 L h0 n0 vz U'.heap Lz ∧ FrameEnd U o U' Lz own_R3.cells own_R3.slots) := by
  refine MetFree.of_bodySF (plainFor_of_name own_pn3) hisR ?_
  intro p e s m args below meth c s₁ Bd hml0 hP hK
  obtain ⟨rfl, hZ, hh⟩ := hP
  have hx := Bd.exec
  have hby := Bd.bytes
  have hml : c.maxLocals = 4 := hml0
  have hown : s.vm.findClass "com/example/kazalo/kazalo/records/RecordNumberPinLaw" = some m.cls := findClass_of_methodNamed Bd.named
  have hnm := (name_of_methodNamed Bd.named Bd.method).1
  have X0 : Stand p l e own_R3 s m #[(.ref o0), (.int p1), (.int p2), (.int p3)] below meth c s₁ [] 0 0 := Stand.of_body Bd
  have e0 : s₁.heap = h0 := by rw [← hh, Bd.state]; rfl
  show own_End p e below s (fun vz h Lz => vz = some (.int (own_F3 p1 p2 p3 L)) ∧ Lz = [] ∧ h = h0) own_R3.cells own_R3.slots s₁ (entryFrame m #[(.ref o0), (.int p1), (.int p2), (.int p3)] 4)
  refine own_End.go (fun t k => castTop (own_ef3 m o0 p1 p2 p3) k) ?_
  show own_End p e below s _ _ _ s₁ (mkF m 0 #[.val (.ref o0), .val (.int p1), .val (.int p2), .val (.int p3)] [])
  have N0 := Fr.nil n0
  have K0 : Keep h0 h0 [] := Keep.refl h0 _
  have st1 : ∀ t, Steps p.tables e below (s₁.setTop (mkF m 2 #[.val (.ref o0), .val (.int p1), .val (.int p2), .val (.int p3)] [(.int p2), (.int p3)])) t → Steps p.tables e below (s₁.setTop (mkF m 0 #[.val (.ref o0), .val (.int p1), .val (.int p2), .val (.int p3)] [])) t := by
    intro t k
    show Steps p.tables e below (s₁.setTop (mkF m 0 #[.val (.ref o0), .val (.int p1), .val (.int p2), .val (.int p3)] [])) _
    refine XS.iloadN X0.here hx rfl (hb hby own_d3_0) rfl ?_
    show Steps p.tables e below (s₁.setTop (mkF m 1 #[.val (.ref o0), .val (.int p1), .val (.int p2), .val (.int p3)] [(.int p3)])) _
    refine XS.iloadN X0.here hx rfl (hb hby own_d3_1) rfl ?_
    exact k
  refine own_End.go (fun t k => st1 _ k) ?_
  by_cases hc2_2 : p3 < p2
  · have st3 : ∀ t, Steps p.tables e below (s₁.setTop (mkF m 12 #[.val (.ref o0), .val (.int p1), .val (.int p2), .val (.int p3)] [(.int (List.getD L ((p1 + p3)).toInt.toNat 0))])) t → Steps p.tables e below (s₁.setTop (mkF m 2 #[.val (.ref o0), .val (.int p1), .val (.int p2), .val (.int p3)] [(.int p2), (.int p3)])) t := by
      intro t k
      show Steps p.tables e below (s₁.setTop (mkF m 2 #[.val (.ref o0), .val (.int p1), .val (.int p2), .val (.int p3)] [(.int p2), (.int p3)])) _
      refine XS.icmpYes X0.here hx rfl (pc0 := 2) (pc' := 7) rfl (hb hby own_d3_2) rfl (tlt hc2_2).1 (by decide) (by decide) ?_
      show Steps p.tables e below (s₁.setTop (mkF m 7 #[.val (.ref o0), .val (.int p1), .val (.int p2), .val (.int p3)] [])) _
      refine XS.aloadN X0.here hx rfl (hb hby own_d3_7) rfl rfl ?_
      show Steps p.tables e below (s₁.setTop (mkF m 8 #[.val (.ref o0), .val (.int p1), .val (.int p2), .val (.int p3)] [(.ref o0)])) _
      refine XS.iloadN X0.here hx rfl (hb hby own_d3_8) rfl ?_
      show Steps p.tables e below (s₁.setTop (mkF m 9 #[.val (.ref o0), .val (.int p1), .val (.int p2), .val (.int p3)] [(.int p1), (.ref o0)])) _
      refine XS.iloadN X0.here hx rfl (hb hby own_d3_9) rfl ?_
      show Steps p.tables e below (s₁.setTop (mkF m 10 #[.val (.ref o0), .val (.int p1), .val (.int p2), .val (.int p3)] [(.int p3), (.int p1), (.ref o0)])) _
      refine XS.iadd X0.here hx rfl (hb hby own_d3_10) rfl ?_
      show Steps p.tables e below (s₁.setTop (mkF m 11 #[.val (.ref o0), .val (.int p1), .val (.int p2), .val (.int p3)] [(.int (p1 + p3)), (.ref o0)])) _
      refine own_baloadB X0 hx hZ e0 V_o0 (j := (p1 + p3)) (hbd hc2_2) (g := (mkF m 11 #[.val (.ref o0), .val (.int p1), .val (.int p2), .val (.int p3)] [(.int (p1 + p3)), (.ref o0)])) rfl rfl (hb hby own_d3_11) _ ?_
      exact k
    obtain ⟨_, _, ⟨T4, L4, k4, n4⟩, -, X4, ⟨Lc4, hQ4, l4, y4, z4⟩, st4⟩ := Jvm.LawKit.callS X0 hx (y := (⟨"com/example/kazalo/kazalo/records/RecordNumberPinLaw", "digitOf", "(B)I"⟩ : MethodName)) hown (mvT hZ (hw _ (List.mem_of_getElem? (i := 17) rfl))) (mvT hZ (hw _ (List.mem_of_getElem? (i := 18) rfl))) (mvT hZ (hw _ (List.mem_of_getElem? (i := 3) rfl))) (mvT hZ (hw _ (List.mem_of_getElem? (i := 19) rfl))) (by decide) (backOf (W := 0) (own_rm5 l Z a0 hw [] (List.getD L ((p1 + p3)).toInt.toNat 0) h0) hZ (hw _ (List.mem_of_getElem? (i := 19) rfl)) (hw _ (List.mem_of_getElem? (i := 3) rfl)) (by decide) (by decide)) (g := (mkF m 12 #[.val (.ref o0), .val (.int p1), .val (.int p2), .val (.int p3)] [(.int (List.getD L ((p1 + p3)).toInt.toNat 0))])) rfl (by rw [hml]; rfl) (argsL := [(.int (List.getD L ((p1 + p3)).toInt.toNat 0))]) (rest := []) (lenOf own_pd0 rfl) rfl (by show 2 * 0 + _ ≤ _; exact Nat.le_of_eq rfl) (hb hby own_d3_12) (fun _ _ => ⟨rfl, e0, (by decide : 0 + 0 ≤ _), (by decide : 0 + 0 ≤ _)⟩)
    dsimp only [Pt.U, Pt.locs, Pt.cells, Pt.slots] at X4 l4 y4 z4 st4 hQ4
    subst y4 z4
    obtain ⟨rfl, rfl, e4⟩ := hQ4
    have X4' : Stand p l e own_R3 s m #[(.ref o0), (.int p1), (.int p2), (.int p3)] below meth c T4 [] 0 0 := by rw [show L4 = [] from by rw [l4]; first | rfl | exact List.append_nil _] at X4; exact X4
    obtain ⟨v5, hv5⟩ : ∃ z : Int32, z = (own_F5 (List.getD L ((p1 + p3)).toInt.toNat 0)) := ⟨_, rfl⟩
    rw [← hv5] at st4
    have st6 : ∀ t, Steps p.tables e below (T4.setTop (mkF m 20 #[.val (.ref o0), .val (.int p1), .val (.int p2), .val (.int p3)] [(.int ((p2 - (1 : Int32)) - p3)), (.int v5)])) t → Steps p.tables e below (T4.setTop (mkF m 15 #[.val (.ref o0), .val (.int p1), .val (.int p2), .val (.int p3)] [(.int v5)])) t := by
      intro t k
      show Steps p.tables e below (T4.setTop (mkF m 15 #[.val (.ref o0), .val (.int p1), .val (.int p2), .val (.int p3)] [(.int v5)])) _
      refine XS.iloadN X4'.here hx rfl (hb hby own_d3_15) rfl ?_
      show Steps p.tables e below (T4.setTop (mkF m 16 #[.val (.ref o0), .val (.int p1), .val (.int p2), .val (.int p3)] [(.int p2), (.int v5)])) _
      refine XS.iconst X4'.here hx rfl (hb hby own_d3_16) ?_
      show Steps p.tables e below (T4.setTop (mkF m 17 #[.val (.ref o0), .val (.int p1), .val (.int p2), .val (.int p3)] [(.int (1 : Int32)), (.int p2), (.int v5)])) _
      refine XS.isub X4'.here hx rfl (hb hby own_d3_17) rfl ?_
      show Steps p.tables e below (T4.setTop (mkF m 18 #[.val (.ref o0), .val (.int p1), .val (.int p2), .val (.int p3)] [(.int (p2 - (1 : Int32))), (.int v5)])) _
      refine XS.iloadN X4'.here hx rfl (hb hby own_d3_18) rfl ?_
      show Steps p.tables e below (T4.setTop (mkF m 19 #[.val (.ref o0), .val (.int p1), .val (.int p2), .val (.int p3)] [(.int p3), (.int (p2 - (1 : Int32))), (.int v5)])) _
      refine XS.isub X4'.here hx rfl (hb hby own_d3_19) rfl ?_
      exact k
    obtain ⟨_, _, ⟨T7, L7, k7, n7⟩, -, X7, ⟨Lc7, hQ7, l7, y7, z7⟩, st7⟩ := Jvm.LawKit.callS X4' hx (y := (⟨"com/example/kazalo/kazalo/records/RecordNumberPinLaw", "pow10", "(I)I"⟩ : MethodName)) hown (mvT hZ (hw _ (List.mem_of_getElem? (i := 20) rfl))) (mvT hZ (hw _ (List.mem_of_getElem? (i := 21) rfl))) (mvT hZ (hw _ (List.mem_of_getElem? (i := 3) rfl))) (mvT hZ (hw _ (List.mem_of_getElem? (i := 22) rfl))) (by decide) (backOf (W := 1) (own_rm6 l Z a0 hw [] ((p2 - (1 : Int32)) - p3) h0) hZ (hw _ (List.mem_of_getElem? (i := 22) rfl)) (hw _ (List.mem_of_getElem? (i := 3) rfl)) (by decide) (by decide)) (g := (mkF m 20 #[.val (.ref o0), .val (.int p1), .val (.int p2), .val (.int p3)] [(.int ((p2 - (1 : Int32)) - p3)), (.int v5)])) rfl (by rw [hml]; rfl) (argsL := [(.int ((p2 - (1 : Int32)) - p3))]) (rest := [(.int v5)]) (lenOf own_pd1 rfl) rfl (by show 2 * 0 + _ ≤ _; exact Nat.le_of_eq rfl) (hb hby own_d3_20) (fun _ _ => ⟨rfl, e4, (by decide : 0 + 0 ≤ _), (by decide : 0 + 0 ≤ _)⟩)
    dsimp only [Pt.U, Pt.locs, Pt.cells, Pt.slots] at X7 l7 y7 z7 st7 hQ7
    subst y7 z7
    obtain ⟨rfl, rfl, e7⟩ := hQ7
    have X7' : Stand p l e own_R3 s m #[(.ref o0), (.int p1), (.int p2), (.int p3)] below meth c T7 [] 0 0 := by rw [show L7 = [] from by rw [l7]; first | rfl | exact List.append_nil _] at X7; exact X7
    obtain ⟨v8, hv8⟩ : ∃ z : Int32, z = (own_F6 ((p2 - (1 : Int32)) - p3)) := ⟨_, rfl⟩
    rw [← hv8] at st7
    have st9 : ∀ t, Steps p.tables e below (T7.setTop (mkF m 24 #[.val (.ref o0), .val (.int p1), .val (.int p2), .val (.int p3)] [(.int (v5 * v8))])) t → Steps p.tables e below (T7.setTop (mkF m 23 #[.val (.ref o0), .val (.int p1), .val (.int p2), .val (.int p3)] [(.int v8), (.int v5)])) t := by
      intro t k
      show Steps p.tables e below (T7.setTop (mkF m 23 #[.val (.ref o0), .val (.int p1), .val (.int p2), .val (.int p3)] [(.int v8), (.int v5)])) _
      refine XS.imul X7'.here hx rfl (hb hby own_d3_23) rfl ?_
      exact k
    refine own_End.go (fun t k => st3 _ (st4 _ (st6 _ (st7 _ (st9 _ k))))) ?_
    exact own_leafI X7' hx Bd.notSynchronized Bd.returns (hb hby own_d3_24) ⟨congrArg (fun z => some (Value.int z)) (own_e3_10 hv5 hv8 hc2_2), rfl, e7⟩ (by decide) (by decide)
  · have st11 : ∀ t, Steps p.tables e below (s₁.setTop (mkF m 6 #[.val (.ref o0), .val (.int p1), .val (.int p2), .val (.int p3)] [(.int (0 : Int32))])) t → Steps p.tables e below (s₁.setTop (mkF m 2 #[.val (.ref o0), .val (.int p1), .val (.int p2), .val (.int p3)] [(.int p2), (.int p3)])) t := by
      intro t k
      show Steps p.tables e below (s₁.setTop (mkF m 2 #[.val (.ref o0), .val (.int p1), .val (.int p2), .val (.int p3)] [(.int p2), (.int p3)])) _
      refine XS.icmpNo X0.here hx rfl (hb hby own_d3_2) rfl (flt hc2_2).1 ?_
      show Steps p.tables e below (s₁.setTop (mkF m 5 #[.val (.ref o0), .val (.int p1), .val (.int p2), .val (.int p3)] [])) _
      refine XS.iconst X0.here hx rfl (hb hby own_d3_5) ?_
      exact k
    refine own_End.go (fun t k => st11 _ k) ?_
    exact own_leafI X0 hx Bd.notSynchronized Bd.returns (hb hby own_d3_6) ⟨congrArg (fun z => some (Value.int z)) (own_e3_12 hc2_2), rfl, e0⟩ (by decide) (by decide)
theorem own_os4_20 {z0 : Value} {z1 : Value} {z2 : Value} {z3 : Value} {z4 : Value} {s5 : Slot} {v : Int32} (h : One s5) : storeLocals #[.val z0, .val z1, .val z2, .val z3, .val z4, s5] 5 (.int v) = some #[.val z0, .val z1, .val z2, .val z3, .val z4, .val (.int v)] := by
  rcases h with rfl | ⟨w, rfl, hw⟩
  · rfl
  · cases w <;> first | rfl | (simp [Value.category] at hw)
theorem own_d4_0 : decode prog_68_method_6_code 0 = .ok (.iconst 0, 1) := by decide +kernel
theorem own_d4_1 : decode prog_68_method_6_code 1 = .ok (.istore_n 3, 1) := by decide +kernel
theorem own_d4_2 : decode prog_68_method_6_code 2 = .ok (.iload_n 1, 1) := by decide +kernel
theorem own_d4_3 : decode prog_68_method_6_code 3 = .ok (.istore 4, 2) := by decide +kernel
theorem own_d4_5 : decode prog_68_method_6_code 5 = .ok (.iload 4, 2) := by decide +kernel
theorem own_d4_7 : decode prog_68_method_6_code 7 = .ok (.iload_n 1, 1) := by decide +kernel
theorem own_d4_8 : decode prog_68_method_6_code 8 = .ok (.iload_n 2, 1) := by decide +kernel
theorem own_d4_9 : decode prog_68_method_6_code 9 = .ok (.iadd, 1) := by decide +kernel
theorem own_d4_10 : decode prog_68_method_6_code 10 = .ok (.if_icmp .ge 40, 3) := by decide +kernel
theorem own_d4_13 : decode prog_68_method_6_code 13 = .ok (.aload_n 0, 1) := by decide +kernel
theorem own_d4_14 : decode prog_68_method_6_code 14 = .ok (.iload 4, 2) := by decide +kernel
theorem own_d4_16 : decode prog_68_method_6_code 16 = .ok (.baload, 1) := by decide +kernel
theorem own_d4_17 : decode prog_68_method_6_code 17 = .ok (.bipush 48, 2) := by decide +kernel
theorem own_d4_19 : decode prog_68_method_6_code 19 = .ok (.isub, 1) := by decide +kernel
theorem own_d4_20 : decode prog_68_method_6_code 20 = .ok (.istore 5, 2) := by decide +kernel
theorem own_d4_22 : decode prog_68_method_6_code 22 = .ok (.iload 5, 2) := by decide +kernel
theorem own_d4_24 : decode prog_68_method_6_code 24 = .ok (.ifCond .lt 10, 3) := by decide +kernel
theorem own_d4_27 : decode prog_68_method_6_code 27 = .ok (.iload 5, 2) := by decide +kernel
theorem own_d4_29 : decode prog_68_method_6_code 29 = .ok (.bipush 9, 2) := by decide +kernel
theorem own_d4_31 : decode prog_68_method_6_code 31 = .ok (.if_icmp .le 5, 3) := by decide +kernel
theorem own_d4_34 : decode prog_68_method_6_code 34 = .ok (.iconst (-1), 1) := by decide +kernel
theorem own_d4_35 : decode prog_68_method_6_code 35 = .ok (.ireturn, 1) := by decide +kernel
theorem own_d4_36 : decode prog_68_method_6_code 36 = .ok (.iload_n 3, 1) := by decide +kernel
theorem own_d4_37 : decode prog_68_method_6_code 37 = .ok (.bipush 10, 2) := by decide +kernel
theorem own_d4_39 : decode prog_68_method_6_code 39 = .ok (.imul, 1) := by decide +kernel
theorem own_d4_40 : decode prog_68_method_6_code 40 = .ok (.iload 5, 2) := by decide +kernel
theorem own_d4_42 : decode prog_68_method_6_code 42 = .ok (.iadd, 1) := by decide +kernel
theorem own_d4_43 : decode prog_68_method_6_code 43 = .ok (.istore_n 3, 1) := by decide +kernel
theorem own_d4_44 : decode prog_68_method_6_code 44 = .ok (.iinc 4 1, 3) := by decide +kernel
theorem own_d4_47 : decode prog_68_method_6_code 47 = .ok (.goto (-42), 3) := by decide +kernel
theorem own_d4_50 : decode prog_68_method_6_code 50 = .ok (.iload_n 3, 1) := by decide +kernel
theorem own_d4_51 : decode prog_68_method_6_code 51 = .ok (.ireturn, 1) := by decide +kernel
theorem own_pn4 : plainName "com/example/kazalo/kazalo/records/Record" = true := by first | (simp [plainName, overriddenIn]; done) | decide +kernel
theorem own_ef4 (m : MethodId) (o0 : Addr) (p1 : Int32) (p2 : Int32) : entryFrame m #[(.ref o0), (.int p1), (.int p2)] 6 = mkF m 0 #[.val (.ref o0), .val (.int p1), .val (.int p2), .unset, .unset, .unset] [] := by first | (simp [entryFrame, mkF, argsToLocals, Value.category]; done) | rfl
abbrev own_R4 : Room := { frames := 0, cells := 0, slots := 0, locals := 0 }
def own_P4_5_0 (p1 : Int32) (p2 : Int32) (L : List Int32) : Nat → Int32 → Int32 → Int32
  | 0, _, _ => 0
  | fuel + 1, acc, i =>
    if i < (p1 + p2) then
      let v4 : Int32 := ((List.getD L (i).toInt.toNat 0) - (48 : Int32))
      if v4 < (0 : Int32) then
        (-1 : Int32)
      else
        if (9 : Int32) < v4 then
          (-1 : Int32)
        else
          let v14 : Int32 := ((acc * (10 : Int32)) + v4)
          let v16 : Int32 := (i + (1 : Int32))
          (own_P4_5_0 p1 p2 L fuel v14 v16)
    else
      acc
theorem own_e4_9 {p1 : Int32} {p2 : Int32} {L : List Int32} {fuel : Nat} {acc : Int32} {i : Int32} {v4 : Int32} (hv4 : v4 = ((List.getD L (i).toInt.toNat 0) - (48 : Int32))) (hc10_3 : i < (p1 + p2)) (hc24_7 : v4 < (0 : Int32)) : (-1 : Int32) = (own_P4_5_0 p1 p2 L (fuel + 1) acc i) := by
  subst hv4
  first
    | (simp only [own_P4_5_0, if_pos hc10_3, if_pos hc24_7]; done)
    | (exfalso; contradiction)
theorem own_e4_13 {p1 : Int32} {p2 : Int32} {L : List Int32} {fuel : Nat} {acc : Int32} {i : Int32} {v4 : Int32} (hv4 : v4 = ((List.getD L (i).toInt.toNat 0) - (48 : Int32))) (hc10_3 : i < (p1 + p2)) (hc24_7 : ¬ (v4 < (0 : Int32))) (hc31_11 : (9 : Int32) < v4) : (-1 : Int32) = (own_P4_5_0 p1 p2 L (fuel + 1) acc i) := by
  subst hv4
  first
    | (simp only [own_P4_5_0, if_pos hc10_3, if_neg hc24_7, if_pos hc31_11]; done)
    | (exfalso; contradiction)
theorem own_e4_19 {p1 : Int32} {p2 : Int32} {L : List Int32} {fuel : Nat} {acc : Int32} {i : Int32} {v4 : Int32} {v14 : Int32} {v16 : Int32} (hv4 : v4 = ((List.getD L (i).toInt.toNat 0) - (48 : Int32))) (hv14 : v14 = ((acc * (10 : Int32)) + v4)) (hv16 : v16 = (i + (1 : Int32))) (hc10_3 : i < (p1 + p2)) (hc24_7 : ¬ (v4 < (0 : Int32))) (hc31_11 : ¬ ((9 : Int32) < v4)) : (own_P4_5_0 p1 p2 L fuel v14 v16) = (own_P4_5_0 p1 p2 L (fuel + 1) acc i) := by
  subst hv4 hv14 hv16
  first
    | (simp only [own_P4_5_0, if_pos hc10_3, if_neg hc24_7, if_neg hc31_11]; done)
    | (exfalso; contradiction)
theorem own_e4_21 {p1 : Int32} {p2 : Int32} {L : List Int32} {fuel : Nat} {acc : Int32} {i : Int32} (hc10_3 : ¬ (i < (p1 + p2))) : acc = (own_P4_5_0 p1 p2 L (fuel + 1) acc i) := by
  skip
  first
    | (simp only [own_P4_5_0, if_neg hc10_3]; done)
    | (exfalso; contradiction)
set_option maxRecDepth 65536 in
set_option maxHeartbeats 40000000 in
theorem own_lp4_5 {p : Program} {l : Launch} {e : Env} {s : State} {m : MethodId} {below : List Frame} {meth : Method} {c : Code} {Z : State} {a0 : Array Value} {h0 : Heap} {n0 : Nat} (hx : p.tables.exec = Jvm.exec) (hZ : Z.Warmed39 s.vm) (hw : ∀ d ∈ tables_1, d.before a0 Z = true) (hby : c.code = prog_68_method_6_code) (hml : c.maxLocals = 6) (hown : s.vm.findClass "com/example/kazalo/kazalo/records/Record" = some m.cls) (hnm : meth.name = "number") (hret : meth.sig.returnType = (some .int)) (hk : meth.locks = false) (o0 : Addr) (p1 : Int32) (p2 : Int32) (L : List Int32) :
    ∀ (fuel : Nat) (T : State) (acc : Int32) (i : Int32) (s5 : Slot) (X : Stand p l e own_R4 s m #[(.ref o0), (.int p1), (.int p2)] below meth c T [] 0 0) (eT : T.heap = h0) (f_0 : own_IA Z h0 o0 .byte L) (h_s5 : One s5) (h3 : (p1 + p2).toInt ≤ (L.length : Int)) (i1 : 0 ≤ i.toInt) (i2 : i.toInt ≤ (p1 + p2).toInt) (hf : (p1 + p2).toInt - i.toInt < (fuel : Int)), own_End p e below s (fun vz h Lz => vz = some (.int (own_P4_5_0 p1 p2 L fuel acc i)) ∧ Lz = [] ∧ h = h0) own_R4.cells own_R4.slots T (mkF m 5 #[.val (.ref o0), .val (.int p1), .val (.int p2), .val (.int acc), .val (.int i), s5] []) := by
  intro fuel
  induction fuel with
  | zero =>
    intro T acc i s5 X eT f_0 h_s5 h3 i1 i2 hf
    exfalso
    omega
  | succ fuel ih =>
    intro T acc i s5 X eT f_0 h_s5 h3 i1 i2 hf
    have st2 : ∀ t, Steps p.tables e below (T.setTop (mkF m 10 #[.val (.ref o0), .val (.int p1), .val (.int p2), .val (.int acc), .val (.int i), s5] [(.int (p1 + p2)), (.int i)])) t → Steps p.tables e below (T.setTop (mkF m 5 #[.val (.ref o0), .val (.int p1), .val (.int p2), .val (.int acc), .val (.int i), s5] [])) t := by
      intro t k
      show Steps p.tables e below (T.setTop (mkF m 5 #[.val (.ref o0), .val (.int p1), .val (.int p2), .val (.int acc), .val (.int i), s5] [])) _
      refine XS.iload X.here hx rfl (hb hby own_d4_5) rfl ?_
      show Steps p.tables e below (T.setTop (mkF m 7 #[.val (.ref o0), .val (.int p1), .val (.int p2), .val (.int acc), .val (.int i), s5] [(.int i)])) _
      refine XS.iloadN X.here hx rfl (hb hby own_d4_7) rfl ?_
      show Steps p.tables e below (T.setTop (mkF m 8 #[.val (.ref o0), .val (.int p1), .val (.int p2), .val (.int acc), .val (.int i), s5] [(.int p1), (.int i)])) _
      refine XS.iloadN X.here hx rfl (hb hby own_d4_8) rfl ?_
      show Steps p.tables e below (T.setTop (mkF m 9 #[.val (.ref o0), .val (.int p1), .val (.int p2), .val (.int acc), .val (.int i), s5] [(.int p2), (.int p1), (.int i)])) _
      refine XS.iadd X.here hx rfl (hb hby own_d4_9) rfl ?_
      exact k
    refine own_End.go (fun t k => st2 _ k) ?_
    by_cases hc10_3 : i < (p1 + p2)
    · obtain ⟨v4, hv4⟩ : ∃ z : Int32, z = ((List.getD L (i).toInt.toNat 0) - (48 : Int32)) := ⟨_, rfl⟩
      have st5 : ∀ t, Steps p.tables e below (T.setTop (mkF m 22 #[.val (.ref o0), .val (.int p1), .val (.int p2), .val (.int acc), .val (.int i), .val (.int v4)] [])) t → Steps p.tables e below (T.setTop (mkF m 10 #[.val (.ref o0), .val (.int p1), .val (.int p2), .val (.int acc), .val (.int i), s5] [(.int (p1 + p2)), (.int i)])) t := by
        rw [hv4]
        intro t k
        show Steps p.tables e below (T.setTop (mkF m 10 #[.val (.ref o0), .val (.int p1), .val (.int p2), .val (.int acc), .val (.int i), s5] [(.int (p1 + p2)), (.int i)])) _
        refine XS.icmpNo X.here hx rfl (hb hby own_d4_10) rfl (tlt hc10_3).2.1 ?_
        show Steps p.tables e below (T.setTop (mkF m 13 #[.val (.ref o0), .val (.int p1), .val (.int p2), .val (.int acc), .val (.int i), s5] [])) _
        refine XS.aloadN X.here hx rfl (hb hby own_d4_13) rfl rfl ?_
        show Steps p.tables e below (T.setTop (mkF m 14 #[.val (.ref o0), .val (.int p1), .val (.int p2), .val (.int acc), .val (.int i), s5] [(.ref o0)])) _
        refine XS.iload X.here hx rfl (hb hby own_d4_14) rfl ?_
        show Steps p.tables e below (T.setTop (mkF m 16 #[.val (.ref o0), .val (.int p1), .val (.int p2), .val (.int acc), .val (.int i), s5] [(.int i), (.ref o0)])) _
        refine own_baloadB X hx hZ eT f_0 (j := i) ⟨i1, own_ltl hc10_3 h3⟩ (g := (mkF m 16 #[.val (.ref o0), .val (.int p1), .val (.int p2), .val (.int acc), .val (.int i), s5] [(.int i), (.ref o0)])) rfl rfl (hb hby own_d4_16) _ ?_
        show Steps p.tables e below (T.setTop (mkF m 17 #[.val (.ref o0), .val (.int p1), .val (.int p2), .val (.int acc), .val (.int i), s5] [(.int (List.getD L (i).toInt.toNat 0))])) _
        refine XS.bipush X.here hx rfl (hb hby own_d4_17) ?_
        show Steps p.tables e below (T.setTop (mkF m 19 #[.val (.ref o0), .val (.int p1), .val (.int p2), .val (.int acc), .val (.int i), s5] [(.int (48 : Int32)), (.int (List.getD L (i).toInt.toNat 0))])) _
        refine XS.isub X.here hx rfl (hb hby own_d4_19) rfl ?_
        show Steps p.tables e below (T.setTop (mkF m 20 #[.val (.ref o0), .val (.int p1), .val (.int p2), .val (.int acc), .val (.int i), s5] [(.int ((List.getD L (i).toInt.toNat 0) - (48 : Int32)))])) _
        refine XS.istore X.here hx rfl (hb hby own_d4_20) rfl (l' := #[.val (.ref o0), .val (.int p1), .val (.int p2), .val (.int acc), .val (.int i), .val (.int ((List.getD L (i).toInt.toNat 0) - (48 : Int32)))]) (own_os4_20 h_s5) ?_
        exact k
      have st6 : ∀ t, Steps p.tables e below (T.setTop (mkF m 24 #[.val (.ref o0), .val (.int p1), .val (.int p2), .val (.int acc), .val (.int i), .val (.int v4)] [(.int v4)])) t → Steps p.tables e below (T.setTop (mkF m 22 #[.val (.ref o0), .val (.int p1), .val (.int p2), .val (.int acc), .val (.int i), .val (.int v4)] [])) t := by
        intro t k
        show Steps p.tables e below (T.setTop (mkF m 22 #[.val (.ref o0), .val (.int p1), .val (.int p2), .val (.int acc), .val (.int i), .val (.int v4)] [])) _
        refine XS.iload X.here hx rfl (hb hby own_d4_22) rfl ?_
        exact k
      refine own_End.go (fun t k => st5 _ (st6 _ k)) ?_
      by_cases hc24_7 : v4 < (0 : Int32)
      · have st8 : ∀ t, Steps p.tables e below (T.setTop (mkF m 35 #[.val (.ref o0), .val (.int p1), .val (.int p2), .val (.int acc), .val (.int i), .val (.int v4)] [(.int (-1 : Int32))])) t → Steps p.tables e below (T.setTop (mkF m 24 #[.val (.ref o0), .val (.int p1), .val (.int p2), .val (.int acc), .val (.int i), .val (.int v4)] [(.int v4)])) t := by
          intro t k
          show Steps p.tables e below (T.setTop (mkF m 24 #[.val (.ref o0), .val (.int p1), .val (.int p2), .val (.int acc), .val (.int i), .val (.int v4)] [(.int v4)])) _
          refine XS.ifYes X.here hx rfl (pc0 := 24) (pc' := 34) rfl (hb hby own_d4_24) rfl ((if0 _ _).trans (tlt hc24_7).1) (by decide) (by decide) ?_
          show Steps p.tables e below (T.setTop (mkF m 34 #[.val (.ref o0), .val (.int p1), .val (.int p2), .val (.int acc), .val (.int i), .val (.int v4)] [])) _
          refine XS.iconst X.here hx rfl (hb hby own_d4_34) ?_
          exact k
        refine own_End.go (fun t k => st8 _ k) ?_
        exact own_leafI X hx hk hret (hb hby own_d4_35) ⟨congrArg (fun z => some (Value.int z)) (own_e4_9 hv4 hc10_3 hc24_7), rfl, eT⟩ (by decide) (by decide)
      · have st10 : ∀ t, Steps p.tables e below (T.setTop (mkF m 31 #[.val (.ref o0), .val (.int p1), .val (.int p2), .val (.int acc), .val (.int i), .val (.int v4)] [(.int (9 : Int32)), (.int v4)])) t → Steps p.tables e below (T.setTop (mkF m 24 #[.val (.ref o0), .val (.int p1), .val (.int p2), .val (.int acc), .val (.int i), .val (.int v4)] [(.int v4)])) t := by
          intro t k
          show Steps p.tables e below (T.setTop (mkF m 24 #[.val (.ref o0), .val (.int p1), .val (.int p2), .val (.int acc), .val (.int i), .val (.int v4)] [(.int v4)])) _
          refine XS.ifNo X.here hx rfl (hb hby own_d4_24) rfl ((if0 _ _).trans (flt hc24_7).1) ?_
          show Steps p.tables e below (T.setTop (mkF m 27 #[.val (.ref o0), .val (.int p1), .val (.int p2), .val (.int acc), .val (.int i), .val (.int v4)] [])) _
          refine XS.iload X.here hx rfl (hb hby own_d4_27) rfl ?_
          show Steps p.tables e below (T.setTop (mkF m 29 #[.val (.ref o0), .val (.int p1), .val (.int p2), .val (.int acc), .val (.int i), .val (.int v4)] [(.int v4)])) _
          refine XS.bipush X.here hx rfl (hb hby own_d4_29) ?_
          exact k
        refine own_End.go (fun t k => st10 _ k) ?_
        by_cases hc31_11 : (9 : Int32) < v4
        · have st12 : ∀ t, Steps p.tables e below (T.setTop (mkF m 35 #[.val (.ref o0), .val (.int p1), .val (.int p2), .val (.int acc), .val (.int i), .val (.int v4)] [(.int (-1 : Int32))])) t → Steps p.tables e below (T.setTop (mkF m 31 #[.val (.ref o0), .val (.int p1), .val (.int p2), .val (.int acc), .val (.int i), .val (.int v4)] [(.int (9 : Int32)), (.int v4)])) t := by
            intro t k
            show Steps p.tables e below (T.setTop (mkF m 31 #[.val (.ref o0), .val (.int p1), .val (.int p2), .val (.int acc), .val (.int i), .val (.int v4)] [(.int (9 : Int32)), (.int v4)])) _
            refine XS.icmpNo X.here hx rfl (hb hby own_d4_31) rfl (tlt hc31_11).2.2.2 ?_
            show Steps p.tables e below (T.setTop (mkF m 34 #[.val (.ref o0), .val (.int p1), .val (.int p2), .val (.int acc), .val (.int i), .val (.int v4)] [])) _
            refine XS.iconst X.here hx rfl (hb hby own_d4_34) ?_
            exact k
          refine own_End.go (fun t k => st12 _ k) ?_
          exact own_leafI X hx hk hret (hb hby own_d4_35) ⟨congrArg (fun z => some (Value.int z)) (own_e4_13 hv4 hc10_3 hc24_7 hc31_11), rfl, eT⟩ (by decide) (by decide)
        · obtain ⟨v14, hv14⟩ : ∃ z : Int32, z = ((acc * (10 : Int32)) + v4) := ⟨_, rfl⟩
          have st15 : ∀ t, Steps p.tables e below (T.setTop (mkF m 44 #[.val (.ref o0), .val (.int p1), .val (.int p2), .val (.int v14), .val (.int i), .val (.int v4)] [])) t → Steps p.tables e below (T.setTop (mkF m 31 #[.val (.ref o0), .val (.int p1), .val (.int p2), .val (.int acc), .val (.int i), .val (.int v4)] [(.int (9 : Int32)), (.int v4)])) t := by
            rw [hv14]
            intro t k
            show Steps p.tables e below (T.setTop (mkF m 31 #[.val (.ref o0), .val (.int p1), .val (.int p2), .val (.int acc), .val (.int i), .val (.int v4)] [(.int (9 : Int32)), (.int v4)])) _
            refine XS.icmpYes X.here hx rfl (pc0 := 31) (pc' := 36) rfl (hb hby own_d4_31) rfl (flt hc31_11).2.2.2 (by decide) (by decide) ?_
            show Steps p.tables e below (T.setTop (mkF m 36 #[.val (.ref o0), .val (.int p1), .val (.int p2), .val (.int acc), .val (.int i), .val (.int v4)] [])) _
            refine XS.iloadN X.here hx rfl (hb hby own_d4_36) rfl ?_
            show Steps p.tables e below (T.setTop (mkF m 37 #[.val (.ref o0), .val (.int p1), .val (.int p2), .val (.int acc), .val (.int i), .val (.int v4)] [(.int acc)])) _
            refine XS.bipush X.here hx rfl (hb hby own_d4_37) ?_
            show Steps p.tables e below (T.setTop (mkF m 39 #[.val (.ref o0), .val (.int p1), .val (.int p2), .val (.int acc), .val (.int i), .val (.int v4)] [(.int (10 : Int32)), (.int acc)])) _
            refine XS.imul X.here hx rfl (hb hby own_d4_39) rfl ?_
            show Steps p.tables e below (T.setTop (mkF m 40 #[.val (.ref o0), .val (.int p1), .val (.int p2), .val (.int acc), .val (.int i), .val (.int v4)] [(.int (acc * (10 : Int32)))])) _
            refine XS.iload X.here hx rfl (hb hby own_d4_40) rfl ?_
            show Steps p.tables e below (T.setTop (mkF m 42 #[.val (.ref o0), .val (.int p1), .val (.int p2), .val (.int acc), .val (.int i), .val (.int v4)] [(.int v4), (.int (acc * (10 : Int32)))])) _
            refine XS.iadd X.here hx rfl (hb hby own_d4_42) rfl ?_
            show Steps p.tables e below (T.setTop (mkF m 43 #[.val (.ref o0), .val (.int p1), .val (.int p2), .val (.int acc), .val (.int i), .val (.int v4)] [(.int ((acc * (10 : Int32)) + v4))])) _
            refine XS.istoreN X.here hx rfl (hb hby own_d4_43) rfl (l' := #[.val (.ref o0), .val (.int p1), .val (.int p2), .val (.int ((acc * (10 : Int32)) + v4)), .val (.int i), .val (.int v4)]) rfl ?_
            exact k
          obtain ⟨v16, hv16⟩ : ∃ z : Int32, z = (i + (1 : Int32)) := ⟨_, rfl⟩
          have st17 : ∀ t, Steps p.tables e below (T.setTop (mkF m 47 #[.val (.ref o0), .val (.int p1), .val (.int p2), .val (.int v14), .val (.int v16), .val (.int v4)] [])) t → Steps p.tables e below (T.setTop (mkF m 44 #[.val (.ref o0), .val (.int p1), .val (.int p2), .val (.int v14), .val (.int i), .val (.int v4)] [])) t := by
            rw [hv16]
            intro t k
            show Steps p.tables e below (T.setTop (mkF m 44 #[.val (.ref o0), .val (.int p1), .val (.int p2), .val (.int v14), .val (.int i), .val (.int v4)] [])) _
            refine XS.iinc X.here hx rfl (hb hby own_d4_44) rfl (l' := #[.val (.ref o0), .val (.int p1), .val (.int p2), .val (.int v14), .val (.int (i + (1 : Int32))), .val (.int v4)]) rfl ?_
            exact k
          have st18 : ∀ t, Steps p.tables e below (T.setTop (mkF m 5 #[.val (.ref o0), .val (.int p1), .val (.int p2), .val (.int v14), .val (.int v16), .val (.int v4)] [])) t → Steps p.tables e below (T.setTop (mkF m 47 #[.val (.ref o0), .val (.int p1), .val (.int p2), .val (.int v14), .val (.int v16), .val (.int v4)] [])) t := by
            intro t k
            show Steps p.tables e below (T.setTop (mkF m 47 #[.val (.ref o0), .val (.int p1), .val (.int p2), .val (.int v14), .val (.int v16), .val (.int v4)] [])) _
            refine XS.goto X.here hx rfl (pc0 := 47) (pc' := 5) rfl (hb hby own_d4_47) (by decide) (by decide) ?_
            exact k
          refine own_End.go (fun t k => st15 _ (st17 _ (st18 _ k))) ?_
          rw [← (own_e4_19 hv4 hv14 hv16 hc10_3 hc24_7 hc31_11)]
          exact ih T v14 v16 (.val (.int v4)) X eT f_0 (One.val rfl) h3 (by have c := hc10_3; rw [Int32.lt_iff_toInt_lt] at c; have e := own_succ hv16 (by have := rng32 (p1 + p2); omega); omega) (by have c := hc10_3; rw [Int32.lt_iff_toInt_lt] at c; have e := own_succ hv16 (by have := rng32 (p1 + p2); omega); omega) (by have c := hc10_3; rw [Int32.lt_iff_toInt_lt] at c; have e := own_succ hv16 (by have := rng32 (p1 + p2); omega); omega)
    · have st20 : ∀ t, Steps p.tables e below (T.setTop (mkF m 51 #[.val (.ref o0), .val (.int p1), .val (.int p2), .val (.int acc), .val (.int i), s5] [(.int acc)])) t → Steps p.tables e below (T.setTop (mkF m 10 #[.val (.ref o0), .val (.int p1), .val (.int p2), .val (.int acc), .val (.int i), s5] [(.int (p1 + p2)), (.int i)])) t := by
        intro t k
        show Steps p.tables e below (T.setTop (mkF m 10 #[.val (.ref o0), .val (.int p1), .val (.int p2), .val (.int acc), .val (.int i), s5] [(.int (p1 + p2)), (.int i)])) _
        refine XS.icmpYes X.here hx rfl (pc0 := 10) (pc' := 50) rfl (hb hby own_d4_10) rfl (flt hc10_3).2.1 (by decide) (by decide) ?_
        show Steps p.tables e below (T.setTop (mkF m 50 #[.val (.ref o0), .val (.int p1), .val (.int p2), .val (.int acc), .val (.int i), s5] [])) _
        refine XS.iloadN X.here hx rfl (hb hby own_d4_50) rfl ?_
        exact k
      refine own_End.go (fun t k => st20 _ k) ?_
      exact own_leafI X hx hk hret (hb hby own_d4_51) ⟨congrArg (fun z => some (Value.int z)) (own_e4_21 hc10_3), rfl, eT⟩ (by decide) (by decide)
def own_F4 (p1 : Int32) (p2 : Int32) (L : List Int32) : Int32 :=
  (own_P4_5_0 p1 p2 L (L.length + 1) (0 : Int32) p1)
def own_Q4 (Z : State) (o0 : Addr) (p1 : Int32) (p2 : Int32) (L : List Int32) (h0 : Heap) (n0 : Nat) (vz : Option Value) (h : Heap) (Lz : List Loc) : Prop := vz = some (.int (own_F4 p1 p2 L)) ∧ Lz = [] ∧ h = h0
theorem own_e4_22 {p1 : Int32} {p2 : Int32} {L : List Int32} : (own_P4_5_0 p1 p2 L (L.length + 1) (0 : Int32) p1) = (own_F4 p1 p2 L) := by
  skip
  first
    | (simp only [own_F4]; done)
    | (exfalso; contradiction)
set_option maxRecDepth 65536 in
set_option maxHeartbeats 40000000 in
theorem own_rm4 (l : Launch) (Z : State) (a0 : Array Value) (hw : ∀ d ∈ tables_1, d.before a0 Z = true) (ws : List Jvm.Cond) (o0 : Addr) (p1 : Int32) (p2 : Int32) (L : List Int32) (h0 : Heap) (n0 : Nat) (Z0 : n0 ≤ h0.size) (V_o0 : own_IA Z h0 o0 .byte L) (h1 : 0 ≤ p1.toInt) (h2 : p1.toInt ≤ (p1 + p2).toInt) (h3 : (p1 + p2).toInt ≤ (L.length : Int)) :
    MetFree l (⟨"com/example/kazalo/kazalo/records/Record", "number", "([BII)I"⟩ : MethodName) (head1 (Jvm.Cond.code (⟨"com/example/kazalo/kazalo/records/Record", "number", "([BII)I"⟩ : MethodName) prog_68_method_6_code 6 (some .int) :: ws) own_R4) (fun a U => a = #[(.ref o0), (.int p1), (.int p2)] ∧ Z.Warmed39 U.vm ∧ U.heap = h0) (fun _ _ _ _ _ => True) (fun _ U o U' => ∃ vz Lz, o = .returned vz ∧ own_Q4 Z o0 p1 p2 L h0 n0 vz U'.heap Lz ∧ FrameEnd U o U' Lz own_R4.cells own_R4.slots) := by
  refine MetFree.of_bodySF (plainFor_of_name own_pn4) hisR ?_
  intro p e s m args below meth c s₁ Bd hml0 hP hK
  obtain ⟨rfl, hZ, hh⟩ := hP
  have hx := Bd.exec
  have hby := Bd.bytes
  have hml : c.maxLocals = 6 := hml0
  have hown : s.vm.findClass "com/example/kazalo/kazalo/records/Record" = some m.cls := findClass_of_methodNamed Bd.named
  have hnm := (name_of_methodNamed Bd.named Bd.method).1
  have X0 : Stand p l e own_R4 s m #[(.ref o0), (.int p1), (.int p2)] below meth c s₁ [] 0 0 := Stand.of_body Bd
  have e0 : s₁.heap = h0 := by rw [← hh, Bd.state]; rfl
  show own_End p e below s (fun vz h Lz => vz = some (.int (own_F4 p1 p2 L)) ∧ Lz = [] ∧ h = h0) own_R4.cells own_R4.slots s₁ (entryFrame m #[(.ref o0), (.int p1), (.int p2)] 6)
  refine own_End.go (fun t k => castTop (own_ef4 m o0 p1 p2) k) ?_
  show own_End p e below s _ _ _ s₁ (mkF m 0 #[.val (.ref o0), .val (.int p1), .val (.int p2), .unset, .unset, .unset] [])
  have N0 := Fr.nil n0
  have K0 : Keep h0 h0 [] := Keep.refl h0 _
  have st1 : ∀ t, Steps p.tables e below (s₁.setTop (mkF m 5 #[.val (.ref o0), .val (.int p1), .val (.int p2), .val (.int (0 : Int32)), .val (.int p1), .unset] [])) t → Steps p.tables e below (s₁.setTop (mkF m 0 #[.val (.ref o0), .val (.int p1), .val (.int p2), .unset, .unset, .unset] [])) t := by
    intro t k
    show Steps p.tables e below (s₁.setTop (mkF m 0 #[.val (.ref o0), .val (.int p1), .val (.int p2), .unset, .unset, .unset] [])) _
    refine XS.iconst X0.here hx rfl (hb hby own_d4_0) ?_
    show Steps p.tables e below (s₁.setTop (mkF m 1 #[.val (.ref o0), .val (.int p1), .val (.int p2), .unset, .unset, .unset] [(.int (0 : Int32))])) _
    refine XS.istoreN X0.here hx rfl (hb hby own_d4_1) rfl (l' := #[.val (.ref o0), .val (.int p1), .val (.int p2), .val (.int (0 : Int32)), .unset, .unset]) rfl ?_
    show Steps p.tables e below (s₁.setTop (mkF m 2 #[.val (.ref o0), .val (.int p1), .val (.int p2), .val (.int (0 : Int32)), .unset, .unset] [])) _
    refine XS.iloadN X0.here hx rfl (hb hby own_d4_2) rfl ?_
    show Steps p.tables e below (s₁.setTop (mkF m 3 #[.val (.ref o0), .val (.int p1), .val (.int p2), .val (.int (0 : Int32)), .unset, .unset] [(.int p1)])) _
    refine XS.istore X0.here hx rfl (hb hby own_d4_3) rfl (l' := #[.val (.ref o0), .val (.int p1), .val (.int p2), .val (.int (0 : Int32)), .val (.int p1), .unset]) rfl ?_
    exact k
  refine own_End.go (fun t k => st1 _ k) ?_
  rw [← (own_e4_22)]
  exact own_lp4_5 (n0 := n0) hx hZ hw hby hml hown hnm Bd.returns Bd.notSynchronized o0 p1 p2 L (L.length + 1) s₁ (0 : Int32) p1 (.unset) X0 e0 V_o0 One.u h3 h1 h2 (by omega)
theorem own_pn0 : plainName "com/example/kazalo/kazalo/records/RecordNumberPinLaw" = true := by first | (simp [plainName, overriddenIn]; done) | decide +kernel
theorem own_ef0 (m : MethodId) (q0 : Int64) (p1 : Int32) (p2 : Int32) (p3 : Int32) : entryFrame m #[(.long q0), (.int p1), (.int p2), (.int p3)] maxLocals = mkF m 0 #[.val (.long q0), .second, .val (.int p1), .val (.int p2), .val (.int p3), .unset, .unset, .unset, .unset, .unset] [] := by first | (simp [entryFrame, mkF, argsToLocals, Value.category, maxLocals]; done) | rfl
def own_F0 (q0 : Int64) (p1 : Int32) (p2 : Int32) (p3 : Int32) : Int32 :=
  let v6 : Int32 := (own_F1 q0 p1 (0 : Int32))
  let v11 : Int32 := (own_F1 q0 p1 (1 : Int32))
  let v16 : Int32 := (own_F1 q0 p1 (2 : Int32))
  let v21 : Int32 := (own_F1 q0 p1 (3 : Int32))
  let v26 : Int32 := (own_F1 q0 p1 (4 : Int32))
  let v31 : Int32 := (own_F1 q0 p1 (5 : Int32))
  let v34 : Int32 := ((p2 &&& (2147483647 : Int32)) - ((p2 &&& (2147483647 : Int32)) / (7 : Int32)) * (7 : Int32))
  let v36 : Int32 := ((p3 &&& (2147483647 : Int32)) - ((p3 &&& (2147483647 : Int32)) / ((7 : Int32) - v34)) * ((7 : Int32) - v34))
  let v40 : Int32 := (own_F2 v34 v36 (0 : Int32) ([(nar .byte v6), (nar .byte v11), (nar .byte v16), (nar .byte v21), (nar .byte v26), (nar .byte v31)] : List Int32))
  let v69 : Int32 := (if v40 = (0 : Int32) then (if (own_F2 v34 v36 (1 : Int32) ([(nar .byte v6), (nar .byte v11), (nar .byte v16), (nar .byte v21), (nar .byte v26), (nar .byte v31)] : List Int32)) = (0 : Int32) then (if (own_F2 v34 v36 (2 : Int32) ([(nar .byte v6), (nar .byte v11), (nar .byte v16), (nar .byte v21), (nar .byte v26), (nar .byte v31)] : List Int32)) = (0 : Int32) then (if (own_F2 v34 v36 (3 : Int32) ([(nar .byte v6), (nar .byte v11), (nar .byte v16), (nar .byte v21), (nar .byte v26), (nar .byte v31)] : List Int32)) = (0 : Int32) then (if (own_F2 v34 v36 (4 : Int32) ([(nar .byte v6), (nar .byte v11), (nar .byte v16), (nar .byte v21), (nar .byte v26), (nar .byte v31)] : List Int32)) = (0 : Int32) then (if (own_F2 v34 v36 (5 : Int32) ([(nar .byte v6), (nar .byte v11), (nar .byte v16), (nar .byte v21), (nar .byte v26), (nar .byte v31)] : List Int32)) = (0 : Int32) then (0 : Int32) else (1 : Int32)) else (1 : Int32)) else (1 : Int32)) else (1 : Int32)) else (1 : Int32)) else (1 : Int32))
  let v87 : Int32 := (if v69 = (0 : Int32) then ((((((own_F3 v34 v36 (0 : Int32) ([(nar .byte v6), (nar .byte v11), (nar .byte v16), (nar .byte v21), (nar .byte v26), (nar .byte v31)] : List Int32)) + (own_F3 v34 v36 (1 : Int32) ([(nar .byte v6), (nar .byte v11), (nar .byte v16), (nar .byte v21), (nar .byte v26), (nar .byte v31)] : List Int32))) + (own_F3 v34 v36 (2 : Int32) ([(nar .byte v6), (nar .byte v11), (nar .byte v16), (nar .byte v21), (nar .byte v26), (nar .byte v31)] : List Int32))) + (own_F3 v34 v36 (3 : Int32) ([(nar .byte v6), (nar .byte v11), (nar .byte v16), (nar .byte v21), (nar .byte v26), (nar .byte v31)] : List Int32))) + (own_F3 v34 v36 (4 : Int32) ([(nar .byte v6), (nar .byte v11), (nar .byte v16), (nar .byte v21), (nar .byte v26), (nar .byte v31)] : List Int32))) + (own_F3 v34 v36 (5 : Int32) ([(nar .byte v6), (nar .byte v11), (nar .byte v16), (nar .byte v21), (nar .byte v26), (nar .byte v31)] : List Int32))) else (-1 : Int32))
  let v91 : Int32 := (own_F4 v34 v36 ([(nar .byte v6), (nar .byte v11), (nar .byte v16), (nar .byte v21), (nar .byte v26), (nar .byte v31)] : List Int32))
  if v91 = v87 then
    (1 : Int32)
  else
    (0 : Int32)
def own_Q0 (Z : State) (q0 : Int64) (p1 : Int32) (p2 : Int32) (p3 : Int32) (h0 : Heap) (n0 : Nat) (vz : Option Value) (h : Heap) (Lz : List Loc) : Prop := vz = some (.int (own_F0 q0 p1 p2 p3)) ∧ Fr n0 Lz
theorem own_e0_95 {q0 : Int64} {p1 : Int32} {p2 : Int32} {p3 : Int32} {v6 : Int32} {v11 : Int32} {v16 : Int32} {v21 : Int32} {v26 : Int32} {v31 : Int32} {v34 : Int32} {v36 : Int32} {v40 : Int32} {v69 : Int32} {v87 : Int32} {v91 : Int32} (hv6 : v6 = (own_F1 q0 p1 (0 : Int32))) (hv11 : v11 = (own_F1 q0 p1 (1 : Int32))) (hv16 : v16 = (own_F1 q0 p1 (2 : Int32))) (hv21 : v21 = (own_F1 q0 p1 (3 : Int32))) (hv26 : v26 = (own_F1 q0 p1 (4 : Int32))) (hv31 : v31 = (own_F1 q0 p1 (5 : Int32))) (hv34 : v34 = ((p2 &&& (2147483647 : Int32)) - ((p2 &&& (2147483647 : Int32)) / (7 : Int32)) * (7 : Int32))) (hv36 : v36 = ((p3 &&& (2147483647 : Int32)) - ((p3 &&& (2147483647 : Int32)) / ((7 : Int32) - v34)) * ((7 : Int32) - v34))) (hv40 : v40 = (own_F2 v34 v36 (0 : Int32) ([(nar .byte v6), (nar .byte v11), (nar .byte v16), (nar .byte v21), (nar .byte v26), (nar .byte v31)] : List Int32))) (hv69 : v69 = (if v40 = (0 : Int32) then (if (own_F2 v34 v36 (1 : Int32) ([(nar .byte v6), (nar .byte v11), (nar .byte v16), (nar .byte v21), (nar .byte v26), (nar .byte v31)] : List Int32)) = (0 : Int32) then (if (own_F2 v34 v36 (2 : Int32) ([(nar .byte v6), (nar .byte v11), (nar .byte v16), (nar .byte v21), (nar .byte v26), (nar .byte v31)] : List Int32)) = (0 : Int32) then (if (own_F2 v34 v36 (3 : Int32) ([(nar .byte v6), (nar .byte v11), (nar .byte v16), (nar .byte v21), (nar .byte v26), (nar .byte v31)] : List Int32)) = (0 : Int32) then (if (own_F2 v34 v36 (4 : Int32) ([(nar .byte v6), (nar .byte v11), (nar .byte v16), (nar .byte v21), (nar .byte v26), (nar .byte v31)] : List Int32)) = (0 : Int32) then (if (own_F2 v34 v36 (5 : Int32) ([(nar .byte v6), (nar .byte v11), (nar .byte v16), (nar .byte v21), (nar .byte v26), (nar .byte v31)] : List Int32)) = (0 : Int32) then (0 : Int32) else (1 : Int32)) else (1 : Int32)) else (1 : Int32)) else (1 : Int32)) else (1 : Int32)) else (1 : Int32))) (hv87 : v87 = (if v69 = (0 : Int32) then ((((((own_F3 v34 v36 (0 : Int32) ([(nar .byte v6), (nar .byte v11), (nar .byte v16), (nar .byte v21), (nar .byte v26), (nar .byte v31)] : List Int32)) + (own_F3 v34 v36 (1 : Int32) ([(nar .byte v6), (nar .byte v11), (nar .byte v16), (nar .byte v21), (nar .byte v26), (nar .byte v31)] : List Int32))) + (own_F3 v34 v36 (2 : Int32) ([(nar .byte v6), (nar .byte v11), (nar .byte v16), (nar .byte v21), (nar .byte v26), (nar .byte v31)] : List Int32))) + (own_F3 v34 v36 (3 : Int32) ([(nar .byte v6), (nar .byte v11), (nar .byte v16), (nar .byte v21), (nar .byte v26), (nar .byte v31)] : List Int32))) + (own_F3 v34 v36 (4 : Int32) ([(nar .byte v6), (nar .byte v11), (nar .byte v16), (nar .byte v21), (nar .byte v26), (nar .byte v31)] : List Int32))) + (own_F3 v34 v36 (5 : Int32) ([(nar .byte v6), (nar .byte v11), (nar .byte v16), (nar .byte v21), (nar .byte v26), (nar .byte v31)] : List Int32))) else (-1 : Int32))) (hv91 : v91 = (own_F4 v34 v36 ([(nar .byte v6), (nar .byte v11), (nar .byte v16), (nar .byte v21), (nar .byte v26), (nar .byte v31)] : List Int32))) (hc262_93 : v91 = v87) : (nar .boolean (1 : Int32)) = (own_F0 q0 p1 p2 p3) := by
  rw [own_nb1]
  subst hv6 hv11 hv16 hv21 hv26 hv31 hv34 hv36 hv40 hv69 hv87 hv91
  first
    | (simp only [own_F0, if_pos hc262_93]; done)
    | (exfalso; contradiction)
theorem own_e0_97 {q0 : Int64} {p1 : Int32} {p2 : Int32} {p3 : Int32} {v6 : Int32} {v11 : Int32} {v16 : Int32} {v21 : Int32} {v26 : Int32} {v31 : Int32} {v34 : Int32} {v36 : Int32} {v40 : Int32} {v69 : Int32} {v87 : Int32} {v91 : Int32} (hv6 : v6 = (own_F1 q0 p1 (0 : Int32))) (hv11 : v11 = (own_F1 q0 p1 (1 : Int32))) (hv16 : v16 = (own_F1 q0 p1 (2 : Int32))) (hv21 : v21 = (own_F1 q0 p1 (3 : Int32))) (hv26 : v26 = (own_F1 q0 p1 (4 : Int32))) (hv31 : v31 = (own_F1 q0 p1 (5 : Int32))) (hv34 : v34 = ((p2 &&& (2147483647 : Int32)) - ((p2 &&& (2147483647 : Int32)) / (7 : Int32)) * (7 : Int32))) (hv36 : v36 = ((p3 &&& (2147483647 : Int32)) - ((p3 &&& (2147483647 : Int32)) / ((7 : Int32) - v34)) * ((7 : Int32) - v34))) (hv40 : v40 = (own_F2 v34 v36 (0 : Int32) ([(nar .byte v6), (nar .byte v11), (nar .byte v16), (nar .byte v21), (nar .byte v26), (nar .byte v31)] : List Int32))) (hv69 : v69 = (if v40 = (0 : Int32) then (if (own_F2 v34 v36 (1 : Int32) ([(nar .byte v6), (nar .byte v11), (nar .byte v16), (nar .byte v21), (nar .byte v26), (nar .byte v31)] : List Int32)) = (0 : Int32) then (if (own_F2 v34 v36 (2 : Int32) ([(nar .byte v6), (nar .byte v11), (nar .byte v16), (nar .byte v21), (nar .byte v26), (nar .byte v31)] : List Int32)) = (0 : Int32) then (if (own_F2 v34 v36 (3 : Int32) ([(nar .byte v6), (nar .byte v11), (nar .byte v16), (nar .byte v21), (nar .byte v26), (nar .byte v31)] : List Int32)) = (0 : Int32) then (if (own_F2 v34 v36 (4 : Int32) ([(nar .byte v6), (nar .byte v11), (nar .byte v16), (nar .byte v21), (nar .byte v26), (nar .byte v31)] : List Int32)) = (0 : Int32) then (if (own_F2 v34 v36 (5 : Int32) ([(nar .byte v6), (nar .byte v11), (nar .byte v16), (nar .byte v21), (nar .byte v26), (nar .byte v31)] : List Int32)) = (0 : Int32) then (0 : Int32) else (1 : Int32)) else (1 : Int32)) else (1 : Int32)) else (1 : Int32)) else (1 : Int32)) else (1 : Int32))) (hv87 : v87 = (if v69 = (0 : Int32) then ((((((own_F3 v34 v36 (0 : Int32) ([(nar .byte v6), (nar .byte v11), (nar .byte v16), (nar .byte v21), (nar .byte v26), (nar .byte v31)] : List Int32)) + (own_F3 v34 v36 (1 : Int32) ([(nar .byte v6), (nar .byte v11), (nar .byte v16), (nar .byte v21), (nar .byte v26), (nar .byte v31)] : List Int32))) + (own_F3 v34 v36 (2 : Int32) ([(nar .byte v6), (nar .byte v11), (nar .byte v16), (nar .byte v21), (nar .byte v26), (nar .byte v31)] : List Int32))) + (own_F3 v34 v36 (3 : Int32) ([(nar .byte v6), (nar .byte v11), (nar .byte v16), (nar .byte v21), (nar .byte v26), (nar .byte v31)] : List Int32))) + (own_F3 v34 v36 (4 : Int32) ([(nar .byte v6), (nar .byte v11), (nar .byte v16), (nar .byte v21), (nar .byte v26), (nar .byte v31)] : List Int32))) + (own_F3 v34 v36 (5 : Int32) ([(nar .byte v6), (nar .byte v11), (nar .byte v16), (nar .byte v21), (nar .byte v26), (nar .byte v31)] : List Int32))) else (-1 : Int32))) (hv91 : v91 = (own_F4 v34 v36 ([(nar .byte v6), (nar .byte v11), (nar .byte v16), (nar .byte v21), (nar .byte v26), (nar .byte v31)] : List Int32))) (hc262_93 : ¬ (v91 = v87)) : (nar .boolean (0 : Int32)) = (own_F0 q0 p1 p2 p3) := by
  rw [own_nb0]
  subst hv6 hv11 hv16 hv21 hv26 hv31 hv34 hv36 hv40 hv69 hv87 hv91
  first
    | (simp only [own_F0, if_neg hc262_93]; done)
    | (exfalso; contradiction)
set_option maxRecDepth 65536 in
set_option maxHeartbeats 40000000 in
theorem own_rm0 (l : Launch) (Z : State) (a0 : Array Value) (hw : ∀ d ∈ tables_1, d.before a0 Z = true) (ws : List Jvm.Cond) (q0 : Int64) (p1 : Int32) (p2 : Int32) (p3 : Int32) (h0 : Heap) (n0 : Nat) (Z0 : n0 ≤ h0.size) :
    MetFree l x (head1 (Jvm.Cond.code x code maxLocals ret :: ws) room_1) (fun a U => a = #[(.long q0), (.int p1), (.int p2), (.int p3)] ∧ Z.Warmed39 U.vm ∧ U.heap = h0) (fun _ _ _ _ _ => True) (fun _ U o U' => ∃ vz Lz, o = .returned vz ∧ own_Q0 Z q0 p1 p2 p3 h0 n0 vz U'.heap Lz ∧ FrameEnd U o U' Lz room_1.cells room_1.slots) := by
  refine MetFree.of_bodySF (plainFor_of_name own_pn0) hisR ?_
  intro p e s m args below meth c s₁ Bd hml0 hP hK
  obtain ⟨rfl, hZ, hh⟩ := hP
  have hx := Bd.exec
  have hby := Bd.bytes
  have hml : c.maxLocals = 10 := hml0
  have hown : s.vm.findClass "com/example/kazalo/kazalo/records/RecordNumberPinLaw" = some m.cls := findClass_of_methodNamed Bd.named
  have hnm := (name_of_methodNamed Bd.named Bd.method).1
  have X0 : Stand p l e room_1 s m #[(.long q0), (.int p1), (.int p2), (.int p3)] below meth c s₁ [] 0 0 := Stand.of_body Bd
  have e0 : s₁.heap = h0 := by rw [← hh, Bd.state]; rfl
  show own_End p e below s (fun vz h Lz => vz = some (.int (own_F0 q0 p1 p2 p3)) ∧ Fr n0 Lz) room_1.cells room_1.slots s₁ (entryFrame m #[(.long q0), (.int p1), (.int p2), (.int p3)] maxLocals)
  refine own_End.go (fun t k => castTop (own_ef0 m q0 p1 p2 p3) k) ?_
  show own_End p e below s _ _ _ s₁ (mkF m 0 #[.val (.long q0), .second, .val (.int p1), .val (.int p2), .val (.int p3), .unset, .unset, .unset, .unset, .unset] [])
  have N0 := Fr.nil n0
  have st1 : ∀ t, Steps p.tables e below (s₁.setTop (mkF m 2 #[.val (.long q0), .second, .val (.int p1), .val (.int p2), .val (.int p3), .unset, .unset, .unset, .unset, .unset] [(.int (6 : Int32))])) t → Steps p.tables e below (s₁.setTop (mkF m 0 #[.val (.long q0), .second, .val (.int p1), .val (.int p2), .val (.int p3), .unset, .unset, .unset, .unset, .unset] [])) t := by
    intro t k
    show Steps p.tables e below (s₁.setTop (mkF m 0 #[.val (.long q0), .second, .val (.int p1), .val (.int p2), .val (.int p3), .unset, .unset, .unset, .unset, .unset] [])) _
    refine XS.bipush X0.here hx rfl (hb hby at_0) ?_
    exact k
  obtain ⟨T2, h2, b2, X2, e2, K2, q2, V2, st2⟩ := own_newA X0 hx hZ (ty := .byte) rfl (hw _ (List.mem_of_getElem? (i := 0) rfl)) rfl e0 (g := (mkF m 2 #[.val (.long q0), .second, .val (.int p1), .val (.int p2), .val (.int p3), .unset, .unset, .unset, .unset, .unset] [(.int (6 : Int32))])) rfl (hb hby at_2) rfl (6) (by decide) (cap := 6) (by decide) (by decide) (by decide) (by decide)
  have X2 : Stand p l e room_1 s m #[(.long q0), (.int p1), (.int p2), (.int p3)] below meth c T2 [] 1 6 := X2
  have V2 : own_IA Z h2 b2 .byte ([(0 : Int32), (0 : Int32), (0 : Int32), (0 : Int32), (0 : Int32), (0 : Int32)] : List Int32) := V2
  have g_b2 : n0 ≤ b2 := Nat.le_trans Z0 q2
  have Zp3 : n0 ≤ h2.size := Nat.le_trans Z0 K2.1
  have st4 : ∀ t, Steps p.tables e below (T2.setTop (mkF m 12 #[.val (.long q0), .second, .val (.int p1), .val (.int p2), .val (.int p3), .val (.ref b2), .unset, .unset, .unset, .unset] [(.int (0 : Int32)), (.int p1), (.long q0), (.int (0 : Int32)), (.ref b2)])) t → Steps p.tables e below (T2.setTop (mkF m 4 #[.val (.long q0), .second, .val (.int p1), .val (.int p2), .val (.int p3), .unset, .unset, .unset, .unset, .unset] [(.ref b2)])) t := by
    intro t k
    show Steps p.tables e below (T2.setTop (mkF m 4 #[.val (.long q0), .second, .val (.int p1), .val (.int p2), .val (.int p3), .unset, .unset, .unset, .unset, .unset] [(.ref b2)])) _
    refine XS.astore X2.here hx rfl (hb hby at_4) rfl rfl (l' := #[.val (.long q0), .second, .val (.int p1), .val (.int p2), .val (.int p3), .val (.ref b2), .unset, .unset, .unset, .unset]) rfl ?_
    show Steps p.tables e below (T2.setTop (mkF m 6 #[.val (.long q0), .second, .val (.int p1), .val (.int p2), .val (.int p3), .val (.ref b2), .unset, .unset, .unset, .unset] [])) _
    refine XS.aload X2.here hx rfl (hb hby at_6) rfl rfl ?_
    show Steps p.tables e below (T2.setTop (mkF m 8 #[.val (.long q0), .second, .val (.int p1), .val (.int p2), .val (.int p3), .val (.ref b2), .unset, .unset, .unset, .unset] [(.ref b2)])) _
    refine XS.iconst X2.here hx rfl (hb hby at_8) ?_
    show Steps p.tables e below (T2.setTop (mkF m 9 #[.val (.long q0), .second, .val (.int p1), .val (.int p2), .val (.int p3), .val (.ref b2), .unset, .unset, .unset, .unset] [(.int (0 : Int32)), (.ref b2)])) _
    refine XS.lloadN X2.here hx rfl (hb hby at_9) rfl ?_
    show Steps p.tables e below (T2.setTop (mkF m 10 #[.val (.long q0), .second, .val (.int p1), .val (.int p2), .val (.int p3), .val (.ref b2), .unset, .unset, .unset, .unset] [(.long q0), (.int (0 : Int32)), (.ref b2)])) _
    refine XS.iloadN X2.here hx rfl (hb hby at_10) rfl ?_
    show Steps p.tables e below (T2.setTop (mkF m 11 #[.val (.long q0), .second, .val (.int p1), .val (.int p2), .val (.int p3), .val (.ref b2), .unset, .unset, .unset, .unset] [(.int p1), (.long q0), (.int (0 : Int32)), (.ref b2)])) _
    refine XS.iconst X2.here hx rfl (hb hby at_11) ?_
    exact k
  obtain ⟨_, _, ⟨T5, L5, k5, n5⟩, -, X5, ⟨Lc5, hQ5, l5, y5, z5⟩, st5⟩ := Jvm.LawKit.callS X2 hx (y := (⟨"com/example/kazalo/kazalo/records/RecordNumberPinLaw", "drawn", "(JII)B"⟩ : MethodName)) hown (mvT hZ (hw _ (List.mem_of_getElem? (i := 1) rfl))) (mvT hZ (hw _ (List.mem_of_getElem? (i := 2) rfl))) (mvT hZ (hw _ (List.mem_of_getElem? (i := 3) rfl))) (mvT hZ (hw _ (List.mem_of_getElem? (i := 4) rfl))) (by decide) (backOf (W := 2) (own_rm1 l Z a0 hw [] q0 p1 (0 : Int32) h2) hZ (hw _ (List.mem_of_getElem? (i := 4) rfl)) (hw _ (List.mem_of_getElem? (i := 3) rfl)) (by decide) (by decide)) (g := (mkF m 12 #[.val (.long q0), .second, .val (.int p1), .val (.int p2), .val (.int p3), .val (.ref b2), .unset, .unset, .unset, .unset] [(.int (0 : Int32)), (.int p1), (.long q0), (.int (0 : Int32)), (.ref b2)])) rfl (by rw [hml]; rfl) (argsL := [(.long q0), (.int p1), (.int (0 : Int32))]) (rest := [(.int (0 : Int32)), (.ref b2)]) (lenOf own_pd2 rfl) rfl (by show 2 * 0 + _ ≤ _; exact Nat.le_of_eq rfl) (hb hby at_12) (fun _ _ => ⟨rfl, e2, (by decide : 1 + 0 ≤ _), (by decide : 6 + 0 ≤ _)⟩)
  dsimp only [Pt.U, Pt.locs, Pt.cells, Pt.slots] at X5 l5 y5 z5 st5 hQ5
  subst y5 z5
  obtain ⟨rfl, rfl, e5⟩ := hQ5
  have X5' : Stand p l e room_1 s m #[(.long q0), (.int p1), (.int p2), (.int p3)] below meth c T5 [] 1 6 := by rw [show L5 = [] from by rw [l5]; first | rfl | exact List.append_nil _] at X5; exact X5
  obtain ⟨v6, hv6⟩ : ∃ z : Int32, z = (own_F1 q0 p1 (0 : Int32)) := ⟨_, rfl⟩
  rw [← hv6] at st5
  obtain ⟨T7, h7, L7, X7, N7, e7, K7, V7, st7⟩ := own_bastoreB X5' hx hZ N0 e5 V2 (j := (0 : Int32)) (own_in (m := 6) rfl (by decide)) g_b2 (g := (mkF m 15 #[.val (.long q0), .second, .val (.int p1), .val (.int p2), .val (.int p3), .val (.ref b2), .unset, .unset, .unset, .unset] [(.int v6), (.int (0 : Int32)), (.ref b2)])) rfl rfl (hb hby at_15)
  have V7 : own_IA Z h7 b2 .byte ([(nar .byte v6), (0 : Int32), (0 : Int32), (0 : Int32), (0 : Int32), (0 : Int32)] : List Int32) := V7
  have Zp8 : n0 ≤ h7.size := Nat.le_trans Zp3 K7.1
  have st9 : ∀ t, Steps p.tables e below (T7.setTop (mkF m 22 #[.val (.long q0), .second, .val (.int p1), .val (.int p2), .val (.int p3), .val (.ref b2), .unset, .unset, .unset, .unset] [(.int (1 : Int32)), (.int p1), (.long q0), (.int (1 : Int32)), (.ref b2)])) t → Steps p.tables e below (T7.setTop (mkF m 16 #[.val (.long q0), .second, .val (.int p1), .val (.int p2), .val (.int p3), .val (.ref b2), .unset, .unset, .unset, .unset] [])) t := by
    intro t k
    show Steps p.tables e below (T7.setTop (mkF m 16 #[.val (.long q0), .second, .val (.int p1), .val (.int p2), .val (.int p3), .val (.ref b2), .unset, .unset, .unset, .unset] [])) _
    refine XS.aload X7.here hx rfl (hb hby at_16) rfl rfl ?_
    show Steps p.tables e below (T7.setTop (mkF m 18 #[.val (.long q0), .second, .val (.int p1), .val (.int p2), .val (.int p3), .val (.ref b2), .unset, .unset, .unset, .unset] [(.ref b2)])) _
    refine XS.iconst X7.here hx rfl (hb hby at_18) ?_
    show Steps p.tables e below (T7.setTop (mkF m 19 #[.val (.long q0), .second, .val (.int p1), .val (.int p2), .val (.int p3), .val (.ref b2), .unset, .unset, .unset, .unset] [(.int (1 : Int32)), (.ref b2)])) _
    refine XS.lloadN X7.here hx rfl (hb hby at_19) rfl ?_
    show Steps p.tables e below (T7.setTop (mkF m 20 #[.val (.long q0), .second, .val (.int p1), .val (.int p2), .val (.int p3), .val (.ref b2), .unset, .unset, .unset, .unset] [(.long q0), (.int (1 : Int32)), (.ref b2)])) _
    refine XS.iloadN X7.here hx rfl (hb hby at_20) rfl ?_
    show Steps p.tables e below (T7.setTop (mkF m 21 #[.val (.long q0), .second, .val (.int p1), .val (.int p2), .val (.int p3), .val (.ref b2), .unset, .unset, .unset, .unset] [(.int p1), (.long q0), (.int (1 : Int32)), (.ref b2)])) _
    refine XS.iconst X7.here hx rfl (hb hby at_21) ?_
    exact k
  obtain ⟨_, _, ⟨T10, L10, k10, n10⟩, -, X10, ⟨Lc10, hQ10, l10, y10, z10⟩, st10⟩ := Jvm.LawKit.callS X7 hx (y := (⟨"com/example/kazalo/kazalo/records/RecordNumberPinLaw", "drawn", "(JII)B"⟩ : MethodName)) hown (mvT hZ (hw _ (List.mem_of_getElem? (i := 1) rfl))) (mvT hZ (hw _ (List.mem_of_getElem? (i := 2) rfl))) (mvT hZ (hw _ (List.mem_of_getElem? (i := 3) rfl))) (mvT hZ (hw _ (List.mem_of_getElem? (i := 4) rfl))) (by decide) (backOf (W := 2) (own_rm1 l Z a0 hw [] q0 p1 (1 : Int32) h7) hZ (hw _ (List.mem_of_getElem? (i := 4) rfl)) (hw _ (List.mem_of_getElem? (i := 3) rfl)) (by decide) (by decide)) (g := (mkF m 22 #[.val (.long q0), .second, .val (.int p1), .val (.int p2), .val (.int p3), .val (.ref b2), .unset, .unset, .unset, .unset] [(.int (1 : Int32)), (.int p1), (.long q0), (.int (1 : Int32)), (.ref b2)])) rfl (by rw [hml]; rfl) (argsL := [(.long q0), (.int p1), (.int (1 : Int32))]) (rest := [(.int (1 : Int32)), (.ref b2)]) (lenOf own_pd2 rfl) rfl (by show 2 * 0 + _ ≤ _; exact Nat.le_of_eq rfl) (hb hby at_22) (fun _ _ => ⟨rfl, e7, (by decide : 1 + 0 ≤ _), (by decide : 6 + 0 ≤ _)⟩)
  dsimp only [Pt.U, Pt.locs, Pt.cells, Pt.slots] at X10 l10 y10 z10 st10 hQ10
  subst y10 z10
  obtain ⟨rfl, rfl, e10⟩ := hQ10
  have X10' : Stand p l e room_1 s m #[(.long q0), (.int p1), (.int p2), (.int p3)] below meth c T10 L7 1 6 := by rw [show L10 = L7 from by rw [l10]; first | rfl | exact List.append_nil _] at X10; exact X10
  obtain ⟨v11, hv11⟩ : ∃ z : Int32, z = (own_F1 q0 p1 (1 : Int32)) := ⟨_, rfl⟩
  rw [← hv11] at st10
  obtain ⟨T12, h12, L12, X12, N12, e12, K12, V12, st12⟩ := own_bastoreB X10' hx hZ N7 e10 V7 (j := (1 : Int32)) (own_in (m := 6) rfl (by decide)) g_b2 (g := (mkF m 25 #[.val (.long q0), .second, .val (.int p1), .val (.int p2), .val (.int p3), .val (.ref b2), .unset, .unset, .unset, .unset] [(.int v11), (.int (1 : Int32)), (.ref b2)])) rfl rfl (hb hby at_25)
  have V12 : own_IA Z h12 b2 .byte ([(nar .byte v6), (nar .byte v11), (0 : Int32), (0 : Int32), (0 : Int32), (0 : Int32)] : List Int32) := V12
  have Zp13 : n0 ≤ h12.size := Nat.le_trans Zp8 K12.1
  have st14 : ∀ t, Steps p.tables e below (T12.setTop (mkF m 32 #[.val (.long q0), .second, .val (.int p1), .val (.int p2), .val (.int p3), .val (.ref b2), .unset, .unset, .unset, .unset] [(.int (2 : Int32)), (.int p1), (.long q0), (.int (2 : Int32)), (.ref b2)])) t → Steps p.tables e below (T12.setTop (mkF m 26 #[.val (.long q0), .second, .val (.int p1), .val (.int p2), .val (.int p3), .val (.ref b2), .unset, .unset, .unset, .unset] [])) t := by
    intro t k
    show Steps p.tables e below (T12.setTop (mkF m 26 #[.val (.long q0), .second, .val (.int p1), .val (.int p2), .val (.int p3), .val (.ref b2), .unset, .unset, .unset, .unset] [])) _
    refine XS.aload X12.here hx rfl (hb hby at_26) rfl rfl ?_
    show Steps p.tables e below (T12.setTop (mkF m 28 #[.val (.long q0), .second, .val (.int p1), .val (.int p2), .val (.int p3), .val (.ref b2), .unset, .unset, .unset, .unset] [(.ref b2)])) _
    refine XS.iconst X12.here hx rfl (hb hby at_28) ?_
    show Steps p.tables e below (T12.setTop (mkF m 29 #[.val (.long q0), .second, .val (.int p1), .val (.int p2), .val (.int p3), .val (.ref b2), .unset, .unset, .unset, .unset] [(.int (2 : Int32)), (.ref b2)])) _
    refine XS.lloadN X12.here hx rfl (hb hby at_29) rfl ?_
    show Steps p.tables e below (T12.setTop (mkF m 30 #[.val (.long q0), .second, .val (.int p1), .val (.int p2), .val (.int p3), .val (.ref b2), .unset, .unset, .unset, .unset] [(.long q0), (.int (2 : Int32)), (.ref b2)])) _
    refine XS.iloadN X12.here hx rfl (hb hby at_30) rfl ?_
    show Steps p.tables e below (T12.setTop (mkF m 31 #[.val (.long q0), .second, .val (.int p1), .val (.int p2), .val (.int p3), .val (.ref b2), .unset, .unset, .unset, .unset] [(.int p1), (.long q0), (.int (2 : Int32)), (.ref b2)])) _
    refine XS.iconst X12.here hx rfl (hb hby at_31) ?_
    exact k
  obtain ⟨_, _, ⟨T15, L15, k15, n15⟩, -, X15, ⟨Lc15, hQ15, l15, y15, z15⟩, st15⟩ := Jvm.LawKit.callS X12 hx (y := (⟨"com/example/kazalo/kazalo/records/RecordNumberPinLaw", "drawn", "(JII)B"⟩ : MethodName)) hown (mvT hZ (hw _ (List.mem_of_getElem? (i := 1) rfl))) (mvT hZ (hw _ (List.mem_of_getElem? (i := 2) rfl))) (mvT hZ (hw _ (List.mem_of_getElem? (i := 3) rfl))) (mvT hZ (hw _ (List.mem_of_getElem? (i := 4) rfl))) (by decide) (backOf (W := 2) (own_rm1 l Z a0 hw [] q0 p1 (2 : Int32) h12) hZ (hw _ (List.mem_of_getElem? (i := 4) rfl)) (hw _ (List.mem_of_getElem? (i := 3) rfl)) (by decide) (by decide)) (g := (mkF m 32 #[.val (.long q0), .second, .val (.int p1), .val (.int p2), .val (.int p3), .val (.ref b2), .unset, .unset, .unset, .unset] [(.int (2 : Int32)), (.int p1), (.long q0), (.int (2 : Int32)), (.ref b2)])) rfl (by rw [hml]; rfl) (argsL := [(.long q0), (.int p1), (.int (2 : Int32))]) (rest := [(.int (2 : Int32)), (.ref b2)]) (lenOf own_pd2 rfl) rfl (by show 2 * 0 + _ ≤ _; exact Nat.le_of_eq rfl) (hb hby at_32) (fun _ _ => ⟨rfl, e12, (by decide : 1 + 0 ≤ _), (by decide : 6 + 0 ≤ _)⟩)
  dsimp only [Pt.U, Pt.locs, Pt.cells, Pt.slots] at X15 l15 y15 z15 st15 hQ15
  subst y15 z15
  obtain ⟨rfl, rfl, e15⟩ := hQ15
  have X15' : Stand p l e room_1 s m #[(.long q0), (.int p1), (.int p2), (.int p3)] below meth c T15 L12 1 6 := by rw [show L15 = L12 from by rw [l15]; first | rfl | exact List.append_nil _] at X15; exact X15
  obtain ⟨v16, hv16⟩ : ∃ z : Int32, z = (own_F1 q0 p1 (2 : Int32)) := ⟨_, rfl⟩
  rw [← hv16] at st15
  obtain ⟨T17, h17, L17, X17, N17, e17, K17, V17, st17⟩ := own_bastoreB X15' hx hZ N12 e15 V12 (j := (2 : Int32)) (own_in (m := 6) rfl (by decide)) g_b2 (g := (mkF m 35 #[.val (.long q0), .second, .val (.int p1), .val (.int p2), .val (.int p3), .val (.ref b2), .unset, .unset, .unset, .unset] [(.int v16), (.int (2 : Int32)), (.ref b2)])) rfl rfl (hb hby at_35)
  have V17 : own_IA Z h17 b2 .byte ([(nar .byte v6), (nar .byte v11), (nar .byte v16), (0 : Int32), (0 : Int32), (0 : Int32)] : List Int32) := V17
  have Zp18 : n0 ≤ h17.size := Nat.le_trans Zp13 K17.1
  have st19 : ∀ t, Steps p.tables e below (T17.setTop (mkF m 42 #[.val (.long q0), .second, .val (.int p1), .val (.int p2), .val (.int p3), .val (.ref b2), .unset, .unset, .unset, .unset] [(.int (3 : Int32)), (.int p1), (.long q0), (.int (3 : Int32)), (.ref b2)])) t → Steps p.tables e below (T17.setTop (mkF m 36 #[.val (.long q0), .second, .val (.int p1), .val (.int p2), .val (.int p3), .val (.ref b2), .unset, .unset, .unset, .unset] [])) t := by
    intro t k
    show Steps p.tables e below (T17.setTop (mkF m 36 #[.val (.long q0), .second, .val (.int p1), .val (.int p2), .val (.int p3), .val (.ref b2), .unset, .unset, .unset, .unset] [])) _
    refine XS.aload X17.here hx rfl (hb hby at_36) rfl rfl ?_
    show Steps p.tables e below (T17.setTop (mkF m 38 #[.val (.long q0), .second, .val (.int p1), .val (.int p2), .val (.int p3), .val (.ref b2), .unset, .unset, .unset, .unset] [(.ref b2)])) _
    refine XS.iconst X17.here hx rfl (hb hby at_38) ?_
    show Steps p.tables e below (T17.setTop (mkF m 39 #[.val (.long q0), .second, .val (.int p1), .val (.int p2), .val (.int p3), .val (.ref b2), .unset, .unset, .unset, .unset] [(.int (3 : Int32)), (.ref b2)])) _
    refine XS.lloadN X17.here hx rfl (hb hby at_39) rfl ?_
    show Steps p.tables e below (T17.setTop (mkF m 40 #[.val (.long q0), .second, .val (.int p1), .val (.int p2), .val (.int p3), .val (.ref b2), .unset, .unset, .unset, .unset] [(.long q0), (.int (3 : Int32)), (.ref b2)])) _
    refine XS.iloadN X17.here hx rfl (hb hby at_40) rfl ?_
    show Steps p.tables e below (T17.setTop (mkF m 41 #[.val (.long q0), .second, .val (.int p1), .val (.int p2), .val (.int p3), .val (.ref b2), .unset, .unset, .unset, .unset] [(.int p1), (.long q0), (.int (3 : Int32)), (.ref b2)])) _
    refine XS.iconst X17.here hx rfl (hb hby at_41) ?_
    exact k
  obtain ⟨_, _, ⟨T20, L20, k20, n20⟩, -, X20, ⟨Lc20, hQ20, l20, y20, z20⟩, st20⟩ := Jvm.LawKit.callS X17 hx (y := (⟨"com/example/kazalo/kazalo/records/RecordNumberPinLaw", "drawn", "(JII)B"⟩ : MethodName)) hown (mvT hZ (hw _ (List.mem_of_getElem? (i := 1) rfl))) (mvT hZ (hw _ (List.mem_of_getElem? (i := 2) rfl))) (mvT hZ (hw _ (List.mem_of_getElem? (i := 3) rfl))) (mvT hZ (hw _ (List.mem_of_getElem? (i := 4) rfl))) (by decide) (backOf (W := 2) (own_rm1 l Z a0 hw [] q0 p1 (3 : Int32) h17) hZ (hw _ (List.mem_of_getElem? (i := 4) rfl)) (hw _ (List.mem_of_getElem? (i := 3) rfl)) (by decide) (by decide)) (g := (mkF m 42 #[.val (.long q0), .second, .val (.int p1), .val (.int p2), .val (.int p3), .val (.ref b2), .unset, .unset, .unset, .unset] [(.int (3 : Int32)), (.int p1), (.long q0), (.int (3 : Int32)), (.ref b2)])) rfl (by rw [hml]; rfl) (argsL := [(.long q0), (.int p1), (.int (3 : Int32))]) (rest := [(.int (3 : Int32)), (.ref b2)]) (lenOf own_pd2 rfl) rfl (by show 2 * 0 + _ ≤ _; exact Nat.le_of_eq rfl) (hb hby at_42) (fun _ _ => ⟨rfl, e17, (by decide : 1 + 0 ≤ _), (by decide : 6 + 0 ≤ _)⟩)
  dsimp only [Pt.U, Pt.locs, Pt.cells, Pt.slots] at X20 l20 y20 z20 st20 hQ20
  subst y20 z20
  obtain ⟨rfl, rfl, e20⟩ := hQ20
  have X20' : Stand p l e room_1 s m #[(.long q0), (.int p1), (.int p2), (.int p3)] below meth c T20 L17 1 6 := by rw [show L20 = L17 from by rw [l20]; first | rfl | exact List.append_nil _] at X20; exact X20
  obtain ⟨v21, hv21⟩ : ∃ z : Int32, z = (own_F1 q0 p1 (3 : Int32)) := ⟨_, rfl⟩
  rw [← hv21] at st20
  obtain ⟨T22, h22, L22, X22, N22, e22, K22, V22, st22⟩ := own_bastoreB X20' hx hZ N17 e20 V17 (j := (3 : Int32)) (own_in (m := 6) rfl (by decide)) g_b2 (g := (mkF m 45 #[.val (.long q0), .second, .val (.int p1), .val (.int p2), .val (.int p3), .val (.ref b2), .unset, .unset, .unset, .unset] [(.int v21), (.int (3 : Int32)), (.ref b2)])) rfl rfl (hb hby at_45)
  have V22 : own_IA Z h22 b2 .byte ([(nar .byte v6), (nar .byte v11), (nar .byte v16), (nar .byte v21), (0 : Int32), (0 : Int32)] : List Int32) := V22
  have Zp23 : n0 ≤ h22.size := Nat.le_trans Zp18 K22.1
  have st24 : ∀ t, Steps p.tables e below (T22.setTop (mkF m 52 #[.val (.long q0), .second, .val (.int p1), .val (.int p2), .val (.int p3), .val (.ref b2), .unset, .unset, .unset, .unset] [(.int (4 : Int32)), (.int p1), (.long q0), (.int (4 : Int32)), (.ref b2)])) t → Steps p.tables e below (T22.setTop (mkF m 46 #[.val (.long q0), .second, .val (.int p1), .val (.int p2), .val (.int p3), .val (.ref b2), .unset, .unset, .unset, .unset] [])) t := by
    intro t k
    show Steps p.tables e below (T22.setTop (mkF m 46 #[.val (.long q0), .second, .val (.int p1), .val (.int p2), .val (.int p3), .val (.ref b2), .unset, .unset, .unset, .unset] [])) _
    refine XS.aload X22.here hx rfl (hb hby at_46) rfl rfl ?_
    show Steps p.tables e below (T22.setTop (mkF m 48 #[.val (.long q0), .second, .val (.int p1), .val (.int p2), .val (.int p3), .val (.ref b2), .unset, .unset, .unset, .unset] [(.ref b2)])) _
    refine XS.iconst X22.here hx rfl (hb hby at_48) ?_
    show Steps p.tables e below (T22.setTop (mkF m 49 #[.val (.long q0), .second, .val (.int p1), .val (.int p2), .val (.int p3), .val (.ref b2), .unset, .unset, .unset, .unset] [(.int (4 : Int32)), (.ref b2)])) _
    refine XS.lloadN X22.here hx rfl (hb hby at_49) rfl ?_
    show Steps p.tables e below (T22.setTop (mkF m 50 #[.val (.long q0), .second, .val (.int p1), .val (.int p2), .val (.int p3), .val (.ref b2), .unset, .unset, .unset, .unset] [(.long q0), (.int (4 : Int32)), (.ref b2)])) _
    refine XS.iloadN X22.here hx rfl (hb hby at_50) rfl ?_
    show Steps p.tables e below (T22.setTop (mkF m 51 #[.val (.long q0), .second, .val (.int p1), .val (.int p2), .val (.int p3), .val (.ref b2), .unset, .unset, .unset, .unset] [(.int p1), (.long q0), (.int (4 : Int32)), (.ref b2)])) _
    refine XS.iconst X22.here hx rfl (hb hby at_51) ?_
    exact k
  obtain ⟨_, _, ⟨T25, L25, k25, n25⟩, -, X25, ⟨Lc25, hQ25, l25, y25, z25⟩, st25⟩ := Jvm.LawKit.callS X22 hx (y := (⟨"com/example/kazalo/kazalo/records/RecordNumberPinLaw", "drawn", "(JII)B"⟩ : MethodName)) hown (mvT hZ (hw _ (List.mem_of_getElem? (i := 1) rfl))) (mvT hZ (hw _ (List.mem_of_getElem? (i := 2) rfl))) (mvT hZ (hw _ (List.mem_of_getElem? (i := 3) rfl))) (mvT hZ (hw _ (List.mem_of_getElem? (i := 4) rfl))) (by decide) (backOf (W := 2) (own_rm1 l Z a0 hw [] q0 p1 (4 : Int32) h22) hZ (hw _ (List.mem_of_getElem? (i := 4) rfl)) (hw _ (List.mem_of_getElem? (i := 3) rfl)) (by decide) (by decide)) (g := (mkF m 52 #[.val (.long q0), .second, .val (.int p1), .val (.int p2), .val (.int p3), .val (.ref b2), .unset, .unset, .unset, .unset] [(.int (4 : Int32)), (.int p1), (.long q0), (.int (4 : Int32)), (.ref b2)])) rfl (by rw [hml]; rfl) (argsL := [(.long q0), (.int p1), (.int (4 : Int32))]) (rest := [(.int (4 : Int32)), (.ref b2)]) (lenOf own_pd2 rfl) rfl (by show 2 * 0 + _ ≤ _; exact Nat.le_of_eq rfl) (hb hby at_52) (fun _ _ => ⟨rfl, e22, (by decide : 1 + 0 ≤ _), (by decide : 6 + 0 ≤ _)⟩)
  dsimp only [Pt.U, Pt.locs, Pt.cells, Pt.slots] at X25 l25 y25 z25 st25 hQ25
  subst y25 z25
  obtain ⟨rfl, rfl, e25⟩ := hQ25
  have X25' : Stand p l e room_1 s m #[(.long q0), (.int p1), (.int p2), (.int p3)] below meth c T25 L22 1 6 := by rw [show L25 = L22 from by rw [l25]; first | rfl | exact List.append_nil _] at X25; exact X25
  obtain ⟨v26, hv26⟩ : ∃ z : Int32, z = (own_F1 q0 p1 (4 : Int32)) := ⟨_, rfl⟩
  rw [← hv26] at st25
  obtain ⟨T27, h27, L27, X27, N27, e27, K27, V27, st27⟩ := own_bastoreB X25' hx hZ N22 e25 V22 (j := (4 : Int32)) (own_in (m := 6) rfl (by decide)) g_b2 (g := (mkF m 55 #[.val (.long q0), .second, .val (.int p1), .val (.int p2), .val (.int p3), .val (.ref b2), .unset, .unset, .unset, .unset] [(.int v26), (.int (4 : Int32)), (.ref b2)])) rfl rfl (hb hby at_55)
  have V27 : own_IA Z h27 b2 .byte ([(nar .byte v6), (nar .byte v11), (nar .byte v16), (nar .byte v21), (nar .byte v26), (0 : Int32)] : List Int32) := V27
  have Zp28 : n0 ≤ h27.size := Nat.le_trans Zp23 K27.1
  have st29 : ∀ t, Steps p.tables e below (T27.setTop (mkF m 62 #[.val (.long q0), .second, .val (.int p1), .val (.int p2), .val (.int p3), .val (.ref b2), .unset, .unset, .unset, .unset] [(.int (5 : Int32)), (.int p1), (.long q0), (.int (5 : Int32)), (.ref b2)])) t → Steps p.tables e below (T27.setTop (mkF m 56 #[.val (.long q0), .second, .val (.int p1), .val (.int p2), .val (.int p3), .val (.ref b2), .unset, .unset, .unset, .unset] [])) t := by
    intro t k
    show Steps p.tables e below (T27.setTop (mkF m 56 #[.val (.long q0), .second, .val (.int p1), .val (.int p2), .val (.int p3), .val (.ref b2), .unset, .unset, .unset, .unset] [])) _
    refine XS.aload X27.here hx rfl (hb hby at_56) rfl rfl ?_
    show Steps p.tables e below (T27.setTop (mkF m 58 #[.val (.long q0), .second, .val (.int p1), .val (.int p2), .val (.int p3), .val (.ref b2), .unset, .unset, .unset, .unset] [(.ref b2)])) _
    refine XS.iconst X27.here hx rfl (hb hby at_58) ?_
    show Steps p.tables e below (T27.setTop (mkF m 59 #[.val (.long q0), .second, .val (.int p1), .val (.int p2), .val (.int p3), .val (.ref b2), .unset, .unset, .unset, .unset] [(.int (5 : Int32)), (.ref b2)])) _
    refine XS.lloadN X27.here hx rfl (hb hby at_59) rfl ?_
    show Steps p.tables e below (T27.setTop (mkF m 60 #[.val (.long q0), .second, .val (.int p1), .val (.int p2), .val (.int p3), .val (.ref b2), .unset, .unset, .unset, .unset] [(.long q0), (.int (5 : Int32)), (.ref b2)])) _
    refine XS.iloadN X27.here hx rfl (hb hby at_60) rfl ?_
    show Steps p.tables e below (T27.setTop (mkF m 61 #[.val (.long q0), .second, .val (.int p1), .val (.int p2), .val (.int p3), .val (.ref b2), .unset, .unset, .unset, .unset] [(.int p1), (.long q0), (.int (5 : Int32)), (.ref b2)])) _
    refine XS.iconst X27.here hx rfl (hb hby at_61) ?_
    exact k
  obtain ⟨_, _, ⟨T30, L30, k30, n30⟩, -, X30, ⟨Lc30, hQ30, l30, y30, z30⟩, st30⟩ := Jvm.LawKit.callS X27 hx (y := (⟨"com/example/kazalo/kazalo/records/RecordNumberPinLaw", "drawn", "(JII)B"⟩ : MethodName)) hown (mvT hZ (hw _ (List.mem_of_getElem? (i := 1) rfl))) (mvT hZ (hw _ (List.mem_of_getElem? (i := 2) rfl))) (mvT hZ (hw _ (List.mem_of_getElem? (i := 3) rfl))) (mvT hZ (hw _ (List.mem_of_getElem? (i := 4) rfl))) (by decide) (backOf (W := 2) (own_rm1 l Z a0 hw [] q0 p1 (5 : Int32) h27) hZ (hw _ (List.mem_of_getElem? (i := 4) rfl)) (hw _ (List.mem_of_getElem? (i := 3) rfl)) (by decide) (by decide)) (g := (mkF m 62 #[.val (.long q0), .second, .val (.int p1), .val (.int p2), .val (.int p3), .val (.ref b2), .unset, .unset, .unset, .unset] [(.int (5 : Int32)), (.int p1), (.long q0), (.int (5 : Int32)), (.ref b2)])) rfl (by rw [hml]; rfl) (argsL := [(.long q0), (.int p1), (.int (5 : Int32))]) (rest := [(.int (5 : Int32)), (.ref b2)]) (lenOf own_pd2 rfl) rfl (by show 2 * 0 + _ ≤ _; exact Nat.le_of_eq rfl) (hb hby at_62) (fun _ _ => ⟨rfl, e27, (by decide : 1 + 0 ≤ _), (by decide : 6 + 0 ≤ _)⟩)
  dsimp only [Pt.U, Pt.locs, Pt.cells, Pt.slots] at X30 l30 y30 z30 st30 hQ30
  subst y30 z30
  obtain ⟨rfl, rfl, e30⟩ := hQ30
  have X30' : Stand p l e room_1 s m #[(.long q0), (.int p1), (.int p2), (.int p3)] below meth c T30 L27 1 6 := by rw [show L30 = L27 from by rw [l30]; first | rfl | exact List.append_nil _] at X30; exact X30
  obtain ⟨v31, hv31⟩ : ∃ z : Int32, z = (own_F1 q0 p1 (5 : Int32)) := ⟨_, rfl⟩
  rw [← hv31] at st30
  obtain ⟨T32, h32, L32, X32, N32, e32, K32, V32, st32⟩ := own_bastoreB X30' hx hZ N27 e30 V27 (j := (5 : Int32)) (own_in (m := 6) rfl (by decide)) g_b2 (g := (mkF m 65 #[.val (.long q0), .second, .val (.int p1), .val (.int p2), .val (.int p3), .val (.ref b2), .unset, .unset, .unset, .unset] [(.int v31), (.int (5 : Int32)), (.ref b2)])) rfl rfl (hb hby at_65)
  have V32 : own_IA Z h32 b2 .byte ([(nar .byte v6), (nar .byte v11), (nar .byte v16), (nar .byte v21), (nar .byte v26), (nar .byte v31)] : List Int32) := V32
  have Zp33 : n0 ≤ h32.size := Nat.le_trans Zp28 K32.1
  obtain ⟨v34, hv34⟩ : ∃ z : Int32, z = ((p2 &&& (2147483647 : Int32)) - ((p2 &&& (2147483647 : Int32)) / (7 : Int32)) * (7 : Int32)) := ⟨_, rfl⟩
  have st35 : ∀ t, Steps p.tables e below (T32.setTop (mkF m 75 #[.val (.long q0), .second, .val (.int p1), .val (.int p2), .val (.int p3), .val (.ref b2), .val (.int v34), .unset, .unset, .unset] [])) t → Steps p.tables e below (T32.setTop (mkF m 66 #[.val (.long q0), .second, .val (.int p1), .val (.int p2), .val (.int p3), .val (.ref b2), .unset, .unset, .unset, .unset] [])) t := by
    rw [hv34]
    intro t k
    show Steps p.tables e below (T32.setTop (mkF m 66 #[.val (.long q0), .second, .val (.int p1), .val (.int p2), .val (.int p3), .val (.ref b2), .unset, .unset, .unset, .unset] [])) _
    refine XS.iloadN X32.here hx rfl (hb hby at_66) rfl ?_
    show Steps p.tables e below (T32.setTop (mkF m 67 #[.val (.long q0), .second, .val (.int p1), .val (.int p2), .val (.int p3), .val (.ref b2), .unset, .unset, .unset, .unset] [(.int p2)])) _
    refine X32.ldcInt hx hown (mvT hZ (hw _ (List.mem_of_getElem? (i := 6) rfl))) (g := (mkF m 67 #[.val (.long q0), .second, .val (.int p1), .val (.int p2), .val (.int p3), .val (.ref b2), .unset, .unset, .unset, .unset] [(.int p2)])) rfl (hb hby at_67) _ ?_
    show Steps p.tables e below (T32.setTop (mkF m 69 #[.val (.long q0), .second, .val (.int p1), .val (.int p2), .val (.int p3), .val (.ref b2), .unset, .unset, .unset, .unset] [(.int (2147483647 : Int32)), (.int p2)])) _
    refine XS.iand X32.here hx rfl (hb hby at_69) rfl ?_
    show Steps p.tables e below (T32.setTop (mkF m 70 #[.val (.long q0), .second, .val (.int p1), .val (.int p2), .val (.int p3), .val (.ref b2), .unset, .unset, .unset, .unset] [(.int (p2 &&& (2147483647 : Int32)))])) _
    refine XS.bipush X32.here hx rfl (hb hby at_70) ?_
    show Steps p.tables e below (T32.setTop (mkF m 72 #[.val (.long q0), .second, .val (.int p1), .val (.int p2), .val (.int p3), .val (.ref b2), .unset, .unset, .unset, .unset] [(.int (7 : Int32)), (.int (p2 &&& (2147483647 : Int32)))])) _
    refine XS.irem X32.here hx rfl (hb hby at_72) rfl (by decide) ?_
    show Steps p.tables e below (T32.setTop (mkF m 73 #[.val (.long q0), .second, .val (.int p1), .val (.int p2), .val (.int p3), .val (.ref b2), .unset, .unset, .unset, .unset] [(.int ((p2 &&& (2147483647 : Int32)) - ((p2 &&& (2147483647 : Int32)) / (7 : Int32)) * (7 : Int32)))])) _
    refine XS.istore X32.here hx rfl (hb hby at_73) rfl (l' := #[.val (.long q0), .second, .val (.int p1), .val (.int p2), .val (.int p3), .val (.ref b2), .val (.int ((p2 &&& (2147483647 : Int32)) - ((p2 &&& (2147483647 : Int32)) / (7 : Int32)) * (7 : Int32))), .unset, .unset, .unset]) rfl ?_
    exact k
  obtain ⟨v36, hv36⟩ : ∃ z : Int32, z = ((p3 &&& (2147483647 : Int32)) - ((p3 &&& (2147483647 : Int32)) / ((7 : Int32) - v34)) * ((7 : Int32) - v34)) := ⟨_, rfl⟩
  have st37 : ∀ t, Steps p.tables e below (T32.setTop (mkF m 88 #[.val (.long q0), .second, .val (.int p1), .val (.int p2), .val (.int p3), .val (.ref b2), .val (.int v34), .val (.int v36), .unset, .unset] [])) t → Steps p.tables e below (T32.setTop (mkF m 75 #[.val (.long q0), .second, .val (.int p1), .val (.int p2), .val (.int p3), .val (.ref b2), .val (.int v34), .unset, .unset, .unset] [])) t := by
    rw [hv36]
    intro t k
    show Steps p.tables e below (T32.setTop (mkF m 75 #[.val (.long q0), .second, .val (.int p1), .val (.int p2), .val (.int p3), .val (.ref b2), .val (.int v34), .unset, .unset, .unset] [])) _
    refine XS.iload X32.here hx rfl (hb hby at_75) rfl ?_
    show Steps p.tables e below (T32.setTop (mkF m 77 #[.val (.long q0), .second, .val (.int p1), .val (.int p2), .val (.int p3), .val (.ref b2), .val (.int v34), .unset, .unset, .unset] [(.int p3)])) _
    refine X32.ldcInt hx hown (mvT hZ (hw _ (List.mem_of_getElem? (i := 6) rfl))) (g := (mkF m 77 #[.val (.long q0), .second, .val (.int p1), .val (.int p2), .val (.int p3), .val (.ref b2), .val (.int v34), .unset, .unset, .unset] [(.int p3)])) rfl (hb hby at_77) _ ?_
    show Steps p.tables e below (T32.setTop (mkF m 79 #[.val (.long q0), .second, .val (.int p1), .val (.int p2), .val (.int p3), .val (.ref b2), .val (.int v34), .unset, .unset, .unset] [(.int (2147483647 : Int32)), (.int p3)])) _
    refine XS.iand X32.here hx rfl (hb hby at_79) rfl ?_
    show Steps p.tables e below (T32.setTop (mkF m 80 #[.val (.long q0), .second, .val (.int p1), .val (.int p2), .val (.int p3), .val (.ref b2), .val (.int v34), .unset, .unset, .unset] [(.int (p3 &&& (2147483647 : Int32)))])) _
    refine XS.bipush X32.here hx rfl (hb hby at_80) ?_
    show Steps p.tables e below (T32.setTop (mkF m 82 #[.val (.long q0), .second, .val (.int p1), .val (.int p2), .val (.int p3), .val (.ref b2), .val (.int v34), .unset, .unset, .unset] [(.int (7 : Int32)), (.int (p3 &&& (2147483647 : Int32)))])) _
    refine XS.iload X32.here hx rfl (hb hby at_82) rfl ?_
    show Steps p.tables e below (T32.setTop (mkF m 84 #[.val (.long q0), .second, .val (.int p1), .val (.int p2), .val (.int p3), .val (.ref b2), .val (.int v34), .unset, .unset, .unset] [(.int v34), (.int (7 : Int32)), (.int (p3 &&& (2147483647 : Int32)))])) _
    refine XS.isub X32.here hx rfl (hb hby at_84) rfl ?_
    show Steps p.tables e below (T32.setTop (mkF m 85 #[.val (.long q0), .second, .val (.int p1), .val (.int p2), .val (.int p3), .val (.ref b2), .val (.int v34), .unset, .unset, .unset] [(.int ((7 : Int32) - v34)), (.int (p3 &&& (2147483647 : Int32)))])) _
    refine XS.irem X32.here hx rfl (hb hby at_85) rfl (own_nz hv34) ?_
    show Steps p.tables e below (T32.setTop (mkF m 86 #[.val (.long q0), .second, .val (.int p1), .val (.int p2), .val (.int p3), .val (.ref b2), .val (.int v34), .unset, .unset, .unset] [(.int ((p3 &&& (2147483647 : Int32)) - ((p3 &&& (2147483647 : Int32)) / ((7 : Int32) - v34)) * ((7 : Int32) - v34)))])) _
    refine XS.istore X32.here hx rfl (hb hby at_86) rfl (l' := #[.val (.long q0), .second, .val (.int p1), .val (.int p2), .val (.int p3), .val (.ref b2), .val (.int v34), .val (.int ((p3 &&& (2147483647 : Int32)) - ((p3 &&& (2147483647 : Int32)) / ((7 : Int32) - v34)) * ((7 : Int32) - v34))), .unset, .unset]) rfl ?_
    exact k
  have st38 : ∀ t, Steps p.tables e below (T32.setTop (mkF m 95 #[.val (.long q0), .second, .val (.int p1), .val (.int p2), .val (.int p3), .val (.ref b2), .val (.int v34), .val (.int v36), .unset, .unset] [(.int (0 : Int32)), (.int v36), (.int v34), (.ref b2)])) t → Steps p.tables e below (T32.setTop (mkF m 88 #[.val (.long q0), .second, .val (.int p1), .val (.int p2), .val (.int p3), .val (.ref b2), .val (.int v34), .val (.int v36), .unset, .unset] [])) t := by
    intro t k
    show Steps p.tables e below (T32.setTop (mkF m 88 #[.val (.long q0), .second, .val (.int p1), .val (.int p2), .val (.int p3), .val (.ref b2), .val (.int v34), .val (.int v36), .unset, .unset] [])) _
    refine XS.aload X32.here hx rfl (hb hby at_88) rfl rfl ?_
    show Steps p.tables e below (T32.setTop (mkF m 90 #[.val (.long q0), .second, .val (.int p1), .val (.int p2), .val (.int p3), .val (.ref b2), .val (.int v34), .val (.int v36), .unset, .unset] [(.ref b2)])) _
    refine XS.iload X32.here hx rfl (hb hby at_90) rfl ?_
    show Steps p.tables e below (T32.setTop (mkF m 92 #[.val (.long q0), .second, .val (.int p1), .val (.int p2), .val (.int p3), .val (.ref b2), .val (.int v34), .val (.int v36), .unset, .unset] [(.int v34), (.ref b2)])) _
    refine XS.iload X32.here hx rfl (hb hby at_92) rfl ?_
    show Steps p.tables e below (T32.setTop (mkF m 94 #[.val (.long q0), .second, .val (.int p1), .val (.int p2), .val (.int p3), .val (.ref b2), .val (.int v34), .val (.int v36), .unset, .unset] [(.int v36), (.int v34), (.ref b2)])) _
    refine XS.iconst X32.here hx rfl (hb hby at_94) ?_
    exact k
  obtain ⟨_, _, ⟨T39, L39, k39, n39⟩, -, X39, ⟨Lc39, hQ39, l39, y39, z39⟩, st39⟩ := Jvm.LawKit.callS X32 hx (y := (⟨"com/example/kazalo/kazalo/records/RecordNumberPinLaw", "bad", "([BIII)Z"⟩ : MethodName)) hown (mvT hZ (hw _ (List.mem_of_getElem? (i := 7) rfl))) (mvT hZ (hw _ (List.mem_of_getElem? (i := 8) rfl))) (mvT hZ (hw _ (List.mem_of_getElem? (i := 3) rfl))) (mvT hZ (hw _ (List.mem_of_getElem? (i := 9) rfl))) (by decide) (backOf (W := 0) (own_rm2 l Z a0 hw [] b2 v34 v36 (0 : Int32) ([(nar .byte v6), (nar .byte v11), (nar .byte v16), (nar .byte v21), (nar .byte v26), (nar .byte v31)] : List Int32) h32 n0 Zp33 V32 (own_hb hv34 hv36 (by decide))) hZ (hw _ (List.mem_of_getElem? (i := 9) rfl)) (hw _ (List.mem_of_getElem? (i := 3) rfl)) (by decide) (by decide)) (g := (mkF m 95 #[.val (.long q0), .second, .val (.int p1), .val (.int p2), .val (.int p3), .val (.ref b2), .val (.int v34), .val (.int v36), .unset, .unset] [(.int (0 : Int32)), (.int v36), (.int v34), (.ref b2)])) rfl (by rw [hml]; rfl) (argsL := [(.ref b2), (.int v34), (.int v36), (.int (0 : Int32))]) (rest := []) (lenOf own_pd3 rfl) rfl (by show 2 * 0 + _ ≤ _; exact Nat.le_of_eq rfl) (hb hby at_95) (fun _ _ => ⟨rfl, e32, (by decide : 1 + 0 ≤ _), (by decide : 6 + 0 ≤ _)⟩)
  dsimp only [Pt.U, Pt.locs, Pt.cells, Pt.slots] at X39 l39 y39 z39 st39 hQ39
  subst y39 z39
  obtain ⟨rfl, rfl, e39⟩ := hQ39
  have X39' : Stand p l e room_1 s m #[(.long q0), (.int p1), (.int p2), (.int p3)] below meth c T39 L32 1 6 := by rw [show L39 = L32 from by rw [l39]; first | rfl | exact List.append_nil _] at X39; exact X39
  obtain ⟨v40, hv40⟩ : ∃ z : Int32, z = (own_F2 v34 v36 (0 : Int32) ([(nar .byte v6), (nar .byte v11), (nar .byte v16), (nar .byte v21), (nar .byte v26), (nar .byte v31)] : List Int32)) := ⟨_, rfl⟩
  rw [← hv40] at st39
  obtain ⟨v69, hv69⟩ : ∃ z : Int32, z = (if v40 = (0 : Int32) then (if (own_F2 v34 v36 (1 : Int32) ([(nar .byte v6), (nar .byte v11), (nar .byte v16), (nar .byte v21), (nar .byte v26), (nar .byte v31)] : List Int32)) = (0 : Int32) then (if (own_F2 v34 v36 (2 : Int32) ([(nar .byte v6), (nar .byte v11), (nar .byte v16), (nar .byte v21), (nar .byte v26), (nar .byte v31)] : List Int32)) = (0 : Int32) then (if (own_F2 v34 v36 (3 : Int32) ([(nar .byte v6), (nar .byte v11), (nar .byte v16), (nar .byte v21), (nar .byte v26), (nar .byte v31)] : List Int32)) = (0 : Int32) then (if (own_F2 v34 v36 (4 : Int32) ([(nar .byte v6), (nar .byte v11), (nar .byte v16), (nar .byte v21), (nar .byte v26), (nar .byte v31)] : List Int32)) = (0 : Int32) then (if (own_F2 v34 v36 (5 : Int32) ([(nar .byte v6), (nar .byte v11), (nar .byte v16), (nar .byte v21), (nar .byte v26), (nar .byte v31)] : List Int32)) = (0 : Int32) then (0 : Int32) else (1 : Int32)) else (1 : Int32)) else (1 : Int32)) else (1 : Int32)) else (1 : Int32)) else (1 : Int32)) := ⟨_, rfl⟩
  obtain ⟨T70, X70, e70, st70⟩ : ∃ T' : State, Stand p l e room_1 s m #[(.long q0), (.int p1), (.int p2), (.int p3)] below meth c T' L32 1 6 ∧ T'.heap = h32 ∧ ∀ t, Steps p.tables e below (T'.setTop (mkF m 171 #[.val (.long q0), .second, .val (.int p1), .val (.int p2), .val (.int p3), .val (.ref b2), .val (.int v34), .val (.int v36), .unset, .unset] [(.int v69)])) t → Steps p.tables e below (T39.setTop (mkF m 98 #[.val (.long q0), .second, .val (.int p1), .val (.int p2), .val (.int p3), .val (.ref b2), .val (.int v34), .val (.int v36), .unset, .unset] [(.int v40)])) t := by
    rw [hv69]
    by_cases hc98_41 : v40 = (0 : Int32)
    · repeat rw [if_pos hc98_41]
      have st42 : ∀ t, Steps p.tables e below (T39.setTop (mkF m 108 #[.val (.long q0), .second, .val (.int p1), .val (.int p2), .val (.int p3), .val (.ref b2), .val (.int v34), .val (.int v36), .unset, .unset] [(.int (1 : Int32)), (.int v36), (.int v34), (.ref b2)])) t → Steps p.tables e below (T39.setTop (mkF m 98 #[.val (.long q0), .second, .val (.int p1), .val (.int p2), .val (.int p3), .val (.ref b2), .val (.int v34), .val (.int v36), .unset, .unset] [(.int v40)])) t := by
        intro t k
        show Steps p.tables e below (T39.setTop (mkF m 98 #[.val (.long q0), .second, .val (.int p1), .val (.int p2), .val (.int p3), .val (.ref b2), .val (.int v34), .val (.int v36), .unset, .unset] [(.int v40)])) _
        refine XS.ifNo X39'.here hx rfl (hb hby at_98) rfl ((if0 _ _).trans (teq hc98_41).2) ?_
        show Steps p.tables e below (T39.setTop (mkF m 101 #[.val (.long q0), .second, .val (.int p1), .val (.int p2), .val (.int p3), .val (.ref b2), .val (.int v34), .val (.int v36), .unset, .unset] [])) _
        refine XS.aload X39'.here hx rfl (hb hby at_101) rfl rfl ?_
        show Steps p.tables e below (T39.setTop (mkF m 103 #[.val (.long q0), .second, .val (.int p1), .val (.int p2), .val (.int p3), .val (.ref b2), .val (.int v34), .val (.int v36), .unset, .unset] [(.ref b2)])) _
        refine XS.iload X39'.here hx rfl (hb hby at_103) rfl ?_
        show Steps p.tables e below (T39.setTop (mkF m 105 #[.val (.long q0), .second, .val (.int p1), .val (.int p2), .val (.int p3), .val (.ref b2), .val (.int v34), .val (.int v36), .unset, .unset] [(.int v34), (.ref b2)])) _
        refine XS.iload X39'.here hx rfl (hb hby at_105) rfl ?_
        show Steps p.tables e below (T39.setTop (mkF m 107 #[.val (.long q0), .second, .val (.int p1), .val (.int p2), .val (.int p3), .val (.ref b2), .val (.int v34), .val (.int v36), .unset, .unset] [(.int v36), (.int v34), (.ref b2)])) _
        refine XS.iconst X39'.here hx rfl (hb hby at_107) ?_
        exact k
      obtain ⟨_, _, ⟨T43, L43, k43, n43⟩, -, X43, ⟨Lc43, hQ43, l43, y43, z43⟩, st43⟩ := Jvm.LawKit.callS X39' hx (y := (⟨"com/example/kazalo/kazalo/records/RecordNumberPinLaw", "bad", "([BIII)Z"⟩ : MethodName)) hown (mvT hZ (hw _ (List.mem_of_getElem? (i := 7) rfl))) (mvT hZ (hw _ (List.mem_of_getElem? (i := 8) rfl))) (mvT hZ (hw _ (List.mem_of_getElem? (i := 3) rfl))) (mvT hZ (hw _ (List.mem_of_getElem? (i := 9) rfl))) (by decide) (backOf (W := 0) (own_rm2 l Z a0 hw [] b2 v34 v36 (1 : Int32) ([(nar .byte v6), (nar .byte v11), (nar .byte v16), (nar .byte v21), (nar .byte v26), (nar .byte v31)] : List Int32) h32 n0 Zp33 V32 (own_hb hv34 hv36 (by decide))) hZ (hw _ (List.mem_of_getElem? (i := 9) rfl)) (hw _ (List.mem_of_getElem? (i := 3) rfl)) (by decide) (by decide)) (g := (mkF m 108 #[.val (.long q0), .second, .val (.int p1), .val (.int p2), .val (.int p3), .val (.ref b2), .val (.int v34), .val (.int v36), .unset, .unset] [(.int (1 : Int32)), (.int v36), (.int v34), (.ref b2)])) rfl (by rw [hml]; rfl) (argsL := [(.ref b2), (.int v34), (.int v36), (.int (1 : Int32))]) (rest := []) (lenOf own_pd3 rfl) rfl (by show 2 * 0 + _ ≤ _; exact Nat.le_of_eq rfl) (hb hby at_108) (fun _ _ => ⟨rfl, e39, (by decide : 1 + 0 ≤ _), (by decide : 6 + 0 ≤ _)⟩)
      dsimp only [Pt.U, Pt.locs, Pt.cells, Pt.slots] at X43 l43 y43 z43 st43 hQ43
      subst y43 z43
      obtain ⟨rfl, rfl, e43⟩ := hQ43
      have X43' : Stand p l e room_1 s m #[(.long q0), (.int p1), (.int p2), (.int p3)] below meth c T43 L32 1 6 := by rw [show L43 = L32 from by rw [l43]; first | rfl | exact List.append_nil _] at X43; exact X43
      obtain ⟨T67, X67, e67, st67⟩ : ∃ T' : State, Stand p l e room_1 s m #[(.long q0), (.int p1), (.int p2), (.int p3)] below meth c T' L32 1 6 ∧ T'.heap = h32 ∧ ∀ t, Steps p.tables e below (T'.setTop (mkF m 171 #[.val (.long q0), .second, .val (.int p1), .val (.int p2), .val (.int p3), .val (.ref b2), .val (.int v34), .val (.int v36), .unset, .unset] [(.int (if (own_F2 v34 v36 (1 : Int32) ([(nar .byte v6), (nar .byte v11), (nar .byte v16), (nar .byte v21), (nar .byte v26), (nar .byte v31)] : List Int32)) = (0 : Int32) then (if (own_F2 v34 v36 (2 : Int32) ([(nar .byte v6), (nar .byte v11), (nar .byte v16), (nar .byte v21), (nar .byte v26), (nar .byte v31)] : List Int32)) = (0 : Int32) then (if (own_F2 v34 v36 (3 : Int32) ([(nar .byte v6), (nar .byte v11), (nar .byte v16), (nar .byte v21), (nar .byte v26), (nar .byte v31)] : List Int32)) = (0 : Int32) then (if (own_F2 v34 v36 (4 : Int32) ([(nar .byte v6), (nar .byte v11), (nar .byte v16), (nar .byte v21), (nar .byte v26), (nar .byte v31)] : List Int32)) = (0 : Int32) then (if (own_F2 v34 v36 (5 : Int32) ([(nar .byte v6), (nar .byte v11), (nar .byte v16), (nar .byte v21), (nar .byte v26), (nar .byte v31)] : List Int32)) = (0 : Int32) then (0 : Int32) else (1 : Int32)) else (1 : Int32)) else (1 : Int32)) else (1 : Int32)) else (1 : Int32)))])) t → Steps p.tables e below (T43.setTop (mkF m 111 #[.val (.long q0), .second, .val (.int p1), .val (.int p2), .val (.int p3), .val (.ref b2), .val (.int v34), .val (.int v36), .unset, .unset] [(.int (own_F2 v34 v36 (1 : Int32) ([(nar .byte v6), (nar .byte v11), (nar .byte v16), (nar .byte v21), (nar .byte v26), (nar .byte v31)] : List Int32)))])) t := by
        by_cases hc111_44 : (own_F2 v34 v36 (1 : Int32) ([(nar .byte v6), (nar .byte v11), (nar .byte v16), (nar .byte v21), (nar .byte v26), (nar .byte v31)] : List Int32)) = (0 : Int32)
        · repeat rw [if_pos hc111_44]
          have st45 : ∀ t, Steps p.tables e below (T43.setTop (mkF m 121 #[.val (.long q0), .second, .val (.int p1), .val (.int p2), .val (.int p3), .val (.ref b2), .val (.int v34), .val (.int v36), .unset, .unset] [(.int (2 : Int32)), (.int v36), (.int v34), (.ref b2)])) t → Steps p.tables e below (T43.setTop (mkF m 111 #[.val (.long q0), .second, .val (.int p1), .val (.int p2), .val (.int p3), .val (.ref b2), .val (.int v34), .val (.int v36), .unset, .unset] [(.int (own_F2 v34 v36 (1 : Int32) ([(nar .byte v6), (nar .byte v11), (nar .byte v16), (nar .byte v21), (nar .byte v26), (nar .byte v31)] : List Int32)))])) t := by
            intro t k
            show Steps p.tables e below (T43.setTop (mkF m 111 #[.val (.long q0), .second, .val (.int p1), .val (.int p2), .val (.int p3), .val (.ref b2), .val (.int v34), .val (.int v36), .unset, .unset] [(.int (own_F2 v34 v36 (1 : Int32) ([(nar .byte v6), (nar .byte v11), (nar .byte v16), (nar .byte v21), (nar .byte v26), (nar .byte v31)] : List Int32)))])) _
            refine XS.ifNo X43'.here hx rfl (hb hby at_111) rfl ((if0 _ _).trans (teq hc111_44).2) ?_
            show Steps p.tables e below (T43.setTop (mkF m 114 #[.val (.long q0), .second, .val (.int p1), .val (.int p2), .val (.int p3), .val (.ref b2), .val (.int v34), .val (.int v36), .unset, .unset] [])) _
            refine XS.aload X43'.here hx rfl (hb hby at_114) rfl rfl ?_
            show Steps p.tables e below (T43.setTop (mkF m 116 #[.val (.long q0), .second, .val (.int p1), .val (.int p2), .val (.int p3), .val (.ref b2), .val (.int v34), .val (.int v36), .unset, .unset] [(.ref b2)])) _
            refine XS.iload X43'.here hx rfl (hb hby at_116) rfl ?_
            show Steps p.tables e below (T43.setTop (mkF m 118 #[.val (.long q0), .second, .val (.int p1), .val (.int p2), .val (.int p3), .val (.ref b2), .val (.int v34), .val (.int v36), .unset, .unset] [(.int v34), (.ref b2)])) _
            refine XS.iload X43'.here hx rfl (hb hby at_118) rfl ?_
            show Steps p.tables e below (T43.setTop (mkF m 120 #[.val (.long q0), .second, .val (.int p1), .val (.int p2), .val (.int p3), .val (.ref b2), .val (.int v34), .val (.int v36), .unset, .unset] [(.int v36), (.int v34), (.ref b2)])) _
            refine XS.iconst X43'.here hx rfl (hb hby at_120) ?_
            exact k
          obtain ⟨_, _, ⟨T46, L46, k46, n46⟩, -, X46, ⟨Lc46, hQ46, l46, y46, z46⟩, st46⟩ := Jvm.LawKit.callS X43' hx (y := (⟨"com/example/kazalo/kazalo/records/RecordNumberPinLaw", "bad", "([BIII)Z"⟩ : MethodName)) hown (mvT hZ (hw _ (List.mem_of_getElem? (i := 7) rfl))) (mvT hZ (hw _ (List.mem_of_getElem? (i := 8) rfl))) (mvT hZ (hw _ (List.mem_of_getElem? (i := 3) rfl))) (mvT hZ (hw _ (List.mem_of_getElem? (i := 9) rfl))) (by decide) (backOf (W := 0) (own_rm2 l Z a0 hw [] b2 v34 v36 (2 : Int32) ([(nar .byte v6), (nar .byte v11), (nar .byte v16), (nar .byte v21), (nar .byte v26), (nar .byte v31)] : List Int32) h32 n0 Zp33 V32 (own_hb hv34 hv36 (by decide))) hZ (hw _ (List.mem_of_getElem? (i := 9) rfl)) (hw _ (List.mem_of_getElem? (i := 3) rfl)) (by decide) (by decide)) (g := (mkF m 121 #[.val (.long q0), .second, .val (.int p1), .val (.int p2), .val (.int p3), .val (.ref b2), .val (.int v34), .val (.int v36), .unset, .unset] [(.int (2 : Int32)), (.int v36), (.int v34), (.ref b2)])) rfl (by rw [hml]; rfl) (argsL := [(.ref b2), (.int v34), (.int v36), (.int (2 : Int32))]) (rest := []) (lenOf own_pd3 rfl) rfl (by show 2 * 0 + _ ≤ _; exact Nat.le_of_eq rfl) (hb hby at_121) (fun _ _ => ⟨rfl, e43, (by decide : 1 + 0 ≤ _), (by decide : 6 + 0 ≤ _)⟩)
          dsimp only [Pt.U, Pt.locs, Pt.cells, Pt.slots] at X46 l46 y46 z46 st46 hQ46
          subst y46 z46
          obtain ⟨rfl, rfl, e46⟩ := hQ46
          have X46' : Stand p l e room_1 s m #[(.long q0), (.int p1), (.int p2), (.int p3)] below meth c T46 L32 1 6 := by rw [show L46 = L32 from by rw [l46]; first | rfl | exact List.append_nil _] at X46; exact X46
          obtain ⟨T65, X65, e65, st65⟩ : ∃ T' : State, Stand p l e room_1 s m #[(.long q0), (.int p1), (.int p2), (.int p3)] below meth c T' L32 1 6 ∧ T'.heap = h32 ∧ ∀ t, Steps p.tables e below (T'.setTop (mkF m 171 #[.val (.long q0), .second, .val (.int p1), .val (.int p2), .val (.int p3), .val (.ref b2), .val (.int v34), .val (.int v36), .unset, .unset] [(.int (if (own_F2 v34 v36 (2 : Int32) ([(nar .byte v6), (nar .byte v11), (nar .byte v16), (nar .byte v21), (nar .byte v26), (nar .byte v31)] : List Int32)) = (0 : Int32) then (if (own_F2 v34 v36 (3 : Int32) ([(nar .byte v6), (nar .byte v11), (nar .byte v16), (nar .byte v21), (nar .byte v26), (nar .byte v31)] : List Int32)) = (0 : Int32) then (if (own_F2 v34 v36 (4 : Int32) ([(nar .byte v6), (nar .byte v11), (nar .byte v16), (nar .byte v21), (nar .byte v26), (nar .byte v31)] : List Int32)) = (0 : Int32) then (if (own_F2 v34 v36 (5 : Int32) ([(nar .byte v6), (nar .byte v11), (nar .byte v16), (nar .byte v21), (nar .byte v26), (nar .byte v31)] : List Int32)) = (0 : Int32) then (0 : Int32) else (1 : Int32)) else (1 : Int32)) else (1 : Int32)) else (1 : Int32)))])) t → Steps p.tables e below (T46.setTop (mkF m 124 #[.val (.long q0), .second, .val (.int p1), .val (.int p2), .val (.int p3), .val (.ref b2), .val (.int v34), .val (.int v36), .unset, .unset] [(.int (own_F2 v34 v36 (2 : Int32) ([(nar .byte v6), (nar .byte v11), (nar .byte v16), (nar .byte v21), (nar .byte v26), (nar .byte v31)] : List Int32)))])) t := by
            by_cases hc124_47 : (own_F2 v34 v36 (2 : Int32) ([(nar .byte v6), (nar .byte v11), (nar .byte v16), (nar .byte v21), (nar .byte v26), (nar .byte v31)] : List Int32)) = (0 : Int32)
            · repeat rw [if_pos hc124_47]
              have st48 : ∀ t, Steps p.tables e below (T46.setTop (mkF m 134 #[.val (.long q0), .second, .val (.int p1), .val (.int p2), .val (.int p3), .val (.ref b2), .val (.int v34), .val (.int v36), .unset, .unset] [(.int (3 : Int32)), (.int v36), (.int v34), (.ref b2)])) t → Steps p.tables e below (T46.setTop (mkF m 124 #[.val (.long q0), .second, .val (.int p1), .val (.int p2), .val (.int p3), .val (.ref b2), .val (.int v34), .val (.int v36), .unset, .unset] [(.int (own_F2 v34 v36 (2 : Int32) ([(nar .byte v6), (nar .byte v11), (nar .byte v16), (nar .byte v21), (nar .byte v26), (nar .byte v31)] : List Int32)))])) t := by
                intro t k
                show Steps p.tables e below (T46.setTop (mkF m 124 #[.val (.long q0), .second, .val (.int p1), .val (.int p2), .val (.int p3), .val (.ref b2), .val (.int v34), .val (.int v36), .unset, .unset] [(.int (own_F2 v34 v36 (2 : Int32) ([(nar .byte v6), (nar .byte v11), (nar .byte v16), (nar .byte v21), (nar .byte v26), (nar .byte v31)] : List Int32)))])) _
                refine XS.ifNo X46'.here hx rfl (hb hby at_124) rfl ((if0 _ _).trans (teq hc124_47).2) ?_
                show Steps p.tables e below (T46.setTop (mkF m 127 #[.val (.long q0), .second, .val (.int p1), .val (.int p2), .val (.int p3), .val (.ref b2), .val (.int v34), .val (.int v36), .unset, .unset] [])) _
                refine XS.aload X46'.here hx rfl (hb hby at_127) rfl rfl ?_
                show Steps p.tables e below (T46.setTop (mkF m 129 #[.val (.long q0), .second, .val (.int p1), .val (.int p2), .val (.int p3), .val (.ref b2), .val (.int v34), .val (.int v36), .unset, .unset] [(.ref b2)])) _
                refine XS.iload X46'.here hx rfl (hb hby at_129) rfl ?_
                show Steps p.tables e below (T46.setTop (mkF m 131 #[.val (.long q0), .second, .val (.int p1), .val (.int p2), .val (.int p3), .val (.ref b2), .val (.int v34), .val (.int v36), .unset, .unset] [(.int v34), (.ref b2)])) _
                refine XS.iload X46'.here hx rfl (hb hby at_131) rfl ?_
                show Steps p.tables e below (T46.setTop (mkF m 133 #[.val (.long q0), .second, .val (.int p1), .val (.int p2), .val (.int p3), .val (.ref b2), .val (.int v34), .val (.int v36), .unset, .unset] [(.int v36), (.int v34), (.ref b2)])) _
                refine XS.iconst X46'.here hx rfl (hb hby at_133) ?_
                exact k
              obtain ⟨_, _, ⟨T49, L49, k49, n49⟩, -, X49, ⟨Lc49, hQ49, l49, y49, z49⟩, st49⟩ := Jvm.LawKit.callS X46' hx (y := (⟨"com/example/kazalo/kazalo/records/RecordNumberPinLaw", "bad", "([BIII)Z"⟩ : MethodName)) hown (mvT hZ (hw _ (List.mem_of_getElem? (i := 7) rfl))) (mvT hZ (hw _ (List.mem_of_getElem? (i := 8) rfl))) (mvT hZ (hw _ (List.mem_of_getElem? (i := 3) rfl))) (mvT hZ (hw _ (List.mem_of_getElem? (i := 9) rfl))) (by decide) (backOf (W := 0) (own_rm2 l Z a0 hw [] b2 v34 v36 (3 : Int32) ([(nar .byte v6), (nar .byte v11), (nar .byte v16), (nar .byte v21), (nar .byte v26), (nar .byte v31)] : List Int32) h32 n0 Zp33 V32 (own_hb hv34 hv36 (by decide))) hZ (hw _ (List.mem_of_getElem? (i := 9) rfl)) (hw _ (List.mem_of_getElem? (i := 3) rfl)) (by decide) (by decide)) (g := (mkF m 134 #[.val (.long q0), .second, .val (.int p1), .val (.int p2), .val (.int p3), .val (.ref b2), .val (.int v34), .val (.int v36), .unset, .unset] [(.int (3 : Int32)), (.int v36), (.int v34), (.ref b2)])) rfl (by rw [hml]; rfl) (argsL := [(.ref b2), (.int v34), (.int v36), (.int (3 : Int32))]) (rest := []) (lenOf own_pd3 rfl) rfl (by show 2 * 0 + _ ≤ _; exact Nat.le_of_eq rfl) (hb hby at_134) (fun _ _ => ⟨rfl, e46, (by decide : 1 + 0 ≤ _), (by decide : 6 + 0 ≤ _)⟩)
              dsimp only [Pt.U, Pt.locs, Pt.cells, Pt.slots] at X49 l49 y49 z49 st49 hQ49
              subst y49 z49
              obtain ⟨rfl, rfl, e49⟩ := hQ49
              have X49' : Stand p l e room_1 s m #[(.long q0), (.int p1), (.int p2), (.int p3)] below meth c T49 L32 1 6 := by rw [show L49 = L32 from by rw [l49]; first | rfl | exact List.append_nil _] at X49; exact X49
              obtain ⟨T63, X63, e63, st63⟩ : ∃ T' : State, Stand p l e room_1 s m #[(.long q0), (.int p1), (.int p2), (.int p3)] below meth c T' L32 1 6 ∧ T'.heap = h32 ∧ ∀ t, Steps p.tables e below (T'.setTop (mkF m 171 #[.val (.long q0), .second, .val (.int p1), .val (.int p2), .val (.int p3), .val (.ref b2), .val (.int v34), .val (.int v36), .unset, .unset] [(.int (if (own_F2 v34 v36 (3 : Int32) ([(nar .byte v6), (nar .byte v11), (nar .byte v16), (nar .byte v21), (nar .byte v26), (nar .byte v31)] : List Int32)) = (0 : Int32) then (if (own_F2 v34 v36 (4 : Int32) ([(nar .byte v6), (nar .byte v11), (nar .byte v16), (nar .byte v21), (nar .byte v26), (nar .byte v31)] : List Int32)) = (0 : Int32) then (if (own_F2 v34 v36 (5 : Int32) ([(nar .byte v6), (nar .byte v11), (nar .byte v16), (nar .byte v21), (nar .byte v26), (nar .byte v31)] : List Int32)) = (0 : Int32) then (0 : Int32) else (1 : Int32)) else (1 : Int32)) else (1 : Int32)))])) t → Steps p.tables e below (T49.setTop (mkF m 137 #[.val (.long q0), .second, .val (.int p1), .val (.int p2), .val (.int p3), .val (.ref b2), .val (.int v34), .val (.int v36), .unset, .unset] [(.int (own_F2 v34 v36 (3 : Int32) ([(nar .byte v6), (nar .byte v11), (nar .byte v16), (nar .byte v21), (nar .byte v26), (nar .byte v31)] : List Int32)))])) t := by
                by_cases hc137_50 : (own_F2 v34 v36 (3 : Int32) ([(nar .byte v6), (nar .byte v11), (nar .byte v16), (nar .byte v21), (nar .byte v26), (nar .byte v31)] : List Int32)) = (0 : Int32)
                · repeat rw [if_pos hc137_50]
                  have st51 : ∀ t, Steps p.tables e below (T49.setTop (mkF m 147 #[.val (.long q0), .second, .val (.int p1), .val (.int p2), .val (.int p3), .val (.ref b2), .val (.int v34), .val (.int v36), .unset, .unset] [(.int (4 : Int32)), (.int v36), (.int v34), (.ref b2)])) t → Steps p.tables e below (T49.setTop (mkF m 137 #[.val (.long q0), .second, .val (.int p1), .val (.int p2), .val (.int p3), .val (.ref b2), .val (.int v34), .val (.int v36), .unset, .unset] [(.int (own_F2 v34 v36 (3 : Int32) ([(nar .byte v6), (nar .byte v11), (nar .byte v16), (nar .byte v21), (nar .byte v26), (nar .byte v31)] : List Int32)))])) t := by
                    intro t k
                    show Steps p.tables e below (T49.setTop (mkF m 137 #[.val (.long q0), .second, .val (.int p1), .val (.int p2), .val (.int p3), .val (.ref b2), .val (.int v34), .val (.int v36), .unset, .unset] [(.int (own_F2 v34 v36 (3 : Int32) ([(nar .byte v6), (nar .byte v11), (nar .byte v16), (nar .byte v21), (nar .byte v26), (nar .byte v31)] : List Int32)))])) _
                    refine XS.ifNo X49'.here hx rfl (hb hby at_137) rfl ((if0 _ _).trans (teq hc137_50).2) ?_
                    show Steps p.tables e below (T49.setTop (mkF m 140 #[.val (.long q0), .second, .val (.int p1), .val (.int p2), .val (.int p3), .val (.ref b2), .val (.int v34), .val (.int v36), .unset, .unset] [])) _
                    refine XS.aload X49'.here hx rfl (hb hby at_140) rfl rfl ?_
                    show Steps p.tables e below (T49.setTop (mkF m 142 #[.val (.long q0), .second, .val (.int p1), .val (.int p2), .val (.int p3), .val (.ref b2), .val (.int v34), .val (.int v36), .unset, .unset] [(.ref b2)])) _
                    refine XS.iload X49'.here hx rfl (hb hby at_142) rfl ?_
                    show Steps p.tables e below (T49.setTop (mkF m 144 #[.val (.long q0), .second, .val (.int p1), .val (.int p2), .val (.int p3), .val (.ref b2), .val (.int v34), .val (.int v36), .unset, .unset] [(.int v34), (.ref b2)])) _
                    refine XS.iload X49'.here hx rfl (hb hby at_144) rfl ?_
                    show Steps p.tables e below (T49.setTop (mkF m 146 #[.val (.long q0), .second, .val (.int p1), .val (.int p2), .val (.int p3), .val (.ref b2), .val (.int v34), .val (.int v36), .unset, .unset] [(.int v36), (.int v34), (.ref b2)])) _
                    refine XS.iconst X49'.here hx rfl (hb hby at_146) ?_
                    exact k
                  obtain ⟨_, _, ⟨T52, L52, k52, n52⟩, -, X52, ⟨Lc52, hQ52, l52, y52, z52⟩, st52⟩ := Jvm.LawKit.callS X49' hx (y := (⟨"com/example/kazalo/kazalo/records/RecordNumberPinLaw", "bad", "([BIII)Z"⟩ : MethodName)) hown (mvT hZ (hw _ (List.mem_of_getElem? (i := 7) rfl))) (mvT hZ (hw _ (List.mem_of_getElem? (i := 8) rfl))) (mvT hZ (hw _ (List.mem_of_getElem? (i := 3) rfl))) (mvT hZ (hw _ (List.mem_of_getElem? (i := 9) rfl))) (by decide) (backOf (W := 0) (own_rm2 l Z a0 hw [] b2 v34 v36 (4 : Int32) ([(nar .byte v6), (nar .byte v11), (nar .byte v16), (nar .byte v21), (nar .byte v26), (nar .byte v31)] : List Int32) h32 n0 Zp33 V32 (own_hb hv34 hv36 (by decide))) hZ (hw _ (List.mem_of_getElem? (i := 9) rfl)) (hw _ (List.mem_of_getElem? (i := 3) rfl)) (by decide) (by decide)) (g := (mkF m 147 #[.val (.long q0), .second, .val (.int p1), .val (.int p2), .val (.int p3), .val (.ref b2), .val (.int v34), .val (.int v36), .unset, .unset] [(.int (4 : Int32)), (.int v36), (.int v34), (.ref b2)])) rfl (by rw [hml]; rfl) (argsL := [(.ref b2), (.int v34), (.int v36), (.int (4 : Int32))]) (rest := []) (lenOf own_pd3 rfl) rfl (by show 2 * 0 + _ ≤ _; exact Nat.le_of_eq rfl) (hb hby at_147) (fun _ _ => ⟨rfl, e49, (by decide : 1 + 0 ≤ _), (by decide : 6 + 0 ≤ _)⟩)
                  dsimp only [Pt.U, Pt.locs, Pt.cells, Pt.slots] at X52 l52 y52 z52 st52 hQ52
                  subst y52 z52
                  obtain ⟨rfl, rfl, e52⟩ := hQ52
                  have X52' : Stand p l e room_1 s m #[(.long q0), (.int p1), (.int p2), (.int p3)] below meth c T52 L32 1 6 := by rw [show L52 = L32 from by rw [l52]; first | rfl | exact List.append_nil _] at X52; exact X52
                  obtain ⟨T61, X61, e61, st61⟩ : ∃ T' : State, Stand p l e room_1 s m #[(.long q0), (.int p1), (.int p2), (.int p3)] below meth c T' L32 1 6 ∧ T'.heap = h32 ∧ ∀ t, Steps p.tables e below (T'.setTop (mkF m 171 #[.val (.long q0), .second, .val (.int p1), .val (.int p2), .val (.int p3), .val (.ref b2), .val (.int v34), .val (.int v36), .unset, .unset] [(.int (if (own_F2 v34 v36 (4 : Int32) ([(nar .byte v6), (nar .byte v11), (nar .byte v16), (nar .byte v21), (nar .byte v26), (nar .byte v31)] : List Int32)) = (0 : Int32) then (if (own_F2 v34 v36 (5 : Int32) ([(nar .byte v6), (nar .byte v11), (nar .byte v16), (nar .byte v21), (nar .byte v26), (nar .byte v31)] : List Int32)) = (0 : Int32) then (0 : Int32) else (1 : Int32)) else (1 : Int32)))])) t → Steps p.tables e below (T52.setTop (mkF m 150 #[.val (.long q0), .second, .val (.int p1), .val (.int p2), .val (.int p3), .val (.ref b2), .val (.int v34), .val (.int v36), .unset, .unset] [(.int (own_F2 v34 v36 (4 : Int32) ([(nar .byte v6), (nar .byte v11), (nar .byte v16), (nar .byte v21), (nar .byte v26), (nar .byte v31)] : List Int32)))])) t := by
                    by_cases hc150_53 : (own_F2 v34 v36 (4 : Int32) ([(nar .byte v6), (nar .byte v11), (nar .byte v16), (nar .byte v21), (nar .byte v26), (nar .byte v31)] : List Int32)) = (0 : Int32)
                    · repeat rw [if_pos hc150_53]
                      have st54 : ∀ t, Steps p.tables e below (T52.setTop (mkF m 160 #[.val (.long q0), .second, .val (.int p1), .val (.int p2), .val (.int p3), .val (.ref b2), .val (.int v34), .val (.int v36), .unset, .unset] [(.int (5 : Int32)), (.int v36), (.int v34), (.ref b2)])) t → Steps p.tables e below (T52.setTop (mkF m 150 #[.val (.long q0), .second, .val (.int p1), .val (.int p2), .val (.int p3), .val (.ref b2), .val (.int v34), .val (.int v36), .unset, .unset] [(.int (own_F2 v34 v36 (4 : Int32) ([(nar .byte v6), (nar .byte v11), (nar .byte v16), (nar .byte v21), (nar .byte v26), (nar .byte v31)] : List Int32)))])) t := by
                        intro t k
                        show Steps p.tables e below (T52.setTop (mkF m 150 #[.val (.long q0), .second, .val (.int p1), .val (.int p2), .val (.int p3), .val (.ref b2), .val (.int v34), .val (.int v36), .unset, .unset] [(.int (own_F2 v34 v36 (4 : Int32) ([(nar .byte v6), (nar .byte v11), (nar .byte v16), (nar .byte v21), (nar .byte v26), (nar .byte v31)] : List Int32)))])) _
                        refine XS.ifNo X52'.here hx rfl (hb hby at_150) rfl ((if0 _ _).trans (teq hc150_53).2) ?_
                        show Steps p.tables e below (T52.setTop (mkF m 153 #[.val (.long q0), .second, .val (.int p1), .val (.int p2), .val (.int p3), .val (.ref b2), .val (.int v34), .val (.int v36), .unset, .unset] [])) _
                        refine XS.aload X52'.here hx rfl (hb hby at_153) rfl rfl ?_
                        show Steps p.tables e below (T52.setTop (mkF m 155 #[.val (.long q0), .second, .val (.int p1), .val (.int p2), .val (.int p3), .val (.ref b2), .val (.int v34), .val (.int v36), .unset, .unset] [(.ref b2)])) _
                        refine XS.iload X52'.here hx rfl (hb hby at_155) rfl ?_
                        show Steps p.tables e below (T52.setTop (mkF m 157 #[.val (.long q0), .second, .val (.int p1), .val (.int p2), .val (.int p3), .val (.ref b2), .val (.int v34), .val (.int v36), .unset, .unset] [(.int v34), (.ref b2)])) _
                        refine XS.iload X52'.here hx rfl (hb hby at_157) rfl ?_
                        show Steps p.tables e below (T52.setTop (mkF m 159 #[.val (.long q0), .second, .val (.int p1), .val (.int p2), .val (.int p3), .val (.ref b2), .val (.int v34), .val (.int v36), .unset, .unset] [(.int v36), (.int v34), (.ref b2)])) _
                        refine XS.iconst X52'.here hx rfl (hb hby at_159) ?_
                        exact k
                      obtain ⟨_, _, ⟨T55, L55, k55, n55⟩, -, X55, ⟨Lc55, hQ55, l55, y55, z55⟩, st55⟩ := Jvm.LawKit.callS X52' hx (y := (⟨"com/example/kazalo/kazalo/records/RecordNumberPinLaw", "bad", "([BIII)Z"⟩ : MethodName)) hown (mvT hZ (hw _ (List.mem_of_getElem? (i := 7) rfl))) (mvT hZ (hw _ (List.mem_of_getElem? (i := 8) rfl))) (mvT hZ (hw _ (List.mem_of_getElem? (i := 3) rfl))) (mvT hZ (hw _ (List.mem_of_getElem? (i := 9) rfl))) (by decide) (backOf (W := 0) (own_rm2 l Z a0 hw [] b2 v34 v36 (5 : Int32) ([(nar .byte v6), (nar .byte v11), (nar .byte v16), (nar .byte v21), (nar .byte v26), (nar .byte v31)] : List Int32) h32 n0 Zp33 V32 (own_hb hv34 hv36 (by decide))) hZ (hw _ (List.mem_of_getElem? (i := 9) rfl)) (hw _ (List.mem_of_getElem? (i := 3) rfl)) (by decide) (by decide)) (g := (mkF m 160 #[.val (.long q0), .second, .val (.int p1), .val (.int p2), .val (.int p3), .val (.ref b2), .val (.int v34), .val (.int v36), .unset, .unset] [(.int (5 : Int32)), (.int v36), (.int v34), (.ref b2)])) rfl (by rw [hml]; rfl) (argsL := [(.ref b2), (.int v34), (.int v36), (.int (5 : Int32))]) (rest := []) (lenOf own_pd3 rfl) rfl (by show 2 * 0 + _ ≤ _; exact Nat.le_of_eq rfl) (hb hby at_160) (fun _ _ => ⟨rfl, e52, (by decide : 1 + 0 ≤ _), (by decide : 6 + 0 ≤ _)⟩)
                      dsimp only [Pt.U, Pt.locs, Pt.cells, Pt.slots] at X55 l55 y55 z55 st55 hQ55
                      subst y55 z55
                      obtain ⟨rfl, rfl, e55⟩ := hQ55
                      have X55' : Stand p l e room_1 s m #[(.long q0), (.int p1), (.int p2), (.int p3)] below meth c T55 L32 1 6 := by rw [show L55 = L32 from by rw [l55]; first | rfl | exact List.append_nil _] at X55; exact X55
                      have st59 : ∀ t, Steps p.tables e below (T55.setTop (mkF m 171 #[.val (.long q0), .second, .val (.int p1), .val (.int p2), .val (.int p3), .val (.ref b2), .val (.int v34), .val (.int v36), .unset, .unset] [(.int (if (own_F2 v34 v36 (5 : Int32) ([(nar .byte v6), (nar .byte v11), (nar .byte v16), (nar .byte v21), (nar .byte v26), (nar .byte v31)] : List Int32)) = (0 : Int32) then (0 : Int32) else (1 : Int32)))])) t → Steps p.tables e below (T55.setTop (mkF m 163 #[.val (.long q0), .second, .val (.int p1), .val (.int p2), .val (.int p3), .val (.ref b2), .val (.int v34), .val (.int v36), .unset, .unset] [(.int (own_F2 v34 v36 (5 : Int32) ([(nar .byte v6), (nar .byte v11), (nar .byte v16), (nar .byte v21), (nar .byte v26), (nar .byte v31)] : List Int32)))])) t := by
                        by_cases hc163_56 : (own_F2 v34 v36 (5 : Int32) ([(nar .byte v6), (nar .byte v11), (nar .byte v16), (nar .byte v21), (nar .byte v26), (nar .byte v31)] : List Int32)) = (0 : Int32)
                        · repeat rw [if_pos hc163_56]
                          have st57 : ∀ t, Steps p.tables e below (T55.setTop (mkF m 171 #[.val (.long q0), .second, .val (.int p1), .val (.int p2), .val (.int p3), .val (.ref b2), .val (.int v34), .val (.int v36), .unset, .unset] [(.int (0 : Int32))])) t → Steps p.tables e below (T55.setTop (mkF m 163 #[.val (.long q0), .second, .val (.int p1), .val (.int p2), .val (.int p3), .val (.ref b2), .val (.int v34), .val (.int v36), .unset, .unset] [(.int (own_F2 v34 v36 (5 : Int32) ([(nar .byte v6), (nar .byte v11), (nar .byte v16), (nar .byte v21), (nar .byte v26), (nar .byte v31)] : List Int32)))])) t := by
                            intro t k
                            show Steps p.tables e below (T55.setTop (mkF m 163 #[.val (.long q0), .second, .val (.int p1), .val (.int p2), .val (.int p3), .val (.ref b2), .val (.int v34), .val (.int v36), .unset, .unset] [(.int (own_F2 v34 v36 (5 : Int32) ([(nar .byte v6), (nar .byte v11), (nar .byte v16), (nar .byte v21), (nar .byte v26), (nar .byte v31)] : List Int32)))])) _
                            refine XS.ifYes X55'.here hx rfl (pc0 := 163) (pc' := 170) rfl (hb hby at_163) rfl ((if0 _ _).trans (teq hc163_56).1) (by decide) (by decide) ?_
                            show Steps p.tables e below (T55.setTop (mkF m 170 #[.val (.long q0), .second, .val (.int p1), .val (.int p2), .val (.int p3), .val (.ref b2), .val (.int v34), .val (.int v36), .unset, .unset] [])) _
                            refine XS.iconst X55'.here hx rfl (hb hby at_170) ?_
                            exact k
                          exact fun t k => st57 _ k
                        · repeat rw [if_neg hc163_56]
                          have st58 : ∀ t, Steps p.tables e below (T55.setTop (mkF m 171 #[.val (.long q0), .second, .val (.int p1), .val (.int p2), .val (.int p3), .val (.ref b2), .val (.int v34), .val (.int v36), .unset, .unset] [(.int (1 : Int32))])) t → Steps p.tables e below (T55.setTop (mkF m 163 #[.val (.long q0), .second, .val (.int p1), .val (.int p2), .val (.int p3), .val (.ref b2), .val (.int v34), .val (.int v36), .unset, .unset] [(.int (own_F2 v34 v36 (5 : Int32) ([(nar .byte v6), (nar .byte v11), (nar .byte v16), (nar .byte v21), (nar .byte v26), (nar .byte v31)] : List Int32)))])) t := by
                            intro t k
                            show Steps p.tables e below (T55.setTop (mkF m 163 #[.val (.long q0), .second, .val (.int p1), .val (.int p2), .val (.int p3), .val (.ref b2), .val (.int v34), .val (.int v36), .unset, .unset] [(.int (own_F2 v34 v36 (5 : Int32) ([(nar .byte v6), (nar .byte v11), (nar .byte v16), (nar .byte v21), (nar .byte v26), (nar .byte v31)] : List Int32)))])) _
                            refine XS.ifNo X55'.here hx rfl (hb hby at_163) rfl ((if0 _ _).trans (feq hc163_56).1) ?_
                            show Steps p.tables e below (T55.setTop (mkF m 166 #[.val (.long q0), .second, .val (.int p1), .val (.int p2), .val (.int p3), .val (.ref b2), .val (.int v34), .val (.int v36), .unset, .unset] [])) _
                            refine XS.iconst X55'.here hx rfl (hb hby at_166) ?_
                            show Steps p.tables e below (T55.setTop (mkF m 167 #[.val (.long q0), .second, .val (.int p1), .val (.int p2), .val (.int p3), .val (.ref b2), .val (.int v34), .val (.int v36), .unset, .unset] [(.int (1 : Int32))])) _
                            refine XS.goto X55'.here hx rfl (pc0 := 167) (pc' := 171) rfl (hb hby at_167) (by decide) (by decide) ?_
                            exact k
                          exact fun t k => st58 _ k
                      exact ⟨T55, X55', e55, fun t k => st54 _ (st55 _ (st59 _ k))⟩
                    · repeat rw [if_neg hc150_53]
                      have st60 : ∀ t, Steps p.tables e below (T52.setTop (mkF m 171 #[.val (.long q0), .second, .val (.int p1), .val (.int p2), .val (.int p3), .val (.ref b2), .val (.int v34), .val (.int v36), .unset, .unset] [(.int (1 : Int32))])) t → Steps p.tables e below (T52.setTop (mkF m 150 #[.val (.long q0), .second, .val (.int p1), .val (.int p2), .val (.int p3), .val (.ref b2), .val (.int v34), .val (.int v36), .unset, .unset] [(.int (own_F2 v34 v36 (4 : Int32) ([(nar .byte v6), (nar .byte v11), (nar .byte v16), (nar .byte v21), (nar .byte v26), (nar .byte v31)] : List Int32)))])) t := by
                        intro t k
                        show Steps p.tables e below (T52.setTop (mkF m 150 #[.val (.long q0), .second, .val (.int p1), .val (.int p2), .val (.int p3), .val (.ref b2), .val (.int v34), .val (.int v36), .unset, .unset] [(.int (own_F2 v34 v36 (4 : Int32) ([(nar .byte v6), (nar .byte v11), (nar .byte v16), (nar .byte v21), (nar .byte v26), (nar .byte v31)] : List Int32)))])) _
                        refine XS.ifYes X52'.here hx rfl (pc0 := 150) (pc' := 166) rfl (hb hby at_150) rfl ((if0 _ _).trans (feq hc150_53).2) (by decide) (by decide) ?_
                        show Steps p.tables e below (T52.setTop (mkF m 166 #[.val (.long q0), .second, .val (.int p1), .val (.int p2), .val (.int p3), .val (.ref b2), .val (.int v34), .val (.int v36), .unset, .unset] [])) _
                        refine XS.iconst X52'.here hx rfl (hb hby at_166) ?_
                        show Steps p.tables e below (T52.setTop (mkF m 167 #[.val (.long q0), .second, .val (.int p1), .val (.int p2), .val (.int p3), .val (.ref b2), .val (.int v34), .val (.int v36), .unset, .unset] [(.int (1 : Int32))])) _
                        refine XS.goto X52'.here hx rfl (pc0 := 167) (pc' := 171) rfl (hb hby at_167) (by decide) (by decide) ?_
                        exact k
                      exact ⟨T52, X52', e52, fun t k => st60 _ k⟩
                  exact ⟨T61, X61, e61, fun t k => st51 _ (st52 _ (st61 _ k))⟩
                · repeat rw [if_neg hc137_50]
                  have st62 : ∀ t, Steps p.tables e below (T49.setTop (mkF m 171 #[.val (.long q0), .second, .val (.int p1), .val (.int p2), .val (.int p3), .val (.ref b2), .val (.int v34), .val (.int v36), .unset, .unset] [(.int (1 : Int32))])) t → Steps p.tables e below (T49.setTop (mkF m 137 #[.val (.long q0), .second, .val (.int p1), .val (.int p2), .val (.int p3), .val (.ref b2), .val (.int v34), .val (.int v36), .unset, .unset] [(.int (own_F2 v34 v36 (3 : Int32) ([(nar .byte v6), (nar .byte v11), (nar .byte v16), (nar .byte v21), (nar .byte v26), (nar .byte v31)] : List Int32)))])) t := by
                    intro t k
                    show Steps p.tables e below (T49.setTop (mkF m 137 #[.val (.long q0), .second, .val (.int p1), .val (.int p2), .val (.int p3), .val (.ref b2), .val (.int v34), .val (.int v36), .unset, .unset] [(.int (own_F2 v34 v36 (3 : Int32) ([(nar .byte v6), (nar .byte v11), (nar .byte v16), (nar .byte v21), (nar .byte v26), (nar .byte v31)] : List Int32)))])) _
                    refine XS.ifYes X49'.here hx rfl (pc0 := 137) (pc' := 166) rfl (hb hby at_137) rfl ((if0 _ _).trans (feq hc137_50).2) (by decide) (by decide) ?_
                    show Steps p.tables e below (T49.setTop (mkF m 166 #[.val (.long q0), .second, .val (.int p1), .val (.int p2), .val (.int p3), .val (.ref b2), .val (.int v34), .val (.int v36), .unset, .unset] [])) _
                    refine XS.iconst X49'.here hx rfl (hb hby at_166) ?_
                    show Steps p.tables e below (T49.setTop (mkF m 167 #[.val (.long q0), .second, .val (.int p1), .val (.int p2), .val (.int p3), .val (.ref b2), .val (.int v34), .val (.int v36), .unset, .unset] [(.int (1 : Int32))])) _
                    refine XS.goto X49'.here hx rfl (pc0 := 167) (pc' := 171) rfl (hb hby at_167) (by decide) (by decide) ?_
                    exact k
                  exact ⟨T49, X49', e49, fun t k => st62 _ k⟩
              exact ⟨T63, X63, e63, fun t k => st48 _ (st49 _ (st63 _ k))⟩
            · repeat rw [if_neg hc124_47]
              have st64 : ∀ t, Steps p.tables e below (T46.setTop (mkF m 171 #[.val (.long q0), .second, .val (.int p1), .val (.int p2), .val (.int p3), .val (.ref b2), .val (.int v34), .val (.int v36), .unset, .unset] [(.int (1 : Int32))])) t → Steps p.tables e below (T46.setTop (mkF m 124 #[.val (.long q0), .second, .val (.int p1), .val (.int p2), .val (.int p3), .val (.ref b2), .val (.int v34), .val (.int v36), .unset, .unset] [(.int (own_F2 v34 v36 (2 : Int32) ([(nar .byte v6), (nar .byte v11), (nar .byte v16), (nar .byte v21), (nar .byte v26), (nar .byte v31)] : List Int32)))])) t := by
                intro t k
                show Steps p.tables e below (T46.setTop (mkF m 124 #[.val (.long q0), .second, .val (.int p1), .val (.int p2), .val (.int p3), .val (.ref b2), .val (.int v34), .val (.int v36), .unset, .unset] [(.int (own_F2 v34 v36 (2 : Int32) ([(nar .byte v6), (nar .byte v11), (nar .byte v16), (nar .byte v21), (nar .byte v26), (nar .byte v31)] : List Int32)))])) _
                refine XS.ifYes X46'.here hx rfl (pc0 := 124) (pc' := 166) rfl (hb hby at_124) rfl ((if0 _ _).trans (feq hc124_47).2) (by decide) (by decide) ?_
                show Steps p.tables e below (T46.setTop (mkF m 166 #[.val (.long q0), .second, .val (.int p1), .val (.int p2), .val (.int p3), .val (.ref b2), .val (.int v34), .val (.int v36), .unset, .unset] [])) _
                refine XS.iconst X46'.here hx rfl (hb hby at_166) ?_
                show Steps p.tables e below (T46.setTop (mkF m 167 #[.val (.long q0), .second, .val (.int p1), .val (.int p2), .val (.int p3), .val (.ref b2), .val (.int v34), .val (.int v36), .unset, .unset] [(.int (1 : Int32))])) _
                refine XS.goto X46'.here hx rfl (pc0 := 167) (pc' := 171) rfl (hb hby at_167) (by decide) (by decide) ?_
                exact k
              exact ⟨T46, X46', e46, fun t k => st64 _ k⟩
          exact ⟨T65, X65, e65, fun t k => st45 _ (st46 _ (st65 _ k))⟩
        · repeat rw [if_neg hc111_44]
          have st66 : ∀ t, Steps p.tables e below (T43.setTop (mkF m 171 #[.val (.long q0), .second, .val (.int p1), .val (.int p2), .val (.int p3), .val (.ref b2), .val (.int v34), .val (.int v36), .unset, .unset] [(.int (1 : Int32))])) t → Steps p.tables e below (T43.setTop (mkF m 111 #[.val (.long q0), .second, .val (.int p1), .val (.int p2), .val (.int p3), .val (.ref b2), .val (.int v34), .val (.int v36), .unset, .unset] [(.int (own_F2 v34 v36 (1 : Int32) ([(nar .byte v6), (nar .byte v11), (nar .byte v16), (nar .byte v21), (nar .byte v26), (nar .byte v31)] : List Int32)))])) t := by
            intro t k
            show Steps p.tables e below (T43.setTop (mkF m 111 #[.val (.long q0), .second, .val (.int p1), .val (.int p2), .val (.int p3), .val (.ref b2), .val (.int v34), .val (.int v36), .unset, .unset] [(.int (own_F2 v34 v36 (1 : Int32) ([(nar .byte v6), (nar .byte v11), (nar .byte v16), (nar .byte v21), (nar .byte v26), (nar .byte v31)] : List Int32)))])) _
            refine XS.ifYes X43'.here hx rfl (pc0 := 111) (pc' := 166) rfl (hb hby at_111) rfl ((if0 _ _).trans (feq hc111_44).2) (by decide) (by decide) ?_
            show Steps p.tables e below (T43.setTop (mkF m 166 #[.val (.long q0), .second, .val (.int p1), .val (.int p2), .val (.int p3), .val (.ref b2), .val (.int v34), .val (.int v36), .unset, .unset] [])) _
            refine XS.iconst X43'.here hx rfl (hb hby at_166) ?_
            show Steps p.tables e below (T43.setTop (mkF m 167 #[.val (.long q0), .second, .val (.int p1), .val (.int p2), .val (.int p3), .val (.ref b2), .val (.int v34), .val (.int v36), .unset, .unset] [(.int (1 : Int32))])) _
            refine XS.goto X43'.here hx rfl (pc0 := 167) (pc' := 171) rfl (hb hby at_167) (by decide) (by decide) ?_
            exact k
          exact ⟨T43, X43', e43, fun t k => st66 _ k⟩
      exact ⟨T67, X67, e67, fun t k => st42 _ (st43 _ (st67 _ k))⟩
    · repeat rw [if_neg hc98_41]
      have st68 : ∀ t, Steps p.tables e below (T39.setTop (mkF m 171 #[.val (.long q0), .second, .val (.int p1), .val (.int p2), .val (.int p3), .val (.ref b2), .val (.int v34), .val (.int v36), .unset, .unset] [(.int (1 : Int32))])) t → Steps p.tables e below (T39.setTop (mkF m 98 #[.val (.long q0), .second, .val (.int p1), .val (.int p2), .val (.int p3), .val (.ref b2), .val (.int v34), .val (.int v36), .unset, .unset] [(.int v40)])) t := by
        intro t k
        show Steps p.tables e below (T39.setTop (mkF m 98 #[.val (.long q0), .second, .val (.int p1), .val (.int p2), .val (.int p3), .val (.ref b2), .val (.int v34), .val (.int v36), .unset, .unset] [(.int v40)])) _
        refine XS.ifYes X39'.here hx rfl (pc0 := 98) (pc' := 166) rfl (hb hby at_98) rfl ((if0 _ _).trans (feq hc98_41).2) (by decide) (by decide) ?_
        show Steps p.tables e below (T39.setTop (mkF m 166 #[.val (.long q0), .second, .val (.int p1), .val (.int p2), .val (.int p3), .val (.ref b2), .val (.int v34), .val (.int v36), .unset, .unset] [])) _
        refine XS.iconst X39'.here hx rfl (hb hby at_166) ?_
        show Steps p.tables e below (T39.setTop (mkF m 167 #[.val (.long q0), .second, .val (.int p1), .val (.int p2), .val (.int p3), .val (.ref b2), .val (.int v34), .val (.int v36), .unset, .unset] [(.int (1 : Int32))])) _
        refine XS.goto X39'.here hx rfl (pc0 := 167) (pc' := 171) rfl (hb hby at_167) (by decide) (by decide) ?_
        exact k
      exact ⟨T39, X39', e39, fun t k => st68 _ k⟩
  have st71 : ∀ t, Steps p.tables e below (T70.setTop (mkF m 175 #[.val (.long q0), .second, .val (.int p1), .val (.int p2), .val (.int p3), .val (.ref b2), .val (.int v34), .val (.int v36), .val (.int v69), .unset] [(.int v69)])) t → Steps p.tables e below (T70.setTop (mkF m 171 #[.val (.long q0), .second, .val (.int p1), .val (.int p2), .val (.int p3), .val (.ref b2), .val (.int v34), .val (.int v36), .unset, .unset] [(.int v69)])) t := by
    intro t k
    show Steps p.tables e below (T70.setTop (mkF m 171 #[.val (.long q0), .second, .val (.int p1), .val (.int p2), .val (.int p3), .val (.ref b2), .val (.int v34), .val (.int v36), .unset, .unset] [(.int v69)])) _
    refine XS.istore X70.here hx rfl (hb hby at_171) rfl (l' := #[.val (.long q0), .second, .val (.int p1), .val (.int p2), .val (.int p3), .val (.ref b2), .val (.int v34), .val (.int v36), .val (.int v69), .unset]) rfl ?_
    show Steps p.tables e below (T70.setTop (mkF m 173 #[.val (.long q0), .second, .val (.int p1), .val (.int p2), .val (.int p3), .val (.ref b2), .val (.int v34), .val (.int v36), .val (.int v69), .unset] [])) _
    refine XS.iload X70.here hx rfl (hb hby at_173) rfl ?_
    exact k
  obtain ⟨v87, hv87⟩ : ∃ z : Int32, z = (if v69 = (0 : Int32) then ((((((own_F3 v34 v36 (0 : Int32) ([(nar .byte v6), (nar .byte v11), (nar .byte v16), (nar .byte v21), (nar .byte v26), (nar .byte v31)] : List Int32)) + (own_F3 v34 v36 (1 : Int32) ([(nar .byte v6), (nar .byte v11), (nar .byte v16), (nar .byte v21), (nar .byte v26), (nar .byte v31)] : List Int32))) + (own_F3 v34 v36 (2 : Int32) ([(nar .byte v6), (nar .byte v11), (nar .byte v16), (nar .byte v21), (nar .byte v26), (nar .byte v31)] : List Int32))) + (own_F3 v34 v36 (3 : Int32) ([(nar .byte v6), (nar .byte v11), (nar .byte v16), (nar .byte v21), (nar .byte v26), (nar .byte v31)] : List Int32))) + (own_F3 v34 v36 (4 : Int32) ([(nar .byte v6), (nar .byte v11), (nar .byte v16), (nar .byte v21), (nar .byte v26), (nar .byte v31)] : List Int32))) + (own_F3 v34 v36 (5 : Int32) ([(nar .byte v6), (nar .byte v11), (nar .byte v16), (nar .byte v21), (nar .byte v26), (nar .byte v31)] : List Int32))) else (-1 : Int32)) := ⟨_, rfl⟩
  obtain ⟨T88, X88, e88, st88⟩ : ∃ T' : State, Stand p l e room_1 s m #[(.long q0), (.int p1), (.int p2), (.int p3)] below meth c T' L32 1 6 ∧ T'.heap = h32 ∧ ∀ t, Steps p.tables e below (T'.setTop (mkF m 251 #[.val (.long q0), .second, .val (.int p1), .val (.int p2), .val (.int p3), .val (.ref b2), .val (.int v34), .val (.int v36), .val (.int v69), .val (.int v87)] [])) t → Steps p.tables e below (T70.setTop (mkF m 175 #[.val (.long q0), .second, .val (.int p1), .val (.int p2), .val (.int p3), .val (.ref b2), .val (.int v34), .val (.int v36), .val (.int v69), .unset] [(.int v69)])) t := by
    rw [hv87]
    by_cases hc175_72 : v69 = (0 : Int32)
    · repeat rw [if_pos hc175_72]
      have st73 : ∀ t, Steps p.tables e below (T70.setTop (mkF m 191 #[.val (.long q0), .second, .val (.int p1), .val (.int p2), .val (.int p3), .val (.ref b2), .val (.int v34), .val (.int v36), .val (.int v69), .unset] [(.int (0 : Int32)), (.int v36), (.int v34), (.ref b2)])) t → Steps p.tables e below (T70.setTop (mkF m 175 #[.val (.long q0), .second, .val (.int p1), .val (.int p2), .val (.int p3), .val (.ref b2), .val (.int v34), .val (.int v36), .val (.int v69), .unset] [(.int v69)])) t := by
        intro t k
        show Steps p.tables e below (T70.setTop (mkF m 175 #[.val (.long q0), .second, .val (.int p1), .val (.int p2), .val (.int p3), .val (.ref b2), .val (.int v34), .val (.int v36), .val (.int v69), .unset] [(.int v69)])) _
        refine XS.ifYes X70.here hx rfl (pc0 := 175) (pc' := 184) rfl (hb hby at_175) rfl ((if0 _ _).trans (teq hc175_72).1) (by decide) (by decide) ?_
        show Steps p.tables e below (T70.setTop (mkF m 184 #[.val (.long q0), .second, .val (.int p1), .val (.int p2), .val (.int p3), .val (.ref b2), .val (.int v34), .val (.int v36), .val (.int v69), .unset] [])) _
        refine XS.aload X70.here hx rfl (hb hby at_184) rfl rfl ?_
        show Steps p.tables e below (T70.setTop (mkF m 186 #[.val (.long q0), .second, .val (.int p1), .val (.int p2), .val (.int p3), .val (.ref b2), .val (.int v34), .val (.int v36), .val (.int v69), .unset] [(.ref b2)])) _
        refine XS.iload X70.here hx rfl (hb hby at_186) rfl ?_
        show Steps p.tables e below (T70.setTop (mkF m 188 #[.val (.long q0), .second, .val (.int p1), .val (.int p2), .val (.int p3), .val (.ref b2), .val (.int v34), .val (.int v36), .val (.int v69), .unset] [(.int v34), (.ref b2)])) _
        refine XS.iload X70.here hx rfl (hb hby at_188) rfl ?_
        show Steps p.tables e below (T70.setTop (mkF m 190 #[.val (.long q0), .second, .val (.int p1), .val (.int p2), .val (.int p3), .val (.ref b2), .val (.int v34), .val (.int v36), .val (.int v69), .unset] [(.int v36), (.int v34), (.ref b2)])) _
        refine XS.iconst X70.here hx rfl (hb hby at_190) ?_
        exact k
      obtain ⟨_, _, ⟨T74, L74, k74, n74⟩, -, X74, ⟨Lc74, hQ74, l74, y74, z74⟩, st74⟩ := Jvm.LawKit.callS X70 hx (y := (⟨"com/example/kazalo/kazalo/records/RecordNumberPinLaw", "term", "([BIII)I"⟩ : MethodName)) hown (mvT hZ (hw _ (List.mem_of_getElem? (i := 10) rfl))) (mvT hZ (hw _ (List.mem_of_getElem? (i := 11) rfl))) (mvT hZ (hw _ (List.mem_of_getElem? (i := 3) rfl))) (mvT hZ (hw _ (List.mem_of_getElem? (i := 12) rfl))) (by decide) (backOf (W := 0) (own_rm3 l Z a0 hw [] b2 v34 v36 (0 : Int32) ([(nar .byte v6), (nar .byte v11), (nar .byte v16), (nar .byte v21), (nar .byte v26), (nar .byte v31)] : List Int32) h32 n0 Zp33 V32 (own_hb hv34 hv36 (by decide))) hZ (hw _ (List.mem_of_getElem? (i := 12) rfl)) (hw _ (List.mem_of_getElem? (i := 3) rfl)) (by decide) (by decide)) (g := (mkF m 191 #[.val (.long q0), .second, .val (.int p1), .val (.int p2), .val (.int p3), .val (.ref b2), .val (.int v34), .val (.int v36), .val (.int v69), .unset] [(.int (0 : Int32)), (.int v36), (.int v34), (.ref b2)])) rfl (by rw [hml]; rfl) (argsL := [(.ref b2), (.int v34), (.int v36), (.int (0 : Int32))]) (rest := []) (lenOf own_pd4 rfl) rfl (by show 2 * 0 + _ ≤ _; exact Nat.le_of_eq rfl) (hb hby at_191) (fun _ _ => ⟨rfl, e70, (by decide : 1 + 0 ≤ _), (by decide : 6 + 0 ≤ _)⟩)
      dsimp only [Pt.U, Pt.locs, Pt.cells, Pt.slots] at X74 l74 y74 z74 st74 hQ74
      subst y74 z74
      obtain ⟨rfl, rfl, e74⟩ := hQ74
      have X74' : Stand p l e room_1 s m #[(.long q0), (.int p1), (.int p2), (.int p3)] below meth c T74 L32 1 6 := by rw [show L74 = L32 from by rw [l74]; first | rfl | exact List.append_nil _] at X74; exact X74
      have st75 : ∀ t, Steps p.tables e below (T74.setTop (mkF m 201 #[.val (.long q0), .second, .val (.int p1), .val (.int p2), .val (.int p3), .val (.ref b2), .val (.int v34), .val (.int v36), .val (.int v69), .unset] [(.int (1 : Int32)), (.int v36), (.int v34), (.ref b2), (.int (own_F3 v34 v36 (0 : Int32) ([(nar .byte v6), (nar .byte v11), (nar .byte v16), (nar .byte v21), (nar .byte v26), (nar .byte v31)] : List Int32)))])) t → Steps p.tables e below (T74.setTop (mkF m 194 #[.val (.long q0), .second, .val (.int p1), .val (.int p2), .val (.int p3), .val (.ref b2), .val (.int v34), .val (.int v36), .val (.int v69), .unset] [(.int (own_F3 v34 v36 (0 : Int32) ([(nar .byte v6), (nar .byte v11), (nar .byte v16), (nar .byte v21), (nar .byte v26), (nar .byte v31)] : List Int32)))])) t := by
        intro t k
        show Steps p.tables e below (T74.setTop (mkF m 194 #[.val (.long q0), .second, .val (.int p1), .val (.int p2), .val (.int p3), .val (.ref b2), .val (.int v34), .val (.int v36), .val (.int v69), .unset] [(.int (own_F3 v34 v36 (0 : Int32) ([(nar .byte v6), (nar .byte v11), (nar .byte v16), (nar .byte v21), (nar .byte v26), (nar .byte v31)] : List Int32)))])) _
        refine XS.aload X74'.here hx rfl (hb hby at_194) rfl rfl ?_
        show Steps p.tables e below (T74.setTop (mkF m 196 #[.val (.long q0), .second, .val (.int p1), .val (.int p2), .val (.int p3), .val (.ref b2), .val (.int v34), .val (.int v36), .val (.int v69), .unset] [(.ref b2), (.int (own_F3 v34 v36 (0 : Int32) ([(nar .byte v6), (nar .byte v11), (nar .byte v16), (nar .byte v21), (nar .byte v26), (nar .byte v31)] : List Int32)))])) _
        refine XS.iload X74'.here hx rfl (hb hby at_196) rfl ?_
        show Steps p.tables e below (T74.setTop (mkF m 198 #[.val (.long q0), .second, .val (.int p1), .val (.int p2), .val (.int p3), .val (.ref b2), .val (.int v34), .val (.int v36), .val (.int v69), .unset] [(.int v34), (.ref b2), (.int (own_F3 v34 v36 (0 : Int32) ([(nar .byte v6), (nar .byte v11), (nar .byte v16), (nar .byte v21), (nar .byte v26), (nar .byte v31)] : List Int32)))])) _
        refine XS.iload X74'.here hx rfl (hb hby at_198) rfl ?_
        show Steps p.tables e below (T74.setTop (mkF m 200 #[.val (.long q0), .second, .val (.int p1), .val (.int p2), .val (.int p3), .val (.ref b2), .val (.int v34), .val (.int v36), .val (.int v69), .unset] [(.int v36), (.int v34), (.ref b2), (.int (own_F3 v34 v36 (0 : Int32) ([(nar .byte v6), (nar .byte v11), (nar .byte v16), (nar .byte v21), (nar .byte v26), (nar .byte v31)] : List Int32)))])) _
        refine XS.iconst X74'.here hx rfl (hb hby at_200) ?_
        exact k
      obtain ⟨_, _, ⟨T76, L76, k76, n76⟩, -, X76, ⟨Lc76, hQ76, l76, y76, z76⟩, st76⟩ := Jvm.LawKit.callS X74' hx (y := (⟨"com/example/kazalo/kazalo/records/RecordNumberPinLaw", "term", "([BIII)I"⟩ : MethodName)) hown (mvT hZ (hw _ (List.mem_of_getElem? (i := 10) rfl))) (mvT hZ (hw _ (List.mem_of_getElem? (i := 11) rfl))) (mvT hZ (hw _ (List.mem_of_getElem? (i := 3) rfl))) (mvT hZ (hw _ (List.mem_of_getElem? (i := 12) rfl))) (by decide) (backOf (W := 1) (own_rm3 l Z a0 hw [] b2 v34 v36 (1 : Int32) ([(nar .byte v6), (nar .byte v11), (nar .byte v16), (nar .byte v21), (nar .byte v26), (nar .byte v31)] : List Int32) h32 n0 Zp33 V32 (own_hb hv34 hv36 (by decide))) hZ (hw _ (List.mem_of_getElem? (i := 12) rfl)) (hw _ (List.mem_of_getElem? (i := 3) rfl)) (by decide) (by decide)) (g := (mkF m 201 #[.val (.long q0), .second, .val (.int p1), .val (.int p2), .val (.int p3), .val (.ref b2), .val (.int v34), .val (.int v36), .val (.int v69), .unset] [(.int (1 : Int32)), (.int v36), (.int v34), (.ref b2), (.int (own_F3 v34 v36 (0 : Int32) ([(nar .byte v6), (nar .byte v11), (nar .byte v16), (nar .byte v21), (nar .byte v26), (nar .byte v31)] : List Int32)))])) rfl (by rw [hml]; rfl) (argsL := [(.ref b2), (.int v34), (.int v36), (.int (1 : Int32))]) (rest := [(.int (own_F3 v34 v36 (0 : Int32) ([(nar .byte v6), (nar .byte v11), (nar .byte v16), (nar .byte v21), (nar .byte v26), (nar .byte v31)] : List Int32)))]) (lenOf own_pd4 rfl) rfl (by show 2 * 0 + _ ≤ _; exact Nat.le_of_eq rfl) (hb hby at_201) (fun _ _ => ⟨rfl, e74, (by decide : 1 + 0 ≤ _), (by decide : 6 + 0 ≤ _)⟩)
      dsimp only [Pt.U, Pt.locs, Pt.cells, Pt.slots] at X76 l76 y76 z76 st76 hQ76
      subst y76 z76
      obtain ⟨rfl, rfl, e76⟩ := hQ76
      have X76' : Stand p l e room_1 s m #[(.long q0), (.int p1), (.int p2), (.int p3)] below meth c T76 L32 1 6 := by rw [show L76 = L32 from by rw [l76]; first | rfl | exact List.append_nil _] at X76; exact X76
      have st77 : ∀ t, Steps p.tables e below (T76.setTop (mkF m 212 #[.val (.long q0), .second, .val (.int p1), .val (.int p2), .val (.int p3), .val (.ref b2), .val (.int v34), .val (.int v36), .val (.int v69), .unset] [(.int (2 : Int32)), (.int v36), (.int v34), (.ref b2), (.int ((own_F3 v34 v36 (0 : Int32) ([(nar .byte v6), (nar .byte v11), (nar .byte v16), (nar .byte v21), (nar .byte v26), (nar .byte v31)] : List Int32)) + (own_F3 v34 v36 (1 : Int32) ([(nar .byte v6), (nar .byte v11), (nar .byte v16), (nar .byte v21), (nar .byte v26), (nar .byte v31)] : List Int32))))])) t → Steps p.tables e below (T76.setTop (mkF m 204 #[.val (.long q0), .second, .val (.int p1), .val (.int p2), .val (.int p3), .val (.ref b2), .val (.int v34), .val (.int v36), .val (.int v69), .unset] [(.int (own_F3 v34 v36 (1 : Int32) ([(nar .byte v6), (nar .byte v11), (nar .byte v16), (nar .byte v21), (nar .byte v26), (nar .byte v31)] : List Int32))), (.int (own_F3 v34 v36 (0 : Int32) ([(nar .byte v6), (nar .byte v11), (nar .byte v16), (nar .byte v21), (nar .byte v26), (nar .byte v31)] : List Int32)))])) t := by
        intro t k
        show Steps p.tables e below (T76.setTop (mkF m 204 #[.val (.long q0), .second, .val (.int p1), .val (.int p2), .val (.int p3), .val (.ref b2), .val (.int v34), .val (.int v36), .val (.int v69), .unset] [(.int (own_F3 v34 v36 (1 : Int32) ([(nar .byte v6), (nar .byte v11), (nar .byte v16), (nar .byte v21), (nar .byte v26), (nar .byte v31)] : List Int32))), (.int (own_F3 v34 v36 (0 : Int32) ([(nar .byte v6), (nar .byte v11), (nar .byte v16), (nar .byte v21), (nar .byte v26), (nar .byte v31)] : List Int32)))])) _
        refine XS.iadd X76'.here hx rfl (hb hby at_204) rfl ?_
        show Steps p.tables e below (T76.setTop (mkF m 205 #[.val (.long q0), .second, .val (.int p1), .val (.int p2), .val (.int p3), .val (.ref b2), .val (.int v34), .val (.int v36), .val (.int v69), .unset] [(.int ((own_F3 v34 v36 (0 : Int32) ([(nar .byte v6), (nar .byte v11), (nar .byte v16), (nar .byte v21), (nar .byte v26), (nar .byte v31)] : List Int32)) + (own_F3 v34 v36 (1 : Int32) ([(nar .byte v6), (nar .byte v11), (nar .byte v16), (nar .byte v21), (nar .byte v26), (nar .byte v31)] : List Int32))))])) _
        refine XS.aload X76'.here hx rfl (hb hby at_205) rfl rfl ?_
        show Steps p.tables e below (T76.setTop (mkF m 207 #[.val (.long q0), .second, .val (.int p1), .val (.int p2), .val (.int p3), .val (.ref b2), .val (.int v34), .val (.int v36), .val (.int v69), .unset] [(.ref b2), (.int ((own_F3 v34 v36 (0 : Int32) ([(nar .byte v6), (nar .byte v11), (nar .byte v16), (nar .byte v21), (nar .byte v26), (nar .byte v31)] : List Int32)) + (own_F3 v34 v36 (1 : Int32) ([(nar .byte v6), (nar .byte v11), (nar .byte v16), (nar .byte v21), (nar .byte v26), (nar .byte v31)] : List Int32))))])) _
        refine XS.iload X76'.here hx rfl (hb hby at_207) rfl ?_
        show Steps p.tables e below (T76.setTop (mkF m 209 #[.val (.long q0), .second, .val (.int p1), .val (.int p2), .val (.int p3), .val (.ref b2), .val (.int v34), .val (.int v36), .val (.int v69), .unset] [(.int v34), (.ref b2), (.int ((own_F3 v34 v36 (0 : Int32) ([(nar .byte v6), (nar .byte v11), (nar .byte v16), (nar .byte v21), (nar .byte v26), (nar .byte v31)] : List Int32)) + (own_F3 v34 v36 (1 : Int32) ([(nar .byte v6), (nar .byte v11), (nar .byte v16), (nar .byte v21), (nar .byte v26), (nar .byte v31)] : List Int32))))])) _
        refine XS.iload X76'.here hx rfl (hb hby at_209) rfl ?_
        show Steps p.tables e below (T76.setTop (mkF m 211 #[.val (.long q0), .second, .val (.int p1), .val (.int p2), .val (.int p3), .val (.ref b2), .val (.int v34), .val (.int v36), .val (.int v69), .unset] [(.int v36), (.int v34), (.ref b2), (.int ((own_F3 v34 v36 (0 : Int32) ([(nar .byte v6), (nar .byte v11), (nar .byte v16), (nar .byte v21), (nar .byte v26), (nar .byte v31)] : List Int32)) + (own_F3 v34 v36 (1 : Int32) ([(nar .byte v6), (nar .byte v11), (nar .byte v16), (nar .byte v21), (nar .byte v26), (nar .byte v31)] : List Int32))))])) _
        refine XS.iconst X76'.here hx rfl (hb hby at_211) ?_
        exact k
      obtain ⟨_, _, ⟨T78, L78, k78, n78⟩, -, X78, ⟨Lc78, hQ78, l78, y78, z78⟩, st78⟩ := Jvm.LawKit.callS X76' hx (y := (⟨"com/example/kazalo/kazalo/records/RecordNumberPinLaw", "term", "([BIII)I"⟩ : MethodName)) hown (mvT hZ (hw _ (List.mem_of_getElem? (i := 10) rfl))) (mvT hZ (hw _ (List.mem_of_getElem? (i := 11) rfl))) (mvT hZ (hw _ (List.mem_of_getElem? (i := 3) rfl))) (mvT hZ (hw _ (List.mem_of_getElem? (i := 12) rfl))) (by decide) (backOf (W := 1) (own_rm3 l Z a0 hw [] b2 v34 v36 (2 : Int32) ([(nar .byte v6), (nar .byte v11), (nar .byte v16), (nar .byte v21), (nar .byte v26), (nar .byte v31)] : List Int32) h32 n0 Zp33 V32 (own_hb hv34 hv36 (by decide))) hZ (hw _ (List.mem_of_getElem? (i := 12) rfl)) (hw _ (List.mem_of_getElem? (i := 3) rfl)) (by decide) (by decide)) (g := (mkF m 212 #[.val (.long q0), .second, .val (.int p1), .val (.int p2), .val (.int p3), .val (.ref b2), .val (.int v34), .val (.int v36), .val (.int v69), .unset] [(.int (2 : Int32)), (.int v36), (.int v34), (.ref b2), (.int ((own_F3 v34 v36 (0 : Int32) ([(nar .byte v6), (nar .byte v11), (nar .byte v16), (nar .byte v21), (nar .byte v26), (nar .byte v31)] : List Int32)) + (own_F3 v34 v36 (1 : Int32) ([(nar .byte v6), (nar .byte v11), (nar .byte v16), (nar .byte v21), (nar .byte v26), (nar .byte v31)] : List Int32))))])) rfl (by rw [hml]; rfl) (argsL := [(.ref b2), (.int v34), (.int v36), (.int (2 : Int32))]) (rest := [(.int ((own_F3 v34 v36 (0 : Int32) ([(nar .byte v6), (nar .byte v11), (nar .byte v16), (nar .byte v21), (nar .byte v26), (nar .byte v31)] : List Int32)) + (own_F3 v34 v36 (1 : Int32) ([(nar .byte v6), (nar .byte v11), (nar .byte v16), (nar .byte v21), (nar .byte v26), (nar .byte v31)] : List Int32))))]) (lenOf own_pd4 rfl) rfl (by show 2 * 0 + _ ≤ _; exact Nat.le_of_eq rfl) (hb hby at_212) (fun _ _ => ⟨rfl, e76, (by decide : 1 + 0 ≤ _), (by decide : 6 + 0 ≤ _)⟩)
      dsimp only [Pt.U, Pt.locs, Pt.cells, Pt.slots] at X78 l78 y78 z78 st78 hQ78
      subst y78 z78
      obtain ⟨rfl, rfl, e78⟩ := hQ78
      have X78' : Stand p l e room_1 s m #[(.long q0), (.int p1), (.int p2), (.int p3)] below meth c T78 L32 1 6 := by rw [show L78 = L32 from by rw [l78]; first | rfl | exact List.append_nil _] at X78; exact X78
      have st79 : ∀ t, Steps p.tables e below (T78.setTop (mkF m 223 #[.val (.long q0), .second, .val (.int p1), .val (.int p2), .val (.int p3), .val (.ref b2), .val (.int v34), .val (.int v36), .val (.int v69), .unset] [(.int (3 : Int32)), (.int v36), (.int v34), (.ref b2), (.int (((own_F3 v34 v36 (0 : Int32) ([(nar .byte v6), (nar .byte v11), (nar .byte v16), (nar .byte v21), (nar .byte v26), (nar .byte v31)] : List Int32)) + (own_F3 v34 v36 (1 : Int32) ([(nar .byte v6), (nar .byte v11), (nar .byte v16), (nar .byte v21), (nar .byte v26), (nar .byte v31)] : List Int32))) + (own_F3 v34 v36 (2 : Int32) ([(nar .byte v6), (nar .byte v11), (nar .byte v16), (nar .byte v21), (nar .byte v26), (nar .byte v31)] : List Int32))))])) t → Steps p.tables e below (T78.setTop (mkF m 215 #[.val (.long q0), .second, .val (.int p1), .val (.int p2), .val (.int p3), .val (.ref b2), .val (.int v34), .val (.int v36), .val (.int v69), .unset] [(.int (own_F3 v34 v36 (2 : Int32) ([(nar .byte v6), (nar .byte v11), (nar .byte v16), (nar .byte v21), (nar .byte v26), (nar .byte v31)] : List Int32))), (.int ((own_F3 v34 v36 (0 : Int32) ([(nar .byte v6), (nar .byte v11), (nar .byte v16), (nar .byte v21), (nar .byte v26), (nar .byte v31)] : List Int32)) + (own_F3 v34 v36 (1 : Int32) ([(nar .byte v6), (nar .byte v11), (nar .byte v16), (nar .byte v21), (nar .byte v26), (nar .byte v31)] : List Int32))))])) t := by
        intro t k
        show Steps p.tables e below (T78.setTop (mkF m 215 #[.val (.long q0), .second, .val (.int p1), .val (.int p2), .val (.int p3), .val (.ref b2), .val (.int v34), .val (.int v36), .val (.int v69), .unset] [(.int (own_F3 v34 v36 (2 : Int32) ([(nar .byte v6), (nar .byte v11), (nar .byte v16), (nar .byte v21), (nar .byte v26), (nar .byte v31)] : List Int32))), (.int ((own_F3 v34 v36 (0 : Int32) ([(nar .byte v6), (nar .byte v11), (nar .byte v16), (nar .byte v21), (nar .byte v26), (nar .byte v31)] : List Int32)) + (own_F3 v34 v36 (1 : Int32) ([(nar .byte v6), (nar .byte v11), (nar .byte v16), (nar .byte v21), (nar .byte v26), (nar .byte v31)] : List Int32))))])) _
        refine XS.iadd X78'.here hx rfl (hb hby at_215) rfl ?_
        show Steps p.tables e below (T78.setTop (mkF m 216 #[.val (.long q0), .second, .val (.int p1), .val (.int p2), .val (.int p3), .val (.ref b2), .val (.int v34), .val (.int v36), .val (.int v69), .unset] [(.int (((own_F3 v34 v36 (0 : Int32) ([(nar .byte v6), (nar .byte v11), (nar .byte v16), (nar .byte v21), (nar .byte v26), (nar .byte v31)] : List Int32)) + (own_F3 v34 v36 (1 : Int32) ([(nar .byte v6), (nar .byte v11), (nar .byte v16), (nar .byte v21), (nar .byte v26), (nar .byte v31)] : List Int32))) + (own_F3 v34 v36 (2 : Int32) ([(nar .byte v6), (nar .byte v11), (nar .byte v16), (nar .byte v21), (nar .byte v26), (nar .byte v31)] : List Int32))))])) _
        refine XS.aload X78'.here hx rfl (hb hby at_216) rfl rfl ?_
        show Steps p.tables e below (T78.setTop (mkF m 218 #[.val (.long q0), .second, .val (.int p1), .val (.int p2), .val (.int p3), .val (.ref b2), .val (.int v34), .val (.int v36), .val (.int v69), .unset] [(.ref b2), (.int (((own_F3 v34 v36 (0 : Int32) ([(nar .byte v6), (nar .byte v11), (nar .byte v16), (nar .byte v21), (nar .byte v26), (nar .byte v31)] : List Int32)) + (own_F3 v34 v36 (1 : Int32) ([(nar .byte v6), (nar .byte v11), (nar .byte v16), (nar .byte v21), (nar .byte v26), (nar .byte v31)] : List Int32))) + (own_F3 v34 v36 (2 : Int32) ([(nar .byte v6), (nar .byte v11), (nar .byte v16), (nar .byte v21), (nar .byte v26), (nar .byte v31)] : List Int32))))])) _
        refine XS.iload X78'.here hx rfl (hb hby at_218) rfl ?_
        show Steps p.tables e below (T78.setTop (mkF m 220 #[.val (.long q0), .second, .val (.int p1), .val (.int p2), .val (.int p3), .val (.ref b2), .val (.int v34), .val (.int v36), .val (.int v69), .unset] [(.int v34), (.ref b2), (.int (((own_F3 v34 v36 (0 : Int32) ([(nar .byte v6), (nar .byte v11), (nar .byte v16), (nar .byte v21), (nar .byte v26), (nar .byte v31)] : List Int32)) + (own_F3 v34 v36 (1 : Int32) ([(nar .byte v6), (nar .byte v11), (nar .byte v16), (nar .byte v21), (nar .byte v26), (nar .byte v31)] : List Int32))) + (own_F3 v34 v36 (2 : Int32) ([(nar .byte v6), (nar .byte v11), (nar .byte v16), (nar .byte v21), (nar .byte v26), (nar .byte v31)] : List Int32))))])) _
        refine XS.iload X78'.here hx rfl (hb hby at_220) rfl ?_
        show Steps p.tables e below (T78.setTop (mkF m 222 #[.val (.long q0), .second, .val (.int p1), .val (.int p2), .val (.int p3), .val (.ref b2), .val (.int v34), .val (.int v36), .val (.int v69), .unset] [(.int v36), (.int v34), (.ref b2), (.int (((own_F3 v34 v36 (0 : Int32) ([(nar .byte v6), (nar .byte v11), (nar .byte v16), (nar .byte v21), (nar .byte v26), (nar .byte v31)] : List Int32)) + (own_F3 v34 v36 (1 : Int32) ([(nar .byte v6), (nar .byte v11), (nar .byte v16), (nar .byte v21), (nar .byte v26), (nar .byte v31)] : List Int32))) + (own_F3 v34 v36 (2 : Int32) ([(nar .byte v6), (nar .byte v11), (nar .byte v16), (nar .byte v21), (nar .byte v26), (nar .byte v31)] : List Int32))))])) _
        refine XS.iconst X78'.here hx rfl (hb hby at_222) ?_
        exact k
      obtain ⟨_, _, ⟨T80, L80, k80, n80⟩, -, X80, ⟨Lc80, hQ80, l80, y80, z80⟩, st80⟩ := Jvm.LawKit.callS X78' hx (y := (⟨"com/example/kazalo/kazalo/records/RecordNumberPinLaw", "term", "([BIII)I"⟩ : MethodName)) hown (mvT hZ (hw _ (List.mem_of_getElem? (i := 10) rfl))) (mvT hZ (hw _ (List.mem_of_getElem? (i := 11) rfl))) (mvT hZ (hw _ (List.mem_of_getElem? (i := 3) rfl))) (mvT hZ (hw _ (List.mem_of_getElem? (i := 12) rfl))) (by decide) (backOf (W := 1) (own_rm3 l Z a0 hw [] b2 v34 v36 (3 : Int32) ([(nar .byte v6), (nar .byte v11), (nar .byte v16), (nar .byte v21), (nar .byte v26), (nar .byte v31)] : List Int32) h32 n0 Zp33 V32 (own_hb hv34 hv36 (by decide))) hZ (hw _ (List.mem_of_getElem? (i := 12) rfl)) (hw _ (List.mem_of_getElem? (i := 3) rfl)) (by decide) (by decide)) (g := (mkF m 223 #[.val (.long q0), .second, .val (.int p1), .val (.int p2), .val (.int p3), .val (.ref b2), .val (.int v34), .val (.int v36), .val (.int v69), .unset] [(.int (3 : Int32)), (.int v36), (.int v34), (.ref b2), (.int (((own_F3 v34 v36 (0 : Int32) ([(nar .byte v6), (nar .byte v11), (nar .byte v16), (nar .byte v21), (nar .byte v26), (nar .byte v31)] : List Int32)) + (own_F3 v34 v36 (1 : Int32) ([(nar .byte v6), (nar .byte v11), (nar .byte v16), (nar .byte v21), (nar .byte v26), (nar .byte v31)] : List Int32))) + (own_F3 v34 v36 (2 : Int32) ([(nar .byte v6), (nar .byte v11), (nar .byte v16), (nar .byte v21), (nar .byte v26), (nar .byte v31)] : List Int32))))])) rfl (by rw [hml]; rfl) (argsL := [(.ref b2), (.int v34), (.int v36), (.int (3 : Int32))]) (rest := [(.int (((own_F3 v34 v36 (0 : Int32) ([(nar .byte v6), (nar .byte v11), (nar .byte v16), (nar .byte v21), (nar .byte v26), (nar .byte v31)] : List Int32)) + (own_F3 v34 v36 (1 : Int32) ([(nar .byte v6), (nar .byte v11), (nar .byte v16), (nar .byte v21), (nar .byte v26), (nar .byte v31)] : List Int32))) + (own_F3 v34 v36 (2 : Int32) ([(nar .byte v6), (nar .byte v11), (nar .byte v16), (nar .byte v21), (nar .byte v26), (nar .byte v31)] : List Int32))))]) (lenOf own_pd4 rfl) rfl (by show 2 * 0 + _ ≤ _; exact Nat.le_of_eq rfl) (hb hby at_223) (fun _ _ => ⟨rfl, e78, (by decide : 1 + 0 ≤ _), (by decide : 6 + 0 ≤ _)⟩)
      dsimp only [Pt.U, Pt.locs, Pt.cells, Pt.slots] at X80 l80 y80 z80 st80 hQ80
      subst y80 z80
      obtain ⟨rfl, rfl, e80⟩ := hQ80
      have X80' : Stand p l e room_1 s m #[(.long q0), (.int p1), (.int p2), (.int p3)] below meth c T80 L32 1 6 := by rw [show L80 = L32 from by rw [l80]; first | rfl | exact List.append_nil _] at X80; exact X80
      have st81 : ∀ t, Steps p.tables e below (T80.setTop (mkF m 234 #[.val (.long q0), .second, .val (.int p1), .val (.int p2), .val (.int p3), .val (.ref b2), .val (.int v34), .val (.int v36), .val (.int v69), .unset] [(.int (4 : Int32)), (.int v36), (.int v34), (.ref b2), (.int ((((own_F3 v34 v36 (0 : Int32) ([(nar .byte v6), (nar .byte v11), (nar .byte v16), (nar .byte v21), (nar .byte v26), (nar .byte v31)] : List Int32)) + (own_F3 v34 v36 (1 : Int32) ([(nar .byte v6), (nar .byte v11), (nar .byte v16), (nar .byte v21), (nar .byte v26), (nar .byte v31)] : List Int32))) + (own_F3 v34 v36 (2 : Int32) ([(nar .byte v6), (nar .byte v11), (nar .byte v16), (nar .byte v21), (nar .byte v26), (nar .byte v31)] : List Int32))) + (own_F3 v34 v36 (3 : Int32) ([(nar .byte v6), (nar .byte v11), (nar .byte v16), (nar .byte v21), (nar .byte v26), (nar .byte v31)] : List Int32))))])) t → Steps p.tables e below (T80.setTop (mkF m 226 #[.val (.long q0), .second, .val (.int p1), .val (.int p2), .val (.int p3), .val (.ref b2), .val (.int v34), .val (.int v36), .val (.int v69), .unset] [(.int (own_F3 v34 v36 (3 : Int32) ([(nar .byte v6), (nar .byte v11), (nar .byte v16), (nar .byte v21), (nar .byte v26), (nar .byte v31)] : List Int32))), (.int (((own_F3 v34 v36 (0 : Int32) ([(nar .byte v6), (nar .byte v11), (nar .byte v16), (nar .byte v21), (nar .byte v26), (nar .byte v31)] : List Int32)) + (own_F3 v34 v36 (1 : Int32) ([(nar .byte v6), (nar .byte v11), (nar .byte v16), (nar .byte v21), (nar .byte v26), (nar .byte v31)] : List Int32))) + (own_F3 v34 v36 (2 : Int32) ([(nar .byte v6), (nar .byte v11), (nar .byte v16), (nar .byte v21), (nar .byte v26), (nar .byte v31)] : List Int32))))])) t := by
        intro t k
        show Steps p.tables e below (T80.setTop (mkF m 226 #[.val (.long q0), .second, .val (.int p1), .val (.int p2), .val (.int p3), .val (.ref b2), .val (.int v34), .val (.int v36), .val (.int v69), .unset] [(.int (own_F3 v34 v36 (3 : Int32) ([(nar .byte v6), (nar .byte v11), (nar .byte v16), (nar .byte v21), (nar .byte v26), (nar .byte v31)] : List Int32))), (.int (((own_F3 v34 v36 (0 : Int32) ([(nar .byte v6), (nar .byte v11), (nar .byte v16), (nar .byte v21), (nar .byte v26), (nar .byte v31)] : List Int32)) + (own_F3 v34 v36 (1 : Int32) ([(nar .byte v6), (nar .byte v11), (nar .byte v16), (nar .byte v21), (nar .byte v26), (nar .byte v31)] : List Int32))) + (own_F3 v34 v36 (2 : Int32) ([(nar .byte v6), (nar .byte v11), (nar .byte v16), (nar .byte v21), (nar .byte v26), (nar .byte v31)] : List Int32))))])) _
        refine XS.iadd X80'.here hx rfl (hb hby at_226) rfl ?_
        show Steps p.tables e below (T80.setTop (mkF m 227 #[.val (.long q0), .second, .val (.int p1), .val (.int p2), .val (.int p3), .val (.ref b2), .val (.int v34), .val (.int v36), .val (.int v69), .unset] [(.int ((((own_F3 v34 v36 (0 : Int32) ([(nar .byte v6), (nar .byte v11), (nar .byte v16), (nar .byte v21), (nar .byte v26), (nar .byte v31)] : List Int32)) + (own_F3 v34 v36 (1 : Int32) ([(nar .byte v6), (nar .byte v11), (nar .byte v16), (nar .byte v21), (nar .byte v26), (nar .byte v31)] : List Int32))) + (own_F3 v34 v36 (2 : Int32) ([(nar .byte v6), (nar .byte v11), (nar .byte v16), (nar .byte v21), (nar .byte v26), (nar .byte v31)] : List Int32))) + (own_F3 v34 v36 (3 : Int32) ([(nar .byte v6), (nar .byte v11), (nar .byte v16), (nar .byte v21), (nar .byte v26), (nar .byte v31)] : List Int32))))])) _
        refine XS.aload X80'.here hx rfl (hb hby at_227) rfl rfl ?_
        show Steps p.tables e below (T80.setTop (mkF m 229 #[.val (.long q0), .second, .val (.int p1), .val (.int p2), .val (.int p3), .val (.ref b2), .val (.int v34), .val (.int v36), .val (.int v69), .unset] [(.ref b2), (.int ((((own_F3 v34 v36 (0 : Int32) ([(nar .byte v6), (nar .byte v11), (nar .byte v16), (nar .byte v21), (nar .byte v26), (nar .byte v31)] : List Int32)) + (own_F3 v34 v36 (1 : Int32) ([(nar .byte v6), (nar .byte v11), (nar .byte v16), (nar .byte v21), (nar .byte v26), (nar .byte v31)] : List Int32))) + (own_F3 v34 v36 (2 : Int32) ([(nar .byte v6), (nar .byte v11), (nar .byte v16), (nar .byte v21), (nar .byte v26), (nar .byte v31)] : List Int32))) + (own_F3 v34 v36 (3 : Int32) ([(nar .byte v6), (nar .byte v11), (nar .byte v16), (nar .byte v21), (nar .byte v26), (nar .byte v31)] : List Int32))))])) _
        refine XS.iload X80'.here hx rfl (hb hby at_229) rfl ?_
        show Steps p.tables e below (T80.setTop (mkF m 231 #[.val (.long q0), .second, .val (.int p1), .val (.int p2), .val (.int p3), .val (.ref b2), .val (.int v34), .val (.int v36), .val (.int v69), .unset] [(.int v34), (.ref b2), (.int ((((own_F3 v34 v36 (0 : Int32) ([(nar .byte v6), (nar .byte v11), (nar .byte v16), (nar .byte v21), (nar .byte v26), (nar .byte v31)] : List Int32)) + (own_F3 v34 v36 (1 : Int32) ([(nar .byte v6), (nar .byte v11), (nar .byte v16), (nar .byte v21), (nar .byte v26), (nar .byte v31)] : List Int32))) + (own_F3 v34 v36 (2 : Int32) ([(nar .byte v6), (nar .byte v11), (nar .byte v16), (nar .byte v21), (nar .byte v26), (nar .byte v31)] : List Int32))) + (own_F3 v34 v36 (3 : Int32) ([(nar .byte v6), (nar .byte v11), (nar .byte v16), (nar .byte v21), (nar .byte v26), (nar .byte v31)] : List Int32))))])) _
        refine XS.iload X80'.here hx rfl (hb hby at_231) rfl ?_
        show Steps p.tables e below (T80.setTop (mkF m 233 #[.val (.long q0), .second, .val (.int p1), .val (.int p2), .val (.int p3), .val (.ref b2), .val (.int v34), .val (.int v36), .val (.int v69), .unset] [(.int v36), (.int v34), (.ref b2), (.int ((((own_F3 v34 v36 (0 : Int32) ([(nar .byte v6), (nar .byte v11), (nar .byte v16), (nar .byte v21), (nar .byte v26), (nar .byte v31)] : List Int32)) + (own_F3 v34 v36 (1 : Int32) ([(nar .byte v6), (nar .byte v11), (nar .byte v16), (nar .byte v21), (nar .byte v26), (nar .byte v31)] : List Int32))) + (own_F3 v34 v36 (2 : Int32) ([(nar .byte v6), (nar .byte v11), (nar .byte v16), (nar .byte v21), (nar .byte v26), (nar .byte v31)] : List Int32))) + (own_F3 v34 v36 (3 : Int32) ([(nar .byte v6), (nar .byte v11), (nar .byte v16), (nar .byte v21), (nar .byte v26), (nar .byte v31)] : List Int32))))])) _
        refine XS.iconst X80'.here hx rfl (hb hby at_233) ?_
        exact k
      obtain ⟨_, _, ⟨T82, L82, k82, n82⟩, -, X82, ⟨Lc82, hQ82, l82, y82, z82⟩, st82⟩ := Jvm.LawKit.callS X80' hx (y := (⟨"com/example/kazalo/kazalo/records/RecordNumberPinLaw", "term", "([BIII)I"⟩ : MethodName)) hown (mvT hZ (hw _ (List.mem_of_getElem? (i := 10) rfl))) (mvT hZ (hw _ (List.mem_of_getElem? (i := 11) rfl))) (mvT hZ (hw _ (List.mem_of_getElem? (i := 3) rfl))) (mvT hZ (hw _ (List.mem_of_getElem? (i := 12) rfl))) (by decide) (backOf (W := 1) (own_rm3 l Z a0 hw [] b2 v34 v36 (4 : Int32) ([(nar .byte v6), (nar .byte v11), (nar .byte v16), (nar .byte v21), (nar .byte v26), (nar .byte v31)] : List Int32) h32 n0 Zp33 V32 (own_hb hv34 hv36 (by decide))) hZ (hw _ (List.mem_of_getElem? (i := 12) rfl)) (hw _ (List.mem_of_getElem? (i := 3) rfl)) (by decide) (by decide)) (g := (mkF m 234 #[.val (.long q0), .second, .val (.int p1), .val (.int p2), .val (.int p3), .val (.ref b2), .val (.int v34), .val (.int v36), .val (.int v69), .unset] [(.int (4 : Int32)), (.int v36), (.int v34), (.ref b2), (.int ((((own_F3 v34 v36 (0 : Int32) ([(nar .byte v6), (nar .byte v11), (nar .byte v16), (nar .byte v21), (nar .byte v26), (nar .byte v31)] : List Int32)) + (own_F3 v34 v36 (1 : Int32) ([(nar .byte v6), (nar .byte v11), (nar .byte v16), (nar .byte v21), (nar .byte v26), (nar .byte v31)] : List Int32))) + (own_F3 v34 v36 (2 : Int32) ([(nar .byte v6), (nar .byte v11), (nar .byte v16), (nar .byte v21), (nar .byte v26), (nar .byte v31)] : List Int32))) + (own_F3 v34 v36 (3 : Int32) ([(nar .byte v6), (nar .byte v11), (nar .byte v16), (nar .byte v21), (nar .byte v26), (nar .byte v31)] : List Int32))))])) rfl (by rw [hml]; rfl) (argsL := [(.ref b2), (.int v34), (.int v36), (.int (4 : Int32))]) (rest := [(.int ((((own_F3 v34 v36 (0 : Int32) ([(nar .byte v6), (nar .byte v11), (nar .byte v16), (nar .byte v21), (nar .byte v26), (nar .byte v31)] : List Int32)) + (own_F3 v34 v36 (1 : Int32) ([(nar .byte v6), (nar .byte v11), (nar .byte v16), (nar .byte v21), (nar .byte v26), (nar .byte v31)] : List Int32))) + (own_F3 v34 v36 (2 : Int32) ([(nar .byte v6), (nar .byte v11), (nar .byte v16), (nar .byte v21), (nar .byte v26), (nar .byte v31)] : List Int32))) + (own_F3 v34 v36 (3 : Int32) ([(nar .byte v6), (nar .byte v11), (nar .byte v16), (nar .byte v21), (nar .byte v26), (nar .byte v31)] : List Int32))))]) (lenOf own_pd4 rfl) rfl (by show 2 * 0 + _ ≤ _; exact Nat.le_of_eq rfl) (hb hby at_234) (fun _ _ => ⟨rfl, e80, (by decide : 1 + 0 ≤ _), (by decide : 6 + 0 ≤ _)⟩)
      dsimp only [Pt.U, Pt.locs, Pt.cells, Pt.slots] at X82 l82 y82 z82 st82 hQ82
      subst y82 z82
      obtain ⟨rfl, rfl, e82⟩ := hQ82
      have X82' : Stand p l e room_1 s m #[(.long q0), (.int p1), (.int p2), (.int p3)] below meth c T82 L32 1 6 := by rw [show L82 = L32 from by rw [l82]; first | rfl | exact List.append_nil _] at X82; exact X82
      have st83 : ∀ t, Steps p.tables e below (T82.setTop (mkF m 245 #[.val (.long q0), .second, .val (.int p1), .val (.int p2), .val (.int p3), .val (.ref b2), .val (.int v34), .val (.int v36), .val (.int v69), .unset] [(.int (5 : Int32)), (.int v36), (.int v34), (.ref b2), (.int (((((own_F3 v34 v36 (0 : Int32) ([(nar .byte v6), (nar .byte v11), (nar .byte v16), (nar .byte v21), (nar .byte v26), (nar .byte v31)] : List Int32)) + (own_F3 v34 v36 (1 : Int32) ([(nar .byte v6), (nar .byte v11), (nar .byte v16), (nar .byte v21), (nar .byte v26), (nar .byte v31)] : List Int32))) + (own_F3 v34 v36 (2 : Int32) ([(nar .byte v6), (nar .byte v11), (nar .byte v16), (nar .byte v21), (nar .byte v26), (nar .byte v31)] : List Int32))) + (own_F3 v34 v36 (3 : Int32) ([(nar .byte v6), (nar .byte v11), (nar .byte v16), (nar .byte v21), (nar .byte v26), (nar .byte v31)] : List Int32))) + (own_F3 v34 v36 (4 : Int32) ([(nar .byte v6), (nar .byte v11), (nar .byte v16), (nar .byte v21), (nar .byte v26), (nar .byte v31)] : List Int32))))])) t → Steps p.tables e below (T82.setTop (mkF m 237 #[.val (.long q0), .second, .val (.int p1), .val (.int p2), .val (.int p3), .val (.ref b2), .val (.int v34), .val (.int v36), .val (.int v69), .unset] [(.int (own_F3 v34 v36 (4 : Int32) ([(nar .byte v6), (nar .byte v11), (nar .byte v16), (nar .byte v21), (nar .byte v26), (nar .byte v31)] : List Int32))), (.int ((((own_F3 v34 v36 (0 : Int32) ([(nar .byte v6), (nar .byte v11), (nar .byte v16), (nar .byte v21), (nar .byte v26), (nar .byte v31)] : List Int32)) + (own_F3 v34 v36 (1 : Int32) ([(nar .byte v6), (nar .byte v11), (nar .byte v16), (nar .byte v21), (nar .byte v26), (nar .byte v31)] : List Int32))) + (own_F3 v34 v36 (2 : Int32) ([(nar .byte v6), (nar .byte v11), (nar .byte v16), (nar .byte v21), (nar .byte v26), (nar .byte v31)] : List Int32))) + (own_F3 v34 v36 (3 : Int32) ([(nar .byte v6), (nar .byte v11), (nar .byte v16), (nar .byte v21), (nar .byte v26), (nar .byte v31)] : List Int32))))])) t := by
        intro t k
        show Steps p.tables e below (T82.setTop (mkF m 237 #[.val (.long q0), .second, .val (.int p1), .val (.int p2), .val (.int p3), .val (.ref b2), .val (.int v34), .val (.int v36), .val (.int v69), .unset] [(.int (own_F3 v34 v36 (4 : Int32) ([(nar .byte v6), (nar .byte v11), (nar .byte v16), (nar .byte v21), (nar .byte v26), (nar .byte v31)] : List Int32))), (.int ((((own_F3 v34 v36 (0 : Int32) ([(nar .byte v6), (nar .byte v11), (nar .byte v16), (nar .byte v21), (nar .byte v26), (nar .byte v31)] : List Int32)) + (own_F3 v34 v36 (1 : Int32) ([(nar .byte v6), (nar .byte v11), (nar .byte v16), (nar .byte v21), (nar .byte v26), (nar .byte v31)] : List Int32))) + (own_F3 v34 v36 (2 : Int32) ([(nar .byte v6), (nar .byte v11), (nar .byte v16), (nar .byte v21), (nar .byte v26), (nar .byte v31)] : List Int32))) + (own_F3 v34 v36 (3 : Int32) ([(nar .byte v6), (nar .byte v11), (nar .byte v16), (nar .byte v21), (nar .byte v26), (nar .byte v31)] : List Int32))))])) _
        refine XS.iadd X82'.here hx rfl (hb hby at_237) rfl ?_
        show Steps p.tables e below (T82.setTop (mkF m 238 #[.val (.long q0), .second, .val (.int p1), .val (.int p2), .val (.int p3), .val (.ref b2), .val (.int v34), .val (.int v36), .val (.int v69), .unset] [(.int (((((own_F3 v34 v36 (0 : Int32) ([(nar .byte v6), (nar .byte v11), (nar .byte v16), (nar .byte v21), (nar .byte v26), (nar .byte v31)] : List Int32)) + (own_F3 v34 v36 (1 : Int32) ([(nar .byte v6), (nar .byte v11), (nar .byte v16), (nar .byte v21), (nar .byte v26), (nar .byte v31)] : List Int32))) + (own_F3 v34 v36 (2 : Int32) ([(nar .byte v6), (nar .byte v11), (nar .byte v16), (nar .byte v21), (nar .byte v26), (nar .byte v31)] : List Int32))) + (own_F3 v34 v36 (3 : Int32) ([(nar .byte v6), (nar .byte v11), (nar .byte v16), (nar .byte v21), (nar .byte v26), (nar .byte v31)] : List Int32))) + (own_F3 v34 v36 (4 : Int32) ([(nar .byte v6), (nar .byte v11), (nar .byte v16), (nar .byte v21), (nar .byte v26), (nar .byte v31)] : List Int32))))])) _
        refine XS.aload X82'.here hx rfl (hb hby at_238) rfl rfl ?_
        show Steps p.tables e below (T82.setTop (mkF m 240 #[.val (.long q0), .second, .val (.int p1), .val (.int p2), .val (.int p3), .val (.ref b2), .val (.int v34), .val (.int v36), .val (.int v69), .unset] [(.ref b2), (.int (((((own_F3 v34 v36 (0 : Int32) ([(nar .byte v6), (nar .byte v11), (nar .byte v16), (nar .byte v21), (nar .byte v26), (nar .byte v31)] : List Int32)) + (own_F3 v34 v36 (1 : Int32) ([(nar .byte v6), (nar .byte v11), (nar .byte v16), (nar .byte v21), (nar .byte v26), (nar .byte v31)] : List Int32))) + (own_F3 v34 v36 (2 : Int32) ([(nar .byte v6), (nar .byte v11), (nar .byte v16), (nar .byte v21), (nar .byte v26), (nar .byte v31)] : List Int32))) + (own_F3 v34 v36 (3 : Int32) ([(nar .byte v6), (nar .byte v11), (nar .byte v16), (nar .byte v21), (nar .byte v26), (nar .byte v31)] : List Int32))) + (own_F3 v34 v36 (4 : Int32) ([(nar .byte v6), (nar .byte v11), (nar .byte v16), (nar .byte v21), (nar .byte v26), (nar .byte v31)] : List Int32))))])) _
        refine XS.iload X82'.here hx rfl (hb hby at_240) rfl ?_
        show Steps p.tables e below (T82.setTop (mkF m 242 #[.val (.long q0), .second, .val (.int p1), .val (.int p2), .val (.int p3), .val (.ref b2), .val (.int v34), .val (.int v36), .val (.int v69), .unset] [(.int v34), (.ref b2), (.int (((((own_F3 v34 v36 (0 : Int32) ([(nar .byte v6), (nar .byte v11), (nar .byte v16), (nar .byte v21), (nar .byte v26), (nar .byte v31)] : List Int32)) + (own_F3 v34 v36 (1 : Int32) ([(nar .byte v6), (nar .byte v11), (nar .byte v16), (nar .byte v21), (nar .byte v26), (nar .byte v31)] : List Int32))) + (own_F3 v34 v36 (2 : Int32) ([(nar .byte v6), (nar .byte v11), (nar .byte v16), (nar .byte v21), (nar .byte v26), (nar .byte v31)] : List Int32))) + (own_F3 v34 v36 (3 : Int32) ([(nar .byte v6), (nar .byte v11), (nar .byte v16), (nar .byte v21), (nar .byte v26), (nar .byte v31)] : List Int32))) + (own_F3 v34 v36 (4 : Int32) ([(nar .byte v6), (nar .byte v11), (nar .byte v16), (nar .byte v21), (nar .byte v26), (nar .byte v31)] : List Int32))))])) _
        refine XS.iload X82'.here hx rfl (hb hby at_242) rfl ?_
        show Steps p.tables e below (T82.setTop (mkF m 244 #[.val (.long q0), .second, .val (.int p1), .val (.int p2), .val (.int p3), .val (.ref b2), .val (.int v34), .val (.int v36), .val (.int v69), .unset] [(.int v36), (.int v34), (.ref b2), (.int (((((own_F3 v34 v36 (0 : Int32) ([(nar .byte v6), (nar .byte v11), (nar .byte v16), (nar .byte v21), (nar .byte v26), (nar .byte v31)] : List Int32)) + (own_F3 v34 v36 (1 : Int32) ([(nar .byte v6), (nar .byte v11), (nar .byte v16), (nar .byte v21), (nar .byte v26), (nar .byte v31)] : List Int32))) + (own_F3 v34 v36 (2 : Int32) ([(nar .byte v6), (nar .byte v11), (nar .byte v16), (nar .byte v21), (nar .byte v26), (nar .byte v31)] : List Int32))) + (own_F3 v34 v36 (3 : Int32) ([(nar .byte v6), (nar .byte v11), (nar .byte v16), (nar .byte v21), (nar .byte v26), (nar .byte v31)] : List Int32))) + (own_F3 v34 v36 (4 : Int32) ([(nar .byte v6), (nar .byte v11), (nar .byte v16), (nar .byte v21), (nar .byte v26), (nar .byte v31)] : List Int32))))])) _
        refine XS.iconst X82'.here hx rfl (hb hby at_244) ?_
        exact k
      obtain ⟨_, _, ⟨T84, L84, k84, n84⟩, -, X84, ⟨Lc84, hQ84, l84, y84, z84⟩, st84⟩ := Jvm.LawKit.callS X82' hx (y := (⟨"com/example/kazalo/kazalo/records/RecordNumberPinLaw", "term", "([BIII)I"⟩ : MethodName)) hown (mvT hZ (hw _ (List.mem_of_getElem? (i := 10) rfl))) (mvT hZ (hw _ (List.mem_of_getElem? (i := 11) rfl))) (mvT hZ (hw _ (List.mem_of_getElem? (i := 3) rfl))) (mvT hZ (hw _ (List.mem_of_getElem? (i := 12) rfl))) (by decide) (backOf (W := 1) (own_rm3 l Z a0 hw [] b2 v34 v36 (5 : Int32) ([(nar .byte v6), (nar .byte v11), (nar .byte v16), (nar .byte v21), (nar .byte v26), (nar .byte v31)] : List Int32) h32 n0 Zp33 V32 (own_hb hv34 hv36 (by decide))) hZ (hw _ (List.mem_of_getElem? (i := 12) rfl)) (hw _ (List.mem_of_getElem? (i := 3) rfl)) (by decide) (by decide)) (g := (mkF m 245 #[.val (.long q0), .second, .val (.int p1), .val (.int p2), .val (.int p3), .val (.ref b2), .val (.int v34), .val (.int v36), .val (.int v69), .unset] [(.int (5 : Int32)), (.int v36), (.int v34), (.ref b2), (.int (((((own_F3 v34 v36 (0 : Int32) ([(nar .byte v6), (nar .byte v11), (nar .byte v16), (nar .byte v21), (nar .byte v26), (nar .byte v31)] : List Int32)) + (own_F3 v34 v36 (1 : Int32) ([(nar .byte v6), (nar .byte v11), (nar .byte v16), (nar .byte v21), (nar .byte v26), (nar .byte v31)] : List Int32))) + (own_F3 v34 v36 (2 : Int32) ([(nar .byte v6), (nar .byte v11), (nar .byte v16), (nar .byte v21), (nar .byte v26), (nar .byte v31)] : List Int32))) + (own_F3 v34 v36 (3 : Int32) ([(nar .byte v6), (nar .byte v11), (nar .byte v16), (nar .byte v21), (nar .byte v26), (nar .byte v31)] : List Int32))) + (own_F3 v34 v36 (4 : Int32) ([(nar .byte v6), (nar .byte v11), (nar .byte v16), (nar .byte v21), (nar .byte v26), (nar .byte v31)] : List Int32))))])) rfl (by rw [hml]; rfl) (argsL := [(.ref b2), (.int v34), (.int v36), (.int (5 : Int32))]) (rest := [(.int (((((own_F3 v34 v36 (0 : Int32) ([(nar .byte v6), (nar .byte v11), (nar .byte v16), (nar .byte v21), (nar .byte v26), (nar .byte v31)] : List Int32)) + (own_F3 v34 v36 (1 : Int32) ([(nar .byte v6), (nar .byte v11), (nar .byte v16), (nar .byte v21), (nar .byte v26), (nar .byte v31)] : List Int32))) + (own_F3 v34 v36 (2 : Int32) ([(nar .byte v6), (nar .byte v11), (nar .byte v16), (nar .byte v21), (nar .byte v26), (nar .byte v31)] : List Int32))) + (own_F3 v34 v36 (3 : Int32) ([(nar .byte v6), (nar .byte v11), (nar .byte v16), (nar .byte v21), (nar .byte v26), (nar .byte v31)] : List Int32))) + (own_F3 v34 v36 (4 : Int32) ([(nar .byte v6), (nar .byte v11), (nar .byte v16), (nar .byte v21), (nar .byte v26), (nar .byte v31)] : List Int32))))]) (lenOf own_pd4 rfl) rfl (by show 2 * 0 + _ ≤ _; exact Nat.le_of_eq rfl) (hb hby at_245) (fun _ _ => ⟨rfl, e82, (by decide : 1 + 0 ≤ _), (by decide : 6 + 0 ≤ _)⟩)
      dsimp only [Pt.U, Pt.locs, Pt.cells, Pt.slots] at X84 l84 y84 z84 st84 hQ84
      subst y84 z84
      obtain ⟨rfl, rfl, e84⟩ := hQ84
      have X84' : Stand p l e room_1 s m #[(.long q0), (.int p1), (.int p2), (.int p3)] below meth c T84 L32 1 6 := by rw [show L84 = L32 from by rw [l84]; first | rfl | exact List.append_nil _] at X84; exact X84
      have st85 : ∀ t, Steps p.tables e below (T84.setTop (mkF m 251 #[.val (.long q0), .second, .val (.int p1), .val (.int p2), .val (.int p3), .val (.ref b2), .val (.int v34), .val (.int v36), .val (.int v69), .val (.int ((((((own_F3 v34 v36 (0 : Int32) ([(nar .byte v6), (nar .byte v11), (nar .byte v16), (nar .byte v21), (nar .byte v26), (nar .byte v31)] : List Int32)) + (own_F3 v34 v36 (1 : Int32) ([(nar .byte v6), (nar .byte v11), (nar .byte v16), (nar .byte v21), (nar .byte v26), (nar .byte v31)] : List Int32))) + (own_F3 v34 v36 (2 : Int32) ([(nar .byte v6), (nar .byte v11), (nar .byte v16), (nar .byte v21), (nar .byte v26), (nar .byte v31)] : List Int32))) + (own_F3 v34 v36 (3 : Int32) ([(nar .byte v6), (nar .byte v11), (nar .byte v16), (nar .byte v21), (nar .byte v26), (nar .byte v31)] : List Int32))) + (own_F3 v34 v36 (4 : Int32) ([(nar .byte v6), (nar .byte v11), (nar .byte v16), (nar .byte v21), (nar .byte v26), (nar .byte v31)] : List Int32))) + (own_F3 v34 v36 (5 : Int32) ([(nar .byte v6), (nar .byte v11), (nar .byte v16), (nar .byte v21), (nar .byte v26), (nar .byte v31)] : List Int32))))] [])) t → Steps p.tables e below (T84.setTop (mkF m 248 #[.val (.long q0), .second, .val (.int p1), .val (.int p2), .val (.int p3), .val (.ref b2), .val (.int v34), .val (.int v36), .val (.int v69), .unset] [(.int (own_F3 v34 v36 (5 : Int32) ([(nar .byte v6), (nar .byte v11), (nar .byte v16), (nar .byte v21), (nar .byte v26), (nar .byte v31)] : List Int32))), (.int (((((own_F3 v34 v36 (0 : Int32) ([(nar .byte v6), (nar .byte v11), (nar .byte v16), (nar .byte v21), (nar .byte v26), (nar .byte v31)] : List Int32)) + (own_F3 v34 v36 (1 : Int32) ([(nar .byte v6), (nar .byte v11), (nar .byte v16), (nar .byte v21), (nar .byte v26), (nar .byte v31)] : List Int32))) + (own_F3 v34 v36 (2 : Int32) ([(nar .byte v6), (nar .byte v11), (nar .byte v16), (nar .byte v21), (nar .byte v26), (nar .byte v31)] : List Int32))) + (own_F3 v34 v36 (3 : Int32) ([(nar .byte v6), (nar .byte v11), (nar .byte v16), (nar .byte v21), (nar .byte v26), (nar .byte v31)] : List Int32))) + (own_F3 v34 v36 (4 : Int32) ([(nar .byte v6), (nar .byte v11), (nar .byte v16), (nar .byte v21), (nar .byte v26), (nar .byte v31)] : List Int32))))])) t := by
        intro t k
        show Steps p.tables e below (T84.setTop (mkF m 248 #[.val (.long q0), .second, .val (.int p1), .val (.int p2), .val (.int p3), .val (.ref b2), .val (.int v34), .val (.int v36), .val (.int v69), .unset] [(.int (own_F3 v34 v36 (5 : Int32) ([(nar .byte v6), (nar .byte v11), (nar .byte v16), (nar .byte v21), (nar .byte v26), (nar .byte v31)] : List Int32))), (.int (((((own_F3 v34 v36 (0 : Int32) ([(nar .byte v6), (nar .byte v11), (nar .byte v16), (nar .byte v21), (nar .byte v26), (nar .byte v31)] : List Int32)) + (own_F3 v34 v36 (1 : Int32) ([(nar .byte v6), (nar .byte v11), (nar .byte v16), (nar .byte v21), (nar .byte v26), (nar .byte v31)] : List Int32))) + (own_F3 v34 v36 (2 : Int32) ([(nar .byte v6), (nar .byte v11), (nar .byte v16), (nar .byte v21), (nar .byte v26), (nar .byte v31)] : List Int32))) + (own_F3 v34 v36 (3 : Int32) ([(nar .byte v6), (nar .byte v11), (nar .byte v16), (nar .byte v21), (nar .byte v26), (nar .byte v31)] : List Int32))) + (own_F3 v34 v36 (4 : Int32) ([(nar .byte v6), (nar .byte v11), (nar .byte v16), (nar .byte v21), (nar .byte v26), (nar .byte v31)] : List Int32))))])) _
        refine XS.iadd X84'.here hx rfl (hb hby at_248) rfl ?_
        show Steps p.tables e below (T84.setTop (mkF m 249 #[.val (.long q0), .second, .val (.int p1), .val (.int p2), .val (.int p3), .val (.ref b2), .val (.int v34), .val (.int v36), .val (.int v69), .unset] [(.int ((((((own_F3 v34 v36 (0 : Int32) ([(nar .byte v6), (nar .byte v11), (nar .byte v16), (nar .byte v21), (nar .byte v26), (nar .byte v31)] : List Int32)) + (own_F3 v34 v36 (1 : Int32) ([(nar .byte v6), (nar .byte v11), (nar .byte v16), (nar .byte v21), (nar .byte v26), (nar .byte v31)] : List Int32))) + (own_F3 v34 v36 (2 : Int32) ([(nar .byte v6), (nar .byte v11), (nar .byte v16), (nar .byte v21), (nar .byte v26), (nar .byte v31)] : List Int32))) + (own_F3 v34 v36 (3 : Int32) ([(nar .byte v6), (nar .byte v11), (nar .byte v16), (nar .byte v21), (nar .byte v26), (nar .byte v31)] : List Int32))) + (own_F3 v34 v36 (4 : Int32) ([(nar .byte v6), (nar .byte v11), (nar .byte v16), (nar .byte v21), (nar .byte v26), (nar .byte v31)] : List Int32))) + (own_F3 v34 v36 (5 : Int32) ([(nar .byte v6), (nar .byte v11), (nar .byte v16), (nar .byte v21), (nar .byte v26), (nar .byte v31)] : List Int32))))])) _
        refine XS.istore X84'.here hx rfl (hb hby at_249) rfl (l' := #[.val (.long q0), .second, .val (.int p1), .val (.int p2), .val (.int p3), .val (.ref b2), .val (.int v34), .val (.int v36), .val (.int v69), .val (.int ((((((own_F3 v34 v36 (0 : Int32) ([(nar .byte v6), (nar .byte v11), (nar .byte v16), (nar .byte v21), (nar .byte v26), (nar .byte v31)] : List Int32)) + (own_F3 v34 v36 (1 : Int32) ([(nar .byte v6), (nar .byte v11), (nar .byte v16), (nar .byte v21), (nar .byte v26), (nar .byte v31)] : List Int32))) + (own_F3 v34 v36 (2 : Int32) ([(nar .byte v6), (nar .byte v11), (nar .byte v16), (nar .byte v21), (nar .byte v26), (nar .byte v31)] : List Int32))) + (own_F3 v34 v36 (3 : Int32) ([(nar .byte v6), (nar .byte v11), (nar .byte v16), (nar .byte v21), (nar .byte v26), (nar .byte v31)] : List Int32))) + (own_F3 v34 v36 (4 : Int32) ([(nar .byte v6), (nar .byte v11), (nar .byte v16), (nar .byte v21), (nar .byte v26), (nar .byte v31)] : List Int32))) + (own_F3 v34 v36 (5 : Int32) ([(nar .byte v6), (nar .byte v11), (nar .byte v16), (nar .byte v21), (nar .byte v26), (nar .byte v31)] : List Int32))))]) rfl ?_
        exact k
      exact ⟨T84, X84', e84, fun t k => st73 _ (st74 _ (st75 _ (st76 _ (st77 _ (st78 _ (st79 _ (st80 _ (st81 _ (st82 _ (st83 _ (st84 _ (st85 _ k))))))))))))⟩
    · repeat rw [if_neg hc175_72]
      have st86 : ∀ t, Steps p.tables e below (T70.setTop (mkF m 251 #[.val (.long q0), .second, .val (.int p1), .val (.int p2), .val (.int p3), .val (.ref b2), .val (.int v34), .val (.int v36), .val (.int v69), .val (.int (-1 : Int32))] [])) t → Steps p.tables e below (T70.setTop (mkF m 175 #[.val (.long q0), .second, .val (.int p1), .val (.int p2), .val (.int p3), .val (.ref b2), .val (.int v34), .val (.int v36), .val (.int v69), .unset] [(.int v69)])) t := by
        intro t k
        show Steps p.tables e below (T70.setTop (mkF m 175 #[.val (.long q0), .second, .val (.int p1), .val (.int p2), .val (.int p3), .val (.ref b2), .val (.int v34), .val (.int v36), .val (.int v69), .unset] [(.int v69)])) _
        refine XS.ifNo X70.here hx rfl (hb hby at_175) rfl ((if0 _ _).trans (feq hc175_72).1) ?_
        show Steps p.tables e below (T70.setTop (mkF m 178 #[.val (.long q0), .second, .val (.int p1), .val (.int p2), .val (.int p3), .val (.ref b2), .val (.int v34), .val (.int v36), .val (.int v69), .unset] [])) _
        refine XS.iconst X70.here hx rfl (hb hby at_178) ?_
        show Steps p.tables e below (T70.setTop (mkF m 179 #[.val (.long q0), .second, .val (.int p1), .val (.int p2), .val (.int p3), .val (.ref b2), .val (.int v34), .val (.int v36), .val (.int v69), .unset] [(.int (-1 : Int32))])) _
        refine XS.istore X70.here hx rfl (hb hby at_179) rfl (l' := #[.val (.long q0), .second, .val (.int p1), .val (.int p2), .val (.int p3), .val (.ref b2), .val (.int v34), .val (.int v36), .val (.int v69), .val (.int (-1 : Int32))]) rfl ?_
        show Steps p.tables e below (T70.setTop (mkF m 181 #[.val (.long q0), .second, .val (.int p1), .val (.int p2), .val (.int p3), .val (.ref b2), .val (.int v34), .val (.int v36), .val (.int v69), .val (.int (-1 : Int32))] [])) _
        refine XS.goto X70.here hx rfl (pc0 := 181) (pc' := 251) rfl (hb hby at_181) (by decide) (by decide) ?_
        exact k
      exact ⟨T70, X70, e70, fun t k => st86 _ k⟩
  have st89 : ∀ t, Steps p.tables e below (T88.setTop (mkF m 257 #[.val (.long q0), .second, .val (.int p1), .val (.int p2), .val (.int p3), .val (.ref b2), .val (.int v34), .val (.int v36), .val (.int v69), .val (.int v87)] [(.int v36), (.int v34), (.ref b2)])) t → Steps p.tables e below (T88.setTop (mkF m 251 #[.val (.long q0), .second, .val (.int p1), .val (.int p2), .val (.int p3), .val (.ref b2), .val (.int v34), .val (.int v36), .val (.int v69), .val (.int v87)] [])) t := by
    intro t k
    show Steps p.tables e below (T88.setTop (mkF m 251 #[.val (.long q0), .second, .val (.int p1), .val (.int p2), .val (.int p3), .val (.ref b2), .val (.int v34), .val (.int v36), .val (.int v69), .val (.int v87)] [])) _
    refine XS.aload X88.here hx rfl (hb hby at_251) rfl rfl ?_
    show Steps p.tables e below (T88.setTop (mkF m 253 #[.val (.long q0), .second, .val (.int p1), .val (.int p2), .val (.int p3), .val (.ref b2), .val (.int v34), .val (.int v36), .val (.int v69), .val (.int v87)] [(.ref b2)])) _
    refine XS.iload X88.here hx rfl (hb hby at_253) rfl ?_
    show Steps p.tables e below (T88.setTop (mkF m 255 #[.val (.long q0), .second, .val (.int p1), .val (.int p2), .val (.int p3), .val (.ref b2), .val (.int v34), .val (.int v36), .val (.int v69), .val (.int v87)] [(.int v34), (.ref b2)])) _
    refine XS.iload X88.here hx rfl (hb hby at_255) rfl ?_
    exact k
  obtain ⟨_, _, ⟨T90, L90, k90, n90⟩, -, X90, ⟨Lc90, hQ90, l90, y90, z90⟩, st90⟩ := Jvm.LawKit.callS X88 hx (y := (⟨"com/example/kazalo/kazalo/records/Record", "number", "([BII)I"⟩ : MethodName)) hown (mvT hZ (hw _ (List.mem_of_getElem? (i := 13) rfl))) (mvT hZ (hw _ (List.mem_of_getElem? (i := 14) rfl))) (mvT hZ (hw _ (List.mem_of_getElem? (i := 15) rfl))) (mvT hZ (hw _ (List.mem_of_getElem? (i := 16) rfl))) (by decide) (backOf (W := 0) (own_rm4 l Z a0 hw [] b2 v34 v36 ([(nar .byte v6), (nar .byte v11), (nar .byte v16), (nar .byte v21), (nar .byte v26), (nar .byte v31)] : List Int32) h32 n0 Zp33 V32 ((own_fl hv34 hv36).1) ((own_fl hv34 hv36).2.1) ((own_fl hv34 hv36).2.2)) hZ (hw _ (List.mem_of_getElem? (i := 16) rfl)) (hw _ (List.mem_of_getElem? (i := 15) rfl)) (by decide) (by decide)) (g := (mkF m 257 #[.val (.long q0), .second, .val (.int p1), .val (.int p2), .val (.int p3), .val (.ref b2), .val (.int v34), .val (.int v36), .val (.int v69), .val (.int v87)] [(.int v36), (.int v34), (.ref b2)])) rfl (by rw [hml]; rfl) (argsL := [(.ref b2), (.int v34), (.int v36)]) (rest := []) (lenOf own_pd5 rfl) rfl (by show 2 * 0 + _ ≤ _; exact Nat.le_of_eq rfl) (hb hby at_257) (fun _ _ => ⟨rfl, e88, (by decide : 1 + 0 ≤ _), (by decide : 6 + 0 ≤ _)⟩)
  dsimp only [Pt.U, Pt.locs, Pt.cells, Pt.slots] at X90 l90 y90 z90 st90 hQ90
  subst y90 z90
  obtain ⟨rfl, rfl, e90⟩ := hQ90
  have X90' : Stand p l e room_1 s m #[(.long q0), (.int p1), (.int p2), (.int p3)] below meth c T90 L32 1 6 := by rw [show L90 = L32 from by rw [l90]; first | rfl | exact List.append_nil _] at X90; exact X90
  obtain ⟨v91, hv91⟩ : ∃ z : Int32, z = (own_F4 v34 v36 ([(nar .byte v6), (nar .byte v11), (nar .byte v16), (nar .byte v21), (nar .byte v26), (nar .byte v31)] : List Int32)) := ⟨_, rfl⟩
  rw [← hv91] at st90
  have st92 : ∀ t, Steps p.tables e below (T90.setTop (mkF m 262 #[.val (.long q0), .second, .val (.int p1), .val (.int p2), .val (.int p3), .val (.ref b2), .val (.int v34), .val (.int v36), .val (.int v69), .val (.int v87)] [(.int v87), (.int v91)])) t → Steps p.tables e below (T90.setTop (mkF m 260 #[.val (.long q0), .second, .val (.int p1), .val (.int p2), .val (.int p3), .val (.ref b2), .val (.int v34), .val (.int v36), .val (.int v69), .val (.int v87)] [(.int v91)])) t := by
    intro t k
    show Steps p.tables e below (T90.setTop (mkF m 260 #[.val (.long q0), .second, .val (.int p1), .val (.int p2), .val (.int p3), .val (.ref b2), .val (.int v34), .val (.int v36), .val (.int v69), .val (.int v87)] [(.int v91)])) _
    refine XS.iload X90'.here hx rfl (hb hby at_260) rfl ?_
    exact k
  refine own_End.go (fun t k => st1 _ (st2 _ (st4 _ (st5 _ (st7 _ (st9 _ (st10 _ (st12 _ (st14 _ (st15 _ (st17 _ (st19 _ (st20 _ (st22 _ (st24 _ (st25 _ (st27 _ (st29 _ (st30 _ (st32 _ (st35 _ (st37 _ (st38 _ (st39 _ (st70 _ (st71 _ (st88 _ (st89 _ (st90 _ (st92 _ k)))))))))))))))))))))))))))))) ?_
  by_cases hc262_93 : v91 = v87
  · have st94 : ∀ t, Steps p.tables e below (T90.setTop (mkF m 270 #[.val (.long q0), .second, .val (.int p1), .val (.int p2), .val (.int p3), .val (.ref b2), .val (.int v34), .val (.int v36), .val (.int v69), .val (.int v87)] [(.int (1 : Int32))])) t → Steps p.tables e below (T90.setTop (mkF m 262 #[.val (.long q0), .second, .val (.int p1), .val (.int p2), .val (.int p3), .val (.ref b2), .val (.int v34), .val (.int v36), .val (.int v69), .val (.int v87)] [(.int v87), (.int v91)])) t := by
      intro t k
      show Steps p.tables e below (T90.setTop (mkF m 262 #[.val (.long q0), .second, .val (.int p1), .val (.int p2), .val (.int p3), .val (.ref b2), .val (.int v34), .val (.int v36), .val (.int v69), .val (.int v87)] [(.int v87), (.int v91)])) _
      refine XS.icmpNo X90'.here hx rfl (hb hby at_262) rfl (teq hc262_93).2 ?_
      show Steps p.tables e below (T90.setTop (mkF m 265 #[.val (.long q0), .second, .val (.int p1), .val (.int p2), .val (.int p3), .val (.ref b2), .val (.int v34), .val (.int v36), .val (.int v69), .val (.int v87)] [])) _
      refine XS.iconst X90'.here hx rfl (hb hby at_265) ?_
      show Steps p.tables e below (T90.setTop (mkF m 266 #[.val (.long q0), .second, .val (.int p1), .val (.int p2), .val (.int p3), .val (.ref b2), .val (.int v34), .val (.int v36), .val (.int v69), .val (.int v87)] [(.int (1 : Int32))])) _
      refine XS.goto X90'.here hx rfl (pc0 := 266) (pc' := 270) rfl (hb hby at_266) (by decide) (by decide) ?_
      exact k
    refine own_End.go (fun t k => st94 _ k) ?_
    exact own_leafN X90' hx Bd.notSynchronized (t := .boolean) Bd.returns (by simp) (hb hby at_270) ⟨congrArg (fun z => some (Value.int z)) (own_e0_95 hv6 hv11 hv16 hv21 hv26 hv31 hv34 hv36 hv40 hv69 hv87 hv91 hc262_93), N32⟩ (by decide) (by decide)
  · have st96 : ∀ t, Steps p.tables e below (T90.setTop (mkF m 270 #[.val (.long q0), .second, .val (.int p1), .val (.int p2), .val (.int p3), .val (.ref b2), .val (.int v34), .val (.int v36), .val (.int v69), .val (.int v87)] [(.int (0 : Int32))])) t → Steps p.tables e below (T90.setTop (mkF m 262 #[.val (.long q0), .second, .val (.int p1), .val (.int p2), .val (.int p3), .val (.ref b2), .val (.int v34), .val (.int v36), .val (.int v69), .val (.int v87)] [(.int v87), (.int v91)])) t := by
      intro t k
      show Steps p.tables e below (T90.setTop (mkF m 262 #[.val (.long q0), .second, .val (.int p1), .val (.int p2), .val (.int p3), .val (.ref b2), .val (.int v34), .val (.int v36), .val (.int v69), .val (.int v87)] [(.int v87), (.int v91)])) _
      refine XS.icmpYes X90'.here hx rfl (pc0 := 262) (pc' := 269) rfl (hb hby at_262) rfl (feq hc262_93).2 (by decide) (by decide) ?_
      show Steps p.tables e below (T90.setTop (mkF m 269 #[.val (.long q0), .second, .val (.int p1), .val (.int p2), .val (.int p3), .val (.ref b2), .val (.int v34), .val (.int v36), .val (.int v69), .val (.int v87)] [])) _
      refine XS.iconst X90'.here hx rfl (hb hby at_269) ?_
      exact k
    refine own_End.go (fun t k => st96 _ k) ?_
    exact own_leafN X90' hx Bd.notSynchronized (t := .boolean) Bd.returns (by simp) (hb hby at_270) ⟨congrArg (fun z => some (Value.int z)) (own_e0_97 hv6 hv11 hv16 hv21 hv26 hv31 hv34 hv36 hv40 hv69 hv87 hv91 hc262_93), N32⟩ (by decide) (by decide)
/-- a turn, by the digit -/
theorem own_dig (e : Int32) : (e - (48 : Int32) < 0 ∨ (9 : Int32) < e - (48 : Int32)) ∧ own_F5 e = -1 ∨ ¬ (e - (48 : Int32) < 0) ∧ ¬ ((9 : Int32) < e - (48 : Int32)) ∧ own_F5 e = e - 48 ∧ ¬ own_F5 e < 0 := by
  have z0 : (0 : Int32).toInt = 0 := by decide
  have z9 : (9 : Int32).toInt = 9 := by decide
  have z48 : (48 : Int32).toInt = 48 := by decide
  have z57 : (57 : Int32).toInt = 57 := by decide
  have s := c_isub e 48
  have r := rng32 (e - 48)
  have r' := rng32 e
  by_cases h1 : e < 48
  · refine Or.inl ⟨?_, by simp only [own_F5, if_pos h1]⟩
    rw [Int32.lt_iff_toInt_lt] at h1
    by_cases q : e - 48 < 0
    · exact Or.inl q
    · refine Or.inr ?_
      rw [Int32.lt_iff_toInt_lt] at q ⊢
      omega
  · by_cases h2 : (57 : Int32) < e
    · refine Or.inl ⟨?_, by simp only [own_F5, if_neg h1, if_pos h2]⟩
      rw [Int32.lt_iff_toInt_lt] at h1 h2
      refine Or.inr ?_
      rw [Int32.lt_iff_toInt_lt]
      omega
    · have e5 : own_F5 e = e - 48 := by simp only [own_F5, if_neg h1, if_neg h2]
      rw [Int32.lt_iff_toInt_lt] at h1 h2
      have g1 : ¬ e - 48 < 0 := by rw [Int32.lt_iff_toInt_lt]; omega
      have g2 : ¬ (9 : Int32) < e - 48 := by rw [Int32.lt_iff_toInt_lt]; omega
      exact Or.inr ⟨g1, g2, e5, by rw [e5]; exact g1⟩
theorem own_up (f n : Int32) (L : List Int32) (fuel : Nat) {acc i i' : Int32} (h : i < f + n) (hi : i + 1 = i') : own_P4_5_0 f n L (fuel + 1) acc i = if own_F5 (List.getD L i.toInt.toNat 0) < 0 then -1 else own_P4_5_0 f n L fuel (acc * 10 + own_F5 (List.getD L i.toInt.toNat 0)) i' := by
  subst hi
  generalize he : List.getD L i.toInt.toNat 0 = e
  rcases own_dig e with ⟨h1, h2⟩ | ⟨h1, h2, h3, h4⟩
  · have : own_F5 e < 0 := by rw [h2]; decide
    rw [if_pos this]
    simp only [own_P4_5_0, if_pos h, he]
    rcases h1 with h1 | h1
    · rw [if_pos h1]
    · split
      · rfl
      · first | rfl | rw [if_pos h1]
  · rw [if_neg h4]
    simp only [own_P4_5_0, if_pos h, he, if_neg h1, if_neg h2, h3]
theorem own_end (f n : Int32) (L : List Int32) (fuel : Nat) {acc i : Int32} (h : ¬ i < f + n) : own_P4_5_0 f n L (fuel + 1) acc i = acc := by
  simp only [own_P4_5_0, if_neg h]
theorem own_dp (e : Int32) : own_F5 e < 0 → own_F5 e = -1 := fun h => by
  rcases own_dig e with ⟨h1, h2⟩ | ⟨h1, h2, h3, h4⟩
  · exact h2
  · exact absurd h h4
theorem own_b1 {f n k : Int32} (L : List Int32) (h : k < n) : own_F2 f n k L = if own_F5 (List.getD L (f + k).toInt.toNat 0) < 0 then 1 else 0 := by
  simp only [own_F2, if_pos h]
theorem own_b0 {f n k : Int32} (L : List Int32) (h : ¬ k < n) : own_F2 f n k L = 0 := by
  simp only [own_F2, if_neg h]
theorem own_t1 {f n k q : Int32} (L : List Int32) (h : k < n) (hq : own_F6 ((n - 1) - k) = q) : own_F3 f n k L = own_F5 (List.getD L (f + k).toInt.toNat 0) * q := by
  simp only [own_F3, if_pos h, hq]
theorem own_t0 {f n k : Int32} (L : List Int32) (h : ¬ k < n) : own_F3 f n k L = 0 := by
  simp only [own_F3, if_neg h]
theorem own_i (f j k : Int32) (h : j + 1 = k) : (f + j) + 1 = f + k := by rw [Int32.add_assoc, h]
theorem own_lt {f j k : Int32} (hf : 0 ≤ f.toInt ∧ f.toInt ≤ 6) (hj : 0 ≤ j.toInt ∧ j.toInt ≤ 6) (hk : 0 ≤ k.toInt ∧ k.toInt ≤ 6) (h : j.toInt < k.toInt) : f + j < f + k := by
  rw [Int32.lt_iff_toInt_lt]
  have a := c_iadd f j; have a' := c_iadd f k; have r := rng32 (f + j); have r' := rng32 (f + k)
  omega
def own_E (f n : Int32) (L : List Int32) : Int32 :=
  let b : Int32 := (if own_F2 f n (0 : Int32) L = (0 : Int32) then (if own_F2 f n (1 : Int32) L = (0 : Int32) then (if own_F2 f n (2 : Int32) L = (0 : Int32) then (if own_F2 f n (3 : Int32) L = (0 : Int32) then (if own_F2 f n (4 : Int32) L = (0 : Int32) then (if own_F2 f n (5 : Int32) L = (0 : Int32) then (0 : Int32) else (1 : Int32)) else (1 : Int32)) else (1 : Int32)) else (1 : Int32)) else (1 : Int32)) else (1 : Int32))
  (if b = (0 : Int32) then ((((((own_F3 f n (0 : Int32) L) + (own_F3 f n (1 : Int32) L)) + (own_F3 f n (2 : Int32) L)) + (own_F3 f n (3 : Int32) L)) + (own_F3 f n (4 : Int32) L)) + (own_F3 f n (5 : Int32) L)) else (-1 : Int32))
theorem own_r0 : (0 : Int32) = (((((0 + 0) + 0) + 0) + 0) + 0) := by rfl
theorem own_r1 (g0 : Int32) : ((0 * 10 + g0) : Int32) = (((((g0 * 1 + 0) + 0) + 0) + 0) + 0) := by grind
theorem own_r2 (g0 : Int32) (g1 : Int32) : (((0 * 10 + g0) * 10 + g1) : Int32) = (((((g0 * 10 + g1 * 1) + 0) + 0) + 0) + 0) := by grind
theorem own_r3 (g0 : Int32) (g1 : Int32) (g2 : Int32) : ((((0 * 10 + g0) * 10 + g1) * 10 + g2) : Int32) = (((((g0 * 100 + g1 * 10) + g2 * 1) + 0) + 0) + 0) := by grind
theorem own_r4 (g0 : Int32) (g1 : Int32) (g2 : Int32) (g3 : Int32) : (((((0 * 10 + g0) * 10 + g1) * 10 + g2) * 10 + g3) : Int32) = (((((g0 * 1000 + g1 * 100) + g2 * 10) + g3 * 1) + 0) + 0) := by grind
theorem own_r5 (g0 : Int32) (g1 : Int32) (g2 : Int32) (g3 : Int32) (g4 : Int32) : ((((((0 * 10 + g0) * 10 + g1) * 10 + g2) * 10 + g3) * 10 + g4) : Int32) = (((((g0 * 10000 + g1 * 1000) + g2 * 100) + g3 * 10) + g4 * 1) + 0) := by grind
theorem own_r6 (g0 : Int32) (g1 : Int32) (g2 : Int32) (g3 : Int32) (g4 : Int32) (g5 : Int32) : (((((((0 * 10 + g0) * 10 + g1) * 10 + g2) * 10 + g3) * 10 + g4) * 10 + g5) : Int32) = (((((g0 * 100000 + g1 * 10000) + g2 * 1000) + g3 * 100) + g4 * 10) + g5 * 1) := by grind
theorem own_n0 {f : Int32} (hf : 0 ≤ f.toInt ∧ f.toInt ≤ 6) (L : List Int32) (hL : L.length = 6) : own_F4 f 0 L = own_E f 0 L := by
  have e : own_F4 f 0 L = own_P4_5_0 f 0 L (6 + 1) 0 (f + 0) := by rw [Int32.add_zero]; unfold own_F4; rw [hL]
  rw [e]
  unfold own_E
  simp only []
  rw [own_b0 L (f := f) (n := 0) (k := 0) (by decide), own_b0 L (f := f) (n := 0) (k := 1) (by decide), own_b0 L (f := f) (n := 0) (k := 2) (by decide), own_b0 L (f := f) (n := 0) (k := 3) (by decide), own_b0 L (f := f) (n := 0) (k := 4) (by decide), own_b0 L (f := f) (n := 0) (k := 5) (by decide), own_t0 L (f := f) (n := 0) (k := 0) (by decide), own_t0 L (f := f) (n := 0) (k := 1) (by decide), own_t0 L (f := f) (n := 0) (k := 2) (by decide), own_t0 L (f := f) (n := 0) (k := 3) (by decide), own_t0 L (f := f) (n := 0) (k := 4) (by decide), own_t0 L (f := f) (n := 0) (k := 5) (by decide)]
  rw [own_end f 0 L 6 (fun q => Int32.lt_irrefl q)]
  rfl
theorem own_n1 {f : Int32} (hf : 0 ≤ f.toInt ∧ f.toInt ≤ 6) (L : List Int32) (hL : L.length = 6) : own_F4 f 1 L = own_E f 1 L := by
  have e : own_F4 f 1 L = own_P4_5_0 f 1 L (6 + 1) 0 (f + 0) := by rw [Int32.add_zero]; unfold own_F4; rw [hL]
  rw [e]
  unfold own_E
  simp only []
  rw [own_b1 L (f := f) (n := 1) (k := 0) (by decide), own_b0 L (f := f) (n := 1) (k := 1) (by decide), own_b0 L (f := f) (n := 1) (k := 2) (by decide), own_b0 L (f := f) (n := 1) (k := 3) (by decide), own_b0 L (f := f) (n := 1) (k := 4) (by decide), own_b0 L (f := f) (n := 1) (k := 5) (by decide), own_t1 L (f := f) (n := 1) (k := 0) (q := 1) (by decide) (by decide), own_t0 L (f := f) (n := 1) (k := 1) (by decide), own_t0 L (f := f) (n := 1) (k := 2) (by decide), own_t0 L (f := f) (n := 1) (k := 3) (by decide), own_t0 L (f := f) (n := 1) (k := 4) (by decide), own_t0 L (f := f) (n := 1) (k := 5) (by decide)]
  rw [own_up f 1 L 6 (own_lt hf (by decide) (by decide) (by decide)) (own_i f 0 1 (by decide))]
  obtain ⟨g0, hg0⟩ : ∃ z : Int32, z = own_F5 (List.getD L (f + 0).toInt.toNat 0) := ⟨_, rfl⟩
  rw [← hg0]
  by_cases c0 : g0 < 0
  · simp only [if_pos c0]; rfl
  · rw [if_neg c0]
    rw [own_end f 1 L 5 (fun q => Int32.lt_irrefl q)]
    simp only [if_neg c0, if_true]
    exact own_r1 g0
theorem own_n2 {f : Int32} (hf : 0 ≤ f.toInt ∧ f.toInt ≤ 6) (L : List Int32) (hL : L.length = 6) : own_F4 f 2 L = own_E f 2 L := by
  have e : own_F4 f 2 L = own_P4_5_0 f 2 L (6 + 1) 0 (f + 0) := by rw [Int32.add_zero]; unfold own_F4; rw [hL]
  rw [e]
  unfold own_E
  simp only []
  rw [own_b1 L (f := f) (n := 2) (k := 0) (by decide), own_b1 L (f := f) (n := 2) (k := 1) (by decide), own_b0 L (f := f) (n := 2) (k := 2) (by decide), own_b0 L (f := f) (n := 2) (k := 3) (by decide), own_b0 L (f := f) (n := 2) (k := 4) (by decide), own_b0 L (f := f) (n := 2) (k := 5) (by decide), own_t1 L (f := f) (n := 2) (k := 0) (q := 10) (by decide) (by decide), own_t1 L (f := f) (n := 2) (k := 1) (q := 1) (by decide) (by decide), own_t0 L (f := f) (n := 2) (k := 2) (by decide), own_t0 L (f := f) (n := 2) (k := 3) (by decide), own_t0 L (f := f) (n := 2) (k := 4) (by decide), own_t0 L (f := f) (n := 2) (k := 5) (by decide)]
  rw [own_up f 2 L 6 (own_lt hf (by decide) (by decide) (by decide)) (own_i f 0 1 (by decide))]
  obtain ⟨g0, hg0⟩ : ∃ z : Int32, z = own_F5 (List.getD L (f + 0).toInt.toNat 0) := ⟨_, rfl⟩
  rw [← hg0]
  by_cases c0 : g0 < 0
  · simp only [if_pos c0]; rfl
  · rw [if_neg c0]
    rw [own_up f 2 L 5 (own_lt hf (by decide) (by decide) (by decide)) (own_i f 1 2 (by decide))]
    obtain ⟨g1, hg1⟩ : ∃ z : Int32, z = own_F5 (List.getD L (f + 1).toInt.toNat 0) := ⟨_, rfl⟩
    rw [← hg1]
    by_cases c1 : g1 < 0
    · simp only [if_pos c1, if_neg c0]; rfl
    · rw [if_neg c1]
      rw [own_end f 2 L 4 (fun q => Int32.lt_irrefl q)]
      simp only [if_neg c0, if_neg c1, if_true]
      exact own_r2 g0 g1
theorem own_n3 {f : Int32} (hf : 0 ≤ f.toInt ∧ f.toInt ≤ 6) (L : List Int32) (hL : L.length = 6) : own_F4 f 3 L = own_E f 3 L := by
  have e : own_F4 f 3 L = own_P4_5_0 f 3 L (6 + 1) 0 (f + 0) := by rw [Int32.add_zero]; unfold own_F4; rw [hL]
  rw [e]
  unfold own_E
  simp only []
  rw [own_b1 L (f := f) (n := 3) (k := 0) (by decide), own_b1 L (f := f) (n := 3) (k := 1) (by decide), own_b1 L (f := f) (n := 3) (k := 2) (by decide), own_b0 L (f := f) (n := 3) (k := 3) (by decide), own_b0 L (f := f) (n := 3) (k := 4) (by decide), own_b0 L (f := f) (n := 3) (k := 5) (by decide), own_t1 L (f := f) (n := 3) (k := 0) (q := 100) (by decide) (by decide), own_t1 L (f := f) (n := 3) (k := 1) (q := 10) (by decide) (by decide), own_t1 L (f := f) (n := 3) (k := 2) (q := 1) (by decide) (by decide), own_t0 L (f := f) (n := 3) (k := 3) (by decide), own_t0 L (f := f) (n := 3) (k := 4) (by decide), own_t0 L (f := f) (n := 3) (k := 5) (by decide)]
  rw [own_up f 3 L 6 (own_lt hf (by decide) (by decide) (by decide)) (own_i f 0 1 (by decide))]
  obtain ⟨g0, hg0⟩ : ∃ z : Int32, z = own_F5 (List.getD L (f + 0).toInt.toNat 0) := ⟨_, rfl⟩
  rw [← hg0]
  by_cases c0 : g0 < 0
  · simp only [if_pos c0]; rfl
  · rw [if_neg c0]
    rw [own_up f 3 L 5 (own_lt hf (by decide) (by decide) (by decide)) (own_i f 1 2 (by decide))]
    obtain ⟨g1, hg1⟩ : ∃ z : Int32, z = own_F5 (List.getD L (f + 1).toInt.toNat 0) := ⟨_, rfl⟩
    rw [← hg1]
    by_cases c1 : g1 < 0
    · simp only [if_pos c1, if_neg c0]; rfl
    · rw [if_neg c1]
      rw [own_up f 3 L 4 (own_lt hf (by decide) (by decide) (by decide)) (own_i f 2 3 (by decide))]
      obtain ⟨g2, hg2⟩ : ∃ z : Int32, z = own_F5 (List.getD L (f + 2).toInt.toNat 0) := ⟨_, rfl⟩
      rw [← hg2]
      by_cases c2 : g2 < 0
      · simp only [if_pos c2, if_neg c0, if_neg c1]; rfl
      · rw [if_neg c2]
        rw [own_end f 3 L 3 (fun q => Int32.lt_irrefl q)]
        simp only [if_neg c0, if_neg c1, if_neg c2, if_true]
        exact own_r3 g0 g1 g2
theorem own_n4 {f : Int32} (hf : 0 ≤ f.toInt ∧ f.toInt ≤ 6) (L : List Int32) (hL : L.length = 6) : own_F4 f 4 L = own_E f 4 L := by
  have e : own_F4 f 4 L = own_P4_5_0 f 4 L (6 + 1) 0 (f + 0) := by rw [Int32.add_zero]; unfold own_F4; rw [hL]
  rw [e]
  unfold own_E
  simp only []
  rw [own_b1 L (f := f) (n := 4) (k := 0) (by decide), own_b1 L (f := f) (n := 4) (k := 1) (by decide), own_b1 L (f := f) (n := 4) (k := 2) (by decide), own_b1 L (f := f) (n := 4) (k := 3) (by decide), own_b0 L (f := f) (n := 4) (k := 4) (by decide), own_b0 L (f := f) (n := 4) (k := 5) (by decide), own_t1 L (f := f) (n := 4) (k := 0) (q := 1000) (by decide) (by decide), own_t1 L (f := f) (n := 4) (k := 1) (q := 100) (by decide) (by decide), own_t1 L (f := f) (n := 4) (k := 2) (q := 10) (by decide) (by decide), own_t1 L (f := f) (n := 4) (k := 3) (q := 1) (by decide) (by decide), own_t0 L (f := f) (n := 4) (k := 4) (by decide), own_t0 L (f := f) (n := 4) (k := 5) (by decide)]
  rw [own_up f 4 L 6 (own_lt hf (by decide) (by decide) (by decide)) (own_i f 0 1 (by decide))]
  obtain ⟨g0, hg0⟩ : ∃ z : Int32, z = own_F5 (List.getD L (f + 0).toInt.toNat 0) := ⟨_, rfl⟩
  rw [← hg0]
  by_cases c0 : g0 < 0
  · simp only [if_pos c0]; rfl
  · rw [if_neg c0]
    rw [own_up f 4 L 5 (own_lt hf (by decide) (by decide) (by decide)) (own_i f 1 2 (by decide))]
    obtain ⟨g1, hg1⟩ : ∃ z : Int32, z = own_F5 (List.getD L (f + 1).toInt.toNat 0) := ⟨_, rfl⟩
    rw [← hg1]
    by_cases c1 : g1 < 0
    · simp only [if_pos c1, if_neg c0]; rfl
    · rw [if_neg c1]
      rw [own_up f 4 L 4 (own_lt hf (by decide) (by decide) (by decide)) (own_i f 2 3 (by decide))]
      obtain ⟨g2, hg2⟩ : ∃ z : Int32, z = own_F5 (List.getD L (f + 2).toInt.toNat 0) := ⟨_, rfl⟩
      rw [← hg2]
      by_cases c2 : g2 < 0
      · simp only [if_pos c2, if_neg c0, if_neg c1]; rfl
      · rw [if_neg c2]
        rw [own_up f 4 L 3 (own_lt hf (by decide) (by decide) (by decide)) (own_i f 3 4 (by decide))]
        obtain ⟨g3, hg3⟩ : ∃ z : Int32, z = own_F5 (List.getD L (f + 3).toInt.toNat 0) := ⟨_, rfl⟩
        rw [← hg3]
        by_cases c3 : g3 < 0
        · simp only [if_pos c3, if_neg c0, if_neg c1, if_neg c2]; rfl
        · rw [if_neg c3]
          rw [own_end f 4 L 2 (fun q => Int32.lt_irrefl q)]
          simp only [if_neg c0, if_neg c1, if_neg c2, if_neg c3, if_true]
          exact own_r4 g0 g1 g2 g3
theorem own_n5 {f : Int32} (hf : 0 ≤ f.toInt ∧ f.toInt ≤ 6) (L : List Int32) (hL : L.length = 6) : own_F4 f 5 L = own_E f 5 L := by
  have e : own_F4 f 5 L = own_P4_5_0 f 5 L (6 + 1) 0 (f + 0) := by rw [Int32.add_zero]; unfold own_F4; rw [hL]
  rw [e]
  unfold own_E
  simp only []
  rw [own_b1 L (f := f) (n := 5) (k := 0) (by decide), own_b1 L (f := f) (n := 5) (k := 1) (by decide), own_b1 L (f := f) (n := 5) (k := 2) (by decide), own_b1 L (f := f) (n := 5) (k := 3) (by decide), own_b1 L (f := f) (n := 5) (k := 4) (by decide), own_b0 L (f := f) (n := 5) (k := 5) (by decide), own_t1 L (f := f) (n := 5) (k := 0) (q := 10000) (by decide) (by decide), own_t1 L (f := f) (n := 5) (k := 1) (q := 1000) (by decide) (by decide), own_t1 L (f := f) (n := 5) (k := 2) (q := 100) (by decide) (by decide), own_t1 L (f := f) (n := 5) (k := 3) (q := 10) (by decide) (by decide), own_t1 L (f := f) (n := 5) (k := 4) (q := 1) (by decide) (by decide), own_t0 L (f := f) (n := 5) (k := 5) (by decide)]
  rw [own_up f 5 L 6 (own_lt hf (by decide) (by decide) (by decide)) (own_i f 0 1 (by decide))]
  obtain ⟨g0, hg0⟩ : ∃ z : Int32, z = own_F5 (List.getD L (f + 0).toInt.toNat 0) := ⟨_, rfl⟩
  rw [← hg0]
  by_cases c0 : g0 < 0
  · simp only [if_pos c0]; rfl
  · rw [if_neg c0]
    rw [own_up f 5 L 5 (own_lt hf (by decide) (by decide) (by decide)) (own_i f 1 2 (by decide))]
    obtain ⟨g1, hg1⟩ : ∃ z : Int32, z = own_F5 (List.getD L (f + 1).toInt.toNat 0) := ⟨_, rfl⟩
    rw [← hg1]
    by_cases c1 : g1 < 0
    · simp only [if_pos c1, if_neg c0]; rfl
    · rw [if_neg c1]
      rw [own_up f 5 L 4 (own_lt hf (by decide) (by decide) (by decide)) (own_i f 2 3 (by decide))]
      obtain ⟨g2, hg2⟩ : ∃ z : Int32, z = own_F5 (List.getD L (f + 2).toInt.toNat 0) := ⟨_, rfl⟩
      rw [← hg2]
      by_cases c2 : g2 < 0
      · simp only [if_pos c2, if_neg c0, if_neg c1]; rfl
      · rw [if_neg c2]
        rw [own_up f 5 L 3 (own_lt hf (by decide) (by decide) (by decide)) (own_i f 3 4 (by decide))]
        obtain ⟨g3, hg3⟩ : ∃ z : Int32, z = own_F5 (List.getD L (f + 3).toInt.toNat 0) := ⟨_, rfl⟩
        rw [← hg3]
        by_cases c3 : g3 < 0
        · simp only [if_pos c3, if_neg c0, if_neg c1, if_neg c2]; rfl
        · rw [if_neg c3]
          rw [own_up f 5 L 2 (own_lt hf (by decide) (by decide) (by decide)) (own_i f 4 5 (by decide))]
          obtain ⟨g4, hg4⟩ : ∃ z : Int32, z = own_F5 (List.getD L (f + 4).toInt.toNat 0) := ⟨_, rfl⟩
          rw [← hg4]
          by_cases c4 : g4 < 0
          · simp only [if_pos c4, if_neg c0, if_neg c1, if_neg c2, if_neg c3]; rfl
          · rw [if_neg c4]
            rw [own_end f 5 L 1 (fun q => Int32.lt_irrefl q)]
            simp only [if_neg c0, if_neg c1, if_neg c2, if_neg c3, if_neg c4, if_true]
            exact own_r5 g0 g1 g2 g3 g4
theorem own_n6 {f : Int32} (hf : 0 ≤ f.toInt ∧ f.toInt ≤ 6) (L : List Int32) (hL : L.length = 6) : own_F4 f 6 L = own_E f 6 L := by
  have e : own_F4 f 6 L = own_P4_5_0 f 6 L (6 + 1) 0 (f + 0) := by rw [Int32.add_zero]; unfold own_F4; rw [hL]
  rw [e]
  unfold own_E
  simp only []
  rw [own_b1 L (f := f) (n := 6) (k := 0) (by decide), own_b1 L (f := f) (n := 6) (k := 1) (by decide), own_b1 L (f := f) (n := 6) (k := 2) (by decide), own_b1 L (f := f) (n := 6) (k := 3) (by decide), own_b1 L (f := f) (n := 6) (k := 4) (by decide), own_b1 L (f := f) (n := 6) (k := 5) (by decide), own_t1 L (f := f) (n := 6) (k := 0) (q := 100000) (by decide) (by decide), own_t1 L (f := f) (n := 6) (k := 1) (q := 10000) (by decide) (by decide), own_t1 L (f := f) (n := 6) (k := 2) (q := 1000) (by decide) (by decide), own_t1 L (f := f) (n := 6) (k := 3) (q := 100) (by decide) (by decide), own_t1 L (f := f) (n := 6) (k := 4) (q := 10) (by decide) (by decide), own_t1 L (f := f) (n := 6) (k := 5) (q := 1) (by decide) (by decide)]
  rw [own_up f 6 L 6 (own_lt hf (by decide) (by decide) (by decide)) (own_i f 0 1 (by decide))]
  obtain ⟨g0, hg0⟩ : ∃ z : Int32, z = own_F5 (List.getD L (f + 0).toInt.toNat 0) := ⟨_, rfl⟩
  rw [← hg0]
  by_cases c0 : g0 < 0
  · simp only [if_pos c0]; rfl
  · rw [if_neg c0]
    rw [own_up f 6 L 5 (own_lt hf (by decide) (by decide) (by decide)) (own_i f 1 2 (by decide))]
    obtain ⟨g1, hg1⟩ : ∃ z : Int32, z = own_F5 (List.getD L (f + 1).toInt.toNat 0) := ⟨_, rfl⟩
    rw [← hg1]
    by_cases c1 : g1 < 0
    · simp only [if_pos c1, if_neg c0]; rfl
    · rw [if_neg c1]
      rw [own_up f 6 L 4 (own_lt hf (by decide) (by decide) (by decide)) (own_i f 2 3 (by decide))]
      obtain ⟨g2, hg2⟩ : ∃ z : Int32, z = own_F5 (List.getD L (f + 2).toInt.toNat 0) := ⟨_, rfl⟩
      rw [← hg2]
      by_cases c2 : g2 < 0
      · simp only [if_pos c2, if_neg c0, if_neg c1]; rfl
      · rw [if_neg c2]
        rw [own_up f 6 L 3 (own_lt hf (by decide) (by decide) (by decide)) (own_i f 3 4 (by decide))]
        obtain ⟨g3, hg3⟩ : ∃ z : Int32, z = own_F5 (List.getD L (f + 3).toInt.toNat 0) := ⟨_, rfl⟩
        rw [← hg3]
        by_cases c3 : g3 < 0
        · simp only [if_pos c3, if_neg c0, if_neg c1, if_neg c2]; rfl
        · rw [if_neg c3]
          rw [own_up f 6 L 2 (own_lt hf (by decide) (by decide) (by decide)) (own_i f 4 5 (by decide))]
          obtain ⟨g4, hg4⟩ : ∃ z : Int32, z = own_F5 (List.getD L (f + 4).toInt.toNat 0) := ⟨_, rfl⟩
          rw [← hg4]
          by_cases c4 : g4 < 0
          · simp only [if_pos c4, if_neg c0, if_neg c1, if_neg c2, if_neg c3]; rfl
          · rw [if_neg c4]
            rw [own_up f 6 L 1 (own_lt hf (by decide) (by decide) (by decide)) (own_i f 5 6 (by decide))]
            obtain ⟨g5, hg5⟩ : ∃ z : Int32, z = own_F5 (List.getD L (f + 5).toInt.toNat 0) := ⟨_, rfl⟩
            rw [← hg5]
            by_cases c5 : g5 < 0
            · simp only [if_pos c5, if_neg c0, if_neg c1, if_neg c2, if_neg c3, if_neg c4]; rfl
            · rw [if_neg c5]
              rw [own_end f 6 L 0 (fun q => Int32.lt_irrefl q)]
              simp only [if_neg c0, if_neg c1, if_neg c2, if_neg c3, if_neg c4, if_neg c5, if_true]
              exact own_r6 g0 g1 g2 g3 g4 g5
theorem own_plain (q0 : Int64) (p1 p2 p3 : Int32) : own_F0 q0 p1 p2 p3 = 1 := by
  obtain ⟨f, hf⟩ : ∃ z : Int32, z = ((p2 &&& (2147483647 : Int32)) - ((p2 &&& (2147483647 : Int32)) / (7 : Int32)) * (7 : Int32)) := ⟨_, rfl⟩
  obtain ⟨n, hn⟩ : ∃ z : Int32, z = ((p3 &&& (2147483647 : Int32)) - ((p3 &&& (2147483647 : Int32)) / ((7 : Int32) - f)) * ((7 : Int32) - f)) := ⟨_, rfl⟩
  have bf := own_from hf
  have bn := own_lenb hf hn
  have key (L : List Int32) (hL : L.length = 6) : own_F4 f n L = own_E f n L := by
    rcases (by omega : n.toInt = 0 ∨ n.toInt = 1 ∨ n.toInt = 2 ∨ n.toInt = 3 ∨ n.toInt = 4 ∨ n.toInt = 5 ∨ n.toInt = 6) with h | h | h | h | h | h | h
    · obtain rfl : n = 0 := Int32.toInt_inj.mp h
      exact own_n0 bf L hL
    · obtain rfl : n = 1 := Int32.toInt_inj.mp h
      exact own_n1 bf L hL
    · obtain rfl : n = 2 := Int32.toInt_inj.mp h
      exact own_n2 bf L hL
    · obtain rfl : n = 3 := Int32.toInt_inj.mp h
      exact own_n3 bf L hL
    · obtain rfl : n = 4 := Int32.toInt_inj.mp h
      exact own_n4 bf L hL
    · obtain rfl : n = 5 := Int32.toInt_inj.mp h
      exact own_n5 bf L hL
    · obtain rfl : n = 6 := Int32.toInt_inj.mp h
      exact own_n6 bf L hL
  unfold own_F0
  simp only [← hf, ← hn]
  rw [key _ rfl]
  exact if_pos rfl

set_option maxRecDepth 65536 in
set_option maxHeartbeats 40000000 in
theorem comes_1 {Post : Tables → Env → Array Value → State → Outcome → State → Prop} (hpost : ∀ tb e args s v u, (limb_1_1.after args s (.returned v) u = true ∧ limb_1_2.after args s (.returned v) u = true ∧ True) → FrameEnd s (.returned v) u (Jvm.fieldLocs frame_1_writes args s ++ Jvm.arrayLocs frame_1_arrays args s ++ Jvm.staticLocs frame_1_statics s) 16 128 → Post tb e args s (.returned v) u) :
    ArmFor flags0 classFile x code maxLocals ret World_1 tables_1 room_1 Calls_1 rest_1 Pre_1 Post := by
  intro l hfl _ _ p e ha hc hk s m args below hf hA hF happ hP
  obtain ⟨hcalls, hrest, hpre⟩ := hP
  obtain ⟨-, -, -, hnamed, -, -, -, hat⟩ := (Spec.applies_iff hf).mp happ
  obtain ⟨hg, hn⟩ := and_e (Cond.before_iff.mp (show (Jvm.Cond.and given_1 narrow_1).before args s = true from hpre))
  obtain ⟨g1, g2⟩ := and_e hg
  obtain ⟨ga0, gb0⟩ := and_e g2
  obtain ⟨ga1, gb1⟩ := and_e gb0
  obtain ⟨ga2, gb2⟩ := and_e gb1
  obtain ⟨w0, w1, w2, w3, rfl⟩ : ∃ w0 w1 w2 w3 : Value, args = #[w0, w1, w2, w3] := by
    have hs : args.size = 4 := by simpa [Cond.value, given_1] using g1
    obtain ⟨L⟩ := args
    match L, hs with
    | [w0, w1, w2, w3], _ => exact ⟨w0, w1, w2, w3, rfl⟩
  have hw := fun d (hd : d ∈ tables_1) => atoms_spec (ws := Jvm.Cond.code x code maxLocals ret :: tables_1) hat d (List.mem_cons_of_mem _ hd)
  obtain ⟨i0, ei0⟩ := isL_v ga0
  obtain rfl : w0 = (.long i0) := Option.some.inj ei0
  obtain ⟨i1, ei1⟩ := is_v ga1
  obtain rfl : w1 = (.int i1) := Option.some.inj ei1
  obtain ⟨i2, ei2⟩ := is_v ga2
  obtain rfl : w2 = (.int i2) := Option.some.inj ei2
  obtain ⟨i3, ei3⟩ := is_v gb2
  obtain rfl : w3 = (.int i3) := Option.some.inj ei3
  obtain ⟨n, o, h1, h2, h3, _, L, rfl, ⟨hv, N⟩, hq⟩ := own_rm0 l s _ hw tables_1 i0 i1 i2 i3 s.heap s.heap.size (Nat.le_refl _) p e ha hc hk s m _ below hf ((Spec.applies_iff_loose hf).mp happ).1 ⟨rfl, State.Warmed39.refl s, rfl⟩ trivial
  rw [own_plain i0 i1 i2 i3] at hv
  subst hv
  refine ⟨n, _, h1, h2, h3, hpost _ _ _ _ _ _ ⟨Cond.after_iff.mpr rfl, Cond.after_iff.mpr (eq_i res_at (Term.int_eval (1)) rfl), trivial⟩ ⟨hq.1, hq.2.1, (hq.2.2.sift fun y hy => Or.inr (N y hy)).mono (by decide) (by decide)⟩⟩
theorem main_1_1 : Claimed_1_1 := comes_1 fun _ _ _ _ _ _ h hF => ⟨h.1, hF⟩
theorem main_1_2 : Claimed_1_2 := comes_1 fun _ _ _ _ _ _ h hF => ⟨h.2.1, hF⟩
end Jvm.Pilot.@@N@@
namespace Jvm.Pilot.@@N@@
open Jvm Jvm.ClassFile Sem Op Lib Jvm.Free Jvm.Stand Jvm.Pilot.@@N@@.Jvm.D
/-! MADE BY PROGRAM (witnessworld.py) out of the Statement's table words and the real class files: 9 classes; the members and pool entries that the words name. The judged class is class 1, her method 6. -/
namespace start1
open Jvm.ClassFile
def u (s : String) : CpInfo := .utf8 (stringToUtf16 s)
/-- a pool by its gaps: so many unusable entries, then the entry; so many at the end -/
def gap : Nat → List CpInfo → List CpInfo
  | 0, r => r
  | n + 1, r => .unusable :: gap n r
def poolList (es : List (Nat × CpInfo)) (last : Nat) : List CpInfo := es.foldr (fun e r => gap e.1 (e.2 :: r)) (gap last [])
def pool (es : List (Nat × CpInfo)) (last : Nat) : Array CpInfo := ⟨poolList es last⟩
def fileOf (pool : Array CpInfo) (this : Nat) (attrs : Array Attribute := #[]) (ms : Array MethodInfo := #[]) (fl : Nat := 33) (sup : Nat := 0) (ifs : Array Nat := #[]) (fds : Array FieldInfo := #[]) : ClassFile where
  minorVersion := 0
  majorVersion := 65
  constantPool := pool
  accessFlags := fl
  thisClass := this
  superClass := sup
  interfaces := ifs
  fields := fds
  methods := ms
  attributes := attrs
def plain (name : String) (sup : Option ClassId) : Class where
  name := name
  kind := .ordinary
  loader := none
  accessFlags := 33
  super := sup
  interfaces := #[]
  cf := none
  fields := #[]
  methods := #[]
  instanceTypes := #[]
  staticTypes := #[]
  resolved := #[]
  callSites := []
  init := .initialized
  statics := none
  mirror := none

def pool0 : Array CpInfo := pool [(5, u "<init>"), (0, u "()V"), (1, .class_ 10), (1, u "java/lang/Object")] 113

def k0m0 : Method := { name := "<init>", desc := "()V", sig := { parameters := [], returnType := none }, accessFlags := 1, code := none }
/-- java/lang/Object -/
def k0 : Class := { plain "java/lang/Object" none with
  accessFlags := 33
  interfaces := #[]
  cf := some (fileOf pool0 8 #[] #[{ accessFlags := 1, nameIndex := 5, descriptorIndex := 6, attributes := #[] }] 33 0 #[] #[])
  fields := #[]
  methods := #[k0m0]
  instanceTypes := #[]
  staticTypes := #[]
  resolved := Array.replicate 124 none
  statics := none }

def pool1 : Array CpInfo := pool [(2, .class_ 4), (1, u "java/lang/Object"), (0, u "<init>"), (0, u "()V"), (0, .integer 100000), (0, .long 255), (1, .methodref 11 12), (0, .class_ 13), (0, .nameAndType 14 15), (0, u "com/example/kazalo/kazalo/records/RecordNumberPinLaw"), (0, u "digitOf"), (0, u "(B)I"), (0, .methodref 11 17), (0, .nameAndType 18 19), (0, u "pow10"), (0, u "(I)I"), (0, .methodref 11 21), (0, .nameAndType 22 23), (0, u "drawn"), (0, u "(JII)B"), (0, .integer 2147483647), (0, .methodref 11 26), (0, .nameAndType 27 28), (0, u "bad"), (0, u "([BIII)Z"), (0, .methodref 11 30), (0, .nameAndType 31 32), (0, u "term"), (0, u "([BIII)I"), (0, .methodref 34 35), (0, .class_ 36), (0, .nameAndType 37 38), (0, u "com/example/kazalo/kazalo/records/Record"), (0, u "number"), (0, u "([BII)I"), (3, u "law"), (0, u "(JIII)Z")] 4

def k1m0 : Method := { name := "<init>", desc := "()V", sig := { parameters := [], returnType := none }, accessFlags := 1, code := none }
def k1c1 : Code := { maxStack := 2, maxLocals := 1, code := method_2_code, exceptionTable := #[], attributes := #[] }
def k1m1 : Method := { name := "pow10", desc := "(I)I", sig := { parameters := [.int], returnType := some .int }, accessFlags := 10, code := some k1c1 }
def k1c2 : Code := { maxStack := 4, maxLocals := 5, code := method_3_code, exceptionTable := #[], attributes := #[] }
def k1m2 : Method := { name := "drawn", desc := "(JII)B", sig := { parameters := [.long, .int, .int], returnType := some .byte }, accessFlags := 10, code := some k1c2 }
def k1c3 : Code := { maxStack := 2, maxLocals := 1, code := method_4_code, exceptionTable := #[], attributes := #[] }
def k1m3 : Method := { name := "digitOf", desc := "(B)I", sig := { parameters := [.byte], returnType := some .int }, accessFlags := 10, code := some k1c3 }
def k1c4 : Code := { maxStack := 3, maxLocals := 4, code := method_5_code, exceptionTable := #[], attributes := #[] }
def k1m4 : Method := { name := "bad", desc := "([BIII)Z", sig := { parameters := [(.array .byte), .int, .int, .int], returnType := some .boolean }, accessFlags := 10, code := some k1c4 }
def k1c5 : Code := { maxStack := 3, maxLocals := 4, code := method_6_code, exceptionTable := #[], attributes := #[] }
def k1m5 : Method := { name := "term", desc := "([BIII)I", sig := { parameters := [(.array .byte), .int, .int, .int], returnType := some .int }, accessFlags := 10, code := some k1c5 }
def k1c6 : Code := { maxStack := 6, maxLocals := 10, code := code, exceptionTable := #[], attributes := #[] }
def k1m6 : Method := { name := "law", desc := "(JIII)Z", sig := { parameters := [.long, .int, .int, .int], returnType := some .boolean }, accessFlags := 9, code := some k1c6 }
/-- com/example/kazalo/kazalo/records/RecordNumberPinLaw -/
def k1 : Class := { plain "com/example/kazalo/kazalo/records/RecordNumberPinLaw" (some 0) with
  accessFlags := 49
  interfaces := #[]
  cf := some (fileOf pool1 11 #[] #[{ accessFlags := 1, nameIndex := 5, descriptorIndex := 6, attributes := #[] }, { accessFlags := 10, nameIndex := 18, descriptorIndex := 19, attributes := #[] }, { accessFlags := 10, nameIndex := 22, descriptorIndex := 23, attributes := #[] }, { accessFlags := 10, nameIndex := 14, descriptorIndex := 15, attributes := #[] }, { accessFlags := 10, nameIndex := 27, descriptorIndex := 28, attributes := #[] }, { accessFlags := 10, nameIndex := 31, descriptorIndex := 32, attributes := #[] }, { accessFlags := 9, nameIndex := 42, descriptorIndex := 43, attributes := #[] }] 49 2 #[] #[])
  fields := #[]
  methods := #[k1m0, k1m1, k1m2, k1m3, k1m4, k1m5, k1m6]
  instanceTypes := #[]
  staticTypes := #[]
  resolved := Array.replicate 48 none
  statics := none }

def pool2 : Array CpInfo := pool [(2, .class_ 4), (1, u "java/lang/Object"), (0, u "<init>"), (0, u "()V"), (1, .class_ 10), (1, u "com/example/kazalo/kazalo/records/Record"), (7, u "number"), (0, u "([BII)I"), (20, u "bytes"), (0, u "[B"), (2, u "offset"), (0, u "I"), (2, u "length"), (2, u "base"), (2, u "controlFields"), (0, u "[Z"), (118, .class_ 175), (0, u "com/example/kazalo/kazalo/records/Record$Entry"), (175, u "LEADER_LENGTH"), (2, u "RECORD_LENGTH_DIGITS"), (1, u "RECORD_TERMINATOR"), (0, u "B"), (1, u "FIELD_TERMINATOR"), (1, u "BASE_ADDRESS"), (1, u "BASE_ADDRESS_DIGITS"), (0, u "ENTRY_LENGTH"), (0, u "TAG_LENGTH"), (1, u "LENGTH_DIGITS"), (1, u "START_DIGITS"), (0, u "ID_TAG"), (0, u "Ljava/lang/String;"), (0, u "CONTROL_TAG_START")] 93

def k2m0 : Method := { name := "<init>", desc := "()V", sig := { parameters := [], returnType := none }, accessFlags := 0, code := none }
def k2c1 : Code := { maxStack := 3, maxLocals := 6, code := prog_68_method_6_code, exceptionTable := #[], attributes := #[] }
def k2m1 : Method := { name := "number", desc := "([BII)I", sig := { parameters := [(.array .byte), .int, .int], returnType := some .int }, accessFlags := 8, code := some k2c1 }
/-- com/example/kazalo/kazalo/records/Record -/
def k2 : Class := { plain "com/example/kazalo/kazalo/records/Record" (some 0) with
  accessFlags := 49
  interfaces := #[]
  cf := some (fileOf pool2 8 #[.nestMembers #[174]] #[{ accessFlags := 0, nameIndex := 5, descriptorIndex := 6, attributes := #[] }, { accessFlags := 8, nameIndex := 18, descriptorIndex := 19, attributes := #[] }] 49 2 #[] #[{ accessFlags := 24, nameIndex := 351, descriptorIndex := 45, attributes := #[] }, { accessFlags := 24, nameIndex := 354, descriptorIndex := 45, attributes := #[] }, { accessFlags := 24, nameIndex := 356, descriptorIndex := 357, attributes := #[] }, { accessFlags := 24, nameIndex := 359, descriptorIndex := 357, attributes := #[] }, { accessFlags := 24, nameIndex := 361, descriptorIndex := 45, attributes := #[] }, { accessFlags := 24, nameIndex := 363, descriptorIndex := 45, attributes := #[] }, { accessFlags := 24, nameIndex := 364, descriptorIndex := 45, attributes := #[] }, { accessFlags := 24, nameIndex := 365, descriptorIndex := 45, attributes := #[] }, { accessFlags := 24, nameIndex := 367, descriptorIndex := 45, attributes := #[] }, { accessFlags := 24, nameIndex := 369, descriptorIndex := 45, attributes := #[] }, { accessFlags := 26, nameIndex := 370, descriptorIndex := 371, attributes := #[] }, { accessFlags := 26, nameIndex := 372, descriptorIndex := 371, attributes := #[] }, { accessFlags := 2, nameIndex := 40, descriptorIndex := 41, attributes := #[] }, { accessFlags := 2, nameIndex := 44, descriptorIndex := 45, attributes := #[] }, { accessFlags := 2, nameIndex := 48, descriptorIndex := 45, attributes := #[] }, { accessFlags := 2, nameIndex := 51, descriptorIndex := 45, attributes := #[] }, { accessFlags := 2, nameIndex := 54, descriptorIndex := 55, attributes := #[] }])
  fields := #[{ name := "LEADER_LENGTH", type := .int, accessFlags := 24, slot := 0, constantValue := 0 }, { name := "RECORD_LENGTH_DIGITS", type := .int, accessFlags := 24, slot := 1, constantValue := 0 }, { name := "RECORD_TERMINATOR", type := .byte, accessFlags := 24, slot := 2, constantValue := 0 }, { name := "FIELD_TERMINATOR", type := .byte, accessFlags := 24, slot := 3, constantValue := 0 }, { name := "BASE_ADDRESS", type := .int, accessFlags := 24, slot := 4, constantValue := 0 }, { name := "BASE_ADDRESS_DIGITS", type := .int, accessFlags := 24, slot := 5, constantValue := 0 }, { name := "ENTRY_LENGTH", type := .int, accessFlags := 24, slot := 6, constantValue := 0 }, { name := "TAG_LENGTH", type := .int, accessFlags := 24, slot := 7, constantValue := 0 }, { name := "LENGTH_DIGITS", type := .int, accessFlags := 24, slot := 8, constantValue := 0 }, { name := "START_DIGITS", type := .int, accessFlags := 24, slot := 9, constantValue := 0 }, { name := "ID_TAG", type := (.object "java/lang/String"), accessFlags := 26, slot := 10, constantValue := 0 }, { name := "CONTROL_TAG_START", type := (.object "java/lang/String"), accessFlags := 26, slot := 11, constantValue := 0 }, { name := "bytes", type := (.array .byte), accessFlags := 2, slot := 0, constantValue := 0 }, { name := "offset", type := .int, accessFlags := 2, slot := 1, constantValue := 0 }, { name := "length", type := .int, accessFlags := 2, slot := 2, constantValue := 0 }, { name := "base", type := .int, accessFlags := 2, slot := 3, constantValue := 0 }, { name := "controlFields", type := (.array .boolean), accessFlags := 2, slot := 4, constantValue := 0 }]
  methods := #[k2m0, k2m1]
  instanceTypes := #[(.array .byte), .int, .int, .int, (.array .boolean)]
  staticTypes := #[.int, .int, .byte, .byte, .int, .int, .int, .int, .int, .int, (.object "java/lang/String"), (.object "java/lang/String")]
  resolved := Array.replicate 466 none
  statics := none }

def pool3 : Array CpInfo := pool [(1, u "java/lang/Cloneable"), (0, .class_ 1), (0, u "java/lang/Object"), (0, .class_ 3)] 3

/-- java/lang/Cloneable -/
def k3 : Class := { plain "java/lang/Cloneable" (some 0) with
  accessFlags := 1537
  interfaces := #[]
  cf := some (fileOf pool3 2 #[] #[] 1537 4 #[] #[])
  fields := #[]
  methods := #[]
  instanceTypes := #[]
  staticTypes := #[]
  resolved := Array.replicate 8 none
  statics := none }

def pool4 : Array CpInfo := pool [(1, u "java/io/Serializable"), (0, .class_ 1), (0, u "java/lang/Object"), (0, .class_ 3)] 3

/-- java/io/Serializable -/
def k4 : Class := { plain "java/io/Serializable" (some 0) with
  accessFlags := 1537
  interfaces := #[]
  cf := some (fileOf pool4 2 #[] #[] 1537 4 #[] #[])
  fields := #[]
  methods := #[]
  instanceTypes := #[]
  staticTypes := #[]
  resolved := Array.replicate 8 none
  statics := none }

/-- the primitive byte -/
def k5 : Class := { plain "byte" none with kind := .primitive 'B', accessFlags := 0x411 }
/-- [B -/
def k6 : Class := { plain "[B" (some 0) with kind := .array 5 .byte, interfaces := #[3, 4], accessFlags := 1041 }

/-- the primitive int -/
def k7 : Class := { plain "int" none with kind := .primitive 'I', accessFlags := 0x411 }
/-- [I -/
def k8 : Class := { plain "[I" (some 0) with kind := .array 7 .int, interfaces := #[3, 4], accessFlags := 1041 }

def heap : Heap := #[]
def classes : Array Class := #[k0, k1, k2, k3, k4, k5, k6, k7, k8]
def interned : List (Array UInt16 × Addr) := []
def slotsUsed : Nat := 0
def theMethod : MethodId := ⟨1, 6⟩
def args0 : Array Value := #[.long 5, .int 5, .int 5, .int 5]
def aboutOver (below : List Frame) : State where
  vm := { classes := classes, interned := interned.toArray }
  heap := heap
  slotsUsed := slotsUsed
  threads := #[{ frames := .invoking theMethod args0 :: below }]
def below0 : List Frame := [.native { method := ⟨0, 0⟩, args := #[] }]
def about1 : State := aboutOver below0
def p0 : Program := .bare "" "" ""
def e0 : Env := launch0.env 0 0 0
theorem w_frames : about1.frames = Frame.invoking theMethod args0 :: below0 := rfl
set_option maxRecDepth 65536 in
theorem w_args : argsFit about1.vm theMethod args0 = true := by decide +kernel
set_option maxRecDepth 65536 in
theorem w_heap : heapFits about1 = true := by decide +kernel
set_option maxRecDepth 65536 in
theorem w_runnable : about1.curStatus? = some .runnable := by decide +kernel
set_option maxRecDepth 65536 in
theorem w_alone : about1.alone = true := by decide +kernel
set_option maxRecDepth 65536 in
theorem w_named : about1.methodNamed? x = some theMethod := by decide +kernel
set_option maxRecDepth 65536 in
theorem w_hears : about1.hears theMethod below0 = true := by decide +kernel
set_option maxRecDepth 65536 in
theorem w_ripe : about1.ripe theMethod args0 below0 = true := by decide +kernel
theorem w_running : about1.status = .running := rfl
set_option maxRecDepth 65536 in
theorem w_room : about1.hasRoom e0.platform room_1 = true :=
  launch0.hasRoom_least _ room_1 (by decide +kernel) (by decide +kernel) (by decide +kernel) (by decide +kernel) (by decide +kernel) (by decide +kernel)
theorem allAtoms_all (ts : List Jvm.Cond) (a : Array Jvm.Value) (st : Jvm.State) : (allAtoms ts).before a st = ts.all (fun c => c.before a st) := by
  induction ts with
  | nil => rfl
  | cons c t ih =>
    show (Jvm.Cond.and c (allAtoms t)).before a st = _
    rw [Jvm.Cond.before_and, ih, List.all_cons]
def words1 : List Jvm.Cond := Jvm.Cond.code x code maxLocals ret :: tables_1
/-- a 'code' word, met by the world's own term for the bytes: nothing is compared byte by byte -/
theorem code_word {y : MethodName} {bytes : ByteArray} {mx : Nat} {rt : Option FieldType} {a : Array Value} {s : State} {m : MethodId} {meth : Method} {c : Code} (h1 : s.methodNamed? y = some m) (h2 : s.vm.method? m = some meth) (h3 : meth.code = some c) (h4 : c.code = bytes)
    (h5 : (c.maxLocals == mx && c.exceptionTable.isEmpty && decide (c.maxStack ≤ mostOperands) && decide (meth.sig.returnType = rt) && !meth.locks && decide (parseMethodDescriptor y.desc = some meth.sig)) = true) : (Jvm.Cond.code y bytes mx rt).before a s = true := by
  simp only [Bool.and_eq_true, beq_iff_eq, Bool.not_eq_true', decide_eq_true_eq] at h5
  obtain ⟨⟨⟨⟨⟨g1, g2⟩, g3⟩, g4⟩, g5⟩, g6⟩ := h5
  simp [Cond.before, Cond.holds, Cond.value, h1, h2, h3, h4, g1, g2, g3, g4, g5, g6]
def isCode : Jvm.Cond → Bool
  | .code _ _ _ _ => true
  | _ => false
theorem all_split {L : List Jvm.Cond} {P : Jvm.Cond → Bool} (h1 : L.all (fun c => isCode c || P c) = true) (h2 : ∀ c ∈ L.filter isCode, P c = true) : L.all P = true := by
  refine List.all_eq_true.mpr fun c hc => ?_
  have h := List.all_eq_true.mp h1 c hc
  rcases Bool.eq_false_or_eq_true (isCode c) with hi | hi
  · exact h2 c (List.mem_filter.mpr ⟨hc, hi⟩)
  · simpa [hi] using h
set_option maxRecDepth 65536 in
theorem w_c0 : (Jvm.Cond.code x code maxLocals ret).before args0 about1 = true := code_word (m := ⟨1, 6⟩) (meth := k1m6) (c := k1c6) (by decide +kernel) rfl rfl rfl (by decide +kernel)
set_option maxRecDepth 65536 in
theorem w_c1 : (Jvm.Cond.code ({ cls := "com/example/kazalo/kazalo/records/RecordNumberPinLaw", name := "drawn", desc := "(JII)B" } : Jvm.MethodName) method_3_code (5 : Nat) (Option.some Jvm.ClassFile.FieldType.byte)).before args0 about1 = true := code_word (m := ⟨1, 2⟩) (meth := k1m2) (c := k1c2) (by decide +kernel) rfl rfl rfl (by decide +kernel)
set_option maxRecDepth 65536 in
theorem w_c2 : (Jvm.Cond.code ({ cls := "com/example/kazalo/kazalo/records/RecordNumberPinLaw", name := "bad", desc := "([BIII)Z" } : Jvm.MethodName) method_5_code (4 : Nat) (Option.some Jvm.ClassFile.FieldType.boolean)).before args0 about1 = true := code_word (m := ⟨1, 4⟩) (meth := k1m4) (c := k1c4) (by decide +kernel) rfl rfl rfl (by decide +kernel)
set_option maxRecDepth 65536 in
theorem w_c3 : (Jvm.Cond.code ({ cls := "com/example/kazalo/kazalo/records/RecordNumberPinLaw", name := "term", desc := "([BIII)I" } : Jvm.MethodName) method_6_code (4 : Nat) (Option.some Jvm.ClassFile.FieldType.int)).before args0 about1 = true := code_word (m := ⟨1, 5⟩) (meth := k1m5) (c := k1c5) (by decide +kernel) rfl rfl rfl (by decide +kernel)
set_option maxRecDepth 65536 in
theorem w_c4 : (Jvm.Cond.code ({ cls := "com/example/kazalo/kazalo/records/Record", name := "number", desc := "([BII)I" } : Jvm.MethodName) prog_68_method_6_code (6 : Nat) (Option.some Jvm.ClassFile.FieldType.int)).before args0 about1 = true := code_word (m := ⟨2, 1⟩) (meth := k2m1) (c := k2c1) (by decide +kernel) rfl rfl rfl (by decide +kernel)
set_option maxRecDepth 65536 in
theorem w_c5 : (Jvm.Cond.code ({ cls := "com/example/kazalo/kazalo/records/RecordNumberPinLaw", name := "digitOf", desc := "(B)I" } : Jvm.MethodName) method_4_code (1 : Nat) (Option.some Jvm.ClassFile.FieldType.int)).before args0 about1 = true := code_word (m := ⟨1, 3⟩) (meth := k1m3) (c := k1c3) (by decide +kernel) rfl rfl rfl (by decide +kernel)
set_option maxRecDepth 65536 in
theorem w_c6 : (Jvm.Cond.code ({ cls := "com/example/kazalo/kazalo/records/RecordNumberPinLaw", name := "pow10", desc := "(I)I" } : Jvm.MethodName) method_2_code (1 : Nat) (Option.some Jvm.ClassFile.FieldType.int)).before args0 about1 = true := code_word (m := ⟨1, 1⟩) (meth := k1m1) (c := k1c1) (by decide +kernel) rfl rfl rfl (by decide +kernel)
def codes1 : List Jvm.Cond := [Jvm.Cond.code x code maxLocals ret, Jvm.Cond.code ({ cls := "com/example/kazalo/kazalo/records/RecordNumberPinLaw", name := "drawn", desc := "(JII)B" } : Jvm.MethodName) method_3_code (5 : Nat) (Option.some Jvm.ClassFile.FieldType.byte), Jvm.Cond.code ({ cls := "com/example/kazalo/kazalo/records/RecordNumberPinLaw", name := "bad", desc := "([BIII)Z" } : Jvm.MethodName) method_5_code (4 : Nat) (Option.some Jvm.ClassFile.FieldType.boolean), Jvm.Cond.code ({ cls := "com/example/kazalo/kazalo/records/RecordNumberPinLaw", name := "term", desc := "([BIII)I" } : Jvm.MethodName) method_6_code (4 : Nat) (Option.some Jvm.ClassFile.FieldType.int), Jvm.Cond.code ({ cls := "com/example/kazalo/kazalo/records/Record", name := "number", desc := "([BII)I" } : Jvm.MethodName) prog_68_method_6_code (6 : Nat) (Option.some Jvm.ClassFile.FieldType.int), Jvm.Cond.code ({ cls := "com/example/kazalo/kazalo/records/RecordNumberPinLaw", name := "digitOf", desc := "(B)I" } : Jvm.MethodName) method_4_code (1 : Nat) (Option.some Jvm.ClassFile.FieldType.int), Jvm.Cond.code ({ cls := "com/example/kazalo/kazalo/records/RecordNumberPinLaw", name := "pow10", desc := "(I)I" } : Jvm.MethodName) method_2_code (1 : Nat) (Option.some Jvm.ClassFile.FieldType.int)]
set_option maxRecDepth 65536 in
theorem codes_eq : words1.filter isCode = codes1 := rfl
theorem w_codes : ∀ c ∈ words1.filter isCode, c.before args0 about1 = true := by
  rw [codes_eq]
  intro c hc
  simp only [codes1, List.mem_cons, List.not_mem_nil, or_false] at hc
  rcases hc with rfl | rfl | rfl | rfl | rfl | rfl | rfl
  · exact w_c0
  · exact w_c1
  · exact w_c2
  · exact w_c3
  · exact w_c4
  · exact w_c5
  · exact w_c6
set_option maxRecDepth 65536 in
theorem w_t1 : (words1.take 24).all (fun c => isCode c || c.before args0 about1) = true := by decide +kernel
set_option maxRecDepth 65536 in
theorem w_t2 : (words1.drop 24).all (fun c => isCode c || c.before args0 about1) = true := by decide +kernel
theorem w_tables : (allAtoms (Jvm.Cond.code x code maxLocals ret :: tables_1)).before args0 about1 = true := by
  rw [allAtoms_all]
  show words1.all (fun c => c.before args0 about1) = true
  refine all_split ?_ w_codes
  rw [← List.take_append_drop 24 words1, List.all_append, w_t1, w_t2]
  rfl
set_option maxRecDepth 65536 in
theorem w_case : (Jvm.Cond.and given_1 narrow_1).before args0 about1 = true := by decide +kernel
theorem w_applies : (headSpec (Jvm.Cond.code x code maxLocals ret :: tables_1) room_1).applies x e0.platform about1 = true :=
  (Spec.applies_iff w_frames).mpr ⟨w_running, w_runnable, w_alone, w_named, w_hears, w_ripe, w_room, w_tables⟩
theorem atStart : AtStart classFile x code maxLocals ret World_1 tables_1 room_1 Calls_1 rest_1 Pre_1 launch0 p0 e0 about1 theMethod args0 below0 :=
  ⟨lists_1, trivial, launch0.admits_env _ _ _, launch0.least_env, fairChoices_fair.cas, fairChoices_fair.clock, w_frames, w_args, w_heap, w_applies, trivial, trivial, w_case⟩
end start1
theorem witness_1 : WitnessClaimed_1 := ⟨start1.p0, start1.e0, start1.about1, start1.theMethod, start1.args0, start1.below0, start1.atStart⟩
end Jvm.Pilot.@@N@@
