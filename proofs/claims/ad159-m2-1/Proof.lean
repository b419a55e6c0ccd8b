import JvmDerived
import JvmDerived.Pilot.@@N@@Statement
import JvmDerived.Pilot.@@N@@Code
set_option linter.unusedVariables false
set_option linter.unusedSimpArgs false
namespace Jvm.RoadKit
open Sem ClassFile Op Lib Jvm.Stand Jvm.Free Jvm.LawKit
section New
variable {p : Program} {l : Launch} {e : Env} {R : Room} {s : State} {m : MethodId} {args : Array Value} {below : List Frame} {meth : Method} {c : Code} {T : State} {locs : List Loc} {cells slots : Nat}
theorem retI (X : Stand p l e R s m args below meth c T locs cells slots) (hx : p.tables.exec = Jvm.exec) {pc : Nat} {Ls : Array Slot} {z : Int32} {rest : List Value} (hret : meth.sig.returnType = some .int) (hd : decode c.code pc = .ok (.ireturn, 1)) {fs : List Frame}
    (hl : ∀ (f : JFrame) (acts : List Action), f.method = m → f.locked = none → f.entered = [] → (doReturn e (T.setTop f) acts (some (.int z))).1 = T.setFrames fs) : Steps p.tables e below (T.setTop (mkF m pc Ls (.int z :: rest))) (T.setFrames fs) := by
  have hm' : T.vm.method? m = some meth := X.method'
  have hn : narrow .int (.int z) = .int z := rfl
  show Steps p.tables e below (T.setTop { method := m, pc := pc, locals := Ls, stack := _ :: rest, locked := none }) _
  jvm_step X.here [X.here.top, hx, hd, hm', hret, hn]
  first | (intro acts; rw [hl _ acts rfl rfl rfl]) | rw [hl _ _ rfl rfl rfl]
  exact Steps.refl _
theorem retJ (X : Stand p l e R s m args below meth c T locs cells slots) (hx : p.tables.exec = Jvm.exec) {pc : Nat} {Ls : Array Slot} {z : Int64} {rest : List Value} (hret : meth.sig.returnType = some .long) (hd : decode c.code pc = .ok (.lreturn, 1)) {fs : List Frame}
    (hl : ∀ (f : JFrame) (acts : List Action), f.method = m → f.locked = none → f.entered = [] → (doReturn e (T.setTop f) acts (some (.long z))).1 = T.setFrames fs) : Steps p.tables e below (T.setTop (mkF m pc Ls (.long z :: rest))) (T.setFrames fs) := by
  have hm' : T.vm.method? m = some meth := X.method'
  show Steps p.tables e below (T.setTop { method := m, pc := pc, locals := Ls, stack := _ :: rest, locked := none }) _
  jvm_step X.here [X.here.top, hx, hd, hm', hret]
  first | (intro acts; rw [hl _ acts rfl rfl rfl]) | rw [hl _ _ rfl rfl rfl]
  exact Steps.refl _
theorem retR (X : Stand p l e R s m args below meth c T locs cells slots) (hx : p.tables.exec = Jvm.exec) {pc : Nat} {Ls : Array Slot} {z : Addr} {t : FieldType} {rest : List Value} (hret : meth.sig.returnType = some t) (ht : t.isReference = true) (hd : decode c.code pc = .ok (.areturn, 1)) {fs : List Frame}
    (hl : ∀ (f : JFrame) (acts : List Action), f.method = m → f.locked = none → f.entered = [] → (doReturn e (T.setTop f) acts (some (.ref z))).1 = T.setFrames fs) : Steps p.tables e below (T.setTop (mkF m pc Ls (.ref z :: rest))) (T.setFrames fs) := by
  have hm' : T.vm.method? m = some meth := X.method'
  show Steps p.tables e below (T.setTop { method := m, pc := pc, locals := Ls, stack := _ :: rest, locked := none }) _
  jvm_step X.here [X.here.top, hx, hd, hm', hret, Value.isRef, ht]
  first | (intro acts; rw [hl _ acts rfl rfl rfl]) | rw [hl _ _ rfl rfl rfl]
  exact Steps.refl _
end New
end Jvm.RoadKit
namespace Jvm.Pilot.@@N@@
open Jvm Jvm.ClassFile Sem Op Lib Jvm.Free Jvm.Stand Jvm.LawKit Jvm.RoadKit Bundle Jvm.Pilot.@@N@@.Jvm.D
/-- from the frame g, where T stands, the body comes to its end, and its end is as QQ says -/
def own_End (p : Program) (e : Env) (below : List Frame) (s : State) (QQ : Option Value → Heap → List Loc → Prop) (rc rs : Nat) (T : State) (g : JFrame) : Prop :=
  ∃ s₂ o, Steps p.tables e below (T.setTop g) s₂ ∧ s₂.status = .running ∧ Ended s₂ below o ∧ ∃ v L, o = .returned v ∧ QQ v s₂.heap L ∧ FrameEnd s o s₂ L rc rs
section Own
variable {p : Program} {l : Launch} {e : Env} {R : Room} {s : State} {m : MethodId} {args : Array Value} {below : List Frame} {meth : Method} {c : Code} {T T' : State} {locs : List Loc} {cells slots : Nat} {QQ : Option Value → Heap → List Loc → Prop} {rc rs : Nat}
theorem own_End.go {g g' : JFrame} (st : ∀ t, Steps p.tables e below (T'.setTop g') t → Steps p.tables e below (T.setTop g) t) (h : own_End p e below s QQ rc rs T' g') : own_End p e below s QQ rc rs T g := by
  obtain ⟨s2, o, a, b⟩ := h
  exact ⟨s2, o, st _ a, b⟩
theorem own_leafI (X : Stand p l e R s m args below meth c T locs cells slots) (hx : p.tables.exec = Jvm.exec) (hk : meth.locks = false) {pc : Nat} {Ls : Array Slot} {z : Int32} {rest : List Value} (hret : meth.sig.returnType = some .int) (hd : decode c.code pc = .ok (.ireturn, 1)) (hq : QQ (some (.int z)) T.heap locs) (h1 : cells ≤ rc) (h2 : slots ≤ rs) : own_End p e below s QQ rc rs T (mkF m pc Ls (.int z :: rest)) := by
  obtain ⟨fs, hr, hrun, hended, hW, hsame⟩ := X.leave (v := some (.int z)) (fun h => by rw [hret] at h; cases h) hk
  exact ⟨_, _, retI X hx hret hd hr, hrun, hended, _, _, rfl, hq, ⟨_, rfl⟩, hW, hsame.mono h1 h2⟩
theorem own_leafN (X : Stand p l e R s m args below meth c T locs cells slots) (hx : p.tables.exec = Jvm.exec) (hk : meth.locks = false) {pc : Nat} {Ls : Array Slot} {z : Int32} {t : FieldType} {rest : List Value} (hret : meth.sig.returnType = some t) (ht : t = .boolean ∨ t = .byte ∨ t = .char ∨ t = .short) (hd : decode c.code pc = .ok (.ireturn, 1)) (hq : QQ (some (.int (nar t z))) T.heap locs) (h1 : cells ≤ rc) (h2 : slots ≤ rs) : own_End p e below s QQ rc rs T (mkF m pc Ls (.int z :: rest)) := by
  obtain ⟨fs, hr, hrun, hended, hW, hsame⟩ := X.leave (v := some (.int (nar t z))) (fun h => by rw [hret] at h; cases h) hk
  exact ⟨_, _, retN X hx hret ht hd hr, hrun, hended, _, _, rfl, hq, ⟨_, rfl⟩, hW, hsame.mono h1 h2⟩
theorem own_leafJ (X : Stand p l e R s m args below meth c T locs cells slots) (hx : p.tables.exec = Jvm.exec) (hk : meth.locks = false) {pc : Nat} {Ls : Array Slot} {z : Int64} {rest : List Value} (hret : meth.sig.returnType = some .long) (hd : decode c.code pc = .ok (.lreturn, 1)) (hq : QQ (some (.long z)) T.heap locs) (h1 : cells ≤ rc) (h2 : slots ≤ rs) : own_End p e below s QQ rc rs T (mkF m pc Ls (.long z :: rest)) := by
  obtain ⟨fs, hr, hrun, hended, hW, hsame⟩ := X.leave (v := some (.long z)) (fun h => by rw [hret] at h; cases h) hk
  exact ⟨_, _, retJ X hx hret hd hr, hrun, hended, _, _, rfl, hq, ⟨_, rfl⟩, hW, hsame.mono h1 h2⟩
theorem own_leafR (X : Stand p l e R s m args below meth c T locs cells slots) (hx : p.tables.exec = Jvm.exec) (hk : meth.locks = false) {pc : Nat} {Ls : Array Slot} {z : Addr} {t : FieldType} {rest : List Value} (hret : meth.sig.returnType = some t) (ht : t.isReference = true) (hd : decode c.code pc = .ok (.areturn, 1)) (hq : QQ (some (.ref z)) T.heap locs) (h1 : cells ≤ rc) (h2 : slots ≤ rs) : own_End p e below s QQ rc rs T (mkF m pc Ls (.ref z :: rest)) := by
  obtain ⟨fs, hr, hrun, hended, hW, hsame⟩ := X.leave (v := some (.ref z)) (fun h => by rw [hret] at h; cases h) hk
  exact ⟨_, _, retR X hx hret ht hd hr, hrun, hended, _, _, rfl, hq, ⟨_, rfl⟩, hW, hsame.mono h1 h2⟩
theorem own_leafV (X : Stand p l e R s m args below meth c T locs cells slots) (hx : p.tables.exec = Jvm.exec) (hk : meth.locks = false) {pc : Nat} {Ls : Array Slot} (hret : meth.sig.returnType = none) (hd : decode c.code pc = .ok (.return_, 1)) (hq : QQ none T.heap locs) (h1 : cells ≤ rc) (h2 : slots ≤ rs) : own_End p e below s QQ rc rs T (mkF m pc Ls []) := by
  obtain ⟨fs, hr, hrun, hended, hW, hsame⟩ := X.leave (v := none) (fun _ => rfl) hk
  exact ⟨_, _, X.returnOut hx hret hd hr, hrun, hended, _, _, rfl, hq, ⟨_, rfl⟩, hW, hsame.mono h1 h2⟩
end Own
theorem own_nb0 : nar .boolean (0 : Int32) = 0 := by decide
theorem own_nb1 : nar .boolean (1 : Int32) = 1 := by decide
theorem own_oneif {P : Prop} [Decidable P] {x y : Slot} (hx : One x) (hy : One y) : One (if P then x else y) := by split <;> assumption

/-! arrays as lists; one step, one row -/
def own_IA (Z : State) (h : Heap) (a : Addr) (ty : FieldType) (L : List Int32) : Prop := ∃ k n, Arv Z h a k ty n (L.map Value.int) (.int 0) ∧ n.toInt = (L.length : Int)
def own_JA (Z : State) (h : Heap) (a : Addr) (L : List Int64) : Prop := ∃ k n, Arv Z h a k .long n (L.map Value.long) (.long 0) ∧ n.toInt = (L.length : Int)
theorem own_IA.keep {Z : State} {h h' : Heap} {a : Addr} {ty : FieldType} {L : List Int32} {ws : List Addr} (V : own_IA Z h a ty L) (K : Keep h h' ws) (q : a ∉ ws) : own_IA Z h' a ty L := by
  obtain ⟨k, n, A, e⟩ := V; exact ⟨k, n, A.keep K q, e⟩
theorem own_JA.keep {Z : State} {h h' : Heap} {a : Addr} {L : List Int64} {ws : List Addr} (V : own_JA Z h a L) (K : Keep h h' ws) (q : a ∉ ws) : own_JA Z h' a L := by
  obtain ⟨k, n, A, e⟩ := V; exact ⟨k, n, A.keep K q, e⟩
theorem own_IA.lt {Z : State} {h : Heap} {a : Addr} {ty : FieldType} {L : List Int32} (V : own_IA Z h a ty L) : a < h.size := by
  obtain ⟨k, n, A, e⟩ := V; exact A.lt
theorem own_JA.lt {Z : State} {h : Heap} {a : Addr} {L : List Int64} (V : own_JA Z h a L) : a < h.size := by
  obtain ⟨k, n, A, e⟩ := V; exact A.lt
theorem own_IA.len {Z : State} {h : Heap} {a : Addr} {ty : FieldType} {L : List Int32} (V : own_IA Z h a ty L) : (L.length : Int) < 2147483648 := by
  obtain ⟨k, n, A, e⟩ := V; have := rng32 n; omega
theorem own_keepE {h h' : Heap} (E : Ext h h') : Keep h h' [] := (Keep.refl h []).ext E
theorem own_ne {h : Heap} {x y : Addr} (hx : x < h.size) (hy : h.size ≤ y) : x ≠ y := Nat.ne_of_lt (Nat.lt_of_lt_of_le hx hy)
theorem own_clamp {j : Int32} (h : 0 ≤ j.toInt) : j.toNatClampNeg = j.toInt.toNat := rfl
theorem own_lt0 {n : Int32} (h : 0 ≤ n.toInt) : ¬ n < 0 := by
  rw [Int32.lt_iff_toInt_lt]; have : (0 : Int32).toInt = 0 := by decide
  omega
theorem own_in {j : Int32} {n m : Nat} (hn : n = m) (h : 0 ≤ j.toInt ∧ j.toInt < (m : Int)) : 0 ≤ j.toInt ∧ j.toInt < (n : Int) := hn ▸ h
theorem own_mapD (L : List Int32) (i : Nat) : (L.map Value.int).getD i (.int 0) = .int (L.getD i 0) := by
  simp only [List.getD_eq_getElem?_getD, List.getElem?_map]; cases L[i]? <;> rfl
theorem own_mapDJ (L : List Int64) (i : Nat) : (L.map Value.long).getD i (.long 0) = .long (L.getD i 0) := by
  simp only [List.getD_eq_getElem?_getD, List.getElem?_map]; cases L[i]? <;> rfl
theorem own_mapS {α β : Type} (f : α → β) (L : List α) (i : Nat) (x : α) : (L.map f).set i (f x) = (L.set i x).map f := by
  induction L generalizing i with
  | nil => rfl
  | cons y L ih => cases i with
    | zero => rfl
    | succ i => simp only [List.map_cons, List.set_cons_succ, ih]
section Heap
variable {p : Program} {l : Launch} {e : Env} {R : Room} {s : State} {m : MethodId} {args : Array Value} {below : List Frame} {meth : Method} {c : Code} {T : State} {locs : List Loc} {cells slots : Nat} {Z : State} {a0 : Array Value} {h : Heap} {n0 : Nat}
/-- newarray of ints, bytes, booleans, chars, shorts -/
theorem own_newA (X : Stand p l e R s m args below meth c T locs cells slots) (hx : p.tables.exec = Jvm.exec) (hZ : Z.Warmed39 s.vm) {aty : ArrayType} {ty : FieldType} (hty : newarray.typeOf aty = ty) (w : (Cond.arrayClass ty).before a0 Z = true) (hd0 : defaultValue ty = .int 0) (eT : T.heap = h) {g : JFrame} (hg : g.method = m) (hd : decode c.code g.pc = .ok (.newarray aty, 2)) {n : Int32} {rest : List Value} (hs : g.stack = .int n :: rest)
    (len : Nat) (hn : n.toInt = len) {cap : Nat} (hcap : len ≤ cap) (hb : cap * 8 ≤ 536870912) (hc : cells + 1 ≤ R.cells) (hl : slots + cap ≤ R.slots) :
    ∃ T' h' a, Stand p l e R s m args below meth c T' locs (cells + 1) (slots + cap) ∧ T'.heap = h' ∧ Keep h h' [] ∧ h.size ≤ a ∧ own_IA Z h' a ty (List.replicate len 0) ∧
      ∀ target, Steps p.tables e below (T'.setTop { g with pc := g.pc + 2, stack := .ref a :: rest }) target → Steps p.tables e below (T.setTop g) target := by
  subst hty
  have h0 : ¬ n < 0 := own_lt0 (by omega)
  obtain ⟨T', h', cA, X', e', E, A, st⟩ := newP X hx hZ w eT hg hd hs h0 (cap := cap) (by show n.toInt.toNat ≤ cap; omega) hb hc hl
  refine ⟨T', h', h.size, X', e', own_keepE E, Nat.le_refl _, ⟨cA, n, ?_, ?_⟩, st⟩
  · have V := (Arv.new A h0).pad (pad_rep [] _ len)
    rw [hd0] at V
    simpa using V
  · simpa using hn
theorem own_newJ (X : Stand p l e R s m args below meth c T locs cells slots) (hx : p.tables.exec = Jvm.exec) (hZ : Z.Warmed39 s.vm) (w : (Cond.arrayClass .long).before a0 Z = true) (eT : T.heap = h) {g : JFrame} (hg : g.method = m) (hd : decode c.code g.pc = .ok (.newarray .long, 2)) {n : Int32} {rest : List Value} (hs : g.stack = .int n :: rest)
    (len : Nat) (hn : n.toInt = len) {cap : Nat} (hcap : len ≤ cap) (hb : cap * 8 ≤ 536870912) (hc : cells + 1 ≤ R.cells) (hl : slots + cap ≤ R.slots) :
    ∃ T' h' a, Stand p l e R s m args below meth c T' locs (cells + 1) (slots + cap) ∧ T'.heap = h' ∧ Keep h h' [] ∧ h.size ≤ a ∧ own_JA Z h' a (List.replicate len 0) ∧
      ∀ target, Steps p.tables e below (T'.setTop { g with pc := g.pc + 2, stack := .ref a :: rest }) target → Steps p.tables e below (T.setTop g) target := by
  have h0 : ¬ n < 0 := own_lt0 (by omega)
  obtain ⟨T', h', cA, X', e', E, A, st⟩ := newP X hx hZ (aty := .long) w eT hg hd hs h0 (cap := cap) (by show n.toInt.toNat ≤ cap; omega) hb hc hl
  refine ⟨T', h', h.size, X', e', own_keepE E, Nat.le_refl _, ⟨cA, n, ?_, ?_⟩, st⟩
  · have V := (Arv.new A h0).pad (pad_rep [] _ len)
    have hd0 : defaultValue (newarray.typeOf .long) = .long 0 := rfl
    rw [hd0] at V
    have V' : Arv Z h' h.size cA .long n ([] ++ List.replicate len (Value.long 0)) (.long 0) := V
    simpa using V'
  · simpa using hn
theorem own_bounds {Z : State} {h : Heap} {a : Addr} {cl : Cell} {n j : Int32} {len : Nat} (S : cl.slots.size = n.toNatClampNeg) (hn : n.toInt = (len : Int)) (hj : 0 ≤ j.toInt ∧ j.toInt < (len : Int)) : ¬ (j < 0 ∨ cl.slots.size ≤ j.toNatClampNeg) := by
  have hn' : n.toNatClampNeg = n.toInt.toNat := rfl
  have hj' : j.toNatClampNeg = j.toInt.toNat := rfl
  rintro (q | q)
  · exact own_lt0 hj.1 q
  · omega
theorem own_ialoadI (X : Stand p l e R s m args below meth c T locs cells slots) (hx : p.tables.exec = Jvm.exec) (hZ : Z.Warmed39 s.vm) (eT : T.heap = h) {a : Addr} {L : List Int32} (V : own_IA Z h a .int L) {j : Int32} (hj : 0 ≤ j.toInt ∧ j.toInt < (L.length : Int)) {g : JFrame} (hg : g.method = m) {rest : List Value} (hs : g.stack = .int j :: .ref a :: rest) (hd : decode c.code g.pc = .ok (.iaload, 1)) :
    ∀ target, Steps p.tables e below (T.setTop { g with pc := g.pc + 1, stack := .int (L.getD j.toInt.toNat 0) :: rest }) target → Steps p.tables e below (T.setTop g) target := by
  obtain ⟨k, n, ⟨cl, A, q1, S, q3, H, G⟩, hn⟩ := V
  have hb := own_bounds (Z := Z) (h := h) (a := a) S hn hj
  exact X.iaload hx (j := j) (v := .int (L.getD j.toInt.toNat 0)) (by rw [eT]; exact A.1) (State.isArrayOf_alike hZ.alike A.2.1) A.2.2 hb (H.at hb (own_mapD L _)) hg hs hd
theorem own_baloadB (X : Stand p l e R s m args below meth c T locs cells slots) (hx : p.tables.exec = Jvm.exec) (hZ : Z.Warmed39 s.vm) (eT : T.heap = h) {a : Addr} {L : List Int32} (V : own_IA Z h a .byte L) {j : Int32} (hj : 0 ≤ j.toInt ∧ j.toInt < (L.length : Int)) {g : JFrame} (hg : g.method = m) {rest : List Value} (hs : g.stack = .int j :: .ref a :: rest) (hd : decode c.code g.pc = .ok (.baload, 1)) :
    ∀ target, Steps p.tables e below (T.setTop { g with pc := g.pc + 1, stack := .int (L.getD j.toInt.toNat 0) :: rest }) target → Steps p.tables e below (T.setTop g) target := by
  obtain ⟨k, n, ⟨cl, A, q1, S, q3, H, G⟩, hn⟩ := V
  have hb := own_bounds (Z := Z) (h := h) (a := a) S hn hj
  exact X.baloadBytes hx (j := j) (v := .int (L.getD j.toInt.toNat 0)) (by rw [eT]; exact A.1) (State.isArrayOf_alike hZ.alike A.2.1) A.2.2 hb (H.at hb (own_mapD L _)) hg hs hd
theorem own_baloadZ (X : Stand p l e R s m args below meth c T locs cells slots) (hx : p.tables.exec = Jvm.exec) (hZ : Z.Warmed39 s.vm) (eT : T.heap = h) {a : Addr} {L : List Int32} (V : own_IA Z h a .boolean L) {j : Int32} (hj : 0 ≤ j.toInt ∧ j.toInt < (L.length : Int)) {g : JFrame} (hg : g.method = m) {rest : List Value} (hs : g.stack = .int j :: .ref a :: rest) (hd : decode c.code g.pc = .ok (.baload, 1)) :
    ∀ target, Steps p.tables e below (T.setTop { g with pc := g.pc + 1, stack := .int (L.getD j.toInt.toNat 0) :: rest }) target → Steps p.tables e below (T.setTop g) target := by
  obtain ⟨k, n, ⟨cl, A, q1, S, q3, H, G⟩, hn⟩ := V
  have hb := own_bounds (Z := Z) (h := h) (a := a) S hn hj
  exact X.baloadBooleans hx (j := j) (v := .int (L.getD j.toInt.toNat 0)) (by rw [eT]; exact A.1) (State.isArrayOf_alike hZ.alike A.2.1) A.2.2 hb (H.at hb (own_mapD L _)) hg hs hd
theorem own_laloadJ (X : Stand p l e R s m args below meth c T locs cells slots) (hx : p.tables.exec = Jvm.exec) (hZ : Z.Warmed39 s.vm) (eT : T.heap = h) {a : Addr} {L : List Int64} (V : own_JA Z h a L) {j : Int32} (hj : 0 ≤ j.toInt ∧ j.toInt < (L.length : Int)) {g : JFrame} (hg : g.method = m) {rest : List Value} (hs : g.stack = .int j :: .ref a :: rest) (hd : decode c.code g.pc = .ok (.laload, 1)) :
    ∀ target, Steps p.tables e below (T.setTop { g with pc := g.pc + 1, stack := .long (L.getD j.toInt.toNat 0) :: rest }) target → Steps p.tables e below (T.setTop g) target := by
  obtain ⟨k, n, ⟨cl, A, q1, S, q3, H, G⟩, hn⟩ := V
  have hb := own_bounds (Z := Z) (h := h) (a := a) S hn hj
  exact X.laload hx (j := j) (v := .long (L.getD j.toInt.toNat 0)) (by rw [eT]; exact A.1) (State.isArrayOf_alike hZ.alike A.2.1) A.2.2 hb (H.at hb (own_mapDJ L _)) hg hs hd
theorem own_lenI (X : Stand p l e R s m args below meth c T locs cells slots) (hx : p.tables.exec = Jvm.exec) (hZ : Z.Warmed39 s.vm) (eT : T.heap = h) {a : Addr} {ty : FieldType} {L : List Int32} (V : own_IA Z h a ty L) {g : JFrame} (hg : g.method = m) {rest : List Value} (hs : g.stack = .ref a :: rest) (hd : decode c.code g.pc = .ok (.arraylength, 1)) :
    ∀ target, Steps p.tables e below (T.setTop { g with pc := g.pc + 1, stack := .int (Int32.ofNat L.length) :: rest }) target → Steps p.tables e below (T.setTop g) target := by
  have hl := V.len
  obtain ⟨k, n, ⟨cl, A, q1, S, q3, H, G⟩, hn⟩ := V
  intro t k
  refine X.arraylength hx (by rw [eT]; exact A.1) (State.isArrayOf_alike hZ.alike A.2.1) hg hs hd t ?_
  rw [len_of S q3]
  have e : n = Int32.ofNat L.length := by
    rw [← Int32.toInt_inj, Int32.toInt_ofNat_of_lt (by omega)]; exact hn
  rw [e]; exact k
theorem own_lenJ (X : Stand p l e R s m args below meth c T locs cells slots) (hx : p.tables.exec = Jvm.exec) (hZ : Z.Warmed39 s.vm) (eT : T.heap = h) {a : Addr} {L : List Int64} (V : own_JA Z h a L) {g : JFrame} (hg : g.method = m) {rest : List Value} (hs : g.stack = .ref a :: rest) (hd : decode c.code g.pc = .ok (.arraylength, 1)) :
    ∀ target, Steps p.tables e below (T.setTop { g with pc := g.pc + 1, stack := .int (Int32.ofNat L.length) :: rest }) target → Steps p.tables e below (T.setTop g) target := by
  obtain ⟨k, n, ⟨cl, A, q1, S, q3, H, G⟩, hn⟩ := V
  have hl := rng32 n
  intro t k
  refine X.arraylength hx (by rw [eT]; exact A.1) (State.isArrayOf_alike hZ.alike A.2.1) hg hs hd t ?_
  rw [len_of S q3]
  have e : n = Int32.ofNat L.length := by
    rw [← Int32.toInt_inj, Int32.toInt_ofNat_of_lt (by omega)]; exact hn
  rw [e]; exact k
theorem own_iastoreI (X : Stand p l e R s m args below meth c T locs cells slots) (hx : p.tables.exec = Jvm.exec) (hZ : Z.Warmed39 s.vm) (N : Fr n0 locs) (eT : T.heap = h) {a : Addr} {L : List Int32} (V : own_IA Z h a .int L) {j x : Int32} (hj : 0 ≤ j.toInt ∧ j.toInt < (L.length : Int)) (ha : n0 ≤ a) {g : JFrame} (hg : g.method = m) {rest : List Value} (hs : g.stack = .int x :: .int j :: .ref a :: rest) (hd : decode c.code g.pc = .ok (.iastore, 1)) :
    ∃ T' h' locs', Stand p l e R s m args below meth c T' locs' cells slots ∧ Fr n0 locs' ∧ T'.heap = h' ∧ Keep h h' [a] ∧ own_IA Z h' a .int (L.set j.toInt.toNat x) ∧
      ∀ target, Steps p.tables e below (T'.setTop { g with pc := g.pc + 1, stack := rest }) target → Steps p.tables e below (T.setTop g) target := by
  obtain ⟨k, n, ⟨cl, A, q1, S, q3, H, G⟩, hn⟩ := V
  have hb := own_bounds (Z := Z) (h := h) (a := a) S hn hj
  obtain ⟨T', h', X', e', W, st⟩ := stI X hx hZ eT A (j := j) hb hg hs hd
  have V' := Arv.set A q1 S q3 H G (v := .int x) rfl W j.toInt.toNat rfl (by simp only [List.length_map]; omega)
  rw [own_mapS] at V'
  exact ⟨T', h', _, X', Fr.snoc X' N ha, e', Keep.of_wr W, ⟨k, n, V', by simpa using hn⟩, st⟩
theorem own_bastoreB (X : Stand p l e R s m args below meth c T locs cells slots) (hx : p.tables.exec = Jvm.exec) (hZ : Z.Warmed39 s.vm) (N : Fr n0 locs) (eT : T.heap = h) {a : Addr} {L : List Int32} (V : own_IA Z h a .byte L) {j x : Int32} (hj : 0 ≤ j.toInt ∧ j.toInt < (L.length : Int)) (ha : n0 ≤ a) {g : JFrame} (hg : g.method = m) {rest : List Value} (hs : g.stack = .int x :: .int j :: .ref a :: rest) (hd : decode c.code g.pc = .ok (.bastore, 1)) :
    ∃ T' h' locs', Stand p l e R s m args below meth c T' locs' cells slots ∧ Fr n0 locs' ∧ T'.heap = h' ∧ Keep h h' [a] ∧ own_IA Z h' a .byte (L.set j.toInt.toNat (nar .byte x)) ∧
      ∀ target, Steps p.tables e below (T'.setTop { g with pc := g.pc + 1, stack := rest }) target → Steps p.tables e below (T.setTop g) target := by
  obtain ⟨k, n, ⟨cl, A, q1, S, q3, H, G⟩, hn⟩ := V
  have hb := own_bounds (Z := Z) (h := h) (a := a) S hn hj
  obtain ⟨T', h', X', e', W, st⟩ := stB X hx hZ eT A (j := j) hb hg hs hd
  have V' := Arv.set A q1 S q3 H G (v := .int (nar .byte x)) (fits_nar_byte _) W j.toInt.toNat rfl (by simp only [List.length_map]; omega)
  rw [own_mapS] at V'
  exact ⟨T', h', _, X', Fr.snoc X' N ha, e', Keep.of_wr W, ⟨k, n, V', by simpa using hn⟩, st⟩
theorem own_bastoreZ (X : Stand p l e R s m args below meth c T locs cells slots) (hx : p.tables.exec = Jvm.exec) (hZ : Z.Warmed39 s.vm) (N : Fr n0 locs) (eT : T.heap = h) {a : Addr} {L : List Int32} (V : own_IA Z h a .boolean L) {j x : Int32} (hj : 0 ≤ j.toInt ∧ j.toInt < (L.length : Int)) (ha : n0 ≤ a) {g : JFrame} (hg : g.method = m) {rest : List Value} (hs : g.stack = .int x :: .int j :: .ref a :: rest) (hd : decode c.code g.pc = .ok (.bastore, 1)) :
    ∃ T' h' locs', Stand p l e R s m args below meth c T' locs' cells slots ∧ Fr n0 locs' ∧ T'.heap = h' ∧ Keep h h' [a] ∧ own_IA Z h' a .boolean (L.set j.toInt.toNat (nar .boolean x)) ∧
      ∀ target, Steps p.tables e below (T'.setTop { g with pc := g.pc + 1, stack := rest }) target → Steps p.tables e below (T.setTop g) target := by
  obtain ⟨k, n, ⟨cl, A, q1, S, q3, H, G⟩, hn⟩ := V
  have hb := own_bounds (Z := Z) (h := h) (a := a) S hn hj
  obtain ⟨T', h', X', e', W, st⟩ := stZ X hx hZ eT A (j := j) hb hg hs hd
  have V' := Arv.set A q1 S q3 H G (v := .int (nar .boolean x)) (fits_nar_bool _) W j.toInt.toNat rfl (by simp only [List.length_map]; omega)
  rw [own_mapS] at V'
  exact ⟨T', h', _, X', Fr.snoc X' N ha, e', Keep.of_wr W, ⟨k, n, V', by simpa using hn⟩, st⟩
theorem own_lastoreJ (X : Stand p l e R s m args below meth c T locs cells slots) (hx : p.tables.exec = Jvm.exec) (hZ : Z.Warmed39 s.vm) (N : Fr n0 locs) (eT : T.heap = h) {a : Addr} {L : List Int64} (V : own_JA Z h a L) {j : Int32} {x : Int64} (hj : 0 ≤ j.toInt ∧ j.toInt < (L.length : Int)) (ha : n0 ≤ a) {g : JFrame} (hg : g.method = m) {rest : List Value} (hs : g.stack = .long x :: .int j :: .ref a :: rest) (hd : decode c.code g.pc = .ok (.lastore, 1)) :
    ∃ T' h' locs', Stand p l e R s m args below meth c T' locs' cells slots ∧ Fr n0 locs' ∧ T'.heap = h' ∧ Keep h h' [a] ∧ own_JA Z h' a (L.set j.toInt.toNat x) ∧
      ∀ target, Steps p.tables e below (T'.setTop { g with pc := g.pc + 1, stack := rest }) target → Steps p.tables e below (T.setTop g) target := by
  obtain ⟨k, n, ⟨cl, A, q1, S, q3, H, G⟩, hn⟩ := V
  have hb := own_bounds (Z := Z) (h := h) (a := a) S hn hj
  obtain ⟨T', h', X', e', W, st⟩ := stJ X hx hZ eT A (j := j) hb hg hs hd
  have V' := Arv.set A q1 S q3 H G (v := .long x) rfl W j.toInt.toNat rfl (by simp only [List.length_map]; omega)
  rw [own_mapS] at V'
  exact ⟨T', h', _, X', Fr.snoc X' N ha, e', Keep.of_wr W, ⟨k, n, V', by simpa using hn⟩, st⟩
/-- new -/
theorem own_new (X : Stand p l e R s m args below meth c T locs cells slots) (hx : p.tables.exec = Jvm.exec) (hZ : Z.Warmed39 s.vm) {own C : String} {index n : Nat} (hown : s.vm.findClass own = some m.cls) (w : (Cond.classLink own index C).before a0 Z = true) (wi : (Cond.instantiable C n).before a0 Z = true) (wz : (Cond.initialized C).before a0 Z = true) (eT : T.heap = h)
    {g : JFrame} (hg : g.method = m) (hd : decode c.code g.pc = .ok (.new index, 3)) (hc : cells + 1 ≤ R.cells) (hl : slots + n ≤ R.slots) :
    ∃ T' h' a, Stand p l e R s m args below meth c T' locs (cells + 1) (slots + n) ∧ T'.heap = h' ∧ Keep h h' [] ∧ h.size ≤ a ∧ Exa Z h' a C ∧ (∀ {O nm d : String} {ty : FieldType}, Laid Z a0 C O nm d → parseFieldDescriptor d = some ty → Fld Z h' a O nm d (defaultValue ty)) ∧
      ∀ target, Steps p.tables e below (T'.setTop { g with pc := g.pc + 3, stack := .ref a :: g.stack }) target → Steps p.tables e below (T.setTop g) target := by
  obtain ⟨T', h', X', e', E, A, D, -, st⟩ := newO X hx hZ hown w wi wz eT hg hd hc hl
  exact ⟨T', h', h.size, X', e', own_keepE E, Nat.le_refl _, A, D, st⟩
end Heap
theorem own_pd0 : parseMethodDescriptor "(I)I" = some ⟨[.int], some .int⟩ := by decide +kernel
theorem own_pd1 : parseMethodDescriptor "()V" = some ⟨[], none⟩ := by decide +kernel
theorem own_pd2 : parseMethodDescriptor "(I)Z" = some ⟨[.int], some .boolean⟩ := by decide +kernel
theorem own_pd3 : parseMethodDescriptor "(II)Z" = some ⟨[.int, .int], some .boolean⟩ := by decide +kernel
theorem own_pd4 : parseMethodDescriptor "(II)I" = some ⟨[.int, .int], some .int⟩ := by decide +kernel
theorem own_d1_0 : decode method_2_code 0 = .ok (.iload_n 0, 1) := by decide +kernel
theorem own_d1_1 : decode method_2_code 1 = .ok (.iconst 3, 1) := by decide +kernel
theorem own_d1_2 : decode method_2_code 2 = .ok (.iand, 1) := by decide +kernel
theorem own_d1_3 : decode method_2_code 3 = .ok (.istore_n 1, 1) := by decide +kernel
theorem own_d1_4 : decode method_2_code 4 = .ok (.iload_n 1, 1) := by decide +kernel
theorem own_d1_5 : decode method_2_code 5 = .ok (.ifCond .ne 6, 3) := by decide +kernel
theorem own_d1_8 : decode method_2_code 8 = .ok (.bipush 34, 2) := by decide +kernel
theorem own_d1_10 : decode method_2_code 10 = .ok (.ireturn, 1) := by decide +kernel
theorem own_d1_11 : decode method_2_code 11 = .ok (.iload_n 1, 1) := by decide +kernel
theorem own_d1_12 : decode method_2_code 12 = .ok (.iconst 1, 1) := by decide +kernel
theorem own_d1_13 : decode method_2_code 13 = .ok (.if_icmp .ne 6, 3) := by decide +kernel
theorem own_d1_16 : decode method_2_code 16 = .ok (.bipush 39, 2) := by decide +kernel
theorem own_d1_18 : decode method_2_code 18 = .ok (.ireturn, 1) := by decide +kernel
theorem own_d1_19 : decode method_2_code 19 = .ok (.iload_n 1, 1) := by decide +kernel
theorem own_d1_20 : decode method_2_code 20 = .ok (.iconst 2, 1) := by decide +kernel
theorem own_d1_21 : decode method_2_code 21 = .ok (.if_icmp .ne 6, 3) := by decide +kernel
theorem own_d1_24 : decode method_2_code 24 = .ok (.bipush 62, 2) := by decide +kernel
theorem own_d1_26 : decode method_2_code 26 = .ok (.ireturn, 1) := by decide +kernel
theorem own_d1_27 : decode method_2_code 27 = .ok (.iload_n 0, 1) := by decide +kernel
theorem own_d1_28 : decode method_2_code 28 = .ok (.ireturn, 1) := by decide +kernel
theorem own_pn1 : plainName "com/example/tame_markup/tamemarkup/tokenizing/DeclarationEndEndsWithPinLaw" = true := by first | (simp [plainName, overriddenIn]; done) | decide +kernel
theorem own_ef1 (m : MethodId) (p0 : Int32) : entryFrame m #[(.int p0)] 2 = mkF m 0 #[.val (.int p0), .unset] [] := by first | (simp [entryFrame, mkF, argsToLocals, Value.category]; done) | rfl
abbrev own_R1 : Room := { frames := 0, cells := 0, slots := 0, locals := 0 }
def own_F1 (p0 : Int32) : Int32 :=
  let v1 : Int32 := (p0 &&& (3 : Int32))
  if v1 = (0 : Int32) then
    (34 : Int32)
  else
    if v1 = (1 : Int32) then
      (39 : Int32)
    else
      if v1 = (2 : Int32) then
        (62 : Int32)
      else
        p0
def own_Q1 (p0 : Int32) (h0 : Heap) (vz : Option Value) (h : Heap) (Lz : List Loc) : Prop :=  vz = some (.int (own_F1 p0)) ∧ Lz = [] ∧ h = h0
set_option maxRecDepth 65536 in
set_option maxHeartbeats 40000000 in
theorem own_rm1 (l : Launch) (Z : State) (a0 : Array Value) (hw : ∀ d ∈ tables_1, d.before a0 Z = true) (ws : List Jvm.Cond) (p0 : Int32) (h0 : Heap) :
    MetFree l (⟨"com/example/tame_markup/tamemarkup/tokenizing/DeclarationEndEndsWithPinLaw", "pick", "(I)I"⟩ : MethodName) (head1 (Jvm.Cond.code (⟨"com/example/tame_markup/tamemarkup/tokenizing/DeclarationEndEndsWithPinLaw", "pick", "(I)I"⟩ : MethodName) method_2_code 2 (some .int) :: ws) own_R1) (fun a U => a = #[(.int p0)] ∧ Z.Warmed39 U.vm ∧ U.heap = h0) (fun _ _ _ _ _ => True) (fun _ U o U' => ∃ vz Lz, o = .returned vz ∧ own_Q1 p0 h0 vz U'.heap Lz ∧ FrameEnd U o U' Lz own_R1.cells own_R1.slots) := by
  refine MetFree.of_bodySF (plainFor_of_name own_pn1) hisR ?_
  intro p e s m args below meth c s₁ Bd hml0 hP hK
  obtain ⟨rfl, hZ, hh⟩ := hP
  have hx := Bd.exec
  have hby := Bd.bytes
  have hml : c.maxLocals = 2 := hml0
  have hown : s.vm.findClass "com/example/tame_markup/tamemarkup/tokenizing/DeclarationEndEndsWithPinLaw" = some m.cls := findClass_of_methodNamed Bd.named
  have hnm := (name_of_methodNamed Bd.named Bd.method).1
  have X0 : Stand p l e own_R1 s m #[(.int p0)] below meth c s₁ [] 0 0 := Stand.of_body Bd
  have e0 : s₁.heap = h0 := by rw [← hh, Bd.state]; rfl
  show own_End p e below s (fun vz h Lz => vz = some (.int (own_F1 p0)) ∧ Lz = [] ∧ h = h0) own_R1.cells own_R1.slots s₁ (entryFrame m #[(.int p0)] 2)
  refine own_End.go (fun t k => castTop (own_ef1 m p0) k) ?_
  show own_End p e below s _ _ _ s₁ (mkF m 0 #[.val (.int p0), .unset] [])
  obtain ⟨v1, hv1⟩ : ∃ z : Int32, z = (p0 &&& (3 : Int32)) := ⟨_, rfl⟩
  have st2 : ∀ t, Steps p.tables e below (s₁.setTop (mkF m 4 #[.val (.int p0), .val (.int v1)] [])) t → Steps p.tables e below (s₁.setTop (mkF m 0 #[.val (.int p0), .unset] [])) t := by
    rw [hv1]
    intro t k
    show Steps p.tables e below (s₁.setTop (mkF m 0 #[.val (.int p0), .unset] [])) _
    refine XS.iloadN X0.here hx rfl (hb hby own_d1_0) rfl ?_
    show Steps p.tables e below (s₁.setTop (mkF m 1 #[.val (.int p0), .unset] [(.int p0)])) _
    refine XS.iconst X0.here hx rfl (hb hby own_d1_1) ?_
    show Steps p.tables e below (s₁.setTop (mkF m 2 #[.val (.int p0), .unset] [(.int (3 : Int32)), (.int p0)])) _
    refine XS.iand X0.here hx rfl (hb hby own_d1_2) rfl ?_
    show Steps p.tables e below (s₁.setTop (mkF m 3 #[.val (.int p0), .unset] [(.int (p0 &&& (3 : Int32)))])) _
    refine XS.istoreN X0.here hx rfl (hb hby own_d1_3) rfl (l' := #[.val (.int p0), .val (.int (p0 &&& (3 : Int32)))]) rfl ?_
    exact k
  have st3 : ∀ t, Steps p.tables e below (s₁.setTop (mkF m 5 #[.val (.int p0), .val (.int v1)] [(.int v1)])) t → Steps p.tables e below (s₁.setTop (mkF m 4 #[.val (.int p0), .val (.int v1)] [])) t := by
    intro t k
    show Steps p.tables e below (s₁.setTop (mkF m 4 #[.val (.int p0), .val (.int v1)] [])) _
    refine XS.iloadN X0.here hx rfl (hb hby own_d1_4) rfl ?_
    exact k
  refine own_End.go (fun t k => st2 _ (st3 _ k)) ?_
  by_cases hc5_4 : v1 = (0 : Int32)
  · have st5 : ∀ t, Steps p.tables e below (s₁.setTop (mkF m 10 #[.val (.int p0), .val (.int v1)] [(.int (34 : Int32))])) t → Steps p.tables e below (s₁.setTop (mkF m 5 #[.val (.int p0), .val (.int v1)] [(.int v1)])) t := by
      intro t k
      show Steps p.tables e below (s₁.setTop (mkF m 5 #[.val (.int p0), .val (.int v1)] [(.int v1)])) _
      refine XS.ifNo X0.here hx rfl (hb hby own_d1_5) rfl ((if0 _ _).trans (teq hc5_4).2) ?_
      show Steps p.tables e below (s₁.setTop (mkF m 8 #[.val (.int p0), .val (.int v1)] [])) _
      refine XS.bipush X0.here hx rfl (hb hby own_d1_8) ?_
      exact k
    refine own_End.go (fun t k => st5 _ k) ?_
    exact own_leafI X0 hx Bd.notSynchronized Bd.returns (hb hby own_d1_10) ⟨congrArg (fun z => some (Value.int z)) (by
        subst hv1; simp only [own_F1, own_nb0, own_nb1, if_pos hc5_4]), rfl, e0⟩ (by decide) (by decide)
  · have st6 : ∀ t, Steps p.tables e below (s₁.setTop (mkF m 13 #[.val (.int p0), .val (.int v1)] [(.int (1 : Int32)), (.int v1)])) t → Steps p.tables e below (s₁.setTop (mkF m 5 #[.val (.int p0), .val (.int v1)] [(.int v1)])) t := by
      intro t k
      show Steps p.tables e below (s₁.setTop (mkF m 5 #[.val (.int p0), .val (.int v1)] [(.int v1)])) _
      refine XS.ifYes X0.here hx rfl (pc0 := 5) (pc' := 11) rfl (hb hby own_d1_5) rfl ((if0 _ _).trans (feq hc5_4).2) (by decide) (by decide) ?_
      show Steps p.tables e below (s₁.setTop (mkF m 11 #[.val (.int p0), .val (.int v1)] [])) _
      refine XS.iloadN X0.here hx rfl (hb hby own_d1_11) rfl ?_
      show Steps p.tables e below (s₁.setTop (mkF m 12 #[.val (.int p0), .val (.int v1)] [(.int v1)])) _
      refine XS.iconst X0.here hx rfl (hb hby own_d1_12) ?_
      exact k
    refine own_End.go (fun t k => st6 _ k) ?_
    by_cases hc13_7 : v1 = (1 : Int32)
    · have st8 : ∀ t, Steps p.tables e below (s₁.setTop (mkF m 18 #[.val (.int p0), .val (.int v1)] [(.int (39 : Int32))])) t → Steps p.tables e below (s₁.setTop (mkF m 13 #[.val (.int p0), .val (.int v1)] [(.int (1 : Int32)), (.int v1)])) t := by
        intro t k
        show Steps p.tables e below (s₁.setTop (mkF m 13 #[.val (.int p0), .val (.int v1)] [(.int (1 : Int32)), (.int v1)])) _
        refine XS.icmpNo X0.here hx rfl (hb hby own_d1_13) rfl (teq hc13_7).2 ?_
        show Steps p.tables e below (s₁.setTop (mkF m 16 #[.val (.int p0), .val (.int v1)] [])) _
        refine XS.bipush X0.here hx rfl (hb hby own_d1_16) ?_
        exact k
      refine own_End.go (fun t k => st8 _ k) ?_
      exact own_leafI X0 hx Bd.notSynchronized Bd.returns (hb hby own_d1_18) ⟨congrArg (fun z => some (Value.int z)) (by
          subst hv1; simp only [own_F1, own_nb0, own_nb1, if_neg hc5_4, if_pos hc13_7]), rfl, e0⟩ (by decide) (by decide)
    · have st9 : ∀ t, Steps p.tables e below (s₁.setTop (mkF m 21 #[.val (.int p0), .val (.int v1)] [(.int (2 : Int32)), (.int v1)])) t → Steps p.tables e below (s₁.setTop (mkF m 13 #[.val (.int p0), .val (.int v1)] [(.int (1 : Int32)), (.int v1)])) t := by
        intro t k
        show Steps p.tables e below (s₁.setTop (mkF m 13 #[.val (.int p0), .val (.int v1)] [(.int (1 : Int32)), (.int v1)])) _
        refine XS.icmpYes X0.here hx rfl (pc0 := 13) (pc' := 19) rfl (hb hby own_d1_13) rfl (feq hc13_7).2 (by decide) (by decide) ?_
        show Steps p.tables e below (s₁.setTop (mkF m 19 #[.val (.int p0), .val (.int v1)] [])) _
        refine XS.iloadN X0.here hx rfl (hb hby own_d1_19) rfl ?_
        show Steps p.tables e below (s₁.setTop (mkF m 20 #[.val (.int p0), .val (.int v1)] [(.int v1)])) _
        refine XS.iconst X0.here hx rfl (hb hby own_d1_20) ?_
        exact k
      refine own_End.go (fun t k => st9 _ k) ?_
      by_cases hc21_10 : v1 = (2 : Int32)
      · have st11 : ∀ t, Steps p.tables e below (s₁.setTop (mkF m 26 #[.val (.int p0), .val (.int v1)] [(.int (62 : Int32))])) t → Steps p.tables e below (s₁.setTop (mkF m 21 #[.val (.int p0), .val (.int v1)] [(.int (2 : Int32)), (.int v1)])) t := by
          intro t k
          show Steps p.tables e below (s₁.setTop (mkF m 21 #[.val (.int p0), .val (.int v1)] [(.int (2 : Int32)), (.int v1)])) _
          refine XS.icmpNo X0.here hx rfl (hb hby own_d1_21) rfl (teq hc21_10).2 ?_
          show Steps p.tables e below (s₁.setTop (mkF m 24 #[.val (.int p0), .val (.int v1)] [])) _
          refine XS.bipush X0.here hx rfl (hb hby own_d1_24) ?_
          exact k
        refine own_End.go (fun t k => st11 _ k) ?_
        exact own_leafI X0 hx Bd.notSynchronized Bd.returns (hb hby own_d1_26) ⟨congrArg (fun z => some (Value.int z)) (by
            subst hv1; simp only [own_F1, own_nb0, own_nb1, if_neg hc5_4, if_neg hc13_7, if_pos hc21_10]), rfl, e0⟩ (by decide) (by decide)
      · have st12 : ∀ t, Steps p.tables e below (s₁.setTop (mkF m 28 #[.val (.int p0), .val (.int v1)] [(.int p0)])) t → Steps p.tables e below (s₁.setTop (mkF m 21 #[.val (.int p0), .val (.int v1)] [(.int (2 : Int32)), (.int v1)])) t := by
          intro t k
          show Steps p.tables e below (s₁.setTop (mkF m 21 #[.val (.int p0), .val (.int v1)] [(.int (2 : Int32)), (.int v1)])) _
          refine XS.icmpYes X0.here hx rfl (pc0 := 21) (pc' := 27) rfl (hb hby own_d1_21) rfl (feq hc21_10).2 (by decide) (by decide) ?_
          show Steps p.tables e below (s₁.setTop (mkF m 27 #[.val (.int p0), .val (.int v1)] [])) _
          refine XS.iloadN X0.here hx rfl (hb hby own_d1_27) rfl ?_
          exact k
        refine own_End.go (fun t k => st12 _ k) ?_
        exact own_leafI X0 hx Bd.notSynchronized Bd.returns (hb hby own_d1_28) ⟨congrArg (fun z => some (Value.int z)) (by
            subst hv1; simp only [own_F1, own_nb0, own_nb1, if_neg hc5_4, if_neg hc13_7, if_neg hc21_10]), rfl, e0⟩ (by decide) (by decide)
theorem own_d5_0 : decode method_4_code 0 = .ok (.iload_n 0, 1) := by decide +kernel
theorem own_d5_1 : decode method_4_code 1 = .ok (.ifCond .ne 13, 3) := by decide +kernel
theorem own_d5_4 : decode method_4_code 4 = .ok (.iload_n 1, 1) := by decide +kernel
theorem own_d5_5 : decode method_4_code 5 = .ok (.bipush 62, 2) := by decide +kernel
theorem own_d5_7 : decode method_4_code 7 = .ok (.if_icmp .ne 7, 3) := by decide +kernel
theorem own_d5_10 : decode method_4_code 10 = .ok (.iconst 1, 1) := by decide +kernel
theorem own_d5_11 : decode method_4_code 11 = .ok (.goto 4, 3) := by decide +kernel
theorem own_d5_14 : decode method_4_code 14 = .ok (.iconst 0, 1) := by decide +kernel
theorem own_d5_15 : decode method_4_code 15 = .ok (.ireturn, 1) := by decide +kernel
theorem own_pn5 : plainName "com/example/tame_markup/tamemarkup/tokenizing/DeclarationEndEndsWithPinLaw" = true := by first | (simp [plainName, overriddenIn]; done) | decide +kernel
theorem own_ef5 (m : MethodId) (p0 : Int32) (p1 : Int32) : entryFrame m #[(.int p0), (.int p1)] 2 = mkF m 0 #[.val (.int p0), .val (.int p1)] [] := by first | (simp [entryFrame, mkF, argsToLocals, Value.category]; done) | rfl
abbrev own_R5 : Room := { frames := 0, cells := 0, slots := 0, locals := 0 }
def own_F5 (p0 : Int32) (p1 : Int32) : Int32 :=
  if p0 = (0 : Int32) then
    if p1 = (62 : Int32) then
      (1 : Int32)
    else
      (0 : Int32)
  else
    (0 : Int32)
def own_Q5 (p0 : Int32) (p1 : Int32) (h0 : Heap) (vz : Option Value) (h : Heap) (Lz : List Loc) : Prop :=  vz = some (.int (own_F5 p0 p1)) ∧ Lz = [] ∧ h = h0
set_option maxRecDepth 65536 in
set_option maxHeartbeats 40000000 in
theorem own_rm5 (l : Launch) (Z : State) (a0 : Array Value) (hw : ∀ d ∈ tables_1, d.before a0 Z = true) (ws : List Jvm.Cond) (p0 : Int32) (p1 : Int32) (h0 : Heap) :
    MetFree l (⟨"com/example/tame_markup/tamemarkup/tokenizing/DeclarationEndEndsWithPinLaw", "expectEnds", "(II)Z"⟩ : MethodName) (head1 (Jvm.Cond.code (⟨"com/example/tame_markup/tamemarkup/tokenizing/DeclarationEndEndsWithPinLaw", "expectEnds", "(II)Z"⟩ : MethodName) method_4_code 2 (some .boolean) :: ws) own_R5) (fun a U => a = #[(.int p0), (.int p1)] ∧ Z.Warmed39 U.vm ∧ U.heap = h0) (fun _ _ _ _ _ => True) (fun _ U o U' => ∃ vz Lz, o = .returned vz ∧ own_Q5 p0 p1 h0 vz U'.heap Lz ∧ FrameEnd U o U' Lz own_R5.cells own_R5.slots) := by
  refine MetFree.of_bodySF (plainFor_of_name own_pn5) hisR ?_
  intro p e s m args below meth c s₁ Bd hml0 hP hK
  obtain ⟨rfl, hZ, hh⟩ := hP
  have hx := Bd.exec
  have hby := Bd.bytes
  have hml : c.maxLocals = 2 := hml0
  have hown : s.vm.findClass "com/example/tame_markup/tamemarkup/tokenizing/DeclarationEndEndsWithPinLaw" = some m.cls := findClass_of_methodNamed Bd.named
  have hnm := (name_of_methodNamed Bd.named Bd.method).1
  have X0 : Stand p l e own_R5 s m #[(.int p0), (.int p1)] below meth c s₁ [] 0 0 := Stand.of_body Bd
  have e0 : s₁.heap = h0 := by rw [← hh, Bd.state]; rfl
  show own_End p e below s (fun vz h Lz => vz = some (.int (own_F5 p0 p1)) ∧ Lz = [] ∧ h = h0) own_R5.cells own_R5.slots s₁ (entryFrame m #[(.int p0), (.int p1)] 2)
  refine own_End.go (fun t k => castTop (own_ef5 m p0 p1) k) ?_
  show own_End p e below s _ _ _ s₁ (mkF m 0 #[.val (.int p0), .val (.int p1)] [])
  have st1 : ∀ t, Steps p.tables e below (s₁.setTop (mkF m 1 #[.val (.int p0), .val (.int p1)] [(.int p0)])) t → Steps p.tables e below (s₁.setTop (mkF m 0 #[.val (.int p0), .val (.int p1)] [])) t := by
    intro t k
    show Steps p.tables e below (s₁.setTop (mkF m 0 #[.val (.int p0), .val (.int p1)] [])) _
    refine XS.iloadN X0.here hx rfl (hb hby own_d5_0) rfl ?_
    exact k
  refine own_End.go (fun t k => st1 _ k) ?_
  by_cases hc1_2 : p0 = (0 : Int32)
  · have st3 : ∀ t, Steps p.tables e below (s₁.setTop (mkF m 7 #[.val (.int p0), .val (.int p1)] [(.int (62 : Int32)), (.int p1)])) t → Steps p.tables e below (s₁.setTop (mkF m 1 #[.val (.int p0), .val (.int p1)] [(.int p0)])) t := by
      intro t k
      show Steps p.tables e below (s₁.setTop (mkF m 1 #[.val (.int p0), .val (.int p1)] [(.int p0)])) _
      refine XS.ifNo X0.here hx rfl (hb hby own_d5_1) rfl ((if0 _ _).trans (teq hc1_2).2) ?_
      show Steps p.tables e below (s₁.setTop (mkF m 4 #[.val (.int p0), .val (.int p1)] [])) _
      refine XS.iloadN X0.here hx rfl (hb hby own_d5_4) rfl ?_
      show Steps p.tables e below (s₁.setTop (mkF m 5 #[.val (.int p0), .val (.int p1)] [(.int p1)])) _
      refine XS.bipush X0.here hx rfl (hb hby own_d5_5) ?_
      exact k
    refine own_End.go (fun t k => st3 _ k) ?_
    by_cases hc7_4 : p1 = (62 : Int32)
    · have st5 : ∀ t, Steps p.tables e below (s₁.setTop (mkF m 15 #[.val (.int p0), .val (.int p1)] [(.int (1 : Int32))])) t → Steps p.tables e below (s₁.setTop (mkF m 7 #[.val (.int p0), .val (.int p1)] [(.int (62 : Int32)), (.int p1)])) t := by
        intro t k
        show Steps p.tables e below (s₁.setTop (mkF m 7 #[.val (.int p0), .val (.int p1)] [(.int (62 : Int32)), (.int p1)])) _
        refine XS.icmpNo X0.here hx rfl (hb hby own_d5_7) rfl (teq hc7_4).2 ?_
        show Steps p.tables e below (s₁.setTop (mkF m 10 #[.val (.int p0), .val (.int p1)] [])) _
        refine XS.iconst X0.here hx rfl (hb hby own_d5_10) ?_
        show Steps p.tables e below (s₁.setTop (mkF m 11 #[.val (.int p0), .val (.int p1)] [(.int (1 : Int32))])) _
        refine XS.goto X0.here hx rfl (pc0 := 11) (pc' := 15) rfl (hb hby own_d5_11) (by decide) (by decide) ?_
        exact k
      refine own_End.go (fun t k => st5 _ k) ?_
      exact own_leafN X0 hx Bd.notSynchronized (t := .boolean) Bd.returns (by simp) (hb hby own_d5_15) ⟨congrArg (fun z => some (Value.int z)) (by
          simp only [own_F5, own_nb0, own_nb1, if_pos hc1_2, if_pos hc7_4]), rfl, e0⟩ (by decide) (by decide)
    · have st6 : ∀ t, Steps p.tables e below (s₁.setTop (mkF m 15 #[.val (.int p0), .val (.int p1)] [(.int (0 : Int32))])) t → Steps p.tables e below (s₁.setTop (mkF m 7 #[.val (.int p0), .val (.int p1)] [(.int (62 : Int32)), (.int p1)])) t := by
        intro t k
        show Steps p.tables e below (s₁.setTop (mkF m 7 #[.val (.int p0), .val (.int p1)] [(.int (62 : Int32)), (.int p1)])) _
        refine XS.icmpYes X0.here hx rfl (pc0 := 7) (pc' := 14) rfl (hb hby own_d5_7) rfl (feq hc7_4).2 (by decide) (by decide) ?_
        show Steps p.tables e below (s₁.setTop (mkF m 14 #[.val (.int p0), .val (.int p1)] [])) _
        refine XS.iconst X0.here hx rfl (hb hby own_d5_14) ?_
        exact k
      refine own_End.go (fun t k => st6 _ k) ?_
      exact own_leafN X0 hx Bd.notSynchronized (t := .boolean) Bd.returns (by simp) (hb hby own_d5_15) ⟨congrArg (fun z => some (Value.int z)) (by
          simp only [own_F5, own_nb0, own_nb1, if_pos hc1_2, if_neg hc7_4]), rfl, e0⟩ (by decide) (by decide)
  · have st7 : ∀ t, Steps p.tables e below (s₁.setTop (mkF m 15 #[.val (.int p0), .val (.int p1)] [(.int (0 : Int32))])) t → Steps p.tables e below (s₁.setTop (mkF m 1 #[.val (.int p0), .val (.int p1)] [(.int p0)])) t := by
      intro t k
      show Steps p.tables e below (s₁.setTop (mkF m 1 #[.val (.int p0), .val (.int p1)] [(.int p0)])) _
      refine XS.ifYes X0.here hx rfl (pc0 := 1) (pc' := 14) rfl (hb hby own_d5_1) rfl ((if0 _ _).trans (feq hc1_2).2) (by decide) (by decide) ?_
      show Steps p.tables e below (s₁.setTop (mkF m 14 #[.val (.int p0), .val (.int p1)] [])) _
      refine XS.iconst X0.here hx rfl (hb hby own_d5_14) ?_
      exact k
    refine own_End.go (fun t k => st7 _ k) ?_
    exact own_leafN X0 hx Bd.notSynchronized (t := .boolean) Bd.returns (by simp) (hb hby own_d5_15) ⟨congrArg (fun z => some (Value.int z)) (by
        simp only [own_F5, own_nb0, own_nb1, if_neg hc1_2]), rfl, e0⟩ (by decide) (by decide)
theorem own_d6_0 : decode method_3_code 0 = .ok (.iload_n 0, 1) := by decide +kernel
theorem own_d6_1 : decode method_3_code 1 = .ok (.ifCond .ne 19, 3) := by decide +kernel
theorem own_d6_4 : decode method_3_code 4 = .ok (.iload_n 1, 1) := by decide +kernel
theorem own_d6_5 : decode method_3_code 5 = .ok (.bipush 34, 2) := by decide +kernel
theorem own_d6_7 : decode method_3_code 7 = .ok (.if_icmp .eq 9, 3) := by decide +kernel
theorem own_d6_10 : decode method_3_code 10 = .ok (.iload_n 1, 1) := by decide +kernel
theorem own_d6_11 : decode method_3_code 11 = .ok (.bipush 39, 2) := by decide +kernel
theorem own_d6_13 : decode method_3_code 13 = .ok (.if_icmp .ne 5, 3) := by decide +kernel
theorem own_d6_16 : decode method_3_code 16 = .ok (.iload_n 1, 1) := by decide +kernel
theorem own_d6_17 : decode method_3_code 17 = .ok (.ireturn, 1) := by decide +kernel
theorem own_d6_18 : decode method_3_code 18 = .ok (.iconst 0, 1) := by decide +kernel
theorem own_d6_19 : decode method_3_code 19 = .ok (.ireturn, 1) := by decide +kernel
theorem own_d6_20 : decode method_3_code 20 = .ok (.iload_n 1, 1) := by decide +kernel
theorem own_d6_21 : decode method_3_code 21 = .ok (.iload_n 0, 1) := by decide +kernel
theorem own_d6_22 : decode method_3_code 22 = .ok (.if_icmp .ne 5, 3) := by decide +kernel
theorem own_d6_25 : decode method_3_code 25 = .ok (.iconst 0, 1) := by decide +kernel
theorem own_d6_26 : decode method_3_code 26 = .ok (.ireturn, 1) := by decide +kernel
theorem own_d6_27 : decode method_3_code 27 = .ok (.iload_n 0, 1) := by decide +kernel
theorem own_d6_28 : decode method_3_code 28 = .ok (.ireturn, 1) := by decide +kernel
theorem own_pn6 : plainName "com/example/tame_markup/tamemarkup/tokenizing/DeclarationEndEndsWithPinLaw" = true := by first | (simp [plainName, overriddenIn]; done) | decide +kernel
theorem own_ef6 (m : MethodId) (p0 : Int32) (p1 : Int32) : entryFrame m #[(.int p0), (.int p1)] 2 = mkF m 0 #[.val (.int p0), .val (.int p1)] [] := by first | (simp [entryFrame, mkF, argsToLocals, Value.category]; done) | rfl
abbrev own_R6 : Room := { frames := 0, cells := 0, slots := 0, locals := 0 }
def own_F6 (p0 : Int32) (p1 : Int32) : Int32 :=
  if p0 = (0 : Int32) then
    if p1 = (34 : Int32) then
      p1
    else
      if p1 = (39 : Int32) then
        p1
      else
        (0 : Int32)
  else
    if p1 = p0 then
      (0 : Int32)
    else
      p0
def own_Q6 (p0 : Int32) (p1 : Int32) (h0 : Heap) (vz : Option Value) (h : Heap) (Lz : List Loc) : Prop :=  vz = some (.int (own_F6 p0 p1)) ∧ Lz = [] ∧ h = h0
set_option maxRecDepth 65536 in
set_option maxHeartbeats 40000000 in
theorem own_rm6 (l : Launch) (Z : State) (a0 : Array Value) (hw : ∀ d ∈ tables_1, d.before a0 Z = true) (ws : List Jvm.Cond) (p0 : Int32) (p1 : Int32) (h0 : Heap) :
    MetFree l (⟨"com/example/tame_markup/tamemarkup/tokenizing/DeclarationEndEndsWithPinLaw", "next", "(II)I"⟩ : MethodName) (head1 (Jvm.Cond.code (⟨"com/example/tame_markup/tamemarkup/tokenizing/DeclarationEndEndsWithPinLaw", "next", "(II)I"⟩ : MethodName) method_3_code 2 (some .int) :: ws) own_R6) (fun a U => a = #[(.int p0), (.int p1)] ∧ Z.Warmed39 U.vm ∧ U.heap = h0) (fun _ _ _ _ _ => True) (fun _ U o U' => ∃ vz Lz, o = .returned vz ∧ own_Q6 p0 p1 h0 vz U'.heap Lz ∧ FrameEnd U o U' Lz own_R6.cells own_R6.slots) := by
  refine MetFree.of_bodySF (plainFor_of_name own_pn6) hisR ?_
  intro p e s m args below meth c s₁ Bd hml0 hP hK
  obtain ⟨rfl, hZ, hh⟩ := hP
  have hx := Bd.exec
  have hby := Bd.bytes
  have hml : c.maxLocals = 2 := hml0
  have hown : s.vm.findClass "com/example/tame_markup/tamemarkup/tokenizing/DeclarationEndEndsWithPinLaw" = some m.cls := findClass_of_methodNamed Bd.named
  have hnm := (name_of_methodNamed Bd.named Bd.method).1
  have X0 : Stand p l e own_R6 s m #[(.int p0), (.int p1)] below meth c s₁ [] 0 0 := Stand.of_body Bd
  have e0 : s₁.heap = h0 := by rw [← hh, Bd.state]; rfl
  show own_End p e below s (fun vz h Lz => vz = some (.int (own_F6 p0 p1)) ∧ Lz = [] ∧ h = h0) own_R6.cells own_R6.slots s₁ (entryFrame m #[(.int p0), (.int p1)] 2)
  refine own_End.go (fun t k => castTop (own_ef6 m p0 p1) k) ?_
  show own_End p e below s _ _ _ s₁ (mkF m 0 #[.val (.int p0), .val (.int p1)] [])
  have st1 : ∀ t, Steps p.tables e below (s₁.setTop (mkF m 1 #[.val (.int p0), .val (.int p1)] [(.int p0)])) t → Steps p.tables e below (s₁.setTop (mkF m 0 #[.val (.int p0), .val (.int p1)] [])) t := by
    intro t k
    show Steps p.tables e below (s₁.setTop (mkF m 0 #[.val (.int p0), .val (.int p1)] [])) _
    refine XS.iloadN X0.here hx rfl (hb hby own_d6_0) rfl ?_
    exact k
  refine own_End.go (fun t k => st1 _ k) ?_
  by_cases hc1_2 : p0 = (0 : Int32)
  · have st3 : ∀ t, Steps p.tables e below (s₁.setTop (mkF m 7 #[.val (.int p0), .val (.int p1)] [(.int (34 : Int32)), (.int p1)])) t → Steps p.tables e below (s₁.setTop (mkF m 1 #[.val (.int p0), .val (.int p1)] [(.int p0)])) t := by
      intro t k
      show Steps p.tables e below (s₁.setTop (mkF m 1 #[.val (.int p0), .val (.int p1)] [(.int p0)])) _
      refine XS.ifNo X0.here hx rfl (hb hby own_d6_1) rfl ((if0 _ _).trans (teq hc1_2).2) ?_
      show Steps p.tables e below (s₁.setTop (mkF m 4 #[.val (.int p0), .val (.int p1)] [])) _
      refine XS.iloadN X0.here hx rfl (hb hby own_d6_4) rfl ?_
      show Steps p.tables e below (s₁.setTop (mkF m 5 #[.val (.int p0), .val (.int p1)] [(.int p1)])) _
      refine XS.bipush X0.here hx rfl (hb hby own_d6_5) ?_
      exact k
    refine own_End.go (fun t k => st3 _ k) ?_
    by_cases hc7_4 : p1 = (34 : Int32)
    · have st5 : ∀ t, Steps p.tables e below (s₁.setTop (mkF m 17 #[.val (.int p0), .val (.int p1)] [(.int p1)])) t → Steps p.tables e below (s₁.setTop (mkF m 7 #[.val (.int p0), .val (.int p1)] [(.int (34 : Int32)), (.int p1)])) t := by
        intro t k
        show Steps p.tables e below (s₁.setTop (mkF m 7 #[.val (.int p0), .val (.int p1)] [(.int (34 : Int32)), (.int p1)])) _
        refine XS.icmpYes X0.here hx rfl (pc0 := 7) (pc' := 16) rfl (hb hby own_d6_7) rfl (teq hc7_4).1 (by decide) (by decide) ?_
        show Steps p.tables e below (s₁.setTop (mkF m 16 #[.val (.int p0), .val (.int p1)] [])) _
        refine XS.iloadN X0.here hx rfl (hb hby own_d6_16) rfl ?_
        exact k
      refine own_End.go (fun t k => st5 _ k) ?_
      exact own_leafI X0 hx Bd.notSynchronized Bd.returns (hb hby own_d6_17) ⟨congrArg (fun z => some (Value.int z)) (by
          simp only [own_F6, own_nb0, own_nb1, if_pos hc1_2, if_pos hc7_4]), rfl, e0⟩ (by decide) (by decide)
    · have st6 : ∀ t, Steps p.tables e below (s₁.setTop (mkF m 13 #[.val (.int p0), .val (.int p1)] [(.int (39 : Int32)), (.int p1)])) t → Steps p.tables e below (s₁.setTop (mkF m 7 #[.val (.int p0), .val (.int p1)] [(.int (34 : Int32)), (.int p1)])) t := by
        intro t k
        show Steps p.tables e below (s₁.setTop (mkF m 7 #[.val (.int p0), .val (.int p1)] [(.int (34 : Int32)), (.int p1)])) _
        refine XS.icmpNo X0.here hx rfl (hb hby own_d6_7) rfl (feq hc7_4).1 ?_
        show Steps p.tables e below (s₁.setTop (mkF m 10 #[.val (.int p0), .val (.int p1)] [])) _
        refine XS.iloadN X0.here hx rfl (hb hby own_d6_10) rfl ?_
        show Steps p.tables e below (s₁.setTop (mkF m 11 #[.val (.int p0), .val (.int p1)] [(.int p1)])) _
        refine XS.bipush X0.here hx rfl (hb hby own_d6_11) ?_
        exact k
      refine own_End.go (fun t k => st6 _ k) ?_
      by_cases hc13_7 : p1 = (39 : Int32)
      · have st8 : ∀ t, Steps p.tables e below (s₁.setTop (mkF m 17 #[.val (.int p0), .val (.int p1)] [(.int p1)])) t → Steps p.tables e below (s₁.setTop (mkF m 13 #[.val (.int p0), .val (.int p1)] [(.int (39 : Int32)), (.int p1)])) t := by
          intro t k
          show Steps p.tables e below (s₁.setTop (mkF m 13 #[.val (.int p0), .val (.int p1)] [(.int (39 : Int32)), (.int p1)])) _
          refine XS.icmpNo X0.here hx rfl (hb hby own_d6_13) rfl (teq hc13_7).2 ?_
          show Steps p.tables e below (s₁.setTop (mkF m 16 #[.val (.int p0), .val (.int p1)] [])) _
          refine XS.iloadN X0.here hx rfl (hb hby own_d6_16) rfl ?_
          exact k
        refine own_End.go (fun t k => st8 _ k) ?_
        exact own_leafI X0 hx Bd.notSynchronized Bd.returns (hb hby own_d6_17) ⟨congrArg (fun z => some (Value.int z)) (by
            simp only [own_F6, own_nb0, own_nb1, if_pos hc1_2, if_neg hc7_4, if_pos hc13_7]), rfl, e0⟩ (by decide) (by decide)
      · have st9 : ∀ t, Steps p.tables e below (s₁.setTop (mkF m 19 #[.val (.int p0), .val (.int p1)] [(.int (0 : Int32))])) t → Steps p.tables e below (s₁.setTop (mkF m 13 #[.val (.int p0), .val (.int p1)] [(.int (39 : Int32)), (.int p1)])) t := by
          intro t k
          show Steps p.tables e below (s₁.setTop (mkF m 13 #[.val (.int p0), .val (.int p1)] [(.int (39 : Int32)), (.int p1)])) _
          refine XS.icmpYes X0.here hx rfl (pc0 := 13) (pc' := 18) rfl (hb hby own_d6_13) rfl (feq hc13_7).2 (by decide) (by decide) ?_
          show Steps p.tables e below (s₁.setTop (mkF m 18 #[.val (.int p0), .val (.int p1)] [])) _
          refine XS.iconst X0.here hx rfl (hb hby own_d6_18) ?_
          exact k
        refine own_End.go (fun t k => st9 _ k) ?_
        exact own_leafI X0 hx Bd.notSynchronized Bd.returns (hb hby own_d6_19) ⟨congrArg (fun z => some (Value.int z)) (by
            simp only [own_F6, own_nb0, own_nb1, if_pos hc1_2, if_neg hc7_4, if_neg hc13_7]), rfl, e0⟩ (by decide) (by decide)
  · have st10 : ∀ t, Steps p.tables e below (s₁.setTop (mkF m 22 #[.val (.int p0), .val (.int p1)] [(.int p0), (.int p1)])) t → Steps p.tables e below (s₁.setTop (mkF m 1 #[.val (.int p0), .val (.int p1)] [(.int p0)])) t := by
      intro t k
      show Steps p.tables e below (s₁.setTop (mkF m 1 #[.val (.int p0), .val (.int p1)] [(.int p0)])) _
      refine XS.ifYes X0.here hx rfl (pc0 := 1) (pc' := 20) rfl (hb hby own_d6_1) rfl ((if0 _ _).trans (feq hc1_2).2) (by decide) (by decide) ?_
      show Steps p.tables e below (s₁.setTop (mkF m 20 #[.val (.int p0), .val (.int p1)] [])) _
      refine XS.iloadN X0.here hx rfl (hb hby own_d6_20) rfl ?_
      show Steps p.tables e below (s₁.setTop (mkF m 21 #[.val (.int p0), .val (.int p1)] [(.int p1)])) _
      refine XS.iloadN X0.here hx rfl (hb hby own_d6_21) rfl ?_
      exact k
    refine own_End.go (fun t k => st10 _ k) ?_
    by_cases hc22_11 : p1 = p0
    · have st12 : ∀ t, Steps p.tables e below (s₁.setTop (mkF m 26 #[.val (.int p0), .val (.int p1)] [(.int (0 : Int32))])) t → Steps p.tables e below (s₁.setTop (mkF m 22 #[.val (.int p0), .val (.int p1)] [(.int p0), (.int p1)])) t := by
        intro t k
        show Steps p.tables e below (s₁.setTop (mkF m 22 #[.val (.int p0), .val (.int p1)] [(.int p0), (.int p1)])) _
        refine XS.icmpNo X0.here hx rfl (hb hby own_d6_22) rfl (teq hc22_11).2 ?_
        show Steps p.tables e below (s₁.setTop (mkF m 25 #[.val (.int p0), .val (.int p1)] [])) _
        refine XS.iconst X0.here hx rfl (hb hby own_d6_25) ?_
        exact k
      refine own_End.go (fun t k => st12 _ k) ?_
      exact own_leafI X0 hx Bd.notSynchronized Bd.returns (hb hby own_d6_26) ⟨congrArg (fun z => some (Value.int z)) (by
          simp only [own_F6, own_nb0, own_nb1, if_neg hc1_2, if_pos hc22_11]), rfl, e0⟩ (by decide) (by decide)
    · have st13 : ∀ t, Steps p.tables e below (s₁.setTop (mkF m 28 #[.val (.int p0), .val (.int p1)] [(.int p0)])) t → Steps p.tables e below (s₁.setTop (mkF m 22 #[.val (.int p0), .val (.int p1)] [(.int p0), (.int p1)])) t := by
        intro t k
        show Steps p.tables e below (s₁.setTop (mkF m 22 #[.val (.int p0), .val (.int p1)] [(.int p0), (.int p1)])) _
        refine XS.icmpYes X0.here hx rfl (pc0 := 22) (pc' := 27) rfl (hb hby own_d6_22) rfl (feq hc22_11).2 (by decide) (by decide) ?_
        show Steps p.tables e below (s₁.setTop (mkF m 27 #[.val (.int p0), .val (.int p1)] [])) _
        refine XS.iloadN X0.here hx rfl (hb hby own_d6_27) rfl ?_
        exact k
      refine own_End.go (fun t k => st13 _ k) ?_
      exact own_leafI X0 hx Bd.notSynchronized Bd.returns (hb hby own_d6_28) ⟨congrArg (fun z => some (Value.int z)) (by
          simp only [own_F6, own_nb0, own_nb1, if_neg hc1_2, if_neg hc22_11]), rfl, e0⟩ (by decide) (by decide)
theorem own_d2_0 : decode prog_67_method_1_code 0 = .ok (.aload_n 0, 1) := by decide +kernel
theorem own_d2_1 : decode prog_67_method_1_code 1 = .ok (.invokespecial 1, 3) := by decide +kernel
theorem own_d2_4 : decode prog_67_method_1_code 4 = .ok (.return_, 1) := by decide +kernel
theorem own_pn2 : plainName "com/example/tame_markup/tamemarkup/tokenizing/DeclarationEnd" = true := by first | (simp [plainName, overriddenIn]; done) | decide +kernel
theorem own_ef2 (m : MethodId) (o0 : Addr) : entryFrame m #[(.ref o0)] 1 = mkF m 0 #[.val (.ref o0)] [] := by first | (simp [entryFrame, mkF, argsToLocals, Value.category]; done) | rfl
abbrev own_R2 : Room := { frames := 1, cells := 0, slots := 0, locals := 12 }
def own_Q2 (Z : State) (o0 : Addr) (h0 : Heap) (n0 : Nat) (vz : Option Value) (h : Heap) (Lz : List Loc) : Prop := vz = none ∧ Fr n0 Lz ∧ Keep h0 h [] ∧ True
set_option maxRecDepth 65536 in
set_option maxHeartbeats 40000000 in
theorem own_rm2 (l : Launch) (Z : State) (a0 : Array Value) (hw : ∀ d ∈ tables_1, d.before a0 Z = true) (ws : List Jvm.Cond) (o0 : Addr) (h0 : Heap) (n0 : Nat) (Z0 : n0 ≤ h0.size) :
    MetFree l (⟨"com/example/tame_markup/tamemarkup/tokenizing/DeclarationEnd", "<init>", "()V"⟩ : MethodName) (head1 (Jvm.Cond.code (⟨"com/example/tame_markup/tamemarkup/tokenizing/DeclarationEnd", "<init>", "()V"⟩ : MethodName) prog_67_method_1_code 1 none :: ws) own_R2) (fun a U => a = #[(.ref o0)] ∧ Z.Warmed39 U.vm ∧ U.heap = h0) (fun _ _ _ _ _ => True) (fun _ U o U' => ∃ vz Lz, o = .returned vz ∧ own_Q2 Z o0 h0 n0 vz U'.heap Lz ∧ FrameEnd U o U' Lz own_R2.cells own_R2.slots) := by
  refine MetFree.of_bodySF (plainFor_of_name own_pn2) hisR ?_
  intro p e s m args below meth c s₁ Bd hml0 hP hK
  obtain ⟨rfl, hZ, hh⟩ := hP
  have hx := Bd.exec
  have hby := Bd.bytes
  have hml : c.maxLocals = 1 := hml0
  have hown : s.vm.findClass "com/example/tame_markup/tamemarkup/tokenizing/DeclarationEnd" = some m.cls := findClass_of_methodNamed Bd.named
  have hnm := (name_of_methodNamed Bd.named Bd.method).1
  have X0 : Stand p l e own_R2 s m #[(.ref o0)] below meth c s₁ [] 0 0 := Stand.of_body Bd
  have e0 : s₁.heap = h0 := by rw [← hh, Bd.state]; rfl
  show own_End p e below s (fun vz h Lz => vz = none ∧ Fr n0 Lz ∧ Keep h0 h [] ∧ True) own_R2.cells own_R2.slots s₁ (entryFrame m #[(.ref o0)] 1)
  refine own_End.go (fun t k => castTop (own_ef2 m o0) k) ?_
  show own_End p e below s _ _ _ s₁ (mkF m 0 #[.val (.ref o0)] [])
  have N0 := Fr.nil n0
  have K0 : Keep h0 h0 [] := Keep.refl h0 _
  have st1 : ∀ t, Steps p.tables e below (s₁.setTop (mkF m 1 #[.val (.ref o0)] [(.ref o0)])) t → Steps p.tables e below (s₁.setTop (mkF m 0 #[.val (.ref o0)] [])) t := by
    intro t k
    show Steps p.tables e below (s₁.setTop (mkF m 0 #[.val (.ref o0)] [])) _
    refine XS.aloadN X0.here hx rfl (hb hby own_d2_0) rfl rfl ?_
    exact k
  obtain ⟨T2, X2, e2, st2⟩ := initO X0 hx hZ hown (hw _ (List.mem_of_getElem? (i := 10) rfl)) (hw _ (List.mem_of_getElem? (i := 11) rfl)) (hw _ (List.mem_of_getElem? (i := 12) rfl)) e0 (g := (mkF m 1 #[.val (.ref o0)] [(.ref o0)])) rfl (by rw [hml]; rfl) rfl (hb hby own_d2_1) (by decide) (W := 0) (by show 2 * 0 + _ ≤ _; exact Nat.le_of_eq rfl) (by decide)
  refine own_End.go (fun t k => st1 _ (st2 _ k)) ?_
  exact own_leafV X2 hx Bd.notSynchronized Bd.returns (hb hby own_d2_4) ⟨rfl, N0, (by rw [e2]; exact K0), trivial⟩ (by decide) (by decide)
theorem own_d4_0 : decode prog_67_method_3_code 0 = .ok (.iconst 0, 1) := by decide +kernel
theorem own_d4_1 : decode prog_67_method_3_code 1 = .ok (.istore_n 2, 1) := by decide +kernel
theorem own_d4_2 : decode prog_67_method_3_code 2 = .ok (.aload_n 0, 1) := by decide +kernel
theorem own_d4_3 : decode prog_67_method_3_code 3 = .ok (.getfield 7, 3) := by decide +kernel
theorem own_d4_6 : decode prog_67_method_3_code 6 = .ok (.ifCond .eq 19, 3) := by decide +kernel
theorem own_d4_9 : decode prog_67_method_3_code 9 = .ok (.iload_n 1, 1) := by decide +kernel
theorem own_d4_10 : decode prog_67_method_3_code 10 = .ok (.aload_n 0, 1) := by decide +kernel
theorem own_d4_11 : decode prog_67_method_3_code 11 = .ok (.getfield 7, 3) := by decide +kernel
theorem own_d4_14 : decode prog_67_method_3_code 14 = .ok (.if_icmp .ne 43, 3) := by decide +kernel
theorem own_d4_17 : decode prog_67_method_3_code 17 = .ok (.aload_n 0, 1) := by decide +kernel
theorem own_d4_18 : decode prog_67_method_3_code 18 = .ok (.iconst 0, 1) := by decide +kernel
theorem own_d4_19 : decode prog_67_method_3_code 19 = .ok (.putfield 7, 3) := by decide +kernel
theorem own_d4_22 : decode prog_67_method_3_code 22 = .ok (.goto 35, 3) := by decide +kernel
theorem own_d4_25 : decode prog_67_method_3_code 25 = .ok (.iload_n 1, 1) := by decide +kernel
theorem own_d4_26 : decode prog_67_method_3_code 26 = .ok (.bipush 34, 2) := by decide +kernel
theorem own_d4_28 : decode prog_67_method_3_code 28 = .ok (.if_icmp .eq 9, 3) := by decide +kernel
theorem own_d4_31 : decode prog_67_method_3_code 31 = .ok (.iload_n 1, 1) := by decide +kernel
theorem own_d4_32 : decode prog_67_method_3_code 32 = .ok (.bipush 39, 2) := by decide +kernel
theorem own_d4_34 : decode prog_67_method_3_code 34 = .ok (.if_icmp .ne 11, 3) := by decide +kernel
theorem own_d4_37 : decode prog_67_method_3_code 37 = .ok (.aload_n 0, 1) := by decide +kernel
theorem own_d4_38 : decode prog_67_method_3_code 38 = .ok (.iload_n 1, 1) := by decide +kernel
theorem own_d4_39 : decode prog_67_method_3_code 39 = .ok (.putfield 7, 3) := by decide +kernel
theorem own_d4_42 : decode prog_67_method_3_code 42 = .ok (.goto 15, 3) := by decide +kernel
theorem own_d4_45 : decode prog_67_method_3_code 45 = .ok (.iload_n 1, 1) := by decide +kernel
theorem own_d4_46 : decode prog_67_method_3_code 46 = .ok (.bipush 62, 2) := by decide +kernel
theorem own_d4_48 : decode prog_67_method_3_code 48 = .ok (.if_icmp .ne 7, 3) := by decide +kernel
theorem own_d4_51 : decode prog_67_method_3_code 51 = .ok (.iconst 1, 1) := by decide +kernel
theorem own_d4_52 : decode prog_67_method_3_code 52 = .ok (.goto 4, 3) := by decide +kernel
theorem own_d4_55 : decode prog_67_method_3_code 55 = .ok (.iconst 0, 1) := by decide +kernel
theorem own_d4_56 : decode prog_67_method_3_code 56 = .ok (.istore_n 2, 1) := by decide +kernel
theorem own_d4_57 : decode prog_67_method_3_code 57 = .ok (.iload_n 2, 1) := by decide +kernel
theorem own_d4_58 : decode prog_67_method_3_code 58 = .ok (.ireturn, 1) := by decide +kernel
theorem own_pn4 : plainName "com/example/tame_markup/tamemarkup/tokenizing/DeclarationEnd" = true := by first | (simp [plainName, overriddenIn]; done) | decide +kernel
theorem own_ef4 (m : MethodId) (o0 : Addr) (p1 : Int32) : entryFrame m #[(.ref o0), (.int p1)] 3 = mkF m 0 #[.val (.ref o0), .val (.int p1), .unset] [] := by first | (simp [entryFrame, mkF, argsToLocals, Value.category]; done) | rfl
abbrev own_R4 : Room := { frames := 0, cells := 0, slots := 0, locals := 0 }
def own_F4 (p1 : Int32) (w : Int32) : Int32 :=
  if w = (0 : Int32) then
    if p1 = (34 : Int32) then
      (0 : Int32)
    else
      if p1 = (39 : Int32) then
        (0 : Int32)
      else
        let v20 : Int32 := (if p1 = (62 : Int32) then (1 : Int32) else (0 : Int32))
        (nar .boolean v20)
  else
    if p1 = w then
      (0 : Int32)
    else
      (0 : Int32)
def own_G4_0 (p1 : Int32) (w : Int32) : Int32 :=
  if w = (0 : Int32) then
    if p1 = (34 : Int32) then
      p1
    else
      if p1 = (39 : Int32) then
        p1
      else
        let v20 : Int32 := (if p1 = (62 : Int32) then (1 : Int32) else (0 : Int32))
        w
  else
    if p1 = w then
      (0 : Int32)
    else
      w
def own_Q4 (Z : State) (o0 : Addr) (p1 : Int32) (w : Int32) (h0 : Heap) (n0 : Nat) (vz : Option Value) (h : Heap) (Lz : List Loc) : Prop := vz = some (.int (own_F4 p1 w)) ∧ Fr n0 Lz ∧ Keep h0 h [o0] ∧ Fld Z h o0 "com/example/tame_markup/tamemarkup/tokenizing/DeclarationEnd" "quote" "I" (.int (own_G4_0 p1 w)) ∧ True
set_option maxRecDepth 65536 in
set_option maxHeartbeats 40000000 in
theorem own_rm4 (l : Launch) (Z : State) (a0 : Array Value) (hw : ∀ d ∈ tables_1, d.before a0 Z = true) (ws : List Jvm.Cond) (o0 : Addr) (p1 : Int32) (w : Int32) (h0 : Heap) (n0 : Nat) (Z0 : n0 ≤ h0.size) (E_o0 : Exa Z h0 o0 "com/example/tame_markup/tamemarkup/tokenizing/DeclarationEnd") (F_o0_quote : Fld Z h0 o0 "com/example/tame_markup/tamemarkup/tokenizing/DeclarationEnd" "quote" "I" (.int w)) (g_o0 : n0 ≤ o0) :
    MetFree l (⟨"com/example/tame_markup/tamemarkup/tokenizing/DeclarationEnd", "endsWith", "(I)Z"⟩ : MethodName) (head1 (Jvm.Cond.code (⟨"com/example/tame_markup/tamemarkup/tokenizing/DeclarationEnd", "endsWith", "(I)Z"⟩ : MethodName) prog_67_method_3_code 3 (some .boolean) :: ws) own_R4) (fun a U => a = #[(.ref o0), (.int p1)] ∧ Z.Warmed39 U.vm ∧ U.heap = h0) (fun _ _ _ _ _ => True) (fun _ U o U' => ∃ vz Lz, o = .returned vz ∧ own_Q4 Z o0 p1 w h0 n0 vz U'.heap Lz ∧ FrameEnd U o U' Lz own_R4.cells own_R4.slots) := by
  refine MetFree.of_bodySF (plainFor_of_name own_pn4) hisR ?_
  intro p e s m args below meth c s₁ Bd hml0 hP hK
  obtain ⟨rfl, hZ, hh⟩ := hP
  have hx := Bd.exec
  have hby := Bd.bytes
  have hml : c.maxLocals = 3 := hml0
  have hown : s.vm.findClass "com/example/tame_markup/tamemarkup/tokenizing/DeclarationEnd" = some m.cls := findClass_of_methodNamed Bd.named
  have hnm := (name_of_methodNamed Bd.named Bd.method).1
  have X0 : Stand p l e own_R4 s m #[(.ref o0), (.int p1)] below meth c s₁ [] 0 0 := Stand.of_body Bd
  have e0 : s₁.heap = h0 := by rw [← hh, Bd.state]; rfl
  show own_End p e below s (fun vz h Lz => vz = some (.int (own_F4 p1 w)) ∧ Fr n0 Lz ∧ Keep h0 h [o0] ∧ Fld Z h o0 "com/example/tame_markup/tamemarkup/tokenizing/DeclarationEnd" "quote" "I" (.int (own_G4_0 p1 w)) ∧ True) own_R4.cells own_R4.slots s₁ (entryFrame m #[(.ref o0), (.int p1)] 3)
  refine own_End.go (fun t k => castTop (own_ef4 m o0 p1) k) ?_
  show own_End p e below s _ _ _ s₁ (mkF m 0 #[.val (.ref o0), .val (.int p1), .unset] [])
  have N0 := Fr.nil n0
  have K0 : Keep h0 h0 [o0] := Keep.refl h0 _
  have st1 : ∀ t, Steps p.tables e below (s₁.setTop (mkF m 3 #[.val (.ref o0), .val (.int p1), .val (.int (0 : Int32))] [(.ref o0)])) t → Steps p.tables e below (s₁.setTop (mkF m 0 #[.val (.ref o0), .val (.int p1), .unset] [])) t := by
    intro t k
    show Steps p.tables e below (s₁.setTop (mkF m 0 #[.val (.ref o0), .val (.int p1), .unset] [])) _
    refine XS.iconst X0.here hx rfl (hb hby own_d4_0) ?_
    show Steps p.tables e below (s₁.setTop (mkF m 1 #[.val (.ref o0), .val (.int p1), .unset] [(.int (0 : Int32))])) _
    refine XS.istoreN X0.here hx rfl (hb hby own_d4_1) rfl (l' := #[.val (.ref o0), .val (.int p1), .val (.int (0 : Int32))]) rfl ?_
    show Steps p.tables e below (s₁.setTop (mkF m 2 #[.val (.ref o0), .val (.int p1), .val (.int (0 : Int32))] [])) _
    refine XS.aloadN X0.here hx rfl (hb hby own_d4_2) rfl rfl ?_
    exact k
  obtain ⟨T2, X2, e2, st2⟩ := getF X0 hx hZ hown (host := "") (Or.inl (hw _ (List.mem_of_getElem? (i := 18) rfl))) Via.refl e0 F_o0_quote (g := (mkF m 3 #[.val (.ref o0), .val (.int p1), .val (.int (0 : Int32))] [(.ref o0)])) rfl rfl (hb hby own_d4_3)
  refine own_End.go (fun t k => st1 _ (st2 _ k)) ?_
  by_cases hc6_3 : w = (0 : Int32)
  · have st4 : ∀ t, Steps p.tables e below (T2.setTop (mkF m 28 #[.val (.ref o0), .val (.int p1), .val (.int (0 : Int32))] [(.int (34 : Int32)), (.int p1)])) t → Steps p.tables e below (T2.setTop (mkF m 6 #[.val (.ref o0), .val (.int p1), .val (.int (0 : Int32))] [(.int w)])) t := by
      intro t k
      show Steps p.tables e below (T2.setTop (mkF m 6 #[.val (.ref o0), .val (.int p1), .val (.int (0 : Int32))] [(.int w)])) _
      refine XS.ifYes X2.here hx rfl (pc0 := 6) (pc' := 25) rfl (hb hby own_d4_6) rfl ((if0 _ _).trans (teq hc6_3).1) (by decide) (by decide) ?_
      show Steps p.tables e below (T2.setTop (mkF m 25 #[.val (.ref o0), .val (.int p1), .val (.int (0 : Int32))] [])) _
      refine XS.iloadN X2.here hx rfl (hb hby own_d4_25) rfl ?_
      show Steps p.tables e below (T2.setTop (mkF m 26 #[.val (.ref o0), .val (.int p1), .val (.int (0 : Int32))] [(.int p1)])) _
      refine XS.bipush X2.here hx rfl (hb hby own_d4_26) ?_
      exact k
    refine own_End.go (fun t k => st4 _ k) ?_
    by_cases hc28_5 : p1 = (34 : Int32)
    · have st6 : ∀ t, Steps p.tables e below (T2.setTop (mkF m 39 #[.val (.ref o0), .val (.int p1), .val (.int (0 : Int32))] [(.int p1), (.ref o0)])) t → Steps p.tables e below (T2.setTop (mkF m 28 #[.val (.ref o0), .val (.int p1), .val (.int (0 : Int32))] [(.int (34 : Int32)), (.int p1)])) t := by
        intro t k
        show Steps p.tables e below (T2.setTop (mkF m 28 #[.val (.ref o0), .val (.int p1), .val (.int (0 : Int32))] [(.int (34 : Int32)), (.int p1)])) _
        refine XS.icmpYes X2.here hx rfl (pc0 := 28) (pc' := 37) rfl (hb hby own_d4_28) rfl (teq hc28_5).1 (by decide) (by decide) ?_
        show Steps p.tables e below (T2.setTop (mkF m 37 #[.val (.ref o0), .val (.int p1), .val (.int (0 : Int32))] [])) _
        refine XS.aloadN X2.here hx rfl (hb hby own_d4_37) rfl rfl ?_
        show Steps p.tables e below (T2.setTop (mkF m 38 #[.val (.ref o0), .val (.int p1), .val (.int (0 : Int32))] [(.ref o0)])) _
        refine XS.iloadN X2.here hx rfl (hb hby own_d4_38) rfl ?_
        exact k
      obtain ⟨T7, h7, X7, e7, W7, st7⟩ := putF X2 hx hZ hown (host := "") (Or.inl (hw _ (List.mem_of_getElem? (i := 18) rfl))) Via.refl e2 F_o0_quote E_o0 (Or.inl (hw _ (List.mem_of_getElem? (i := 19) rfl))) (hw _ (List.mem_of_getElem? (i := 5) rfl)) (ty := .int) (by decide) rfl rfl (g := (mkF m 39 #[.val (.ref o0), .val (.int p1), .val (.int (0 : Int32))] [(.int p1), (.ref o0)])) rfl rfl (hb hby own_d4_39)
      obtain ⟨L7, X7, N7⟩ : ∃ L : List Loc, Stand p l e own_R4 s m #[(.ref o0), (.int p1)] below meth c T7 L 0 0 ∧ Fr n0 L := ⟨_, X7, Fr.snoc X7 N0 g_o0⟩
      have K7 := Keep.of_wr W7
      have Fw7 : Fld Z h7 o0 "com/example/tame_markup/tamemarkup/tokenizing/DeclarationEnd" "quote" "I" (.int p1) := F_o0_quote.same W7
      have Ew7 : Exa Z h7 o0 "com/example/tame_markup/tamemarkup/tokenizing/DeclarationEnd" := E_o0.wr W7
      have Zp8 : n0 ≤ h7.size := Nat.le_trans Z0 K7.1
      have Kz8 : Keep h0 h7 [o0] := K0.trans K7 (allS (Or.inl (List.mem_of_getElem? (i := 0) rfl)) all0)
      have st9 : ∀ t, Steps p.tables e below (T7.setTop (mkF m 58 #[.val (.ref o0), .val (.int p1), .val (.int (0 : Int32))] [(.int (0 : Int32))])) t → Steps p.tables e below (T7.setTop (mkF m 42 #[.val (.ref o0), .val (.int p1), .val (.int (0 : Int32))] [])) t := by
        intro t k
        show Steps p.tables e below (T7.setTop (mkF m 42 #[.val (.ref o0), .val (.int p1), .val (.int (0 : Int32))] [])) _
        refine XS.goto X7.here hx rfl (pc0 := 42) (pc' := 57) rfl (hb hby own_d4_42) (by decide) (by decide) ?_
        show Steps p.tables e below (T7.setTop (mkF m 57 #[.val (.ref o0), .val (.int p1), .val (.int (0 : Int32))] [])) _
        refine XS.iloadN X7.here hx rfl (hb hby own_d4_57) rfl ?_
        exact k
      refine own_End.go (fun t k => st6 _ (st7 _ (st9 _ k))) ?_
      exact own_leafN X7 hx Bd.notSynchronized (t := .boolean) Bd.returns (by simp) (hb hby own_d4_58) ⟨congrArg (fun z => some (Value.int z)) (by
          simp only [own_F4, own_nb0, own_nb1, if_pos hc6_3, if_pos hc28_5]), N7, (by rw [e7]; exact Kz8), (show Fld Z T7.heap o0 "com/example/tame_markup/tamemarkup/tokenizing/DeclarationEnd" "quote" "I" (.int (own_G4_0 p1 w)) from by
          rw [show (own_G4_0 p1 w) = p1 from by simp only [own_G4_0, own_nb0, own_nb1, if_pos hc6_3, if_pos hc28_5]]; exact (by rw [e7]; exact Fw7)), trivial⟩ (by decide) (by decide)
    · have st10 : ∀ t, Steps p.tables e below (T2.setTop (mkF m 34 #[.val (.ref o0), .val (.int p1), .val (.int (0 : Int32))] [(.int (39 : Int32)), (.int p1)])) t → Steps p.tables e below (T2.setTop (mkF m 28 #[.val (.ref o0), .val (.int p1), .val (.int (0 : Int32))] [(.int (34 : Int32)), (.int p1)])) t := by
        intro t k
        show Steps p.tables e below (T2.setTop (mkF m 28 #[.val (.ref o0), .val (.int p1), .val (.int (0 : Int32))] [(.int (34 : Int32)), (.int p1)])) _
        refine XS.icmpNo X2.here hx rfl (hb hby own_d4_28) rfl (feq hc28_5).1 ?_
        show Steps p.tables e below (T2.setTop (mkF m 31 #[.val (.ref o0), .val (.int p1), .val (.int (0 : Int32))] [])) _
        refine XS.iloadN X2.here hx rfl (hb hby own_d4_31) rfl ?_
        show Steps p.tables e below (T2.setTop (mkF m 32 #[.val (.ref o0), .val (.int p1), .val (.int (0 : Int32))] [(.int p1)])) _
        refine XS.bipush X2.here hx rfl (hb hby own_d4_32) ?_
        exact k
      refine own_End.go (fun t k => st10 _ k) ?_
      by_cases hc34_11 : p1 = (39 : Int32)
      · have st12 : ∀ t, Steps p.tables e below (T2.setTop (mkF m 39 #[.val (.ref o0), .val (.int p1), .val (.int (0 : Int32))] [(.int p1), (.ref o0)])) t → Steps p.tables e below (T2.setTop (mkF m 34 #[.val (.ref o0), .val (.int p1), .val (.int (0 : Int32))] [(.int (39 : Int32)), (.int p1)])) t := by
          intro t k
          show Steps p.tables e below (T2.setTop (mkF m 34 #[.val (.ref o0), .val (.int p1), .val (.int (0 : Int32))] [(.int (39 : Int32)), (.int p1)])) _
          refine XS.icmpNo X2.here hx rfl (hb hby own_d4_34) rfl (teq hc34_11).2 ?_
          show Steps p.tables e below (T2.setTop (mkF m 37 #[.val (.ref o0), .val (.int p1), .val (.int (0 : Int32))] [])) _
          refine XS.aloadN X2.here hx rfl (hb hby own_d4_37) rfl rfl ?_
          show Steps p.tables e below (T2.setTop (mkF m 38 #[.val (.ref o0), .val (.int p1), .val (.int (0 : Int32))] [(.ref o0)])) _
          refine XS.iloadN X2.here hx rfl (hb hby own_d4_38) rfl ?_
          exact k
        obtain ⟨T13, h13, X13, e13, W13, st13⟩ := putF X2 hx hZ hown (host := "") (Or.inl (hw _ (List.mem_of_getElem? (i := 18) rfl))) Via.refl e2 F_o0_quote E_o0 (Or.inl (hw _ (List.mem_of_getElem? (i := 19) rfl))) (hw _ (List.mem_of_getElem? (i := 5) rfl)) (ty := .int) (by decide) rfl rfl (g := (mkF m 39 #[.val (.ref o0), .val (.int p1), .val (.int (0 : Int32))] [(.int p1), (.ref o0)])) rfl rfl (hb hby own_d4_39)
        obtain ⟨L13, X13, N13⟩ : ∃ L : List Loc, Stand p l e own_R4 s m #[(.ref o0), (.int p1)] below meth c T13 L 0 0 ∧ Fr n0 L := ⟨_, X13, Fr.snoc X13 N0 g_o0⟩
        have K13 := Keep.of_wr W13
        have Fw13 : Fld Z h13 o0 "com/example/tame_markup/tamemarkup/tokenizing/DeclarationEnd" "quote" "I" (.int p1) := F_o0_quote.same W13
        have Ew13 : Exa Z h13 o0 "com/example/tame_markup/tamemarkup/tokenizing/DeclarationEnd" := E_o0.wr W13
        have Zp14 : n0 ≤ h13.size := Nat.le_trans Z0 K13.1
        have Kz14 : Keep h0 h13 [o0] := K0.trans K13 (allS (Or.inl (List.mem_of_getElem? (i := 0) rfl)) all0)
        have st15 : ∀ t, Steps p.tables e below (T13.setTop (mkF m 58 #[.val (.ref o0), .val (.int p1), .val (.int (0 : Int32))] [(.int (0 : Int32))])) t → Steps p.tables e below (T13.setTop (mkF m 42 #[.val (.ref o0), .val (.int p1), .val (.int (0 : Int32))] [])) t := by
          intro t k
          show Steps p.tables e below (T13.setTop (mkF m 42 #[.val (.ref o0), .val (.int p1), .val (.int (0 : Int32))] [])) _
          refine XS.goto X13.here hx rfl (pc0 := 42) (pc' := 57) rfl (hb hby own_d4_42) (by decide) (by decide) ?_
          show Steps p.tables e below (T13.setTop (mkF m 57 #[.val (.ref o0), .val (.int p1), .val (.int (0 : Int32))] [])) _
          refine XS.iloadN X13.here hx rfl (hb hby own_d4_57) rfl ?_
          exact k
        refine own_End.go (fun t k => st12 _ (st13 _ (st15 _ k))) ?_
        exact own_leafN X13 hx Bd.notSynchronized (t := .boolean) Bd.returns (by simp) (hb hby own_d4_58) ⟨congrArg (fun z => some (Value.int z)) (by
            simp only [own_F4, own_nb0, own_nb1, if_pos hc6_3, if_neg hc28_5, if_pos hc34_11]), N13, (by rw [e13]; exact Kz14), (show Fld Z T13.heap o0 "com/example/tame_markup/tamemarkup/tokenizing/DeclarationEnd" "quote" "I" (.int (own_G4_0 p1 w)) from by
            rw [show (own_G4_0 p1 w) = p1 from by simp only [own_G4_0, own_nb0, own_nb1, if_pos hc6_3, if_neg hc28_5, if_pos hc34_11]]; exact (by rw [e13]; exact Fw13)), trivial⟩ (by decide) (by decide)
      · have st16 : ∀ t, Steps p.tables e below (T2.setTop (mkF m 48 #[.val (.ref o0), .val (.int p1), .val (.int (0 : Int32))] [(.int (62 : Int32)), (.int p1)])) t → Steps p.tables e below (T2.setTop (mkF m 34 #[.val (.ref o0), .val (.int p1), .val (.int (0 : Int32))] [(.int (39 : Int32)), (.int p1)])) t := by
          intro t k
          show Steps p.tables e below (T2.setTop (mkF m 34 #[.val (.ref o0), .val (.int p1), .val (.int (0 : Int32))] [(.int (39 : Int32)), (.int p1)])) _
          refine XS.icmpYes X2.here hx rfl (pc0 := 34) (pc' := 45) rfl (hb hby own_d4_34) rfl (feq hc34_11).2 (by decide) (by decide) ?_
          show Steps p.tables e below (T2.setTop (mkF m 45 #[.val (.ref o0), .val (.int p1), .val (.int (0 : Int32))] [])) _
          refine XS.iloadN X2.here hx rfl (hb hby own_d4_45) rfl ?_
          show Steps p.tables e below (T2.setTop (mkF m 46 #[.val (.ref o0), .val (.int p1), .val (.int (0 : Int32))] [(.int p1)])) _
          refine XS.bipush X2.here hx rfl (hb hby own_d4_46) ?_
          exact k
        obtain ⟨v20, hv20⟩ : ∃ z : Int32, z = (if p1 = (62 : Int32) then (1 : Int32) else (0 : Int32)) := ⟨_, rfl⟩
        have st21 : ∀ t, Steps p.tables e below (T2.setTop (mkF m 56 #[.val (.ref o0), .val (.int p1), .val (.int (0 : Int32))] [(.int v20)])) t → Steps p.tables e below (T2.setTop (mkF m 48 #[.val (.ref o0), .val (.int p1), .val (.int (0 : Int32))] [(.int (62 : Int32)), (.int p1)])) t := by
          rw [hv20]
          by_cases hc48_17 : p1 = (62 : Int32)
          · repeat rw [if_pos hc48_17]
            have st18 : ∀ t, Steps p.tables e below (T2.setTop (mkF m 56 #[.val (.ref o0), .val (.int p1), .val (.int (0 : Int32))] [(.int (1 : Int32))])) t → Steps p.tables e below (T2.setTop (mkF m 48 #[.val (.ref o0), .val (.int p1), .val (.int (0 : Int32))] [(.int (62 : Int32)), (.int p1)])) t := by
              intro t k
              show Steps p.tables e below (T2.setTop (mkF m 48 #[.val (.ref o0), .val (.int p1), .val (.int (0 : Int32))] [(.int (62 : Int32)), (.int p1)])) _
              refine XS.icmpNo X2.here hx rfl (hb hby own_d4_48) rfl (teq hc48_17).2 ?_
              show Steps p.tables e below (T2.setTop (mkF m 51 #[.val (.ref o0), .val (.int p1), .val (.int (0 : Int32))] [])) _
              refine XS.iconst X2.here hx rfl (hb hby own_d4_51) ?_
              show Steps p.tables e below (T2.setTop (mkF m 52 #[.val (.ref o0), .val (.int p1), .val (.int (0 : Int32))] [(.int (1 : Int32))])) _
              refine XS.goto X2.here hx rfl (pc0 := 52) (pc' := 56) rfl (hb hby own_d4_52) (by decide) (by decide) ?_
              exact k
            exact fun t k => st18 _ k
          · repeat rw [if_neg hc48_17]
            have st19 : ∀ t, Steps p.tables e below (T2.setTop (mkF m 56 #[.val (.ref o0), .val (.int p1), .val (.int (0 : Int32))] [(.int (0 : Int32))])) t → Steps p.tables e below (T2.setTop (mkF m 48 #[.val (.ref o0), .val (.int p1), .val (.int (0 : Int32))] [(.int (62 : Int32)), (.int p1)])) t := by
              intro t k
              show Steps p.tables e below (T2.setTop (mkF m 48 #[.val (.ref o0), .val (.int p1), .val (.int (0 : Int32))] [(.int (62 : Int32)), (.int p1)])) _
              refine XS.icmpYes X2.here hx rfl (pc0 := 48) (pc' := 55) rfl (hb hby own_d4_48) rfl (feq hc48_17).2 (by decide) (by decide) ?_
              show Steps p.tables e below (T2.setTop (mkF m 55 #[.val (.ref o0), .val (.int p1), .val (.int (0 : Int32))] [])) _
              refine XS.iconst X2.here hx rfl (hb hby own_d4_55) ?_
              exact k
            exact fun t k => st19 _ k
        have st22 : ∀ t, Steps p.tables e below (T2.setTop (mkF m 58 #[.val (.ref o0), .val (.int p1), .val (.int v20)] [(.int v20)])) t → Steps p.tables e below (T2.setTop (mkF m 56 #[.val (.ref o0), .val (.int p1), .val (.int (0 : Int32))] [(.int v20)])) t := by
          intro t k
          show Steps p.tables e below (T2.setTop (mkF m 56 #[.val (.ref o0), .val (.int p1), .val (.int (0 : Int32))] [(.int v20)])) _
          refine XS.istoreN X2.here hx rfl (hb hby own_d4_56) rfl (l' := #[.val (.ref o0), .val (.int p1), .val (.int v20)]) rfl ?_
          show Steps p.tables e below (T2.setTop (mkF m 57 #[.val (.ref o0), .val (.int p1), .val (.int v20)] [])) _
          refine XS.iloadN X2.here hx rfl (hb hby own_d4_57) rfl ?_
          exact k
        refine own_End.go (fun t k => st16 _ (st21 _ (st22 _ k))) ?_
        exact own_leafN X2 hx Bd.notSynchronized (t := .boolean) Bd.returns (by simp) (hb hby own_d4_58) ⟨congrArg (fun z => some (Value.int z)) (by
            subst hv20; simp only [own_F4, own_nb0, own_nb1, if_pos hc6_3, if_neg hc28_5, if_neg hc34_11]), N0, (by rw [e2]; exact K0), (show Fld Z T2.heap o0 "com/example/tame_markup/tamemarkup/tokenizing/DeclarationEnd" "quote" "I" (.int (own_G4_0 p1 w)) from by
            rw [show (own_G4_0 p1 w) = w from by subst hv20; simp only [own_G4_0, own_nb0, own_nb1, if_pos hc6_3, if_neg hc28_5, if_neg hc34_11]]; exact (by rw [e2]; exact F_o0_quote)), trivial⟩ (by decide) (by decide)
  · have st23 : ∀ t, Steps p.tables e below (T2.setTop (mkF m 11 #[.val (.ref o0), .val (.int p1), .val (.int (0 : Int32))] [(.ref o0), (.int p1)])) t → Steps p.tables e below (T2.setTop (mkF m 6 #[.val (.ref o0), .val (.int p1), .val (.int (0 : Int32))] [(.int w)])) t := by
      intro t k
      show Steps p.tables e below (T2.setTop (mkF m 6 #[.val (.ref o0), .val (.int p1), .val (.int (0 : Int32))] [(.int w)])) _
      refine XS.ifNo X2.here hx rfl (hb hby own_d4_6) rfl ((if0 _ _).trans (feq hc6_3).1) ?_
      show Steps p.tables e below (T2.setTop (mkF m 9 #[.val (.ref o0), .val (.int p1), .val (.int (0 : Int32))] [])) _
      refine XS.iloadN X2.here hx rfl (hb hby own_d4_9) rfl ?_
      show Steps p.tables e below (T2.setTop (mkF m 10 #[.val (.ref o0), .val (.int p1), .val (.int (0 : Int32))] [(.int p1)])) _
      refine XS.aloadN X2.here hx rfl (hb hby own_d4_10) rfl rfl ?_
      exact k
    obtain ⟨T24, X24, e24, st24⟩ := getF X2 hx hZ hown (host := "") (Or.inl (hw _ (List.mem_of_getElem? (i := 18) rfl))) Via.refl e2 F_o0_quote (g := (mkF m 11 #[.val (.ref o0), .val (.int p1), .val (.int (0 : Int32))] [(.ref o0), (.int p1)])) rfl rfl (hb hby own_d4_11)
    refine own_End.go (fun t k => st23 _ (st24 _ k)) ?_
    by_cases hc14_25 : p1 = w
    · have st26 : ∀ t, Steps p.tables e below (T24.setTop (mkF m 19 #[.val (.ref o0), .val (.int p1), .val (.int (0 : Int32))] [(.int (0 : Int32)), (.ref o0)])) t → Steps p.tables e below (T24.setTop (mkF m 14 #[.val (.ref o0), .val (.int p1), .val (.int (0 : Int32))] [(.int w), (.int p1)])) t := by
        intro t k
        show Steps p.tables e below (T24.setTop (mkF m 14 #[.val (.ref o0), .val (.int p1), .val (.int (0 : Int32))] [(.int w), (.int p1)])) _
        refine XS.icmpNo X24.here hx rfl (hb hby own_d4_14) rfl (teq hc14_25).2 ?_
        show Steps p.tables e below (T24.setTop (mkF m 17 #[.val (.ref o0), .val (.int p1), .val (.int (0 : Int32))] [])) _
        refine XS.aloadN X24.here hx rfl (hb hby own_d4_17) rfl rfl ?_
        show Steps p.tables e below (T24.setTop (mkF m 18 #[.val (.ref o0), .val (.int p1), .val (.int (0 : Int32))] [(.ref o0)])) _
        refine XS.iconst X24.here hx rfl (hb hby own_d4_18) ?_
        exact k
      obtain ⟨T27, h27, X27, e27, W27, st27⟩ := putF X24 hx hZ hown (host := "") (Or.inl (hw _ (List.mem_of_getElem? (i := 18) rfl))) Via.refl e24 F_o0_quote E_o0 (Or.inl (hw _ (List.mem_of_getElem? (i := 19) rfl))) (hw _ (List.mem_of_getElem? (i := 5) rfl)) (ty := .int) (by decide) rfl rfl (g := (mkF m 19 #[.val (.ref o0), .val (.int p1), .val (.int (0 : Int32))] [(.int (0 : Int32)), (.ref o0)])) rfl rfl (hb hby own_d4_19)
      obtain ⟨L27, X27, N27⟩ : ∃ L : List Loc, Stand p l e own_R4 s m #[(.ref o0), (.int p1)] below meth c T27 L 0 0 ∧ Fr n0 L := ⟨_, X27, Fr.snoc X27 N0 g_o0⟩
      have K27 := Keep.of_wr W27
      have Fw27 : Fld Z h27 o0 "com/example/tame_markup/tamemarkup/tokenizing/DeclarationEnd" "quote" "I" (.int (0 : Int32)) := F_o0_quote.same W27
      have Ew27 : Exa Z h27 o0 "com/example/tame_markup/tamemarkup/tokenizing/DeclarationEnd" := E_o0.wr W27
      have Zp28 : n0 ≤ h27.size := Nat.le_trans Z0 K27.1
      have Kz28 : Keep h0 h27 [o0] := K0.trans K27 (allS (Or.inl (List.mem_of_getElem? (i := 0) rfl)) all0)
      have st29 : ∀ t, Steps p.tables e below (T27.setTop (mkF m 58 #[.val (.ref o0), .val (.int p1), .val (.int (0 : Int32))] [(.int (0 : Int32))])) t → Steps p.tables e below (T27.setTop (mkF m 22 #[.val (.ref o0), .val (.int p1), .val (.int (0 : Int32))] [])) t := by
        intro t k
        show Steps p.tables e below (T27.setTop (mkF m 22 #[.val (.ref o0), .val (.int p1), .val (.int (0 : Int32))] [])) _
        refine XS.goto X27.here hx rfl (pc0 := 22) (pc' := 57) rfl (hb hby own_d4_22) (by decide) (by decide) ?_
        show Steps p.tables e below (T27.setTop (mkF m 57 #[.val (.ref o0), .val (.int p1), .val (.int (0 : Int32))] [])) _
        refine XS.iloadN X27.here hx rfl (hb hby own_d4_57) rfl ?_
        exact k
      refine own_End.go (fun t k => st26 _ (st27 _ (st29 _ k))) ?_
      exact own_leafN X27 hx Bd.notSynchronized (t := .boolean) Bd.returns (by simp) (hb hby own_d4_58) ⟨congrArg (fun z => some (Value.int z)) (by
          simp only [own_F4, own_nb0, own_nb1, if_neg hc6_3, if_pos hc14_25]), N27, (by rw [e27]; exact Kz28), (show Fld Z T27.heap o0 "com/example/tame_markup/tamemarkup/tokenizing/DeclarationEnd" "quote" "I" (.int (own_G4_0 p1 w)) from by
          rw [show (own_G4_0 p1 w) = (0 : Int32) from by simp only [own_G4_0, own_nb0, own_nb1, if_neg hc6_3, if_pos hc14_25]]; exact (by rw [e27]; exact Fw27)), trivial⟩ (by decide) (by decide)
    · have st30 : ∀ t, Steps p.tables e below (T24.setTop (mkF m 58 #[.val (.ref o0), .val (.int p1), .val (.int (0 : Int32))] [(.int (0 : Int32))])) t → Steps p.tables e below (T24.setTop (mkF m 14 #[.val (.ref o0), .val (.int p1), .val (.int (0 : Int32))] [(.int w), (.int p1)])) t := by
        intro t k
        show Steps p.tables e below (T24.setTop (mkF m 14 #[.val (.ref o0), .val (.int p1), .val (.int (0 : Int32))] [(.int w), (.int p1)])) _
        refine XS.icmpYes X24.here hx rfl (pc0 := 14) (pc' := 57) rfl (hb hby own_d4_14) rfl (feq hc14_25).2 (by decide) (by decide) ?_
        show Steps p.tables e below (T24.setTop (mkF m 57 #[.val (.ref o0), .val (.int p1), .val (.int (0 : Int32))] [])) _
        refine XS.iloadN X24.here hx rfl (hb hby own_d4_57) rfl ?_
        exact k
      refine own_End.go (fun t k => st30 _ k) ?_
      exact own_leafN X24 hx Bd.notSynchronized (t := .boolean) Bd.returns (by simp) (hb hby own_d4_58) ⟨congrArg (fun z => some (Value.int z)) (by
          simp only [own_F4, own_nb0, own_nb1, if_neg hc6_3, if_neg hc14_25]), N0, (by rw [e24]; exact K0), (show Fld Z T24.heap o0 "com/example/tame_markup/tamemarkup/tokenizing/DeclarationEnd" "quote" "I" (.int (own_G4_0 p1 w)) from by
          rw [show (own_G4_0 p1 w) = w from by simp only [own_G4_0, own_nb0, own_nb1, if_neg hc6_3, if_neg hc14_25]]; exact (by rw [e24]; exact F_o0_quote)), trivial⟩ (by decide) (by decide)
theorem own_d7_0 : decode prog_67_method_2_code 0 = .ok (.aload_n 0, 1) := by decide +kernel
theorem own_d7_1 : decode prog_67_method_2_code 1 = .ok (.iconst 0, 1) := by decide +kernel
theorem own_d7_2 : decode prog_67_method_2_code 2 = .ok (.putfield 7, 3) := by decide +kernel
theorem own_d7_5 : decode prog_67_method_2_code 5 = .ok (.return_, 1) := by decide +kernel
theorem own_pn7 : plainName "com/example/tame_markup/tamemarkup/tokenizing/DeclarationEnd" = true := by first | (simp [plainName, overriddenIn]; done) | decide +kernel
theorem own_ef7 (m : MethodId) (o0 : Addr) : entryFrame m #[(.ref o0)] 1 = mkF m 0 #[.val (.ref o0)] [] := by first | (simp [entryFrame, mkF, argsToLocals, Value.category]; done) | rfl
abbrev own_R7 : Room := { frames := 0, cells := 0, slots := 0, locals := 0 }
def own_Q7 (Z : State) (o0 : Addr) (w : Int32) (h0 : Heap) (n0 : Nat) (vz : Option Value) (h : Heap) (Lz : List Loc) : Prop := vz = none ∧ Fr n0 Lz ∧ Keep h0 h [o0] ∧ Fld Z h o0 "com/example/tame_markup/tamemarkup/tokenizing/DeclarationEnd" "quote" "I" (.int (0 : Int32)) ∧ True
set_option maxRecDepth 65536 in
set_option maxHeartbeats 40000000 in
theorem own_rm7 (l : Launch) (Z : State) (a0 : Array Value) (hw : ∀ d ∈ tables_1, d.before a0 Z = true) (ws : List Jvm.Cond) (o0 : Addr) (w : Int32) (h0 : Heap) (n0 : Nat) (Z0 : n0 ≤ h0.size) (E_o0 : Exa Z h0 o0 "com/example/tame_markup/tamemarkup/tokenizing/DeclarationEnd") (F_o0_quote : Fld Z h0 o0 "com/example/tame_markup/tamemarkup/tokenizing/DeclarationEnd" "quote" "I" (.int w)) (g_o0 : n0 ≤ o0) :
    MetFree l (⟨"com/example/tame_markup/tamemarkup/tokenizing/DeclarationEnd", "restart", "()V"⟩ : MethodName) (head1 (Jvm.Cond.code (⟨"com/example/tame_markup/tamemarkup/tokenizing/DeclarationEnd", "restart", "()V"⟩ : MethodName) prog_67_method_2_code 1 none :: ws) own_R7) (fun a U => a = #[(.ref o0)] ∧ Z.Warmed39 U.vm ∧ U.heap = h0) (fun _ _ _ _ _ => True) (fun _ U o U' => ∃ vz Lz, o = .returned vz ∧ own_Q7 Z o0 w h0 n0 vz U'.heap Lz ∧ FrameEnd U o U' Lz own_R7.cells own_R7.slots) := by
  refine MetFree.of_bodySF (plainFor_of_name own_pn7) hisR ?_
  intro p e s m args below meth c s₁ Bd hml0 hP hK
  obtain ⟨rfl, hZ, hh⟩ := hP
  have hx := Bd.exec
  have hby := Bd.bytes
  have hml : c.maxLocals = 1 := hml0
  have hown : s.vm.findClass "com/example/tame_markup/tamemarkup/tokenizing/DeclarationEnd" = some m.cls := findClass_of_methodNamed Bd.named
  have hnm := (name_of_methodNamed Bd.named Bd.method).1
  have X0 : Stand p l e own_R7 s m #[(.ref o0)] below meth c s₁ [] 0 0 := Stand.of_body Bd
  have e0 : s₁.heap = h0 := by rw [← hh, Bd.state]; rfl
  show own_End p e below s (fun vz h Lz => vz = none ∧ Fr n0 Lz ∧ Keep h0 h [o0] ∧ Fld Z h o0 "com/example/tame_markup/tamemarkup/tokenizing/DeclarationEnd" "quote" "I" (.int (0 : Int32)) ∧ True) own_R7.cells own_R7.slots s₁ (entryFrame m #[(.ref o0)] 1)
  refine own_End.go (fun t k => castTop (own_ef7 m o0) k) ?_
  show own_End p e below s _ _ _ s₁ (mkF m 0 #[.val (.ref o0)] [])
  have N0 := Fr.nil n0
  have K0 : Keep h0 h0 [o0] := Keep.refl h0 _
  have st1 : ∀ t, Steps p.tables e below (s₁.setTop (mkF m 2 #[.val (.ref o0)] [(.int (0 : Int32)), (.ref o0)])) t → Steps p.tables e below (s₁.setTop (mkF m 0 #[.val (.ref o0)] [])) t := by
    intro t k
    show Steps p.tables e below (s₁.setTop (mkF m 0 #[.val (.ref o0)] [])) _
    refine XS.aloadN X0.here hx rfl (hb hby own_d7_0) rfl rfl ?_
    show Steps p.tables e below (s₁.setTop (mkF m 1 #[.val (.ref o0)] [(.ref o0)])) _
    refine XS.iconst X0.here hx rfl (hb hby own_d7_1) ?_
    exact k
  obtain ⟨T2, h2, X2, e2, W2, st2⟩ := putF X0 hx hZ hown (host := "") (Or.inl (hw _ (List.mem_of_getElem? (i := 18) rfl))) Via.refl e0 F_o0_quote E_o0 (Or.inl (hw _ (List.mem_of_getElem? (i := 19) rfl))) (hw _ (List.mem_of_getElem? (i := 5) rfl)) (ty := .int) (by decide) rfl rfl (g := (mkF m 2 #[.val (.ref o0)] [(.int (0 : Int32)), (.ref o0)])) rfl rfl (hb hby own_d7_2)
  obtain ⟨L2, X2, N2⟩ : ∃ L : List Loc, Stand p l e own_R7 s m #[(.ref o0)] below meth c T2 L 0 0 ∧ Fr n0 L := ⟨_, X2, Fr.snoc X2 N0 g_o0⟩
  have K2 := Keep.of_wr W2
  have Fw2 : Fld Z h2 o0 "com/example/tame_markup/tamemarkup/tokenizing/DeclarationEnd" "quote" "I" (.int (0 : Int32)) := F_o0_quote.same W2
  have Ew2 : Exa Z h2 o0 "com/example/tame_markup/tamemarkup/tokenizing/DeclarationEnd" := E_o0.wr W2
  have Zp3 : n0 ≤ h2.size := Nat.le_trans Z0 K2.1
  have Kz3 : Keep h0 h2 [o0] := K0.trans K2 (allS (Or.inl (List.mem_of_getElem? (i := 0) rfl)) all0)
  refine own_End.go (fun t k => st1 _ (st2 _ k)) ?_
  exact own_leafV X2 hx Bd.notSynchronized Bd.returns (hb hby own_d7_5) ⟨rfl, N2, (by rw [e2]; exact Kz3), (by rw [e2]; exact Fw2), trivial⟩ (by decide) (by decide)
theorem own_says (c w : Int32) : own_F4 c w = own_F5 w c := by
  unfold own_F4 own_F5
  simp only []
  repeat' split
  all_goals first | rfl | decide | simp_all
theorem own_step (c w : Int32) : own_G4_0 c w = own_F6 w c := by
  unfold own_G4_0 own_F6
  simp only []
  repeat' split
  all_goals first | rfl | decide | simp_all

theorem own_pn0 : plainName "com/example/tame_markup/tamemarkup/tokenizing/DeclarationEndEndsWithPinLaw" = true := by first | (simp [plainName, overriddenIn]; done) | decide +kernel
theorem own_ef0 (m : MethodId) (p0 : Int32) (p1 : Int32) (p2 : Int32) (p3 : Int32) (p4 : Int32) : entryFrame m #[(.int p0), (.int p1), (.int p2), (.int p3), (.int p4)] maxLocals = mkF m 0 #[.val (.int p0), .val (.int p1), .val (.int p2), .val (.int p3), .val (.int p4), .unset, .unset, .unset, .unset, .unset, .unset, .unset, .unset] [] := by first | (simp [entryFrame, mkF, argsToLocals, Value.category, maxLocals]; done) | rfl
def own_F0 (p0 : Int32) (p1 : Int32) (p2 : Int32) (p3 : Int32) (p4 : Int32) : Int32 :=
  let v3 : Int32 := (own_F1 p0)
  let v6 : Int32 := (own_F1 p1)
  let v9 : Int32 := (own_F1 p2)
  let v12 : Int32 := (own_F1 p3)
  let v17 : Int32 := (if (p4 &&& (1 : Int32)) = (0 : Int32) then (0 : Int32) else (1 : Int32))
  let v31 : Int32 := (own_F4 v3 (0 : Int32))
  let v34 : Int32 := (own_F5 (0 : Int32) v3)
  let v38 : Int32 := (if v31 = v34 then (1 : Int32) else (0 : Int32))
  let v42 : Int32 := (own_F6 (0 : Int32) v3)
  let v47 : Int32 := (own_F4 v6 (own_G4_0 v3 (0 : Int32)))
  let v50 : Int32 := (own_F5 v42 v6)
  let v54 : Int32 := (if v47 = v50 then (1 : Int32) else (0 : Int32))
  let v58 : Int32 := (own_F6 v42 v6)
  if v17 = (0 : Int32) then
    let v65 : Int32 := (own_F4 v9 (own_G4_0 v6 (own_G4_0 v3 (0 : Int32))))
    let v68 : Int32 := (own_F5 v58 v9)
    let v72 : Int32 := (if v65 = v68 then (1 : Int32) else (0 : Int32))
    let v76 : Int32 := (own_F6 v58 v9)
    let v81 : Int32 := (own_F4 v12 (own_G4_0 v9 (own_G4_0 v6 (own_G4_0 v3 (0 : Int32)))))
    let v84 : Int32 := (own_F5 v76 v12)
    let v88 : Int32 := (if v81 = v84 then (1 : Int32) else (0 : Int32))
    (nar .boolean v88)
  else
    let v99 : Int32 := (own_F4 v9 (0 : Int32))
    let v102 : Int32 := (own_F5 (0 : Int32) v9)
    let v106 : Int32 := (if v99 = v102 then (1 : Int32) else (0 : Int32))
    let v110 : Int32 := (own_F6 (0 : Int32) v9)
    let v115 : Int32 := (own_F4 v12 (own_G4_0 v9 (0 : Int32)))
    let v118 : Int32 := (own_F5 v110 v12)
    let v122 : Int32 := (if v115 = v118 then (1 : Int32) else (0 : Int32))
    (nar .boolean v122)
def own_Q0 (Z : State) (p0 : Int32) (p1 : Int32) (p2 : Int32) (p3 : Int32) (p4 : Int32) (h0 : Heap) (n0 : Nat) (vz : Option Value) (h : Heap) (Lz : List Loc) : Prop := vz = some (.int (own_F0 p0 p1 p2 p3 p4)) ∧ Fr n0 Lz
set_option maxRecDepth 65536 in
set_option maxHeartbeats 40000000 in
theorem own_rm0 (l : Launch) (Z : State) (a0 : Array Value) (hw : ∀ d ∈ tables_1, d.before a0 Z = true) (ws : List Jvm.Cond) (p0 : Int32) (p1 : Int32) (p2 : Int32) (p3 : Int32) (p4 : Int32) (h0 : Heap) (n0 : Nat) (Z0 : n0 ≤ h0.size) :
    MetFree l x (head1 (Jvm.Cond.code x code maxLocals ret :: ws) room_1) (fun a U => a = #[(.int p0), (.int p1), (.int p2), (.int p3), (.int p4)] ∧ Z.Warmed39 U.vm ∧ U.heap = h0) (fun _ _ _ _ _ => True) (fun _ U o U' => ∃ vz Lz, o = .returned vz ∧ own_Q0 Z p0 p1 p2 p3 p4 h0 n0 vz U'.heap Lz ∧ FrameEnd U o U' Lz room_1.cells room_1.slots) := by
  refine MetFree.of_bodySF (plainFor_of_name own_pn0) hisR ?_
  intro p e s m args below meth c s₁ Bd hml0 hP hK
  obtain ⟨rfl, hZ, hh⟩ := hP
  have hx := Bd.exec
  have hby := Bd.bytes
  have hml : c.maxLocals = 13 := hml0
  have hown : s.vm.findClass "com/example/tame_markup/tamemarkup/tokenizing/DeclarationEndEndsWithPinLaw" = some m.cls := findClass_of_methodNamed Bd.named
  have hnm := (name_of_methodNamed Bd.named Bd.method).1
  have X0 : Stand p l e room_1 s m #[(.int p0), (.int p1), (.int p2), (.int p3), (.int p4)] below meth c s₁ [] 0 0 := Stand.of_body Bd
  have e0 : s₁.heap = h0 := by rw [← hh, Bd.state]; rfl
  show own_End p e below s (fun vz h Lz => vz = some (.int (own_F0 p0 p1 p2 p3 p4)) ∧ Fr n0 Lz) room_1.cells room_1.slots s₁ (entryFrame m #[(.int p0), (.int p1), (.int p2), (.int p3), (.int p4)] maxLocals)
  refine own_End.go (fun t k => castTop (own_ef0 m p0 p1 p2 p3 p4) k) ?_
  show own_End p e below s _ _ _ s₁ (mkF m 0 #[.val (.int p0), .val (.int p1), .val (.int p2), .val (.int p3), .val (.int p4), .unset, .unset, .unset, .unset, .unset, .unset, .unset, .unset] [])
  have N0 := Fr.nil n0
  have st1 : ∀ t, Steps p.tables e below (s₁.setTop (mkF m 1 #[.val (.int p0), .val (.int p1), .val (.int p2), .val (.int p3), .val (.int p4), .unset, .unset, .unset, .unset, .unset, .unset, .unset, .unset] [(.int p0)])) t → Steps p.tables e below (s₁.setTop (mkF m 0 #[.val (.int p0), .val (.int p1), .val (.int p2), .val (.int p3), .val (.int p4), .unset, .unset, .unset, .unset, .unset, .unset, .unset, .unset] [])) t := by
    intro t k
    show Steps p.tables e below (s₁.setTop (mkF m 0 #[.val (.int p0), .val (.int p1), .val (.int p2), .val (.int p3), .val (.int p4), .unset, .unset, .unset, .unset, .unset, .unset, .unset, .unset] [])) _
    refine XS.iloadN X0.here hx rfl (hb hby at_0) rfl ?_
    exact k
  obtain ⟨_, _, ⟨T2, L2, k2, n2⟩, -, X2, ⟨Lc2, hQ2, l2, y2, z2⟩, st2⟩ := Jvm.LawKit.callS X0 hx (y := (⟨"com/example/tame_markup/tamemarkup/tokenizing/DeclarationEndEndsWithPinLaw", "pick", "(I)I"⟩ : MethodName)) hown (mvT hZ (hw _ (List.mem_of_getElem? (i := 0) rfl))) (mvT hZ (hw _ (List.mem_of_getElem? (i := 1) rfl))) (mvT hZ (hw _ (List.mem_of_getElem? (i := 2) rfl))) (mvT hZ (hw _ (List.mem_of_getElem? (i := 3) rfl))) (by decide) (backOf (W := 0) (own_rm1 l Z a0 hw [] p0 h0) hZ (hw _ (List.mem_of_getElem? (i := 3) rfl)) (hw _ (List.mem_of_getElem? (i := 2) rfl)) (by decide) (by decide)) (g := (mkF m 1 #[.val (.int p0), .val (.int p1), .val (.int p2), .val (.int p3), .val (.int p4), .unset, .unset, .unset, .unset, .unset, .unset, .unset, .unset] [(.int p0)])) rfl (by rw [hml]; rfl) (argsL := [(.int p0)]) (rest := []) (lenOf own_pd0 rfl) rfl (by show 2 * 0 + _ ≤ _; exact Nat.le_of_eq rfl) (hb hby at_1) (fun _ _ => ⟨rfl, e0, (by decide : 0 + 0 ≤ _), (by decide : 0 + 0 ≤ _)⟩)
  dsimp only [Pt.U, Pt.locs, Pt.cells, Pt.slots] at X2 l2 y2 z2 st2 hQ2
  subst y2 z2
  obtain ⟨rfl, rfl, e2⟩ := hQ2
  have X2' : Stand p l e room_1 s m #[(.int p0), (.int p1), (.int p2), (.int p3), (.int p4)] below meth c T2 [] 0 0 := by rw [show L2 = [] from by rw [l2]; first | rfl | exact List.append_nil _] at X2; exact X2
  obtain ⟨v3, hv3⟩ : ∃ z : Int32, z = (own_F1 p0) := ⟨_, rfl⟩
  rw [← hv3] at st2
  have st4 : ∀ t, Steps p.tables e below (T2.setTop (mkF m 7 #[.val (.int p0), .val (.int p1), .val (.int p2), .val (.int p3), .val (.int p4), .val (.int v3), .unset, .unset, .unset, .unset, .unset, .unset, .unset] [(.int p1)])) t → Steps p.tables e below (T2.setTop (mkF m 4 #[.val (.int p0), .val (.int p1), .val (.int p2), .val (.int p3), .val (.int p4), .unset, .unset, .unset, .unset, .unset, .unset, .unset, .unset] [(.int v3)])) t := by
    intro t k
    show Steps p.tables e below (T2.setTop (mkF m 4 #[.val (.int p0), .val (.int p1), .val (.int p2), .val (.int p3), .val (.int p4), .unset, .unset, .unset, .unset, .unset, .unset, .unset, .unset] [(.int v3)])) _
    refine XS.istore X2'.here hx rfl (hb hby at_4) rfl (l' := #[.val (.int p0), .val (.int p1), .val (.int p2), .val (.int p3), .val (.int p4), .val (.int v3), .unset, .unset, .unset, .unset, .unset, .unset, .unset]) rfl ?_
    show Steps p.tables e below (T2.setTop (mkF m 6 #[.val (.int p0), .val (.int p1), .val (.int p2), .val (.int p3), .val (.int p4), .val (.int v3), .unset, .unset, .unset, .unset, .unset, .unset, .unset] [])) _
    refine XS.iloadN X2'.here hx rfl (hb hby at_6) rfl ?_
    exact k
  obtain ⟨_, _, ⟨T5, L5, k5, n5⟩, -, X5, ⟨Lc5, hQ5, l5, y5, z5⟩, st5⟩ := Jvm.LawKit.callS X2' hx (y := (⟨"com/example/tame_markup/tamemarkup/tokenizing/DeclarationEndEndsWithPinLaw", "pick", "(I)I"⟩ : MethodName)) hown (mvT hZ (hw _ (List.mem_of_getElem? (i := 0) rfl))) (mvT hZ (hw _ (List.mem_of_getElem? (i := 1) rfl))) (mvT hZ (hw _ (List.mem_of_getElem? (i := 2) rfl))) (mvT hZ (hw _ (List.mem_of_getElem? (i := 3) rfl))) (by decide) (backOf (W := 0) (own_rm1 l Z a0 hw [] p1 h0) hZ (hw _ (List.mem_of_getElem? (i := 3) rfl)) (hw _ (List.mem_of_getElem? (i := 2) rfl)) (by decide) (by decide)) (g := (mkF m 7 #[.val (.int p0), .val (.int p1), .val (.int p2), .val (.int p3), .val (.int p4), .val (.int v3), .unset, .unset, .unset, .unset, .unset, .unset, .unset] [(.int p1)])) rfl (by rw [hml]; rfl) (argsL := [(.int p1)]) (rest := []) (lenOf own_pd0 rfl) rfl (by show 2 * 0 + _ ≤ _; exact Nat.le_of_eq rfl) (hb hby at_7) (fun _ _ => ⟨rfl, e2, (by decide : 0 + 0 ≤ _), (by decide : 0 + 0 ≤ _)⟩)
  dsimp only [Pt.U, Pt.locs, Pt.cells, Pt.slots] at X5 l5 y5 z5 st5 hQ5
  subst y5 z5
  obtain ⟨rfl, rfl, e5⟩ := hQ5
  have X5' : Stand p l e room_1 s m #[(.int p0), (.int p1), (.int p2), (.int p3), (.int p4)] below meth c T5 [] 0 0 := by rw [show L5 = [] from by rw [l5]; first | rfl | exact List.append_nil _] at X5; exact X5
  obtain ⟨v6, hv6⟩ : ∃ z : Int32, z = (own_F1 p1) := ⟨_, rfl⟩
  rw [← hv6] at st5
  have st7 : ∀ t, Steps p.tables e below (T5.setTop (mkF m 13 #[.val (.int p0), .val (.int p1), .val (.int p2), .val (.int p3), .val (.int p4), .val (.int v3), .val (.int v6), .unset, .unset, .unset, .unset, .unset, .unset] [(.int p2)])) t → Steps p.tables e below (T5.setTop (mkF m 10 #[.val (.int p0), .val (.int p1), .val (.int p2), .val (.int p3), .val (.int p4), .val (.int v3), .unset, .unset, .unset, .unset, .unset, .unset, .unset] [(.int v6)])) t := by
    intro t k
    show Steps p.tables e below (T5.setTop (mkF m 10 #[.val (.int p0), .val (.int p1), .val (.int p2), .val (.int p3), .val (.int p4), .val (.int v3), .unset, .unset, .unset, .unset, .unset, .unset, .unset] [(.int v6)])) _
    refine XS.istore X5'.here hx rfl (hb hby at_10) rfl (l' := #[.val (.int p0), .val (.int p1), .val (.int p2), .val (.int p3), .val (.int p4), .val (.int v3), .val (.int v6), .unset, .unset, .unset, .unset, .unset, .unset]) rfl ?_
    show Steps p.tables e below (T5.setTop (mkF m 12 #[.val (.int p0), .val (.int p1), .val (.int p2), .val (.int p3), .val (.int p4), .val (.int v3), .val (.int v6), .unset, .unset, .unset, .unset, .unset, .unset] [])) _
    refine XS.iloadN X5'.here hx rfl (hb hby at_12) rfl ?_
    exact k
  obtain ⟨_, _, ⟨T8, L8, k8, n8⟩, -, X8, ⟨Lc8, hQ8, l8, y8, z8⟩, st8⟩ := Jvm.LawKit.callS X5' hx (y := (⟨"com/example/tame_markup/tamemarkup/tokenizing/DeclarationEndEndsWithPinLaw", "pick", "(I)I"⟩ : MethodName)) hown (mvT hZ (hw _ (List.mem_of_getElem? (i := 0) rfl))) (mvT hZ (hw _ (List.mem_of_getElem? (i := 1) rfl))) (mvT hZ (hw _ (List.mem_of_getElem? (i := 2) rfl))) (mvT hZ (hw _ (List.mem_of_getElem? (i := 3) rfl))) (by decide) (backOf (W := 0) (own_rm1 l Z a0 hw [] p2 h0) hZ (hw _ (List.mem_of_getElem? (i := 3) rfl)) (hw _ (List.mem_of_getElem? (i := 2) rfl)) (by decide) (by decide)) (g := (mkF m 13 #[.val (.int p0), .val (.int p1), .val (.int p2), .val (.int p3), .val (.int p4), .val (.int v3), .val (.int v6), .unset, .unset, .unset, .unset, .unset, .unset] [(.int p2)])) rfl (by rw [hml]; rfl) (argsL := [(.int p2)]) (rest := []) (lenOf own_pd0 rfl) rfl (by show 2 * 0 + _ ≤ _; exact Nat.le_of_eq rfl) (hb hby at_13) (fun _ _ => ⟨rfl, e5, (by decide : 0 + 0 ≤ _), (by decide : 0 + 0 ≤ _)⟩)
  dsimp only [Pt.U, Pt.locs, Pt.cells, Pt.slots] at X8 l8 y8 z8 st8 hQ8
  subst y8 z8
  obtain ⟨rfl, rfl, e8⟩ := hQ8
  have X8' : Stand p l e room_1 s m #[(.int p0), (.int p1), (.int p2), (.int p3), (.int p4)] below meth c T8 [] 0 0 := by rw [show L8 = [] from by rw [l8]; first | rfl | exact List.append_nil _] at X8; exact X8
  obtain ⟨v9, hv9⟩ : ∃ z : Int32, z = (own_F1 p2) := ⟨_, rfl⟩
  rw [← hv9] at st8
  have st10 : ∀ t, Steps p.tables e below (T8.setTop (mkF m 19 #[.val (.int p0), .val (.int p1), .val (.int p2), .val (.int p3), .val (.int p4), .val (.int v3), .val (.int v6), .val (.int v9), .unset, .unset, .unset, .unset, .unset] [(.int p3)])) t → Steps p.tables e below (T8.setTop (mkF m 16 #[.val (.int p0), .val (.int p1), .val (.int p2), .val (.int p3), .val (.int p4), .val (.int v3), .val (.int v6), .unset, .unset, .unset, .unset, .unset, .unset] [(.int v9)])) t := by
    intro t k
    show Steps p.tables e below (T8.setTop (mkF m 16 #[.val (.int p0), .val (.int p1), .val (.int p2), .val (.int p3), .val (.int p4), .val (.int v3), .val (.int v6), .unset, .unset, .unset, .unset, .unset, .unset] [(.int v9)])) _
    refine XS.istore X8'.here hx rfl (hb hby at_16) rfl (l' := #[.val (.int p0), .val (.int p1), .val (.int p2), .val (.int p3), .val (.int p4), .val (.int v3), .val (.int v6), .val (.int v9), .unset, .unset, .unset, .unset, .unset]) rfl ?_
    show Steps p.tables e below (T8.setTop (mkF m 18 #[.val (.int p0), .val (.int p1), .val (.int p2), .val (.int p3), .val (.int p4), .val (.int v3), .val (.int v6), .val (.int v9), .unset, .unset, .unset, .unset, .unset] [])) _
    refine XS.iloadN X8'.here hx rfl (hb hby at_18) rfl ?_
    exact k
  obtain ⟨_, _, ⟨T11, L11, k11, n11⟩, -, X11, ⟨Lc11, hQ11, l11, y11, z11⟩, st11⟩ := Jvm.LawKit.callS X8' hx (y := (⟨"com/example/tame_markup/tamemarkup/tokenizing/DeclarationEndEndsWithPinLaw", "pick", "(I)I"⟩ : MethodName)) hown (mvT hZ (hw _ (List.mem_of_getElem? (i := 0) rfl))) (mvT hZ (hw _ (List.mem_of_getElem? (i := 1) rfl))) (mvT hZ (hw _ (List.mem_of_getElem? (i := 2) rfl))) (mvT hZ (hw _ (List.mem_of_getElem? (i := 3) rfl))) (by decide) (backOf (W := 0) (own_rm1 l Z a0 hw [] p3 h0) hZ (hw _ (List.mem_of_getElem? (i := 3) rfl)) (hw _ (List.mem_of_getElem? (i := 2) rfl)) (by decide) (by decide)) (g := (mkF m 19 #[.val (.int p0), .val (.int p1), .val (.int p2), .val (.int p3), .val (.int p4), .val (.int v3), .val (.int v6), .val (.int v9), .unset, .unset, .unset, .unset, .unset] [(.int p3)])) rfl (by rw [hml]; rfl) (argsL := [(.int p3)]) (rest := []) (lenOf own_pd0 rfl) rfl (by show 2 * 0 + _ ≤ _; exact Nat.le_of_eq rfl) (hb hby at_19) (fun _ _ => ⟨rfl, e8, (by decide : 0 + 0 ≤ _), (by decide : 0 + 0 ≤ _)⟩)
  dsimp only [Pt.U, Pt.locs, Pt.cells, Pt.slots] at X11 l11 y11 z11 st11 hQ11
  subst y11 z11
  obtain ⟨rfl, rfl, e11⟩ := hQ11
  have X11' : Stand p l e room_1 s m #[(.int p0), (.int p1), (.int p2), (.int p3), (.int p4)] below meth c T11 [] 0 0 := by rw [show L11 = [] from by rw [l11]; first | rfl | exact List.append_nil _] at X11; exact X11
  obtain ⟨v12, hv12⟩ : ∃ z : Int32, z = (own_F1 p3) := ⟨_, rfl⟩
  rw [← hv12] at st11
  have st13 : ∀ t, Steps p.tables e below (T11.setTop (mkF m 28 #[.val (.int p0), .val (.int p1), .val (.int p2), .val (.int p3), .val (.int p4), .val (.int v3), .val (.int v6), .val (.int v9), .val (.int v12), .unset, .unset, .unset, .unset] [(.int (p4 &&& (1 : Int32)))])) t → Steps p.tables e below (T11.setTop (mkF m 22 #[.val (.int p0), .val (.int p1), .val (.int p2), .val (.int p3), .val (.int p4), .val (.int v3), .val (.int v6), .val (.int v9), .unset, .unset, .unset, .unset, .unset] [(.int v12)])) t := by
    intro t k
    show Steps p.tables e below (T11.setTop (mkF m 22 #[.val (.int p0), .val (.int p1), .val (.int p2), .val (.int p3), .val (.int p4), .val (.int v3), .val (.int v6), .val (.int v9), .unset, .unset, .unset, .unset, .unset] [(.int v12)])) _
    refine XS.istore X11'.here hx rfl (hb hby at_22) rfl (l' := #[.val (.int p0), .val (.int p1), .val (.int p2), .val (.int p3), .val (.int p4), .val (.int v3), .val (.int v6), .val (.int v9), .val (.int v12), .unset, .unset, .unset, .unset]) rfl ?_
    show Steps p.tables e below (T11.setTop (mkF m 24 #[.val (.int p0), .val (.int p1), .val (.int p2), .val (.int p3), .val (.int p4), .val (.int v3), .val (.int v6), .val (.int v9), .val (.int v12), .unset, .unset, .unset, .unset] [])) _
    refine XS.iload X11'.here hx rfl (hb hby at_24) rfl ?_
    show Steps p.tables e below (T11.setTop (mkF m 26 #[.val (.int p0), .val (.int p1), .val (.int p2), .val (.int p3), .val (.int p4), .val (.int v3), .val (.int v6), .val (.int v9), .val (.int v12), .unset, .unset, .unset, .unset] [(.int p4)])) _
    refine XS.iconst X11'.here hx rfl (hb hby at_26) ?_
    show Steps p.tables e below (T11.setTop (mkF m 27 #[.val (.int p0), .val (.int p1), .val (.int p2), .val (.int p3), .val (.int p4), .val (.int v3), .val (.int v6), .val (.int v9), .val (.int v12), .unset, .unset, .unset, .unset] [(.int (1 : Int32)), (.int p4)])) _
    refine XS.iand X11'.here hx rfl (hb hby at_27) rfl ?_
    exact k
  obtain ⟨v17, hv17⟩ : ∃ z : Int32, z = (if (p4 &&& (1 : Int32)) = (0 : Int32) then (0 : Int32) else (1 : Int32)) := ⟨_, rfl⟩
  have st18 : ∀ t, Steps p.tables e below (T11.setTop (mkF m 36 #[.val (.int p0), .val (.int p1), .val (.int p2), .val (.int p3), .val (.int p4), .val (.int v3), .val (.int v6), .val (.int v9), .val (.int v12), .unset, .unset, .unset, .unset] [(.int v17)])) t → Steps p.tables e below (T11.setTop (mkF m 28 #[.val (.int p0), .val (.int p1), .val (.int p2), .val (.int p3), .val (.int p4), .val (.int v3), .val (.int v6), .val (.int v9), .val (.int v12), .unset, .unset, .unset, .unset] [(.int (p4 &&& (1 : Int32)))])) t := by
    rw [hv17]
    by_cases hc28_14 : (p4 &&& (1 : Int32)) = (0 : Int32)
    · repeat rw [if_pos hc28_14]
      have st15 : ∀ t, Steps p.tables e below (T11.setTop (mkF m 36 #[.val (.int p0), .val (.int p1), .val (.int p2), .val (.int p3), .val (.int p4), .val (.int v3), .val (.int v6), .val (.int v9), .val (.int v12), .unset, .unset, .unset, .unset] [(.int (0 : Int32))])) t → Steps p.tables e below (T11.setTop (mkF m 28 #[.val (.int p0), .val (.int p1), .val (.int p2), .val (.int p3), .val (.int p4), .val (.int v3), .val (.int v6), .val (.int v9), .val (.int v12), .unset, .unset, .unset, .unset] [(.int (p4 &&& (1 : Int32)))])) t := by
        intro t k
        show Steps p.tables e below (T11.setTop (mkF m 28 #[.val (.int p0), .val (.int p1), .val (.int p2), .val (.int p3), .val (.int p4), .val (.int v3), .val (.int v6), .val (.int v9), .val (.int v12), .unset, .unset, .unset, .unset] [(.int (p4 &&& (1 : Int32)))])) _
        refine XS.ifYes X11'.here hx rfl (pc0 := 28) (pc' := 35) rfl (hb hby at_28) rfl ((if0 _ _).trans (teq hc28_14).1) (by decide) (by decide) ?_
        show Steps p.tables e below (T11.setTop (mkF m 35 #[.val (.int p0), .val (.int p1), .val (.int p2), .val (.int p3), .val (.int p4), .val (.int v3), .val (.int v6), .val (.int v9), .val (.int v12), .unset, .unset, .unset, .unset] [])) _
        refine XS.iconst X11'.here hx rfl (hb hby at_35) ?_
        exact k
      exact fun t k => st15 _ k
    · repeat rw [if_neg hc28_14]
      have st16 : ∀ t, Steps p.tables e below (T11.setTop (mkF m 36 #[.val (.int p0), .val (.int p1), .val (.int p2), .val (.int p3), .val (.int p4), .val (.int v3), .val (.int v6), .val (.int v9), .val (.int v12), .unset, .unset, .unset, .unset] [(.int (1 : Int32))])) t → Steps p.tables e below (T11.setTop (mkF m 28 #[.val (.int p0), .val (.int p1), .val (.int p2), .val (.int p3), .val (.int p4), .val (.int v3), .val (.int v6), .val (.int v9), .val (.int v12), .unset, .unset, .unset, .unset] [(.int (p4 &&& (1 : Int32)))])) t := by
        intro t k
        show Steps p.tables e below (T11.setTop (mkF m 28 #[.val (.int p0), .val (.int p1), .val (.int p2), .val (.int p3), .val (.int p4), .val (.int v3), .val (.int v6), .val (.int v9), .val (.int v12), .unset, .unset, .unset, .unset] [(.int (p4 &&& (1 : Int32)))])) _
        refine XS.ifNo X11'.here hx rfl (hb hby at_28) rfl ((if0 _ _).trans (feq hc28_14).1) ?_
        show Steps p.tables e below (T11.setTop (mkF m 31 #[.val (.int p0), .val (.int p1), .val (.int p2), .val (.int p3), .val (.int p4), .val (.int v3), .val (.int v6), .val (.int v9), .val (.int v12), .unset, .unset, .unset, .unset] [])) _
        refine XS.iconst X11'.here hx rfl (hb hby at_31) ?_
        show Steps p.tables e below (T11.setTop (mkF m 32 #[.val (.int p0), .val (.int p1), .val (.int p2), .val (.int p3), .val (.int p4), .val (.int v3), .val (.int v6), .val (.int v9), .val (.int v12), .unset, .unset, .unset, .unset] [(.int (1 : Int32))])) _
        refine XS.goto X11'.here hx rfl (pc0 := 32) (pc' := 36) rfl (hb hby at_32) (by decide) (by decide) ?_
        exact k
      exact fun t k => st16 _ k
  have st19 : ∀ t, Steps p.tables e below (T11.setTop (mkF m 38 #[.val (.int p0), .val (.int p1), .val (.int p2), .val (.int p3), .val (.int p4), .val (.int v3), .val (.int v6), .val (.int v9), .val (.int v12), .val (.int v17), .unset, .unset, .unset] [])) t → Steps p.tables e below (T11.setTop (mkF m 36 #[.val (.int p0), .val (.int p1), .val (.int p2), .val (.int p3), .val (.int p4), .val (.int v3), .val (.int v6), .val (.int v9), .val (.int v12), .unset, .unset, .unset, .unset] [(.int v17)])) t := by
    intro t k
    show Steps p.tables e below (T11.setTop (mkF m 36 #[.val (.int p0), .val (.int p1), .val (.int p2), .val (.int p3), .val (.int p4), .val (.int v3), .val (.int v6), .val (.int v9), .val (.int v12), .unset, .unset, .unset, .unset] [(.int v17)])) _
    refine XS.istore X11'.here hx rfl (hb hby at_36) rfl (l' := #[.val (.int p0), .val (.int p1), .val (.int p2), .val (.int p3), .val (.int p4), .val (.int v3), .val (.int v6), .val (.int v9), .val (.int v12), .val (.int v17), .unset, .unset, .unset]) rfl ?_
    exact k
  obtain ⟨T20, h20, b20, X20, e20, K20, q20, E20, D20, st20⟩ := own_new X11' hx hZ hown (hw _ (List.mem_of_getElem? (i := 4) rfl)) (hw _ (List.mem_of_getElem? (i := 5) rfl)) (hw _ (List.mem_of_getElem? (i := 6) rfl)) e11 (g := (mkF m 38 #[.val (.int p0), .val (.int p1), .val (.int p2), .val (.int p3), .val (.int p4), .val (.int v3), .val (.int v6), .val (.int v9), .val (.int v12), .val (.int v17), .unset, .unset, .unset] [])) rfl (hb hby at_38) (by decide) (by decide)
  have X20 : Stand p l e room_1 s m #[(.int p0), (.int p1), (.int p2), (.int p3), (.int p4)] below meth c T20 [] 1 1 := X20
  have F20_quote : Fld Z h20 b20 "com/example/tame_markup/tamemarkup/tokenizing/DeclarationEnd" "quote" "I" (.int (0 : Int32)) := D20 (Or.inl (hw _ (List.mem_of_getElem? (i := 19) rfl))) (ty := .int) (by decide)
  have g_b20 : n0 ≤ b20 := Nat.le_trans Z0 q20
  have Zp21 : n0 ≤ h20.size := Nat.le_trans Z0 K20.1
  have st22 : ∀ t, Steps p.tables e below (T20.setTop (mkF m 42 #[.val (.int p0), .val (.int p1), .val (.int p2), .val (.int p3), .val (.int p4), .val (.int v3), .val (.int v6), .val (.int v9), .val (.int v12), .val (.int v17), .unset, .unset, .unset] [(.ref b20), (.ref b20)])) t → Steps p.tables e below (T20.setTop (mkF m 41 #[.val (.int p0), .val (.int p1), .val (.int p2), .val (.int p3), .val (.int p4), .val (.int v3), .val (.int v6), .val (.int v9), .val (.int v12), .val (.int v17), .unset, .unset, .unset] [(.ref b20)])) t := by
    intro t k
    show Steps p.tables e below (T20.setTop (mkF m 41 #[.val (.int p0), .val (.int p1), .val (.int p2), .val (.int p3), .val (.int p4), .val (.int v3), .val (.int v6), .val (.int v9), .val (.int v12), .val (.int v17), .unset, .unset, .unset] [(.ref b20)])) _
    refine XS.dup X20.here hx rfl (hb hby at_41) rfl rfl ?_
    exact k
  obtain ⟨_, _, ⟨T23, L23, k23, n23⟩, -, X23, ⟨Lc23, hQ23, l23, y23, z23⟩, st23⟩ := X20.specialBack hx (y := (⟨"com/example/tame_markup/tamemarkup/tokenizing/DeclarationEnd", "<init>", "()V"⟩ : MethodName)) rfl hown (mvT hZ (hw _ (List.mem_of_getElem? (i := 7) rfl))) (mvT hZ (hw _ (List.mem_of_getElem? (i := 8) rfl))) (mvT hZ (hw _ (List.mem_of_getElem? (i := 9) rfl))) (by decide) (backOf (W := 1) (own_rm2 l Z a0 hw [] b20 h20 n0 Zp21) hZ (hw _ (List.mem_of_getElem? (i := 9) rfl)) (hw _ (List.mem_of_getElem? (i := 6) rfl)) (by decide) (by decide)) (g := (mkF m 42 #[.val (.int p0), .val (.int p1), .val (.int p2), .val (.int p3), .val (.int p4), .val (.int v3), .val (.int v6), .val (.int v9), .val (.int v12), .val (.int v17), .unset, .unset, .unset] [(.ref b20), (.ref b20)])) rfl (by rw [hml]; rfl) (Steps.refl _) (a := b20) (argsL := []) (rest := [(.ref b20)]) (lenOf own_pd1 rfl) rfl (by show 2 * 0 + _ ≤ _; exact Nat.le_of_eq rfl) (hb hby at_42) (fun _ _ => ⟨rfl, e20, (by decide : 1 + 0 ≤ _), (by decide : 1 + 0 ≤ _)⟩)
  dsimp only [Pt.U, Pt.locs, Pt.cells, Pt.slots] at X23 l23 y23 z23 st23 hQ23
  subst y23 z23
  obtain ⟨rfl, Nq23, K23, -⟩ := hQ23
  have N23 : Fr n0 L23 := by rw [l23]; exact Fr.app N0 Nq23
  have X23' : Stand p l e room_1 s m #[(.int p0), (.int p1), (.int p2), (.int p3), (.int p4)] below meth c T23 L23 1 1 := X23
  have f24 : Exa Z T23.heap b20 "com/example/tame_markup/tamemarkup/tokenizing/DeclarationEnd" := E20.keep K23
  have f25 : Fld Z T23.heap b20 "com/example/tame_markup/tamemarkup/tokenizing/DeclarationEnd" "quote" "I" (.int (0 : Int32)) := F20_quote.keep K23 nin0
  have Zp26 : n0 ≤ T23.heap.size := Nat.le_trans Zp21 K23.1
  have st23 : ∀ t, Steps p.tables e below (T23.setTop (mkF m 45 #[.val (.int p0), .val (.int p1), .val (.int p2), .val (.int p3), .val (.int p4), .val (.int v3), .val (.int v6), .val (.int v9), .val (.int v12), .val (.int v17), .unset, .unset, .unset] [(.ref b20)])) t → Steps p.tables e below (T20.setTop (mkF m 42 #[.val (.int p0), .val (.int p1), .val (.int p2), .val (.int p3), .val (.int p4), .val (.int v3), .val (.int v6), .val (.int v9), .val (.int v12), .val (.int v17), .unset, .unset, .unset] [(.ref b20), (.ref b20)])) t := fun t k => st23.trans k
  have st27 : ∀ t, Steps p.tables e below (T23.setTop (mkF m 62 #[.val (.int p0), .val (.int p1), .val (.int p2), .val (.int p3), .val (.int p4), .val (.int v3), .val (.int v6), .val (.int v9), .val (.int v12), .val (.int v17), .val (.ref b20), .val (.int (1 : Int32)), .val (.int (0 : Int32))] [(.int v3), (.ref b20)])) t → Steps p.tables e below (T23.setTop (mkF m 45 #[.val (.int p0), .val (.int p1), .val (.int p2), .val (.int p3), .val (.int p4), .val (.int v3), .val (.int v6), .val (.int v9), .val (.int v12), .val (.int v17), .unset, .unset, .unset] [(.ref b20)])) t := by
    intro t k
    show Steps p.tables e below (T23.setTop (mkF m 45 #[.val (.int p0), .val (.int p1), .val (.int p2), .val (.int p3), .val (.int p4), .val (.int v3), .val (.int v6), .val (.int v9), .val (.int v12), .val (.int v17), .unset, .unset, .unset] [(.ref b20)])) _
    refine XS.astore X23'.here hx rfl (hb hby at_45) rfl rfl (l' := #[.val (.int p0), .val (.int p1), .val (.int p2), .val (.int p3), .val (.int p4), .val (.int v3), .val (.int v6), .val (.int v9), .val (.int v12), .val (.int v17), .val (.ref b20), .unset, .unset]) rfl ?_
    show Steps p.tables e below (T23.setTop (mkF m 47 #[.val (.int p0), .val (.int p1), .val (.int p2), .val (.int p3), .val (.int p4), .val (.int v3), .val (.int v6), .val (.int v9), .val (.int v12), .val (.int v17), .val (.ref b20), .unset, .unset] [])) _
    refine XS.iconst X23'.here hx rfl (hb hby at_47) ?_
    show Steps p.tables e below (T23.setTop (mkF m 48 #[.val (.int p0), .val (.int p1), .val (.int p2), .val (.int p3), .val (.int p4), .val (.int v3), .val (.int v6), .val (.int v9), .val (.int v12), .val (.int v17), .val (.ref b20), .unset, .unset] [(.int (1 : Int32))])) _
    refine XS.istore X23'.here hx rfl (hb hby at_48) rfl (l' := #[.val (.int p0), .val (.int p1), .val (.int p2), .val (.int p3), .val (.int p4), .val (.int v3), .val (.int v6), .val (.int v9), .val (.int v12), .val (.int v17), .val (.ref b20), .val (.int (1 : Int32)), .unset]) rfl ?_
    show Steps p.tables e below (T23.setTop (mkF m 50 #[.val (.int p0), .val (.int p1), .val (.int p2), .val (.int p3), .val (.int p4), .val (.int v3), .val (.int v6), .val (.int v9), .val (.int v12), .val (.int v17), .val (.ref b20), .val (.int (1 : Int32)), .unset] [])) _
    refine XS.iconst X23'.here hx rfl (hb hby at_50) ?_
    show Steps p.tables e below (T23.setTop (mkF m 51 #[.val (.int p0), .val (.int p1), .val (.int p2), .val (.int p3), .val (.int p4), .val (.int v3), .val (.int v6), .val (.int v9), .val (.int v12), .val (.int v17), .val (.ref b20), .val (.int (1 : Int32)), .unset] [(.int (0 : Int32))])) _
    refine XS.istore X23'.here hx rfl (hb hby at_51) rfl (l' := #[.val (.int p0), .val (.int p1), .val (.int p2), .val (.int p3), .val (.int p4), .val (.int v3), .val (.int v6), .val (.int v9), .val (.int v12), .val (.int v17), .val (.ref b20), .val (.int (1 : Int32)), .val (.int (0 : Int32))]) rfl ?_
    show Steps p.tables e below (T23.setTop (mkF m 53 #[.val (.int p0), .val (.int p1), .val (.int p2), .val (.int p3), .val (.int p4), .val (.int v3), .val (.int v6), .val (.int v9), .val (.int v12), .val (.int v17), .val (.ref b20), .val (.int (1 : Int32)), .val (.int (0 : Int32))] [])) _
    refine XS.iload X23'.here hx rfl (hb hby at_53) rfl ?_
    show Steps p.tables e below (T23.setTop (mkF m 55 #[.val (.int p0), .val (.int p1), .val (.int p2), .val (.int p3), .val (.int p4), .val (.int v3), .val (.int v6), .val (.int v9), .val (.int v12), .val (.int v17), .val (.ref b20), .val (.int (1 : Int32)), .val (.int (0 : Int32))] [(.int (1 : Int32))])) _
    refine XS.ifNo X23'.here hx rfl (hb hby at_55) rfl ((if0 _ _).trans (feq (by decide : ¬ ((1 : Int32) = (0 : Int32)))).1) ?_
    show Steps p.tables e below (T23.setTop (mkF m 58 #[.val (.int p0), .val (.int p1), .val (.int p2), .val (.int p3), .val (.int p4), .val (.int v3), .val (.int v6), .val (.int v9), .val (.int v12), .val (.int v17), .val (.ref b20), .val (.int (1 : Int32)), .val (.int (0 : Int32))] [])) _
    refine XS.aload X23'.here hx rfl (hb hby at_58) rfl rfl ?_
    show Steps p.tables e below (T23.setTop (mkF m 60 #[.val (.int p0), .val (.int p1), .val (.int p2), .val (.int p3), .val (.int p4), .val (.int v3), .val (.int v6), .val (.int v9), .val (.int v12), .val (.int v17), .val (.ref b20), .val (.int (1 : Int32)), .val (.int (0 : Int32))] [(.ref b20)])) _
    refine XS.iload X23'.here hx rfl (hb hby at_60) rfl ?_
    exact k
  obtain ⟨cq28, kq28, q28a, q28b, q28c⟩ := isOf hZ (rfl : T23.heap = T23.heap) f24
  obtain ⟨_, _, ⟨T28, L28, k28, n28⟩, -, X28, ⟨Lc28, hQ28, l28, y28, z28⟩, st28⟩ := X23'.virtualBack hx (y := (⟨"com/example/tame_markup/tamemarkup/tokenizing/DeclarationEnd", "endsWith", "(I)Z"⟩ : MethodName)) (z := (⟨"com/example/tame_markup/tamemarkup/tokenizing/DeclarationEnd", "endsWith", "(I)Z"⟩ : MethodName)) hown (mvT hZ (hw _ (List.mem_of_getElem? (i := 13) rfl))) (mvT hZ (hw _ (List.mem_of_getElem? (i := 14) rfl))) (notFace_of_selects (args := #[]) (mvT hZ (hw _ (List.mem_of_getElem? (i := 16) rfl)))) (mvT hZ (hw _ (List.mem_of_getElem? (i := 16) rfl))) (mvT hZ (hw _ (List.mem_of_getElem? (i := 15) rfl))) (by decide) (backOf (W := 0) (own_rm4 l Z a0 hw [] b20 v3 (0 : Int32) T23.heap n0 Zp26 f24 f25 g_b20) hZ (hw _ (List.mem_of_getElem? (i := 17) rfl)) (hw _ (List.mem_of_getElem? (i := 6) rfl)) (by decide) (by decide)) q28a q28c (g := (mkF m 62 #[.val (.int p0), .val (.int p1), .val (.int p2), .val (.int p3), .val (.int p4), .val (.int v3), .val (.int v6), .val (.int v9), .val (.int v12), .val (.int v17), .val (.ref b20), .val (.int (1 : Int32)), .val (.int (0 : Int32))] [(.int v3), (.ref b20)])) rfl (by rw [hml]; rfl) (Steps.refl _) (argsL := [(.int v3)]) (rest := []) (lenOf own_pd2 rfl) rfl (by show 2 * 0 + _ ≤ _; exact Nat.le_of_eq rfl) (hb hby at_62) (fun _ _ => ⟨rfl, (rfl : T23.heap = T23.heap), (by decide : 1 + 0 ≤ _), (by decide : 1 + 0 ≤ _)⟩)
  dsimp only [Pt.U, Pt.locs, Pt.cells, Pt.slots] at X28 l28 y28 z28 st28 hQ28
  subst y28 z28
  obtain ⟨rfl, Nq28, K28, Q28_0, -⟩ := hQ28
  have N28 : Fr n0 L28 := by rw [l28]; exact Fr.app N23 Nq28
  have X28' : Stand p l e room_1 s m #[(.int p0), (.int p1), (.int p2), (.int p3), (.int p4)] below meth c T28 L28 1 1 := X28
  have f29 : Exa Z T28.heap b20 "com/example/tame_markup/tamemarkup/tokenizing/DeclarationEnd" := f24.keep K28
  have Zp30 : n0 ≤ T28.heap.size := Nat.le_trans Zp26 K28.1
  have st28 : ∀ t, Steps p.tables e below (T28.setTop (mkF m 65 #[.val (.int p0), .val (.int p1), .val (.int p2), .val (.int p3), .val (.int p4), .val (.int v3), .val (.int v6), .val (.int v9), .val (.int v12), .val (.int v17), .val (.ref b20), .val (.int (1 : Int32)), .val (.int (0 : Int32))] [(.int (own_F4 v3 (0 : Int32)))])) t → Steps p.tables e below (T23.setTop (mkF m 62 #[.val (.int p0), .val (.int p1), .val (.int p2), .val (.int p3), .val (.int p4), .val (.int v3), .val (.int v6), .val (.int v9), .val (.int v12), .val (.int v17), .val (.ref b20), .val (.int (1 : Int32)), .val (.int (0 : Int32))] [(.int v3), (.ref b20)])) t := fun t k => st28.trans k
  obtain ⟨v31, hv31⟩ : ∃ z : Int32, z = (own_F4 v3 (0 : Int32)) := ⟨_, rfl⟩
  rw [← hv31] at st28
  have st32 : ∀ t, Steps p.tables e below (T28.setTop (mkF m 69 #[.val (.int p0), .val (.int p1), .val (.int p2), .val (.int p3), .val (.int p4), .val (.int v3), .val (.int v6), .val (.int v9), .val (.int v12), .val (.int v17), .val (.ref b20), .val (.int (1 : Int32)), .val (.int (0 : Int32))] [(.int v3), (.int (0 : Int32)), (.int v31)])) t → Steps p.tables e below (T28.setTop (mkF m 65 #[.val (.int p0), .val (.int p1), .val (.int p2), .val (.int p3), .val (.int p4), .val (.int v3), .val (.int v6), .val (.int v9), .val (.int v12), .val (.int v17), .val (.ref b20), .val (.int (1 : Int32)), .val (.int (0 : Int32))] [(.int v31)])) t := by
    intro t k
    show Steps p.tables e below (T28.setTop (mkF m 65 #[.val (.int p0), .val (.int p1), .val (.int p2), .val (.int p3), .val (.int p4), .val (.int v3), .val (.int v6), .val (.int v9), .val (.int v12), .val (.int v17), .val (.ref b20), .val (.int (1 : Int32)), .val (.int (0 : Int32))] [(.int v31)])) _
    refine XS.iload X28'.here hx rfl (hb hby at_65) rfl ?_
    show Steps p.tables e below (T28.setTop (mkF m 67 #[.val (.int p0), .val (.int p1), .val (.int p2), .val (.int p3), .val (.int p4), .val (.int v3), .val (.int v6), .val (.int v9), .val (.int v12), .val (.int v17), .val (.ref b20), .val (.int (1 : Int32)), .val (.int (0 : Int32))] [(.int (0 : Int32)), (.int v31)])) _
    refine XS.iload X28'.here hx rfl (hb hby at_67) rfl ?_
    exact k
  obtain ⟨_, _, ⟨T33, L33, k33, n33⟩, -, X33, ⟨Lc33, hQ33, l33, y33, z33⟩, st33⟩ := Jvm.LawKit.callS X28' hx (y := (⟨"com/example/tame_markup/tamemarkup/tokenizing/DeclarationEndEndsWithPinLaw", "expectEnds", "(II)Z"⟩ : MethodName)) hown (mvT hZ (hw _ (List.mem_of_getElem? (i := 20) rfl))) (mvT hZ (hw _ (List.mem_of_getElem? (i := 21) rfl))) (mvT hZ (hw _ (List.mem_of_getElem? (i := 2) rfl))) (mvT hZ (hw _ (List.mem_of_getElem? (i := 22) rfl))) (by decide) (backOf (W := 1) (own_rm5 l Z a0 hw [] (0 : Int32) v3 T28.heap) hZ (hw _ (List.mem_of_getElem? (i := 22) rfl)) (hw _ (List.mem_of_getElem? (i := 2) rfl)) (by decide) (by decide)) (g := (mkF m 69 #[.val (.int p0), .val (.int p1), .val (.int p2), .val (.int p3), .val (.int p4), .val (.int v3), .val (.int v6), .val (.int v9), .val (.int v12), .val (.int v17), .val (.ref b20), .val (.int (1 : Int32)), .val (.int (0 : Int32))] [(.int v3), (.int (0 : Int32)), (.int v31)])) rfl (by rw [hml]; rfl) (argsL := [(.int (0 : Int32)), (.int v3)]) (rest := [(.int v31)]) (lenOf own_pd3 rfl) rfl (by show 2 * 0 + _ ≤ _; exact Nat.le_of_eq rfl) (hb hby at_69) (fun _ _ => ⟨rfl, (rfl : T28.heap = T28.heap), (by decide : 1 + 0 ≤ _), (by decide : 1 + 0 ≤ _)⟩)
  dsimp only [Pt.U, Pt.locs, Pt.cells, Pt.slots] at X33 l33 y33 z33 st33 hQ33
  subst y33 z33
  obtain ⟨rfl, rfl, e33⟩ := hQ33
  have X33' : Stand p l e room_1 s m #[(.int p0), (.int p1), (.int p2), (.int p3), (.int p4)] below meth c T33 L28 1 1 := by rw [show L33 = L28 from by rw [l33]; first | rfl | exact List.append_nil _] at X33; exact X33
  obtain ⟨v34, hv34⟩ : ∃ z : Int32, z = (own_F5 (0 : Int32) v3) := ⟨_, rfl⟩
  rw [← hv34] at st33
  obtain ⟨v38, hv38⟩ : ∃ z : Int32, z = (if v31 = v34 then (1 : Int32) else (0 : Int32)) := ⟨_, rfl⟩
  have st39 : ∀ t, Steps p.tables e below (T33.setTop (mkF m 80 #[.val (.int p0), .val (.int p1), .val (.int p2), .val (.int p3), .val (.int p4), .val (.int v3), .val (.int v6), .val (.int v9), .val (.int v12), .val (.int v17), .val (.ref b20), .val (.int (1 : Int32)), .val (.int (0 : Int32))] [(.int v38)])) t → Steps p.tables e below (T33.setTop (mkF m 72 #[.val (.int p0), .val (.int p1), .val (.int p2), .val (.int p3), .val (.int p4), .val (.int v3), .val (.int v6), .val (.int v9), .val (.int v12), .val (.int v17), .val (.ref b20), .val (.int (1 : Int32)), .val (.int (0 : Int32))] [(.int v34), (.int v31)])) t := by
    rw [hv38]
    by_cases hc72_35 : v31 = v34
    · repeat rw [if_pos hc72_35]
      have st36 : ∀ t, Steps p.tables e below (T33.setTop (mkF m 80 #[.val (.int p0), .val (.int p1), .val (.int p2), .val (.int p3), .val (.int p4), .val (.int v3), .val (.int v6), .val (.int v9), .val (.int v12), .val (.int v17), .val (.ref b20), .val (.int (1 : Int32)), .val (.int (0 : Int32))] [(.int (1 : Int32))])) t → Steps p.tables e below (T33.setTop (mkF m 72 #[.val (.int p0), .val (.int p1), .val (.int p2), .val (.int p3), .val (.int p4), .val (.int v3), .val (.int v6), .val (.int v9), .val (.int v12), .val (.int v17), .val (.ref b20), .val (.int (1 : Int32)), .val (.int (0 : Int32))] [(.int v34), (.int v31)])) t := by
        intro t k
        show Steps p.tables e below (T33.setTop (mkF m 72 #[.val (.int p0), .val (.int p1), .val (.int p2), .val (.int p3), .val (.int p4), .val (.int v3), .val (.int v6), .val (.int v9), .val (.int v12), .val (.int v17), .val (.ref b20), .val (.int (1 : Int32)), .val (.int (0 : Int32))] [(.int v34), (.int v31)])) _
        refine XS.icmpNo X33'.here hx rfl (hb hby at_72) rfl (teq hc72_35).2 ?_
        show Steps p.tables e below (T33.setTop (mkF m 75 #[.val (.int p0), .val (.int p1), .val (.int p2), .val (.int p3), .val (.int p4), .val (.int v3), .val (.int v6), .val (.int v9), .val (.int v12), .val (.int v17), .val (.ref b20), .val (.int (1 : Int32)), .val (.int (0 : Int32))] [])) _
        refine XS.iconst X33'.here hx rfl (hb hby at_75) ?_
        show Steps p.tables e below (T33.setTop (mkF m 76 #[.val (.int p0), .val (.int p1), .val (.int p2), .val (.int p3), .val (.int p4), .val (.int v3), .val (.int v6), .val (.int v9), .val (.int v12), .val (.int v17), .val (.ref b20), .val (.int (1 : Int32)), .val (.int (0 : Int32))] [(.int (1 : Int32))])) _
        refine XS.goto X33'.here hx rfl (pc0 := 76) (pc' := 80) rfl (hb hby at_76) (by decide) (by decide) ?_
        exact k
      exact fun t k => st36 _ k
    · repeat rw [if_neg hc72_35]
      have st37 : ∀ t, Steps p.tables e below (T33.setTop (mkF m 80 #[.val (.int p0), .val (.int p1), .val (.int p2), .val (.int p3), .val (.int p4), .val (.int v3), .val (.int v6), .val (.int v9), .val (.int v12), .val (.int v17), .val (.ref b20), .val (.int (1 : Int32)), .val (.int (0 : Int32))] [(.int (0 : Int32))])) t → Steps p.tables e below (T33.setTop (mkF m 72 #[.val (.int p0), .val (.int p1), .val (.int p2), .val (.int p3), .val (.int p4), .val (.int v3), .val (.int v6), .val (.int v9), .val (.int v12), .val (.int v17), .val (.ref b20), .val (.int (1 : Int32)), .val (.int (0 : Int32))] [(.int v34), (.int v31)])) t := by
        intro t k
        show Steps p.tables e below (T33.setTop (mkF m 72 #[.val (.int p0), .val (.int p1), .val (.int p2), .val (.int p3), .val (.int p4), .val (.int v3), .val (.int v6), .val (.int v9), .val (.int v12), .val (.int v17), .val (.ref b20), .val (.int (1 : Int32)), .val (.int (0 : Int32))] [(.int v34), (.int v31)])) _
        refine XS.icmpYes X33'.here hx rfl (pc0 := 72) (pc' := 79) rfl (hb hby at_72) rfl (feq hc72_35).2 (by decide) (by decide) ?_
        show Steps p.tables e below (T33.setTop (mkF m 79 #[.val (.int p0), .val (.int p1), .val (.int p2), .val (.int p3), .val (.int p4), .val (.int v3), .val (.int v6), .val (.int v9), .val (.int v12), .val (.int v17), .val (.ref b20), .val (.int (1 : Int32)), .val (.int (0 : Int32))] [])) _
        refine XS.iconst X33'.here hx rfl (hb hby at_79) ?_
        exact k
      exact fun t k => st37 _ k
  have st40 : ∀ t, Steps p.tables e below (T33.setTop (mkF m 86 #[.val (.int p0), .val (.int p1), .val (.int p2), .val (.int p3), .val (.int p4), .val (.int v3), .val (.int v6), .val (.int v9), .val (.int v12), .val (.int v17), .val (.ref b20), .val (.int v38), .val (.int (0 : Int32))] [(.int v3), (.int (0 : Int32))])) t → Steps p.tables e below (T33.setTop (mkF m 80 #[.val (.int p0), .val (.int p1), .val (.int p2), .val (.int p3), .val (.int p4), .val (.int v3), .val (.int v6), .val (.int v9), .val (.int v12), .val (.int v17), .val (.ref b20), .val (.int (1 : Int32)), .val (.int (0 : Int32))] [(.int v38)])) t := by
    intro t k
    show Steps p.tables e below (T33.setTop (mkF m 80 #[.val (.int p0), .val (.int p1), .val (.int p2), .val (.int p3), .val (.int p4), .val (.int v3), .val (.int v6), .val (.int v9), .val (.int v12), .val (.int v17), .val (.ref b20), .val (.int (1 : Int32)), .val (.int (0 : Int32))] [(.int v38)])) _
    refine XS.istore X33'.here hx rfl (hb hby at_80) rfl (l' := #[.val (.int p0), .val (.int p1), .val (.int p2), .val (.int p3), .val (.int p4), .val (.int v3), .val (.int v6), .val (.int v9), .val (.int v12), .val (.int v17), .val (.ref b20), .val (.int v38), .val (.int (0 : Int32))]) rfl ?_
    show Steps p.tables e below (T33.setTop (mkF m 82 #[.val (.int p0), .val (.int p1), .val (.int p2), .val (.int p3), .val (.int p4), .val (.int v3), .val (.int v6), .val (.int v9), .val (.int v12), .val (.int v17), .val (.ref b20), .val (.int v38), .val (.int (0 : Int32))] [])) _
    refine XS.iload X33'.here hx rfl (hb hby at_82) rfl ?_
    show Steps p.tables e below (T33.setTop (mkF m 84 #[.val (.int p0), .val (.int p1), .val (.int p2), .val (.int p3), .val (.int p4), .val (.int v3), .val (.int v6), .val (.int v9), .val (.int v12), .val (.int v17), .val (.ref b20), .val (.int v38), .val (.int (0 : Int32))] [(.int (0 : Int32))])) _
    refine XS.iload X33'.here hx rfl (hb hby at_84) rfl ?_
    exact k
  obtain ⟨_, _, ⟨T41, L41, k41, n41⟩, -, X41, ⟨Lc41, hQ41, l41, y41, z41⟩, st41⟩ := Jvm.LawKit.callS X33' hx (y := (⟨"com/example/tame_markup/tamemarkup/tokenizing/DeclarationEndEndsWithPinLaw", "next", "(II)I"⟩ : MethodName)) hown (mvT hZ (hw _ (List.mem_of_getElem? (i := 23) rfl))) (mvT hZ (hw _ (List.mem_of_getElem? (i := 24) rfl))) (mvT hZ (hw _ (List.mem_of_getElem? (i := 2) rfl))) (mvT hZ (hw _ (List.mem_of_getElem? (i := 25) rfl))) (by decide) (backOf (W := 0) (own_rm6 l Z a0 hw [] (0 : Int32) v3 T28.heap) hZ (hw _ (List.mem_of_getElem? (i := 25) rfl)) (hw _ (List.mem_of_getElem? (i := 2) rfl)) (by decide) (by decide)) (g := (mkF m 86 #[.val (.int p0), .val (.int p1), .val (.int p2), .val (.int p3), .val (.int p4), .val (.int v3), .val (.int v6), .val (.int v9), .val (.int v12), .val (.int v17), .val (.ref b20), .val (.int v38), .val (.int (0 : Int32))] [(.int v3), (.int (0 : Int32))])) rfl (by rw [hml]; rfl) (argsL := [(.int (0 : Int32)), (.int v3)]) (rest := []) (lenOf own_pd4 rfl) rfl (by show 2 * 0 + _ ≤ _; exact Nat.le_of_eq rfl) (hb hby at_86) (fun _ _ => ⟨rfl, e33, (by decide : 1 + 0 ≤ _), (by decide : 1 + 0 ≤ _)⟩)
  dsimp only [Pt.U, Pt.locs, Pt.cells, Pt.slots] at X41 l41 y41 z41 st41 hQ41
  subst y41 z41
  obtain ⟨rfl, rfl, e41⟩ := hQ41
  have X41' : Stand p l e room_1 s m #[(.int p0), (.int p1), (.int p2), (.int p3), (.int p4)] below meth c T41 L28 1 1 := by rw [show L41 = L28 from by rw [l41]; first | rfl | exact List.append_nil _] at X41; exact X41
  obtain ⟨v42, hv42⟩ : ∃ z : Int32, z = (own_F6 (0 : Int32) v3) := ⟨_, rfl⟩
  rw [← hv42] at st41
  have st43 : ∀ t, Steps p.tables e below (T41.setTop (mkF m 100 #[.val (.int p0), .val (.int p1), .val (.int p2), .val (.int p3), .val (.int p4), .val (.int v3), .val (.int v6), .val (.int v9), .val (.int v12), .val (.int v17), .val (.ref b20), .val (.int v38), .val (.int v42)] [(.int v6), (.ref b20)])) t → Steps p.tables e below (T41.setTop (mkF m 89 #[.val (.int p0), .val (.int p1), .val (.int p2), .val (.int p3), .val (.int p4), .val (.int v3), .val (.int v6), .val (.int v9), .val (.int v12), .val (.int v17), .val (.ref b20), .val (.int v38), .val (.int (0 : Int32))] [(.int v42)])) t := by
    intro t k
    show Steps p.tables e below (T41.setTop (mkF m 89 #[.val (.int p0), .val (.int p1), .val (.int p2), .val (.int p3), .val (.int p4), .val (.int v3), .val (.int v6), .val (.int v9), .val (.int v12), .val (.int v17), .val (.ref b20), .val (.int v38), .val (.int (0 : Int32))] [(.int v42)])) _
    refine XS.istore X41'.here hx rfl (hb hby at_89) rfl (l' := #[.val (.int p0), .val (.int p1), .val (.int p2), .val (.int p3), .val (.int p4), .val (.int v3), .val (.int v6), .val (.int v9), .val (.int v12), .val (.int v17), .val (.ref b20), .val (.int v38), .val (.int v42)]) rfl ?_
    show Steps p.tables e below (T41.setTop (mkF m 91 #[.val (.int p0), .val (.int p1), .val (.int p2), .val (.int p3), .val (.int p4), .val (.int v3), .val (.int v6), .val (.int v9), .val (.int v12), .val (.int v17), .val (.ref b20), .val (.int v38), .val (.int v42)] [])) _
    refine XS.iload X41'.here hx rfl (hb hby at_91) rfl ?_
    show Steps p.tables e below (T41.setTop (mkF m 93 #[.val (.int p0), .val (.int p1), .val (.int p2), .val (.int p3), .val (.int p4), .val (.int v3), .val (.int v6), .val (.int v9), .val (.int v12), .val (.int v17), .val (.ref b20), .val (.int v38), .val (.int v42)] [(.int v38)])) _
    refine XS.ifNo X41'.here hx rfl (hb hby at_93) rfl ((if0 _ _).trans (feq (by subst_vars; simp only [own_step, own_says, if_true]; decide : ¬ (v38 = (0 : Int32)))).1) ?_
    show Steps p.tables e below (T41.setTop (mkF m 96 #[.val (.int p0), .val (.int p1), .val (.int p2), .val (.int p3), .val (.int p4), .val (.int v3), .val (.int v6), .val (.int v9), .val (.int v12), .val (.int v17), .val (.ref b20), .val (.int v38), .val (.int v42)] [])) _
    refine XS.aload X41'.here hx rfl (hb hby at_96) rfl rfl ?_
    show Steps p.tables e below (T41.setTop (mkF m 98 #[.val (.int p0), .val (.int p1), .val (.int p2), .val (.int p3), .val (.int p4), .val (.int v3), .val (.int v6), .val (.int v9), .val (.int v12), .val (.int v17), .val (.ref b20), .val (.int v38), .val (.int v42)] [(.ref b20)])) _
    refine XS.iload X41'.here hx rfl (hb hby at_98) rfl ?_
    exact k
  obtain ⟨cq44, kq44, q44a, q44b, q44c⟩ := isOf hZ e41 f29
  obtain ⟨_, _, ⟨T44, L44, k44, n44⟩, -, X44, ⟨Lc44, hQ44, l44, y44, z44⟩, st44⟩ := X41'.virtualBack hx (y := (⟨"com/example/tame_markup/tamemarkup/tokenizing/DeclarationEnd", "endsWith", "(I)Z"⟩ : MethodName)) (z := (⟨"com/example/tame_markup/tamemarkup/tokenizing/DeclarationEnd", "endsWith", "(I)Z"⟩ : MethodName)) hown (mvT hZ (hw _ (List.mem_of_getElem? (i := 13) rfl))) (mvT hZ (hw _ (List.mem_of_getElem? (i := 14) rfl))) (notFace_of_selects (args := #[]) (mvT hZ (hw _ (List.mem_of_getElem? (i := 16) rfl)))) (mvT hZ (hw _ (List.mem_of_getElem? (i := 16) rfl))) (mvT hZ (hw _ (List.mem_of_getElem? (i := 15) rfl))) (by decide) (backOf (W := 0) (own_rm4 l Z a0 hw [] b20 v6 (own_G4_0 v3 (0 : Int32)) T28.heap n0 Zp30 f29 Q28_0 g_b20) hZ (hw _ (List.mem_of_getElem? (i := 17) rfl)) (hw _ (List.mem_of_getElem? (i := 6) rfl)) (by decide) (by decide)) q44a q44c (g := (mkF m 100 #[.val (.int p0), .val (.int p1), .val (.int p2), .val (.int p3), .val (.int p4), .val (.int v3), .val (.int v6), .val (.int v9), .val (.int v12), .val (.int v17), .val (.ref b20), .val (.int v38), .val (.int v42)] [(.int v6), (.ref b20)])) rfl (by rw [hml]; rfl) (Steps.refl _) (argsL := [(.int v6)]) (rest := []) (lenOf own_pd2 rfl) rfl (by show 2 * 0 + _ ≤ _; exact Nat.le_of_eq rfl) (hb hby at_100) (fun _ _ => ⟨rfl, e41, (by decide : 1 + 0 ≤ _), (by decide : 1 + 0 ≤ _)⟩)
  dsimp only [Pt.U, Pt.locs, Pt.cells, Pt.slots] at X44 l44 y44 z44 st44 hQ44
  subst y44 z44
  obtain ⟨rfl, Nq44, K44, Q44_0, -⟩ := hQ44
  have N44 : Fr n0 L44 := by rw [l44]; exact Fr.app N28 Nq44
  have X44' : Stand p l e room_1 s m #[(.int p0), (.int p1), (.int p2), (.int p3), (.int p4)] below meth c T44 L44 1 1 := X44
  have f45 : Exa Z T44.heap b20 "com/example/tame_markup/tamemarkup/tokenizing/DeclarationEnd" := f29.keep K44
  have Zp46 : n0 ≤ T44.heap.size := Nat.le_trans Zp30 K44.1
  have st44 : ∀ t, Steps p.tables e below (T44.setTop (mkF m 103 #[.val (.int p0), .val (.int p1), .val (.int p2), .val (.int p3), .val (.int p4), .val (.int v3), .val (.int v6), .val (.int v9), .val (.int v12), .val (.int v17), .val (.ref b20), .val (.int v38), .val (.int v42)] [(.int (own_F4 v6 (own_G4_0 v3 (0 : Int32))))])) t → Steps p.tables e below (T41.setTop (mkF m 100 #[.val (.int p0), .val (.int p1), .val (.int p2), .val (.int p3), .val (.int p4), .val (.int v3), .val (.int v6), .val (.int v9), .val (.int v12), .val (.int v17), .val (.ref b20), .val (.int v38), .val (.int v42)] [(.int v6), (.ref b20)])) t := fun t k => st44.trans k
  obtain ⟨v47, hv47⟩ : ∃ z : Int32, z = (own_F4 v6 (own_G4_0 v3 (0 : Int32))) := ⟨_, rfl⟩
  rw [← hv47] at st44
  have st48 : ∀ t, Steps p.tables e below (T44.setTop (mkF m 107 #[.val (.int p0), .val (.int p1), .val (.int p2), .val (.int p3), .val (.int p4), .val (.int v3), .val (.int v6), .val (.int v9), .val (.int v12), .val (.int v17), .val (.ref b20), .val (.int v38), .val (.int v42)] [(.int v6), (.int v42), (.int v47)])) t → Steps p.tables e below (T44.setTop (mkF m 103 #[.val (.int p0), .val (.int p1), .val (.int p2), .val (.int p3), .val (.int p4), .val (.int v3), .val (.int v6), .val (.int v9), .val (.int v12), .val (.int v17), .val (.ref b20), .val (.int v38), .val (.int v42)] [(.int v47)])) t := by
    intro t k
    show Steps p.tables e below (T44.setTop (mkF m 103 #[.val (.int p0), .val (.int p1), .val (.int p2), .val (.int p3), .val (.int p4), .val (.int v3), .val (.int v6), .val (.int v9), .val (.int v12), .val (.int v17), .val (.ref b20), .val (.int v38), .val (.int v42)] [(.int v47)])) _
    refine XS.iload X44'.here hx rfl (hb hby at_103) rfl ?_
    show Steps p.tables e below (T44.setTop (mkF m 105 #[.val (.int p0), .val (.int p1), .val (.int p2), .val (.int p3), .val (.int p4), .val (.int v3), .val (.int v6), .val (.int v9), .val (.int v12), .val (.int v17), .val (.ref b20), .val (.int v38), .val (.int v42)] [(.int v42), (.int v47)])) _
    refine XS.iload X44'.here hx rfl (hb hby at_105) rfl ?_
    exact k
  obtain ⟨_, _, ⟨T49, L49, k49, n49⟩, -, X49, ⟨Lc49, hQ49, l49, y49, z49⟩, st49⟩ := Jvm.LawKit.callS X44' hx (y := (⟨"com/example/tame_markup/tamemarkup/tokenizing/DeclarationEndEndsWithPinLaw", "expectEnds", "(II)Z"⟩ : MethodName)) hown (mvT hZ (hw _ (List.mem_of_getElem? (i := 20) rfl))) (mvT hZ (hw _ (List.mem_of_getElem? (i := 21) rfl))) (mvT hZ (hw _ (List.mem_of_getElem? (i := 2) rfl))) (mvT hZ (hw _ (List.mem_of_getElem? (i := 22) rfl))) (by decide) (backOf (W := 1) (own_rm5 l Z a0 hw [] v42 v6 T44.heap) hZ (hw _ (List.mem_of_getElem? (i := 22) rfl)) (hw _ (List.mem_of_getElem? (i := 2) rfl)) (by decide) (by decide)) (g := (mkF m 107 #[.val (.int p0), .val (.int p1), .val (.int p2), .val (.int p3), .val (.int p4), .val (.int v3), .val (.int v6), .val (.int v9), .val (.int v12), .val (.int v17), .val (.ref b20), .val (.int v38), .val (.int v42)] [(.int v6), (.int v42), (.int v47)])) rfl (by rw [hml]; rfl) (argsL := [(.int v42), (.int v6)]) (rest := [(.int v47)]) (lenOf own_pd3 rfl) rfl (by show 2 * 0 + _ ≤ _; exact Nat.le_of_eq rfl) (hb hby at_107) (fun _ _ => ⟨rfl, (rfl : T44.heap = T44.heap), (by decide : 1 + 0 ≤ _), (by decide : 1 + 0 ≤ _)⟩)
  dsimp only [Pt.U, Pt.locs, Pt.cells, Pt.slots] at X49 l49 y49 z49 st49 hQ49
  subst y49 z49
  obtain ⟨rfl, rfl, e49⟩ := hQ49
  have X49' : Stand p l e room_1 s m #[(.int p0), (.int p1), (.int p2), (.int p3), (.int p4)] below meth c T49 L44 1 1 := by rw [show L49 = L44 from by rw [l49]; first | rfl | exact List.append_nil _] at X49; exact X49
  obtain ⟨v50, hv50⟩ : ∃ z : Int32, z = (own_F5 v42 v6) := ⟨_, rfl⟩
  rw [← hv50] at st49
  obtain ⟨v54, hv54⟩ : ∃ z : Int32, z = (if v47 = v50 then (1 : Int32) else (0 : Int32)) := ⟨_, rfl⟩
  have st55 : ∀ t, Steps p.tables e below (T49.setTop (mkF m 118 #[.val (.int p0), .val (.int p1), .val (.int p2), .val (.int p3), .val (.int p4), .val (.int v3), .val (.int v6), .val (.int v9), .val (.int v12), .val (.int v17), .val (.ref b20), .val (.int v38), .val (.int v42)] [(.int v54)])) t → Steps p.tables e below (T49.setTop (mkF m 110 #[.val (.int p0), .val (.int p1), .val (.int p2), .val (.int p3), .val (.int p4), .val (.int v3), .val (.int v6), .val (.int v9), .val (.int v12), .val (.int v17), .val (.ref b20), .val (.int v38), .val (.int v42)] [(.int v50), (.int v47)])) t := by
    rw [hv54]
    by_cases hc110_51 : v47 = v50
    · repeat rw [if_pos hc110_51]
      have st52 : ∀ t, Steps p.tables e below (T49.setTop (mkF m 118 #[.val (.int p0), .val (.int p1), .val (.int p2), .val (.int p3), .val (.int p4), .val (.int v3), .val (.int v6), .val (.int v9), .val (.int v12), .val (.int v17), .val (.ref b20), .val (.int v38), .val (.int v42)] [(.int (1 : Int32))])) t → Steps p.tables e below (T49.setTop (mkF m 110 #[.val (.int p0), .val (.int p1), .val (.int p2), .val (.int p3), .val (.int p4), .val (.int v3), .val (.int v6), .val (.int v9), .val (.int v12), .val (.int v17), .val (.ref b20), .val (.int v38), .val (.int v42)] [(.int v50), (.int v47)])) t := by
        intro t k
        show Steps p.tables e below (T49.setTop (mkF m 110 #[.val (.int p0), .val (.int p1), .val (.int p2), .val (.int p3), .val (.int p4), .val (.int v3), .val (.int v6), .val (.int v9), .val (.int v12), .val (.int v17), .val (.ref b20), .val (.int v38), .val (.int v42)] [(.int v50), (.int v47)])) _
        refine XS.icmpNo X49'.here hx rfl (hb hby at_110) rfl (teq hc110_51).2 ?_
        show Steps p.tables e below (T49.setTop (mkF m 113 #[.val (.int p0), .val (.int p1), .val (.int p2), .val (.int p3), .val (.int p4), .val (.int v3), .val (.int v6), .val (.int v9), .val (.int v12), .val (.int v17), .val (.ref b20), .val (.int v38), .val (.int v42)] [])) _
        refine XS.iconst X49'.here hx rfl (hb hby at_113) ?_
        show Steps p.tables e below (T49.setTop (mkF m 114 #[.val (.int p0), .val (.int p1), .val (.int p2), .val (.int p3), .val (.int p4), .val (.int v3), .val (.int v6), .val (.int v9), .val (.int v12), .val (.int v17), .val (.ref b20), .val (.int v38), .val (.int v42)] [(.int (1 : Int32))])) _
        refine XS.goto X49'.here hx rfl (pc0 := 114) (pc' := 118) rfl (hb hby at_114) (by decide) (by decide) ?_
        exact k
      exact fun t k => st52 _ k
    · repeat rw [if_neg hc110_51]
      have st53 : ∀ t, Steps p.tables e below (T49.setTop (mkF m 118 #[.val (.int p0), .val (.int p1), .val (.int p2), .val (.int p3), .val (.int p4), .val (.int v3), .val (.int v6), .val (.int v9), .val (.int v12), .val (.int v17), .val (.ref b20), .val (.int v38), .val (.int v42)] [(.int (0 : Int32))])) t → Steps p.tables e below (T49.setTop (mkF m 110 #[.val (.int p0), .val (.int p1), .val (.int p2), .val (.int p3), .val (.int p4), .val (.int v3), .val (.int v6), .val (.int v9), .val (.int v12), .val (.int v17), .val (.ref b20), .val (.int v38), .val (.int v42)] [(.int v50), (.int v47)])) t := by
        intro t k
        show Steps p.tables e below (T49.setTop (mkF m 110 #[.val (.int p0), .val (.int p1), .val (.int p2), .val (.int p3), .val (.int p4), .val (.int v3), .val (.int v6), .val (.int v9), .val (.int v12), .val (.int v17), .val (.ref b20), .val (.int v38), .val (.int v42)] [(.int v50), (.int v47)])) _
        refine XS.icmpYes X49'.here hx rfl (pc0 := 110) (pc' := 117) rfl (hb hby at_110) rfl (feq hc110_51).2 (by decide) (by decide) ?_
        show Steps p.tables e below (T49.setTop (mkF m 117 #[.val (.int p0), .val (.int p1), .val (.int p2), .val (.int p3), .val (.int p4), .val (.int v3), .val (.int v6), .val (.int v9), .val (.int v12), .val (.int v17), .val (.ref b20), .val (.int v38), .val (.int v42)] [])) _
        refine XS.iconst X49'.here hx rfl (hb hby at_117) ?_
        exact k
      exact fun t k => st53 _ k
  have st56 : ∀ t, Steps p.tables e below (T49.setTop (mkF m 124 #[.val (.int p0), .val (.int p1), .val (.int p2), .val (.int p3), .val (.int p4), .val (.int v3), .val (.int v6), .val (.int v9), .val (.int v12), .val (.int v17), .val (.ref b20), .val (.int v54), .val (.int v42)] [(.int v6), (.int v42)])) t → Steps p.tables e below (T49.setTop (mkF m 118 #[.val (.int p0), .val (.int p1), .val (.int p2), .val (.int p3), .val (.int p4), .val (.int v3), .val (.int v6), .val (.int v9), .val (.int v12), .val (.int v17), .val (.ref b20), .val (.int v38), .val (.int v42)] [(.int v54)])) t := by
    intro t k
    show Steps p.tables e below (T49.setTop (mkF m 118 #[.val (.int p0), .val (.int p1), .val (.int p2), .val (.int p3), .val (.int p4), .val (.int v3), .val (.int v6), .val (.int v9), .val (.int v12), .val (.int v17), .val (.ref b20), .val (.int v38), .val (.int v42)] [(.int v54)])) _
    refine XS.istore X49'.here hx rfl (hb hby at_118) rfl (l' := #[.val (.int p0), .val (.int p1), .val (.int p2), .val (.int p3), .val (.int p4), .val (.int v3), .val (.int v6), .val (.int v9), .val (.int v12), .val (.int v17), .val (.ref b20), .val (.int v54), .val (.int v42)]) rfl ?_
    show Steps p.tables e below (T49.setTop (mkF m 120 #[.val (.int p0), .val (.int p1), .val (.int p2), .val (.int p3), .val (.int p4), .val (.int v3), .val (.int v6), .val (.int v9), .val (.int v12), .val (.int v17), .val (.ref b20), .val (.int v54), .val (.int v42)] [])) _
    refine XS.iload X49'.here hx rfl (hb hby at_120) rfl ?_
    show Steps p.tables e below (T49.setTop (mkF m 122 #[.val (.int p0), .val (.int p1), .val (.int p2), .val (.int p3), .val (.int p4), .val (.int v3), .val (.int v6), .val (.int v9), .val (.int v12), .val (.int v17), .val (.ref b20), .val (.int v54), .val (.int v42)] [(.int v42)])) _
    refine XS.iload X49'.here hx rfl (hb hby at_122) rfl ?_
    exact k
  obtain ⟨_, _, ⟨T57, L57, k57, n57⟩, -, X57, ⟨Lc57, hQ57, l57, y57, z57⟩, st57⟩ := Jvm.LawKit.callS X49' hx (y := (⟨"com/example/tame_markup/tamemarkup/tokenizing/DeclarationEndEndsWithPinLaw", "next", "(II)I"⟩ : MethodName)) hown (mvT hZ (hw _ (List.mem_of_getElem? (i := 23) rfl))) (mvT hZ (hw _ (List.mem_of_getElem? (i := 24) rfl))) (mvT hZ (hw _ (List.mem_of_getElem? (i := 2) rfl))) (mvT hZ (hw _ (List.mem_of_getElem? (i := 25) rfl))) (by decide) (backOf (W := 0) (own_rm6 l Z a0 hw [] v42 v6 T44.heap) hZ (hw _ (List.mem_of_getElem? (i := 25) rfl)) (hw _ (List.mem_of_getElem? (i := 2) rfl)) (by decide) (by decide)) (g := (mkF m 124 #[.val (.int p0), .val (.int p1), .val (.int p2), .val (.int p3), .val (.int p4), .val (.int v3), .val (.int v6), .val (.int v9), .val (.int v12), .val (.int v17), .val (.ref b20), .val (.int v54), .val (.int v42)] [(.int v6), (.int v42)])) rfl (by rw [hml]; rfl) (argsL := [(.int v42), (.int v6)]) (rest := []) (lenOf own_pd4 rfl) rfl (by show 2 * 0 + _ ≤ _; exact Nat.le_of_eq rfl) (hb hby at_124) (fun _ _ => ⟨rfl, e49, (by decide : 1 + 0 ≤ _), (by decide : 1 + 0 ≤ _)⟩)
  dsimp only [Pt.U, Pt.locs, Pt.cells, Pt.slots] at X57 l57 y57 z57 st57 hQ57
  subst y57 z57
  obtain ⟨rfl, rfl, e57⟩ := hQ57
  have X57' : Stand p l e room_1 s m #[(.int p0), (.int p1), (.int p2), (.int p3), (.int p4)] below meth c T57 L44 1 1 := by rw [show L57 = L44 from by rw [l57]; first | rfl | exact List.append_nil _] at X57; exact X57
  obtain ⟨v58, hv58⟩ : ∃ z : Int32, z = (own_F6 v42 v6) := ⟨_, rfl⟩
  rw [← hv58] at st57
  have st59 : ∀ t, Steps p.tables e below (T57.setTop (mkF m 131 #[.val (.int p0), .val (.int p1), .val (.int p2), .val (.int p3), .val (.int p4), .val (.int v3), .val (.int v6), .val (.int v9), .val (.int v12), .val (.int v17), .val (.ref b20), .val (.int v54), .val (.int v58)] [(.int v17)])) t → Steps p.tables e below (T57.setTop (mkF m 127 #[.val (.int p0), .val (.int p1), .val (.int p2), .val (.int p3), .val (.int p4), .val (.int v3), .val (.int v6), .val (.int v9), .val (.int v12), .val (.int v17), .val (.ref b20), .val (.int v54), .val (.int v42)] [(.int v58)])) t := by
    intro t k
    show Steps p.tables e below (T57.setTop (mkF m 127 #[.val (.int p0), .val (.int p1), .val (.int p2), .val (.int p3), .val (.int p4), .val (.int v3), .val (.int v6), .val (.int v9), .val (.int v12), .val (.int v17), .val (.ref b20), .val (.int v54), .val (.int v42)] [(.int v58)])) _
    refine XS.istore X57'.here hx rfl (hb hby at_127) rfl (l' := #[.val (.int p0), .val (.int p1), .val (.int p2), .val (.int p3), .val (.int p4), .val (.int v3), .val (.int v6), .val (.int v9), .val (.int v12), .val (.int v17), .val (.ref b20), .val (.int v54), .val (.int v58)]) rfl ?_
    show Steps p.tables e below (T57.setTop (mkF m 129 #[.val (.int p0), .val (.int p1), .val (.int p2), .val (.int p3), .val (.int p4), .val (.int v3), .val (.int v6), .val (.int v9), .val (.int v12), .val (.int v17), .val (.ref b20), .val (.int v54), .val (.int v58)] [])) _
    refine XS.iload X57'.here hx rfl (hb hby at_129) rfl ?_
    exact k
  refine own_End.go (fun t k => st1 _ (st2 _ (st4 _ (st5 _ (st7 _ (st8 _ (st10 _ (st11 _ (st13 _ (st18 _ (st19 _ (st20 _ (st22 _ (st23 _ (st27 _ (st28 _ (st32 _ (st33 _ (st39 _ (st40 _ (st41 _ (st43 _ (st44 _ (st48 _ (st49 _ (st55 _ (st56 _ (st57 _ (st59 _ k))))))))))))))))))))))))))))) ?_
  by_cases hc131_60 : v17 = (0 : Int32)
  · have st61 : ∀ t, Steps p.tables e below (T57.setTop (mkF m 151 #[.val (.int p0), .val (.int p1), .val (.int p2), .val (.int p3), .val (.int p4), .val (.int v3), .val (.int v6), .val (.int v9), .val (.int v12), .val (.int v17), .val (.ref b20), .val (.int v54), .val (.int v58)] [(.int v9), (.ref b20)])) t → Steps p.tables e below (T57.setTop (mkF m 131 #[.val (.int p0), .val (.int p1), .val (.int p2), .val (.int p3), .val (.int p4), .val (.int v3), .val (.int v6), .val (.int v9), .val (.int v12), .val (.int v17), .val (.ref b20), .val (.int v54), .val (.int v58)] [(.int v17)])) t := by
      intro t k
      show Steps p.tables e below (T57.setTop (mkF m 131 #[.val (.int p0), .val (.int p1), .val (.int p2), .val (.int p3), .val (.int p4), .val (.int v3), .val (.int v6), .val (.int v9), .val (.int v12), .val (.int v17), .val (.ref b20), .val (.int v54), .val (.int v58)] [(.int v17)])) _
      refine XS.ifYes X57'.here hx rfl (pc0 := 131) (pc' := 142) rfl (hb hby at_131) rfl ((if0 _ _).trans (teq hc131_60).1) (by decide) (by decide) ?_
      show Steps p.tables e below (T57.setTop (mkF m 142 #[.val (.int p0), .val (.int p1), .val (.int p2), .val (.int p3), .val (.int p4), .val (.int v3), .val (.int v6), .val (.int v9), .val (.int v12), .val (.int v17), .val (.ref b20), .val (.int v54), .val (.int v58)] [])) _
      refine XS.iload X57'.here hx rfl (hb hby at_142) rfl ?_
      show Steps p.tables e below (T57.setTop (mkF m 144 #[.val (.int p0), .val (.int p1), .val (.int p2), .val (.int p3), .val (.int p4), .val (.int v3), .val (.int v6), .val (.int v9), .val (.int v12), .val (.int v17), .val (.ref b20), .val (.int v54), .val (.int v58)] [(.int v54)])) _
      refine XS.ifNo X57'.here hx rfl (hb hby at_144) rfl ((if0 _ _).trans (feq (by subst_vars; simp only [own_step, own_says, if_true]; decide : ¬ (v54 = (0 : Int32)))).1) ?_
      show Steps p.tables e below (T57.setTop (mkF m 147 #[.val (.int p0), .val (.int p1), .val (.int p2), .val (.int p3), .val (.int p4), .val (.int v3), .val (.int v6), .val (.int v9), .val (.int v12), .val (.int v17), .val (.ref b20), .val (.int v54), .val (.int v58)] [])) _
      refine XS.aload X57'.here hx rfl (hb hby at_147) rfl rfl ?_
      show Steps p.tables e below (T57.setTop (mkF m 149 #[.val (.int p0), .val (.int p1), .val (.int p2), .val (.int p3), .val (.int p4), .val (.int v3), .val (.int v6), .val (.int v9), .val (.int v12), .val (.int v17), .val (.ref b20), .val (.int v54), .val (.int v58)] [(.ref b20)])) _
      refine XS.iload X57'.here hx rfl (hb hby at_149) rfl ?_
      exact k
    obtain ⟨cq62, kq62, q62a, q62b, q62c⟩ := isOf hZ e57 f45
    obtain ⟨_, _, ⟨T62, L62, k62, n62⟩, -, X62, ⟨Lc62, hQ62, l62, y62, z62⟩, st62⟩ := X57'.virtualBack hx (y := (⟨"com/example/tame_markup/tamemarkup/tokenizing/DeclarationEnd", "endsWith", "(I)Z"⟩ : MethodName)) (z := (⟨"com/example/tame_markup/tamemarkup/tokenizing/DeclarationEnd", "endsWith", "(I)Z"⟩ : MethodName)) hown (mvT hZ (hw _ (List.mem_of_getElem? (i := 13) rfl))) (mvT hZ (hw _ (List.mem_of_getElem? (i := 14) rfl))) (notFace_of_selects (args := #[]) (mvT hZ (hw _ (List.mem_of_getElem? (i := 16) rfl)))) (mvT hZ (hw _ (List.mem_of_getElem? (i := 16) rfl))) (mvT hZ (hw _ (List.mem_of_getElem? (i := 15) rfl))) (by decide) (backOf (W := 0) (own_rm4 l Z a0 hw [] b20 v9 (own_G4_0 v6 (own_G4_0 v3 (0 : Int32))) T44.heap n0 Zp46 f45 Q44_0 g_b20) hZ (hw _ (List.mem_of_getElem? (i := 17) rfl)) (hw _ (List.mem_of_getElem? (i := 6) rfl)) (by decide) (by decide)) q62a q62c (g := (mkF m 151 #[.val (.int p0), .val (.int p1), .val (.int p2), .val (.int p3), .val (.int p4), .val (.int v3), .val (.int v6), .val (.int v9), .val (.int v12), .val (.int v17), .val (.ref b20), .val (.int v54), .val (.int v58)] [(.int v9), (.ref b20)])) rfl (by rw [hml]; rfl) (Steps.refl _) (argsL := [(.int v9)]) (rest := []) (lenOf own_pd2 rfl) rfl (by show 2 * 0 + _ ≤ _; exact Nat.le_of_eq rfl) (hb hby at_151) (fun _ _ => ⟨rfl, e57, (by decide : 1 + 0 ≤ _), (by decide : 1 + 0 ≤ _)⟩)
    dsimp only [Pt.U, Pt.locs, Pt.cells, Pt.slots] at X62 l62 y62 z62 st62 hQ62
    subst y62 z62
    obtain ⟨rfl, Nq62, K62, Q62_0, -⟩ := hQ62
    have N62 : Fr n0 L62 := by rw [l62]; exact Fr.app N44 Nq62
    have X62' : Stand p l e room_1 s m #[(.int p0), (.int p1), (.int p2), (.int p3), (.int p4)] below meth c T62 L62 1 1 := X62
    have f63 : Exa Z T62.heap b20 "com/example/tame_markup/tamemarkup/tokenizing/DeclarationEnd" := f45.keep K62
    have Zp64 : n0 ≤ T62.heap.size := Nat.le_trans Zp46 K62.1
    have st62 : ∀ t, Steps p.tables e below (T62.setTop (mkF m 154 #[.val (.int p0), .val (.int p1), .val (.int p2), .val (.int p3), .val (.int p4), .val (.int v3), .val (.int v6), .val (.int v9), .val (.int v12), .val (.int v17), .val (.ref b20), .val (.int v54), .val (.int v58)] [(.int (own_F4 v9 (own_G4_0 v6 (own_G4_0 v3 (0 : Int32)))))])) t → Steps p.tables e below (T57.setTop (mkF m 151 #[.val (.int p0), .val (.int p1), .val (.int p2), .val (.int p3), .val (.int p4), .val (.int v3), .val (.int v6), .val (.int v9), .val (.int v12), .val (.int v17), .val (.ref b20), .val (.int v54), .val (.int v58)] [(.int v9), (.ref b20)])) t := fun t k => st62.trans k
    obtain ⟨v65, hv65⟩ : ∃ z : Int32, z = (own_F4 v9 (own_G4_0 v6 (own_G4_0 v3 (0 : Int32)))) := ⟨_, rfl⟩
    rw [← hv65] at st62
    have st66 : ∀ t, Steps p.tables e below (T62.setTop (mkF m 158 #[.val (.int p0), .val (.int p1), .val (.int p2), .val (.int p3), .val (.int p4), .val (.int v3), .val (.int v6), .val (.int v9), .val (.int v12), .val (.int v17), .val (.ref b20), .val (.int v54), .val (.int v58)] [(.int v9), (.int v58), (.int v65)])) t → Steps p.tables e below (T62.setTop (mkF m 154 #[.val (.int p0), .val (.int p1), .val (.int p2), .val (.int p3), .val (.int p4), .val (.int v3), .val (.int v6), .val (.int v9), .val (.int v12), .val (.int v17), .val (.ref b20), .val (.int v54), .val (.int v58)] [(.int v65)])) t := by
      intro t k
      show Steps p.tables e below (T62.setTop (mkF m 154 #[.val (.int p0), .val (.int p1), .val (.int p2), .val (.int p3), .val (.int p4), .val (.int v3), .val (.int v6), .val (.int v9), .val (.int v12), .val (.int v17), .val (.ref b20), .val (.int v54), .val (.int v58)] [(.int v65)])) _
      refine XS.iload X62'.here hx rfl (hb hby at_154) rfl ?_
      show Steps p.tables e below (T62.setTop (mkF m 156 #[.val (.int p0), .val (.int p1), .val (.int p2), .val (.int p3), .val (.int p4), .val (.int v3), .val (.int v6), .val (.int v9), .val (.int v12), .val (.int v17), .val (.ref b20), .val (.int v54), .val (.int v58)] [(.int v58), (.int v65)])) _
      refine XS.iload X62'.here hx rfl (hb hby at_156) rfl ?_
      exact k
    obtain ⟨_, _, ⟨T67, L67, k67, n67⟩, -, X67, ⟨Lc67, hQ67, l67, y67, z67⟩, st67⟩ := Jvm.LawKit.callS X62' hx (y := (⟨"com/example/tame_markup/tamemarkup/tokenizing/DeclarationEndEndsWithPinLaw", "expectEnds", "(II)Z"⟩ : MethodName)) hown (mvT hZ (hw _ (List.mem_of_getElem? (i := 20) rfl))) (mvT hZ (hw _ (List.mem_of_getElem? (i := 21) rfl))) (mvT hZ (hw _ (List.mem_of_getElem? (i := 2) rfl))) (mvT hZ (hw _ (List.mem_of_getElem? (i := 22) rfl))) (by decide) (backOf (W := 1) (own_rm5 l Z a0 hw [] v58 v9 T62.heap) hZ (hw _ (List.mem_of_getElem? (i := 22) rfl)) (hw _ (List.mem_of_getElem? (i := 2) rfl)) (by decide) (by decide)) (g := (mkF m 158 #[.val (.int p0), .val (.int p1), .val (.int p2), .val (.int p3), .val (.int p4), .val (.int v3), .val (.int v6), .val (.int v9), .val (.int v12), .val (.int v17), .val (.ref b20), .val (.int v54), .val (.int v58)] [(.int v9), (.int v58), (.int v65)])) rfl (by rw [hml]; rfl) (argsL := [(.int v58), (.int v9)]) (rest := [(.int v65)]) (lenOf own_pd3 rfl) rfl (by show 2 * 0 + _ ≤ _; exact Nat.le_of_eq rfl) (hb hby at_158) (fun _ _ => ⟨rfl, (rfl : T62.heap = T62.heap), (by decide : 1 + 0 ≤ _), (by decide : 1 + 0 ≤ _)⟩)
    dsimp only [Pt.U, Pt.locs, Pt.cells, Pt.slots] at X67 l67 y67 z67 st67 hQ67
    subst y67 z67
    obtain ⟨rfl, rfl, e67⟩ := hQ67
    have X67' : Stand p l e room_1 s m #[(.int p0), (.int p1), (.int p2), (.int p3), (.int p4)] below meth c T67 L62 1 1 := by rw [show L67 = L62 from by rw [l67]; first | rfl | exact List.append_nil _] at X67; exact X67
    obtain ⟨v68, hv68⟩ : ∃ z : Int32, z = (own_F5 v58 v9) := ⟨_, rfl⟩
    rw [← hv68] at st67
    obtain ⟨v72, hv72⟩ : ∃ z : Int32, z = (if v65 = v68 then (1 : Int32) else (0 : Int32)) := ⟨_, rfl⟩
    have st73 : ∀ t, Steps p.tables e below (T67.setTop (mkF m 169 #[.val (.int p0), .val (.int p1), .val (.int p2), .val (.int p3), .val (.int p4), .val (.int v3), .val (.int v6), .val (.int v9), .val (.int v12), .val (.int v17), .val (.ref b20), .val (.int v54), .val (.int v58)] [(.int v72)])) t → Steps p.tables e below (T67.setTop (mkF m 161 #[.val (.int p0), .val (.int p1), .val (.int p2), .val (.int p3), .val (.int p4), .val (.int v3), .val (.int v6), .val (.int v9), .val (.int v12), .val (.int v17), .val (.ref b20), .val (.int v54), .val (.int v58)] [(.int v68), (.int v65)])) t := by
      rw [hv72]
      by_cases hc161_69 : v65 = v68
      · repeat rw [if_pos hc161_69]
        have st70 : ∀ t, Steps p.tables e below (T67.setTop (mkF m 169 #[.val (.int p0), .val (.int p1), .val (.int p2), .val (.int p3), .val (.int p4), .val (.int v3), .val (.int v6), .val (.int v9), .val (.int v12), .val (.int v17), .val (.ref b20), .val (.int v54), .val (.int v58)] [(.int (1 : Int32))])) t → Steps p.tables e below (T67.setTop (mkF m 161 #[.val (.int p0), .val (.int p1), .val (.int p2), .val (.int p3), .val (.int p4), .val (.int v3), .val (.int v6), .val (.int v9), .val (.int v12), .val (.int v17), .val (.ref b20), .val (.int v54), .val (.int v58)] [(.int v68), (.int v65)])) t := by
          intro t k
          show Steps p.tables e below (T67.setTop (mkF m 161 #[.val (.int p0), .val (.int p1), .val (.int p2), .val (.int p3), .val (.int p4), .val (.int v3), .val (.int v6), .val (.int v9), .val (.int v12), .val (.int v17), .val (.ref b20), .val (.int v54), .val (.int v58)] [(.int v68), (.int v65)])) _
          refine XS.icmpNo X67'.here hx rfl (hb hby at_161) rfl (teq hc161_69).2 ?_
          show Steps p.tables e below (T67.setTop (mkF m 164 #[.val (.int p0), .val (.int p1), .val (.int p2), .val (.int p3), .val (.int p4), .val (.int v3), .val (.int v6), .val (.int v9), .val (.int v12), .val (.int v17), .val (.ref b20), .val (.int v54), .val (.int v58)] [])) _
          refine XS.iconst X67'.here hx rfl (hb hby at_164) ?_
          show Steps p.tables e below (T67.setTop (mkF m 165 #[.val (.int p0), .val (.int p1), .val (.int p2), .val (.int p3), .val (.int p4), .val (.int v3), .val (.int v6), .val (.int v9), .val (.int v12), .val (.int v17), .val (.ref b20), .val (.int v54), .val (.int v58)] [(.int (1 : Int32))])) _
          refine XS.goto X67'.here hx rfl (pc0 := 165) (pc' := 169) rfl (hb hby at_165) (by decide) (by decide) ?_
          exact k
        exact fun t k => st70 _ k
      · repeat rw [if_neg hc161_69]
        have st71 : ∀ t, Steps p.tables e below (T67.setTop (mkF m 169 #[.val (.int p0), .val (.int p1), .val (.int p2), .val (.int p3), .val (.int p4), .val (.int v3), .val (.int v6), .val (.int v9), .val (.int v12), .val (.int v17), .val (.ref b20), .val (.int v54), .val (.int v58)] [(.int (0 : Int32))])) t → Steps p.tables e below (T67.setTop (mkF m 161 #[.val (.int p0), .val (.int p1), .val (.int p2), .val (.int p3), .val (.int p4), .val (.int v3), .val (.int v6), .val (.int v9), .val (.int v12), .val (.int v17), .val (.ref b20), .val (.int v54), .val (.int v58)] [(.int v68), (.int v65)])) t := by
          intro t k
          show Steps p.tables e below (T67.setTop (mkF m 161 #[.val (.int p0), .val (.int p1), .val (.int p2), .val (.int p3), .val (.int p4), .val (.int v3), .val (.int v6), .val (.int v9), .val (.int v12), .val (.int v17), .val (.ref b20), .val (.int v54), .val (.int v58)] [(.int v68), (.int v65)])) _
          refine XS.icmpYes X67'.here hx rfl (pc0 := 161) (pc' := 168) rfl (hb hby at_161) rfl (feq hc161_69).2 (by decide) (by decide) ?_
          show Steps p.tables e below (T67.setTop (mkF m 168 #[.val (.int p0), .val (.int p1), .val (.int p2), .val (.int p3), .val (.int p4), .val (.int v3), .val (.int v6), .val (.int v9), .val (.int v12), .val (.int v17), .val (.ref b20), .val (.int v54), .val (.int v58)] [])) _
          refine XS.iconst X67'.here hx rfl (hb hby at_168) ?_
          exact k
        exact fun t k => st71 _ k
    have st74 : ∀ t, Steps p.tables e below (T67.setTop (mkF m 175 #[.val (.int p0), .val (.int p1), .val (.int p2), .val (.int p3), .val (.int p4), .val (.int v3), .val (.int v6), .val (.int v9), .val (.int v12), .val (.int v17), .val (.ref b20), .val (.int v72), .val (.int v58)] [(.int v9), (.int v58)])) t → Steps p.tables e below (T67.setTop (mkF m 169 #[.val (.int p0), .val (.int p1), .val (.int p2), .val (.int p3), .val (.int p4), .val (.int v3), .val (.int v6), .val (.int v9), .val (.int v12), .val (.int v17), .val (.ref b20), .val (.int v54), .val (.int v58)] [(.int v72)])) t := by
      intro t k
      show Steps p.tables e below (T67.setTop (mkF m 169 #[.val (.int p0), .val (.int p1), .val (.int p2), .val (.int p3), .val (.int p4), .val (.int v3), .val (.int v6), .val (.int v9), .val (.int v12), .val (.int v17), .val (.ref b20), .val (.int v54), .val (.int v58)] [(.int v72)])) _
      refine XS.istore X67'.here hx rfl (hb hby at_169) rfl (l' := #[.val (.int p0), .val (.int p1), .val (.int p2), .val (.int p3), .val (.int p4), .val (.int v3), .val (.int v6), .val (.int v9), .val (.int v12), .val (.int v17), .val (.ref b20), .val (.int v72), .val (.int v58)]) rfl ?_
      show Steps p.tables e below (T67.setTop (mkF m 171 #[.val (.int p0), .val (.int p1), .val (.int p2), .val (.int p3), .val (.int p4), .val (.int v3), .val (.int v6), .val (.int v9), .val (.int v12), .val (.int v17), .val (.ref b20), .val (.int v72), .val (.int v58)] [])) _
      refine XS.iload X67'.here hx rfl (hb hby at_171) rfl ?_
      show Steps p.tables e below (T67.setTop (mkF m 173 #[.val (.int p0), .val (.int p1), .val (.int p2), .val (.int p3), .val (.int p4), .val (.int v3), .val (.int v6), .val (.int v9), .val (.int v12), .val (.int v17), .val (.ref b20), .val (.int v72), .val (.int v58)] [(.int v58)])) _
      refine XS.iload X67'.here hx rfl (hb hby at_173) rfl ?_
      exact k
    obtain ⟨_, _, ⟨T75, L75, k75, n75⟩, -, X75, ⟨Lc75, hQ75, l75, y75, z75⟩, st75⟩ := Jvm.LawKit.callS X67' hx (y := (⟨"com/example/tame_markup/tamemarkup/tokenizing/DeclarationEndEndsWithPinLaw", "next", "(II)I"⟩ : MethodName)) hown (mvT hZ (hw _ (List.mem_of_getElem? (i := 23) rfl))) (mvT hZ (hw _ (List.mem_of_getElem? (i := 24) rfl))) (mvT hZ (hw _ (List.mem_of_getElem? (i := 2) rfl))) (mvT hZ (hw _ (List.mem_of_getElem? (i := 25) rfl))) (by decide) (backOf (W := 0) (own_rm6 l Z a0 hw [] v58 v9 T62.heap) hZ (hw _ (List.mem_of_getElem? (i := 25) rfl)) (hw _ (List.mem_of_getElem? (i := 2) rfl)) (by decide) (by decide)) (g := (mkF m 175 #[.val (.int p0), .val (.int p1), .val (.int p2), .val (.int p3), .val (.int p4), .val (.int v3), .val (.int v6), .val (.int v9), .val (.int v12), .val (.int v17), .val (.ref b20), .val (.int v72), .val (.int v58)] [(.int v9), (.int v58)])) rfl (by rw [hml]; rfl) (argsL := [(.int v58), (.int v9)]) (rest := []) (lenOf own_pd4 rfl) rfl (by show 2 * 0 + _ ≤ _; exact Nat.le_of_eq rfl) (hb hby at_175) (fun _ _ => ⟨rfl, e67, (by decide : 1 + 0 ≤ _), (by decide : 1 + 0 ≤ _)⟩)
    dsimp only [Pt.U, Pt.locs, Pt.cells, Pt.slots] at X75 l75 y75 z75 st75 hQ75
    subst y75 z75
    obtain ⟨rfl, rfl, e75⟩ := hQ75
    have X75' : Stand p l e room_1 s m #[(.int p0), (.int p1), (.int p2), (.int p3), (.int p4)] below meth c T75 L62 1 1 := by rw [show L75 = L62 from by rw [l75]; first | rfl | exact List.append_nil _] at X75; exact X75
    obtain ⟨v76, hv76⟩ : ∃ z : Int32, z = (own_F6 v58 v9) := ⟨_, rfl⟩
    rw [← hv76] at st75
    have st77 : ∀ t, Steps p.tables e below (T75.setTop (mkF m 189 #[.val (.int p0), .val (.int p1), .val (.int p2), .val (.int p3), .val (.int p4), .val (.int v3), .val (.int v6), .val (.int v9), .val (.int v12), .val (.int v17), .val (.ref b20), .val (.int v72), .val (.int v76)] [(.int v12), (.ref b20)])) t → Steps p.tables e below (T75.setTop (mkF m 178 #[.val (.int p0), .val (.int p1), .val (.int p2), .val (.int p3), .val (.int p4), .val (.int v3), .val (.int v6), .val (.int v9), .val (.int v12), .val (.int v17), .val (.ref b20), .val (.int v72), .val (.int v58)] [(.int v76)])) t := by
      intro t k
      show Steps p.tables e below (T75.setTop (mkF m 178 #[.val (.int p0), .val (.int p1), .val (.int p2), .val (.int p3), .val (.int p4), .val (.int v3), .val (.int v6), .val (.int v9), .val (.int v12), .val (.int v17), .val (.ref b20), .val (.int v72), .val (.int v58)] [(.int v76)])) _
      refine XS.istore X75'.here hx rfl (hb hby at_178) rfl (l' := #[.val (.int p0), .val (.int p1), .val (.int p2), .val (.int p3), .val (.int p4), .val (.int v3), .val (.int v6), .val (.int v9), .val (.int v12), .val (.int v17), .val (.ref b20), .val (.int v72), .val (.int v76)]) rfl ?_
      show Steps p.tables e below (T75.setTop (mkF m 180 #[.val (.int p0), .val (.int p1), .val (.int p2), .val (.int p3), .val (.int p4), .val (.int v3), .val (.int v6), .val (.int v9), .val (.int v12), .val (.int v17), .val (.ref b20), .val (.int v72), .val (.int v76)] [])) _
      refine XS.iload X75'.here hx rfl (hb hby at_180) rfl ?_
      show Steps p.tables e below (T75.setTop (mkF m 182 #[.val (.int p0), .val (.int p1), .val (.int p2), .val (.int p3), .val (.int p4), .val (.int v3), .val (.int v6), .val (.int v9), .val (.int v12), .val (.int v17), .val (.ref b20), .val (.int v72), .val (.int v76)] [(.int v72)])) _
      refine XS.ifNo X75'.here hx rfl (hb hby at_182) rfl ((if0 _ _).trans (feq (by subst_vars; simp only [own_step, own_says, if_true]; decide : ¬ (v72 = (0 : Int32)))).1) ?_
      show Steps p.tables e below (T75.setTop (mkF m 185 #[.val (.int p0), .val (.int p1), .val (.int p2), .val (.int p3), .val (.int p4), .val (.int v3), .val (.int v6), .val (.int v9), .val (.int v12), .val (.int v17), .val (.ref b20), .val (.int v72), .val (.int v76)] [])) _
      refine XS.aload X75'.here hx rfl (hb hby at_185) rfl rfl ?_
      show Steps p.tables e below (T75.setTop (mkF m 187 #[.val (.int p0), .val (.int p1), .val (.int p2), .val (.int p3), .val (.int p4), .val (.int v3), .val (.int v6), .val (.int v9), .val (.int v12), .val (.int v17), .val (.ref b20), .val (.int v72), .val (.int v76)] [(.ref b20)])) _
      refine XS.iload X75'.here hx rfl (hb hby at_187) rfl ?_
      exact k
    obtain ⟨cq78, kq78, q78a, q78b, q78c⟩ := isOf hZ e75 f63
    obtain ⟨_, _, ⟨T78, L78, k78, n78⟩, -, X78, ⟨Lc78, hQ78, l78, y78, z78⟩, st78⟩ := X75'.virtualBack hx (y := (⟨"com/example/tame_markup/tamemarkup/tokenizing/DeclarationEnd", "endsWith", "(I)Z"⟩ : MethodName)) (z := (⟨"com/example/tame_markup/tamemarkup/tokenizing/DeclarationEnd", "endsWith", "(I)Z"⟩ : MethodName)) hown (mvT hZ (hw _ (List.mem_of_getElem? (i := 13) rfl))) (mvT hZ (hw _ (List.mem_of_getElem? (i := 14) rfl))) (notFace_of_selects (args := #[]) (mvT hZ (hw _ (List.mem_of_getElem? (i := 16) rfl)))) (mvT hZ (hw _ (List.mem_of_getElem? (i := 16) rfl))) (mvT hZ (hw _ (List.mem_of_getElem? (i := 15) rfl))) (by decide) (backOf (W := 0) (own_rm4 l Z a0 hw [] b20 v12 (own_G4_0 v9 (own_G4_0 v6 (own_G4_0 v3 (0 : Int32)))) T62.heap n0 Zp64 f63 Q62_0 g_b20) hZ (hw _ (List.mem_of_getElem? (i := 17) rfl)) (hw _ (List.mem_of_getElem? (i := 6) rfl)) (by decide) (by decide)) q78a q78c (g := (mkF m 189 #[.val (.int p0), .val (.int p1), .val (.int p2), .val (.int p3), .val (.int p4), .val (.int v3), .val (.int v6), .val (.int v9), .val (.int v12), .val (.int v17), .val (.ref b20), .val (.int v72), .val (.int v76)] [(.int v12), (.ref b20)])) rfl (by rw [hml]; rfl) (Steps.refl _) (argsL := [(.int v12)]) (rest := []) (lenOf own_pd2 rfl) rfl (by show 2 * 0 + _ ≤ _; exact Nat.le_of_eq rfl) (hb hby at_189) (fun _ _ => ⟨rfl, e75, (by decide : 1 + 0 ≤ _), (by decide : 1 + 0 ≤ _)⟩)
    dsimp only [Pt.U, Pt.locs, Pt.cells, Pt.slots] at X78 l78 y78 z78 st78 hQ78
    subst y78 z78
    obtain ⟨rfl, Nq78, K78, Q78_0, -⟩ := hQ78
    have N78 : Fr n0 L78 := by rw [l78]; exact Fr.app N62 Nq78
    have X78' : Stand p l e room_1 s m #[(.int p0), (.int p1), (.int p2), (.int p3), (.int p4)] below meth c T78 L78 1 1 := X78
    have f79 : Exa Z T78.heap b20 "com/example/tame_markup/tamemarkup/tokenizing/DeclarationEnd" := f63.keep K78
    have Zp80 : n0 ≤ T78.heap.size := Nat.le_trans Zp64 K78.1
    have st78 : ∀ t, Steps p.tables e below (T78.setTop (mkF m 192 #[.val (.int p0), .val (.int p1), .val (.int p2), .val (.int p3), .val (.int p4), .val (.int v3), .val (.int v6), .val (.int v9), .val (.int v12), .val (.int v17), .val (.ref b20), .val (.int v72), .val (.int v76)] [(.int (own_F4 v12 (own_G4_0 v9 (own_G4_0 v6 (own_G4_0 v3 (0 : Int32))))))])) t → Steps p.tables e below (T75.setTop (mkF m 189 #[.val (.int p0), .val (.int p1), .val (.int p2), .val (.int p3), .val (.int p4), .val (.int v3), .val (.int v6), .val (.int v9), .val (.int v12), .val (.int v17), .val (.ref b20), .val (.int v72), .val (.int v76)] [(.int v12), (.ref b20)])) t := fun t k => st78.trans k
    obtain ⟨v81, hv81⟩ : ∃ z : Int32, z = (own_F4 v12 (own_G4_0 v9 (own_G4_0 v6 (own_G4_0 v3 (0 : Int32))))) := ⟨_, rfl⟩
    rw [← hv81] at st78
    have st82 : ∀ t, Steps p.tables e below (T78.setTop (mkF m 196 #[.val (.int p0), .val (.int p1), .val (.int p2), .val (.int p3), .val (.int p4), .val (.int v3), .val (.int v6), .val (.int v9), .val (.int v12), .val (.int v17), .val (.ref b20), .val (.int v72), .val (.int v76)] [(.int v12), (.int v76), (.int v81)])) t → Steps p.tables e below (T78.setTop (mkF m 192 #[.val (.int p0), .val (.int p1), .val (.int p2), .val (.int p3), .val (.int p4), .val (.int v3), .val (.int v6), .val (.int v9), .val (.int v12), .val (.int v17), .val (.ref b20), .val (.int v72), .val (.int v76)] [(.int v81)])) t := by
      intro t k
      show Steps p.tables e below (T78.setTop (mkF m 192 #[.val (.int p0), .val (.int p1), .val (.int p2), .val (.int p3), .val (.int p4), .val (.int v3), .val (.int v6), .val (.int v9), .val (.int v12), .val (.int v17), .val (.ref b20), .val (.int v72), .val (.int v76)] [(.int v81)])) _
      refine XS.iload X78'.here hx rfl (hb hby at_192) rfl ?_
      show Steps p.tables e below (T78.setTop (mkF m 194 #[.val (.int p0), .val (.int p1), .val (.int p2), .val (.int p3), .val (.int p4), .val (.int v3), .val (.int v6), .val (.int v9), .val (.int v12), .val (.int v17), .val (.ref b20), .val (.int v72), .val (.int v76)] [(.int v76), (.int v81)])) _
      refine XS.iload X78'.here hx rfl (hb hby at_194) rfl ?_
      exact k
    obtain ⟨_, _, ⟨T83, L83, k83, n83⟩, -, X83, ⟨Lc83, hQ83, l83, y83, z83⟩, st83⟩ := Jvm.LawKit.callS X78' hx (y := (⟨"com/example/tame_markup/tamemarkup/tokenizing/DeclarationEndEndsWithPinLaw", "expectEnds", "(II)Z"⟩ : MethodName)) hown (mvT hZ (hw _ (List.mem_of_getElem? (i := 20) rfl))) (mvT hZ (hw _ (List.mem_of_getElem? (i := 21) rfl))) (mvT hZ (hw _ (List.mem_of_getElem? (i := 2) rfl))) (mvT hZ (hw _ (List.mem_of_getElem? (i := 22) rfl))) (by decide) (backOf (W := 1) (own_rm5 l Z a0 hw [] v76 v12 T78.heap) hZ (hw _ (List.mem_of_getElem? (i := 22) rfl)) (hw _ (List.mem_of_getElem? (i := 2) rfl)) (by decide) (by decide)) (g := (mkF m 196 #[.val (.int p0), .val (.int p1), .val (.int p2), .val (.int p3), .val (.int p4), .val (.int v3), .val (.int v6), .val (.int v9), .val (.int v12), .val (.int v17), .val (.ref b20), .val (.int v72), .val (.int v76)] [(.int v12), (.int v76), (.int v81)])) rfl (by rw [hml]; rfl) (argsL := [(.int v76), (.int v12)]) (rest := [(.int v81)]) (lenOf own_pd3 rfl) rfl (by show 2 * 0 + _ ≤ _; exact Nat.le_of_eq rfl) (hb hby at_196) (fun _ _ => ⟨rfl, (rfl : T78.heap = T78.heap), (by decide : 1 + 0 ≤ _), (by decide : 1 + 0 ≤ _)⟩)
    dsimp only [Pt.U, Pt.locs, Pt.cells, Pt.slots] at X83 l83 y83 z83 st83 hQ83
    subst y83 z83
    obtain ⟨rfl, rfl, e83⟩ := hQ83
    have X83' : Stand p l e room_1 s m #[(.int p0), (.int p1), (.int p2), (.int p3), (.int p4)] below meth c T83 L78 1 1 := by rw [show L83 = L78 from by rw [l83]; first | rfl | exact List.append_nil _] at X83; exact X83
    obtain ⟨v84, hv84⟩ : ∃ z : Int32, z = (own_F5 v76 v12) := ⟨_, rfl⟩
    rw [← hv84] at st83
    obtain ⟨v88, hv88⟩ : ∃ z : Int32, z = (if v81 = v84 then (1 : Int32) else (0 : Int32)) := ⟨_, rfl⟩
    have st89 : ∀ t, Steps p.tables e below (T83.setTop (mkF m 207 #[.val (.int p0), .val (.int p1), .val (.int p2), .val (.int p3), .val (.int p4), .val (.int v3), .val (.int v6), .val (.int v9), .val (.int v12), .val (.int v17), .val (.ref b20), .val (.int v72), .val (.int v76)] [(.int v88)])) t → Steps p.tables e below (T83.setTop (mkF m 199 #[.val (.int p0), .val (.int p1), .val (.int p2), .val (.int p3), .val (.int p4), .val (.int v3), .val (.int v6), .val (.int v9), .val (.int v12), .val (.int v17), .val (.ref b20), .val (.int v72), .val (.int v76)] [(.int v84), (.int v81)])) t := by
      rw [hv88]
      by_cases hc199_85 : v81 = v84
      · repeat rw [if_pos hc199_85]
        have st86 : ∀ t, Steps p.tables e below (T83.setTop (mkF m 207 #[.val (.int p0), .val (.int p1), .val (.int p2), .val (.int p3), .val (.int p4), .val (.int v3), .val (.int v6), .val (.int v9), .val (.int v12), .val (.int v17), .val (.ref b20), .val (.int v72), .val (.int v76)] [(.int (1 : Int32))])) t → Steps p.tables e below (T83.setTop (mkF m 199 #[.val (.int p0), .val (.int p1), .val (.int p2), .val (.int p3), .val (.int p4), .val (.int v3), .val (.int v6), .val (.int v9), .val (.int v12), .val (.int v17), .val (.ref b20), .val (.int v72), .val (.int v76)] [(.int v84), (.int v81)])) t := by
          intro t k
          show Steps p.tables e below (T83.setTop (mkF m 199 #[.val (.int p0), .val (.int p1), .val (.int p2), .val (.int p3), .val (.int p4), .val (.int v3), .val (.int v6), .val (.int v9), .val (.int v12), .val (.int v17), .val (.ref b20), .val (.int v72), .val (.int v76)] [(.int v84), (.int v81)])) _
          refine XS.icmpNo X83'.here hx rfl (hb hby at_199) rfl (teq hc199_85).2 ?_
          show Steps p.tables e below (T83.setTop (mkF m 202 #[.val (.int p0), .val (.int p1), .val (.int p2), .val (.int p3), .val (.int p4), .val (.int v3), .val (.int v6), .val (.int v9), .val (.int v12), .val (.int v17), .val (.ref b20), .val (.int v72), .val (.int v76)] [])) _
          refine XS.iconst X83'.here hx rfl (hb hby at_202) ?_
          show Steps p.tables e below (T83.setTop (mkF m 203 #[.val (.int p0), .val (.int p1), .val (.int p2), .val (.int p3), .val (.int p4), .val (.int v3), .val (.int v6), .val (.int v9), .val (.int v12), .val (.int v17), .val (.ref b20), .val (.int v72), .val (.int v76)] [(.int (1 : Int32))])) _
          refine XS.goto X83'.here hx rfl (pc0 := 203) (pc' := 207) rfl (hb hby at_203) (by decide) (by decide) ?_
          exact k
        exact fun t k => st86 _ k
      · repeat rw [if_neg hc199_85]
        have st87 : ∀ t, Steps p.tables e below (T83.setTop (mkF m 207 #[.val (.int p0), .val (.int p1), .val (.int p2), .val (.int p3), .val (.int p4), .val (.int v3), .val (.int v6), .val (.int v9), .val (.int v12), .val (.int v17), .val (.ref b20), .val (.int v72), .val (.int v76)] [(.int (0 : Int32))])) t → Steps p.tables e below (T83.setTop (mkF m 199 #[.val (.int p0), .val (.int p1), .val (.int p2), .val (.int p3), .val (.int p4), .val (.int v3), .val (.int v6), .val (.int v9), .val (.int v12), .val (.int v17), .val (.ref b20), .val (.int v72), .val (.int v76)] [(.int v84), (.int v81)])) t := by
          intro t k
          show Steps p.tables e below (T83.setTop (mkF m 199 #[.val (.int p0), .val (.int p1), .val (.int p2), .val (.int p3), .val (.int p4), .val (.int v3), .val (.int v6), .val (.int v9), .val (.int v12), .val (.int v17), .val (.ref b20), .val (.int v72), .val (.int v76)] [(.int v84), (.int v81)])) _
          refine XS.icmpYes X83'.here hx rfl (pc0 := 199) (pc' := 206) rfl (hb hby at_199) rfl (feq hc199_85).2 (by decide) (by decide) ?_
          show Steps p.tables e below (T83.setTop (mkF m 206 #[.val (.int p0), .val (.int p1), .val (.int p2), .val (.int p3), .val (.int p4), .val (.int v3), .val (.int v6), .val (.int v9), .val (.int v12), .val (.int v17), .val (.ref b20), .val (.int v72), .val (.int v76)] [])) _
          refine XS.iconst X83'.here hx rfl (hb hby at_206) ?_
          exact k
        exact fun t k => st87 _ k
    have st90 : ∀ t, Steps p.tables e below (T83.setTop (mkF m 211 #[.val (.int p0), .val (.int p1), .val (.int p2), .val (.int p3), .val (.int p4), .val (.int v3), .val (.int v6), .val (.int v9), .val (.int v12), .val (.int v17), .val (.ref b20), .val (.int v88), .val (.int v76)] [(.int v88)])) t → Steps p.tables e below (T83.setTop (mkF m 207 #[.val (.int p0), .val (.int p1), .val (.int p2), .val (.int p3), .val (.int p4), .val (.int v3), .val (.int v6), .val (.int v9), .val (.int v12), .val (.int v17), .val (.ref b20), .val (.int v72), .val (.int v76)] [(.int v88)])) t := by
      intro t k
      show Steps p.tables e below (T83.setTop (mkF m 207 #[.val (.int p0), .val (.int p1), .val (.int p2), .val (.int p3), .val (.int p4), .val (.int v3), .val (.int v6), .val (.int v9), .val (.int v12), .val (.int v17), .val (.ref b20), .val (.int v72), .val (.int v76)] [(.int v88)])) _
      refine XS.istore X83'.here hx rfl (hb hby at_207) rfl (l' := #[.val (.int p0), .val (.int p1), .val (.int p2), .val (.int p3), .val (.int p4), .val (.int v3), .val (.int v6), .val (.int v9), .val (.int v12), .val (.int v17), .val (.ref b20), .val (.int v88), .val (.int v76)]) rfl ?_
      show Steps p.tables e below (T83.setTop (mkF m 209 #[.val (.int p0), .val (.int p1), .val (.int p2), .val (.int p3), .val (.int p4), .val (.int v3), .val (.int v6), .val (.int v9), .val (.int v12), .val (.int v17), .val (.ref b20), .val (.int v88), .val (.int v76)] [])) _
      refine XS.iload X83'.here hx rfl (hb hby at_209) rfl ?_
      exact k
    refine own_End.go (fun t k => st61 _ (st62 _ (st66 _ (st67 _ (st73 _ (st74 _ (st75 _ (st77 _ (st78 _ (st82 _ (st83 _ (st89 _ (st90 _ k))))))))))))) ?_
    exact own_leafN X83' hx Bd.notSynchronized (t := .boolean) Bd.returns (by simp) (hb hby at_211) ⟨congrArg (fun z => some (Value.int z)) (by
        subst hv3 hv6 hv9 hv12 hv17 hv31 hv34 hv38 hv42 hv47 hv50 hv54 hv58 hv65 hv68 hv72 hv76 hv81 hv84 hv88; simp only [own_F0, own_nb0, own_nb1, if_pos hc131_60]), N78⟩ (by decide) (by decide)
  · have st91 : ∀ t, Steps p.tables e below (T57.setTop (mkF m 136 #[.val (.int p0), .val (.int p1), .val (.int p2), .val (.int p3), .val (.int p4), .val (.int v3), .val (.int v6), .val (.int v9), .val (.int v12), .val (.int v17), .val (.ref b20), .val (.int v54), .val (.int v58)] [(.ref b20)])) t → Steps p.tables e below (T57.setTop (mkF m 131 #[.val (.int p0), .val (.int p1), .val (.int p2), .val (.int p3), .val (.int p4), .val (.int v3), .val (.int v6), .val (.int v9), .val (.int v12), .val (.int v17), .val (.ref b20), .val (.int v54), .val (.int v58)] [(.int v17)])) t := by
      intro t k
      show Steps p.tables e below (T57.setTop (mkF m 131 #[.val (.int p0), .val (.int p1), .val (.int p2), .val (.int p3), .val (.int p4), .val (.int v3), .val (.int v6), .val (.int v9), .val (.int v12), .val (.int v17), .val (.ref b20), .val (.int v54), .val (.int v58)] [(.int v17)])) _
      refine XS.ifNo X57'.here hx rfl (hb hby at_131) rfl ((if0 _ _).trans (feq hc131_60).1) ?_
      show Steps p.tables e below (T57.setTop (mkF m 134 #[.val (.int p0), .val (.int p1), .val (.int p2), .val (.int p3), .val (.int p4), .val (.int v3), .val (.int v6), .val (.int v9), .val (.int v12), .val (.int v17), .val (.ref b20), .val (.int v54), .val (.int v58)] [])) _
      refine XS.aload X57'.here hx rfl (hb hby at_134) rfl rfl ?_
      exact k
    obtain ⟨cq92, kq92, q92a, q92b, q92c⟩ := isOf hZ e57 f45
    obtain ⟨_, _, ⟨T92, L92, k92, n92⟩, -, X92, ⟨Lc92, hQ92, l92, y92, z92⟩, st92⟩ := X57'.virtualBack hx (y := (⟨"com/example/tame_markup/tamemarkup/tokenizing/DeclarationEnd", "restart", "()V"⟩ : MethodName)) (z := (⟨"com/example/tame_markup/tamemarkup/tokenizing/DeclarationEnd", "restart", "()V"⟩ : MethodName)) hown (mvT hZ (hw _ (List.mem_of_getElem? (i := 26) rfl))) (mvT hZ (hw _ (List.mem_of_getElem? (i := 27) rfl))) (notFace_of_selects (args := #[]) (mvT hZ (hw _ (List.mem_of_getElem? (i := 29) rfl)))) (mvT hZ (hw _ (List.mem_of_getElem? (i := 29) rfl))) (mvT hZ (hw _ (List.mem_of_getElem? (i := 28) rfl))) (by decide) (backOf (W := 0) (own_rm7 l Z a0 hw [] b20 (own_G4_0 v6 (own_G4_0 v3 (0 : Int32))) T44.heap n0 Zp46 f45 Q44_0 g_b20) hZ (hw _ (List.mem_of_getElem? (i := 30) rfl)) (hw _ (List.mem_of_getElem? (i := 6) rfl)) (by decide) (by decide)) q92a q92c (g := (mkF m 136 #[.val (.int p0), .val (.int p1), .val (.int p2), .val (.int p3), .val (.int p4), .val (.int v3), .val (.int v6), .val (.int v9), .val (.int v12), .val (.int v17), .val (.ref b20), .val (.int v54), .val (.int v58)] [(.ref b20)])) rfl (by rw [hml]; rfl) (Steps.refl _) (argsL := []) (rest := []) (lenOf own_pd1 rfl) rfl (by show 2 * 0 + _ ≤ _; exact Nat.le_of_eq rfl) (hb hby at_136) (fun _ _ => ⟨rfl, e57, (by decide : 1 + 0 ≤ _), (by decide : 1 + 0 ≤ _)⟩)
    dsimp only [Pt.U, Pt.locs, Pt.cells, Pt.slots] at X92 l92 y92 z92 st92 hQ92
    subst y92 z92
    obtain ⟨rfl, Nq92, K92, Q92_0, -⟩ := hQ92
    have N92 : Fr n0 L92 := by rw [l92]; exact Fr.app N44 Nq92
    have X92' : Stand p l e room_1 s m #[(.int p0), (.int p1), (.int p2), (.int p3), (.int p4)] below meth c T92 L92 1 1 := X92
    have f93 : Exa Z T92.heap b20 "com/example/tame_markup/tamemarkup/tokenizing/DeclarationEnd" := f45.keep K92
    have Zp94 : n0 ≤ T92.heap.size := Nat.le_trans Zp46 K92.1
    have st92 : ∀ t, Steps p.tables e below (T92.setTop (mkF m 139 #[.val (.int p0), .val (.int p1), .val (.int p2), .val (.int p3), .val (.int p4), .val (.int v3), .val (.int v6), .val (.int v9), .val (.int v12), .val (.int v17), .val (.ref b20), .val (.int v54), .val (.int v58)] [])) t → Steps p.tables e below (T57.setTop (mkF m 136 #[.val (.int p0), .val (.int p1), .val (.int p2), .val (.int p3), .val (.int p4), .val (.int v3), .val (.int v6), .val (.int v9), .val (.int v12), .val (.int v17), .val (.ref b20), .val (.int v54), .val (.int v58)] [(.ref b20)])) t := fun t k => st92.trans k
    have st95 : ∀ t, Steps p.tables e below (T92.setTop (mkF m 151 #[.val (.int p0), .val (.int p1), .val (.int p2), .val (.int p3), .val (.int p4), .val (.int v3), .val (.int v6), .val (.int v9), .val (.int v12), .val (.int v17), .val (.ref b20), .val (.int v54), .val (.int (0 : Int32))] [(.int v9), (.ref b20)])) t → Steps p.tables e below (T92.setTop (mkF m 139 #[.val (.int p0), .val (.int p1), .val (.int p2), .val (.int p3), .val (.int p4), .val (.int v3), .val (.int v6), .val (.int v9), .val (.int v12), .val (.int v17), .val (.ref b20), .val (.int v54), .val (.int v58)] [])) t := by
      intro t k
      show Steps p.tables e below (T92.setTop (mkF m 139 #[.val (.int p0), .val (.int p1), .val (.int p2), .val (.int p3), .val (.int p4), .val (.int v3), .val (.int v6), .val (.int v9), .val (.int v12), .val (.int v17), .val (.ref b20), .val (.int v54), .val (.int v58)] [])) _
      refine XS.iconst X92'.here hx rfl (hb hby at_139) ?_
      show Steps p.tables e below (T92.setTop (mkF m 140 #[.val (.int p0), .val (.int p1), .val (.int p2), .val (.int p3), .val (.int p4), .val (.int v3), .val (.int v6), .val (.int v9), .val (.int v12), .val (.int v17), .val (.ref b20), .val (.int v54), .val (.int v58)] [(.int (0 : Int32))])) _
      refine XS.istore X92'.here hx rfl (hb hby at_140) rfl (l' := #[.val (.int p0), .val (.int p1), .val (.int p2), .val (.int p3), .val (.int p4), .val (.int v3), .val (.int v6), .val (.int v9), .val (.int v12), .val (.int v17), .val (.ref b20), .val (.int v54), .val (.int (0 : Int32))]) rfl ?_
      show Steps p.tables e below (T92.setTop (mkF m 142 #[.val (.int p0), .val (.int p1), .val (.int p2), .val (.int p3), .val (.int p4), .val (.int v3), .val (.int v6), .val (.int v9), .val (.int v12), .val (.int v17), .val (.ref b20), .val (.int v54), .val (.int (0 : Int32))] [])) _
      refine XS.iload X92'.here hx rfl (hb hby at_142) rfl ?_
      show Steps p.tables e below (T92.setTop (mkF m 144 #[.val (.int p0), .val (.int p1), .val (.int p2), .val (.int p3), .val (.int p4), .val (.int v3), .val (.int v6), .val (.int v9), .val (.int v12), .val (.int v17), .val (.ref b20), .val (.int v54), .val (.int (0 : Int32))] [(.int v54)])) _
      refine XS.ifNo X92'.here hx rfl (hb hby at_144) rfl ((if0 _ _).trans (feq (by subst_vars; simp only [own_step, own_says, if_true]; decide : ¬ (v54 = (0 : Int32)))).1) ?_
      show Steps p.tables e below (T92.setTop (mkF m 147 #[.val (.int p0), .val (.int p1), .val (.int p2), .val (.int p3), .val (.int p4), .val (.int v3), .val (.int v6), .val (.int v9), .val (.int v12), .val (.int v17), .val (.ref b20), .val (.int v54), .val (.int (0 : Int32))] [])) _
      refine XS.aload X92'.here hx rfl (hb hby at_147) rfl rfl ?_
      show Steps p.tables e below (T92.setTop (mkF m 149 #[.val (.int p0), .val (.int p1), .val (.int p2), .val (.int p3), .val (.int p4), .val (.int v3), .val (.int v6), .val (.int v9), .val (.int v12), .val (.int v17), .val (.ref b20), .val (.int v54), .val (.int (0 : Int32))] [(.ref b20)])) _
      refine XS.iload X92'.here hx rfl (hb hby at_149) rfl ?_
      exact k
    obtain ⟨cq96, kq96, q96a, q96b, q96c⟩ := isOf hZ (rfl : T92.heap = T92.heap) f93
    obtain ⟨_, _, ⟨T96, L96, k96, n96⟩, -, X96, ⟨Lc96, hQ96, l96, y96, z96⟩, st96⟩ := X92'.virtualBack hx (y := (⟨"com/example/tame_markup/tamemarkup/tokenizing/DeclarationEnd", "endsWith", "(I)Z"⟩ : MethodName)) (z := (⟨"com/example/tame_markup/tamemarkup/tokenizing/DeclarationEnd", "endsWith", "(I)Z"⟩ : MethodName)) hown (mvT hZ (hw _ (List.mem_of_getElem? (i := 13) rfl))) (mvT hZ (hw _ (List.mem_of_getElem? (i := 14) rfl))) (notFace_of_selects (args := #[]) (mvT hZ (hw _ (List.mem_of_getElem? (i := 16) rfl)))) (mvT hZ (hw _ (List.mem_of_getElem? (i := 16) rfl))) (mvT hZ (hw _ (List.mem_of_getElem? (i := 15) rfl))) (by decide) (backOf (W := 0) (own_rm4 l Z a0 hw [] b20 v9 (0 : Int32) T92.heap n0 Zp94 f93 Q92_0 g_b20) hZ (hw _ (List.mem_of_getElem? (i := 17) rfl)) (hw _ (List.mem_of_getElem? (i := 6) rfl)) (by decide) (by decide)) q96a q96c (g := (mkF m 151 #[.val (.int p0), .val (.int p1), .val (.int p2), .val (.int p3), .val (.int p4), .val (.int v3), .val (.int v6), .val (.int v9), .val (.int v12), .val (.int v17), .val (.ref b20), .val (.int v54), .val (.int (0 : Int32))] [(.int v9), (.ref b20)])) rfl (by rw [hml]; rfl) (Steps.refl _) (argsL := [(.int v9)]) (rest := []) (lenOf own_pd2 rfl) rfl (by show 2 * 0 + _ ≤ _; exact Nat.le_of_eq rfl) (hb hby at_151) (fun _ _ => ⟨rfl, (rfl : T92.heap = T92.heap), (by decide : 1 + 0 ≤ _), (by decide : 1 + 0 ≤ _)⟩)
    dsimp only [Pt.U, Pt.locs, Pt.cells, Pt.slots] at X96 l96 y96 z96 st96 hQ96
    subst y96 z96
    obtain ⟨rfl, Nq96, K96, Q96_0, -⟩ := hQ96
    have N96 : Fr n0 L96 := by rw [l96]; exact Fr.app N92 Nq96
    have X96' : Stand p l e room_1 s m #[(.int p0), (.int p1), (.int p2), (.int p3), (.int p4)] below meth c T96 L96 1 1 := X96
    have f97 : Exa Z T96.heap b20 "com/example/tame_markup/tamemarkup/tokenizing/DeclarationEnd" := f93.keep K96
    have Zp98 : n0 ≤ T96.heap.size := Nat.le_trans Zp94 K96.1
    have st96 : ∀ t, Steps p.tables e below (T96.setTop (mkF m 154 #[.val (.int p0), .val (.int p1), .val (.int p2), .val (.int p3), .val (.int p4), .val (.int v3), .val (.int v6), .val (.int v9), .val (.int v12), .val (.int v17), .val (.ref b20), .val (.int v54), .val (.int (0 : Int32))] [(.int (own_F4 v9 (0 : Int32)))])) t → Steps p.tables e below (T92.setTop (mkF m 151 #[.val (.int p0), .val (.int p1), .val (.int p2), .val (.int p3), .val (.int p4), .val (.int v3), .val (.int v6), .val (.int v9), .val (.int v12), .val (.int v17), .val (.ref b20), .val (.int v54), .val (.int (0 : Int32))] [(.int v9), (.ref b20)])) t := fun t k => st96.trans k
    obtain ⟨v99, hv99⟩ : ∃ z : Int32, z = (own_F4 v9 (0 : Int32)) := ⟨_, rfl⟩
    rw [← hv99] at st96
    have st100 : ∀ t, Steps p.tables e below (T96.setTop (mkF m 158 #[.val (.int p0), .val (.int p1), .val (.int p2), .val (.int p3), .val (.int p4), .val (.int v3), .val (.int v6), .val (.int v9), .val (.int v12), .val (.int v17), .val (.ref b20), .val (.int v54), .val (.int (0 : Int32))] [(.int v9), (.int (0 : Int32)), (.int v99)])) t → Steps p.tables e below (T96.setTop (mkF m 154 #[.val (.int p0), .val (.int p1), .val (.int p2), .val (.int p3), .val (.int p4), .val (.int v3), .val (.int v6), .val (.int v9), .val (.int v12), .val (.int v17), .val (.ref b20), .val (.int v54), .val (.int (0 : Int32))] [(.int v99)])) t := by
      intro t k
      show Steps p.tables e below (T96.setTop (mkF m 154 #[.val (.int p0), .val (.int p1), .val (.int p2), .val (.int p3), .val (.int p4), .val (.int v3), .val (.int v6), .val (.int v9), .val (.int v12), .val (.int v17), .val (.ref b20), .val (.int v54), .val (.int (0 : Int32))] [(.int v99)])) _
      refine XS.iload X96'.here hx rfl (hb hby at_154) rfl ?_
      show Steps p.tables e below (T96.setTop (mkF m 156 #[.val (.int p0), .val (.int p1), .val (.int p2), .val (.int p3), .val (.int p4), .val (.int v3), .val (.int v6), .val (.int v9), .val (.int v12), .val (.int v17), .val (.ref b20), .val (.int v54), .val (.int (0 : Int32))] [(.int (0 : Int32)), (.int v99)])) _
      refine XS.iload X96'.here hx rfl (hb hby at_156) rfl ?_
      exact k
    obtain ⟨_, _, ⟨T101, L101, k101, n101⟩, -, X101, ⟨Lc101, hQ101, l101, y101, z101⟩, st101⟩ := Jvm.LawKit.callS X96' hx (y := (⟨"com/example/tame_markup/tamemarkup/tokenizing/DeclarationEndEndsWithPinLaw", "expectEnds", "(II)Z"⟩ : MethodName)) hown (mvT hZ (hw _ (List.mem_of_getElem? (i := 20) rfl))) (mvT hZ (hw _ (List.mem_of_getElem? (i := 21) rfl))) (mvT hZ (hw _ (List.mem_of_getElem? (i := 2) rfl))) (mvT hZ (hw _ (List.mem_of_getElem? (i := 22) rfl))) (by decide) (backOf (W := 1) (own_rm5 l Z a0 hw [] (0 : Int32) v9 T96.heap) hZ (hw _ (List.mem_of_getElem? (i := 22) rfl)) (hw _ (List.mem_of_getElem? (i := 2) rfl)) (by decide) (by decide)) (g := (mkF m 158 #[.val (.int p0), .val (.int p1), .val (.int p2), .val (.int p3), .val (.int p4), .val (.int v3), .val (.int v6), .val (.int v9), .val (.int v12), .val (.int v17), .val (.ref b20), .val (.int v54), .val (.int (0 : Int32))] [(.int v9), (.int (0 : Int32)), (.int v99)])) rfl (by rw [hml]; rfl) (argsL := [(.int (0 : Int32)), (.int v9)]) (rest := [(.int v99)]) (lenOf own_pd3 rfl) rfl (by show 2 * 0 + _ ≤ _; exact Nat.le_of_eq rfl) (hb hby at_158) (fun _ _ => ⟨rfl, (rfl : T96.heap = T96.heap), (by decide : 1 + 0 ≤ _), (by decide : 1 + 0 ≤ _)⟩)
    dsimp only [Pt.U, Pt.locs, Pt.cells, Pt.slots] at X101 l101 y101 z101 st101 hQ101
    subst y101 z101
    obtain ⟨rfl, rfl, e101⟩ := hQ101
    have X101' : Stand p l e room_1 s m #[(.int p0), (.int p1), (.int p2), (.int p3), (.int p4)] below meth c T101 L96 1 1 := by rw [show L101 = L96 from by rw [l101]; first | rfl | exact List.append_nil _] at X101; exact X101
    obtain ⟨v102, hv102⟩ : ∃ z : Int32, z = (own_F5 (0 : Int32) v9) := ⟨_, rfl⟩
    rw [← hv102] at st101
    obtain ⟨v106, hv106⟩ : ∃ z : Int32, z = (if v99 = v102 then (1 : Int32) else (0 : Int32)) := ⟨_, rfl⟩
    have st107 : ∀ t, Steps p.tables e below (T101.setTop (mkF m 169 #[.val (.int p0), .val (.int p1), .val (.int p2), .val (.int p3), .val (.int p4), .val (.int v3), .val (.int v6), .val (.int v9), .val (.int v12), .val (.int v17), .val (.ref b20), .val (.int v54), .val (.int (0 : Int32))] [(.int v106)])) t → Steps p.tables e below (T101.setTop (mkF m 161 #[.val (.int p0), .val (.int p1), .val (.int p2), .val (.int p3), .val (.int p4), .val (.int v3), .val (.int v6), .val (.int v9), .val (.int v12), .val (.int v17), .val (.ref b20), .val (.int v54), .val (.int (0 : Int32))] [(.int v102), (.int v99)])) t := by
      rw [hv106]
      by_cases hc161_103 : v99 = v102
      · repeat rw [if_pos hc161_103]
        have st104 : ∀ t, Steps p.tables e below (T101.setTop (mkF m 169 #[.val (.int p0), .val (.int p1), .val (.int p2), .val (.int p3), .val (.int p4), .val (.int v3), .val (.int v6), .val (.int v9), .val (.int v12), .val (.int v17), .val (.ref b20), .val (.int v54), .val (.int (0 : Int32))] [(.int (1 : Int32))])) t → Steps p.tables e below (T101.setTop (mkF m 161 #[.val (.int p0), .val (.int p1), .val (.int p2), .val (.int p3), .val (.int p4), .val (.int v3), .val (.int v6), .val (.int v9), .val (.int v12), .val (.int v17), .val (.ref b20), .val (.int v54), .val (.int (0 : Int32))] [(.int v102), (.int v99)])) t := by
          intro t k
          show Steps p.tables e below (T101.setTop (mkF m 161 #[.val (.int p0), .val (.int p1), .val (.int p2), .val (.int p3), .val (.int p4), .val (.int v3), .val (.int v6), .val (.int v9), .val (.int v12), .val (.int v17), .val (.ref b20), .val (.int v54), .val (.int (0 : Int32))] [(.int v102), (.int v99)])) _
          refine XS.icmpNo X101'.here hx rfl (hb hby at_161) rfl (teq hc161_103).2 ?_
          show Steps p.tables e below (T101.setTop (mkF m 164 #[.val (.int p0), .val (.int p1), .val (.int p2), .val (.int p3), .val (.int p4), .val (.int v3), .val (.int v6), .val (.int v9), .val (.int v12), .val (.int v17), .val (.ref b20), .val (.int v54), .val (.int (0 : Int32))] [])) _
          refine XS.iconst X101'.here hx rfl (hb hby at_164) ?_
          show Steps p.tables e below (T101.setTop (mkF m 165 #[.val (.int p0), .val (.int p1), .val (.int p2), .val (.int p3), .val (.int p4), .val (.int v3), .val (.int v6), .val (.int v9), .val (.int v12), .val (.int v17), .val (.ref b20), .val (.int v54), .val (.int (0 : Int32))] [(.int (1 : Int32))])) _
          refine XS.goto X101'.here hx rfl (pc0 := 165) (pc' := 169) rfl (hb hby at_165) (by decide) (by decide) ?_
          exact k
        exact fun t k => st104 _ k
      · repeat rw [if_neg hc161_103]
        have st105 : ∀ t, Steps p.tables e below (T101.setTop (mkF m 169 #[.val (.int p0), .val (.int p1), .val (.int p2), .val (.int p3), .val (.int p4), .val (.int v3), .val (.int v6), .val (.int v9), .val (.int v12), .val (.int v17), .val (.ref b20), .val (.int v54), .val (.int (0 : Int32))] [(.int (0 : Int32))])) t → Steps p.tables e below (T101.setTop (mkF m 161 #[.val (.int p0), .val (.int p1), .val (.int p2), .val (.int p3), .val (.int p4), .val (.int v3), .val (.int v6), .val (.int v9), .val (.int v12), .val (.int v17), .val (.ref b20), .val (.int v54), .val (.int (0 : Int32))] [(.int v102), (.int v99)])) t := by
          intro t k
          show Steps p.tables e below (T101.setTop (mkF m 161 #[.val (.int p0), .val (.int p1), .val (.int p2), .val (.int p3), .val (.int p4), .val (.int v3), .val (.int v6), .val (.int v9), .val (.int v12), .val (.int v17), .val (.ref b20), .val (.int v54), .val (.int (0 : Int32))] [(.int v102), (.int v99)])) _
          refine XS.icmpYes X101'.here hx rfl (pc0 := 161) (pc' := 168) rfl (hb hby at_161) rfl (feq hc161_103).2 (by decide) (by decide) ?_
          show Steps p.tables e below (T101.setTop (mkF m 168 #[.val (.int p0), .val (.int p1), .val (.int p2), .val (.int p3), .val (.int p4), .val (.int v3), .val (.int v6), .val (.int v9), .val (.int v12), .val (.int v17), .val (.ref b20), .val (.int v54), .val (.int (0 : Int32))] [])) _
          refine XS.iconst X101'.here hx rfl (hb hby at_168) ?_
          exact k
        exact fun t k => st105 _ k
    have st108 : ∀ t, Steps p.tables e below (T101.setTop (mkF m 175 #[.val (.int p0), .val (.int p1), .val (.int p2), .val (.int p3), .val (.int p4), .val (.int v3), .val (.int v6), .val (.int v9), .val (.int v12), .val (.int v17), .val (.ref b20), .val (.int v106), .val (.int (0 : Int32))] [(.int v9), (.int (0 : Int32))])) t → Steps p.tables e below (T101.setTop (mkF m 169 #[.val (.int p0), .val (.int p1), .val (.int p2), .val (.int p3), .val (.int p4), .val (.int v3), .val (.int v6), .val (.int v9), .val (.int v12), .val (.int v17), .val (.ref b20), .val (.int v54), .val (.int (0 : Int32))] [(.int v106)])) t := by
      intro t k
      show Steps p.tables e below (T101.setTop (mkF m 169 #[.val (.int p0), .val (.int p1), .val (.int p2), .val (.int p3), .val (.int p4), .val (.int v3), .val (.int v6), .val (.int v9), .val (.int v12), .val (.int v17), .val (.ref b20), .val (.int v54), .val (.int (0 : Int32))] [(.int v106)])) _
      refine XS.istore X101'.here hx rfl (hb hby at_169) rfl (l' := #[.val (.int p0), .val (.int p1), .val (.int p2), .val (.int p3), .val (.int p4), .val (.int v3), .val (.int v6), .val (.int v9), .val (.int v12), .val (.int v17), .val (.ref b20), .val (.int v106), .val (.int (0 : Int32))]) rfl ?_
      show Steps p.tables e below (T101.setTop (mkF m 171 #[.val (.int p0), .val (.int p1), .val (.int p2), .val (.int p3), .val (.int p4), .val (.int v3), .val (.int v6), .val (.int v9), .val (.int v12), .val (.int v17), .val (.ref b20), .val (.int v106), .val (.int (0 : Int32))] [])) _
      refine XS.iload X101'.here hx rfl (hb hby at_171) rfl ?_
      show Steps p.tables e below (T101.setTop (mkF m 173 #[.val (.int p0), .val (.int p1), .val (.int p2), .val (.int p3), .val (.int p4), .val (.int v3), .val (.int v6), .val (.int v9), .val (.int v12), .val (.int v17), .val (.ref b20), .val (.int v106), .val (.int (0 : Int32))] [(.int (0 : Int32))])) _
      refine XS.iload X101'.here hx rfl (hb hby at_173) rfl ?_
      exact k
    obtain ⟨_, _, ⟨T109, L109, k109, n109⟩, -, X109, ⟨Lc109, hQ109, l109, y109, z109⟩, st109⟩ := Jvm.LawKit.callS X101' hx (y := (⟨"com/example/tame_markup/tamemarkup/tokenizing/DeclarationEndEndsWithPinLaw", "next", "(II)I"⟩ : MethodName)) hown (mvT hZ (hw _ (List.mem_of_getElem? (i := 23) rfl))) (mvT hZ (hw _ (List.mem_of_getElem? (i := 24) rfl))) (mvT hZ (hw _ (List.mem_of_getElem? (i := 2) rfl))) (mvT hZ (hw _ (List.mem_of_getElem? (i := 25) rfl))) (by decide) (backOf (W := 0) (own_rm6 l Z a0 hw [] (0 : Int32) v9 T96.heap) hZ (hw _ (List.mem_of_getElem? (i := 25) rfl)) (hw _ (List.mem_of_getElem? (i := 2) rfl)) (by decide) (by decide)) (g := (mkF m 175 #[.val (.int p0), .val (.int p1), .val (.int p2), .val (.int p3), .val (.int p4), .val (.int v3), .val (.int v6), .val (.int v9), .val (.int v12), .val (.int v17), .val (.ref b20), .val (.int v106), .val (.int (0 : Int32))] [(.int v9), (.int (0 : Int32))])) rfl (by rw [hml]; rfl) (argsL := [(.int (0 : Int32)), (.int v9)]) (rest := []) (lenOf own_pd4 rfl) rfl (by show 2 * 0 + _ ≤ _; exact Nat.le_of_eq rfl) (hb hby at_175) (fun _ _ => ⟨rfl, e101, (by decide : 1 + 0 ≤ _), (by decide : 1 + 0 ≤ _)⟩)
    dsimp only [Pt.U, Pt.locs, Pt.cells, Pt.slots] at X109 l109 y109 z109 st109 hQ109
    subst y109 z109
    obtain ⟨rfl, rfl, e109⟩ := hQ109
    have X109' : Stand p l e room_1 s m #[(.int p0), (.int p1), (.int p2), (.int p3), (.int p4)] below meth c T109 L96 1 1 := by rw [show L109 = L96 from by rw [l109]; first | rfl | exact List.append_nil _] at X109; exact X109
    obtain ⟨v110, hv110⟩ : ∃ z : Int32, z = (own_F6 (0 : Int32) v9) := ⟨_, rfl⟩
    rw [← hv110] at st109
    have st111 : ∀ t, Steps p.tables e below (T109.setTop (mkF m 189 #[.val (.int p0), .val (.int p1), .val (.int p2), .val (.int p3), .val (.int p4), .val (.int v3), .val (.int v6), .val (.int v9), .val (.int v12), .val (.int v17), .val (.ref b20), .val (.int v106), .val (.int v110)] [(.int v12), (.ref b20)])) t → Steps p.tables e below (T109.setTop (mkF m 178 #[.val (.int p0), .val (.int p1), .val (.int p2), .val (.int p3), .val (.int p4), .val (.int v3), .val (.int v6), .val (.int v9), .val (.int v12), .val (.int v17), .val (.ref b20), .val (.int v106), .val (.int (0 : Int32))] [(.int v110)])) t := by
      intro t k
      show Steps p.tables e below (T109.setTop (mkF m 178 #[.val (.int p0), .val (.int p1), .val (.int p2), .val (.int p3), .val (.int p4), .val (.int v3), .val (.int v6), .val (.int v9), .val (.int v12), .val (.int v17), .val (.ref b20), .val (.int v106), .val (.int (0 : Int32))] [(.int v110)])) _
      refine XS.istore X109'.here hx rfl (hb hby at_178) rfl (l' := #[.val (.int p0), .val (.int p1), .val (.int p2), .val (.int p3), .val (.int p4), .val (.int v3), .val (.int v6), .val (.int v9), .val (.int v12), .val (.int v17), .val (.ref b20), .val (.int v106), .val (.int v110)]) rfl ?_
      show Steps p.tables e below (T109.setTop (mkF m 180 #[.val (.int p0), .val (.int p1), .val (.int p2), .val (.int p3), .val (.int p4), .val (.int v3), .val (.int v6), .val (.int v9), .val (.int v12), .val (.int v17), .val (.ref b20), .val (.int v106), .val (.int v110)] [])) _
      refine XS.iload X109'.here hx rfl (hb hby at_180) rfl ?_
      show Steps p.tables e below (T109.setTop (mkF m 182 #[.val (.int p0), .val (.int p1), .val (.int p2), .val (.int p3), .val (.int p4), .val (.int v3), .val (.int v6), .val (.int v9), .val (.int v12), .val (.int v17), .val (.ref b20), .val (.int v106), .val (.int v110)] [(.int v106)])) _
      refine XS.ifNo X109'.here hx rfl (hb hby at_182) rfl ((if0 _ _).trans (feq (by subst_vars; simp only [own_step, own_says, if_true]; decide : ¬ (v106 = (0 : Int32)))).1) ?_
      show Steps p.tables e below (T109.setTop (mkF m 185 #[.val (.int p0), .val (.int p1), .val (.int p2), .val (.int p3), .val (.int p4), .val (.int v3), .val (.int v6), .val (.int v9), .val (.int v12), .val (.int v17), .val (.ref b20), .val (.int v106), .val (.int v110)] [])) _
      refine XS.aload X109'.here hx rfl (hb hby at_185) rfl rfl ?_
      show Steps p.tables e below (T109.setTop (mkF m 187 #[.val (.int p0), .val (.int p1), .val (.int p2), .val (.int p3), .val (.int p4), .val (.int v3), .val (.int v6), .val (.int v9), .val (.int v12), .val (.int v17), .val (.ref b20), .val (.int v106), .val (.int v110)] [(.ref b20)])) _
      refine XS.iload X109'.here hx rfl (hb hby at_187) rfl ?_
      exact k
    obtain ⟨cq112, kq112, q112a, q112b, q112c⟩ := isOf hZ e109 f97
    obtain ⟨_, _, ⟨T112, L112, k112, n112⟩, -, X112, ⟨Lc112, hQ112, l112, y112, z112⟩, st112⟩ := X109'.virtualBack hx (y := (⟨"com/example/tame_markup/tamemarkup/tokenizing/DeclarationEnd", "endsWith", "(I)Z"⟩ : MethodName)) (z := (⟨"com/example/tame_markup/tamemarkup/tokenizing/DeclarationEnd", "endsWith", "(I)Z"⟩ : MethodName)) hown (mvT hZ (hw _ (List.mem_of_getElem? (i := 13) rfl))) (mvT hZ (hw _ (List.mem_of_getElem? (i := 14) rfl))) (notFace_of_selects (args := #[]) (mvT hZ (hw _ (List.mem_of_getElem? (i := 16) rfl)))) (mvT hZ (hw _ (List.mem_of_getElem? (i := 16) rfl))) (mvT hZ (hw _ (List.mem_of_getElem? (i := 15) rfl))) (by decide) (backOf (W := 0) (own_rm4 l Z a0 hw [] b20 v12 (own_G4_0 v9 (0 : Int32)) T96.heap n0 Zp98 f97 Q96_0 g_b20) hZ (hw _ (List.mem_of_getElem? (i := 17) rfl)) (hw _ (List.mem_of_getElem? (i := 6) rfl)) (by decide) (by decide)) q112a q112c (g := (mkF m 189 #[.val (.int p0), .val (.int p1), .val (.int p2), .val (.int p3), .val (.int p4), .val (.int v3), .val (.int v6), .val (.int v9), .val (.int v12), .val (.int v17), .val (.ref b20), .val (.int v106), .val (.int v110)] [(.int v12), (.ref b20)])) rfl (by rw [hml]; rfl) (Steps.refl _) (argsL := [(.int v12)]) (rest := []) (lenOf own_pd2 rfl) rfl (by show 2 * 0 + _ ≤ _; exact Nat.le_of_eq rfl) (hb hby at_189) (fun _ _ => ⟨rfl, e109, (by decide : 1 + 0 ≤ _), (by decide : 1 + 0 ≤ _)⟩)
    dsimp only [Pt.U, Pt.locs, Pt.cells, Pt.slots] at X112 l112 y112 z112 st112 hQ112
    subst y112 z112
    obtain ⟨rfl, Nq112, K112, Q112_0, -⟩ := hQ112
    have N112 : Fr n0 L112 := by rw [l112]; exact Fr.app N96 Nq112
    have X112' : Stand p l e room_1 s m #[(.int p0), (.int p1), (.int p2), (.int p3), (.int p4)] below meth c T112 L112 1 1 := X112
    have f113 : Exa Z T112.heap b20 "com/example/tame_markup/tamemarkup/tokenizing/DeclarationEnd" := f97.keep K112
    have Zp114 : n0 ≤ T112.heap.size := Nat.le_trans Zp98 K112.1
    have st112 : ∀ t, Steps p.tables e below (T112.setTop (mkF m 192 #[.val (.int p0), .val (.int p1), .val (.int p2), .val (.int p3), .val (.int p4), .val (.int v3), .val (.int v6), .val (.int v9), .val (.int v12), .val (.int v17), .val (.ref b20), .val (.int v106), .val (.int v110)] [(.int (own_F4 v12 (own_G4_0 v9 (0 : Int32))))])) t → Steps p.tables e below (T109.setTop (mkF m 189 #[.val (.int p0), .val (.int p1), .val (.int p2), .val (.int p3), .val (.int p4), .val (.int v3), .val (.int v6), .val (.int v9), .val (.int v12), .val (.int v17), .val (.ref b20), .val (.int v106), .val (.int v110)] [(.int v12), (.ref b20)])) t := fun t k => st112.trans k
    obtain ⟨v115, hv115⟩ : ∃ z : Int32, z = (own_F4 v12 (own_G4_0 v9 (0 : Int32))) := ⟨_, rfl⟩
    rw [← hv115] at st112
    have st116 : ∀ t, Steps p.tables e below (T112.setTop (mkF m 196 #[.val (.int p0), .val (.int p1), .val (.int p2), .val (.int p3), .val (.int p4), .val (.int v3), .val (.int v6), .val (.int v9), .val (.int v12), .val (.int v17), .val (.ref b20), .val (.int v106), .val (.int v110)] [(.int v12), (.int v110), (.int v115)])) t → Steps p.tables e below (T112.setTop (mkF m 192 #[.val (.int p0), .val (.int p1), .val (.int p2), .val (.int p3), .val (.int p4), .val (.int v3), .val (.int v6), .val (.int v9), .val (.int v12), .val (.int v17), .val (.ref b20), .val (.int v106), .val (.int v110)] [(.int v115)])) t := by
      intro t k
      show Steps p.tables e below (T112.setTop (mkF m 192 #[.val (.int p0), .val (.int p1), .val (.int p2), .val (.int p3), .val (.int p4), .val (.int v3), .val (.int v6), .val (.int v9), .val (.int v12), .val (.int v17), .val (.ref b20), .val (.int v106), .val (.int v110)] [(.int v115)])) _
      refine XS.iload X112'.here hx rfl (hb hby at_192) rfl ?_
      show Steps p.tables e below (T112.setTop (mkF m 194 #[.val (.int p0), .val (.int p1), .val (.int p2), .val (.int p3), .val (.int p4), .val (.int v3), .val (.int v6), .val (.int v9), .val (.int v12), .val (.int v17), .val (.ref b20), .val (.int v106), .val (.int v110)] [(.int v110), (.int v115)])) _
      refine XS.iload X112'.here hx rfl (hb hby at_194) rfl ?_
      exact k
    obtain ⟨_, _, ⟨T117, L117, k117, n117⟩, -, X117, ⟨Lc117, hQ117, l117, y117, z117⟩, st117⟩ := Jvm.LawKit.callS X112' hx (y := (⟨"com/example/tame_markup/tamemarkup/tokenizing/DeclarationEndEndsWithPinLaw", "expectEnds", "(II)Z"⟩ : MethodName)) hown (mvT hZ (hw _ (List.mem_of_getElem? (i := 20) rfl))) (mvT hZ (hw _ (List.mem_of_getElem? (i := 21) rfl))) (mvT hZ (hw _ (List.mem_of_getElem? (i := 2) rfl))) (mvT hZ (hw _ (List.mem_of_getElem? (i := 22) rfl))) (by decide) (backOf (W := 1) (own_rm5 l Z a0 hw [] v110 v12 T112.heap) hZ (hw _ (List.mem_of_getElem? (i := 22) rfl)) (hw _ (List.mem_of_getElem? (i := 2) rfl)) (by decide) (by decide)) (g := (mkF m 196 #[.val (.int p0), .val (.int p1), .val (.int p2), .val (.int p3), .val (.int p4), .val (.int v3), .val (.int v6), .val (.int v9), .val (.int v12), .val (.int v17), .val (.ref b20), .val (.int v106), .val (.int v110)] [(.int v12), (.int v110), (.int v115)])) rfl (by rw [hml]; rfl) (argsL := [(.int v110), (.int v12)]) (rest := [(.int v115)]) (lenOf own_pd3 rfl) rfl (by show 2 * 0 + _ ≤ _; exact Nat.le_of_eq rfl) (hb hby at_196) (fun _ _ => ⟨rfl, (rfl : T112.heap = T112.heap), (by decide : 1 + 0 ≤ _), (by decide : 1 + 0 ≤ _)⟩)
    dsimp only [Pt.U, Pt.locs, Pt.cells, Pt.slots] at X117 l117 y117 z117 st117 hQ117
    subst y117 z117
    obtain ⟨rfl, rfl, e117⟩ := hQ117
    have X117' : Stand p l e room_1 s m #[(.int p0), (.int p1), (.int p2), (.int p3), (.int p4)] below meth c T117 L112 1 1 := by rw [show L117 = L112 from by rw [l117]; first | rfl | exact List.append_nil _] at X117; exact X117
    obtain ⟨v118, hv118⟩ : ∃ z : Int32, z = (own_F5 v110 v12) := ⟨_, rfl⟩
    rw [← hv118] at st117
    obtain ⟨v122, hv122⟩ : ∃ z : Int32, z = (if v115 = v118 then (1 : Int32) else (0 : Int32)) := ⟨_, rfl⟩
    have st123 : ∀ t, Steps p.tables e below (T117.setTop (mkF m 207 #[.val (.int p0), .val (.int p1), .val (.int p2), .val (.int p3), .val (.int p4), .val (.int v3), .val (.int v6), .val (.int v9), .val (.int v12), .val (.int v17), .val (.ref b20), .val (.int v106), .val (.int v110)] [(.int v122)])) t → Steps p.tables e below (T117.setTop (mkF m 199 #[.val (.int p0), .val (.int p1), .val (.int p2), .val (.int p3), .val (.int p4), .val (.int v3), .val (.int v6), .val (.int v9), .val (.int v12), .val (.int v17), .val (.ref b20), .val (.int v106), .val (.int v110)] [(.int v118), (.int v115)])) t := by
      rw [hv122]
      by_cases hc199_119 : v115 = v118
      · repeat rw [if_pos hc199_119]
        have st120 : ∀ t, Steps p.tables e below (T117.setTop (mkF m 207 #[.val (.int p0), .val (.int p1), .val (.int p2), .val (.int p3), .val (.int p4), .val (.int v3), .val (.int v6), .val (.int v9), .val (.int v12), .val (.int v17), .val (.ref b20), .val (.int v106), .val (.int v110)] [(.int (1 : Int32))])) t → Steps p.tables e below (T117.setTop (mkF m 199 #[.val (.int p0), .val (.int p1), .val (.int p2), .val (.int p3), .val (.int p4), .val (.int v3), .val (.int v6), .val (.int v9), .val (.int v12), .val (.int v17), .val (.ref b20), .val (.int v106), .val (.int v110)] [(.int v118), (.int v115)])) t := by
          intro t k
          show Steps p.tables e below (T117.setTop (mkF m 199 #[.val (.int p0), .val (.int p1), .val (.int p2), .val (.int p3), .val (.int p4), .val (.int v3), .val (.int v6), .val (.int v9), .val (.int v12), .val (.int v17), .val (.ref b20), .val (.int v106), .val (.int v110)] [(.int v118), (.int v115)])) _
          refine XS.icmpNo X117'.here hx rfl (hb hby at_199) rfl (teq hc199_119).2 ?_
          show Steps p.tables e below (T117.setTop (mkF m 202 #[.val (.int p0), .val (.int p1), .val (.int p2), .val (.int p3), .val (.int p4), .val (.int v3), .val (.int v6), .val (.int v9), .val (.int v12), .val (.int v17), .val (.ref b20), .val (.int v106), .val (.int v110)] [])) _
          refine XS.iconst X117'.here hx rfl (hb hby at_202) ?_
          show Steps p.tables e below (T117.setTop (mkF m 203 #[.val (.int p0), .val (.int p1), .val (.int p2), .val (.int p3), .val (.int p4), .val (.int v3), .val (.int v6), .val (.int v9), .val (.int v12), .val (.int v17), .val (.ref b20), .val (.int v106), .val (.int v110)] [(.int (1 : Int32))])) _
          refine XS.goto X117'.here hx rfl (pc0 := 203) (pc' := 207) rfl (hb hby at_203) (by decide) (by decide) ?_
          exact k
        exact fun t k => st120 _ k
      · repeat rw [if_neg hc199_119]
        have st121 : ∀ t, Steps p.tables e below (T117.setTop (mkF m 207 #[.val (.int p0), .val (.int p1), .val (.int p2), .val (.int p3), .val (.int p4), .val (.int v3), .val (.int v6), .val (.int v9), .val (.int v12), .val (.int v17), .val (.ref b20), .val (.int v106), .val (.int v110)] [(.int (0 : Int32))])) t → Steps p.tables e below (T117.setTop (mkF m 199 #[.val (.int p0), .val (.int p1), .val (.int p2), .val (.int p3), .val (.int p4), .val (.int v3), .val (.int v6), .val (.int v9), .val (.int v12), .val (.int v17), .val (.ref b20), .val (.int v106), .val (.int v110)] [(.int v118), (.int v115)])) t := by
          intro t k
          show Steps p.tables e below (T117.setTop (mkF m 199 #[.val (.int p0), .val (.int p1), .val (.int p2), .val (.int p3), .val (.int p4), .val (.int v3), .val (.int v6), .val (.int v9), .val (.int v12), .val (.int v17), .val (.ref b20), .val (.int v106), .val (.int v110)] [(.int v118), (.int v115)])) _
          refine XS.icmpYes X117'.here hx rfl (pc0 := 199) (pc' := 206) rfl (hb hby at_199) rfl (feq hc199_119).2 (by decide) (by decide) ?_
          show Steps p.tables e below (T117.setTop (mkF m 206 #[.val (.int p0), .val (.int p1), .val (.int p2), .val (.int p3), .val (.int p4), .val (.int v3), .val (.int v6), .val (.int v9), .val (.int v12), .val (.int v17), .val (.ref b20), .val (.int v106), .val (.int v110)] [])) _
          refine XS.iconst X117'.here hx rfl (hb hby at_206) ?_
          exact k
        exact fun t k => st121 _ k
    have st124 : ∀ t, Steps p.tables e below (T117.setTop (mkF m 211 #[.val (.int p0), .val (.int p1), .val (.int p2), .val (.int p3), .val (.int p4), .val (.int v3), .val (.int v6), .val (.int v9), .val (.int v12), .val (.int v17), .val (.ref b20), .val (.int v122), .val (.int v110)] [(.int v122)])) t → Steps p.tables e below (T117.setTop (mkF m 207 #[.val (.int p0), .val (.int p1), .val (.int p2), .val (.int p3), .val (.int p4), .val (.int v3), .val (.int v6), .val (.int v9), .val (.int v12), .val (.int v17), .val (.ref b20), .val (.int v106), .val (.int v110)] [(.int v122)])) t := by
      intro t k
      show Steps p.tables e below (T117.setTop (mkF m 207 #[.val (.int p0), .val (.int p1), .val (.int p2), .val (.int p3), .val (.int p4), .val (.int v3), .val (.int v6), .val (.int v9), .val (.int v12), .val (.int v17), .val (.ref b20), .val (.int v106), .val (.int v110)] [(.int v122)])) _
      refine XS.istore X117'.here hx rfl (hb hby at_207) rfl (l' := #[.val (.int p0), .val (.int p1), .val (.int p2), .val (.int p3), .val (.int p4), .val (.int v3), .val (.int v6), .val (.int v9), .val (.int v12), .val (.int v17), .val (.ref b20), .val (.int v122), .val (.int v110)]) rfl ?_
      show Steps p.tables e below (T117.setTop (mkF m 209 #[.val (.int p0), .val (.int p1), .val (.int p2), .val (.int p3), .val (.int p4), .val (.int v3), .val (.int v6), .val (.int v9), .val (.int v12), .val (.int v17), .val (.ref b20), .val (.int v122), .val (.int v110)] [])) _
      refine XS.iload X117'.here hx rfl (hb hby at_209) rfl ?_
      exact k
    refine own_End.go (fun t k => st91 _ (st92 _ (st95 _ (st96 _ (st100 _ (st101 _ (st107 _ (st108 _ (st109 _ (st111 _ (st112 _ (st116 _ (st117 _ (st123 _ (st124 _ k))))))))))))))) ?_
    exact own_leafN X117' hx Bd.notSynchronized (t := .boolean) Bd.returns (by simp) (hb hby at_211) ⟨congrArg (fun z => some (Value.int z)) (by
        subst hv3 hv6 hv9 hv12 hv17 hv31 hv34 hv38 hv42 hv47 hv50 hv54 hv58 hv99 hv102 hv106 hv110 hv115 hv118 hv122; simp only [own_F0, own_nb0, own_nb1, if_neg hc131_60]), N112⟩ (by decide) (by decide)
theorem own_plain (p0 p1 p2 p3 p4 : Int32) : own_F0 p0 p1 p2 p3 p4 = 1 := by
  unfold own_F0
  simp only [own_step, own_says, if_true]
  split <;> decide

set_option maxRecDepth 65536 in
set_option maxHeartbeats 40000000 in
theorem comes_1 {Post : Tables → Env → Array Value → State → Outcome → State → Prop} (hpost : ∀ tb e args s v u, (limb_1_1.after args s (.returned v) u = true ∧ limb_1_2.after args s (.returned v) u = true ∧ True) → FrameEnd s (.returned v) u (Jvm.fieldLocs frame_1_writes args s ++ Jvm.arrayLocs frame_1_arrays args s ++ Jvm.staticLocs frame_1_statics s) 16 128 → Post tb e args s (.returned v) u) :
    ArmFor flags0 classFile x code maxLocals ret World_1 tables_1 room_1 Calls_1 rest_1 Pre_1 Post := by
  intro l hfl _ _ p e ha hc hk s m args below hf hA hF happ hP
  obtain ⟨hcalls, hrest, hpre⟩ := hP
  obtain ⟨-, -, -, hnamed, -, -, -, hat⟩ := (Spec.applies_iff hf).mp happ
  obtain ⟨hg, hn⟩ := and_e (Cond.before_iff.mp (show (Jvm.Cond.and given_1 narrow_1).before args s = true from hpre))
  obtain ⟨g1, g2⟩ := and_e hg
  obtain ⟨ga0, gb0⟩ := and_e g2
  obtain ⟨ga1, gb1⟩ := and_e gb0
  obtain ⟨ga2, gb2⟩ := and_e gb1
  obtain ⟨ga3, gb3⟩ := and_e gb2
  obtain ⟨w0, w1, w2, w3, w4, rfl⟩ : ∃ w0 w1 w2 w3 w4 : Value, args = #[w0, w1, w2, w3, w4] := by
    have hs : args.size = 5 := by simpa [Cond.value, given_1] using g1
    obtain ⟨L⟩ := args
    match L, hs with
    | [w0, w1, w2, w3, w4], _ => exact ⟨w0, w1, w2, w3, w4, rfl⟩
  have hw := fun d (hd : d ∈ tables_1) => atoms_spec (ws := Jvm.Cond.code x code maxLocals ret :: tables_1) hat d (List.mem_cons_of_mem _ hd)
  obtain ⟨i0, ei0⟩ := is_v ga0
  obtain rfl : w0 = (.int i0) := Option.some.inj ei0
  obtain ⟨i1, ei1⟩ := is_v ga1
  obtain rfl : w1 = (.int i1) := Option.some.inj ei1
  obtain ⟨i2, ei2⟩ := is_v ga2
  obtain rfl : w2 = (.int i2) := Option.some.inj ei2
  obtain ⟨i3, ei3⟩ := is_v ga3
  obtain rfl : w3 = (.int i3) := Option.some.inj ei3
  obtain ⟨i4, ei4⟩ := is_v gb3
  obtain rfl : w4 = (.int i4) := Option.some.inj ei4
  obtain ⟨n, o, h1, h2, h3, _, L, rfl, ⟨hv, N⟩, hq⟩ := own_rm0 l s _ hw tables_1 i0 i1 i2 i3 i4 s.heap s.heap.size (Nat.le_refl _) p e ha hc hk s m _ below hf ((Spec.applies_iff_loose hf).mp happ).1 ⟨rfl, State.Warmed39.refl s, rfl⟩ trivial
  rw [own_plain i0 i1 i2 i3 i4] at hv
  subst hv
  refine ⟨n, _, h1, h2, h3, hpost _ _ _ _ _ _ ⟨Cond.after_iff.mpr rfl, Cond.after_iff.mpr (eq_i res_at (Term.int_eval (1)) rfl), trivial⟩ ⟨hq.1, hq.2.1, (hq.2.2.sift fun y hy => Or.inr (N y hy)).mono (by decide) (by decide)⟩⟩
theorem main_1_1 : Claimed_1_1 := comes_1 fun _ _ _ _ _ _ h hF => ⟨h.1, hF⟩
theorem main_1_2 : Claimed_1_2 := comes_1 fun _ _ _ _ _ _ h hF => ⟨h.2.1, hF⟩
end Jvm.Pilot.@@N@@
namespace Jvm.Pilot.@@N@@
open Jvm Jvm.ClassFile Sem Op Lib Jvm.Free Jvm.Stand Jvm.Pilot.@@N@@.Jvm.D
/-! MADE BY PROGRAM (witnessworld.py) out of the Statement's table words and the real class files: 10 classes; the members and pool entries that the words name. The judged class is class 1, her method 4. -/
namespace start1
open Jvm.ClassFile
def u (s : String) : CpInfo := .utf8 (stringToUtf16 s)
/-- a pool by its gaps: so many unusable entries, then the entry; so many at the end -/
def gap : Nat → List CpInfo → List CpInfo
  | 0, r => r
  | n + 1, r => .unusable :: gap n r
def poolList (es : List (Nat × CpInfo)) (last : Nat) : List CpInfo := es.foldr (fun e r => gap e.1 (e.2 :: r)) (gap last [])
def pool (es : List (Nat × CpInfo)) (last : Nat) : Array CpInfo := ⟨poolList es last⟩
def fileOf (pool : Array CpInfo) (this : Nat) (attrs : Array Attribute := #[]) (ms : Array MethodInfo := #[]) (fl : Nat := 33) (sup : Nat := 0) (ifs : Array Nat := #[]) (fds : Array FieldInfo := #[]) : ClassFile where
  minorVersion := 0
  majorVersion := 65
  constantPool := pool
  accessFlags := fl
  thisClass := this
  superClass := sup
  interfaces := ifs
  fields := fds
  methods := ms
  attributes := attrs
def plain (name : String) (sup : Option ClassId) : Class where
  name := name
  kind := .ordinary
  loader := none
  accessFlags := 33
  super := sup
  interfaces := #[]
  cf := none
  fields := #[]
  methods := #[]
  instanceTypes := #[]
  staticTypes := #[]
  resolved := #[]
  callSites := []
  init := .initialized
  statics := none
  mirror := none

def pool0 : Array CpInfo := pool [(5, u "<init>"), (0, u "()V"), (1, .class_ 10), (1, u "java/lang/Object")] 113

def k0c0 : Code := { maxStack := 0, maxLocals := 1, code := object_method_1_code, exceptionTable := #[], attributes := #[] }
def k0m0 : Method := { name := "<init>", desc := "()V", sig := { parameters := [], returnType := none }, accessFlags := 1, code := some k0c0 }
/-- java/lang/Object -/
def k0 : Class := { plain "java/lang/Object" none with
  accessFlags := 33
  interfaces := #[]
  cf := some (fileOf pool0 8 #[] #[{ accessFlags := 1, nameIndex := 5, descriptorIndex := 6, attributes := #[] }] 33 0 #[] #[])
  fields := #[]
  methods := #[k0m0]
  instanceTypes := #[]
  staticTypes := #[]
  resolved := Array.replicate 124 none
  statics := none }

def pool1 : Array CpInfo := pool [(2, .class_ 4), (0, .nameAndType 5 6), (0, u "java/lang/Object"), (0, u "<init>"), (0, u "()V"), (0, .methodref 8 9), (0, .class_ 10), (0, .nameAndType 11 12), (0, u "com/example/tame_markup/tamemarkup/tokenizing/DeclarationEndEndsWithPinLaw"), (0, u "pick"), (0, u "(I)I"), (0, .class_ 14), (0, u "com/example/tame_markup/tamemarkup/tokenizing/DeclarationEnd"), (0, .methodref 13 3), (0, .methodref 13 17), (0, .nameAndType 18 19), (0, u "endsWith"), (0, u "(I)Z"), (0, .methodref 8 21), (0, .nameAndType 22 23), (0, u "expectEnds"), (0, u "(II)Z"), (0, .methodref 8 25), (0, .nameAndType 26 27), (0, u "next"), (0, u "(II)I"), (0, .methodref 13 29), (0, .nameAndType 30 6), (0, u "restart"), (3, u "law"), (0, u "(IIIII)Z")] 2

def k1m0 : Method := { name := "<init>", desc := "()V", sig := { parameters := [], returnType := none }, accessFlags := 1, code := none }
def k1c1 : Code := { maxStack := 2, maxLocals := 2, code := method_2_code, exceptionTable := #[], attributes := #[] }
def k1m1 : Method := { name := "pick", desc := "(I)I", sig := { parameters := [.int], returnType := some .int }, accessFlags := 10, code := some k1c1 }
def k1c2 : Code := { maxStack := 2, maxLocals := 2, code := method_3_code, exceptionTable := #[], attributes := #[] }
def k1m2 : Method := { name := "next", desc := "(II)I", sig := { parameters := [.int, .int], returnType := some .int }, accessFlags := 10, code := some k1c2 }
def k1c3 : Code := { maxStack := 2, maxLocals := 2, code := method_4_code, exceptionTable := #[], attributes := #[] }
def k1m3 : Method := { name := "expectEnds", desc := "(II)Z", sig := { parameters := [.int, .int], returnType := some .boolean }, accessFlags := 10, code := some k1c3 }
def k1c4 : Code := { maxStack := 3, maxLocals := 13, code := code, exceptionTable := #[], attributes := #[] }
def k1m4 : Method := { name := "law", desc := "(IIIII)Z", sig := { parameters := [.int, .int, .int, .int, .int], returnType := some .boolean }, accessFlags := 9, code := some k1c4 }
/-- com/example/tame_markup/tamemarkup/tokenizing/DeclarationEndEndsWithPinLaw -/
def k1 : Class := { plain "com/example/tame_markup/tamemarkup/tokenizing/DeclarationEndEndsWithPinLaw" (some 0) with
  accessFlags := 49
  interfaces := #[]
  cf := some (fileOf pool1 8 #[] #[{ accessFlags := 1, nameIndex := 5, descriptorIndex := 6, attributes := #[] }, { accessFlags := 10, nameIndex := 11, descriptorIndex := 12, attributes := #[] }, { accessFlags := 10, nameIndex := 26, descriptorIndex := 27, attributes := #[] }, { accessFlags := 10, nameIndex := 22, descriptorIndex := 23, attributes := #[] }, { accessFlags := 9, nameIndex := 34, descriptorIndex := 35, attributes := #[] }] 49 2 #[] #[])
  fields := #[]
  methods := #[k1m0, k1m1, k1m2, k1m3, k1m4]
  instanceTypes := #[]
  staticTypes := #[]
  resolved := Array.replicate 38 none
  statics := none }

def pool2 : Array CpInfo := pool [(1, .class_ 2), (0, u "com/example/tame_markup/tamemarkup/input/MarkupEnd"), (0, .class_ 4), (0, u "java/lang/Object")] 6

/-- com/example/tame_markup/tamemarkup/input/MarkupEnd -/
def k2 : Class := { plain "com/example/tame_markup/tamemarkup/input/MarkupEnd" (some 0) with
  accessFlags := 1537
  interfaces := #[]
  cf := some (fileOf pool2 1 #[] #[] 1537 3 #[] #[])
  fields := #[]
  methods := #[]
  instanceTypes := #[]
  staticTypes := #[]
  resolved := Array.replicate 11 none
  statics := none }

def pool3 : Array CpInfo := pool [(1, .methodref 2 3), (0, .class_ 4), (0, .nameAndType 5 6), (0, u "java/lang/Object"), (0, u "<init>"), (0, u "()V"), (0, .fieldref 8 9), (0, .class_ 10), (0, .nameAndType 11 12), (0, u "com/example/tame_markup/tamemarkup/tokenizing/DeclarationEnd"), (0, u "quote"), (0, u "I"), (0, .class_ 14), (0, u "com/example/tame_markup/tamemarkup/input/MarkupEnd"), (2, u "restart"), (0, u "endsWith"), (0, u "(I)Z")] 3

def k3c0 : Code := { maxStack := 1, maxLocals := 1, code := prog_67_method_1_code, exceptionTable := #[], attributes := #[] }
def k3m0 : Method := { name := "<init>", desc := "()V", sig := { parameters := [], returnType := none }, accessFlags := 0, code := some k3c0 }
def k3c1 : Code := { maxStack := 2, maxLocals := 1, code := prog_67_method_2_code, exceptionTable := #[], attributes := #[] }
def k3m1 : Method := { name := "restart", desc := "()V", sig := { parameters := [], returnType := none }, accessFlags := 1, code := some k3c1 }
def k3c2 : Code := { maxStack := 2, maxLocals := 3, code := prog_67_method_3_code, exceptionTable := #[], attributes := #[] }
def k3m2 : Method := { name := "endsWith", desc := "(I)Z", sig := { parameters := [.int], returnType := some .boolean }, accessFlags := 1, code := some k3c2 }
/-- com/example/tame_markup/tamemarkup/tokenizing/DeclarationEnd -/
def k3 : Class := { plain "com/example/tame_markup/tamemarkup/tokenizing/DeclarationEnd" (some 0) with
  accessFlags := 32
  interfaces := #[2]
  cf := some (fileOf pool3 8 #[] #[{ accessFlags := 0, nameIndex := 5, descriptorIndex := 6, attributes := #[] }, { accessFlags := 1, nameIndex := 17, descriptorIndex := 6, attributes := #[] }, { accessFlags := 1, nameIndex := 18, descriptorIndex := 19, attributes := #[] }] 32 2 #[13] #[{ accessFlags := 2, nameIndex := 11, descriptorIndex := 12, attributes := #[] }])
  fields := #[{ name := "quote", type := .int, accessFlags := 2, slot := 0, constantValue := 0 }]
  methods := #[k3m0, k3m1, k3m2]
  instanceTypes := #[.int]
  staticTypes := #[]
  resolved := Array.replicate 23 none
  statics := none }

def pool4 : Array CpInfo := pool [(1, u "java/lang/Cloneable"), (0, .class_ 1), (0, u "java/lang/Object"), (0, .class_ 3)] 3

/-- java/lang/Cloneable -/
def k4 : Class := { plain "java/lang/Cloneable" (some 0) with
  accessFlags := 1537
  interfaces := #[]
  cf := some (fileOf pool4 2 #[] #[] 1537 4 #[] #[])
  fields := #[]
  methods := #[]
  instanceTypes := #[]
  staticTypes := #[]
  resolved := Array.replicate 8 none
  statics := none }

def pool5 : Array CpInfo := pool [(1, u "java/io/Serializable"), (0, .class_ 1), (0, u "java/lang/Object"), (0, .class_ 3)] 3

/-- java/io/Serializable -/
def k5 : Class := { plain "java/io/Serializable" (some 0) with
  accessFlags := 1537
  interfaces := #[]
  cf := some (fileOf pool5 2 #[] #[] 1537 4 #[] #[])
  fields := #[]
  methods := #[]
  instanceTypes := #[]
  staticTypes := #[]
  resolved := Array.replicate 8 none
  statics := none }

/-- the primitive byte -/
def k6 : Class := { plain "byte" none with kind := .primitive 'B', accessFlags := 0x411 }
/-- [B -/
def k7 : Class := { plain "[B" (some 0) with kind := .array 6 .byte, interfaces := #[4, 5], accessFlags := 1041 }

/-- the primitive int -/
def k8 : Class := { plain "int" none with kind := .primitive 'I', accessFlags := 0x411 }
/-- [I -/
def k9 : Class := { plain "[I" (some 0) with kind := .array 8 .int, interfaces := #[4, 5], accessFlags := 1041 }

def heap : Heap := #[]
def classes : Array Class := #[k0, k1, k2, k3, k4, k5, k6, k7, k8, k9]
def interned : List (Array UInt16 × Addr) := []
def slotsUsed : Nat := 0
def theMethod : MethodId := ⟨1, 4⟩
def args0 : Array Value := #[.int 5, .int 5, .int 5, .int 5, .int 5]
def aboutOver (below : List Frame) : State where
  vm := { classes := classes, interned := interned.toArray }
  heap := heap
  slotsUsed := slotsUsed
  threads := #[{ frames := .invoking theMethod args0 :: below }]
def below0 : List Frame := [.native { method := ⟨0, 0⟩, args := #[] }]
def about1 : State := aboutOver below0
def p0 : Program := .bare "" "" ""
def e0 : Env := launch0.env 0 0 0
theorem w_frames : about1.frames = Frame.invoking theMethod args0 :: below0 := rfl
set_option maxRecDepth 65536 in
theorem w_args : argsFit about1.vm theMethod args0 = true := by decide +kernel
set_option maxRecDepth 65536 in
theorem w_heap : heapFits about1 = true := by decide +kernel
set_option maxRecDepth 65536 in
theorem w_runnable : about1.curStatus? = some .runnable := by decide +kernel
set_option maxRecDepth 65536 in
theorem w_alone : about1.alone = true := by decide +kernel
set_option maxRecDepth 65536 in
theorem w_named : about1.methodNamed? x = some theMethod := by decide +kernel
set_option maxRecDepth 65536 in
theorem w_hears : about1.hears theMethod below0 = true := by decide +kernel
set_option maxRecDepth 65536 in
theorem w_ripe : about1.ripe theMethod args0 below0 = true := by decide +kernel
theorem w_running : about1.status = .running := rfl
set_option maxRecDepth 65536 in
theorem w_room : about1.hasRoom e0.platform room_1 = true :=
  launch0.hasRoom_least _ room_1 (by decide +kernel) (by decide +kernel) (by decide +kernel) (by decide +kernel) (by decide +kernel) (by decide +kernel)
theorem allAtoms_all (ts : List Jvm.Cond) (a : Array Jvm.Value) (st : Jvm.State) : (allAtoms ts).before a st = ts.all (fun c => c.before a st) := by
  induction ts with
  | nil => rfl
  | cons c t ih =>
    show (Jvm.Cond.and c (allAtoms t)).before a st = _
    rw [Jvm.Cond.before_and, ih, List.all_cons]
def words1 : List Jvm.Cond := Jvm.Cond.code x code maxLocals ret :: tables_1
/-- a 'code' word, met by the world's own term for the bytes: nothing is compared byte by byte -/
theorem code_word {y : MethodName} {bytes : ByteArray} {mx : Nat} {rt : Option FieldType} {a : Array Value} {s : State} {m : MethodId} {meth : Method} {c : Code} (h1 : s.methodNamed? y = some m) (h2 : s.vm.method? m = some meth) (h3 : meth.code = some c) (h4 : c.code = bytes)
    (h5 : (c.maxLocals == mx && c.exceptionTable.isEmpty && decide (c.maxStack ≤ mostOperands) && decide (meth.sig.returnType = rt) && !meth.locks && decide (parseMethodDescriptor y.desc = some meth.sig)) = true) : (Jvm.Cond.code y bytes mx rt).before a s = true := by
  simp only [Bool.and_eq_true, beq_iff_eq, Bool.not_eq_true', decide_eq_true_eq] at h5
  obtain ⟨⟨⟨⟨⟨g1, g2⟩, g3⟩, g4⟩, g5⟩, g6⟩ := h5
  simp [Cond.before, Cond.holds, Cond.value, h1, h2, h3, h4, g1, g2, g3, g4, g5, g6]
def isCode : Jvm.Cond → Bool
  | .code _ _ _ _ => true
  | _ => false
theorem all_split {L : List Jvm.Cond} {P : Jvm.Cond → Bool} (h1 : L.all (fun c => isCode c || P c) = true) (h2 : ∀ c ∈ L.filter isCode, P c = true) : L.all P = true := by
  refine List.all_eq_true.mpr fun c hc => ?_
  have h := List.all_eq_true.mp h1 c hc
  rcases Bool.eq_false_or_eq_true (isCode c) with hi | hi
  · exact h2 c (List.mem_filter.mpr ⟨hc, hi⟩)
  · simpa [hi] using h
set_option maxRecDepth 65536 in
theorem w_c0 : (Jvm.Cond.code x code maxLocals ret).before args0 about1 = true := code_word (m := ⟨1, 4⟩) (meth := k1m4) (c := k1c4) (by decide +kernel) rfl rfl rfl (by decide +kernel)
set_option maxRecDepth 65536 in
theorem w_c1 : (Jvm.Cond.code ({ cls := "com/example/tame_markup/tamemarkup/tokenizing/DeclarationEndEndsWithPinLaw", name := "pick", desc := "(I)I" } : Jvm.MethodName) method_2_code (2 : Nat) (Option.some Jvm.ClassFile.FieldType.int)).before args0 about1 = true := code_word (m := ⟨1, 1⟩) (meth := k1m1) (c := k1c1) (by decide +kernel) rfl rfl rfl (by decide +kernel)
set_option maxRecDepth 65536 in
theorem w_c2 : (Jvm.Cond.code ({ cls := "com/example/tame_markup/tamemarkup/tokenizing/DeclarationEnd", name := "<init>", desc := "()V" } : Jvm.MethodName) prog_67_method_1_code (1 : Nat) (Option.none : Option Jvm.ClassFile.FieldType)).before args0 about1 = true := code_word (m := ⟨3, 0⟩) (meth := k3m0) (c := k3c0) (by decide +kernel) rfl rfl rfl (by decide +kernel)
set_option maxRecDepth 65536 in
theorem w_c3 : (Jvm.Cond.code ({ cls := "java/lang/Object", name := "<init>", desc := "()V" } : Jvm.MethodName) object_method_1_code (1 : Nat) (Option.none : Option Jvm.ClassFile.FieldType)).before args0 about1 = true := code_word (m := ⟨0, 0⟩) (meth := k0m0) (c := k0c0) (by decide +kernel) rfl rfl rfl (by decide +kernel)
set_option maxRecDepth 65536 in
theorem w_c4 : (Jvm.Cond.code ({ cls := "com/example/tame_markup/tamemarkup/tokenizing/DeclarationEnd", name := "endsWith", desc := "(I)Z" } : Jvm.MethodName) prog_67_method_3_code (3 : Nat) (Option.some Jvm.ClassFile.FieldType.boolean)).before args0 about1 = true := code_word (m := ⟨3, 2⟩) (meth := k3m2) (c := k3c2) (by decide +kernel) rfl rfl rfl (by decide +kernel)
set_option maxRecDepth 65536 in
theorem w_c5 : (Jvm.Cond.code ({ cls := "com/example/tame_markup/tamemarkup/tokenizing/DeclarationEndEndsWithPinLaw", name := "expectEnds", desc := "(II)Z" } : Jvm.MethodName) method_4_code (2 : Nat) (Option.some Jvm.ClassFile.FieldType.boolean)).before args0 about1 = true := code_word (m := ⟨1, 3⟩) (meth := k1m3) (c := k1c3) (by decide +kernel) rfl rfl rfl (by decide +kernel)
set_option maxRecDepth 65536 in
theorem w_c6 : (Jvm.Cond.code ({ cls := "com/example/tame_markup/tamemarkup/tokenizing/DeclarationEndEndsWithPinLaw", name := "next", desc := "(II)I" } : Jvm.MethodName) method_3_code (2 : Nat) (Option.some Jvm.ClassFile.FieldType.int)).before args0 about1 = true := code_word (m := ⟨1, 2⟩) (meth := k1m2) (c := k1c2) (by decide +kernel) rfl rfl rfl (by decide +kernel)
set_option maxRecDepth 65536 in
theorem w_c7 : (Jvm.Cond.code ({ cls := "com/example/tame_markup/tamemarkup/tokenizing/DeclarationEnd", name := "restart", desc := "()V" } : Jvm.MethodName) prog_67_method_2_code (1 : Nat) (Option.none : Option Jvm.ClassFile.FieldType)).before args0 about1 = true := code_word (m := ⟨3, 1⟩) (meth := k3m1) (c := k3c1) (by decide +kernel) rfl rfl rfl (by decide +kernel)
def codes1 : List Jvm.Cond := [Jvm.Cond.code x code maxLocals ret, Jvm.Cond.code ({ cls := "com/example/tame_markup/tamemarkup/tokenizing/DeclarationEndEndsWithPinLaw", name := "pick", desc := "(I)I" } : Jvm.MethodName) method_2_code (2 : Nat) (Option.some Jvm.ClassFile.FieldType.int), Jvm.Cond.code ({ cls := "com/example/tame_markup/tamemarkup/tokenizing/DeclarationEnd", name := "<init>", desc := "()V" } : Jvm.MethodName) prog_67_method_1_code (1 : Nat) (Option.none : Option Jvm.ClassFile.FieldType), Jvm.Cond.code ({ cls := "java/lang/Object", name := "<init>", desc := "()V" } : Jvm.MethodName) object_method_1_code (1 : Nat) (Option.none : Option Jvm.ClassFile.FieldType), Jvm.Cond.code ({ cls := "com/example/tame_markup/tamemarkup/tokenizing/DeclarationEnd", name := "endsWith", desc := "(I)Z" } : Jvm.MethodName) prog_67_method_3_code (3 : Nat) (Option.some Jvm.ClassFile.FieldType.boolean), Jvm.Cond.code ({ cls := "com/example/tame_markup/tamemarkup/tokenizing/DeclarationEndEndsWithPinLaw", name := "expectEnds", desc := "(II)Z" } : Jvm.MethodName) method_4_code (2 : Nat) (Option.some Jvm.ClassFile.FieldType.boolean), Jvm.Cond.code ({ cls := "com/example/tame_markup/tamemarkup/tokenizing/DeclarationEndEndsWithPinLaw", name := "next", desc := "(II)I" } : Jvm.MethodName) method_3_code (2 : Nat) (Option.some Jvm.ClassFile.FieldType.int), Jvm.Cond.code ({ cls := "com/example/tame_markup/tamemarkup/tokenizing/DeclarationEnd", name := "restart", desc := "()V" } : Jvm.MethodName) prog_67_method_2_code (1 : Nat) (Option.none : Option Jvm.ClassFile.FieldType)]
set_option maxRecDepth 65536 in
theorem codes_eq : words1.filter isCode = codes1 := rfl
theorem w_codes : ∀ c ∈ words1.filter isCode, c.before args0 about1 = true := by
  rw [codes_eq]
  intro c hc
  simp only [codes1, List.mem_cons, List.not_mem_nil, or_false] at hc
  rcases hc with rfl | rfl | rfl | rfl | rfl | rfl | rfl | rfl
  · exact w_c0
  · exact w_c1
  · exact w_c2
  · exact w_c3
  · exact w_c4
  · exact w_c5
  · exact w_c6
  · exact w_c7
set_option maxRecDepth 65536 in
theorem w_t1 : (words1.take 24).all (fun c => isCode c || c.before args0 about1) = true := by decide +kernel
set_option maxRecDepth 65536 in
theorem w_t2 : (words1.drop 24).all (fun c => isCode c || c.before args0 about1) = true := by decide +kernel
theorem w_tables : (allAtoms (Jvm.Cond.code x code maxLocals ret :: tables_1)).before args0 about1 = true := by
  rw [allAtoms_all]
  show words1.all (fun c => c.before args0 about1) = true
  refine all_split ?_ w_codes
  rw [← List.take_append_drop 24 words1, List.all_append, w_t1, w_t2]
  rfl
set_option maxRecDepth 65536 in
theorem w_case : (Jvm.Cond.and given_1 narrow_1).before args0 about1 = true := by decide +kernel
theorem w_applies : (headSpec (Jvm.Cond.code x code maxLocals ret :: tables_1) room_1).applies x e0.platform about1 = true :=
  (Spec.applies_iff w_frames).mpr ⟨w_running, w_runnable, w_alone, w_named, w_hears, w_ripe, w_room, w_tables⟩
theorem atStart : AtStart classFile x code maxLocals ret World_1 tables_1 room_1 Calls_1 rest_1 Pre_1 launch0 p0 e0 about1 theMethod args0 below0 :=
  ⟨lists_1, trivial, launch0.admits_env _ _ _, launch0.least_env, fairChoices_fair.cas, fairChoices_fair.clock, w_frames, w_args, w_heap, w_applies, trivial, trivial, w_case⟩
end start1
theorem witness_1 : WitnessClaimed_1 := ⟨start1.p0, start1.e0, start1.about1, start1.theMethod, start1.args0, start1.below0, start1.atStart⟩
end Jvm.Pilot.@@N@@
