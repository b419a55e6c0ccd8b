import JvmDerived
import JvmDerived.Pilot.@@N@@Statement
import JvmDerived.Pilot.@@N@@Code
set_option linter.unusedVariables false
set_option linter.unusedSimpArgs false
namespace Jvm.RoadKit
open Sem ClassFile Op Lib Jvm.Stand Jvm.Free Jvm.LawKit
section New
variable {p : Program} {l : Launch} {e : Env} {R : Room} {s : State} {m : MethodId} {args : Array Value} {below : List Frame} {meth : Method} {c : Code} {T : State} {locs : List Loc} {cells slots : Nat}
theorem retI (X : Stand p l e R s m args below meth c T locs cells slots) (hx : p.tables.exec = Jvm.exec) {pc : Nat} {Ls : Array Slot} {z : Int32} {rest : List Value} (hret : meth.sig.returnType = some .int) (hd : decode c.code pc = .ok (.ireturn, 1)) {fs : List Frame}
    (hl : ∀ (f : JFrame) (acts : List Action), f.method = m → f.locked = none → f.entered = [] → (doReturn e (T.setTop f) acts (some (.int z))).1 = T.setFrames fs) : Steps p.tables e below (T.setTop (mkF m pc Ls (.int z :: rest))) (T.setFrames fs) := by
  have hm' : T.vm.method? m = some meth := X.method'
  have hn : narrow .int (.int z) = .int z := rfl
  show Steps p.tables e below (T.setTop { method := m, pc := pc, locals := Ls, stack := _ :: rest, locked := none }) _
  jvm_step X.here [X.here.top, hx, hd, hm', hret, hn]
  first | (intro acts; rw [hl _ acts rfl rfl rfl]) | rw [hl _ _ rfl rfl rfl]
  exact Steps.refl _
theorem retJ (X : Stand p l e R s m args below meth c T locs cells slots) (hx : p.tables.exec = Jvm.exec) {pc : Nat} {Ls : Array Slot} {z : Int64} {rest : List Value} (hret : meth.sig.returnType = some .long) (hd : decode c.code pc = .ok (.lreturn, 1)) {fs : List Frame}
    (hl : ∀ (f : JFrame) (acts : List Action), f.method = m → f.locked = none → f.entered = [] → (doReturn e (T.setTop f) acts (some (.long z))).1 = T.setFrames fs) : Steps p.tables e below (T.setTop (mkF m pc Ls (.long z :: rest))) (T.setFrames fs) := by
  have hm' : T.vm.method? m = some meth := X.method'
  show Steps p.tables e below (T.setTop { method := m, pc := pc, locals := Ls, stack := _ :: rest, locked := none }) _
  jvm_step X.here [X.here.top, hx, hd, hm', hret]
  first | (intro acts; rw [hl _ acts rfl rfl rfl]) | rw [hl _ _ rfl rfl rfl]
  exact Steps.refl _
theorem retR (X : Stand p l e R s m args below meth c T locs cells slots) (hx : p.tables.exec = Jvm.exec) {pc : Nat} {Ls : Array Slot} {z : Addr} {t : FieldType} {rest : List Value} (hret : meth.sig.returnType = some t) (ht : t.isReference = true) (hd : decode c.code pc = .ok (.areturn, 1)) {fs : List Frame}
    (hl : ∀ (f : JFrame) (acts : List Action), f.method = m → f.locked = none → f.entered = [] → (doReturn e (T.setTop f) acts (some (.ref z))).1 = T.setFrames fs) : Steps p.tables e below (T.setTop (mkF m pc Ls (.ref z :: rest))) (T.setFrames fs) := by
  have hm' : T.vm.method? m = some meth := X.method'
  show Steps p.tables e below (T.setTop { method := m, pc := pc, locals := Ls, stack := _ :: rest, locked := none }) _
  jvm_step X.here [X.here.top, hx, hd, hm', hret, Value.isRef, ht]
  first | (intro acts; rw [hl _ acts rfl rfl rfl]) | rw [hl _ _ rfl rfl rfl]
  exact Steps.refl _
end New
end Jvm.RoadKit
namespace Jvm.Pilot.@@N@@
open Jvm Jvm.ClassFile Sem Op Lib Jvm.Free Jvm.Stand Jvm.LawKit Jvm.RoadKit Bundle Jvm.Pilot.@@N@@.Jvm.D
/-- from the frame g, where T stands, the body comes to its end, and its end is as QQ says -/
def own_End (p : Program) (e : Env) (below : List Frame) (s : State) (QQ : Option Value → Heap → List Loc → Prop) (rc rs : Nat) (T : State) (g : JFrame) : Prop :=
  ∃ s₂ o, Steps p.tables e below (T.setTop g) s₂ ∧ s₂.status = .running ∧ Ended s₂ below o ∧ ∃ v L, o = .returned v ∧ QQ v s₂.heap L ∧ FrameEnd s o s₂ L rc rs
section Own
variable {p : Program} {l : Launch} {e : Env} {R : Room} {s : State} {m : MethodId} {args : Array Value} {below : List Frame} {meth : Method} {c : Code} {T T' : State} {locs : List Loc} {cells slots : Nat} {QQ : Option Value → Heap → List Loc → Prop} {rc rs : Nat}
theorem own_End.go {g g' : JFrame} (st : ∀ t, Steps p.tables e below (T'.setTop g') t → Steps p.tables e below (T.setTop g) t) (h : own_End p e below s QQ rc rs T' g') : own_End p e below s QQ rc rs T g := by
  obtain ⟨s2, o, a, b⟩ := h
  exact ⟨s2, o, st _ a, b⟩
theorem own_leafI (X : Stand p l e R s m args below meth c T locs cells slots) (hx : p.tables.exec = Jvm.exec) (hk : meth.locks = false) {pc : Nat} {Ls : Array Slot} {z : Int32} {rest : List Value} (hret : meth.sig.returnType = some .int) (hd : decode c.code pc = .ok (.ireturn, 1)) (hq : QQ (some (.int z)) T.heap locs) (h1 : cells ≤ rc) (h2 : slots ≤ rs) : own_End p e below s QQ rc rs T (mkF m pc Ls (.int z :: rest)) := by
  obtain ⟨fs, hr, hrun, hended, hW, hsame⟩ := X.leave (v := some (.int z)) (fun h => by rw [hret] at h; cases h) hk
  exact ⟨_, _, retI X hx hret hd hr, hrun, hended, _, _, rfl, hq, ⟨_, rfl⟩, hW, hsame.mono h1 h2⟩
theorem own_leafN (X : Stand p l e R s m args below meth c T locs cells slots) (hx : p.tables.exec = Jvm.exec) (hk : meth.locks = false) {pc : Nat} {Ls : Array Slot} {z : Int32} {t : FieldType} {rest : List Value} (hret : meth.sig.returnType = some t) (ht : t = .boolean ∨ t = .byte ∨ t = .char ∨ t = .short) (hd : decode c.code pc = .ok (.ireturn, 1)) (hq : QQ (some (.int (nar t z))) T.heap locs) (h1 : cells ≤ rc) (h2 : slots ≤ rs) : own_End p e below s QQ rc rs T (mkF m pc Ls (.int z :: rest)) := by
  obtain ⟨fs, hr, hrun, hended, hW, hsame⟩ := X.leave (v := some (.int (nar t z))) (fun h => by rw [hret] at h; cases h) hk
  exact ⟨_, _, retN X hx hret ht hd hr, hrun, hended, _, _, rfl, hq, ⟨_, rfl⟩, hW, hsame.mono h1 h2⟩
theorem own_leafJ (X : Stand p l e R s m args below meth c T locs cells slots) (hx : p.tables.exec = Jvm.exec) (hk : meth.locks = false) {pc : Nat} {Ls : Array Slot} {z : Int64} {rest : List Value} (hret : meth.sig.returnType = some .long) (hd : decode c.code pc = .ok (.lreturn, 1)) (hq : QQ (some (.long z)) T.heap locs) (h1 : cells ≤ rc) (h2 : slots ≤ rs) : own_End p e below s QQ rc rs T (mkF m pc Ls (.long z :: rest)) := by
  obtain ⟨fs, hr, hrun, hended, hW, hsame⟩ := X.leave (v := some (.long z)) (fun h => by rw [hret] at h; cases h) hk
  exact ⟨_, _, retJ X hx hret hd hr, hrun, hended, _, _, rfl, hq, ⟨_, rfl⟩, hW, hsame.mono h1 h2⟩
theorem own_leafR (X : Stand p l e R s m args below meth c T locs cells slots) (hx : p.tables.exec = Jvm.exec) (hk : meth.locks = false) {pc : Nat} {Ls : Array Slot} {z : Addr} {t : FieldType} {rest : List Value} (hret : meth.sig.returnType = some t) (ht : t.isReference = true) (hd : decode c.code pc = .ok (.areturn, 1)) (hq : QQ (some (.ref z)) T.heap locs) (h1 : cells ≤ rc) (h2 : slots ≤ rs) : own_End p e below s QQ rc rs T (mkF m pc Ls (.ref z :: rest)) := by
  obtain ⟨fs, hr, hrun, hended, hW, hsame⟩ := X.leave (v := some (.ref z)) (fun h => by rw [hret] at h; cases h) hk
  exact ⟨_, _, retR X hx hret ht hd hr, hrun, hended, _, _, rfl, hq, ⟨_, rfl⟩, hW, hsame.mono h1 h2⟩
theorem own_leafV (X : Stand p l e R s m args below meth c T locs cells slots) (hx : p.tables.exec = Jvm.exec) (hk : meth.locks = false) {pc : Nat} {Ls : Array Slot} (hret : meth.sig.returnType = none) (hd : decode c.code pc = .ok (.return_, 1)) (hq : QQ none T.heap locs) (h1 : cells ≤ rc) (h2 : slots ≤ rs) : own_End p e below s QQ rc rs T (mkF m pc Ls []) := by
  obtain ⟨fs, hr, hrun, hended, hW, hsame⟩ := X.leave (v := none) (fun _ => rfl) hk
  exact ⟨_, _, X.returnOut hx hret hd hr, hrun, hended, _, _, rfl, hq, ⟨_, rfl⟩, hW, hsame.mono h1 h2⟩
end Own
theorem own_nb0 : nar .boolean (0 : Int32) = 0 := by decide
theorem own_nb1 : nar .boolean (1 : Int32) = 1 := by decide
theorem own_oneif {P : Prop} [Decidable P] {x y : Slot} (hx : One x) (hy : One y) : One (if P then x else y) := by split <;> assumption

/-! arrays as lists; one step, one row -/
def own_IA (Z : State) (h : Heap) (a : Addr) (ty : FieldType) (L : List Int32) : Prop := ∃ k n, Arv Z h a k ty n (L.map Value.int) (.int 0) ∧ n.toInt = (L.length : Int)
def own_JA (Z : State) (h : Heap) (a : Addr) (L : List Int64) : Prop := ∃ k n, Arv Z h a k .long n (L.map Value.long) (.long 0) ∧ n.toInt = (L.length : Int)
theorem own_IA.keep {Z : State} {h h' : Heap} {a : Addr} {ty : FieldType} {L : List Int32} {ws : List Addr} (V : own_IA Z h a ty L) (K : Keep h h' ws) (q : a ∉ ws) : own_IA Z h' a ty L := by
  obtain ⟨k, n, A, e⟩ := V; exact ⟨k, n, A.keep K q, e⟩
theorem own_JA.keep {Z : State} {h h' : Heap} {a : Addr} {L : List Int64} {ws : List Addr} (V : own_JA Z h a L) (K : Keep h h' ws) (q : a ∉ ws) : own_JA Z h' a L := by
  obtain ⟨k, n, A, e⟩ := V; exact ⟨k, n, A.keep K q, e⟩
theorem own_IA.lt {Z : State} {h : Heap} {a : Addr} {ty : FieldType} {L : List Int32} (V : own_IA Z h a ty L) : a < h.size := by
  obtain ⟨k, n, A, e⟩ := V; exact A.lt
theorem own_JA.lt {Z : State} {h : Heap} {a : Addr} {L : List Int64} (V : own_JA Z h a L) : a < h.size := by
  obtain ⟨k, n, A, e⟩ := V; exact A.lt
theorem own_IA.len {Z : State} {h : Heap} {a : Addr} {ty : FieldType} {L : List Int32} (V : own_IA Z h a ty L) : (L.length : Int) < 2147483648 := by
  obtain ⟨k, n, A, e⟩ := V; have := rng32 n; omega
theorem own_keepE {h h' : Heap} (E : Ext h h') : Keep h h' [] := (Keep.refl h []).ext E
theorem own_ne {h : Heap} {x y : Addr} (hx : x < h.size) (hy : h.size ≤ y) : x ≠ y := Nat.ne_of_lt (Nat.lt_of_lt_of_le hx hy)
theorem own_clamp {j : Int32} (h : 0 ≤ j.toInt) : j.toNatClampNeg = j.toInt.toNat := rfl
theorem own_lt0 {n : Int32} (h : 0 ≤ n.toInt) : ¬ n < 0 := by
  rw [Int32.lt_iff_toInt_lt]; have : (0 : Int32).toInt = 0 := by decide
  omega
theorem own_in {j : Int32} {n m : Nat} (hn : n = m) (h : 0 ≤ j.toInt ∧ j.toInt < (m : Int)) : 0 ≤ j.toInt ∧ j.toInt < (n : Int) := hn ▸ h
theorem own_mapD (L : List Int32) (i : Nat) : (L.map Value.int).getD i (.int 0) = .int (L.getD i 0) := by
  simp only [List.getD_eq_getElem?_getD, List.getElem?_map]; cases L[i]? <;> rfl
theorem own_mapDJ (L : List Int64) (i : Nat) : (L.map Value.long).getD i (.long 0) = .long (L.getD i 0) := by
  simp only [List.getD_eq_getElem?_getD, List.getElem?_map]; cases L[i]? <;> rfl
theorem own_mapS {α β : Type} (f : α → β) (L : List α) (i : Nat) (x : α) : (L.map f).set i (f x) = (L.set i x).map f := by
  induction L generalizing i with
  | nil => rfl
  | cons y L ih => cases i with
    | zero => rfl
    | succ i => simp only [List.map_cons, List.set_cons_succ, ih]
section Heap
variable {p : Program} {l : Launch} {e : Env} {R : Room} {s : State} {m : MethodId} {args : Array Value} {below : List Frame} {meth : Method} {c : Code} {T : State} {locs : List Loc} {cells slots : Nat} {Z : State} {a0 : Array Value} {h : Heap} {n0 : Nat}
/-- newarray of ints, bytes, booleans, chars, shorts -/
theorem own_newA (X : Stand p l e R s m args below meth c T locs cells slots) (hx : p.tables.exec = Jvm.exec) (hZ : Z.Warmed39 s.vm) {aty : ArrayType} {ty : FieldType} (hty : newarray.typeOf aty = ty) (w : (Cond.arrayClass ty).before a0 Z = true) (hd0 : defaultValue ty = .int 0) (eT : T.heap = h) {g : JFrame} (hg : g.method = m) (hd : decode c.code g.pc = .ok (.newarray aty, 2)) {n : Int32} {rest : List Value} (hs : g.stack = .int n :: rest)
    (len : Nat) (hn : n.toInt = len) {cap : Nat} (hcap : len ≤ cap) (hb : cap * 8 ≤ 536870912) (hc : cells + 1 ≤ R.cells) (hl : slots + cap ≤ R.slots) :
    ∃ T' h' a, Stand p l e R s m args below meth c T' locs (cells + 1) (slots + cap) ∧ T'.heap = h' ∧ Keep h h' [] ∧ h.size ≤ a ∧ own_IA Z h' a ty (List.replicate len 0) ∧
      ∀ target, Steps p.tables e below (T'.setTop { g with pc := g.pc + 2, stack := .ref a :: rest }) target → Steps p.tables e below (T.setTop g) target := by
  subst hty
  have h0 : ¬ n < 0 := own_lt0 (by omega)
  obtain ⟨T', h', cA, X', e', E, A, st⟩ := newP X hx hZ w eT hg hd hs h0 (cap := cap) (by show n.toInt.toNat ≤ cap; omega) hb hc hl
  refine ⟨T', h', h.size, X', e', own_keepE E, Nat.le_refl _, ⟨cA, n, ?_, ?_⟩, st⟩
  · have V := (Arv.new A h0).pad (pad_rep [] _ len)
    rw [hd0] at V
    simpa using V
  · simpa using hn
theorem own_newJ (X : Stand p l e R s m args below meth c T locs cells slots) (hx : p.tables.exec = Jvm.exec) (hZ : Z.Warmed39 s.vm) (w : (Cond.arrayClass .long).before a0 Z = true) (eT : T.heap = h) {g : JFrame} (hg : g.method = m) (hd : decode c.code g.pc = .ok (.newarray .long, 2)) {n : Int32} {rest : List Value} (hs : g.stack = .int n :: rest)
    (len : Nat) (hn : n.toInt = len) {cap : Nat} (hcap : len ≤ cap) (hb : cap * 8 ≤ 536870912) (hc : cells + 1 ≤ R.cells) (hl : slots + cap ≤ R.slots) :
    ∃ T' h' a, Stand p l e R s m args below meth c T' locs (cells + 1) (slots + cap) ∧ T'.heap = h' ∧ Keep h h' [] ∧ h.size ≤ a ∧ own_JA Z h' a (List.replicate len 0) ∧
      ∀ target, Steps p.tables e below (T'.setTop { g with pc := g.pc + 2, stack := .ref a :: rest }) target → Steps p.tables e below (T.setTop g) target := by
  have h0 : ¬ n < 0 := own_lt0 (by omega)
  obtain ⟨T', h', cA, X', e', E, A, st⟩ := newP X hx hZ (aty := .long) w eT hg hd hs h0 (cap := cap) (by show n.toInt.toNat ≤ cap; omega) hb hc hl
  refine ⟨T', h', h.size, X', e', own_keepE E, Nat.le_refl _, ⟨cA, n, ?_, ?_⟩, st⟩
  · have V := (Arv.new A h0).pad (pad_rep [] _ len)
    have hd0 : defaultValue (newarray.typeOf .long) = .long 0 := rfl
    rw [hd0] at V
    have V' : Arv Z h' h.size cA .long n ([] ++ List.replicate len (Value.long 0)) (.long 0) := V
    simpa using V'
  · simpa using hn
theorem own_bounds {Z : State} {h : Heap} {a : Addr} {cl : Cell} {n j : Int32} {len : Nat} (S : cl.slots.size = n.toNatClampNeg) (hn : n.toInt = (len : Int)) (hj : 0 ≤ j.toInt ∧ j.toInt < (len : Int)) : ¬ (j < 0 ∨ cl.slots.size ≤ j.toNatClampNeg) := by
  have hn' : n.toNatClampNeg = n.toInt.toNat := rfl
  have hj' : j.toNatClampNeg = j.toInt.toNat := rfl
  rintro (q | q)
  · exact own_lt0 hj.1 q
  · omega
theorem own_ialoadI (X : Stand p l e R s m args below meth c T locs cells slots) (hx : p.tables.exec = Jvm.exec) (hZ : Z.Warmed39 s.vm) (eT : T.heap = h) {a : Addr} {L : List Int32} (V : own_IA Z h a .int L) {j : Int32} (hj : 0 ≤ j.toInt ∧ j.toInt < (L.length : Int)) {g : JFrame} (hg : g.method = m) {rest : List Value} (hs : g.stack = .int j :: .ref a :: rest) (hd : decode c.code g.pc = .ok (.iaload, 1)) :
    ∀ target, Steps p.tables e below (T.setTop { g with pc := g.pc + 1, stack := .int (L.getD j.toInt.toNat 0) :: rest }) target → Steps p.tables e below (T.setTop g) target := by
  obtain ⟨k, n, ⟨cl, A, q1, S, q3, H, G⟩, hn⟩ := V
  have hb := own_bounds (Z := Z) (h := h) (a := a) S hn hj
  exact X.iaload hx (j := j) (v := .int (L.getD j.toInt.toNat 0)) (by rw [eT]; exact A.1) (State.isArrayOf_alike hZ.alike A.2.1) A.2.2 hb (H.at hb (own_mapD L _)) hg hs hd
theorem own_baloadB (X : Stand p l e R s m args below meth c T locs cells slots) (hx : p.tables.exec = Jvm.exec) (hZ : Z.Warmed39 s.vm) (eT : T.heap = h) {a : Addr} {L : List Int32} (V : own_IA Z h a .byte L) {j : Int32} (hj : 0 ≤ j.toInt ∧ j.toInt < (L.length : Int)) {g : JFrame} (hg : g.method = m) {rest : List Value} (hs : g.stack = .int j :: .ref a :: rest) (hd : decode c.code g.pc = .ok (.baload, 1)) :
    ∀ target, Steps p.tables e below (T.setTop { g with pc := g.pc + 1, stack := .int (L.getD j.toInt.toNat 0) :: rest }) target → Steps p.tables e below (T.setTop g) target := by
  obtain ⟨k, n, ⟨cl, A, q1, S, q3, H, G⟩, hn⟩ := V
  have hb := own_bounds (Z := Z) (h := h) (a := a) S hn hj
  exact X.baloadBytes hx (j := j) (v := .int (L.getD j.toInt.toNat 0)) (by rw [eT]; exact A.1) (State.isArrayOf_alike hZ.alike A.2.1) A.2.2 hb (H.at hb (own_mapD L _)) hg hs hd
theorem own_baloadZ (X : Stand p l e R s m args below meth c T locs cells slots) (hx : p.tables.exec = Jvm.exec) (hZ : Z.Warmed39 s.vm) (eT : T.heap = h) {a : Addr} {L : List Int32} (V : own_IA Z h a .boolean L) {j : Int32} (hj : 0 ≤ j.toInt ∧ j.toInt < (L.length : Int)) {g : JFrame} (hg : g.method = m) {rest : List Value} (hs : g.stack = .int j :: .ref a :: rest) (hd : decode c.code g.pc = .ok (.baload, 1)) :
    ∀ target, Steps p.tables e below (T.setTop { g with pc := g.pc + 1, stack := .int (L.getD j.toInt.toNat 0) :: rest }) target → Steps p.tables e below (T.setTop g) target := by
  obtain ⟨k, n, ⟨cl, A, q1, S, q3, H, G⟩, hn⟩ := V
  have hb := own_bounds (Z := Z) (h := h) (a := a) S hn hj
  exact X.baloadBooleans hx (j := j) (v := .int (L.getD j.toInt.toNat 0)) (by rw [eT]; exact A.1) (State.isArrayOf_alike hZ.alike A.2.1) A.2.2 hb (H.at hb (own_mapD L _)) hg hs hd
theorem own_laloadJ (X : Stand p l e R s m args below meth c T locs cells slots) (hx : p.tables.exec = Jvm.exec) (hZ : Z.Warmed39 s.vm) (eT : T.heap = h) {a : Addr} {L : List Int64} (V : own_JA Z h a L) {j : Int32} (hj : 0 ≤ j.toInt ∧ j.toInt < (L.length : Int)) {g : JFrame} (hg : g.method = m) {rest : List Value} (hs : g.stack = .int j :: .ref a :: rest) (hd : decode c.code g.pc = .ok (.laload, 1)) :
    ∀ target, Steps p.tables e below (T.setTop { g with pc := g.pc + 1, stack := .long (L.getD j.toInt.toNat 0) :: rest }) target → Steps p.tables e below (T.setTop g) target := by
  obtain ⟨k, n, ⟨cl, A, q1, S, q3, H, G⟩, hn⟩ := V
  have hb := own_bounds (Z := Z) (h := h) (a := a) S hn hj
  exact X.laload hx (j := j) (v := .long (L.getD j.toInt.toNat 0)) (by rw [eT]; exact A.1) (State.isArrayOf_alike hZ.alike A.2.1) A.2.2 hb (H.at hb (own_mapDJ L _)) hg hs hd
theorem own_lenI (X : Stand p l e R s m args below meth c T locs cells slots) (hx : p.tables.exec = Jvm.exec) (hZ : Z.Warmed39 s.vm) (eT : T.heap = h) {a : Addr} {ty : FieldType} {L : List Int32} (V : own_IA Z h a ty L) {g : JFrame} (hg : g.method = m) {rest : List Value} (hs : g.stack = .ref a :: rest) (hd : decode c.code g.pc = .ok (.arraylength, 1)) :
    ∀ target, Steps p.tables e below (T.setTop { g with pc := g.pc + 1, stack := .int (Int32.ofNat L.length) :: rest }) target → Steps p.tables e below (T.setTop g) target := by
  have hl := V.len
  obtain ⟨k, n, ⟨cl, A, q1, S, q3, H, G⟩, hn⟩ := V
  intro t k
  refine X.arraylength hx (by rw [eT]; exact A.1) (State.isArrayOf_alike hZ.alike A.2.1) hg hs hd t ?_
  rw [len_of S q3]
  have e : n = Int32.ofNat L.length := by
    rw [← Int32.toInt_inj, Int32.toInt_ofNat_of_lt (by omega)]; exact hn
  rw [e]; exact k
theorem own_lenJ (X : Stand p l e R s m args below meth c T locs cells slots) (hx : p.tables.exec = Jvm.exec) (hZ : Z.Warmed39 s.vm) (eT : T.heap = h) {a : Addr} {L : List Int64} (V : own_JA Z h a L) {g : JFrame} (hg : g.method = m) {rest : List Value} (hs : g.stack = .ref a :: rest) (hd : decode c.code g.pc = .ok (.arraylength, 1)) :
    ∀ target, Steps p.tables e below (T.setTop { g with pc := g.pc + 1, stack := .int (Int32.ofNat L.length) :: rest }) target → Steps p.tables e below (T.setTop g) target := by
  obtain ⟨k, n, ⟨cl, A, q1, S, q3, H, G⟩, hn⟩ := V
  have hl := rng32 n
  intro t k
  refine X.arraylength hx (by rw [eT]; exact A.1) (State.isArrayOf_alike hZ.alike A.2.1) hg hs hd t ?_
  rw [len_of S q3]
  have e : n = Int32.ofNat L.length := by
    rw [← Int32.toInt_inj, Int32.toInt_ofNat_of_lt (by omega)]; exact hn
  rw [e]; exact k
theorem own_iastoreI (X : Stand p l e R s m args below meth c T locs cells slots) (hx : p.tables.exec = Jvm.exec) (hZ : Z.Warmed39 s.vm) (N : Fr n0 locs) (eT : T.heap = h) {a : Addr} {L : List Int32} (V : own_IA Z h a .int L) {j x : Int32} (hj : 0 ≤ j.toInt ∧ j.toInt < (L.length : Int)) (ha : n0 ≤ a) {g : JFrame} (hg : g.method = m) {rest : List Value} (hs : g.stack = .int x :: .int j :: .ref a :: rest) (hd : decode c.code g.pc = .ok (.iastore, 1)) :
    ∃ T' h' locs', Stand p l e R s m args below meth c T' locs' cells slots ∧ Fr n0 locs' ∧ T'.heap = h' ∧ Keep h h' [a] ∧ own_IA Z h' a .int (L.set j.toInt.toNat x) ∧
      ∀ target, Steps p.tables e below (T'.setTop { g with pc := g.pc + 1, stack := rest }) target → Steps p.tables e below (T.setTop g) target := by
  obtain ⟨k, n, ⟨cl, A, q1, S, q3, H, G⟩, hn⟩ := V
  have hb := own_bounds (Z := Z) (h := h) (a := a) S hn hj
  obtain ⟨T', h', X', e', W, st⟩ := stI X hx hZ eT A (j := j) hb hg hs hd
  have V' := Arv.set A q1 S q3 H G (v := .int x) rfl W j.toInt.toNat rfl (by simp only [List.length_map]; omega)
  rw [own_mapS] at V'
  exact ⟨T', h', _, X', Fr.snoc X' N ha, e', Keep.of_wr W, ⟨k, n, V', by simpa using hn⟩, st⟩
theorem own_bastoreB (X : Stand p l e R s m args below meth c T locs cells slots) (hx : p.tables.exec = Jvm.exec) (hZ : Z.Warmed39 s.vm) (N : Fr n0 locs) (eT : T.heap = h) {a : Addr} {L : List Int32} (V : own_IA Z h a .byte L) {j x : Int32} (hj : 0 ≤ j.toInt ∧ j.toInt < (L.length : Int)) (ha : n0 ≤ a) {g : JFrame} (hg : g.method = m) {rest : List Value} (hs : g.stack = .int x :: .int j :: .ref a :: rest) (hd : decode c.code g.pc = .ok (.bastore, 1)) :
    ∃ T' h' locs', Stand p l e R s m args below meth c T' locs' cells slots ∧ Fr n0 locs' ∧ T'.heap = h' ∧ Keep h h' [a] ∧ own_IA Z h' a .byte (L.set j.toInt.toNat (nar .byte x)) ∧
      ∀ target, Steps p.tables e below (T'.setTop { g with pc := g.pc + 1, stack := rest }) target → Steps p.tables e below (T.setTop g) target := by
  obtain ⟨k, n, ⟨cl, A, q1, S, q3, H, G⟩, hn⟩ := V
  have hb := own_bounds (Z := Z) (h := h) (a := a) S hn hj
  obtain ⟨T', h', X', e', W, st⟩ := stB X hx hZ eT A (j := j) hb hg hs hd
  have V' := Arv.set A q1 S q3 H G (v := .int (nar .byte x)) (fits_nar_byte _) W j.toInt.toNat rfl (by simp only [List.length_map]; omega)
  rw [own_mapS] at V'
  exact ⟨T', h', _, X', Fr.snoc X' N ha, e', Keep.of_wr W, ⟨k, n, V', by simpa using hn⟩, st⟩
theorem own_bastoreZ (X : Stand p l e R s m args below meth c T locs cells slots) (hx : p.tables.exec = Jvm.exec) (hZ : Z.Warmed39 s.vm) (N : Fr n0 locs) (eT : T.heap = h) {a : Addr} {L : List Int32} (V : own_IA Z h a .boolean L) {j x : Int32} (hj : 0 ≤ j.toInt ∧ j.toInt < (L.length : Int)) (ha : n0 ≤ a) {g : JFrame} (hg : g.method = m) {rest : List Value} (hs : g.stack = .int x :: .int j :: .ref a :: rest) (hd : decode c.code g.pc = .ok (.bastore, 1)) :
    ∃ T' h' locs', Stand p l e R s m args below meth c T' locs' cells slots ∧ Fr n0 locs' ∧ T'.heap = h' ∧ Keep h h' [a] ∧ own_IA Z h' a .boolean (L.set j.toInt.toNat (nar .boolean x)) ∧
      ∀ target, Steps p.tables e below (T'.setTop { g with pc := g.pc + 1, stack := rest }) target → Steps p.tables e below (T.setTop g) target := by
  obtain ⟨k, n, ⟨cl, A, q1, S, q3, H, G⟩, hn⟩ := V
  have hb := own_bounds (Z := Z) (h := h) (a := a) S hn hj
  obtain ⟨T', h', X', e', W, st⟩ := stZ X hx hZ eT A (j := j) hb hg hs hd
  have V' := Arv.set A q1 S q3 H G (v := .int (nar .boolean x)) (fits_nar_bool _) W j.toInt.toNat rfl (by simp only [List.length_map]; omega)
  rw [own_mapS] at V'
  exact ⟨T', h', _, X', Fr.snoc X' N ha, e', Keep.of_wr W, ⟨k, n, V', by simpa using hn⟩, st⟩
theorem own_lastoreJ (X : Stand p l e R s m args below meth c T locs cells slots) (hx : p.tables.exec = Jvm.exec) (hZ : Z.Warmed39 s.vm) (N : Fr n0 locs) (eT : T.heap = h) {a : Addr} {L : List Int64} (V : own_JA Z h a L) {j : Int32} {x : Int64} (hj : 0 ≤ j.toInt ∧ j.toInt < (L.length : Int)) (ha : n0 ≤ a) {g : JFrame} (hg : g.method = m) {rest : List Value} (hs : g.stack = .long x :: .int j :: .ref a :: rest) (hd : decode c.code g.pc = .ok (.lastore, 1)) :
    ∃ T' h' locs', Stand p l e R s m args below meth c T' locs' cells slots ∧ Fr n0 locs' ∧ T'.heap = h' ∧ Keep h h' [a] ∧ own_JA Z h' a (L.set j.toInt.toNat x) ∧
      ∀ target, Steps p.tables e below (T'.setTop { g with pc := g.pc + 1, stack := rest }) target → Steps p.tables e below (T.setTop g) target := by
  obtain ⟨k, n, ⟨cl, A, q1, S, q3, H, G⟩, hn⟩ := V
  have hb := own_bounds (Z := Z) (h := h) (a := a) S hn hj
  obtain ⟨T', h', X', e', W, st⟩ := stJ X hx hZ eT A (j := j) hb hg hs hd
  have V' := Arv.set A q1 S q3 H G (v := .long x) rfl W j.toInt.toNat rfl (by simp only [List.length_map]; omega)
  rw [own_mapS] at V'
  exact ⟨T', h', _, X', Fr.snoc X' N ha, e', Keep.of_wr W, ⟨k, n, V', by simpa using hn⟩, st⟩
/-- new -/
theorem own_new (X : Stand p l e R s m args below meth c T locs cells slots) (hx : p.tables.exec = Jvm.exec) (hZ : Z.Warmed39 s.vm) {own C : String} {index n : Nat} (hown : s.vm.findClass own = some m.cls) (w : (Cond.classLink own index C).before a0 Z = true) (wi : (Cond.instantiable C n).before a0 Z = true) (wz : (Cond.initialized C).before a0 Z = true) (eT : T.heap = h)
    {g : JFrame} (hg : g.method = m) (hd : decode c.code g.pc = .ok (.new index, 3)) (hc : cells + 1 ≤ R.cells) (hl : slots + n ≤ R.slots) :
    ∃ T' h' a, Stand p l e R s m args below meth c T' locs (cells + 1) (slots + n) ∧ T'.heap = h' ∧ Keep h h' [] ∧ h.size ≤ a ∧ Exa Z h' a C ∧ (∀ {O nm d : String} {ty : FieldType}, Laid Z a0 C O nm d → parseFieldDescriptor d = some ty → Fld Z h' a O nm d (defaultValue ty)) ∧
      ∀ target, Steps p.tables e below (T'.setTop { g with pc := g.pc + 3, stack := .ref a :: g.stack }) target → Steps p.tables e below (T.setTop g) target := by
  obtain ⟨T', h', X', e', E, A, D, -, st⟩ := newO X hx hZ hown w wi wz eT hg hd hc hl
  exact ⟨T', h', h.size, X', e', own_keepE E, Nat.le_refl _, A, D, st⟩
end Heap
theorem own_pd0 : parseMethodDescriptor "()V" = some ⟨[], none⟩ := by decide +kernel
theorem own_pd1 : parseMethodDescriptor "(ZZZZ)V" = some ⟨[.boolean, .boolean, .boolean, .boolean], none⟩ := by decide +kernel
theorem own_pd2 : parseMethodDescriptor "()Z" = some ⟨[], some .boolean⟩ := by decide +kernel
theorem own_pd3 : parseMethodDescriptor "()Lcom/example/tx1/tx1/FailureVerdict$PartCommitted;" = some ⟨[], some (.object "com/example/tx1/tx1/FailureVerdict$PartCommitted")⟩ := by decide +kernel
theorem own_d2_0 : decode jdk_30_method_1_code 0 = .ok (.aload_n 0, 1) := by decide +kernel
theorem own_d2_1 : decode jdk_30_method_1_code 1 = .ok (.invokespecial 1, 3) := by decide +kernel
theorem own_d2_4 : decode jdk_30_method_1_code 4 = .ok (.return_, 1) := by decide +kernel
theorem own_pn2 : plainName "java/lang/Record" = true := by first | (simp [plainName, overriddenIn]; done) | decide +kernel
theorem own_ef2 (m : MethodId) (o0 : Addr) : entryFrame m #[(.ref o0)] 1 = mkF m 0 #[.val (.ref o0)] [] := by first | (simp [entryFrame, mkF, argsToLocals, Value.category]; done) | rfl
abbrev own_R2 : Room := { frames := 1, cells := 0, slots := 0, locals := 12 }
def own_Q2 (Z : State) (o0 : Addr) (h0 : Heap) (n0 : Nat) (vz : Option Value) (h : Heap) (Lz : List Loc) : Prop := vz = none ∧ Fr n0 Lz ∧ Keep h0 h [] ∧ True
set_option maxRecDepth 65536 in
set_option maxHeartbeats 40000000 in
theorem own_rm2 (l : Launch) (Z : State) (a0 : Array Value) (hw : ∀ d ∈ tables_1, d.before a0 Z = true) (ws : List Jvm.Cond) (o0 : Addr) (h0 : Heap) (n0 : Nat) (Z0 : n0 ≤ h0.size) :
    MetFree l (⟨"java/lang/Record", "<init>", "()V"⟩ : MethodName) (head1 (Jvm.Cond.code (⟨"java/lang/Record", "<init>", "()V"⟩ : MethodName) jdk_30_method_1_code 1 none :: ws) own_R2) (fun a U => a = #[(.ref o0)] ∧ Z.Warmed39 U.vm ∧ U.heap = h0) (fun _ _ _ _ _ => True) (fun _ U o U' => ∃ vz Lz, o = .returned vz ∧ own_Q2 Z o0 h0 n0 vz U'.heap Lz ∧ FrameEnd U o U' Lz own_R2.cells own_R2.slots) := by
  refine MetFree.of_bodySF (plainFor_of_name own_pn2) hisR ?_
  intro p e s m args below meth c s₁ Bd hml0 hP hK
  obtain ⟨rfl, hZ, hh⟩ := hP
  have hx := Bd.exec
  have hby := Bd.bytes
  have hml : c.maxLocals = 1 := hml0
  have hown : s.vm.findClass "java/lang/Record" = some m.cls := findClass_of_methodNamed Bd.named
  have hnm := (name_of_methodNamed Bd.named Bd.method).1
  have X0 : Stand p l e own_R2 s m #[(.ref o0)] below meth c s₁ [] 0 0 := Stand.of_body Bd
  have e0 : s₁.heap = h0 := by rw [← hh, Bd.state]; rfl
  show own_End p e below s (fun vz h Lz => vz = none ∧ Fr n0 Lz ∧ Keep h0 h [] ∧ True) own_R2.cells own_R2.slots s₁ (entryFrame m #[(.ref o0)] 1)
  refine own_End.go (fun t k => castTop (own_ef2 m o0) k) ?_
  show own_End p e below s _ _ _ s₁ (mkF m 0 #[.val (.ref o0)] [])
  have N0 := Fr.nil n0
  have K0 : Keep h0 h0 [] := Keep.refl h0 _
  have st1 : ∀ t, Steps p.tables e below (s₁.setTop (mkF m 1 #[.val (.ref o0)] [(.ref o0)])) t → Steps p.tables e below (s₁.setTop (mkF m 0 #[.val (.ref o0)] [])) t := by
    intro t k
    show Steps p.tables e below (s₁.setTop (mkF m 0 #[.val (.ref o0)] [])) _
    refine XS.aloadN X0.here hx rfl (hb hby own_d2_0) rfl rfl ?_
    exact k
  obtain ⟨T2, X2, e2, st2⟩ := initO X0 hx hZ hown (hw _ (List.mem_of_getElem? (i := 11) rfl)) (hw _ (List.mem_of_getElem? (i := 12) rfl)) (hw _ (List.mem_of_getElem? (i := 13) rfl)) e0 (g := (mkF m 1 #[.val (.ref o0)] [(.ref o0)])) rfl (by rw [hml]; rfl) rfl (hb hby own_d2_1) (by decide) (W := 0) (by show 2 * 0 + _ ≤ _; exact Nat.le_of_eq rfl) (by decide)
  refine own_End.go (fun t k => st1 _ (st2 _ k)) ?_
  exact own_leafV X2 hx Bd.notSynchronized Bd.returns (hb hby own_d2_4) ⟨rfl, N0, (by rw [e2]; exact K0), trivial⟩ (by decide) (by decide)
theorem own_d1_0 : decode prog_7_method_1_code 0 = .ok (.aload_n 0, 1) := by decide +kernel
theorem own_d1_1 : decode prog_7_method_1_code 1 = .ok (.invokespecial 3, 3) := by decide +kernel
theorem own_d1_4 : decode prog_7_method_1_code 4 = .ok (.aload_n 0, 1) := by decide +kernel
theorem own_d1_5 : decode prog_7_method_1_code 5 = .ok (.iload_n 1, 1) := by decide +kernel
theorem own_d1_6 : decode prog_7_method_1_code 6 = .ok (.putfield 9, 3) := by decide +kernel
theorem own_d1_9 : decode prog_7_method_1_code 9 = .ok (.aload_n 0, 1) := by decide +kernel
theorem own_d1_10 : decode prog_7_method_1_code 10 = .ok (.iload_n 2, 1) := by decide +kernel
theorem own_d1_11 : decode prog_7_method_1_code 11 = .ok (.putfield 15, 3) := by decide +kernel
theorem own_d1_14 : decode prog_7_method_1_code 14 = .ok (.aload_n 0, 1) := by decide +kernel
theorem own_d1_15 : decode prog_7_method_1_code 15 = .ok (.iload_n 3, 1) := by decide +kernel
theorem own_d1_16 : decode prog_7_method_1_code 16 = .ok (.putfield 18, 3) := by decide +kernel
theorem own_d1_19 : decode prog_7_method_1_code 19 = .ok (.aload_n 0, 1) := by decide +kernel
theorem own_d1_20 : decode prog_7_method_1_code 20 = .ok (.iload 4, 2) := by decide +kernel
theorem own_d1_22 : decode prog_7_method_1_code 22 = .ok (.putfield 21, 3) := by decide +kernel
theorem own_d1_25 : decode prog_7_method_1_code 25 = .ok (.return_, 1) := by decide +kernel
theorem own_pn1 : plainName "com/example/tx1/tx1/FailureVerdict$PartCommitted" = true := by first | (simp [plainName, overriddenIn]; done) | decide +kernel
theorem own_ef1 (m : MethodId) (o0 : Addr) (p1 : Int32) (p2 : Int32) (p3 : Int32) (p4 : Int32) : entryFrame m #[(.ref o0), (.int p1), (.int p2), (.int p3), (.int p4)] 5 = mkF m 0 #[.val (.ref o0), .val (.int p1), .val (.int p2), .val (.int p3), .val (.int p4)] [] := by first | (simp [entryFrame, mkF, argsToLocals, Value.category]; done) | rfl
abbrev own_R1 : Room := { frames := 2, cells := 0, slots := 0, locals := 24 }
def own_Q1 (Z : State) (o0 : Addr) (p1 : Int32) (p2 : Int32) (p3 : Int32) (p4 : Int32) (h0 : Heap) (n0 : Nat) (vz : Option Value) (h : Heap) (Lz : List Loc) : Prop := vz = none ∧ Fr n0 Lz ∧ Keep h0 h [o0] ∧ Exa Z h o0 "com/example/tx1/tx1/FailureVerdict$PartCommitted" ∧ Fld Z h o0 "com/example/tx1/tx1/FailureVerdict$PartCommitted" "implicitly" "Z" (.int (nar .boolean p1)) ∧ Fld Z h o0 "com/example/tx1/tx1/FailureVerdict$PartCommitted" "toAsk" "Z" (.int (nar .boolean p2)) ∧ Fld Z h o0 "com/example/tx1/tx1/FailureVerdict$PartCommitted" "unseen" "Z" (.int (nar .boolean p3)) ∧ Fld Z h o0 "com/example/tx1/tx1/FailureVerdict$PartCommitted" "told" "Z" (.int (nar .boolean p4)) ∧ True
set_option maxRecDepth 65536 in
set_option maxHeartbeats 40000000 in
theorem own_rm1 (l : Launch) (Z : State) (a0 : Array Value) (hw : ∀ d ∈ tables_1, d.before a0 Z = true) (ws : List Jvm.Cond) (o0 : Addr) (p1 : Int32) (p2 : Int32) (p3 : Int32) (p4 : Int32) (h0 : Heap) (n0 : Nat) (Z0 : n0 ≤ h0.size) (E_o0 : Exa Z h0 o0 "com/example/tx1/tx1/FailureVerdict$PartCommitted") (F_o0_implicitly : Fld Z h0 o0 "com/example/tx1/tx1/FailureVerdict$PartCommitted" "implicitly" "Z" (.int (0 : Int32))) (F_o0_toAsk : Fld Z h0 o0 "com/example/tx1/tx1/FailureVerdict$PartCommitted" "toAsk" "Z" (.int (0 : Int32))) (F_o0_unseen : Fld Z h0 o0 "com/example/tx1/tx1/FailureVerdict$PartCommitted" "unseen" "Z" (.int (0 : Int32))) (F_o0_told : Fld Z h0 o0 "com/example/tx1/tx1/FailureVerdict$PartCommitted" "told" "Z" (.int (0 : Int32))) (g_o0 : n0 ≤ o0) :
    MetFree l (⟨"com/example/tx1/tx1/FailureVerdict$PartCommitted", "<init>", "(ZZZZ)V"⟩ : MethodName) (head1 (Jvm.Cond.code (⟨"com/example/tx1/tx1/FailureVerdict$PartCommitted", "<init>", "(ZZZZ)V"⟩ : MethodName) prog_7_method_1_code 5 none :: ws) own_R1) (fun a U => a = #[(.ref o0), (.int p1), (.int p2), (.int p3), (.int p4)] ∧ Z.Warmed39 U.vm ∧ U.heap = h0) (fun _ _ _ _ _ => True) (fun _ U o U' => ∃ vz Lz, o = .returned vz ∧ own_Q1 Z o0 p1 p2 p3 p4 h0 n0 vz U'.heap Lz ∧ FrameEnd U o U' Lz own_R1.cells own_R1.slots) := by
  refine MetFree.of_bodySF (plainFor_of_name own_pn1) hisR ?_
  intro p e s m args below meth c s₁ Bd hml0 hP hK
  obtain ⟨rfl, hZ, hh⟩ := hP
  have hx := Bd.exec
  have hby := Bd.bytes
  have hml : c.maxLocals = 5 := hml0
  have hown : s.vm.findClass "com/example/tx1/tx1/FailureVerdict$PartCommitted" = some m.cls := findClass_of_methodNamed Bd.named
  have hnm := (name_of_methodNamed Bd.named Bd.method).1
  have X0 : Stand p l e own_R1 s m #[(.ref o0), (.int p1), (.int p2), (.int p3), (.int p4)] below meth c s₁ [] 0 0 := Stand.of_body Bd
  have e0 : s₁.heap = h0 := by rw [← hh, Bd.state]; rfl
  show own_End p e below s (fun vz h Lz => vz = none ∧ Fr n0 Lz ∧ Keep h0 h [o0] ∧ Exa Z h o0 "com/example/tx1/tx1/FailureVerdict$PartCommitted" ∧ Fld Z h o0 "com/example/tx1/tx1/FailureVerdict$PartCommitted" "implicitly" "Z" (.int (nar .boolean p1)) ∧ Fld Z h o0 "com/example/tx1/tx1/FailureVerdict$PartCommitted" "toAsk" "Z" (.int (nar .boolean p2)) ∧ Fld Z h o0 "com/example/tx1/tx1/FailureVerdict$PartCommitted" "unseen" "Z" (.int (nar .boolean p3)) ∧ Fld Z h o0 "com/example/tx1/tx1/FailureVerdict$PartCommitted" "told" "Z" (.int (nar .boolean p4)) ∧ True) own_R1.cells own_R1.slots s₁ (entryFrame m #[(.ref o0), (.int p1), (.int p2), (.int p3), (.int p4)] 5)
  refine own_End.go (fun t k => castTop (own_ef1 m o0 p1 p2 p3 p4) k) ?_
  show own_End p e below s _ _ _ s₁ (mkF m 0 #[.val (.ref o0), .val (.int p1), .val (.int p2), .val (.int p3), .val (.int p4)] [])
  have N0 := Fr.nil n0
  have K0 : Keep h0 h0 [o0] := Keep.refl h0 _
  have st1 : ∀ t, Steps p.tables e below (s₁.setTop (mkF m 1 #[.val (.ref o0), .val (.int p1), .val (.int p2), .val (.int p3), .val (.int p4)] [(.ref o0)])) t → Steps p.tables e below (s₁.setTop (mkF m 0 #[.val (.ref o0), .val (.int p1), .val (.int p2), .val (.int p3), .val (.int p4)] [])) t := by
    intro t k
    show Steps p.tables e below (s₁.setTop (mkF m 0 #[.val (.ref o0), .val (.int p1), .val (.int p2), .val (.int p3), .val (.int p4)] [])) _
    refine XS.aloadN X0.here hx rfl (hb hby own_d1_0) rfl rfl ?_
    exact k
  obtain ⟨_, _, ⟨T2, L2, k2, n2⟩, -, X2, ⟨Lc2, hQ2, l2, y2, z2⟩, st2⟩ := X0.specialBack hx (y := (⟨"java/lang/Record", "<init>", "()V"⟩ : MethodName)) rfl hown (mvT hZ (hw _ (List.mem_of_getElem? (i := 6) rfl))) (mvT hZ (hw _ (List.mem_of_getElem? (i := 7) rfl))) (mvT hZ (hw _ (List.mem_of_getElem? (i := 10) rfl))) (by decide) (backOf (W := 0) (own_rm2 l Z a0 hw [] o0 h0 n0 Z0) hZ (hw _ (List.mem_of_getElem? (i := 10) rfl)) (hw _ (List.mem_of_getElem? (i := 9) rfl)) (by decide) (by decide)) (g := (mkF m 1 #[.val (.ref o0), .val (.int p1), .val (.int p2), .val (.int p3), .val (.int p4)] [(.ref o0)])) rfl (by rw [hml]; rfl) (Steps.refl _) (a := o0) (argsL := []) (rest := []) (lenOf own_pd0 rfl) rfl (by show 2 * 0 + _ ≤ _; exact Nat.le_of_eq rfl) (hb hby own_d1_1) (fun _ _ => ⟨rfl, e0, (by decide : 0 + 0 ≤ _), (by decide : 0 + 0 ≤ _)⟩)
  dsimp only [Pt.U, Pt.locs, Pt.cells, Pt.slots] at X2 l2 y2 z2 st2 hQ2
  subst y2 z2
  obtain ⟨rfl, Nq2, K2, -⟩ := hQ2
  have N2 : Fr n0 L2 := by rw [l2]; exact Fr.app N0 Nq2
  have X2' : Stand p l e own_R1 s m #[(.ref o0), (.int p1), (.int p2), (.int p3), (.int p4)] below meth c T2 L2 0 0 := X2
  have f3 : Exa Z T2.heap o0 "com/example/tx1/tx1/FailureVerdict$PartCommitted" := E_o0.keep K2
  have f4 : Fld Z T2.heap o0 "com/example/tx1/tx1/FailureVerdict$PartCommitted" "implicitly" "Z" (.int (0 : Int32)) := F_o0_implicitly.keep K2 nin0
  have f5 : Fld Z T2.heap o0 "com/example/tx1/tx1/FailureVerdict$PartCommitted" "toAsk" "Z" (.int (0 : Int32)) := F_o0_toAsk.keep K2 nin0
  have f6 : Fld Z T2.heap o0 "com/example/tx1/tx1/FailureVerdict$PartCommitted" "unseen" "Z" (.int (0 : Int32)) := F_o0_unseen.keep K2 nin0
  have f7 : Fld Z T2.heap o0 "com/example/tx1/tx1/FailureVerdict$PartCommitted" "told" "Z" (.int (0 : Int32)) := F_o0_told.keep K2 nin0
  have Zp8 : n0 ≤ T2.heap.size := Nat.le_trans Z0 K2.1
  have Kz8 : Keep h0 T2.heap [o0] := K0.trans K2 all0
  have st2 : ∀ t, Steps p.tables e below (T2.setTop (mkF m 4 #[.val (.ref o0), .val (.int p1), .val (.int p2), .val (.int p3), .val (.int p4)] [])) t → Steps p.tables e below (s₁.setTop (mkF m 1 #[.val (.ref o0), .val (.int p1), .val (.int p2), .val (.int p3), .val (.int p4)] [(.ref o0)])) t := fun t k => st2.trans k
  have st9 : ∀ t, Steps p.tables e below (T2.setTop (mkF m 6 #[.val (.ref o0), .val (.int p1), .val (.int p2), .val (.int p3), .val (.int p4)] [(.int p1), (.ref o0)])) t → Steps p.tables e below (T2.setTop (mkF m 4 #[.val (.ref o0), .val (.int p1), .val (.int p2), .val (.int p3), .val (.int p4)] [])) t := by
    intro t k
    show Steps p.tables e below (T2.setTop (mkF m 4 #[.val (.ref o0), .val (.int p1), .val (.int p2), .val (.int p3), .val (.int p4)] [])) _
    refine XS.aloadN X2'.here hx rfl (hb hby own_d1_4) rfl rfl ?_
    show Steps p.tables e below (T2.setTop (mkF m 5 #[.val (.ref o0), .val (.int p1), .val (.int p2), .val (.int p3), .val (.int p4)] [(.ref o0)])) _
    refine XS.iloadN X2'.here hx rfl (hb hby own_d1_5) rfl ?_
    exact k
  obtain ⟨T10, h10, X10, e10, W10, st10⟩ := putFN X2' hx hZ hown (hw _ (List.mem_of_getElem? (i := 14) rfl)) Via.refl (rfl : T2.heap = T2.heap) f4 f3 (Or.inr ⟨(hw _ (List.mem_of_getElem? (i := 15) rfl)), rfl, hnm⟩) (hw _ (List.mem_of_getElem? (i := 1) rfl)) (ty := .boolean) (v' := (.int (nar .boolean p1))) (by decide) rfl (fits_nar_bool _) (g := (mkF m 6 #[.val (.ref o0), .val (.int p1), .val (.int p2), .val (.int p3), .val (.int p4)] [(.int p1), (.ref o0)])) rfl rfl (hb hby own_d1_6)
  obtain ⟨L10, X10, N10⟩ : ∃ L : List Loc, Stand p l e own_R1 s m #[(.ref o0), (.int p1), (.int p2), (.int p3), (.int p4)] below meth c T10 L 0 0 ∧ Fr n0 L := ⟨_, X10, Fr.snoc X10 N2 g_o0⟩
  have K10 := Keep.of_wr W10
  have Fw10 : Fld Z h10 o0 "com/example/tx1/tx1/FailureVerdict$PartCommitted" "implicitly" "Z" (.int (nar .boolean p1)) := f4.same W10
  have Ew10 : Exa Z h10 o0 "com/example/tx1/tx1/FailureVerdict$PartCommitted" := f3.wr W10
  have Fo11 : Fld Z h10 o0 "com/example/tx1/tx1/FailureVerdict$PartCommitted" "toAsk" "Z" (.int (0 : Int32)) := f5.other W10 (Or.inr (slot_ne (Or.inr (hw _ (List.mem_of_getElem? (i := 17) rfl))) (Or.inr (hw _ (List.mem_of_getElem? (i := 15) rfl))) (by decide) (t := .boolean) (t' := .boolean) (by decide) (by decide)))
  have Fo12 : Fld Z h10 o0 "com/example/tx1/tx1/FailureVerdict$PartCommitted" "unseen" "Z" (.int (0 : Int32)) := f6.other W10 (Or.inr (slot_ne (Or.inr (hw _ (List.mem_of_getElem? (i := 19) rfl))) (Or.inr (hw _ (List.mem_of_getElem? (i := 15) rfl))) (by decide) (t := .boolean) (t' := .boolean) (by decide) (by decide)))
  have Fo13 : Fld Z h10 o0 "com/example/tx1/tx1/FailureVerdict$PartCommitted" "told" "Z" (.int (0 : Int32)) := f7.other W10 (Or.inr (slot_ne (Or.inr (hw _ (List.mem_of_getElem? (i := 21) rfl))) (Or.inr (hw _ (List.mem_of_getElem? (i := 15) rfl))) (by decide) (t := .boolean) (t' := .boolean) (by decide) (by decide)))
  have Zp14 : n0 ≤ h10.size := Nat.le_trans Zp8 K10.1
  have Kz14 : Keep h0 h10 [o0] := Kz8.trans K10 (allS (Or.inl (List.mem_of_getElem? (i := 0) rfl)) all0)
  have st15 : ∀ t, Steps p.tables e below (T10.setTop (mkF m 11 #[.val (.ref o0), .val (.int p1), .val (.int p2), .val (.int p3), .val (.int p4)] [(.int p2), (.ref o0)])) t → Steps p.tables e below (T10.setTop (mkF m 9 #[.val (.ref o0), .val (.int p1), .val (.int p2), .val (.int p3), .val (.int p4)] [])) t := by
    intro t k
    show Steps p.tables e below (T10.setTop (mkF m 9 #[.val (.ref o0), .val (.int p1), .val (.int p2), .val (.int p3), .val (.int p4)] [])) _
    refine XS.aloadN X10.here hx rfl (hb hby own_d1_9) rfl rfl ?_
    show Steps p.tables e below (T10.setTop (mkF m 10 #[.val (.ref o0), .val (.int p1), .val (.int p2), .val (.int p3), .val (.int p4)] [(.ref o0)])) _
    refine XS.iloadN X10.here hx rfl (hb hby own_d1_10) rfl ?_
    exact k
  obtain ⟨T16, h16, X16, e16, W16, st16⟩ := putFN X10 hx hZ hown (hw _ (List.mem_of_getElem? (i := 16) rfl)) Via.refl e10 Fo11 Ew10 (Or.inr ⟨(hw _ (List.mem_of_getElem? (i := 17) rfl)), rfl, hnm⟩) (hw _ (List.mem_of_getElem? (i := 1) rfl)) (ty := .boolean) (v' := (.int (nar .boolean p2))) (by decide) rfl (fits_nar_bool _) (g := (mkF m 11 #[.val (.ref o0), .val (.int p1), .val (.int p2), .val (.int p3), .val (.int p4)] [(.int p2), (.ref o0)])) rfl rfl (hb hby own_d1_11)
  obtain ⟨L16, X16, N16⟩ : ∃ L : List Loc, Stand p l e own_R1 s m #[(.ref o0), (.int p1), (.int p2), (.int p3), (.int p4)] below meth c T16 L 0 0 ∧ Fr n0 L := ⟨_, X16, Fr.snoc X16 N10 g_o0⟩
  have K16 := Keep.of_wr W16
  have Fw16 : Fld Z h16 o0 "com/example/tx1/tx1/FailureVerdict$PartCommitted" "toAsk" "Z" (.int (nar .boolean p2)) := Fo11.same W16
  have Ew16 : Exa Z h16 o0 "com/example/tx1/tx1/FailureVerdict$PartCommitted" := Ew10.wr W16
  have Fo17 : Fld Z h16 o0 "com/example/tx1/tx1/FailureVerdict$PartCommitted" "implicitly" "Z" (.int (nar .boolean p1)) := Fw10.other W16 (Or.inr (slot_ne (Or.inr (hw _ (List.mem_of_getElem? (i := 15) rfl))) (Or.inr (hw _ (List.mem_of_getElem? (i := 17) rfl))) (by decide) (t := .boolean) (t' := .boolean) (by decide) (by decide)))
  have Fo18 : Fld Z h16 o0 "com/example/tx1/tx1/FailureVerdict$PartCommitted" "unseen" "Z" (.int (0 : Int32)) := Fo12.other W16 (Or.inr (slot_ne (Or.inr (hw _ (List.mem_of_getElem? (i := 19) rfl))) (Or.inr (hw _ (List.mem_of_getElem? (i := 17) rfl))) (by decide) (t := .boolean) (t' := .boolean) (by decide) (by decide)))
  have Fo19 : Fld Z h16 o0 "com/example/tx1/tx1/FailureVerdict$PartCommitted" "told" "Z" (.int (0 : Int32)) := Fo13.other W16 (Or.inr (slot_ne (Or.inr (hw _ (List.mem_of_getElem? (i := 21) rfl))) (Or.inr (hw _ (List.mem_of_getElem? (i := 17) rfl))) (by decide) (t := .boolean) (t' := .boolean) (by decide) (by decide)))
  have Zp20 : n0 ≤ h16.size := Nat.le_trans Zp14 K16.1
  have Kz20 : Keep h0 h16 [o0] := Kz14.trans K16 (allS (Or.inl (List.mem_of_getElem? (i := 0) rfl)) all0)
  have st21 : ∀ t, Steps p.tables e below (T16.setTop (mkF m 16 #[.val (.ref o0), .val (.int p1), .val (.int p2), .val (.int p3), .val (.int p4)] [(.int p3), (.ref o0)])) t → Steps p.tables e below (T16.setTop (mkF m 14 #[.val (.ref o0), .val (.int p1), .val (.int p2), .val (.int p3), .val (.int p4)] [])) t := by
    intro t k
    show Steps p.tables e below (T16.setTop (mkF m 14 #[.val (.ref o0), .val (.int p1), .val (.int p2), .val (.int p3), .val (.int p4)] [])) _
    refine XS.aloadN X16.here hx rfl (hb hby own_d1_14) rfl rfl ?_
    show Steps p.tables e below (T16.setTop (mkF m 15 #[.val (.ref o0), .val (.int p1), .val (.int p2), .val (.int p3), .val (.int p4)] [(.ref o0)])) _
    refine XS.iloadN X16.here hx rfl (hb hby own_d1_15) rfl ?_
    exact k
  obtain ⟨T22, h22, X22, e22, W22, st22⟩ := putFN X16 hx hZ hown (hw _ (List.mem_of_getElem? (i := 18) rfl)) Via.refl e16 Fo18 Ew16 (Or.inr ⟨(hw _ (List.mem_of_getElem? (i := 19) rfl)), rfl, hnm⟩) (hw _ (List.mem_of_getElem? (i := 1) rfl)) (ty := .boolean) (v' := (.int (nar .boolean p3))) (by decide) rfl (fits_nar_bool _) (g := (mkF m 16 #[.val (.ref o0), .val (.int p1), .val (.int p2), .val (.int p3), .val (.int p4)] [(.int p3), (.ref o0)])) rfl rfl (hb hby own_d1_16)
  obtain ⟨L22, X22, N22⟩ : ∃ L : List Loc, Stand p l e own_R1 s m #[(.ref o0), (.int p1), (.int p2), (.int p3), (.int p4)] below meth c T22 L 0 0 ∧ Fr n0 L := ⟨_, X22, Fr.snoc X22 N16 g_o0⟩
  have K22 := Keep.of_wr W22
  have Fw22 : Fld Z h22 o0 "com/example/tx1/tx1/FailureVerdict$PartCommitted" "unseen" "Z" (.int (nar .boolean p3)) := Fo18.same W22
  have Ew22 : Exa Z h22 o0 "com/example/tx1/tx1/FailureVerdict$PartCommitted" := Ew16.wr W22
  have Fo23 : Fld Z h22 o0 "com/example/tx1/tx1/FailureVerdict$PartCommitted" "toAsk" "Z" (.int (nar .boolean p2)) := Fw16.other W22 (Or.inr (slot_ne (Or.inr (hw _ (List.mem_of_getElem? (i := 17) rfl))) (Or.inr (hw _ (List.mem_of_getElem? (i := 19) rfl))) (by decide) (t := .boolean) (t' := .boolean) (by decide) (by decide)))
  have Fo24 : Fld Z h22 o0 "com/example/tx1/tx1/FailureVerdict$PartCommitted" "implicitly" "Z" (.int (nar .boolean p1)) := Fo17.other W22 (Or.inr (slot_ne (Or.inr (hw _ (List.mem_of_getElem? (i := 15) rfl))) (Or.inr (hw _ (List.mem_of_getElem? (i := 19) rfl))) (by decide) (t := .boolean) (t' := .boolean) (by decide) (by decide)))
  have Fo25 : Fld Z h22 o0 "com/example/tx1/tx1/FailureVerdict$PartCommitted" "told" "Z" (.int (0 : Int32)) := Fo19.other W22 (Or.inr (slot_ne (Or.inr (hw _ (List.mem_of_getElem? (i := 21) rfl))) (Or.inr (hw _ (List.mem_of_getElem? (i := 19) rfl))) (by decide) (t := .boolean) (t' := .boolean) (by decide) (by decide)))
  have Zp26 : n0 ≤ h22.size := Nat.le_trans Zp20 K22.1
  have Kz26 : Keep h0 h22 [o0] := Kz20.trans K22 (allS (Or.inl (List.mem_of_getElem? (i := 0) rfl)) all0)
  have st27 : ∀ t, Steps p.tables e below (T22.setTop (mkF m 22 #[.val (.ref o0), .val (.int p1), .val (.int p2), .val (.int p3), .val (.int p4)] [(.int p4), (.ref o0)])) t → Steps p.tables e below (T22.setTop (mkF m 19 #[.val (.ref o0), .val (.int p1), .val (.int p2), .val (.int p3), .val (.int p4)] [])) t := by
    intro t k
    show Steps p.tables e below (T22.setTop (mkF m 19 #[.val (.ref o0), .val (.int p1), .val (.int p2), .val (.int p3), .val (.int p4)] [])) _
    refine XS.aloadN X22.here hx rfl (hb hby own_d1_19) rfl rfl ?_
    show Steps p.tables e below (T22.setTop (mkF m 20 #[.val (.ref o0), .val (.int p1), .val (.int p2), .val (.int p3), .val (.int p4)] [(.ref o0)])) _
    refine XS.iload X22.here hx rfl (hb hby own_d1_20) rfl ?_
    exact k
  obtain ⟨T28, h28, X28, e28, W28, st28⟩ := putFN X22 hx hZ hown (hw _ (List.mem_of_getElem? (i := 20) rfl)) Via.refl e22 Fo25 Ew22 (Or.inr ⟨(hw _ (List.mem_of_getElem? (i := 21) rfl)), rfl, hnm⟩) (hw _ (List.mem_of_getElem? (i := 1) rfl)) (ty := .boolean) (v' := (.int (nar .boolean p4))) (by decide) rfl (fits_nar_bool _) (g := (mkF m 22 #[.val (.ref o0), .val (.int p1), .val (.int p2), .val (.int p3), .val (.int p4)] [(.int p4), (.ref o0)])) rfl rfl (hb hby own_d1_22)
  obtain ⟨L28, X28, N28⟩ : ∃ L : List Loc, Stand p l e own_R1 s m #[(.ref o0), (.int p1), (.int p2), (.int p3), (.int p4)] below meth c T28 L 0 0 ∧ Fr n0 L := ⟨_, X28, Fr.snoc X28 N22 g_o0⟩
  have K28 := Keep.of_wr W28
  have Fw28 : Fld Z h28 o0 "com/example/tx1/tx1/FailureVerdict$PartCommitted" "told" "Z" (.int (nar .boolean p4)) := Fo25.same W28
  have Ew28 : Exa Z h28 o0 "com/example/tx1/tx1/FailureVerdict$PartCommitted" := Ew22.wr W28
  have Fo29 : Fld Z h28 o0 "com/example/tx1/tx1/FailureVerdict$PartCommitted" "unseen" "Z" (.int (nar .boolean p3)) := Fw22.other W28 (Or.inr (slot_ne (Or.inr (hw _ (List.mem_of_getElem? (i := 19) rfl))) (Or.inr (hw _ (List.mem_of_getElem? (i := 21) rfl))) (by decide) (t := .boolean) (t' := .boolean) (by decide) (by decide)))
  have Fo30 : Fld Z h28 o0 "com/example/tx1/tx1/FailureVerdict$PartCommitted" "toAsk" "Z" (.int (nar .boolean p2)) := Fo23.other W28 (Or.inr (slot_ne (Or.inr (hw _ (List.mem_of_getElem? (i := 17) rfl))) (Or.inr (hw _ (List.mem_of_getElem? (i := 21) rfl))) (by decide) (t := .boolean) (t' := .boolean) (by decide) (by decide)))
  have Fo31 : Fld Z h28 o0 "com/example/tx1/tx1/FailureVerdict$PartCommitted" "implicitly" "Z" (.int (nar .boolean p1)) := Fo24.other W28 (Or.inr (slot_ne (Or.inr (hw _ (List.mem_of_getElem? (i := 15) rfl))) (Or.inr (hw _ (List.mem_of_getElem? (i := 21) rfl))) (by decide) (t := .boolean) (t' := .boolean) (by decide) (by decide)))
  have Zp32 : n0 ≤ h28.size := Nat.le_trans Zp26 K28.1
  have Kz32 : Keep h0 h28 [o0] := Kz26.trans K28 (allS (Or.inl (List.mem_of_getElem? (i := 0) rfl)) all0)
  refine own_End.go (fun t k => st1 _ (st2 _ (st9 _ (st10 _ (st15 _ (st16 _ (st21 _ (st22 _ (st27 _ (st28 _ k)))))))))) ?_
  exact own_leafV X28 hx Bd.notSynchronized Bd.returns (hb hby own_d1_25) ⟨rfl, N28, (by rw [e28]; exact Kz32), (by rw [e28]; exact Ew28), (by rw [e28]; exact Fo31), (by rw [e28]; exact Fo30), (by rw [e28]; exact Fo29), (by rw [e28]; exact Fw28), trivial⟩ (by decide) (by decide)
theorem own_d4_0 : decode prog_7_method_5_code 0 = .ok (.aload_n 0, 1) := by decide +kernel
theorem own_d4_1 : decode prog_7_method_5_code 1 = .ok (.getfield 9, 3) := by decide +kernel
theorem own_d4_4 : decode prog_7_method_5_code 4 = .ok (.ifCond .ne 10, 3) := by decide +kernel
theorem own_d4_7 : decode prog_7_method_5_code 7 = .ok (.aload_n 0, 1) := by decide +kernel
theorem own_d4_8 : decode prog_7_method_5_code 8 = .ok (.getfield 18, 3) := by decide +kernel
theorem own_d4_11 : decode prog_7_method_5_code 11 = .ok (.ifCond .eq 14, 3) := by decide +kernel
theorem own_d4_14 : decode prog_7_method_5_code 14 = .ok (.aload_n 0, 1) := by decide +kernel
theorem own_d4_15 : decode prog_7_method_5_code 15 = .ok (.getfield 21, 3) := by decide +kernel
theorem own_d4_18 : decode prog_7_method_5_code 18 = .ok (.ifCond .ne 7, 3) := by decide +kernel
theorem own_d4_21 : decode prog_7_method_5_code 21 = .ok (.iconst 1, 1) := by decide +kernel
theorem own_d4_22 : decode prog_7_method_5_code 22 = .ok (.goto 4, 3) := by decide +kernel
theorem own_d4_25 : decode prog_7_method_5_code 25 = .ok (.iconst 0, 1) := by decide +kernel
theorem own_d4_26 : decode prog_7_method_5_code 26 = .ok (.ireturn, 1) := by decide +kernel
theorem own_pn4 : plainName "com/example/tx1/tx1/FailureVerdict$PartCommitted" = true := by first | (simp [plainName, overriddenIn]; done) | decide +kernel
theorem own_ef4 (m : MethodId) (o0 : Addr) : entryFrame m #[(.ref o0)] 1 = mkF m 0 #[.val (.ref o0)] [] := by first | (simp [entryFrame, mkF, argsToLocals, Value.category]; done) | rfl
abbrev own_R4 : Room := { frames := 0, cells := 0, slots := 0, locals := 0 }
def own_F4 (w0 : Int32) (w2 : Int32) (w3 : Int32) : Int32 :=
  if w0 = (0 : Int32) then
    if w2 = (0 : Int32) then
      (0 : Int32)
    else
      if w3 = (0 : Int32) then
        (1 : Int32)
      else
        (0 : Int32)
  else
    if w3 = (0 : Int32) then
      (1 : Int32)
    else
      (0 : Int32)
def own_Q4 (Z : State) (o0 : Addr) (w0 : Int32) (w2 : Int32) (w3 : Int32) (h0 : Heap) (n0 : Nat) (vz : Option Value) (h : Heap) (Lz : List Loc) : Prop := vz = some (.int (own_F4 w0 w2 w3)) ∧ Lz = [] ∧ h = h0
theorem own_e4_8 {w0 : Int32} {w2 : Int32} {w3 : Int32} (hc4_3 : w0 = (0 : Int32)) (hc11_6 : w2 = (0 : Int32)) : (nar .boolean (0 : Int32)) = (own_F4 w0 w2 w3) := by
  rw [own_nb0]
  skip
  first
    | (simp only [own_F4, if_pos hc4_3, if_pos hc11_6]; done)
    | (exfalso; contradiction)
theorem own_e4_13 {w0 : Int32} {w2 : Int32} {w3 : Int32} (hc4_3 : w0 = (0 : Int32)) (hc11_6 : ¬ (w2 = (0 : Int32))) (hc18_11 : w3 = (0 : Int32)) : (nar .boolean (1 : Int32)) = (own_F4 w0 w2 w3) := by
  rw [own_nb1]
  skip
  first
    | (simp only [own_F4, if_pos hc4_3, if_neg hc11_6, if_pos hc18_11]; done)
    | (exfalso; contradiction)
theorem own_e4_15 {w0 : Int32} {w2 : Int32} {w3 : Int32} (hc4_3 : w0 = (0 : Int32)) (hc11_6 : ¬ (w2 = (0 : Int32))) (hc18_11 : ¬ (w3 = (0 : Int32))) : (nar .boolean (0 : Int32)) = (own_F4 w0 w2 w3) := by
  rw [own_nb0]
  skip
  first
    | (simp only [own_F4, if_pos hc4_3, if_neg hc11_6, if_neg hc18_11]; done)
    | (exfalso; contradiction)
theorem own_e4_20 {w0 : Int32} {w2 : Int32} {w3 : Int32} (hc4_3 : ¬ (w0 = (0 : Int32))) (hc18_18 : w3 = (0 : Int32)) : (nar .boolean (1 : Int32)) = (own_F4 w0 w2 w3) := by
  rw [own_nb1]
  skip
  first
    | (simp only [own_F4, if_neg hc4_3, if_pos hc18_18]; done)
    | (exfalso; contradiction)
theorem own_e4_22 {w0 : Int32} {w2 : Int32} {w3 : Int32} (hc4_3 : ¬ (w0 = (0 : Int32))) (hc18_18 : ¬ (w3 = (0 : Int32))) : (nar .boolean (0 : Int32)) = (own_F4 w0 w2 w3) := by
  rw [own_nb0]
  skip
  first
    | (simp only [own_F4, if_neg hc4_3, if_neg hc18_18]; done)
    | (exfalso; contradiction)
set_option maxRecDepth 65536 in
set_option maxHeartbeats 40000000 in
theorem own_rm4 (l : Launch) (Z : State) (a0 : Array Value) (hw : ∀ d ∈ tables_1, d.before a0 Z = true) (ws : List Jvm.Cond) (o0 : Addr) (w0 : Int32) (w2 : Int32) (w3 : Int32) (h0 : Heap) (n0 : Nat) (Z0 : n0 ≤ h0.size) (F_o0_implicitly : Fld Z h0 o0 "com/example/tx1/tx1/FailureVerdict$PartCommitted" "implicitly" "Z" (.int w0)) (F_o0_unseen : Fld Z h0 o0 "com/example/tx1/tx1/FailureVerdict$PartCommitted" "unseen" "Z" (.int w2)) (F_o0_told : Fld Z h0 o0 "com/example/tx1/tx1/FailureVerdict$PartCommitted" "told" "Z" (.int w3)) :
    MetFree l (⟨"com/example/tx1/tx1/FailureVerdict$PartCommitted", "untold", "()Z"⟩ : MethodName) (head1 (Jvm.Cond.code (⟨"com/example/tx1/tx1/FailureVerdict$PartCommitted", "untold", "()Z"⟩ : MethodName) prog_7_method_5_code 1 (some .boolean) :: ws) own_R4) (fun a U => a = #[(.ref o0)] ∧ Z.Warmed39 U.vm ∧ U.heap = h0) (fun _ _ _ _ _ => True) (fun _ U o U' => ∃ vz Lz, o = .returned vz ∧ own_Q4 Z o0 w0 w2 w3 h0 n0 vz U'.heap Lz ∧ FrameEnd U o U' Lz own_R4.cells own_R4.slots) := by
  refine MetFree.of_bodySF (plainFor_of_name own_pn4) hisR ?_
  intro p e s m args below meth c s₁ Bd hml0 hP hK
  obtain ⟨rfl, hZ, hh⟩ := hP
  have hx := Bd.exec
  have hby := Bd.bytes
  have hml : c.maxLocals = 1 := hml0
  have hown : s.vm.findClass "com/example/tx1/tx1/FailureVerdict$PartCommitted" = some m.cls := findClass_of_methodNamed Bd.named
  have hnm := (name_of_methodNamed Bd.named Bd.method).1
  have X0 : Stand p l e own_R4 s m #[(.ref o0)] below meth c s₁ [] 0 0 := Stand.of_body Bd
  have e0 : s₁.heap = h0 := by rw [← hh, Bd.state]; rfl
  show own_End p e below s (fun vz h Lz => vz = some (.int (own_F4 w0 w2 w3)) ∧ Lz = [] ∧ h = h0) own_R4.cells own_R4.slots s₁ (entryFrame m #[(.ref o0)] 1)
  refine own_End.go (fun t k => castTop (own_ef4 m o0) k) ?_
  show own_End p e below s _ _ _ s₁ (mkF m 0 #[.val (.ref o0)] [])
  have N0 := Fr.nil n0
  have K0 : Keep h0 h0 [] := Keep.refl h0 _
  have st1 : ∀ t, Steps p.tables e below (s₁.setTop (mkF m 1 #[.val (.ref o0)] [(.ref o0)])) t → Steps p.tables e below (s₁.setTop (mkF m 0 #[.val (.ref o0)] [])) t := by
    intro t k
    show Steps p.tables e below (s₁.setTop (mkF m 0 #[.val (.ref o0)] [])) _
    refine XS.aloadN X0.here hx rfl (hb hby own_d4_0) rfl rfl ?_
    exact k
  obtain ⟨T2, X2, e2, st2⟩ := getF X0 hx hZ hown (host := "") (Or.inl (hw _ (List.mem_of_getElem? (i := 14) rfl))) Via.refl e0 F_o0_implicitly (g := (mkF m 1 #[.val (.ref o0)] [(.ref o0)])) rfl rfl (hb hby own_d4_1)
  refine own_End.go (fun t k => st1 _ (st2 _ k)) ?_
  by_cases hc4_3 : w0 = (0 : Int32)
  · have st4 : ∀ t, Steps p.tables e below (T2.setTop (mkF m 8 #[.val (.ref o0)] [(.ref o0)])) t → Steps p.tables e below (T2.setTop (mkF m 4 #[.val (.ref o0)] [(.int w0)])) t := by
      intro t k
      show Steps p.tables e below (T2.setTop (mkF m 4 #[.val (.ref o0)] [(.int w0)])) _
      refine XS.ifNo X2.here hx rfl (hb hby own_d4_4) rfl ((if0 _ _).trans (teq hc4_3).2) ?_
      show Steps p.tables e below (T2.setTop (mkF m 7 #[.val (.ref o0)] [])) _
      refine XS.aloadN X2.here hx rfl (hb hby own_d4_7) rfl rfl ?_
      exact k
    obtain ⟨T5, X5, e5, st5⟩ := getF X2 hx hZ hown (host := "") (Or.inl (hw _ (List.mem_of_getElem? (i := 18) rfl))) Via.refl e2 F_o0_unseen (g := (mkF m 8 #[.val (.ref o0)] [(.ref o0)])) rfl rfl (hb hby own_d4_8)
    refine own_End.go (fun t k => st4 _ (st5 _ k)) ?_
    by_cases hc11_6 : w2 = (0 : Int32)
    · have st7 : ∀ t, Steps p.tables e below (T5.setTop (mkF m 26 #[.val (.ref o0)] [(.int (0 : Int32))])) t → Steps p.tables e below (T5.setTop (mkF m 11 #[.val (.ref o0)] [(.int w2)])) t := by
        intro t k
        show Steps p.tables e below (T5.setTop (mkF m 11 #[.val (.ref o0)] [(.int w2)])) _
        refine XS.ifYes X5.here hx rfl (pc0 := 11) (pc' := 25) rfl (hb hby own_d4_11) rfl ((if0 _ _).trans (teq hc11_6).1) (by decide) (by decide) ?_
        show Steps p.tables e below (T5.setTop (mkF m 25 #[.val (.ref o0)] [])) _
        refine XS.iconst X5.here hx rfl (hb hby own_d4_25) ?_
        exact k
      refine own_End.go (fun t k => st7 _ k) ?_
      exact own_leafN X5 hx Bd.notSynchronized (t := .boolean) Bd.returns (by simp) (hb hby own_d4_26) ⟨congrArg (fun z => some (Value.int z)) (own_e4_8 hc4_3 hc11_6), rfl, e5⟩ (by decide) (by decide)
    · have st9 : ∀ t, Steps p.tables e below (T5.setTop (mkF m 15 #[.val (.ref o0)] [(.ref o0)])) t → Steps p.tables e below (T5.setTop (mkF m 11 #[.val (.ref o0)] [(.int w2)])) t := by
        intro t k
        show Steps p.tables e below (T5.setTop (mkF m 11 #[.val (.ref o0)] [(.int w2)])) _
        refine XS.ifNo X5.here hx rfl (hb hby own_d4_11) rfl ((if0 _ _).trans (feq hc11_6).1) ?_
        show Steps p.tables e below (T5.setTop (mkF m 14 #[.val (.ref o0)] [])) _
        refine XS.aloadN X5.here hx rfl (hb hby own_d4_14) rfl rfl ?_
        exact k
      obtain ⟨T10, X10, e10, st10⟩ := getF X5 hx hZ hown (host := "") (Or.inl (hw _ (List.mem_of_getElem? (i := 20) rfl))) Via.refl e5 F_o0_told (g := (mkF m 15 #[.val (.ref o0)] [(.ref o0)])) rfl rfl (hb hby own_d4_15)
      refine own_End.go (fun t k => st9 _ (st10 _ k)) ?_
      by_cases hc18_11 : w3 = (0 : Int32)
      · have st12 : ∀ t, Steps p.tables e below (T10.setTop (mkF m 26 #[.val (.ref o0)] [(.int (1 : Int32))])) t → Steps p.tables e below (T10.setTop (mkF m 18 #[.val (.ref o0)] [(.int w3)])) t := by
          intro t k
          show Steps p.tables e below (T10.setTop (mkF m 18 #[.val (.ref o0)] [(.int w3)])) _
          refine XS.ifNo X10.here hx rfl (hb hby own_d4_18) rfl ((if0 _ _).trans (teq hc18_11).2) ?_
          show Steps p.tables e below (T10.setTop (mkF m 21 #[.val (.ref o0)] [])) _
          refine XS.iconst X10.here hx rfl (hb hby own_d4_21) ?_
          show Steps p.tables e below (T10.setTop (mkF m 22 #[.val (.ref o0)] [(.int (1 : Int32))])) _
          refine XS.goto X10.here hx rfl (pc0 := 22) (pc' := 26) rfl (hb hby own_d4_22) (by decide) (by decide) ?_
          exact k
        refine own_End.go (fun t k => st12 _ k) ?_
        exact own_leafN X10 hx Bd.notSynchronized (t := .boolean) Bd.returns (by simp) (hb hby own_d4_26) ⟨congrArg (fun z => some (Value.int z)) (own_e4_13 hc4_3 hc11_6 hc18_11), rfl, e10⟩ (by decide) (by decide)
      · have st14 : ∀ t, Steps p.tables e below (T10.setTop (mkF m 26 #[.val (.ref o0)] [(.int (0 : Int32))])) t → Steps p.tables e below (T10.setTop (mkF m 18 #[.val (.ref o0)] [(.int w3)])) t := by
          intro t k
          show Steps p.tables e below (T10.setTop (mkF m 18 #[.val (.ref o0)] [(.int w3)])) _
          refine XS.ifYes X10.here hx rfl (pc0 := 18) (pc' := 25) rfl (hb hby own_d4_18) rfl ((if0 _ _).trans (feq hc18_11).2) (by decide) (by decide) ?_
          show Steps p.tables e below (T10.setTop (mkF m 25 #[.val (.ref o0)] [])) _
          refine XS.iconst X10.here hx rfl (hb hby own_d4_25) ?_
          exact k
        refine own_End.go (fun t k => st14 _ k) ?_
        exact own_leafN X10 hx Bd.notSynchronized (t := .boolean) Bd.returns (by simp) (hb hby own_d4_26) ⟨congrArg (fun z => some (Value.int z)) (own_e4_15 hc4_3 hc11_6 hc18_11), rfl, e10⟩ (by decide) (by decide)
  · have st16 : ∀ t, Steps p.tables e below (T2.setTop (mkF m 15 #[.val (.ref o0)] [(.ref o0)])) t → Steps p.tables e below (T2.setTop (mkF m 4 #[.val (.ref o0)] [(.int w0)])) t := by
      intro t k
      show Steps p.tables e below (T2.setTop (mkF m 4 #[.val (.ref o0)] [(.int w0)])) _
      refine XS.ifYes X2.here hx rfl (pc0 := 4) (pc' := 14) rfl (hb hby own_d4_4) rfl ((if0 _ _).trans (feq hc4_3).2) (by decide) (by decide) ?_
      show Steps p.tables e below (T2.setTop (mkF m 14 #[.val (.ref o0)] [])) _
      refine XS.aloadN X2.here hx rfl (hb hby own_d4_14) rfl rfl ?_
      exact k
    obtain ⟨T17, X17, e17, st17⟩ := getF X2 hx hZ hown (host := "") (Or.inl (hw _ (List.mem_of_getElem? (i := 20) rfl))) Via.refl e2 F_o0_told (g := (mkF m 15 #[.val (.ref o0)] [(.ref o0)])) rfl rfl (hb hby own_d4_15)
    refine own_End.go (fun t k => st16 _ (st17 _ k)) ?_
    by_cases hc18_18 : w3 = (0 : Int32)
    · have st19 : ∀ t, Steps p.tables e below (T17.setTop (mkF m 26 #[.val (.ref o0)] [(.int (1 : Int32))])) t → Steps p.tables e below (T17.setTop (mkF m 18 #[.val (.ref o0)] [(.int w3)])) t := by
        intro t k
        show Steps p.tables e below (T17.setTop (mkF m 18 #[.val (.ref o0)] [(.int w3)])) _
        refine XS.ifNo X17.here hx rfl (hb hby own_d4_18) rfl ((if0 _ _).trans (teq hc18_18).2) ?_
        show Steps p.tables e below (T17.setTop (mkF m 21 #[.val (.ref o0)] [])) _
        refine XS.iconst X17.here hx rfl (hb hby own_d4_21) ?_
        show Steps p.tables e below (T17.setTop (mkF m 22 #[.val (.ref o0)] [(.int (1 : Int32))])) _
        refine XS.goto X17.here hx rfl (pc0 := 22) (pc' := 26) rfl (hb hby own_d4_22) (by decide) (by decide) ?_
        exact k
      refine own_End.go (fun t k => st19 _ k) ?_
      exact own_leafN X17 hx Bd.notSynchronized (t := .boolean) Bd.returns (by simp) (hb hby own_d4_26) ⟨congrArg (fun z => some (Value.int z)) (own_e4_20 hc4_3 hc18_18), rfl, e17⟩ (by decide) (by decide)
    · have st21 : ∀ t, Steps p.tables e below (T17.setTop (mkF m 26 #[.val (.ref o0)] [(.int (0 : Int32))])) t → Steps p.tables e below (T17.setTop (mkF m 18 #[.val (.ref o0)] [(.int w3)])) t := by
        intro t k
        show Steps p.tables e below (T17.setTop (mkF m 18 #[.val (.ref o0)] [(.int w3)])) _
        refine XS.ifYes X17.here hx rfl (pc0 := 18) (pc' := 25) rfl (hb hby own_d4_18) rfl ((if0 _ _).trans (feq hc18_18).2) (by decide) (by decide) ?_
        show Steps p.tables e below (T17.setTop (mkF m 25 #[.val (.ref o0)] [])) _
        refine XS.iconst X17.here hx rfl (hb hby own_d4_25) ?_
        exact k
      refine own_End.go (fun t k => st21 _ k) ?_
      exact own_leafN X17 hx Bd.notSynchronized (t := .boolean) Bd.returns (by simp) (hb hby own_d4_26) ⟨congrArg (fun z => some (Value.int z)) (own_e4_22 hc4_3 hc18_18), rfl, e17⟩ (by decide) (by decide)
theorem own_d5_0 : decode prog_7_method_6_code 0 = .ok (.new 10, 3) := by decide +kernel
theorem own_d5_3 : decode prog_7_method_6_code 3 = .ok (.dup, 1) := by decide +kernel
theorem own_d5_4 : decode prog_7_method_6_code 4 = .ok (.aload_n 0, 1) := by decide +kernel
theorem own_d5_5 : decode prog_7_method_6_code 5 = .ok (.getfield 9, 3) := by decide +kernel
theorem own_d5_8 : decode prog_7_method_6_code 8 = .ok (.aload_n 0, 1) := by decide +kernel
theorem own_d5_9 : decode prog_7_method_6_code 9 = .ok (.getfield 15, 3) := by decide +kernel
theorem own_d5_12 : decode prog_7_method_6_code 12 = .ok (.aload_n 0, 1) := by decide +kernel
theorem own_d5_13 : decode prog_7_method_6_code 13 = .ok (.getfield 18, 3) := by decide +kernel
theorem own_d5_16 : decode prog_7_method_6_code 16 = .ok (.iconst 1, 1) := by decide +kernel
theorem own_d5_17 : decode prog_7_method_6_code 17 = .ok (.invokespecial 24, 3) := by decide +kernel
theorem own_d5_20 : decode prog_7_method_6_code 20 = .ok (.areturn, 1) := by decide +kernel
theorem own_pn5 : plainName "com/example/tx1/tx1/FailureVerdict$PartCommitted" = true := by first | (simp [plainName, overriddenIn]; done) | decide +kernel
theorem own_ef5 (m : MethodId) (o0 : Addr) : entryFrame m #[(.ref o0)] 1 = mkF m 0 #[.val (.ref o0)] [] := by first | (simp [entryFrame, mkF, argsToLocals, Value.category]; done) | rfl
abbrev own_R5 : Room := { frames := 3, cells := 1, slots := 4, locals := 41 }
def own_Q5 (Z : State) (o0 : Addr) (w0 : Int32) (w1 : Int32) (w2 : Int32) (h0 : Heap) (n0 : Nat) (vz : Option Value) (h : Heap) (Lz : List Loc) : Prop := ∃ b, vz = some (.ref b) ∧ Fr n0 Lz ∧ Keep h0 h [] ∧ h0.size ≤ b ∧ Exa Z h b "com/example/tx1/tx1/FailureVerdict$PartCommitted" ∧ Fld Z h b "com/example/tx1/tx1/FailureVerdict$PartCommitted" "implicitly" "Z" (.int (nar .boolean w0)) ∧ Fld Z h b "com/example/tx1/tx1/FailureVerdict$PartCommitted" "toAsk" "Z" (.int (nar .boolean w1)) ∧ Fld Z h b "com/example/tx1/tx1/FailureVerdict$PartCommitted" "unseen" "Z" (.int (nar .boolean w2)) ∧ Fld Z h b "com/example/tx1/tx1/FailureVerdict$PartCommitted" "told" "Z" (.int (nar .boolean (1 : Int32))) ∧ True
set_option maxRecDepth 65536 in
set_option maxHeartbeats 40000000 in
theorem own_rm5 (l : Launch) (Z : State) (a0 : Array Value) (hw : ∀ d ∈ tables_1, d.before a0 Z = true) (ws : List Jvm.Cond) (o0 : Addr) (w0 : Int32) (w1 : Int32) (w2 : Int32) (h0 : Heap) (n0 : Nat) (Z0 : n0 ≤ h0.size) (F_o0_implicitly : Fld Z h0 o0 "com/example/tx1/tx1/FailureVerdict$PartCommitted" "implicitly" "Z" (.int w0)) (F_o0_toAsk : Fld Z h0 o0 "com/example/tx1/tx1/FailureVerdict$PartCommitted" "toAsk" "Z" (.int w1)) (F_o0_unseen : Fld Z h0 o0 "com/example/tx1/tx1/FailureVerdict$PartCommitted" "unseen" "Z" (.int w2)) :
    MetFree l (⟨"com/example/tx1/tx1/FailureVerdict$PartCommitted", "onceTold", "()Lcom/example/tx1/tx1/FailureVerdict$PartCommitted;"⟩ : MethodName) (head1 (Jvm.Cond.code (⟨"com/example/tx1/tx1/FailureVerdict$PartCommitted", "onceTold", "()Lcom/example/tx1/tx1/FailureVerdict$PartCommitted;"⟩ : MethodName) prog_7_method_6_code 1 (some (.object "com/example/tx1/tx1/FailureVerdict$PartCommitted")) :: ws) own_R5) (fun a U => a = #[(.ref o0)] ∧ Z.Warmed39 U.vm ∧ U.heap = h0) (fun _ _ _ _ _ => True) (fun _ U o U' => ∃ vz Lz, o = .returned vz ∧ own_Q5 Z o0 w0 w1 w2 h0 n0 vz U'.heap Lz ∧ FrameEnd U o U' Lz own_R5.cells own_R5.slots) := by
  refine MetFree.of_bodySF (plainFor_of_name own_pn5) hisR ?_
  intro p e s m args below meth c s₁ Bd hml0 hP hK
  obtain ⟨rfl, hZ, hh⟩ := hP
  have hx := Bd.exec
  have hby := Bd.bytes
  have hml : c.maxLocals = 1 := hml0
  have hown : s.vm.findClass "com/example/tx1/tx1/FailureVerdict$PartCommitted" = some m.cls := findClass_of_methodNamed Bd.named
  have hnm := (name_of_methodNamed Bd.named Bd.method).1
  have X0 : Stand p l e own_R5 s m #[(.ref o0)] below meth c s₁ [] 0 0 := Stand.of_body Bd
  have e0 : s₁.heap = h0 := by rw [← hh, Bd.state]; rfl
  show own_End p e below s (fun vz h Lz => ∃ b, vz = some (.ref b) ∧ Fr n0 Lz ∧ Keep h0 h [] ∧ h0.size ≤ b ∧ Exa Z h b "com/example/tx1/tx1/FailureVerdict$PartCommitted" ∧ Fld Z h b "com/example/tx1/tx1/FailureVerdict$PartCommitted" "implicitly" "Z" (.int (nar .boolean w0)) ∧ Fld Z h b "com/example/tx1/tx1/FailureVerdict$PartCommitted" "toAsk" "Z" (.int (nar .boolean w1)) ∧ Fld Z h b "com/example/tx1/tx1/FailureVerdict$PartCommitted" "unseen" "Z" (.int (nar .boolean w2)) ∧ Fld Z h b "com/example/tx1/tx1/FailureVerdict$PartCommitted" "told" "Z" (.int (nar .boolean (1 : Int32))) ∧ True) own_R5.cells own_R5.slots s₁ (entryFrame m #[(.ref o0)] 1)
  refine own_End.go (fun t k => castTop (own_ef5 m o0) k) ?_
  show own_End p e below s _ _ _ s₁ (mkF m 0 #[.val (.ref o0)] [])
  have N0 := Fr.nil n0
  have K0 : Keep h0 h0 [] := Keep.refl h0 _
  obtain ⟨T1, h1, b1, X1, e1, K1, q1, E1, D1, st1⟩ := own_new X0 hx hZ hown (hw _ (List.mem_of_getElem? (i := 32) rfl)) (hw _ (List.mem_of_getElem? (i := 1) rfl)) (hw _ (List.mem_of_getElem? (i := 2) rfl)) e0 (g := (mkF m 0 #[.val (.ref o0)] [])) rfl (hb hby own_d5_0) (by decide) (by decide)
  have X1 : Stand p l e own_R5 s m #[(.ref o0)] below meth c T1 [] 1 4 := X1
  have F1_implicitly : Fld Z h1 b1 "com/example/tx1/tx1/FailureVerdict$PartCommitted" "implicitly" "Z" (.int (0 : Int32)) := D1 (Or.inr (hw _ (List.mem_of_getElem? (i := 15) rfl))) (ty := .boolean) (by decide)
  have F1_toAsk : Fld Z h1 b1 "com/example/tx1/tx1/FailureVerdict$PartCommitted" "toAsk" "Z" (.int (0 : Int32)) := D1 (Or.inr (hw _ (List.mem_of_getElem? (i := 17) rfl))) (ty := .boolean) (by decide)
  have F1_unseen : Fld Z h1 b1 "com/example/tx1/tx1/FailureVerdict$PartCommitted" "unseen" "Z" (.int (0 : Int32)) := D1 (Or.inr (hw _ (List.mem_of_getElem? (i := 19) rfl))) (ty := .boolean) (by decide)
  have F1_told : Fld Z h1 b1 "com/example/tx1/tx1/FailureVerdict$PartCommitted" "told" "Z" (.int (0 : Int32)) := D1 (Or.inr (hw _ (List.mem_of_getElem? (i := 21) rfl))) (ty := .boolean) (by decide)
  have ne_o0_b1 : o0 ≠ b1 := own_ne F_o0_implicitly.lt q1
  have g_b1 : n0 ≤ b1 := Nat.le_trans Z0 q1
  have sz_b1 : h0.size ≤ b1 := Nat.le_trans K0.1 q1
  have f2 : Fld Z h1 o0 "com/example/tx1/tx1/FailureVerdict$PartCommitted" "implicitly" "Z" (.int w0) := F_o0_implicitly.keep K1 nin0
  have f3 : Fld Z h1 o0 "com/example/tx1/tx1/FailureVerdict$PartCommitted" "toAsk" "Z" (.int w1) := F_o0_toAsk.keep K1 nin0
  have f4 : Fld Z h1 o0 "com/example/tx1/tx1/FailureVerdict$PartCommitted" "unseen" "Z" (.int w2) := F_o0_unseen.keep K1 nin0
  have Zp5 : n0 ≤ h1.size := Nat.le_trans Z0 K1.1
  have Kz5 : Keep h0 h1 [] := K0.trans K1 all0
  have st6 : ∀ t, Steps p.tables e below (T1.setTop (mkF m 5 #[.val (.ref o0)] [(.ref o0), (.ref b1), (.ref b1)])) t → Steps p.tables e below (T1.setTop (mkF m 3 #[.val (.ref o0)] [(.ref b1)])) t := by
    intro t k
    show Steps p.tables e below (T1.setTop (mkF m 3 #[.val (.ref o0)] [(.ref b1)])) _
    refine XS.dup X1.here hx rfl (hb hby own_d5_3) rfl rfl ?_
    show Steps p.tables e below (T1.setTop (mkF m 4 #[.val (.ref o0)] [(.ref b1), (.ref b1)])) _
    refine XS.aloadN X1.here hx rfl (hb hby own_d5_4) rfl rfl ?_
    exact k
  obtain ⟨T7, X7, e7, st7⟩ := getF X1 hx hZ hown (host := "") (Or.inl (hw _ (List.mem_of_getElem? (i := 14) rfl))) Via.refl e1 f2 (g := (mkF m 5 #[.val (.ref o0)] [(.ref o0), (.ref b1), (.ref b1)])) rfl rfl (hb hby own_d5_5)
  have st8 : ∀ t, Steps p.tables e below (T7.setTop (mkF m 9 #[.val (.ref o0)] [(.ref o0), (.int w0), (.ref b1), (.ref b1)])) t → Steps p.tables e below (T7.setTop (mkF m 8 #[.val (.ref o0)] [(.int w0), (.ref b1), (.ref b1)])) t := by
    intro t k
    show Steps p.tables e below (T7.setTop (mkF m 8 #[.val (.ref o0)] [(.int w0), (.ref b1), (.ref b1)])) _
    refine XS.aloadN X7.here hx rfl (hb hby own_d5_8) rfl rfl ?_
    exact k
  obtain ⟨T9, X9, e9, st9⟩ := getF X7 hx hZ hown (host := "") (Or.inl (hw _ (List.mem_of_getElem? (i := 16) rfl))) Via.refl e7 f3 (g := (mkF m 9 #[.val (.ref o0)] [(.ref o0), (.int w0), (.ref b1), (.ref b1)])) rfl rfl (hb hby own_d5_9)
  have st10 : ∀ t, Steps p.tables e below (T9.setTop (mkF m 13 #[.val (.ref o0)] [(.ref o0), (.int w1), (.int w0), (.ref b1), (.ref b1)])) t → Steps p.tables e below (T9.setTop (mkF m 12 #[.val (.ref o0)] [(.int w1), (.int w0), (.ref b1), (.ref b1)])) t := by
    intro t k
    show Steps p.tables e below (T9.setTop (mkF m 12 #[.val (.ref o0)] [(.int w1), (.int w0), (.ref b1), (.ref b1)])) _
    refine XS.aloadN X9.here hx rfl (hb hby own_d5_12) rfl rfl ?_
    exact k
  obtain ⟨T11, X11, e11, st11⟩ := getF X9 hx hZ hown (host := "") (Or.inl (hw _ (List.mem_of_getElem? (i := 18) rfl))) Via.refl e9 f4 (g := (mkF m 13 #[.val (.ref o0)] [(.ref o0), (.int w1), (.int w0), (.ref b1), (.ref b1)])) rfl rfl (hb hby own_d5_13)
  have st12 : ∀ t, Steps p.tables e below (T11.setTop (mkF m 17 #[.val (.ref o0)] [(.int (1 : Int32)), (.int w2), (.int w1), (.int w0), (.ref b1), (.ref b1)])) t → Steps p.tables e below (T11.setTop (mkF m 16 #[.val (.ref o0)] [(.int w2), (.int w1), (.int w0), (.ref b1), (.ref b1)])) t := by
    intro t k
    show Steps p.tables e below (T11.setTop (mkF m 16 #[.val (.ref o0)] [(.int w2), (.int w1), (.int w0), (.ref b1), (.ref b1)])) _
    refine XS.iconst X11.here hx rfl (hb hby own_d5_16) ?_
    exact k
  obtain ⟨_, _, ⟨T13, L13, k13, n13⟩, -, X13, ⟨Lc13, hQ13, l13, y13, z13⟩, st13⟩ := X11.specialBack hx (y := (⟨"com/example/tx1/tx1/FailureVerdict$PartCommitted", "<init>", "(ZZZZ)V"⟩ : MethodName)) rfl hown (mvT hZ (hw _ (List.mem_of_getElem? (i := 33) rfl))) (mvT hZ (hw _ (List.mem_of_getElem? (i := 4) rfl))) (mvT hZ (hw _ (List.mem_of_getElem? (i := 5) rfl))) (by decide) (backOf (W := 1) (own_rm1 l Z a0 hw [] b1 w0 w1 w2 (1 : Int32) h1 n0 Zp5 E1 F1_implicitly F1_toAsk F1_unseen F1_told g_b1) hZ (hw _ (List.mem_of_getElem? (i := 5) rfl)) (hw _ (List.mem_of_getElem? (i := 2) rfl)) (by decide) (by decide)) (g := (mkF m 17 #[.val (.ref o0)] [(.int (1 : Int32)), (.int w2), (.int w1), (.int w0), (.ref b1), (.ref b1)])) rfl (by rw [hml]; rfl) (Steps.refl _) (a := b1) (argsL := [(.int w0), (.int w1), (.int w2), (.int (1 : Int32))]) (rest := [(.ref b1)]) (lenOf own_pd1 rfl) rfl (by show 2 * 0 + _ ≤ _; exact Nat.le_of_eq rfl) (hb hby own_d5_17) (fun _ _ => ⟨rfl, e11, (by decide : 1 + 0 ≤ _), (by decide : 4 + 0 ≤ _)⟩)
  dsimp only [Pt.U, Pt.locs, Pt.cells, Pt.slots] at X13 l13 y13 z13 st13 hQ13
  subst y13 z13
  obtain ⟨rfl, Nq13, K13, Q13_0, Q13_1, Q13_2, Q13_3, Q13_4, -⟩ := hQ13
  have N13 : Fr n0 L13 := by rw [l13]; exact Fr.app N0 Nq13
  have X13' : Stand p l e own_R5 s m #[(.ref o0)] below meth c T13 L13 1 4 := X13
  have f14 : Fld Z T13.heap o0 "com/example/tx1/tx1/FailureVerdict$PartCommitted" "implicitly" "Z" (.int w0) := f2.keep K13 (ninS ne_o0_b1 nin0)
  have f15 : Fld Z T13.heap o0 "com/example/tx1/tx1/FailureVerdict$PartCommitted" "toAsk" "Z" (.int w1) := f3.keep K13 (ninS ne_o0_b1 nin0)
  have f16 : Fld Z T13.heap o0 "com/example/tx1/tx1/FailureVerdict$PartCommitted" "unseen" "Z" (.int w2) := f4.keep K13 (ninS ne_o0_b1 nin0)
  have Zp17 : n0 ≤ T13.heap.size := Nat.le_trans Zp5 K13.1
  have Kz17 : Keep h0 T13.heap [] := Kz5.trans K13 (allS (Or.inr sz_b1) all0)
  have st13 : ∀ t, Steps p.tables e below (T13.setTop (mkF m 20 #[.val (.ref o0)] [(.ref b1)])) t → Steps p.tables e below (T11.setTop (mkF m 17 #[.val (.ref o0)] [(.int (1 : Int32)), (.int w2), (.int w1), (.int w0), (.ref b1), (.ref b1)])) t := fun t k => st13.trans k
  refine own_End.go (fun t k => st1 _ (st6 _ (st7 _ (st8 _ (st9 _ (st10 _ (st11 _ (st12 _ (st13 _ k))))))))) ?_
  exact own_leafR X13' hx Bd.notSynchronized Bd.returns rfl (hb hby own_d5_20) ⟨b1, rfl, N13, Kz17, (by have := sz_b1; exact this), Q13_0, Q13_1, Q13_2, Q13_3, Q13_4, trivial⟩ (by decide) (by decide)
theorem own_d6_0 : decode prog_7_method_2_code 0 = .ok (.new 10, 3) := by decide +kernel
theorem own_d6_3 : decode prog_7_method_2_code 3 = .ok (.dup, 1) := by decide +kernel
theorem own_d6_4 : decode prog_7_method_2_code 4 = .ok (.iconst 1, 1) := by decide +kernel
theorem own_d6_5 : decode prog_7_method_2_code 5 = .ok (.aload_n 0, 1) := by decide +kernel
theorem own_d6_6 : decode prog_7_method_2_code 6 = .ok (.getfield 15, 3) := by decide +kernel
theorem own_d6_9 : decode prog_7_method_2_code 9 = .ok (.aload_n 0, 1) := by decide +kernel
theorem own_d6_10 : decode prog_7_method_2_code 10 = .ok (.getfield 18, 3) := by decide +kernel
theorem own_d6_13 : decode prog_7_method_2_code 13 = .ok (.aload_n 0, 1) := by decide +kernel
theorem own_d6_14 : decode prog_7_method_2_code 14 = .ok (.getfield 21, 3) := by decide +kernel
theorem own_d6_17 : decode prog_7_method_2_code 17 = .ok (.invokespecial 24, 3) := by decide +kernel
theorem own_d6_20 : decode prog_7_method_2_code 20 = .ok (.areturn, 1) := by decide +kernel
theorem own_pn6 : plainName "com/example/tx1/tx1/FailureVerdict$PartCommitted" = true := by first | (simp [plainName, overriddenIn]; done) | decide +kernel
theorem own_ef6 (m : MethodId) (o0 : Addr) : entryFrame m #[(.ref o0)] 1 = mkF m 0 #[.val (.ref o0)] [] := by first | (simp [entryFrame, mkF, argsToLocals, Value.category]; done) | rfl
abbrev own_R6 : Room := { frames := 3, cells := 1, slots := 4, locals := 41 }
def own_Q6 (Z : State) (o0 : Addr) (w1 : Int32) (w2 : Int32) (w3 : Int32) (h0 : Heap) (n0 : Nat) (vz : Option Value) (h : Heap) (Lz : List Loc) : Prop := ∃ b, vz = some (.ref b) ∧ Fr n0 Lz ∧ Keep h0 h [] ∧ h0.size ≤ b ∧ Exa Z h b "com/example/tx1/tx1/FailureVerdict$PartCommitted" ∧ Fld Z h b "com/example/tx1/tx1/FailureVerdict$PartCommitted" "implicitly" "Z" (.int (nar .boolean (1 : Int32))) ∧ Fld Z h b "com/example/tx1/tx1/FailureVerdict$PartCommitted" "toAsk" "Z" (.int (nar .boolean w1)) ∧ Fld Z h b "com/example/tx1/tx1/FailureVerdict$PartCommitted" "unseen" "Z" (.int (nar .boolean w2)) ∧ Fld Z h b "com/example/tx1/tx1/FailureVerdict$PartCommitted" "told" "Z" (.int (nar .boolean w3)) ∧ True
set_option maxRecDepth 65536 in
set_option maxHeartbeats 40000000 in
theorem own_rm6 (l : Launch) (Z : State) (a0 : Array Value) (hw : ∀ d ∈ tables_1, d.before a0 Z = true) (ws : List Jvm.Cond) (o0 : Addr) (w1 : Int32) (w2 : Int32) (w3 : Int32) (h0 : Heap) (n0 : Nat) (Z0 : n0 ≤ h0.size) (F_o0_toAsk : Fld Z h0 o0 "com/example/tx1/tx1/FailureVerdict$PartCommitted" "toAsk" "Z" (.int w1)) (F_o0_unseen : Fld Z h0 o0 "com/example/tx1/tx1/FailureVerdict$PartCommitted" "unseen" "Z" (.int w2)) (F_o0_told : Fld Z h0 o0 "com/example/tx1/tx1/FailureVerdict$PartCommitted" "told" "Z" (.int w3)) :
    MetFree l (⟨"com/example/tx1/tx1/FailureVerdict$PartCommitted", "withImplicitCommit", "()Lcom/example/tx1/tx1/FailureVerdict$PartCommitted;"⟩ : MethodName) (head1 (Jvm.Cond.code (⟨"com/example/tx1/tx1/FailureVerdict$PartCommitted", "withImplicitCommit", "()Lcom/example/tx1/tx1/FailureVerdict$PartCommitted;"⟩ : MethodName) prog_7_method_2_code 1 (some (.object "com/example/tx1/tx1/FailureVerdict$PartCommitted")) :: ws) own_R6) (fun a U => a = #[(.ref o0)] ∧ Z.Warmed39 U.vm ∧ U.heap = h0) (fun _ _ _ _ _ => True) (fun _ U o U' => ∃ vz Lz, o = .returned vz ∧ own_Q6 Z o0 w1 w2 w3 h0 n0 vz U'.heap Lz ∧ FrameEnd U o U' Lz own_R6.cells own_R6.slots) := by
  refine MetFree.of_bodySF (plainFor_of_name own_pn6) hisR ?_
  intro p e s m args below meth c s₁ Bd hml0 hP hK
  obtain ⟨rfl, hZ, hh⟩ := hP
  have hx := Bd.exec
  have hby := Bd.bytes
  have hml : c.maxLocals = 1 := hml0
  have hown : s.vm.findClass "com/example/tx1/tx1/FailureVerdict$PartCommitted" = some m.cls := findClass_of_methodNamed Bd.named
  have hnm := (name_of_methodNamed Bd.named Bd.method).1
  have X0 : Stand p l e own_R6 s m #[(.ref o0)] below meth c s₁ [] 0 0 := Stand.of_body Bd
  have e0 : s₁.heap = h0 := by rw [← hh, Bd.state]; rfl
  show own_End p e below s (fun vz h Lz => ∃ b, vz = some (.ref b) ∧ Fr n0 Lz ∧ Keep h0 h [] ∧ h0.size ≤ b ∧ Exa Z h b "com/example/tx1/tx1/FailureVerdict$PartCommitted" ∧ Fld Z h b "com/example/tx1/tx1/FailureVerdict$PartCommitted" "implicitly" "Z" (.int (nar .boolean (1 : Int32))) ∧ Fld Z h b "com/example/tx1/tx1/FailureVerdict$PartCommitted" "toAsk" "Z" (.int (nar .boolean w1)) ∧ Fld Z h b "com/example/tx1/tx1/FailureVerdict$PartCommitted" "unseen" "Z" (.int (nar .boolean w2)) ∧ Fld Z h b "com/example/tx1/tx1/FailureVerdict$PartCommitted" "told" "Z" (.int (nar .boolean w3)) ∧ True) own_R6.cells own_R6.slots s₁ (entryFrame m #[(.ref o0)] 1)
  refine own_End.go (fun t k => castTop (own_ef6 m o0) k) ?_
  show own_End p e below s _ _ _ s₁ (mkF m 0 #[.val (.ref o0)] [])
  have N0 := Fr.nil n0
  have K0 : Keep h0 h0 [] := Keep.refl h0 _
  obtain ⟨T1, h1, b1, X1, e1, K1, q1, E1, D1, st1⟩ := own_new X0 hx hZ hown (hw _ (List.mem_of_getElem? (i := 32) rfl)) (hw _ (List.mem_of_getElem? (i := 1) rfl)) (hw _ (List.mem_of_getElem? (i := 2) rfl)) e0 (g := (mkF m 0 #[.val (.ref o0)] [])) rfl (hb hby own_d6_0) (by decide) (by decide)
  have X1 : Stand p l e own_R6 s m #[(.ref o0)] below meth c T1 [] 1 4 := X1
  have F1_implicitly : Fld Z h1 b1 "com/example/tx1/tx1/FailureVerdict$PartCommitted" "implicitly" "Z" (.int (0 : Int32)) := D1 (Or.inr (hw _ (List.mem_of_getElem? (i := 15) rfl))) (ty := .boolean) (by decide)
  have F1_toAsk : Fld Z h1 b1 "com/example/tx1/tx1/FailureVerdict$PartCommitted" "toAsk" "Z" (.int (0 : Int32)) := D1 (Or.inr (hw _ (List.mem_of_getElem? (i := 17) rfl))) (ty := .boolean) (by decide)
  have F1_unseen : Fld Z h1 b1 "com/example/tx1/tx1/FailureVerdict$PartCommitted" "unseen" "Z" (.int (0 : Int32)) := D1 (Or.inr (hw _ (List.mem_of_getElem? (i := 19) rfl))) (ty := .boolean) (by decide)
  have F1_told : Fld Z h1 b1 "com/example/tx1/tx1/FailureVerdict$PartCommitted" "told" "Z" (.int (0 : Int32)) := D1 (Or.inr (hw _ (List.mem_of_getElem? (i := 21) rfl))) (ty := .boolean) (by decide)
  have ne_o0_b1 : o0 ≠ b1 := own_ne F_o0_toAsk.lt q1
  have g_b1 : n0 ≤ b1 := Nat.le_trans Z0 q1
  have sz_b1 : h0.size ≤ b1 := Nat.le_trans K0.1 q1
  have f2 : Fld Z h1 o0 "com/example/tx1/tx1/FailureVerdict$PartCommitted" "toAsk" "Z" (.int w1) := F_o0_toAsk.keep K1 nin0
  have f3 : Fld Z h1 o0 "com/example/tx1/tx1/FailureVerdict$PartCommitted" "unseen" "Z" (.int w2) := F_o0_unseen.keep K1 nin0
  have f4 : Fld Z h1 o0 "com/example/tx1/tx1/FailureVerdict$PartCommitted" "told" "Z" (.int w3) := F_o0_told.keep K1 nin0
  have Zp5 : n0 ≤ h1.size := Nat.le_trans Z0 K1.1
  have Kz5 : Keep h0 h1 [] := K0.trans K1 all0
  have st6 : ∀ t, Steps p.tables e below (T1.setTop (mkF m 6 #[.val (.ref o0)] [(.ref o0), (.int (1 : Int32)), (.ref b1), (.ref b1)])) t → Steps p.tables e below (T1.setTop (mkF m 3 #[.val (.ref o0)] [(.ref b1)])) t := by
    intro t k
    show Steps p.tables e below (T1.setTop (mkF m 3 #[.val (.ref o0)] [(.ref b1)])) _
    refine XS.dup X1.here hx rfl (hb hby own_d6_3) rfl rfl ?_
    show Steps p.tables e below (T1.setTop (mkF m 4 #[.val (.ref o0)] [(.ref b1), (.ref b1)])) _
    refine XS.iconst X1.here hx rfl (hb hby own_d6_4) ?_
    show Steps p.tables e below (T1.setTop (mkF m 5 #[.val (.ref o0)] [(.int (1 : Int32)), (.ref b1), (.ref b1)])) _
    refine XS.aloadN X1.here hx rfl (hb hby own_d6_5) rfl rfl ?_
    exact k
  obtain ⟨T7, X7, e7, st7⟩ := getF X1 hx hZ hown (host := "") (Or.inl (hw _ (List.mem_of_getElem? (i := 16) rfl))) Via.refl e1 f2 (g := (mkF m 6 #[.val (.ref o0)] [(.ref o0), (.int (1 : Int32)), (.ref b1), (.ref b1)])) rfl rfl (hb hby own_d6_6)
  have st8 : ∀ t, Steps p.tables e below (T7.setTop (mkF m 10 #[.val (.ref o0)] [(.ref o0), (.int w1), (.int (1 : Int32)), (.ref b1), (.ref b1)])) t → Steps p.tables e below (T7.setTop (mkF m 9 #[.val (.ref o0)] [(.int w1), (.int (1 : Int32)), (.ref b1), (.ref b1)])) t := by
    intro t k
    show Steps p.tables e below (T7.setTop (mkF m 9 #[.val (.ref o0)] [(.int w1), (.int (1 : Int32)), (.ref b1), (.ref b1)])) _
    refine XS.aloadN X7.here hx rfl (hb hby own_d6_9) rfl rfl ?_
    exact k
  obtain ⟨T9, X9, e9, st9⟩ := getF X7 hx hZ hown (host := "") (Or.inl (hw _ (List.mem_of_getElem? (i := 18) rfl))) Via.refl e7 f3 (g := (mkF m 10 #[.val (.ref o0)] [(.ref o0), (.int w1), (.int (1 : Int32)), (.ref b1), (.ref b1)])) rfl rfl (hb hby own_d6_10)
  have st10 : ∀ t, Steps p.tables e below (T9.setTop (mkF m 14 #[.val (.ref o0)] [(.ref o0), (.int w2), (.int w1), (.int (1 : Int32)), (.ref b1), (.ref b1)])) t → Steps p.tables e below (T9.setTop (mkF m 13 #[.val (.ref o0)] [(.int w2), (.int w1), (.int (1 : Int32)), (.ref b1), (.ref b1)])) t := by
    intro t k
    show Steps p.tables e below (T9.setTop (mkF m 13 #[.val (.ref o0)] [(.int w2), (.int w1), (.int (1 : Int32)), (.ref b1), (.ref b1)])) _
    refine XS.aloadN X9.here hx rfl (hb hby own_d6_13) rfl rfl ?_
    exact k
  obtain ⟨T11, X11, e11, st11⟩ := getF X9 hx hZ hown (host := "") (Or.inl (hw _ (List.mem_of_getElem? (i := 20) rfl))) Via.refl e9 f4 (g := (mkF m 14 #[.val (.ref o0)] [(.ref o0), (.int w2), (.int w1), (.int (1 : Int32)), (.ref b1), (.ref b1)])) rfl rfl (hb hby own_d6_14)
  obtain ⟨_, _, ⟨T12, L12, k12, n12⟩, -, X12, ⟨Lc12, hQ12, l12, y12, z12⟩, st12⟩ := X11.specialBack hx (y := (⟨"com/example/tx1/tx1/FailureVerdict$PartCommitted", "<init>", "(ZZZZ)V"⟩ : MethodName)) rfl hown (mvT hZ (hw _ (List.mem_of_getElem? (i := 33) rfl))) (mvT hZ (hw _ (List.mem_of_getElem? (i := 4) rfl))) (mvT hZ (hw _ (List.mem_of_getElem? (i := 5) rfl))) (by decide) (backOf (W := 1) (own_rm1 l Z a0 hw [] b1 (1 : Int32) w1 w2 w3 h1 n0 Zp5 E1 F1_implicitly F1_toAsk F1_unseen F1_told g_b1) hZ (hw _ (List.mem_of_getElem? (i := 5) rfl)) (hw _ (List.mem_of_getElem? (i := 2) rfl)) (by decide) (by decide)) (g := (mkF m 17 #[.val (.ref o0)] [(.int w3), (.int w2), (.int w1), (.int (1 : Int32)), (.ref b1), (.ref b1)])) rfl (by rw [hml]; rfl) (Steps.refl _) (a := b1) (argsL := [(.int (1 : Int32)), (.int w1), (.int w2), (.int w3)]) (rest := [(.ref b1)]) (lenOf own_pd1 rfl) rfl (by show 2 * 0 + _ ≤ _; exact Nat.le_of_eq rfl) (hb hby own_d6_17) (fun _ _ => ⟨rfl, e11, (by decide : 1 + 0 ≤ _), (by decide : 4 + 0 ≤ _)⟩)
  dsimp only [Pt.U, Pt.locs, Pt.cells, Pt.slots] at X12 l12 y12 z12 st12 hQ12
  subst y12 z12
  obtain ⟨rfl, Nq12, K12, Q12_0, Q12_1, Q12_2, Q12_3, Q12_4, -⟩ := hQ12
  have N12 : Fr n0 L12 := by rw [l12]; exact Fr.app N0 Nq12
  have X12' : Stand p l e own_R6 s m #[(.ref o0)] below meth c T12 L12 1 4 := X12
  have f13 : Fld Z T12.heap o0 "com/example/tx1/tx1/FailureVerdict$PartCommitted" "toAsk" "Z" (.int w1) := f2.keep K12 (ninS ne_o0_b1 nin0)
  have f14 : Fld Z T12.heap o0 "com/example/tx1/tx1/FailureVerdict$PartCommitted" "unseen" "Z" (.int w2) := f3.keep K12 (ninS ne_o0_b1 nin0)
  have f15 : Fld Z T12.heap o0 "com/example/tx1/tx1/FailureVerdict$PartCommitted" "told" "Z" (.int w3) := f4.keep K12 (ninS ne_o0_b1 nin0)
  have Zp16 : n0 ≤ T12.heap.size := Nat.le_trans Zp5 K12.1
  have Kz16 : Keep h0 T12.heap [] := Kz5.trans K12 (allS (Or.inr sz_b1) all0)
  have st12 : ∀ t, Steps p.tables e below (T12.setTop (mkF m 20 #[.val (.ref o0)] [(.ref b1)])) t → Steps p.tables e below (T11.setTop (mkF m 17 #[.val (.ref o0)] [(.int w3), (.int w2), (.int w1), (.int (1 : Int32)), (.ref b1), (.ref b1)])) t := fun t k => st12.trans k
  refine own_End.go (fun t k => st1 _ (st6 _ (st7 _ (st8 _ (st9 _ (st10 _ (st11 _ (st12 _ k)))))))) ?_
  exact own_leafR X12' hx Bd.notSynchronized Bd.returns rfl (hb hby own_d6_20) ⟨b1, rfl, N12, Kz16, (by have := sz_b1; exact this), Q12_0, Q12_1, Q12_2, Q12_3, Q12_4, trivial⟩ (by decide) (by decide)
theorem own_pn0 : plainName "com/example/tx1/tx1/PartCommittedUntoldPinLaw" = true := by first | (simp [plainName, overriddenIn]; done) | decide +kernel
theorem own_ef0 (m : MethodId) (p0 : Int32) : entryFrame m #[(.int p0)] maxLocals = mkF m 0 #[.val (.int p0), .unset, .unset, .unset, .unset, .unset, .unset, .unset, .unset, .unset, .unset, .unset] [] := by first | (simp [entryFrame, mkF, argsToLocals, Value.category, maxLocals]; done) | rfl
def own_F0 (p0 : Int32) : Int32 :=
  let v5 : Int32 := (if (p0 &&& (1 : Int32)) = (0 : Int32) then (0 : Int32) else (1 : Int32))
  let v11 : Int32 := (if (p0 &&& (2 : Int32)) = (0 : Int32) then (0 : Int32) else (1 : Int32))
  let v17 : Int32 := (if (p0 &&& (4 : Int32)) = (0 : Int32) then (0 : Int32) else (1 : Int32))
  let v23 : Int32 := (if (p0 &&& (8 : Int32)) = (0 : Int32) then (0 : Int32) else (1 : Int32))
  let v43 : Int32 := (if v11 = (0 : Int32) then (1 : Int32) else (0 : Int32))
  let v61 : Int32 := (if v23 = (0 : Int32) then (if v5 = (0 : Int32) then v17 else (1 : Int32)) else (0 : Int32))
  let v65 : Int32 := (own_F4 (nar .boolean v5) (nar .boolean v17) (nar .boolean v23))
  let v70 : Int32 := (if v65 = v61 then (1 : Int32) else (0 : Int32))
  let v74 : Int32 := (own_F4 (nar .boolean v5) (nar .boolean v17) (nar .boolean v23))
  let v79 : Int32 := (if v74 = v61 then (1 : Int32) else (0 : Int32))
  let v95 : Int32 := (own_F4 (nar .boolean (nar .boolean v5)) (nar .boolean (nar .boolean v17)) (nar .boolean (1 : Int32)))
  let v99 : Int32 := (if v95 = (0 : Int32) then (1 : Int32) else (0 : Int32))
  let v120 : Int32 := (own_F4 (nar .boolean (1 : Int32)) (nar .boolean (nar .boolean v17)) (nar .boolean (nar .boolean v23)))
  let v125 : Int32 := (if v23 = (0 : Int32) then (1 : Int32) else (0 : Int32))
  let v130 : Int32 := (if v120 = v125 then (1 : Int32) else (0 : Int32))
  if v70 = (0 : Int32) then
    (0 : Int32)
  else
    if v79 = (0 : Int32) then
      (0 : Int32)
    else
      if v99 = (0 : Int32) then
        (0 : Int32)
      else
        if v130 = (0 : Int32) then
          (0 : Int32)
        else
          (1 : Int32)
def own_Q0 (Z : State) (p0 : Int32) (h0 : Heap) (n0 : Nat) (vz : Option Value) (h : Heap) (Lz : List Loc) : Prop := vz = some (.int (own_F0 p0)) ∧ Fr n0 Lz
theorem own_e0_135 {p0 : Int32} {v5 : Int32} {v11 : Int32} {v17 : Int32} {v23 : Int32} {v43 : Int32} {v61 : Int32} {v65 : Int32} {v70 : Int32} {v74 : Int32} {v79 : Int32} {v95 : Int32} {v99 : Int32} {v120 : Int32} {v125 : Int32} {v130 : Int32} (hv5 : v5 = (if (p0 &&& (1 : Int32)) = (0 : Int32) then (0 : Int32) else (1 : Int32))) (hv11 : v11 = (if (p0 &&& (2 : Int32)) = (0 : Int32) then (0 : Int32) else (1 : Int32))) (hv17 : v17 = (if (p0 &&& (4 : Int32)) = (0 : Int32) then (0 : Int32) else (1 : Int32))) (hv23 : v23 = (if (p0 &&& (8 : Int32)) = (0 : Int32) then (0 : Int32) else (1 : Int32))) (hv43 : v43 = (if v11 = (0 : Int32) then (1 : Int32) else (0 : Int32))) (hv61 : v61 = (if v23 = (0 : Int32) then (if v5 = (0 : Int32) then v17 else (1 : Int32)) else (0 : Int32))) (hv65 : v65 = (own_F4 (nar .boolean v5) (nar .boolean v17) (nar .boolean v23))) (hv70 : v70 = (if v65 = v61 then (1 : Int32) else (0 : Int32))) (hv74 : v74 = (own_F4 (nar .boolean v5) (nar .boolean v17) (nar .boolean v23))) (hv79 : v79 = (if v74 = v61 then (1 : Int32) else (0 : Int32))) (hv95 : v95 = (own_F4 (nar .boolean (nar .boolean v5)) (nar .boolean (nar .boolean v17)) (nar .boolean (1 : Int32)))) (hv99 : v99 = (if v95 = (0 : Int32) then (1 : Int32) else (0 : Int32))) (hv120 : v120 = (own_F4 (nar .boolean (1 : Int32)) (nar .boolean (nar .boolean v17)) (nar .boolean (nar .boolean v23)))) (hv125 : v125 = (if v23 = (0 : Int32) then (1 : Int32) else (0 : Int32))) (hv130 : v130 = (if v120 = v125 then (1 : Int32) else (0 : Int32))) (hc192_133 : v70 = (0 : Int32)) : (nar .boolean (0 : Int32)) = (own_F0 p0) := by
  rw [own_nb0]
  subst hv5 hv11 hv17 hv23 hv43 hv61 hv65 hv70 hv74 hv79 hv95 hv99 hv120 hv125 hv130
  first
    | (simp only [own_F0, if_pos hc192_133]; done)
    | (exfalso; contradiction)
theorem own_e0_139 {p0 : Int32} {v5 : Int32} {v11 : Int32} {v17 : Int32} {v23 : Int32} {v43 : Int32} {v61 : Int32} {v65 : Int32} {v70 : Int32} {v74 : Int32} {v79 : Int32} {v95 : Int32} {v99 : Int32} {v120 : Int32} {v125 : Int32} {v130 : Int32} (hv5 : v5 = (if (p0 &&& (1 : Int32)) = (0 : Int32) then (0 : Int32) else (1 : Int32))) (hv11 : v11 = (if (p0 &&& (2 : Int32)) = (0 : Int32) then (0 : Int32) else (1 : Int32))) (hv17 : v17 = (if (p0 &&& (4 : Int32)) = (0 : Int32) then (0 : Int32) else (1 : Int32))) (hv23 : v23 = (if (p0 &&& (8 : Int32)) = (0 : Int32) then (0 : Int32) else (1 : Int32))) (hv43 : v43 = (if v11 = (0 : Int32) then (1 : Int32) else (0 : Int32))) (hv61 : v61 = (if v23 = (0 : Int32) then (if v5 = (0 : Int32) then v17 else (1 : Int32)) else (0 : Int32))) (hv65 : v65 = (own_F4 (nar .boolean v5) (nar .boolean v17) (nar .boolean v23))) (hv70 : v70 = (if v65 = v61 then (1 : Int32) else (0 : Int32))) (hv74 : v74 = (own_F4 (nar .boolean v5) (nar .boolean v17) (nar .boolean v23))) (hv79 : v79 = (if v74 = v61 then (1 : Int32) else (0 : Int32))) (hv95 : v95 = (own_F4 (nar .boolean (nar .boolean v5)) (nar .boolean (nar .boolean v17)) (nar .boolean (1 : Int32)))) (hv99 : v99 = (if v95 = (0 : Int32) then (1 : Int32) else (0 : Int32))) (hv120 : v120 = (own_F4 (nar .boolean (1 : Int32)) (nar .boolean (nar .boolean v17)) (nar .boolean (nar .boolean v23)))) (hv125 : v125 = (if v23 = (0 : Int32) then (1 : Int32) else (0 : Int32))) (hv130 : v130 = (if v120 = v125 then (1 : Int32) else (0 : Int32))) (hc192_133 : ¬ (v70 = (0 : Int32))) (hc197_137 : v79 = (0 : Int32)) : (nar .boolean (0 : Int32)) = (own_F0 p0) := by
  rw [own_nb0]
  subst hv5 hv11 hv17 hv23 hv43 hv61 hv65 hv70 hv74 hv79 hv95 hv99 hv120 hv125 hv130
  first
    | (simp only [own_F0, if_neg hc192_133, if_pos hc197_137]; done)
    | (exfalso; contradiction)
theorem own_e0_143 {p0 : Int32} {v5 : Int32} {v11 : Int32} {v17 : Int32} {v23 : Int32} {v43 : Int32} {v61 : Int32} {v65 : Int32} {v70 : Int32} {v74 : Int32} {v79 : Int32} {v95 : Int32} {v99 : Int32} {v120 : Int32} {v125 : Int32} {v130 : Int32} (hv5 : v5 = (if (p0 &&& (1 : Int32)) = (0 : Int32) then (0 : Int32) else (1 : Int32))) (hv11 : v11 = (if (p0 &&& (2 : Int32)) = (0 : Int32) then (0 : Int32) else (1 : Int32))) (hv17 : v17 = (if (p0 &&& (4 : Int32)) = (0 : Int32) then (0 : Int32) else (1 : Int32))) (hv23 : v23 = (if (p0 &&& (8 : Int32)) = (0 : Int32) then (0 : Int32) else (1 : Int32))) (hv43 : v43 = (if v11 = (0 : Int32) then (1 : Int32) else (0 : Int32))) (hv61 : v61 = (if v23 = (0 : Int32) then (if v5 = (0 : Int32) then v17 else (1 : Int32)) else (0 : Int32))) (hv65 : v65 = (own_F4 (nar .boolean v5) (nar .boolean v17) (nar .boolean v23))) (hv70 : v70 = (if v65 = v61 then (1 : Int32) else (0 : Int32))) (hv74 : v74 = (own_F4 (nar .boolean v5) (nar .boolean v17) (nar .boolean v23))) (hv79 : v79 = (if v74 = v61 then (1 : Int32) else (0 : Int32))) (hv95 : v95 = (own_F4 (nar .boolean (nar .boolean v5)) (nar .boolean (nar .boolean v17)) (nar .boolean (1 : Int32)))) (hv99 : v99 = (if v95 = (0 : Int32) then (1 : Int32) else (0 : Int32))) (hv120 : v120 = (own_F4 (nar .boolean (1 : Int32)) (nar .boolean (nar .boolean v17)) (nar .boolean (nar .boolean v23)))) (hv125 : v125 = (if v23 = (0 : Int32) then (1 : Int32) else (0 : Int32))) (hv130 : v130 = (if v120 = v125 then (1 : Int32) else (0 : Int32))) (hc192_133 : ¬ (v70 = (0 : Int32))) (hc197_137 : ¬ (v79 = (0 : Int32))) (hc202_141 : v99 = (0 : Int32)) : (nar .boolean (0 : Int32)) = (own_F0 p0) := by
  rw [own_nb0]
  subst hv5 hv11 hv17 hv23 hv43 hv61 hv65 hv70 hv74 hv79 hv95 hv99 hv120 hv125 hv130
  first
    | (simp only [own_F0, if_neg hc192_133, if_neg hc197_137, if_pos hc202_141]; done)
    | (exfalso; contradiction)
theorem own_e0_147 {p0 : Int32} {v5 : Int32} {v11 : Int32} {v17 : Int32} {v23 : Int32} {v43 : Int32} {v61 : Int32} {v65 : Int32} {v70 : Int32} {v74 : Int32} {v79 : Int32} {v95 : Int32} {v99 : Int32} {v120 : Int32} {v125 : Int32} {v130 : Int32} (hv5 : v5 = (if (p0 &&& (1 : Int32)) = (0 : Int32) then (0 : Int32) else (1 : Int32))) (hv11 : v11 = (if (p0 &&& (2 : Int32)) = (0 : Int32) then (0 : Int32) else (1 : Int32))) (hv17 : v17 = (if (p0 &&& (4 : Int32)) = (0 : Int32) then (0 : Int32) else (1 : Int32))) (hv23 : v23 = (if (p0 &&& (8 : Int32)) = (0 : Int32) then (0 : Int32) else (1 : Int32))) (hv43 : v43 = (if v11 = (0 : Int32) then (1 : Int32) else (0 : Int32))) (hv61 : v61 = (if v23 = (0 : Int32) then (if v5 = (0 : Int32) then v17 else (1 : Int32)) else (0 : Int32))) (hv65 : v65 = (own_F4 (nar .boolean v5) (nar .boolean v17) (nar .boolean v23))) (hv70 : v70 = (if v65 = v61 then (1 : Int32) else (0 : Int32))) (hv74 : v74 = (own_F4 (nar .boolean v5) (nar .boolean v17) (nar .boolean v23))) (hv79 : v79 = (if v74 = v61 then (1 : Int32) else (0 : Int32))) (hv95 : v95 = (own_F4 (nar .boolean (nar .boolean v5)) (nar .boolean (nar .boolean v17)) (nar .boolean (1 : Int32)))) (hv99 : v99 = (if v95 = (0 : Int32) then (1 : Int32) else (0 : Int32))) (hv120 : v120 = (own_F4 (nar .boolean (1 : Int32)) (nar .boolean (nar .boolean v17)) (nar .boolean (nar .boolean v23)))) (hv125 : v125 = (if v23 = (0 : Int32) then (1 : Int32) else (0 : Int32))) (hv130 : v130 = (if v120 = v125 then (1 : Int32) else (0 : Int32))) (hc192_133 : ¬ (v70 = (0 : Int32))) (hc197_137 : ¬ (v79 = (0 : Int32))) (hc202_141 : ¬ (v99 = (0 : Int32))) (hc207_145 : v130 = (0 : Int32)) : (nar .boolean (0 : Int32)) = (own_F0 p0) := by
  rw [own_nb0]
  subst hv5 hv11 hv17 hv23 hv43 hv61 hv65 hv70 hv74 hv79 hv95 hv99 hv120 hv125 hv130
  first
    | (simp only [own_F0, if_neg hc192_133, if_neg hc197_137, if_neg hc202_141, if_pos hc207_145]; done)
    | (exfalso; contradiction)
theorem own_e0_149 {p0 : Int32} {v5 : Int32} {v11 : Int32} {v17 : Int32} {v23 : Int32} {v43 : Int32} {v61 : Int32} {v65 : Int32} {v70 : Int32} {v74 : Int32} {v79 : Int32} {v95 : Int32} {v99 : Int32} {v120 : Int32} {v125 : Int32} {v130 : Int32} (hv5 : v5 = (if (p0 &&& (1 : Int32)) = (0 : Int32) then (0 : Int32) else (1 : Int32))) (hv11 : v11 = (if (p0 &&& (2 : Int32)) = (0 : Int32) then (0 : Int32) else (1 : Int32))) (hv17 : v17 = (if (p0 &&& (4 : Int32)) = (0 : Int32) then (0 : Int32) else (1 : Int32))) (hv23 : v23 = (if (p0 &&& (8 : Int32)) = (0 : Int32) then (0 : Int32) else (1 : Int32))) (hv43 : v43 = (if v11 = (0 : Int32) then (1 : Int32) else (0 : Int32))) (hv61 : v61 = (if v23 = (0 : Int32) then (if v5 = (0 : Int32) then v17 else (1 : Int32)) else (0 : Int32))) (hv65 : v65 = (own_F4 (nar .boolean v5) (nar .boolean v17) (nar .boolean v23))) (hv70 : v70 = (if v65 = v61 then (1 : Int32) else (0 : Int32))) (hv74 : v74 = (own_F4 (nar .boolean v5) (nar .boolean v17) (nar .boolean v23))) (hv79 : v79 = (if v74 = v61 then (1 : Int32) else (0 : Int32))) (hv95 : v95 = (own_F4 (nar .boolean (nar .boolean v5)) (nar .boolean (nar .boolean v17)) (nar .boolean (1 : Int32)))) (hv99 : v99 = (if v95 = (0 : Int32) then (1 : Int32) else (0 : Int32))) (hv120 : v120 = (own_F4 (nar .boolean (1 : Int32)) (nar .boolean (nar .boolean v17)) (nar .boolean (nar .boolean v23)))) (hv125 : v125 = (if v23 = (0 : Int32) then (1 : Int32) else (0 : Int32))) (hv130 : v130 = (if v120 = v125 then (1 : Int32) else (0 : Int32))) (hc192_133 : ¬ (v70 = (0 : Int32))) (hc197_137 : ¬ (v79 = (0 : Int32))) (hc202_141 : ¬ (v99 = (0 : Int32))) (hc207_145 : ¬ (v130 = (0 : Int32))) : (nar .boolean (1 : Int32)) = (own_F0 p0) := by
  rw [own_nb1]
  subst hv5 hv11 hv17 hv23 hv43 hv61 hv65 hv70 hv74 hv79 hv95 hv99 hv120 hv125 hv130
  first
    | (simp only [own_F0, if_neg hc192_133, if_neg hc197_137, if_neg hc202_141, if_neg hc207_145]; done)
    | (exfalso; contradiction)
set_option maxRecDepth 65536 in
set_option maxHeartbeats 40000000 in
theorem own_rm0 (l : Launch) (Z : State) (a0 : Array Value) (hw : ∀ d ∈ tables_1, d.before a0 Z = true) (ws : List Jvm.Cond) (p0 : Int32) (h0 : Heap) (n0 : Nat) (Z0 : n0 ≤ h0.size) :
    MetFree l x (head1 (Jvm.Cond.code x code maxLocals ret :: ws) room_1) (fun a U => a = #[(.int p0)] ∧ Z.Warmed39 U.vm ∧ U.heap = h0) (fun _ _ _ _ _ => True) (fun _ U o U' => ∃ vz Lz, o = .returned vz ∧ own_Q0 Z p0 h0 n0 vz U'.heap Lz ∧ FrameEnd U o U' Lz room_1.cells room_1.slots) := by
  refine MetFree.of_bodySF (plainFor_of_name own_pn0) hisR ?_
  intro p e s m args below meth c s₁ Bd hml0 hP hK
  obtain ⟨rfl, hZ, hh⟩ := hP
  have hx := Bd.exec
  have hby := Bd.bytes
  have hml : c.maxLocals = 12 := hml0
  have hown : s.vm.findClass "com/example/tx1/tx1/PartCommittedUntoldPinLaw" = some m.cls := findClass_of_methodNamed Bd.named
  have hnm := (name_of_methodNamed Bd.named Bd.method).1
  have X0 : Stand p l e room_1 s m #[(.int p0)] below meth c s₁ [] 0 0 := Stand.of_body Bd
  have e0 : s₁.heap = h0 := by rw [← hh, Bd.state]; rfl
  show own_End p e below s (fun vz h Lz => vz = some (.int (own_F0 p0)) ∧ Fr n0 Lz) room_1.cells room_1.slots s₁ (entryFrame m #[(.int p0)] maxLocals)
  refine own_End.go (fun t k => castTop (own_ef0 m p0) k) ?_
  show own_End p e below s _ _ _ s₁ (mkF m 0 #[.val (.int p0), .unset, .unset, .unset, .unset, .unset, .unset, .unset, .unset, .unset, .unset, .unset] [])
  have N0 := Fr.nil n0
  have st1 : ∀ t, Steps p.tables e below (s₁.setTop (mkF m 3 #[.val (.int p0), .unset, .unset, .unset, .unset, .unset, .unset, .unset, .unset, .unset, .unset, .unset] [(.int (p0 &&& (1 : Int32)))])) t → Steps p.tables e below (s₁.setTop (mkF m 0 #[.val (.int p0), .unset, .unset, .unset, .unset, .unset, .unset, .unset, .unset, .unset, .unset, .unset] [])) t := by
    intro t k
    show Steps p.tables e below (s₁.setTop (mkF m 0 #[.val (.int p0), .unset, .unset, .unset, .unset, .unset, .unset, .unset, .unset, .unset, .unset, .unset] [])) _
    refine XS.iloadN X0.here hx rfl (hb hby at_0) rfl ?_
    show Steps p.tables e below (s₁.setTop (mkF m 1 #[.val (.int p0), .unset, .unset, .unset, .unset, .unset, .unset, .unset, .unset, .unset, .unset, .unset] [(.int p0)])) _
    refine XS.iconst X0.here hx rfl (hb hby at_1) ?_
    show Steps p.tables e below (s₁.setTop (mkF m 2 #[.val (.int p0), .unset, .unset, .unset, .unset, .unset, .unset, .unset, .unset, .unset, .unset, .unset] [(.int (1 : Int32)), (.int p0)])) _
    refine XS.iand X0.here hx rfl (hb hby at_2) rfl ?_
    exact k
  obtain ⟨v5, hv5⟩ : ∃ z : Int32, z = (if (p0 &&& (1 : Int32)) = (0 : Int32) then (0 : Int32) else (1 : Int32)) := ⟨_, rfl⟩
  have st6 : ∀ t, Steps p.tables e below (s₁.setTop (mkF m 11 #[.val (.int p0), .unset, .unset, .unset, .unset, .unset, .unset, .unset, .unset, .unset, .unset, .unset] [(.int v5)])) t → Steps p.tables e below (s₁.setTop (mkF m 3 #[.val (.int p0), .unset, .unset, .unset, .unset, .unset, .unset, .unset, .unset, .unset, .unset, .unset] [(.int (p0 &&& (1 : Int32)))])) t := by
    rw [hv5]
    by_cases hc3_2 : (p0 &&& (1 : Int32)) = (0 : Int32)
    · repeat rw [if_pos hc3_2]
      have st3 : ∀ t, Steps p.tables e below (s₁.setTop (mkF m 11 #[.val (.int p0), .unset, .unset, .unset, .unset, .unset, .unset, .unset, .unset, .unset, .unset, .unset] [(.int (0 : Int32))])) t → Steps p.tables e below (s₁.setTop (mkF m 3 #[.val (.int p0), .unset, .unset, .unset, .unset, .unset, .unset, .unset, .unset, .unset, .unset, .unset] [(.int (p0 &&& (1 : Int32)))])) t := by
        intro t k
        show Steps p.tables e below (s₁.setTop (mkF m 3 #[.val (.int p0), .unset, .unset, .unset, .unset, .unset, .unset, .unset, .unset, .unset, .unset, .unset] [(.int (p0 &&& (1 : Int32)))])) _
        refine XS.ifYes X0.here hx rfl (pc0 := 3) (pc' := 10) rfl (hb hby at_3) rfl ((if0 _ _).trans (teq hc3_2).1) (by decide) (by decide) ?_
        show Steps p.tables e below (s₁.setTop (mkF m 10 #[.val (.int p0), .unset, .unset, .unset, .unset, .unset, .unset, .unset, .unset, .unset, .unset, .unset] [])) _
        refine XS.iconst X0.here hx rfl (hb hby at_10) ?_
        exact k
      exact fun t k => st3 _ k
    · repeat rw [if_neg hc3_2]
      have st4 : ∀ t, Steps p.tables e below (s₁.setTop (mkF m 11 #[.val (.int p0), .unset, .unset, .unset, .unset, .unset, .unset, .unset, .unset, .unset, .unset, .unset] [(.int (1 : Int32))])) t → Steps p.tables e below (s₁.setTop (mkF m 3 #[.val (.int p0), .unset, .unset, .unset, .unset, .unset, .unset, .unset, .unset, .unset, .unset, .unset] [(.int (p0 &&& (1 : Int32)))])) t := by
        intro t k
        show Steps p.tables e below (s₁.setTop (mkF m 3 #[.val (.int p0), .unset, .unset, .unset, .unset, .unset, .unset, .unset, .unset, .unset, .unset, .unset] [(.int (p0 &&& (1 : Int32)))])) _
        refine XS.ifNo X0.here hx rfl (hb hby at_3) rfl ((if0 _ _).trans (feq hc3_2).1) ?_
        show Steps p.tables e below (s₁.setTop (mkF m 6 #[.val (.int p0), .unset, .unset, .unset, .unset, .unset, .unset, .unset, .unset, .unset, .unset, .unset] [])) _
        refine XS.iconst X0.here hx rfl (hb hby at_6) ?_
        show Steps p.tables e below (s₁.setTop (mkF m 7 #[.val (.int p0), .unset, .unset, .unset, .unset, .unset, .unset, .unset, .unset, .unset, .unset, .unset] [(.int (1 : Int32))])) _
        refine XS.goto X0.here hx rfl (pc0 := 7) (pc' := 11) rfl (hb hby at_7) (by decide) (by decide) ?_
        exact k
      exact fun t k => st4 _ k
  have st7 : ∀ t, Steps p.tables e below (s₁.setTop (mkF m 15 #[.val (.int p0), .val (.int v5), .unset, .unset, .unset, .unset, .unset, .unset, .unset, .unset, .unset, .unset] [(.int (p0 &&& (2 : Int32)))])) t → Steps p.tables e below (s₁.setTop (mkF m 11 #[.val (.int p0), .unset, .unset, .unset, .unset, .unset, .unset, .unset, .unset, .unset, .unset, .unset] [(.int v5)])) t := by
    intro t k
    show Steps p.tables e below (s₁.setTop (mkF m 11 #[.val (.int p0), .unset, .unset, .unset, .unset, .unset, .unset, .unset, .unset, .unset, .unset, .unset] [(.int v5)])) _
    refine XS.istoreN X0.here hx rfl (hb hby at_11) rfl (l' := #[.val (.int p0), .val (.int v5), .unset, .unset, .unset, .unset, .unset, .unset, .unset, .unset, .unset, .unset]) rfl ?_
    show Steps p.tables e below (s₁.setTop (mkF m 12 #[.val (.int p0), .val (.int v5), .unset, .unset, .unset, .unset, .unset, .unset, .unset, .unset, .unset, .unset] [])) _
    refine XS.iloadN X0.here hx rfl (hb hby at_12) rfl ?_
    show Steps p.tables e below (s₁.setTop (mkF m 13 #[.val (.int p0), .val (.int v5), .unset, .unset, .unset, .unset, .unset, .unset, .unset, .unset, .unset, .unset] [(.int p0)])) _
    refine XS.iconst X0.here hx rfl (hb hby at_13) ?_
    show Steps p.tables e below (s₁.setTop (mkF m 14 #[.val (.int p0), .val (.int v5), .unset, .unset, .unset, .unset, .unset, .unset, .unset, .unset, .unset, .unset] [(.int (2 : Int32)), (.int p0)])) _
    refine XS.iand X0.here hx rfl (hb hby at_14) rfl ?_
    exact k
  obtain ⟨v11, hv11⟩ : ∃ z : Int32, z = (if (p0 &&& (2 : Int32)) = (0 : Int32) then (0 : Int32) else (1 : Int32)) := ⟨_, rfl⟩
  have st12 : ∀ t, Steps p.tables e below (s₁.setTop (mkF m 23 #[.val (.int p0), .val (.int v5), .unset, .unset, .unset, .unset, .unset, .unset, .unset, .unset, .unset, .unset] [(.int v11)])) t → Steps p.tables e below (s₁.setTop (mkF m 15 #[.val (.int p0), .val (.int v5), .unset, .unset, .unset, .unset, .unset, .unset, .unset, .unset, .unset, .unset] [(.int (p0 &&& (2 : Int32)))])) t := by
    rw [hv11]
    by_cases hc15_8 : (p0 &&& (2 : Int32)) = (0 : Int32)
    · repeat rw [if_pos hc15_8]
      have st9 : ∀ t, Steps p.tables e below (s₁.setTop (mkF m 23 #[.val (.int p0), .val (.int v5), .unset, .unset, .unset, .unset, .unset, .unset, .unset, .unset, .unset, .unset] [(.int (0 : Int32))])) t → Steps p.tables e below (s₁.setTop (mkF m 15 #[.val (.int p0), .val (.int v5), .unset, .unset, .unset, .unset, .unset, .unset, .unset, .unset, .unset, .unset] [(.int (p0 &&& (2 : Int32)))])) t := by
        intro t k
        show Steps p.tables e below (s₁.setTop (mkF m 15 #[.val (.int p0), .val (.int v5), .unset, .unset, .unset, .unset, .unset, .unset, .unset, .unset, .unset, .unset] [(.int (p0 &&& (2 : Int32)))])) _
        refine XS.ifYes X0.here hx rfl (pc0 := 15) (pc' := 22) rfl (hb hby at_15) rfl ((if0 _ _).trans (teq hc15_8).1) (by decide) (by decide) ?_
        show Steps p.tables e below (s₁.setTop (mkF m 22 #[.val (.int p0), .val (.int v5), .unset, .unset, .unset, .unset, .unset, .unset, .unset, .unset, .unset, .unset] [])) _
        refine XS.iconst X0.here hx rfl (hb hby at_22) ?_
        exact k
      exact fun t k => st9 _ k
    · repeat rw [if_neg hc15_8]
      have st10 : ∀ t, Steps p.tables e below (s₁.setTop (mkF m 23 #[.val (.int p0), .val (.int v5), .unset, .unset, .unset, .unset, .unset, .unset, .unset, .unset, .unset, .unset] [(.int (1 : Int32))])) t → Steps p.tables e below (s₁.setTop (mkF m 15 #[.val (.int p0), .val (.int v5), .unset, .unset, .unset, .unset, .unset, .unset, .unset, .unset, .unset, .unset] [(.int (p0 &&& (2 : Int32)))])) t := by
        intro t k
        show Steps p.tables e below (s₁.setTop (mkF m 15 #[.val (.int p0), .val (.int v5), .unset, .unset, .unset, .unset, .unset, .unset, .unset, .unset, .unset, .unset] [(.int (p0 &&& (2 : Int32)))])) _
        refine XS.ifNo X0.here hx rfl (hb hby at_15) rfl ((if0 _ _).trans (feq hc15_8).1) ?_
        show Steps p.tables e below (s₁.setTop (mkF m 18 #[.val (.int p0), .val (.int v5), .unset, .unset, .unset, .unset, .unset, .unset, .unset, .unset, .unset, .unset] [])) _
        refine XS.iconst X0.here hx rfl (hb hby at_18) ?_
        show Steps p.tables e below (s₁.setTop (mkF m 19 #[.val (.int p0), .val (.int v5), .unset, .unset, .unset, .unset, .unset, .unset, .unset, .unset, .unset, .unset] [(.int (1 : Int32))])) _
        refine XS.goto X0.here hx rfl (pc0 := 19) (pc' := 23) rfl (hb hby at_19) (by decide) (by decide) ?_
        exact k
      exact fun t k => st10 _ k
  have st13 : ∀ t, Steps p.tables e below (s₁.setTop (mkF m 27 #[.val (.int p0), .val (.int v5), .val (.int v11), .unset, .unset, .unset, .unset, .unset, .unset, .unset, .unset, .unset] [(.int (p0 &&& (4 : Int32)))])) t → Steps p.tables e below (s₁.setTop (mkF m 23 #[.val (.int p0), .val (.int v5), .unset, .unset, .unset, .unset, .unset, .unset, .unset, .unset, .unset, .unset] [(.int v11)])) t := by
    intro t k
    show Steps p.tables e below (s₁.setTop (mkF m 23 #[.val (.int p0), .val (.int v5), .unset, .unset, .unset, .unset, .unset, .unset, .unset, .unset, .unset, .unset] [(.int v11)])) _
    refine XS.istoreN X0.here hx rfl (hb hby at_23) rfl (l' := #[.val (.int p0), .val (.int v5), .val (.int v11), .unset, .unset, .unset, .unset, .unset, .unset, .unset, .unset, .unset]) rfl ?_
    show Steps p.tables e below (s₁.setTop (mkF m 24 #[.val (.int p0), .val (.int v5), .val (.int v11), .unset, .unset, .unset, .unset, .unset, .unset, .unset, .unset, .unset] [])) _
    refine XS.iloadN X0.here hx rfl (hb hby at_24) rfl ?_
    show Steps p.tables e below (s₁.setTop (mkF m 25 #[.val (.int p0), .val (.int v5), .val (.int v11), .unset, .unset, .unset, .unset, .unset, .unset, .unset, .unset, .unset] [(.int p0)])) _
    refine XS.iconst X0.here hx rfl (hb hby at_25) ?_
    show Steps p.tables e below (s₁.setTop (mkF m 26 #[.val (.int p0), .val (.int v5), .val (.int v11), .unset, .unset, .unset, .unset, .unset, .unset, .unset, .unset, .unset] [(.int (4 : Int32)), (.int p0)])) _
    refine XS.iand X0.here hx rfl (hb hby at_26) rfl ?_
    exact k
  obtain ⟨v17, hv17⟩ : ∃ z : Int32, z = (if (p0 &&& (4 : Int32)) = (0 : Int32) then (0 : Int32) else (1 : Int32)) := ⟨_, rfl⟩
  have st18 : ∀ t, Steps p.tables e below (s₁.setTop (mkF m 35 #[.val (.int p0), .val (.int v5), .val (.int v11), .unset, .unset, .unset, .unset, .unset, .unset, .unset, .unset, .unset] [(.int v17)])) t → Steps p.tables e below (s₁.setTop (mkF m 27 #[.val (.int p0), .val (.int v5), .val (.int v11), .unset, .unset, .unset, .unset, .unset, .unset, .unset, .unset, .unset] [(.int (p0 &&& (4 : Int32)))])) t := by
    rw [hv17]
    by_cases hc27_14 : (p0 &&& (4 : Int32)) = (0 : Int32)
    · repeat rw [if_pos hc27_14]
      have st15 : ∀ t, Steps p.tables e below (s₁.setTop (mkF m 35 #[.val (.int p0), .val (.int v5), .val (.int v11), .unset, .unset, .unset, .unset, .unset, .unset, .unset, .unset, .unset] [(.int (0 : Int32))])) t → Steps p.tables e below (s₁.setTop (mkF m 27 #[.val (.int p0), .val (.int v5), .val (.int v11), .unset, .unset, .unset, .unset, .unset, .unset, .unset, .unset, .unset] [(.int (p0 &&& (4 : Int32)))])) t := by
        intro t k
        show Steps p.tables e below (s₁.setTop (mkF m 27 #[.val (.int p0), .val (.int v5), .val (.int v11), .unset, .unset, .unset, .unset, .unset, .unset, .unset, .unset, .unset] [(.int (p0 &&& (4 : Int32)))])) _
        refine XS.ifYes X0.here hx rfl (pc0 := 27) (pc' := 34) rfl (hb hby at_27) rfl ((if0 _ _).trans (teq hc27_14).1) (by decide) (by decide) ?_
        show Steps p.tables e below (s₁.setTop (mkF m 34 #[.val (.int p0), .val (.int v5), .val (.int v11), .unset, .unset, .unset, .unset, .unset, .unset, .unset, .unset, .unset] [])) _
        refine XS.iconst X0.here hx rfl (hb hby at_34) ?_
        exact k
      exact fun t k => st15 _ k
    · repeat rw [if_neg hc27_14]
      have st16 : ∀ t, Steps p.tables e below (s₁.setTop (mkF m 35 #[.val (.int p0), .val (.int v5), .val (.int v11), .unset, .unset, .unset, .unset, .unset, .unset, .unset, .unset, .unset] [(.int (1 : Int32))])) t → Steps p.tables e below (s₁.setTop (mkF m 27 #[.val (.int p0), .val (.int v5), .val (.int v11), .unset, .unset, .unset, .unset, .unset, .unset, .unset, .unset, .unset] [(.int (p0 &&& (4 : Int32)))])) t := by
        intro t k
        show Steps p.tables e below (s₁.setTop (mkF m 27 #[.val (.int p0), .val (.int v5), .val (.int v11), .unset, .unset, .unset, .unset, .unset, .unset, .unset, .unset, .unset] [(.int (p0 &&& (4 : Int32)))])) _
        refine XS.ifNo X0.here hx rfl (hb hby at_27) rfl ((if0 _ _).trans (feq hc27_14).1) ?_
        show Steps p.tables e below (s₁.setTop (mkF m 30 #[.val (.int p0), .val (.int v5), .val (.int v11), .unset, .unset, .unset, .unset, .unset, .unset, .unset, .unset, .unset] [])) _
        refine XS.iconst X0.here hx rfl (hb hby at_30) ?_
        show Steps p.tables e below (s₁.setTop (mkF m 31 #[.val (.int p0), .val (.int v5), .val (.int v11), .unset, .unset, .unset, .unset, .unset, .unset, .unset, .unset, .unset] [(.int (1 : Int32))])) _
        refine XS.goto X0.here hx rfl (pc0 := 31) (pc' := 35) rfl (hb hby at_31) (by decide) (by decide) ?_
        exact k
      exact fun t k => st16 _ k
  have st19 : ∀ t, Steps p.tables e below (s₁.setTop (mkF m 40 #[.val (.int p0), .val (.int v5), .val (.int v11), .val (.int v17), .unset, .unset, .unset, .unset, .unset, .unset, .unset, .unset] [(.int (p0 &&& (8 : Int32)))])) t → Steps p.tables e below (s₁.setTop (mkF m 35 #[.val (.int p0), .val (.int v5), .val (.int v11), .unset, .unset, .unset, .unset, .unset, .unset, .unset, .unset, .unset] [(.int v17)])) t := by
    intro t k
    show Steps p.tables e below (s₁.setTop (mkF m 35 #[.val (.int p0), .val (.int v5), .val (.int v11), .unset, .unset, .unset, .unset, .unset, .unset, .unset, .unset, .unset] [(.int v17)])) _
    refine XS.istoreN X0.here hx rfl (hb hby at_35) rfl (l' := #[.val (.int p0), .val (.int v5), .val (.int v11), .val (.int v17), .unset, .unset, .unset, .unset, .unset, .unset, .unset, .unset]) rfl ?_
    show Steps p.tables e below (s₁.setTop (mkF m 36 #[.val (.int p0), .val (.int v5), .val (.int v11), .val (.int v17), .unset, .unset, .unset, .unset, .unset, .unset, .unset, .unset] [])) _
    refine XS.iloadN X0.here hx rfl (hb hby at_36) rfl ?_
    show Steps p.tables e below (s₁.setTop (mkF m 37 #[.val (.int p0), .val (.int v5), .val (.int v11), .val (.int v17), .unset, .unset, .unset, .unset, .unset, .unset, .unset, .unset] [(.int p0)])) _
    refine XS.bipush X0.here hx rfl (hb hby at_37) ?_
    show Steps p.tables e below (s₁.setTop (mkF m 39 #[.val (.int p0), .val (.int v5), .val (.int v11), .val (.int v17), .unset, .unset, .unset, .unset, .unset, .unset, .unset, .unset] [(.int (8 : Int32)), (.int p0)])) _
    refine XS.iand X0.here hx rfl (hb hby at_39) rfl ?_
    exact k
  obtain ⟨v23, hv23⟩ : ∃ z : Int32, z = (if (p0 &&& (8 : Int32)) = (0 : Int32) then (0 : Int32) else (1 : Int32)) := ⟨_, rfl⟩
  have st24 : ∀ t, Steps p.tables e below (s₁.setTop (mkF m 48 #[.val (.int p0), .val (.int v5), .val (.int v11), .val (.int v17), .unset, .unset, .unset, .unset, .unset, .unset, .unset, .unset] [(.int v23)])) t → Steps p.tables e below (s₁.setTop (mkF m 40 #[.val (.int p0), .val (.int v5), .val (.int v11), .val (.int v17), .unset, .unset, .unset, .unset, .unset, .unset, .unset, .unset] [(.int (p0 &&& (8 : Int32)))])) t := by
    rw [hv23]
    by_cases hc40_20 : (p0 &&& (8 : Int32)) = (0 : Int32)
    · repeat rw [if_pos hc40_20]
      have st21 : ∀ t, Steps p.tables e below (s₁.setTop (mkF m 48 #[.val (.int p0), .val (.int v5), .val (.int v11), .val (.int v17), .unset, .unset, .unset, .unset, .unset, .unset, .unset, .unset] [(.int (0 : Int32))])) t → Steps p.tables e below (s₁.setTop (mkF m 40 #[.val (.int p0), .val (.int v5), .val (.int v11), .val (.int v17), .unset, .unset, .unset, .unset, .unset, .unset, .unset, .unset] [(.int (p0 &&& (8 : Int32)))])) t := by
        intro t k
        show Steps p.tables e below (s₁.setTop (mkF m 40 #[.val (.int p0), .val (.int v5), .val (.int v11), .val (.int v17), .unset, .unset, .unset, .unset, .unset, .unset, .unset, .unset] [(.int (p0 &&& (8 : Int32)))])) _
        refine XS.ifYes X0.here hx rfl (pc0 := 40) (pc' := 47) rfl (hb hby at_40) rfl ((if0 _ _).trans (teq hc40_20).1) (by decide) (by decide) ?_
        show Steps p.tables e below (s₁.setTop (mkF m 47 #[.val (.int p0), .val (.int v5), .val (.int v11), .val (.int v17), .unset, .unset, .unset, .unset, .unset, .unset, .unset, .unset] [])) _
        refine XS.iconst X0.here hx rfl (hb hby at_47) ?_
        exact k
      exact fun t k => st21 _ k
    · repeat rw [if_neg hc40_20]
      have st22 : ∀ t, Steps p.tables e below (s₁.setTop (mkF m 48 #[.val (.int p0), .val (.int v5), .val (.int v11), .val (.int v17), .unset, .unset, .unset, .unset, .unset, .unset, .unset, .unset] [(.int (1 : Int32))])) t → Steps p.tables e below (s₁.setTop (mkF m 40 #[.val (.int p0), .val (.int v5), .val (.int v11), .val (.int v17), .unset, .unset, .unset, .unset, .unset, .unset, .unset, .unset] [(.int (p0 &&& (8 : Int32)))])) t := by
        intro t k
        show Steps p.tables e below (s₁.setTop (mkF m 40 #[.val (.int p0), .val (.int v5), .val (.int v11), .val (.int v17), .unset, .unset, .unset, .unset, .unset, .unset, .unset, .unset] [(.int (p0 &&& (8 : Int32)))])) _
        refine XS.ifNo X0.here hx rfl (hb hby at_40) rfl ((if0 _ _).trans (feq hc40_20).1) ?_
        show Steps p.tables e below (s₁.setTop (mkF m 43 #[.val (.int p0), .val (.int v5), .val (.int v11), .val (.int v17), .unset, .unset, .unset, .unset, .unset, .unset, .unset, .unset] [])) _
        refine XS.iconst X0.here hx rfl (hb hby at_43) ?_
        show Steps p.tables e below (s₁.setTop (mkF m 44 #[.val (.int p0), .val (.int v5), .val (.int v11), .val (.int v17), .unset, .unset, .unset, .unset, .unset, .unset, .unset, .unset] [(.int (1 : Int32))])) _
        refine XS.goto X0.here hx rfl (pc0 := 44) (pc' := 48) rfl (hb hby at_44) (by decide) (by decide) ?_
        exact k
      exact fun t k => st22 _ k
  have st25 : ∀ t, Steps p.tables e below (s₁.setTop (mkF m 50 #[.val (.int p0), .val (.int v5), .val (.int v11), .val (.int v17), .val (.int v23), .unset, .unset, .unset, .unset, .unset, .unset, .unset] [])) t → Steps p.tables e below (s₁.setTop (mkF m 48 #[.val (.int p0), .val (.int v5), .val (.int v11), .val (.int v17), .unset, .unset, .unset, .unset, .unset, .unset, .unset, .unset] [(.int v23)])) t := by
    intro t k
    show Steps p.tables e below (s₁.setTop (mkF m 48 #[.val (.int p0), .val (.int v5), .val (.int v11), .val (.int v17), .unset, .unset, .unset, .unset, .unset, .unset, .unset, .unset] [(.int v23)])) _
    refine XS.istore X0.here hx rfl (hb hby at_48) rfl (l' := #[.val (.int p0), .val (.int v5), .val (.int v11), .val (.int v17), .val (.int v23), .unset, .unset, .unset, .unset, .unset, .unset, .unset]) rfl ?_
    exact k
  obtain ⟨T26, h26, b26, X26, e26, K26, q26, E26, D26, st26⟩ := own_new X0 hx hZ hown (hw _ (List.mem_of_getElem? (i := 0) rfl)) (hw _ (List.mem_of_getElem? (i := 1) rfl)) (hw _ (List.mem_of_getElem? (i := 2) rfl)) e0 (g := (mkF m 50 #[.val (.int p0), .val (.int v5), .val (.int v11), .val (.int v17), .val (.int v23), .unset, .unset, .unset, .unset, .unset, .unset, .unset] [])) rfl (hb hby at_50) (by decide) (by decide)
  have X26 : Stand p l e room_1 s m #[(.int p0)] below meth c T26 [] 1 4 := X26
  have F26_implicitly : Fld Z h26 b26 "com/example/tx1/tx1/FailureVerdict$PartCommitted" "implicitly" "Z" (.int (0 : Int32)) := D26 (Or.inr (hw _ (List.mem_of_getElem? (i := 15) rfl))) (ty := .boolean) (by decide)
  have F26_toAsk : Fld Z h26 b26 "com/example/tx1/tx1/FailureVerdict$PartCommitted" "toAsk" "Z" (.int (0 : Int32)) := D26 (Or.inr (hw _ (List.mem_of_getElem? (i := 17) rfl))) (ty := .boolean) (by decide)
  have F26_unseen : Fld Z h26 b26 "com/example/tx1/tx1/FailureVerdict$PartCommitted" "unseen" "Z" (.int (0 : Int32)) := D26 (Or.inr (hw _ (List.mem_of_getElem? (i := 19) rfl))) (ty := .boolean) (by decide)
  have F26_told : Fld Z h26 b26 "com/example/tx1/tx1/FailureVerdict$PartCommitted" "told" "Z" (.int (0 : Int32)) := D26 (Or.inr (hw _ (List.mem_of_getElem? (i := 21) rfl))) (ty := .boolean) (by decide)
  have g_b26 : n0 ≤ b26 := Nat.le_trans Z0 q26
  have Zp27 : n0 ≤ h26.size := Nat.le_trans Z0 K26.1
  have st28 : ∀ t, Steps p.tables e below (T26.setTop (mkF m 59 #[.val (.int p0), .val (.int v5), .val (.int v11), .val (.int v17), .val (.int v23), .unset, .unset, .unset, .unset, .unset, .unset, .unset] [(.int v23), (.int v17), (.int v11), (.int v5), (.ref b26), (.ref b26)])) t → Steps p.tables e below (T26.setTop (mkF m 53 #[.val (.int p0), .val (.int v5), .val (.int v11), .val (.int v17), .val (.int v23), .unset, .unset, .unset, .unset, .unset, .unset, .unset] [(.ref b26)])) t := by
    intro t k
    show Steps p.tables e below (T26.setTop (mkF m 53 #[.val (.int p0), .val (.int v5), .val (.int v11), .val (.int v17), .val (.int v23), .unset, .unset, .unset, .unset, .unset, .unset, .unset] [(.ref b26)])) _
    refine XS.dup X26.here hx rfl (hb hby at_53) rfl rfl ?_
    show Steps p.tables e below (T26.setTop (mkF m 54 #[.val (.int p0), .val (.int v5), .val (.int v11), .val (.int v17), .val (.int v23), .unset, .unset, .unset, .unset, .unset, .unset, .unset] [(.ref b26), (.ref b26)])) _
    refine XS.iloadN X26.here hx rfl (hb hby at_54) rfl ?_
    show Steps p.tables e below (T26.setTop (mkF m 55 #[.val (.int p0), .val (.int v5), .val (.int v11), .val (.int v17), .val (.int v23), .unset, .unset, .unset, .unset, .unset, .unset, .unset] [(.int v5), (.ref b26), (.ref b26)])) _
    refine XS.iloadN X26.here hx rfl (hb hby at_55) rfl ?_
    show Steps p.tables e below (T26.setTop (mkF m 56 #[.val (.int p0), .val (.int v5), .val (.int v11), .val (.int v17), .val (.int v23), .unset, .unset, .unset, .unset, .unset, .unset, .unset] [(.int v11), (.int v5), (.ref b26), (.ref b26)])) _
    refine XS.iloadN X26.here hx rfl (hb hby at_56) rfl ?_
    show Steps p.tables e below (T26.setTop (mkF m 57 #[.val (.int p0), .val (.int v5), .val (.int v11), .val (.int v17), .val (.int v23), .unset, .unset, .unset, .unset, .unset, .unset, .unset] [(.int v17), (.int v11), (.int v5), (.ref b26), (.ref b26)])) _
    refine XS.iload X26.here hx rfl (hb hby at_57) rfl ?_
    exact k
  obtain ⟨_, _, ⟨T29, L29, k29, n29⟩, -, X29, ⟨Lc29, hQ29, l29, y29, z29⟩, st29⟩ := X26.specialBack hx (y := (⟨"com/example/tx1/tx1/FailureVerdict$PartCommitted", "<init>", "(ZZZZ)V"⟩ : MethodName)) rfl hown (mvT hZ (hw _ (List.mem_of_getElem? (i := 3) rfl))) (mvT hZ (hw _ (List.mem_of_getElem? (i := 4) rfl))) (mvT hZ (hw _ (List.mem_of_getElem? (i := 5) rfl))) (by decide) (backOf (W := 1) (own_rm1 l Z a0 hw [] b26 v5 v11 v17 v23 h26 n0 Zp27 E26 F26_implicitly F26_toAsk F26_unseen F26_told g_b26) hZ (hw _ (List.mem_of_getElem? (i := 5) rfl)) (hw _ (List.mem_of_getElem? (i := 2) rfl)) (by decide) (by decide)) (g := (mkF m 59 #[.val (.int p0), .val (.int v5), .val (.int v11), .val (.int v17), .val (.int v23), .unset, .unset, .unset, .unset, .unset, .unset, .unset] [(.int v23), (.int v17), (.int v11), (.int v5), (.ref b26), (.ref b26)])) rfl (by rw [hml]; rfl) (Steps.refl _) (a := b26) (argsL := [(.int v5), (.int v11), (.int v17), (.int v23)]) (rest := [(.ref b26)]) (lenOf own_pd1 rfl) rfl (by show 2 * 0 + _ ≤ _; exact Nat.le_of_eq rfl) (hb hby at_59) (fun _ _ => ⟨rfl, e26, (by decide : 1 + 0 ≤ _), (by decide : 4 + 0 ≤ _)⟩)
  dsimp only [Pt.U, Pt.locs, Pt.cells, Pt.slots] at X29 l29 y29 z29 st29 hQ29
  subst y29 z29
  obtain ⟨rfl, Nq29, K29, Q29_0, Q29_1, Q29_2, Q29_3, Q29_4, -⟩ := hQ29
  have N29 : Fr n0 L29 := by rw [l29]; exact Fr.app N0 Nq29
  have X29' : Stand p l e room_1 s m #[(.int p0)] below meth c T29 L29 1 4 := X29
  have Zp30 : n0 ≤ T29.heap.size := Nat.le_trans Zp27 K29.1
  have st29 : ∀ t, Steps p.tables e below (T29.setTop (mkF m 62 #[.val (.int p0), .val (.int v5), .val (.int v11), .val (.int v17), .val (.int v23), .unset, .unset, .unset, .unset, .unset, .unset, .unset] [(.ref b26)])) t → Steps p.tables e below (T26.setTop (mkF m 59 #[.val (.int p0), .val (.int v5), .val (.int v11), .val (.int v17), .val (.int v23), .unset, .unset, .unset, .unset, .unset, .unset, .unset] [(.int v23), (.int v17), (.int v11), (.int v5), (.ref b26), (.ref b26)])) t := fun t k => st29.trans k
  have st31 : ∀ t, Steps p.tables e below (T29.setTop (mkF m 64 #[.val (.int p0), .val (.int v5), .val (.int v11), .val (.int v17), .val (.int v23), .val (.ref b26), .unset, .unset, .unset, .unset, .unset, .unset] [])) t → Steps p.tables e below (T29.setTop (mkF m 62 #[.val (.int p0), .val (.int v5), .val (.int v11), .val (.int v17), .val (.int v23), .unset, .unset, .unset, .unset, .unset, .unset, .unset] [(.ref b26)])) t := by
    intro t k
    show Steps p.tables e below (T29.setTop (mkF m 62 #[.val (.int p0), .val (.int v5), .val (.int v11), .val (.int v17), .val (.int v23), .unset, .unset, .unset, .unset, .unset, .unset, .unset] [(.ref b26)])) _
    refine XS.astore X29'.here hx rfl (hb hby at_62) rfl rfl (l' := #[.val (.int p0), .val (.int v5), .val (.int v11), .val (.int v17), .val (.int v23), .val (.ref b26), .unset, .unset, .unset, .unset, .unset, .unset]) rfl ?_
    exact k
  obtain ⟨T32, h32, b32, X32, e32, K32, q32, E32, D32, st32⟩ := own_new X29' hx hZ hown (hw _ (List.mem_of_getElem? (i := 0) rfl)) (hw _ (List.mem_of_getElem? (i := 1) rfl)) (hw _ (List.mem_of_getElem? (i := 2) rfl)) (rfl : T29.heap = T29.heap) (g := (mkF m 64 #[.val (.int p0), .val (.int v5), .val (.int v11), .val (.int v17), .val (.int v23), .val (.ref b26), .unset, .unset, .unset, .unset, .unset, .unset] [])) rfl (hb hby at_64) (by decide) (by decide)
  have X32 : Stand p l e room_1 s m #[(.int p0)] below meth c T32 L29 2 8 := X32
  have F32_implicitly : Fld Z h32 b32 "com/example/tx1/tx1/FailureVerdict$PartCommitted" "implicitly" "Z" (.int (0 : Int32)) := D32 (Or.inr (hw _ (List.mem_of_getElem? (i := 15) rfl))) (ty := .boolean) (by decide)
  have F32_toAsk : Fld Z h32 b32 "com/example/tx1/tx1/FailureVerdict$PartCommitted" "toAsk" "Z" (.int (0 : Int32)) := D32 (Or.inr (hw _ (List.mem_of_getElem? (i := 17) rfl))) (ty := .boolean) (by decide)
  have F32_unseen : Fld Z h32 b32 "com/example/tx1/tx1/FailureVerdict$PartCommitted" "unseen" "Z" (.int (0 : Int32)) := D32 (Or.inr (hw _ (List.mem_of_getElem? (i := 19) rfl))) (ty := .boolean) (by decide)
  have F32_told : Fld Z h32 b32 "com/example/tx1/tx1/FailureVerdict$PartCommitted" "told" "Z" (.int (0 : Int32)) := D32 (Or.inr (hw _ (List.mem_of_getElem? (i := 21) rfl))) (ty := .boolean) (by decide)
  have ne_b26_b32 : b26 ≠ b32 := own_ne Q29_0.lt q32
  have g_b32 : n0 ≤ b32 := Nat.le_trans Zp30 q32
  have f33 : Exa Z h32 b26 "com/example/tx1/tx1/FailureVerdict$PartCommitted" := Q29_0.keep K32
  have f34 : Fld Z h32 b26 "com/example/tx1/tx1/FailureVerdict$PartCommitted" "implicitly" "Z" (.int (nar .boolean v5)) := Q29_1.keep K32 nin0
  have f35 : Fld Z h32 b26 "com/example/tx1/tx1/FailureVerdict$PartCommitted" "toAsk" "Z" (.int (nar .boolean v11)) := Q29_2.keep K32 nin0
  have f36 : Fld Z h32 b26 "com/example/tx1/tx1/FailureVerdict$PartCommitted" "unseen" "Z" (.int (nar .boolean v17)) := Q29_3.keep K32 nin0
  have f37 : Fld Z h32 b26 "com/example/tx1/tx1/FailureVerdict$PartCommitted" "told" "Z" (.int (nar .boolean v23)) := Q29_4.keep K32 nin0
  have Zp38 : n0 ≤ h32.size := Nat.le_trans Zp30 K32.1
  have st39 : ∀ t, Steps p.tables e below (T32.setTop (mkF m 70 #[.val (.int p0), .val (.int v5), .val (.int v11), .val (.int v17), .val (.int v23), .val (.ref b26), .unset, .unset, .unset, .unset, .unset, .unset] [(.int v11), (.int v5), (.ref b32), (.ref b32)])) t → Steps p.tables e below (T32.setTop (mkF m 67 #[.val (.int p0), .val (.int v5), .val (.int v11), .val (.int v17), .val (.int v23), .val (.ref b26), .unset, .unset, .unset, .unset, .unset, .unset] [(.ref b32)])) t := by
    intro t k
    show Steps p.tables e below (T32.setTop (mkF m 67 #[.val (.int p0), .val (.int v5), .val (.int v11), .val (.int v17), .val (.int v23), .val (.ref b26), .unset, .unset, .unset, .unset, .unset, .unset] [(.ref b32)])) _
    refine XS.dup X32.here hx rfl (hb hby at_67) rfl rfl ?_
    show Steps p.tables e below (T32.setTop (mkF m 68 #[.val (.int p0), .val (.int v5), .val (.int v11), .val (.int v17), .val (.int v23), .val (.ref b26), .unset, .unset, .unset, .unset, .unset, .unset] [(.ref b32), (.ref b32)])) _
    refine XS.iloadN X32.here hx rfl (hb hby at_68) rfl ?_
    show Steps p.tables e below (T32.setTop (mkF m 69 #[.val (.int p0), .val (.int v5), .val (.int v11), .val (.int v17), .val (.int v23), .val (.ref b26), .unset, .unset, .unset, .unset, .unset, .unset] [(.int v5), (.ref b32), (.ref b32)])) _
    refine XS.iloadN X32.here hx rfl (hb hby at_69) rfl ?_
    exact k
  obtain ⟨v43, hv43⟩ : ∃ z : Int32, z = (if v11 = (0 : Int32) then (1 : Int32) else (0 : Int32)) := ⟨_, rfl⟩
  have st44 : ∀ t, Steps p.tables e below (T32.setTop (mkF m 78 #[.val (.int p0), .val (.int v5), .val (.int v11), .val (.int v17), .val (.int v23), .val (.ref b26), .unset, .unset, .unset, .unset, .unset, .unset] [(.int v43), (.int v5), (.ref b32), (.ref b32)])) t → Steps p.tables e below (T32.setTop (mkF m 70 #[.val (.int p0), .val (.int v5), .val (.int v11), .val (.int v17), .val (.int v23), .val (.ref b26), .unset, .unset, .unset, .unset, .unset, .unset] [(.int v11), (.int v5), (.ref b32), (.ref b32)])) t := by
    rw [hv43]
    by_cases hc70_40 : v11 = (0 : Int32)
    · repeat rw [if_pos hc70_40]
      have st41 : ∀ t, Steps p.tables e below (T32.setTop (mkF m 78 #[.val (.int p0), .val (.int v5), .val (.int v11), .val (.int v17), .val (.int v23), .val (.ref b26), .unset, .unset, .unset, .unset, .unset, .unset] [(.int (1 : Int32)), (.int v5), (.ref b32), (.ref b32)])) t → Steps p.tables e below (T32.setTop (mkF m 70 #[.val (.int p0), .val (.int v5), .val (.int v11), .val (.int v17), .val (.int v23), .val (.ref b26), .unset, .unset, .unset, .unset, .unset, .unset] [(.int v11), (.int v5), (.ref b32), (.ref b32)])) t := by
        intro t k
        show Steps p.tables e below (T32.setTop (mkF m 70 #[.val (.int p0), .val (.int v5), .val (.int v11), .val (.int v17), .val (.int v23), .val (.ref b26), .unset, .unset, .unset, .unset, .unset, .unset] [(.int v11), (.int v5), (.ref b32), (.ref b32)])) _
        refine XS.ifNo X32.here hx rfl (hb hby at_70) rfl ((if0 _ _).trans (teq hc70_40).2) ?_
        show Steps p.tables e below (T32.setTop (mkF m 73 #[.val (.int p0), .val (.int v5), .val (.int v11), .val (.int v17), .val (.int v23), .val (.ref b26), .unset, .unset, .unset, .unset, .unset, .unset] [(.int v5), (.ref b32), (.ref b32)])) _
        refine XS.iconst X32.here hx rfl (hb hby at_73) ?_
        show Steps p.tables e below (T32.setTop (mkF m 74 #[.val (.int p0), .val (.int v5), .val (.int v11), .val (.int v17), .val (.int v23), .val (.ref b26), .unset, .unset, .unset, .unset, .unset, .unset] [(.int (1 : Int32)), (.int v5), (.ref b32), (.ref b32)])) _
        refine XS.goto X32.here hx rfl (pc0 := 74) (pc' := 78) rfl (hb hby at_74) (by decide) (by decide) ?_
        exact k
      exact fun t k => st41 _ k
    · repeat rw [if_neg hc70_40]
      have st42 : ∀ t, Steps p.tables e below (T32.setTop (mkF m 78 #[.val (.int p0), .val (.int v5), .val (.int v11), .val (.int v17), .val (.int v23), .val (.ref b26), .unset, .unset, .unset, .unset, .unset, .unset] [(.int (0 : Int32)), (.int v5), (.ref b32), (.ref b32)])) t → Steps p.tables e below (T32.setTop (mkF m 70 #[.val (.int p0), .val (.int v5), .val (.int v11), .val (.int v17), .val (.int v23), .val (.ref b26), .unset, .unset, .unset, .unset, .unset, .unset] [(.int v11), (.int v5), (.ref b32), (.ref b32)])) t := by
        intro t k
        show Steps p.tables e below (T32.setTop (mkF m 70 #[.val (.int p0), .val (.int v5), .val (.int v11), .val (.int v17), .val (.int v23), .val (.ref b26), .unset, .unset, .unset, .unset, .unset, .unset] [(.int v11), (.int v5), (.ref b32), (.ref b32)])) _
        refine XS.ifYes X32.here hx rfl (pc0 := 70) (pc' := 77) rfl (hb hby at_70) rfl ((if0 _ _).trans (feq hc70_40).2) (by decide) (by decide) ?_
        show Steps p.tables e below (T32.setTop (mkF m 77 #[.val (.int p0), .val (.int v5), .val (.int v11), .val (.int v17), .val (.int v23), .val (.ref b26), .unset, .unset, .unset, .unset, .unset, .unset] [(.int v5), (.ref b32), (.ref b32)])) _
        refine XS.iconst X32.here hx rfl (hb hby at_77) ?_
        exact k
      exact fun t k => st42 _ k
  have st45 : ∀ t, Steps p.tables e below (T32.setTop (mkF m 81 #[.val (.int p0), .val (.int v5), .val (.int v11), .val (.int v17), .val (.int v23), .val (.ref b26), .unset, .unset, .unset, .unset, .unset, .unset] [(.int v23), (.int v17), (.int v43), (.int v5), (.ref b32), (.ref b32)])) t → Steps p.tables e below (T32.setTop (mkF m 78 #[.val (.int p0), .val (.int v5), .val (.int v11), .val (.int v17), .val (.int v23), .val (.ref b26), .unset, .unset, .unset, .unset, .unset, .unset] [(.int v43), (.int v5), (.ref b32), (.ref b32)])) t := by
    intro t k
    show Steps p.tables e below (T32.setTop (mkF m 78 #[.val (.int p0), .val (.int v5), .val (.int v11), .val (.int v17), .val (.int v23), .val (.ref b26), .unset, .unset, .unset, .unset, .unset, .unset] [(.int v43), (.int v5), (.ref b32), (.ref b32)])) _
    refine XS.iloadN X32.here hx rfl (hb hby at_78) rfl ?_
    show Steps p.tables e below (T32.setTop (mkF m 79 #[.val (.int p0), .val (.int v5), .val (.int v11), .val (.int v17), .val (.int v23), .val (.ref b26), .unset, .unset, .unset, .unset, .unset, .unset] [(.int v17), (.int v43), (.int v5), (.ref b32), (.ref b32)])) _
    refine XS.iload X32.here hx rfl (hb hby at_79) rfl ?_
    exact k
  obtain ⟨_, _, ⟨T46, L46, k46, n46⟩, -, X46, ⟨Lc46, hQ46, l46, y46, z46⟩, st46⟩ := X32.specialBack hx (y := (⟨"com/example/tx1/tx1/FailureVerdict$PartCommitted", "<init>", "(ZZZZ)V"⟩ : MethodName)) rfl hown (mvT hZ (hw _ (List.mem_of_getElem? (i := 3) rfl))) (mvT hZ (hw _ (List.mem_of_getElem? (i := 4) rfl))) (mvT hZ (hw _ (List.mem_of_getElem? (i := 5) rfl))) (by decide) (backOf (W := 1) (own_rm1 l Z a0 hw [] b32 v5 v43 v17 v23 h32 n0 Zp38 E32 F32_implicitly F32_toAsk F32_unseen F32_told g_b32) hZ (hw _ (List.mem_of_getElem? (i := 5) rfl)) (hw _ (List.mem_of_getElem? (i := 2) rfl)) (by decide) (by decide)) (g := (mkF m 81 #[.val (.int p0), .val (.int v5), .val (.int v11), .val (.int v17), .val (.int v23), .val (.ref b26), .unset, .unset, .unset, .unset, .unset, .unset] [(.int v23), (.int v17), (.int v43), (.int v5), (.ref b32), (.ref b32)])) rfl (by rw [hml]; rfl) (Steps.refl _) (a := b32) (argsL := [(.int v5), (.int v43), (.int v17), (.int v23)]) (rest := [(.ref b32)]) (lenOf own_pd1 rfl) rfl (by show 2 * 0 + _ ≤ _; exact Nat.le_of_eq rfl) (hb hby at_81) (fun _ _ => ⟨rfl, e32, (by decide : 2 + 0 ≤ _), (by decide : 8 + 0 ≤ _)⟩)
  dsimp only [Pt.U, Pt.locs, Pt.cells, Pt.slots] at X46 l46 y46 z46 st46 hQ46
  subst y46 z46
  obtain ⟨rfl, Nq46, K46, Q46_0, Q46_1, Q46_2, Q46_3, Q46_4, -⟩ := hQ46
  have N46 : Fr n0 L46 := by rw [l46]; exact Fr.app N29 Nq46
  have X46' : Stand p l e room_1 s m #[(.int p0)] below meth c T46 L46 2 8 := X46
  have f47 : Exa Z T46.heap b26 "com/example/tx1/tx1/FailureVerdict$PartCommitted" := f33.keep K46
  have f48 : Fld Z T46.heap b26 "com/example/tx1/tx1/FailureVerdict$PartCommitted" "implicitly" "Z" (.int (nar .boolean v5)) := f34.keep K46 (ninS ne_b26_b32 nin0)
  have f49 : Fld Z T46.heap b26 "com/example/tx1/tx1/FailureVerdict$PartCommitted" "toAsk" "Z" (.int (nar .boolean v11)) := f35.keep K46 (ninS ne_b26_b32 nin0)
  have f50 : Fld Z T46.heap b26 "com/example/tx1/tx1/FailureVerdict$PartCommitted" "unseen" "Z" (.int (nar .boolean v17)) := f36.keep K46 (ninS ne_b26_b32 nin0)
  have f51 : Fld Z T46.heap b26 "com/example/tx1/tx1/FailureVerdict$PartCommitted" "told" "Z" (.int (nar .boolean v23)) := f37.keep K46 (ninS ne_b26_b32 nin0)
  have Zp52 : n0 ≤ T46.heap.size := Nat.le_trans Zp38 K46.1
  have st46 : ∀ t, Steps p.tables e below (T46.setTop (mkF m 84 #[.val (.int p0), .val (.int v5), .val (.int v11), .val (.int v17), .val (.int v23), .val (.ref b26), .unset, .unset, .unset, .unset, .unset, .unset] [(.ref b32)])) t → Steps p.tables e below (T32.setTop (mkF m 81 #[.val (.int p0), .val (.int v5), .val (.int v11), .val (.int v17), .val (.int v23), .val (.ref b26), .unset, .unset, .unset, .unset, .unset, .unset] [(.int v23), (.int v17), (.int v43), (.int v5), (.ref b32), (.ref b32)])) t := fun t k => st46.trans k
  have st53 : ∀ t, Steps p.tables e below (T46.setTop (mkF m 88 #[.val (.int p0), .val (.int v5), .val (.int v11), .val (.int v17), .val (.int v23), .val (.ref b26), .val (.ref b32), .unset, .unset, .unset, .unset, .unset] [(.int v23)])) t → Steps p.tables e below (T46.setTop (mkF m 84 #[.val (.int p0), .val (.int v5), .val (.int v11), .val (.int v17), .val (.int v23), .val (.ref b26), .unset, .unset, .unset, .unset, .unset, .unset] [(.ref b32)])) t := by
    intro t k
    show Steps p.tables e below (T46.setTop (mkF m 84 #[.val (.int p0), .val (.int v5), .val (.int v11), .val (.int v17), .val (.int v23), .val (.ref b26), .unset, .unset, .unset, .unset, .unset, .unset] [(.ref b32)])) _
    refine XS.astore X46'.here hx rfl (hb hby at_84) rfl rfl (l' := #[.val (.int p0), .val (.int v5), .val (.int v11), .val (.int v17), .val (.int v23), .val (.ref b26), .val (.ref b32), .unset, .unset, .unset, .unset, .unset]) rfl ?_
    show Steps p.tables e below (T46.setTop (mkF m 86 #[.val (.int p0), .val (.int v5), .val (.int v11), .val (.int v17), .val (.int v23), .val (.ref b26), .val (.ref b32), .unset, .unset, .unset, .unset, .unset] [])) _
    refine XS.iload X46'.here hx rfl (hb hby at_86) rfl ?_
    exact k
  obtain ⟨v61, hv61⟩ : ∃ z : Int32, z = (if v23 = (0 : Int32) then (if v5 = (0 : Int32) then v17 else (1 : Int32)) else (0 : Int32)) := ⟨_, rfl⟩
  have st62 : ∀ t, Steps p.tables e below (T46.setTop (mkF m 110 #[.val (.int p0), .val (.int v5), .val (.int v11), .val (.int v17), .val (.int v23), .val (.ref b26), .val (.ref b32), .val (.int v61), .unset, .unset, .unset, .unset] [])) t → Steps p.tables e below (T46.setTop (mkF m 88 #[.val (.int p0), .val (.int v5), .val (.int v11), .val (.int v17), .val (.int v23), .val (.ref b26), .val (.ref b32), .unset, .unset, .unset, .unset, .unset] [(.int v23)])) t := by
    rw [hv61]
    by_cases hc88_54 : v23 = (0 : Int32)
    · repeat rw [if_pos hc88_54]
      have st55 : ∀ t, Steps p.tables e below (T46.setTop (mkF m 98 #[.val (.int p0), .val (.int v5), .val (.int v11), .val (.int v17), .val (.int v23), .val (.ref b26), .val (.ref b32), .unset, .unset, .unset, .unset, .unset] [(.int v5)])) t → Steps p.tables e below (T46.setTop (mkF m 88 #[.val (.int p0), .val (.int v5), .val (.int v11), .val (.int v17), .val (.int v23), .val (.ref b26), .val (.ref b32), .unset, .unset, .unset, .unset, .unset] [(.int v23)])) t := by
        intro t k
        show Steps p.tables e below (T46.setTop (mkF m 88 #[.val (.int p0), .val (.int v5), .val (.int v11), .val (.int v17), .val (.int v23), .val (.ref b26), .val (.ref b32), .unset, .unset, .unset, .unset, .unset] [(.int v23)])) _
        refine XS.ifYes X46'.here hx rfl (pc0 := 88) (pc' := 97) rfl (hb hby at_88) rfl ((if0 _ _).trans (teq hc88_54).1) (by decide) (by decide) ?_
        show Steps p.tables e below (T46.setTop (mkF m 97 #[.val (.int p0), .val (.int v5), .val (.int v11), .val (.int v17), .val (.int v23), .val (.ref b26), .val (.ref b32), .unset, .unset, .unset, .unset, .unset] [])) _
        refine XS.iloadN X46'.here hx rfl (hb hby at_97) rfl ?_
        exact k
      have st59 : ∀ t, Steps p.tables e below (T46.setTop (mkF m 110 #[.val (.int p0), .val (.int v5), .val (.int v11), .val (.int v17), .val (.int v23), .val (.ref b26), .val (.ref b32), .val (.int (if v5 = (0 : Int32) then v17 else (1 : Int32))), .unset, .unset, .unset, .unset] [])) t → Steps p.tables e below (T46.setTop (mkF m 98 #[.val (.int p0), .val (.int v5), .val (.int v11), .val (.int v17), .val (.int v23), .val (.ref b26), .val (.ref b32), .unset, .unset, .unset, .unset, .unset] [(.int v5)])) t := by
        by_cases hc98_56 : v5 = (0 : Int32)
        · repeat rw [if_pos hc98_56]
          have st57 : ∀ t, Steps p.tables e below (T46.setTop (mkF m 110 #[.val (.int p0), .val (.int v5), .val (.int v11), .val (.int v17), .val (.int v23), .val (.ref b26), .val (.ref b32), .val (.int v17), .unset, .unset, .unset, .unset] [])) t → Steps p.tables e below (T46.setTop (mkF m 98 #[.val (.int p0), .val (.int v5), .val (.int v11), .val (.int v17), .val (.int v23), .val (.ref b26), .val (.ref b32), .unset, .unset, .unset, .unset, .unset] [(.int v5)])) t := by
            intro t k
            show Steps p.tables e below (T46.setTop (mkF m 98 #[.val (.int p0), .val (.int v5), .val (.int v11), .val (.int v17), .val (.int v23), .val (.ref b26), .val (.ref b32), .unset, .unset, .unset, .unset, .unset] [(.int v5)])) _
            refine XS.ifYes X46'.here hx rfl (pc0 := 98) (pc' := 107) rfl (hb hby at_98) rfl ((if0 _ _).trans (teq hc98_56).1) (by decide) (by decide) ?_
            show Steps p.tables e below (T46.setTop (mkF m 107 #[.val (.int p0), .val (.int v5), .val (.int v11), .val (.int v17), .val (.int v23), .val (.ref b26), .val (.ref b32), .unset, .unset, .unset, .unset, .unset] [])) _
            refine XS.iloadN X46'.here hx rfl (hb hby at_107) rfl ?_
            show Steps p.tables e below (T46.setTop (mkF m 108 #[.val (.int p0), .val (.int v5), .val (.int v11), .val (.int v17), .val (.int v23), .val (.ref b26), .val (.ref b32), .unset, .unset, .unset, .unset, .unset] [(.int v17)])) _
            refine XS.istore X46'.here hx rfl (hb hby at_108) rfl (l' := #[.val (.int p0), .val (.int v5), .val (.int v11), .val (.int v17), .val (.int v23), .val (.ref b26), .val (.ref b32), .val (.int v17), .unset, .unset, .unset, .unset]) rfl ?_
            exact k
          exact fun t k => st57 _ k
        · repeat rw [if_neg hc98_56]
          have st58 : ∀ t, Steps p.tables e below (T46.setTop (mkF m 110 #[.val (.int p0), .val (.int v5), .val (.int v11), .val (.int v17), .val (.int v23), .val (.ref b26), .val (.ref b32), .val (.int (1 : Int32)), .unset, .unset, .unset, .unset] [])) t → Steps p.tables e below (T46.setTop (mkF m 98 #[.val (.int p0), .val (.int v5), .val (.int v11), .val (.int v17), .val (.int v23), .val (.ref b26), .val (.ref b32), .unset, .unset, .unset, .unset, .unset] [(.int v5)])) t := by
            intro t k
            show Steps p.tables e below (T46.setTop (mkF m 98 #[.val (.int p0), .val (.int v5), .val (.int v11), .val (.int v17), .val (.int v23), .val (.ref b26), .val (.ref b32), .unset, .unset, .unset, .unset, .unset] [(.int v5)])) _
            refine XS.ifNo X46'.here hx rfl (hb hby at_98) rfl ((if0 _ _).trans (feq hc98_56).1) ?_
            show Steps p.tables e below (T46.setTop (mkF m 101 #[.val (.int p0), .val (.int v5), .val (.int v11), .val (.int v17), .val (.int v23), .val (.ref b26), .val (.ref b32), .unset, .unset, .unset, .unset, .unset] [])) _
            refine XS.iconst X46'.here hx rfl (hb hby at_101) ?_
            show Steps p.tables e below (T46.setTop (mkF m 102 #[.val (.int p0), .val (.int v5), .val (.int v11), .val (.int v17), .val (.int v23), .val (.ref b26), .val (.ref b32), .unset, .unset, .unset, .unset, .unset] [(.int (1 : Int32))])) _
            refine XS.istore X46'.here hx rfl (hb hby at_102) rfl (l' := #[.val (.int p0), .val (.int v5), .val (.int v11), .val (.int v17), .val (.int v23), .val (.ref b26), .val (.ref b32), .val (.int (1 : Int32)), .unset, .unset, .unset, .unset]) rfl ?_
            show Steps p.tables e below (T46.setTop (mkF m 104 #[.val (.int p0), .val (.int v5), .val (.int v11), .val (.int v17), .val (.int v23), .val (.ref b26), .val (.ref b32), .val (.int (1 : Int32)), .unset, .unset, .unset, .unset] [])) _
            refine XS.goto X46'.here hx rfl (pc0 := 104) (pc' := 110) rfl (hb hby at_104) (by decide) (by decide) ?_
            exact k
          exact fun t k => st58 _ k
      exact fun t k => st55 _ (st59 _ k)
    · repeat rw [if_neg hc88_54]
      have st60 : ∀ t, Steps p.tables e below (T46.setTop (mkF m 110 #[.val (.int p0), .val (.int v5), .val (.int v11), .val (.int v17), .val (.int v23), .val (.ref b26), .val (.ref b32), .val (.int (0 : Int32)), .unset, .unset, .unset, .unset] [])) t → Steps p.tables e below (T46.setTop (mkF m 88 #[.val (.int p0), .val (.int v5), .val (.int v11), .val (.int v17), .val (.int v23), .val (.ref b26), .val (.ref b32), .unset, .unset, .unset, .unset, .unset] [(.int v23)])) t := by
        intro t k
        show Steps p.tables e below (T46.setTop (mkF m 88 #[.val (.int p0), .val (.int v5), .val (.int v11), .val (.int v17), .val (.int v23), .val (.ref b26), .val (.ref b32), .unset, .unset, .unset, .unset, .unset] [(.int v23)])) _
        refine XS.ifNo X46'.here hx rfl (hb hby at_88) rfl ((if0 _ _).trans (feq hc88_54).1) ?_
        show Steps p.tables e below (T46.setTop (mkF m 91 #[.val (.int p0), .val (.int v5), .val (.int v11), .val (.int v17), .val (.int v23), .val (.ref b26), .val (.ref b32), .unset, .unset, .unset, .unset, .unset] [])) _
        refine XS.iconst X46'.here hx rfl (hb hby at_91) ?_
        show Steps p.tables e below (T46.setTop (mkF m 92 #[.val (.int p0), .val (.int v5), .val (.int v11), .val (.int v17), .val (.int v23), .val (.ref b26), .val (.ref b32), .unset, .unset, .unset, .unset, .unset] [(.int (0 : Int32))])) _
        refine XS.istore X46'.here hx rfl (hb hby at_92) rfl (l' := #[.val (.int p0), .val (.int v5), .val (.int v11), .val (.int v17), .val (.int v23), .val (.ref b26), .val (.ref b32), .val (.int (0 : Int32)), .unset, .unset, .unset, .unset]) rfl ?_
        show Steps p.tables e below (T46.setTop (mkF m 94 #[.val (.int p0), .val (.int v5), .val (.int v11), .val (.int v17), .val (.int v23), .val (.ref b26), .val (.ref b32), .val (.int (0 : Int32)), .unset, .unset, .unset, .unset] [])) _
        refine XS.goto X46'.here hx rfl (pc0 := 94) (pc' := 110) rfl (hb hby at_94) (by decide) (by decide) ?_
        exact k
      exact fun t k => st60 _ k
  have st63 : ∀ t, Steps p.tables e below (T46.setTop (mkF m 112 #[.val (.int p0), .val (.int v5), .val (.int v11), .val (.int v17), .val (.int v23), .val (.ref b26), .val (.ref b32), .val (.int v61), .unset, .unset, .unset, .unset] [(.ref b26)])) t → Steps p.tables e below (T46.setTop (mkF m 110 #[.val (.int p0), .val (.int v5), .val (.int v11), .val (.int v17), .val (.int v23), .val (.ref b26), .val (.ref b32), .val (.int v61), .unset, .unset, .unset, .unset] [])) t := by
    intro t k
    show Steps p.tables e below (T46.setTop (mkF m 110 #[.val (.int p0), .val (.int v5), .val (.int v11), .val (.int v17), .val (.int v23), .val (.ref b26), .val (.ref b32), .val (.int v61), .unset, .unset, .unset, .unset] [])) _
    refine XS.aload X46'.here hx rfl (hb hby at_110) rfl rfl ?_
    exact k
  obtain ⟨cq64, kq64, q64a, q64b, q64c⟩ := isOf hZ (rfl : T46.heap = T46.heap) f47
  obtain ⟨_, _, ⟨T64, L64, k64, n64⟩, -, X64, ⟨Lc64, hQ64, l64, y64, z64⟩, st64⟩ := X46'.virtualBack hx (y := (⟨"com/example/tx1/tx1/FailureVerdict$PartCommitted", "untold", "()Z"⟩ : MethodName)) (z := (⟨"com/example/tx1/tx1/FailureVerdict$PartCommitted", "untold", "()Z"⟩ : MethodName)) hown (mvT hZ (hw _ (List.mem_of_getElem? (i := 22) rfl))) (mvT hZ (hw _ (List.mem_of_getElem? (i := 23) rfl))) (notFace_of_selects (args := #[]) (mvT hZ (hw _ (List.mem_of_getElem? (i := 25) rfl)))) (mvT hZ (hw _ (List.mem_of_getElem? (i := 25) rfl))) (mvT hZ (hw _ (List.mem_of_getElem? (i := 24) rfl))) (by decide) (backOf (W := 0) (own_rm4 l Z a0 hw [] b26 (nar .boolean v5) (nar .boolean v17) (nar .boolean v23) T46.heap n0 Zp52 f48 f50 f51) hZ (hw _ (List.mem_of_getElem? (i := 26) rfl)) (hw _ (List.mem_of_getElem? (i := 2) rfl)) (by decide) (by decide)) q64a q64c (g := (mkF m 112 #[.val (.int p0), .val (.int v5), .val (.int v11), .val (.int v17), .val (.int v23), .val (.ref b26), .val (.ref b32), .val (.int v61), .unset, .unset, .unset, .unset] [(.ref b26)])) rfl (by rw [hml]; rfl) (Steps.refl _) (argsL := []) (rest := []) (lenOf own_pd2 rfl) rfl (by show 2 * 0 + _ ≤ _; exact Nat.le_of_eq rfl) (hb hby at_112) (fun _ _ => ⟨rfl, (rfl : T46.heap = T46.heap), (by decide : 2 + 0 ≤ _), (by decide : 8 + 0 ≤ _)⟩)
  dsimp only [Pt.U, Pt.locs, Pt.cells, Pt.slots] at X64 l64 y64 z64 st64 hQ64
  subst y64 z64
  obtain ⟨rfl, rfl, e64⟩ := hQ64
  have X64' : Stand p l e room_1 s m #[(.int p0)] below meth c T64 L46 2 8 := by rw [show L64 = L46 from by rw [l64]; first | rfl | exact List.append_nil _] at X64; exact X64
  have st64 : ∀ t, Steps p.tables e below (T64.setTop (mkF m 115 #[.val (.int p0), .val (.int v5), .val (.int v11), .val (.int v17), .val (.int v23), .val (.ref b26), .val (.ref b32), .val (.int v61), .unset, .unset, .unset, .unset] [(.int (own_F4 (nar .boolean v5) (nar .boolean v17) (nar .boolean v23)))])) t → Steps p.tables e below (T46.setTop (mkF m 112 #[.val (.int p0), .val (.int v5), .val (.int v11), .val (.int v17), .val (.int v23), .val (.ref b26), .val (.ref b32), .val (.int v61), .unset, .unset, .unset, .unset] [(.ref b26)])) t := fun t k => st64.trans k
  obtain ⟨v65, hv65⟩ : ∃ z : Int32, z = (own_F4 (nar .boolean v5) (nar .boolean v17) (nar .boolean v23)) := ⟨_, rfl⟩
  rw [← hv65] at st64
  have st66 : ∀ t, Steps p.tables e below (T64.setTop (mkF m 117 #[.val (.int p0), .val (.int v5), .val (.int v11), .val (.int v17), .val (.int v23), .val (.ref b26), .val (.ref b32), .val (.int v61), .unset, .unset, .unset, .unset] [(.int v61), (.int v65)])) t → Steps p.tables e below (T64.setTop (mkF m 115 #[.val (.int p0), .val (.int v5), .val (.int v11), .val (.int v17), .val (.int v23), .val (.ref b26), .val (.ref b32), .val (.int v61), .unset, .unset, .unset, .unset] [(.int v65)])) t := by
    intro t k
    show Steps p.tables e below (T64.setTop (mkF m 115 #[.val (.int p0), .val (.int v5), .val (.int v11), .val (.int v17), .val (.int v23), .val (.ref b26), .val (.ref b32), .val (.int v61), .unset, .unset, .unset, .unset] [(.int v65)])) _
    refine XS.iload X64'.here hx rfl (hb hby at_115) rfl ?_
    exact k
  obtain ⟨v70, hv70⟩ : ∃ z : Int32, z = (if v65 = v61 then (1 : Int32) else (0 : Int32)) := ⟨_, rfl⟩
  have st71 : ∀ t, Steps p.tables e below (T64.setTop (mkF m 125 #[.val (.int p0), .val (.int v5), .val (.int v11), .val (.int v17), .val (.int v23), .val (.ref b26), .val (.ref b32), .val (.int v61), .unset, .unset, .unset, .unset] [(.int v70)])) t → Steps p.tables e below (T64.setTop (mkF m 117 #[.val (.int p0), .val (.int v5), .val (.int v11), .val (.int v17), .val (.int v23), .val (.ref b26), .val (.ref b32), .val (.int v61), .unset, .unset, .unset, .unset] [(.int v61), (.int v65)])) t := by
    rw [hv70]
    by_cases hc117_67 : v65 = v61
    · repeat rw [if_pos hc117_67]
      have st68 : ∀ t, Steps p.tables e below (T64.setTop (mkF m 125 #[.val (.int p0), .val (.int v5), .val (.int v11), .val (.int v17), .val (.int v23), .val (.ref b26), .val (.ref b32), .val (.int v61), .unset, .unset, .unset, .unset] [(.int (1 : Int32))])) t → Steps p.tables e below (T64.setTop (mkF m 117 #[.val (.int p0), .val (.int v5), .val (.int v11), .val (.int v17), .val (.int v23), .val (.ref b26), .val (.ref b32), .val (.int v61), .unset, .unset, .unset, .unset] [(.int v61), (.int v65)])) t := by
        intro t k
        show Steps p.tables e below (T64.setTop (mkF m 117 #[.val (.int p0), .val (.int v5), .val (.int v11), .val (.int v17), .val (.int v23), .val (.ref b26), .val (.ref b32), .val (.int v61), .unset, .unset, .unset, .unset] [(.int v61), (.int v65)])) _
        refine XS.icmpNo X64'.here hx rfl (hb hby at_117) rfl (teq hc117_67).2 ?_
        show Steps p.tables e below (T64.setTop (mkF m 120 #[.val (.int p0), .val (.int v5), .val (.int v11), .val (.int v17), .val (.int v23), .val (.ref b26), .val (.ref b32), .val (.int v61), .unset, .unset, .unset, .unset] [])) _
        refine XS.iconst X64'.here hx rfl (hb hby at_120) ?_
        show Steps p.tables e below (T64.setTop (mkF m 121 #[.val (.int p0), .val (.int v5), .val (.int v11), .val (.int v17), .val (.int v23), .val (.ref b26), .val (.ref b32), .val (.int v61), .unset, .unset, .unset, .unset] [(.int (1 : Int32))])) _
        refine XS.goto X64'.here hx rfl (pc0 := 121) (pc' := 125) rfl (hb hby at_121) (by decide) (by decide) ?_
        exact k
      exact fun t k => st68 _ k
    · repeat rw [if_neg hc117_67]
      have st69 : ∀ t, Steps p.tables e below (T64.setTop (mkF m 125 #[.val (.int p0), .val (.int v5), .val (.int v11), .val (.int v17), .val (.int v23), .val (.ref b26), .val (.ref b32), .val (.int v61), .unset, .unset, .unset, .unset] [(.int (0 : Int32))])) t → Steps p.tables e below (T64.setTop (mkF m 117 #[.val (.int p0), .val (.int v5), .val (.int v11), .val (.int v17), .val (.int v23), .val (.ref b26), .val (.ref b32), .val (.int v61), .unset, .unset, .unset, .unset] [(.int v61), (.int v65)])) t := by
        intro t k
        show Steps p.tables e below (T64.setTop (mkF m 117 #[.val (.int p0), .val (.int v5), .val (.int v11), .val (.int v17), .val (.int v23), .val (.ref b26), .val (.ref b32), .val (.int v61), .unset, .unset, .unset, .unset] [(.int v61), (.int v65)])) _
        refine XS.icmpYes X64'.here hx rfl (pc0 := 117) (pc' := 124) rfl (hb hby at_117) rfl (feq hc117_67).2 (by decide) (by decide) ?_
        show Steps p.tables e below (T64.setTop (mkF m 124 #[.val (.int p0), .val (.int v5), .val (.int v11), .val (.int v17), .val (.int v23), .val (.ref b26), .val (.ref b32), .val (.int v61), .unset, .unset, .unset, .unset] [])) _
        refine XS.iconst X64'.here hx rfl (hb hby at_124) ?_
        exact k
      exact fun t k => st69 _ k
  have st72 : ∀ t, Steps p.tables e below (T64.setTop (mkF m 129 #[.val (.int p0), .val (.int v5), .val (.int v11), .val (.int v17), .val (.int v23), .val (.ref b26), .val (.ref b32), .val (.int v61), .val (.int v70), .unset, .unset, .unset] [(.ref b32)])) t → Steps p.tables e below (T64.setTop (mkF m 125 #[.val (.int p0), .val (.int v5), .val (.int v11), .val (.int v17), .val (.int v23), .val (.ref b26), .val (.ref b32), .val (.int v61), .unset, .unset, .unset, .unset] [(.int v70)])) t := by
    intro t k
    show Steps p.tables e below (T64.setTop (mkF m 125 #[.val (.int p0), .val (.int v5), .val (.int v11), .val (.int v17), .val (.int v23), .val (.ref b26), .val (.ref b32), .val (.int v61), .unset, .unset, .unset, .unset] [(.int v70)])) _
    refine XS.istore X64'.here hx rfl (hb hby at_125) rfl (l' := #[.val (.int p0), .val (.int v5), .val (.int v11), .val (.int v17), .val (.int v23), .val (.ref b26), .val (.ref b32), .val (.int v61), .val (.int v70), .unset, .unset, .unset]) rfl ?_
    show Steps p.tables e below (T64.setTop (mkF m 127 #[.val (.int p0), .val (.int v5), .val (.int v11), .val (.int v17), .val (.int v23), .val (.ref b26), .val (.ref b32), .val (.int v61), .val (.int v70), .unset, .unset, .unset] [])) _
    refine XS.aload X64'.here hx rfl (hb hby at_127) rfl rfl ?_
    exact k
  obtain ⟨cq73, kq73, q73a, q73b, q73c⟩ := isOf hZ e64 Q46_0
  obtain ⟨_, _, ⟨T73, L73, k73, n73⟩, -, X73, ⟨Lc73, hQ73, l73, y73, z73⟩, st73⟩ := X64'.virtualBack hx (y := (⟨"com/example/tx1/tx1/FailureVerdict$PartCommitted", "untold", "()Z"⟩ : MethodName)) (z := (⟨"com/example/tx1/tx1/FailureVerdict$PartCommitted", "untold", "()Z"⟩ : MethodName)) hown (mvT hZ (hw _ (List.mem_of_getElem? (i := 22) rfl))) (mvT hZ (hw _ (List.mem_of_getElem? (i := 23) rfl))) (notFace_of_selects (args := #[]) (mvT hZ (hw _ (List.mem_of_getElem? (i := 25) rfl)))) (mvT hZ (hw _ (List.mem_of_getElem? (i := 25) rfl))) (mvT hZ (hw _ (List.mem_of_getElem? (i := 24) rfl))) (by decide) (backOf (W := 0) (own_rm4 l Z a0 hw [] b32 (nar .boolean v5) (nar .boolean v17) (nar .boolean v23) T46.heap n0 Zp52 Q46_1 Q46_3 Q46_4) hZ (hw _ (List.mem_of_getElem? (i := 26) rfl)) (hw _ (List.mem_of_getElem? (i := 2) rfl)) (by decide) (by decide)) q73a q73c (g := (mkF m 129 #[.val (.int p0), .val (.int v5), .val (.int v11), .val (.int v17), .val (.int v23), .val (.ref b26), .val (.ref b32), .val (.int v61), .val (.int v70), .unset, .unset, .unset] [(.ref b32)])) rfl (by rw [hml]; rfl) (Steps.refl _) (argsL := []) (rest := []) (lenOf own_pd2 rfl) rfl (by show 2 * 0 + _ ≤ _; exact Nat.le_of_eq rfl) (hb hby at_129) (fun _ _ => ⟨rfl, e64, (by decide : 2 + 0 ≤ _), (by decide : 8 + 0 ≤ _)⟩)
  dsimp only [Pt.U, Pt.locs, Pt.cells, Pt.slots] at X73 l73 y73 z73 st73 hQ73
  subst y73 z73
  obtain ⟨rfl, rfl, e73⟩ := hQ73
  have X73' : Stand p l e room_1 s m #[(.int p0)] below meth c T73 L46 2 8 := by rw [show L73 = L46 from by rw [l73]; first | rfl | exact List.append_nil _] at X73; exact X73
  have st73 : ∀ t, Steps p.tables e below (T73.setTop (mkF m 132 #[.val (.int p0), .val (.int v5), .val (.int v11), .val (.int v17), .val (.int v23), .val (.ref b26), .val (.ref b32), .val (.int v61), .val (.int v70), .unset, .unset, .unset] [(.int (own_F4 (nar .boolean v5) (nar .boolean v17) (nar .boolean v23)))])) t → Steps p.tables e below (T64.setTop (mkF m 129 #[.val (.int p0), .val (.int v5), .val (.int v11), .val (.int v17), .val (.int v23), .val (.ref b26), .val (.ref b32), .val (.int v61), .val (.int v70), .unset, .unset, .unset] [(.ref b32)])) t := fun t k => st73.trans k
  obtain ⟨v74, hv74⟩ : ∃ z : Int32, z = (own_F4 (nar .boolean v5) (nar .boolean v17) (nar .boolean v23)) := ⟨_, rfl⟩
  rw [← hv74] at st73
  have st75 : ∀ t, Steps p.tables e below (T73.setTop (mkF m 134 #[.val (.int p0), .val (.int v5), .val (.int v11), .val (.int v17), .val (.int v23), .val (.ref b26), .val (.ref b32), .val (.int v61), .val (.int v70), .unset, .unset, .unset] [(.int v61), (.int v74)])) t → Steps p.tables e below (T73.setTop (mkF m 132 #[.val (.int p0), .val (.int v5), .val (.int v11), .val (.int v17), .val (.int v23), .val (.ref b26), .val (.ref b32), .val (.int v61), .val (.int v70), .unset, .unset, .unset] [(.int v74)])) t := by
    intro t k
    show Steps p.tables e below (T73.setTop (mkF m 132 #[.val (.int p0), .val (.int v5), .val (.int v11), .val (.int v17), .val (.int v23), .val (.ref b26), .val (.ref b32), .val (.int v61), .val (.int v70), .unset, .unset, .unset] [(.int v74)])) _
    refine XS.iload X73'.here hx rfl (hb hby at_132) rfl ?_
    exact k
  obtain ⟨v79, hv79⟩ : ∃ z : Int32, z = (if v74 = v61 then (1 : Int32) else (0 : Int32)) := ⟨_, rfl⟩
  have st80 : ∀ t, Steps p.tables e below (T73.setTop (mkF m 142 #[.val (.int p0), .val (.int v5), .val (.int v11), .val (.int v17), .val (.int v23), .val (.ref b26), .val (.ref b32), .val (.int v61), .val (.int v70), .unset, .unset, .unset] [(.int v79)])) t → Steps p.tables e below (T73.setTop (mkF m 134 #[.val (.int p0), .val (.int v5), .val (.int v11), .val (.int v17), .val (.int v23), .val (.ref b26), .val (.ref b32), .val (.int v61), .val (.int v70), .unset, .unset, .unset] [(.int v61), (.int v74)])) t := by
    rw [hv79]
    by_cases hc134_76 : v74 = v61
    · repeat rw [if_pos hc134_76]
      have st77 : ∀ t, Steps p.tables e below (T73.setTop (mkF m 142 #[.val (.int p0), .val (.int v5), .val (.int v11), .val (.int v17), .val (.int v23), .val (.ref b26), .val (.ref b32), .val (.int v61), .val (.int v70), .unset, .unset, .unset] [(.int (1 : Int32))])) t → Steps p.tables e below (T73.setTop (mkF m 134 #[.val (.int p0), .val (.int v5), .val (.int v11), .val (.int v17), .val (.int v23), .val (.ref b26), .val (.ref b32), .val (.int v61), .val (.int v70), .unset, .unset, .unset] [(.int v61), (.int v74)])) t := by
        intro t k
        show Steps p.tables e below (T73.setTop (mkF m 134 #[.val (.int p0), .val (.int v5), .val (.int v11), .val (.int v17), .val (.int v23), .val (.ref b26), .val (.ref b32), .val (.int v61), .val (.int v70), .unset, .unset, .unset] [(.int v61), (.int v74)])) _
        refine XS.icmpNo X73'.here hx rfl (hb hby at_134) rfl (teq hc134_76).2 ?_
        show Steps p.tables e below (T73.setTop (mkF m 137 #[.val (.int p0), .val (.int v5), .val (.int v11), .val (.int v17), .val (.int v23), .val (.ref b26), .val (.ref b32), .val (.int v61), .val (.int v70), .unset, .unset, .unset] [])) _
        refine XS.iconst X73'.here hx rfl (hb hby at_137) ?_
        show Steps p.tables e below (T73.setTop (mkF m 138 #[.val (.int p0), .val (.int v5), .val (.int v11), .val (.int v17), .val (.int v23), .val (.ref b26), .val (.ref b32), .val (.int v61), .val (.int v70), .unset, .unset, .unset] [(.int (1 : Int32))])) _
        refine XS.goto X73'.here hx rfl (pc0 := 138) (pc' := 142) rfl (hb hby at_138) (by decide) (by decide) ?_
        exact k
      exact fun t k => st77 _ k
    · repeat rw [if_neg hc134_76]
      have st78 : ∀ t, Steps p.tables e below (T73.setTop (mkF m 142 #[.val (.int p0), .val (.int v5), .val (.int v11), .val (.int v17), .val (.int v23), .val (.ref b26), .val (.ref b32), .val (.int v61), .val (.int v70), .unset, .unset, .unset] [(.int (0 : Int32))])) t → Steps p.tables e below (T73.setTop (mkF m 134 #[.val (.int p0), .val (.int v5), .val (.int v11), .val (.int v17), .val (.int v23), .val (.ref b26), .val (.ref b32), .val (.int v61), .val (.int v70), .unset, .unset, .unset] [(.int v61), (.int v74)])) t := by
        intro t k
        show Steps p.tables e below (T73.setTop (mkF m 134 #[.val (.int p0), .val (.int v5), .val (.int v11), .val (.int v17), .val (.int v23), .val (.ref b26), .val (.ref b32), .val (.int v61), .val (.int v70), .unset, .unset, .unset] [(.int v61), (.int v74)])) _
        refine XS.icmpYes X73'.here hx rfl (pc0 := 134) (pc' := 141) rfl (hb hby at_134) rfl (feq hc134_76).2 (by decide) (by decide) ?_
        show Steps p.tables e below (T73.setTop (mkF m 141 #[.val (.int p0), .val (.int v5), .val (.int v11), .val (.int v17), .val (.int v23), .val (.ref b26), .val (.ref b32), .val (.int v61), .val (.int v70), .unset, .unset, .unset] [])) _
        refine XS.iconst X73'.here hx rfl (hb hby at_141) ?_
        exact k
      exact fun t k => st78 _ k
  have st81 : ∀ t, Steps p.tables e below (T73.setTop (mkF m 146 #[.val (.int p0), .val (.int v5), .val (.int v11), .val (.int v17), .val (.int v23), .val (.ref b26), .val (.ref b32), .val (.int v61), .val (.int v70), .val (.int v79), .unset, .unset] [(.ref b26)])) t → Steps p.tables e below (T73.setTop (mkF m 142 #[.val (.int p0), .val (.int v5), .val (.int v11), .val (.int v17), .val (.int v23), .val (.ref b26), .val (.ref b32), .val (.int v61), .val (.int v70), .unset, .unset, .unset] [(.int v79)])) t := by
    intro t k
    show Steps p.tables e below (T73.setTop (mkF m 142 #[.val (.int p0), .val (.int v5), .val (.int v11), .val (.int v17), .val (.int v23), .val (.ref b26), .val (.ref b32), .val (.int v61), .val (.int v70), .unset, .unset, .unset] [(.int v79)])) _
    refine XS.istore X73'.here hx rfl (hb hby at_142) rfl (l' := #[.val (.int p0), .val (.int v5), .val (.int v11), .val (.int v17), .val (.int v23), .val (.ref b26), .val (.ref b32), .val (.int v61), .val (.int v70), .val (.int v79), .unset, .unset]) rfl ?_
    show Steps p.tables e below (T73.setTop (mkF m 144 #[.val (.int p0), .val (.int v5), .val (.int v11), .val (.int v17), .val (.int v23), .val (.ref b26), .val (.ref b32), .val (.int v61), .val (.int v70), .val (.int v79), .unset, .unset] [])) _
    refine XS.aload X73'.here hx rfl (hb hby at_144) rfl rfl ?_
    exact k
  obtain ⟨cq82, kq82, q82a, q82b, q82c⟩ := isOf hZ e73 f47
  obtain ⟨_, _, ⟨T82, L82, k82, n82⟩, -, X82, ⟨Lc82, hQ82, l82, y82, z82⟩, st82⟩ := X73'.virtualBack hx (y := (⟨"com/example/tx1/tx1/FailureVerdict$PartCommitted", "onceTold", "()Lcom/example/tx1/tx1/FailureVerdict$PartCommitted;"⟩ : MethodName)) (z := (⟨"com/example/tx1/tx1/FailureVerdict$PartCommitted", "onceTold", "()Lcom/example/tx1/tx1/FailureVerdict$PartCommitted;"⟩ : MethodName)) hown (mvT hZ (hw _ (List.mem_of_getElem? (i := 27) rfl))) (mvT hZ (hw _ (List.mem_of_getElem? (i := 28) rfl))) (notFace_of_selects (args := #[]) (mvT hZ (hw _ (List.mem_of_getElem? (i := 30) rfl)))) (mvT hZ (hw _ (List.mem_of_getElem? (i := 30) rfl))) (mvT hZ (hw _ (List.mem_of_getElem? (i := 29) rfl))) (by decide) (backOf (W := 0) (own_rm5 l Z a0 hw [] b26 (nar .boolean v5) (nar .boolean v11) (nar .boolean v17) T46.heap n0 Zp52 f48 f49 f50) hZ (hw _ (List.mem_of_getElem? (i := 31) rfl)) (hw _ (List.mem_of_getElem? (i := 2) rfl)) (by decide) (by decide)) q82a q82c (g := (mkF m 146 #[.val (.int p0), .val (.int v5), .val (.int v11), .val (.int v17), .val (.int v23), .val (.ref b26), .val (.ref b32), .val (.int v61), .val (.int v70), .val (.int v79), .unset, .unset] [(.ref b26)])) rfl (by rw [hml]; rfl) (Steps.refl _) (argsL := []) (rest := []) (lenOf own_pd3 rfl) rfl (by show 2 * 0 + _ ≤ _; exact Nat.le_of_eq rfl) (hb hby at_146) (fun _ _ => ⟨rfl, e73, (by decide : 2 + 1 ≤ _), (by decide : 8 + 4 ≤ _)⟩)
  dsimp only [Pt.U, Pt.locs, Pt.cells, Pt.slots] at X82 l82 y82 z82 st82 hQ82
  subst y82 z82
  obtain ⟨b82, rfl, Nq82, K82, q82, Q82_0, Q82_1, Q82_2, Q82_3, Q82_4, -⟩ := hQ82
  have N82 : Fr n0 L82 := by rw [l82]; exact Fr.app N46 Nq82
  have X82' : Stand p l e room_1 s m #[(.int p0)] below meth c T82 L82 3 12 := X82
  have ne_b26_b82 : b26 ≠ b82 := own_ne f47.lt q82
  have ne_b32_b82 : b32 ≠ b82 := own_ne Q46_0.lt q82
  have g_b82 : n0 ≤ b82 := Nat.le_trans Zp52 q82
  have f83 : Exa Z T82.heap b26 "com/example/tx1/tx1/FailureVerdict$PartCommitted" := f47.keep K82
  have f84 : Fld Z T82.heap b26 "com/example/tx1/tx1/FailureVerdict$PartCommitted" "implicitly" "Z" (.int (nar .boolean v5)) := f48.keep K82 nin0
  have f85 : Fld Z T82.heap b26 "com/example/tx1/tx1/FailureVerdict$PartCommitted" "toAsk" "Z" (.int (nar .boolean v11)) := f49.keep K82 nin0
  have f86 : Fld Z T82.heap b26 "com/example/tx1/tx1/FailureVerdict$PartCommitted" "unseen" "Z" (.int (nar .boolean v17)) := f50.keep K82 nin0
  have f87 : Fld Z T82.heap b26 "com/example/tx1/tx1/FailureVerdict$PartCommitted" "told" "Z" (.int (nar .boolean v23)) := f51.keep K82 nin0
  have f88 : Exa Z T82.heap b32 "com/example/tx1/tx1/FailureVerdict$PartCommitted" := Q46_0.keep K82
  have f89 : Fld Z T82.heap b32 "com/example/tx1/tx1/FailureVerdict$PartCommitted" "implicitly" "Z" (.int (nar .boolean v5)) := Q46_1.keep K82 nin0
  have f90 : Fld Z T82.heap b32 "com/example/tx1/tx1/FailureVerdict$PartCommitted" "toAsk" "Z" (.int (nar .boolean v43)) := Q46_2.keep K82 nin0
  have f91 : Fld Z T82.heap b32 "com/example/tx1/tx1/FailureVerdict$PartCommitted" "unseen" "Z" (.int (nar .boolean v17)) := Q46_3.keep K82 nin0
  have f92 : Fld Z T82.heap b32 "com/example/tx1/tx1/FailureVerdict$PartCommitted" "told" "Z" (.int (nar .boolean v23)) := Q46_4.keep K82 nin0
  have Zp93 : n0 ≤ T82.heap.size := Nat.le_trans Zp52 K82.1
  have st82 : ∀ t, Steps p.tables e below (T82.setTop (mkF m 149 #[.val (.int p0), .val (.int v5), .val (.int v11), .val (.int v17), .val (.int v23), .val (.ref b26), .val (.ref b32), .val (.int v61), .val (.int v70), .val (.int v79), .unset, .unset] [(.ref b82)])) t → Steps p.tables e below (T73.setTop (mkF m 146 #[.val (.int p0), .val (.int v5), .val (.int v11), .val (.int v17), .val (.int v23), .val (.ref b26), .val (.ref b32), .val (.int v61), .val (.int v70), .val (.int v79), .unset, .unset] [(.ref b26)])) t := fun t k => st82.trans k
  obtain ⟨cq94, kq94, q94a, q94b, q94c⟩ := isOf hZ (rfl : T82.heap = T82.heap) Q82_0
  obtain ⟨_, _, ⟨T94, L94, k94, n94⟩, -, X94, ⟨Lc94, hQ94, l94, y94, z94⟩, st94⟩ := X82'.virtualBack hx (y := (⟨"com/example/tx1/tx1/FailureVerdict$PartCommitted", "untold", "()Z"⟩ : MethodName)) (z := (⟨"com/example/tx1/tx1/FailureVerdict$PartCommitted", "untold", "()Z"⟩ : MethodName)) hown (mvT hZ (hw _ (List.mem_of_getElem? (i := 22) rfl))) (mvT hZ (hw _ (List.mem_of_getElem? (i := 23) rfl))) (notFace_of_selects (args := #[]) (mvT hZ (hw _ (List.mem_of_getElem? (i := 25) rfl)))) (mvT hZ (hw _ (List.mem_of_getElem? (i := 25) rfl))) (mvT hZ (hw _ (List.mem_of_getElem? (i := 24) rfl))) (by decide) (backOf (W := 0) (own_rm4 l Z a0 hw [] b82 (nar .boolean (nar .boolean v5)) (nar .boolean (nar .boolean v17)) (nar .boolean (1 : Int32)) T82.heap n0 Zp93 Q82_1 Q82_3 Q82_4) hZ (hw _ (List.mem_of_getElem? (i := 26) rfl)) (hw _ (List.mem_of_getElem? (i := 2) rfl)) (by decide) (by decide)) q94a q94c (g := (mkF m 149 #[.val (.int p0), .val (.int v5), .val (.int v11), .val (.int v17), .val (.int v23), .val (.ref b26), .val (.ref b32), .val (.int v61), .val (.int v70), .val (.int v79), .unset, .unset] [(.ref b82)])) rfl (by rw [hml]; rfl) (Steps.refl _) (argsL := []) (rest := []) (lenOf own_pd2 rfl) rfl (by show 2 * 0 + _ ≤ _; exact Nat.le_of_eq rfl) (hb hby at_149) (fun _ _ => ⟨rfl, (rfl : T82.heap = T82.heap), (by decide : 3 + 0 ≤ _), (by decide : 12 + 0 ≤ _)⟩)
  dsimp only [Pt.U, Pt.locs, Pt.cells, Pt.slots] at X94 l94 y94 z94 st94 hQ94
  subst y94 z94
  obtain ⟨rfl, rfl, e94⟩ := hQ94
  have X94' : Stand p l e room_1 s m #[(.int p0)] below meth c T94 L82 3 12 := by rw [show L94 = L82 from by rw [l94]; first | rfl | exact List.append_nil _] at X94; exact X94
  have st94 : ∀ t, Steps p.tables e below (T94.setTop (mkF m 152 #[.val (.int p0), .val (.int v5), .val (.int v11), .val (.int v17), .val (.int v23), .val (.ref b26), .val (.ref b32), .val (.int v61), .val (.int v70), .val (.int v79), .unset, .unset] [(.int (own_F4 (nar .boolean (nar .boolean v5)) (nar .boolean (nar .boolean v17)) (nar .boolean (1 : Int32))))])) t → Steps p.tables e below (T82.setTop (mkF m 149 #[.val (.int p0), .val (.int v5), .val (.int v11), .val (.int v17), .val (.int v23), .val (.ref b26), .val (.ref b32), .val (.int v61), .val (.int v70), .val (.int v79), .unset, .unset] [(.ref b82)])) t := fun t k => st94.trans k
  obtain ⟨v95, hv95⟩ : ∃ z : Int32, z = (own_F4 (nar .boolean (nar .boolean v5)) (nar .boolean (nar .boolean v17)) (nar .boolean (1 : Int32))) := ⟨_, rfl⟩
  rw [← hv95] at st94
  obtain ⟨v99, hv99⟩ : ∃ z : Int32, z = (if v95 = (0 : Int32) then (1 : Int32) else (0 : Int32)) := ⟨_, rfl⟩
  have st100 : ∀ t, Steps p.tables e below (T94.setTop (mkF m 160 #[.val (.int p0), .val (.int v5), .val (.int v11), .val (.int v17), .val (.int v23), .val (.ref b26), .val (.ref b32), .val (.int v61), .val (.int v70), .val (.int v79), .unset, .unset] [(.int v99)])) t → Steps p.tables e below (T94.setTop (mkF m 152 #[.val (.int p0), .val (.int v5), .val (.int v11), .val (.int v17), .val (.int v23), .val (.ref b26), .val (.ref b32), .val (.int v61), .val (.int v70), .val (.int v79), .unset, .unset] [(.int v95)])) t := by
    rw [hv99]
    by_cases hc152_96 : v95 = (0 : Int32)
    · repeat rw [if_pos hc152_96]
      have st97 : ∀ t, Steps p.tables e below (T94.setTop (mkF m 160 #[.val (.int p0), .val (.int v5), .val (.int v11), .val (.int v17), .val (.int v23), .val (.ref b26), .val (.ref b32), .val (.int v61), .val (.int v70), .val (.int v79), .unset, .unset] [(.int (1 : Int32))])) t → Steps p.tables e below (T94.setTop (mkF m 152 #[.val (.int p0), .val (.int v5), .val (.int v11), .val (.int v17), .val (.int v23), .val (.ref b26), .val (.ref b32), .val (.int v61), .val (.int v70), .val (.int v79), .unset, .unset] [(.int v95)])) t := by
        intro t k
        show Steps p.tables e below (T94.setTop (mkF m 152 #[.val (.int p0), .val (.int v5), .val (.int v11), .val (.int v17), .val (.int v23), .val (.ref b26), .val (.ref b32), .val (.int v61), .val (.int v70), .val (.int v79), .unset, .unset] [(.int v95)])) _
        refine XS.ifNo X94'.here hx rfl (hb hby at_152) rfl ((if0 _ _).trans (teq hc152_96).2) ?_
        show Steps p.tables e below (T94.setTop (mkF m 155 #[.val (.int p0), .val (.int v5), .val (.int v11), .val (.int v17), .val (.int v23), .val (.ref b26), .val (.ref b32), .val (.int v61), .val (.int v70), .val (.int v79), .unset, .unset] [])) _
        refine XS.iconst X94'.here hx rfl (hb hby at_155) ?_
        show Steps p.tables e below (T94.setTop (mkF m 156 #[.val (.int p0), .val (.int v5), .val (.int v11), .val (.int v17), .val (.int v23), .val (.ref b26), .val (.ref b32), .val (.int v61), .val (.int v70), .val (.int v79), .unset, .unset] [(.int (1 : Int32))])) _
        refine XS.goto X94'.here hx rfl (pc0 := 156) (pc' := 160) rfl (hb hby at_156) (by decide) (by decide) ?_
        exact k
      exact fun t k => st97 _ k
    · repeat rw [if_neg hc152_96]
      have st98 : ∀ t, Steps p.tables e below (T94.setTop (mkF m 160 #[.val (.int p0), .val (.int v5), .val (.int v11), .val (.int v17), .val (.int v23), .val (.ref b26), .val (.ref b32), .val (.int v61), .val (.int v70), .val (.int v79), .unset, .unset] [(.int (0 : Int32))])) t → Steps p.tables e below (T94.setTop (mkF m 152 #[.val (.int p0), .val (.int v5), .val (.int v11), .val (.int v17), .val (.int v23), .val (.ref b26), .val (.ref b32), .val (.int v61), .val (.int v70), .val (.int v79), .unset, .unset] [(.int v95)])) t := by
        intro t k
        show Steps p.tables e below (T94.setTop (mkF m 152 #[.val (.int p0), .val (.int v5), .val (.int v11), .val (.int v17), .val (.int v23), .val (.ref b26), .val (.ref b32), .val (.int v61), .val (.int v70), .val (.int v79), .unset, .unset] [(.int v95)])) _
        refine XS.ifYes X94'.here hx rfl (pc0 := 152) (pc' := 159) rfl (hb hby at_152) rfl ((if0 _ _).trans (feq hc152_96).2) (by decide) (by decide) ?_
        show Steps p.tables e below (T94.setTop (mkF m 159 #[.val (.int p0), .val (.int v5), .val (.int v11), .val (.int v17), .val (.int v23), .val (.ref b26), .val (.ref b32), .val (.int v61), .val (.int v70), .val (.int v79), .unset, .unset] [])) _
        refine XS.iconst X94'.here hx rfl (hb hby at_159) ?_
        exact k
      exact fun t k => st98 _ k
  have st101 : ∀ t, Steps p.tables e below (T94.setTop (mkF m 164 #[.val (.int p0), .val (.int v5), .val (.int v11), .val (.int v17), .val (.int v23), .val (.ref b26), .val (.ref b32), .val (.int v61), .val (.int v70), .val (.int v79), .val (.int v99), .unset] [(.ref b26)])) t → Steps p.tables e below (T94.setTop (mkF m 160 #[.val (.int p0), .val (.int v5), .val (.int v11), .val (.int v17), .val (.int v23), .val (.ref b26), .val (.ref b32), .val (.int v61), .val (.int v70), .val (.int v79), .unset, .unset] [(.int v99)])) t := by
    intro t k
    show Steps p.tables e below (T94.setTop (mkF m 160 #[.val (.int p0), .val (.int v5), .val (.int v11), .val (.int v17), .val (.int v23), .val (.ref b26), .val (.ref b32), .val (.int v61), .val (.int v70), .val (.int v79), .unset, .unset] [(.int v99)])) _
    refine XS.istore X94'.here hx rfl (hb hby at_160) rfl (l' := #[.val (.int p0), .val (.int v5), .val (.int v11), .val (.int v17), .val (.int v23), .val (.ref b26), .val (.ref b32), .val (.int v61), .val (.int v70), .val (.int v79), .val (.int v99), .unset]) rfl ?_
    show Steps p.tables e below (T94.setTop (mkF m 162 #[.val (.int p0), .val (.int v5), .val (.int v11), .val (.int v17), .val (.int v23), .val (.ref b26), .val (.ref b32), .val (.int v61), .val (.int v70), .val (.int v79), .val (.int v99), .unset] [])) _
    refine XS.aload X94'.here hx rfl (hb hby at_162) rfl rfl ?_
    exact k
  obtain ⟨cq102, kq102, q102a, q102b, q102c⟩ := isOf hZ e94 f83
  obtain ⟨_, _, ⟨T102, L102, k102, n102⟩, -, X102, ⟨Lc102, hQ102, l102, y102, z102⟩, st102⟩ := X94'.virtualBack hx (y := (⟨"com/example/tx1/tx1/FailureVerdict$PartCommitted", "withImplicitCommit", "()Lcom/example/tx1/tx1/FailureVerdict$PartCommitted;"⟩ : MethodName)) (z := (⟨"com/example/tx1/tx1/FailureVerdict$PartCommitted", "withImplicitCommit", "()Lcom/example/tx1/tx1/FailureVerdict$PartCommitted;"⟩ : MethodName)) hown (mvT hZ (hw _ (List.mem_of_getElem? (i := 34) rfl))) (mvT hZ (hw _ (List.mem_of_getElem? (i := 35) rfl))) (notFace_of_selects (args := #[]) (mvT hZ (hw _ (List.mem_of_getElem? (i := 37) rfl)))) (mvT hZ (hw _ (List.mem_of_getElem? (i := 37) rfl))) (mvT hZ (hw _ (List.mem_of_getElem? (i := 36) rfl))) (by decide) (backOf (W := 0) (own_rm6 l Z a0 hw [] b26 (nar .boolean v11) (nar .boolean v17) (nar .boolean v23) T82.heap n0 Zp93 f85 f86 f87) hZ (hw _ (List.mem_of_getElem? (i := 38) rfl)) (hw _ (List.mem_of_getElem? (i := 2) rfl)) (by decide) (by decide)) q102a q102c (g := (mkF m 164 #[.val (.int p0), .val (.int v5), .val (.int v11), .val (.int v17), .val (.int v23), .val (.ref b26), .val (.ref b32), .val (.int v61), .val (.int v70), .val (.int v79), .val (.int v99), .unset] [(.ref b26)])) rfl (by rw [hml]; rfl) (Steps.refl _) (argsL := []) (rest := []) (lenOf own_pd3 rfl) rfl (by show 2 * 0 + _ ≤ _; exact Nat.le_of_eq rfl) (hb hby at_164) (fun _ _ => ⟨rfl, e94, (by decide : 3 + 1 ≤ _), (by decide : 12 + 4 ≤ _)⟩)
  dsimp only [Pt.U, Pt.locs, Pt.cells, Pt.slots] at X102 l102 y102 z102 st102 hQ102
  subst y102 z102
  obtain ⟨b102, rfl, Nq102, K102, q102, Q102_0, Q102_1, Q102_2, Q102_3, Q102_4, -⟩ := hQ102
  have N102 : Fr n0 L102 := by rw [l102]; exact Fr.app N82 Nq102
  have X102' : Stand p l e room_1 s m #[(.int p0)] below meth c T102 L102 4 16 := X102
  have ne_b26_b102 : b26 ≠ b102 := own_ne f83.lt q102
  have ne_b32_b102 : b32 ≠ b102 := own_ne f88.lt q102
  have ne_b82_b102 : b82 ≠ b102 := own_ne Q82_0.lt q102
  have g_b102 : n0 ≤ b102 := Nat.le_trans Zp93 q102
  have f103 : Exa Z T102.heap b26 "com/example/tx1/tx1/FailureVerdict$PartCommitted" := f83.keep K102
  have f104 : Fld Z T102.heap b26 "com/example/tx1/tx1/FailureVerdict$PartCommitted" "implicitly" "Z" (.int (nar .boolean v5)) := f84.keep K102 nin0
  have f105 : Fld Z T102.heap b26 "com/example/tx1/tx1/FailureVerdict$PartCommitted" "toAsk" "Z" (.int (nar .boolean v11)) := f85.keep K102 nin0
  have f106 : Fld Z T102.heap b26 "com/example/tx1/tx1/FailureVerdict$PartCommitted" "unseen" "Z" (.int (nar .boolean v17)) := f86.keep K102 nin0
  have f107 : Fld Z T102.heap b26 "com/example/tx1/tx1/FailureVerdict$PartCommitted" "told" "Z" (.int (nar .boolean v23)) := f87.keep K102 nin0
  have f108 : Exa Z T102.heap b32 "com/example/tx1/tx1/FailureVerdict$PartCommitted" := f88.keep K102
  have f109 : Fld Z T102.heap b32 "com/example/tx1/tx1/FailureVerdict$PartCommitted" "implicitly" "Z" (.int (nar .boolean v5)) := f89.keep K102 nin0
  have f110 : Fld Z T102.heap b32 "com/example/tx1/tx1/FailureVerdict$PartCommitted" "toAsk" "Z" (.int (nar .boolean v43)) := f90.keep K102 nin0
  have f111 : Fld Z T102.heap b32 "com/example/tx1/tx1/FailureVerdict$PartCommitted" "unseen" "Z" (.int (nar .boolean v17)) := f91.keep K102 nin0
  have f112 : Fld Z T102.heap b32 "com/example/tx1/tx1/FailureVerdict$PartCommitted" "told" "Z" (.int (nar .boolean v23)) := f92.keep K102 nin0
  have f113 : Exa Z T102.heap b82 "com/example/tx1/tx1/FailureVerdict$PartCommitted" := Q82_0.keep K102
  have f114 : Fld Z T102.heap b82 "com/example/tx1/tx1/FailureVerdict$PartCommitted" "implicitly" "Z" (.int (nar .boolean (nar .boolean v5))) := Q82_1.keep K102 nin0
  have f115 : Fld Z T102.heap b82 "com/example/tx1/tx1/FailureVerdict$PartCommitted" "toAsk" "Z" (.int (nar .boolean (nar .boolean v11))) := Q82_2.keep K102 nin0
  have f116 : Fld Z T102.heap b82 "com/example/tx1/tx1/FailureVerdict$PartCommitted" "unseen" "Z" (.int (nar .boolean (nar .boolean v17))) := Q82_3.keep K102 nin0
  have f117 : Fld Z T102.heap b82 "com/example/tx1/tx1/FailureVerdict$PartCommitted" "told" "Z" (.int (nar .boolean (1 : Int32))) := Q82_4.keep K102 nin0
  have Zp118 : n0 ≤ T102.heap.size := Nat.le_trans Zp93 K102.1
  have st102 : ∀ t, Steps p.tables e below (T102.setTop (mkF m 167 #[.val (.int p0), .val (.int v5), .val (.int v11), .val (.int v17), .val (.int v23), .val (.ref b26), .val (.ref b32), .val (.int v61), .val (.int v70), .val (.int v79), .val (.int v99), .unset] [(.ref b102)])) t → Steps p.tables e below (T94.setTop (mkF m 164 #[.val (.int p0), .val (.int v5), .val (.int v11), .val (.int v17), .val (.int v23), .val (.ref b26), .val (.ref b32), .val (.int v61), .val (.int v70), .val (.int v79), .val (.int v99), .unset] [(.ref b26)])) t := fun t k => st102.trans k
  obtain ⟨cq119, kq119, q119a, q119b, q119c⟩ := isOf hZ (rfl : T102.heap = T102.heap) Q102_0
  obtain ⟨_, _, ⟨T119, L119, k119, n119⟩, -, X119, ⟨Lc119, hQ119, l119, y119, z119⟩, st119⟩ := X102'.virtualBack hx (y := (⟨"com/example/tx1/tx1/FailureVerdict$PartCommitted", "untold", "()Z"⟩ : MethodName)) (z := (⟨"com/example/tx1/tx1/FailureVerdict$PartCommitted", "untold", "()Z"⟩ : MethodName)) hown (mvT hZ (hw _ (List.mem_of_getElem? (i := 22) rfl))) (mvT hZ (hw _ (List.mem_of_getElem? (i := 23) rfl))) (notFace_of_selects (args := #[]) (mvT hZ (hw _ (List.mem_of_getElem? (i := 25) rfl)))) (mvT hZ (hw _ (List.mem_of_getElem? (i := 25) rfl))) (mvT hZ (hw _ (List.mem_of_getElem? (i := 24) rfl))) (by decide) (backOf (W := 0) (own_rm4 l Z a0 hw [] b102 (nar .boolean (1 : Int32)) (nar .boolean (nar .boolean v17)) (nar .boolean (nar .boolean v23)) T102.heap n0 Zp118 Q102_1 Q102_3 Q102_4) hZ (hw _ (List.mem_of_getElem? (i := 26) rfl)) (hw _ (List.mem_of_getElem? (i := 2) rfl)) (by decide) (by decide)) q119a q119c (g := (mkF m 167 #[.val (.int p0), .val (.int v5), .val (.int v11), .val (.int v17), .val (.int v23), .val (.ref b26), .val (.ref b32), .val (.int v61), .val (.int v70), .val (.int v79), .val (.int v99), .unset] [(.ref b102)])) rfl (by rw [hml]; rfl) (Steps.refl _) (argsL := []) (rest := []) (lenOf own_pd2 rfl) rfl (by show 2 * 0 + _ ≤ _; exact Nat.le_of_eq rfl) (hb hby at_167) (fun _ _ => ⟨rfl, (rfl : T102.heap = T102.heap), (by decide : 4 + 0 ≤ _), (by decide : 16 + 0 ≤ _)⟩)
  dsimp only [Pt.U, Pt.locs, Pt.cells, Pt.slots] at X119 l119 y119 z119 st119 hQ119
  subst y119 z119
  obtain ⟨rfl, rfl, e119⟩ := hQ119
  have X119' : Stand p l e room_1 s m #[(.int p0)] below meth c T119 L102 4 16 := by rw [show L119 = L102 from by rw [l119]; first | rfl | exact List.append_nil _] at X119; exact X119
  have st119 : ∀ t, Steps p.tables e below (T119.setTop (mkF m 170 #[.val (.int p0), .val (.int v5), .val (.int v11), .val (.int v17), .val (.int v23), .val (.ref b26), .val (.ref b32), .val (.int v61), .val (.int v70), .val (.int v79), .val (.int v99), .unset] [(.int (own_F4 (nar .boolean (1 : Int32)) (nar .boolean (nar .boolean v17)) (nar .boolean (nar .boolean v23))))])) t → Steps p.tables e below (T102.setTop (mkF m 167 #[.val (.int p0), .val (.int v5), .val (.int v11), .val (.int v17), .val (.int v23), .val (.ref b26), .val (.ref b32), .val (.int v61), .val (.int v70), .val (.int v79), .val (.int v99), .unset] [(.ref b102)])) t := fun t k => st119.trans k
  obtain ⟨v120, hv120⟩ : ∃ z : Int32, z = (own_F4 (nar .boolean (1 : Int32)) (nar .boolean (nar .boolean v17)) (nar .boolean (nar .boolean v23))) := ⟨_, rfl⟩
  rw [← hv120] at st119
  have st121 : ∀ t, Steps p.tables e below (T119.setTop (mkF m 172 #[.val (.int p0), .val (.int v5), .val (.int v11), .val (.int v17), .val (.int v23), .val (.ref b26), .val (.ref b32), .val (.int v61), .val (.int v70), .val (.int v79), .val (.int v99), .unset] [(.int v23), (.int v120)])) t → Steps p.tables e below (T119.setTop (mkF m 170 #[.val (.int p0), .val (.int v5), .val (.int v11), .val (.int v17), .val (.int v23), .val (.ref b26), .val (.ref b32), .val (.int v61), .val (.int v70), .val (.int v79), .val (.int v99), .unset] [(.int v120)])) t := by
    intro t k
    show Steps p.tables e below (T119.setTop (mkF m 170 #[.val (.int p0), .val (.int v5), .val (.int v11), .val (.int v17), .val (.int v23), .val (.ref b26), .val (.ref b32), .val (.int v61), .val (.int v70), .val (.int v79), .val (.int v99), .unset] [(.int v120)])) _
    refine XS.iload X119'.here hx rfl (hb hby at_170) rfl ?_
    exact k
  obtain ⟨v125, hv125⟩ : ∃ z : Int32, z = (if v23 = (0 : Int32) then (1 : Int32) else (0 : Int32)) := ⟨_, rfl⟩
  have st126 : ∀ t, Steps p.tables e below (T119.setTop (mkF m 180 #[.val (.int p0), .val (.int v5), .val (.int v11), .val (.int v17), .val (.int v23), .val (.ref b26), .val (.ref b32), .val (.int v61), .val (.int v70), .val (.int v79), .val (.int v99), .unset] [(.int v125), (.int v120)])) t → Steps p.tables e below (T119.setTop (mkF m 172 #[.val (.int p0), .val (.int v5), .val (.int v11), .val (.int v17), .val (.int v23), .val (.ref b26), .val (.ref b32), .val (.int v61), .val (.int v70), .val (.int v79), .val (.int v99), .unset] [(.int v23), (.int v120)])) t := by
    rw [hv125]
    by_cases hc172_122 : v23 = (0 : Int32)
    · repeat rw [if_pos hc172_122]
      have st123 : ∀ t, Steps p.tables e below (T119.setTop (mkF m 180 #[.val (.int p0), .val (.int v5), .val (.int v11), .val (.int v17), .val (.int v23), .val (.ref b26), .val (.ref b32), .val (.int v61), .val (.int v70), .val (.int v79), .val (.int v99), .unset] [(.int (1 : Int32)), (.int v120)])) t → Steps p.tables e below (T119.setTop (mkF m 172 #[.val (.int p0), .val (.int v5), .val (.int v11), .val (.int v17), .val (.int v23), .val (.ref b26), .val (.ref b32), .val (.int v61), .val (.int v70), .val (.int v79), .val (.int v99), .unset] [(.int v23), (.int v120)])) t := by
        intro t k
        show Steps p.tables e below (T119.setTop (mkF m 172 #[.val (.int p0), .val (.int v5), .val (.int v11), .val (.int v17), .val (.int v23), .val (.ref b26), .val (.ref b32), .val (.int v61), .val (.int v70), .val (.int v79), .val (.int v99), .unset] [(.int v23), (.int v120)])) _
        refine XS.ifNo X119'.here hx rfl (hb hby at_172) rfl ((if0 _ _).trans (teq hc172_122).2) ?_
        show Steps p.tables e below (T119.setTop (mkF m 175 #[.val (.int p0), .val (.int v5), .val (.int v11), .val (.int v17), .val (.int v23), .val (.ref b26), .val (.ref b32), .val (.int v61), .val (.int v70), .val (.int v79), .val (.int v99), .unset] [(.int v120)])) _
        refine XS.iconst X119'.here hx rfl (hb hby at_175) ?_
        show Steps p.tables e below (T119.setTop (mkF m 176 #[.val (.int p0), .val (.int v5), .val (.int v11), .val (.int v17), .val (.int v23), .val (.ref b26), .val (.ref b32), .val (.int v61), .val (.int v70), .val (.int v79), .val (.int v99), .unset] [(.int (1 : Int32)), (.int v120)])) _
        refine XS.goto X119'.here hx rfl (pc0 := 176) (pc' := 180) rfl (hb hby at_176) (by decide) (by decide) ?_
        exact k
      exact fun t k => st123 _ k
    · repeat rw [if_neg hc172_122]
      have st124 : ∀ t, Steps p.tables e below (T119.setTop (mkF m 180 #[.val (.int p0), .val (.int v5), .val (.int v11), .val (.int v17), .val (.int v23), .val (.ref b26), .val (.ref b32), .val (.int v61), .val (.int v70), .val (.int v79), .val (.int v99), .unset] [(.int (0 : Int32)), (.int v120)])) t → Steps p.tables e below (T119.setTop (mkF m 172 #[.val (.int p0), .val (.int v5), .val (.int v11), .val (.int v17), .val (.int v23), .val (.ref b26), .val (.ref b32), .val (.int v61), .val (.int v70), .val (.int v79), .val (.int v99), .unset] [(.int v23), (.int v120)])) t := by
        intro t k
        show Steps p.tables e below (T119.setTop (mkF m 172 #[.val (.int p0), .val (.int v5), .val (.int v11), .val (.int v17), .val (.int v23), .val (.ref b26), .val (.ref b32), .val (.int v61), .val (.int v70), .val (.int v79), .val (.int v99), .unset] [(.int v23), (.int v120)])) _
        refine XS.ifYes X119'.here hx rfl (pc0 := 172) (pc' := 179) rfl (hb hby at_172) rfl ((if0 _ _).trans (feq hc172_122).2) (by decide) (by decide) ?_
        show Steps p.tables e below (T119.setTop (mkF m 179 #[.val (.int p0), .val (.int v5), .val (.int v11), .val (.int v17), .val (.int v23), .val (.ref b26), .val (.ref b32), .val (.int v61), .val (.int v70), .val (.int v79), .val (.int v99), .unset] [(.int v120)])) _
        refine XS.iconst X119'.here hx rfl (hb hby at_179) ?_
        exact k
      exact fun t k => st124 _ k
  obtain ⟨v130, hv130⟩ : ∃ z : Int32, z = (if v120 = v125 then (1 : Int32) else (0 : Int32)) := ⟨_, rfl⟩
  have st131 : ∀ t, Steps p.tables e below (T119.setTop (mkF m 188 #[.val (.int p0), .val (.int v5), .val (.int v11), .val (.int v17), .val (.int v23), .val (.ref b26), .val (.ref b32), .val (.int v61), .val (.int v70), .val (.int v79), .val (.int v99), .unset] [(.int v130)])) t → Steps p.tables e below (T119.setTop (mkF m 180 #[.val (.int p0), .val (.int v5), .val (.int v11), .val (.int v17), .val (.int v23), .val (.ref b26), .val (.ref b32), .val (.int v61), .val (.int v70), .val (.int v79), .val (.int v99), .unset] [(.int v125), (.int v120)])) t := by
    rw [hv130]
    by_cases hc180_127 : v120 = v125
    · repeat rw [if_pos hc180_127]
      have st128 : ∀ t, Steps p.tables e below (T119.setTop (mkF m 188 #[.val (.int p0), .val (.int v5), .val (.int v11), .val (.int v17), .val (.int v23), .val (.ref b26), .val (.ref b32), .val (.int v61), .val (.int v70), .val (.int v79), .val (.int v99), .unset] [(.int (1 : Int32))])) t → Steps p.tables e below (T119.setTop (mkF m 180 #[.val (.int p0), .val (.int v5), .val (.int v11), .val (.int v17), .val (.int v23), .val (.ref b26), .val (.ref b32), .val (.int v61), .val (.int v70), .val (.int v79), .val (.int v99), .unset] [(.int v125), (.int v120)])) t := by
        intro t k
        show Steps p.tables e below (T119.setTop (mkF m 180 #[.val (.int p0), .val (.int v5), .val (.int v11), .val (.int v17), .val (.int v23), .val (.ref b26), .val (.ref b32), .val (.int v61), .val (.int v70), .val (.int v79), .val (.int v99), .unset] [(.int v125), (.int v120)])) _
        refine XS.icmpNo X119'.here hx rfl (hb hby at_180) rfl (teq hc180_127).2 ?_
        show Steps p.tables e below (T119.setTop (mkF m 183 #[.val (.int p0), .val (.int v5), .val (.int v11), .val (.int v17), .val (.int v23), .val (.ref b26), .val (.ref b32), .val (.int v61), .val (.int v70), .val (.int v79), .val (.int v99), .unset] [])) _
        refine XS.iconst X119'.here hx rfl (hb hby at_183) ?_
        show Steps p.tables e below (T119.setTop (mkF m 184 #[.val (.int p0), .val (.int v5), .val (.int v11), .val (.int v17), .val (.int v23), .val (.ref b26), .val (.ref b32), .val (.int v61), .val (.int v70), .val (.int v79), .val (.int v99), .unset] [(.int (1 : Int32))])) _
        refine XS.goto X119'.here hx rfl (pc0 := 184) (pc' := 188) rfl (hb hby at_184) (by decide) (by decide) ?_
        exact k
      exact fun t k => st128 _ k
    · repeat rw [if_neg hc180_127]
      have st129 : ∀ t, Steps p.tables e below (T119.setTop (mkF m 188 #[.val (.int p0), .val (.int v5), .val (.int v11), .val (.int v17), .val (.int v23), .val (.ref b26), .val (.ref b32), .val (.int v61), .val (.int v70), .val (.int v79), .val (.int v99), .unset] [(.int (0 : Int32))])) t → Steps p.tables e below (T119.setTop (mkF m 180 #[.val (.int p0), .val (.int v5), .val (.int v11), .val (.int v17), .val (.int v23), .val (.ref b26), .val (.ref b32), .val (.int v61), .val (.int v70), .val (.int v79), .val (.int v99), .unset] [(.int v125), (.int v120)])) t := by
        intro t k
        show Steps p.tables e below (T119.setTop (mkF m 180 #[.val (.int p0), .val (.int v5), .val (.int v11), .val (.int v17), .val (.int v23), .val (.ref b26), .val (.ref b32), .val (.int v61), .val (.int v70), .val (.int v79), .val (.int v99), .unset] [(.int v125), (.int v120)])) _
        refine XS.icmpYes X119'.here hx rfl (pc0 := 180) (pc' := 187) rfl (hb hby at_180) rfl (feq hc180_127).2 (by decide) (by decide) ?_
        show Steps p.tables e below (T119.setTop (mkF m 187 #[.val (.int p0), .val (.int v5), .val (.int v11), .val (.int v17), .val (.int v23), .val (.ref b26), .val (.ref b32), .val (.int v61), .val (.int v70), .val (.int v79), .val (.int v99), .unset] [])) _
        refine XS.iconst X119'.here hx rfl (hb hby at_187) ?_
        exact k
      exact fun t k => st129 _ k
  have st132 : ∀ t, Steps p.tables e below (T119.setTop (mkF m 192 #[.val (.int p0), .val (.int v5), .val (.int v11), .val (.int v17), .val (.int v23), .val (.ref b26), .val (.ref b32), .val (.int v61), .val (.int v70), .val (.int v79), .val (.int v99), .val (.int v130)] [(.int v70)])) t → Steps p.tables e below (T119.setTop (mkF m 188 #[.val (.int p0), .val (.int v5), .val (.int v11), .val (.int v17), .val (.int v23), .val (.ref b26), .val (.ref b32), .val (.int v61), .val (.int v70), .val (.int v79), .val (.int v99), .unset] [(.int v130)])) t := by
    intro t k
    show Steps p.tables e below (T119.setTop (mkF m 188 #[.val (.int p0), .val (.int v5), .val (.int v11), .val (.int v17), .val (.int v23), .val (.ref b26), .val (.ref b32), .val (.int v61), .val (.int v70), .val (.int v79), .val (.int v99), .unset] [(.int v130)])) _
    refine XS.istore X119'.here hx rfl (hb hby at_188) rfl (l' := #[.val (.int p0), .val (.int v5), .val (.int v11), .val (.int v17), .val (.int v23), .val (.ref b26), .val (.ref b32), .val (.int v61), .val (.int v70), .val (.int v79), .val (.int v99), .val (.int v130)]) rfl ?_
    show Steps p.tables e below (T119.setTop (mkF m 190 #[.val (.int p0), .val (.int v5), .val (.int v11), .val (.int v17), .val (.int v23), .val (.ref b26), .val (.ref b32), .val (.int v61), .val (.int v70), .val (.int v79), .val (.int v99), .val (.int v130)] [])) _
    refine XS.iload X119'.here hx rfl (hb hby at_190) rfl ?_
    exact k
  refine own_End.go (fun t k => st1 _ (st6 _ (st7 _ (st12 _ (st13 _ (st18 _ (st19 _ (st24 _ (st25 _ (st26 _ (st28 _ (st29 _ (st31 _ (st32 _ (st39 _ (st44 _ (st45 _ (st46 _ (st53 _ (st62 _ (st63 _ (st64 _ (st66 _ (st71 _ (st72 _ (st73 _ (st75 _ (st80 _ (st81 _ (st82 _ (st94 _ (st100 _ (st101 _ (st102 _ (st119 _ (st121 _ (st126 _ (st131 _ (st132 _ k))))))))))))))))))))))))))))))))))))))) ?_
  by_cases hc192_133 : v70 = (0 : Int32)
  · have st134 : ∀ t, Steps p.tables e below (T119.setTop (mkF m 215 #[.val (.int p0), .val (.int v5), .val (.int v11), .val (.int v17), .val (.int v23), .val (.ref b26), .val (.ref b32), .val (.int v61), .val (.int v70), .val (.int v79), .val (.int v99), .val (.int v130)] [(.int (0 : Int32))])) t → Steps p.tables e below (T119.setTop (mkF m 192 #[.val (.int p0), .val (.int v5), .val (.int v11), .val (.int v17), .val (.int v23), .val (.ref b26), .val (.ref b32), .val (.int v61), .val (.int v70), .val (.int v79), .val (.int v99), .val (.int v130)] [(.int v70)])) t := by
      intro t k
      show Steps p.tables e below (T119.setTop (mkF m 192 #[.val (.int p0), .val (.int v5), .val (.int v11), .val (.int v17), .val (.int v23), .val (.ref b26), .val (.ref b32), .val (.int v61), .val (.int v70), .val (.int v79), .val (.int v99), .val (.int v130)] [(.int v70)])) _
      refine XS.ifYes X119'.here hx rfl (pc0 := 192) (pc' := 214) rfl (hb hby at_192) rfl ((if0 _ _).trans (teq hc192_133).1) (by decide) (by decide) ?_
      show Steps p.tables e below (T119.setTop (mkF m 214 #[.val (.int p0), .val (.int v5), .val (.int v11), .val (.int v17), .val (.int v23), .val (.ref b26), .val (.ref b32), .val (.int v61), .val (.int v70), .val (.int v79), .val (.int v99), .val (.int v130)] [])) _
      refine XS.iconst X119'.here hx rfl (hb hby at_214) ?_
      exact k
    refine own_End.go (fun t k => st134 _ k) ?_
    exact own_leafN X119' hx Bd.notSynchronized (t := .boolean) Bd.returns (by simp) (hb hby at_215) ⟨congrArg (fun z => some (Value.int z)) (own_e0_135 hv5 hv11 hv17 hv23 hv43 hv61 hv65 hv70 hv74 hv79 hv95 hv99 hv120 hv125 hv130 hc192_133), N102⟩ (by decide) (by decide)
  · have st136 : ∀ t, Steps p.tables e below (T119.setTop (mkF m 197 #[.val (.int p0), .val (.int v5), .val (.int v11), .val (.int v17), .val (.int v23), .val (.ref b26), .val (.ref b32), .val (.int v61), .val (.int v70), .val (.int v79), .val (.int v99), .val (.int v130)] [(.int v79)])) t → Steps p.tables e below (T119.setTop (mkF m 192 #[.val (.int p0), .val (.int v5), .val (.int v11), .val (.int v17), .val (.int v23), .val (.ref b26), .val (.ref b32), .val (.int v61), .val (.int v70), .val (.int v79), .val (.int v99), .val (.int v130)] [(.int v70)])) t := by
      intro t k
      show Steps p.tables e below (T119.setTop (mkF m 192 #[.val (.int p0), .val (.int v5), .val (.int v11), .val (.int v17), .val (.int v23), .val (.ref b26), .val (.ref b32), .val (.int v61), .val (.int v70), .val (.int v79), .val (.int v99), .val (.int v130)] [(.int v70)])) _
      refine XS.ifNo X119'.here hx rfl (hb hby at_192) rfl ((if0 _ _).trans (feq hc192_133).1) ?_
      show Steps p.tables e below (T119.setTop (mkF m 195 #[.val (.int p0), .val (.int v5), .val (.int v11), .val (.int v17), .val (.int v23), .val (.ref b26), .val (.ref b32), .val (.int v61), .val (.int v70), .val (.int v79), .val (.int v99), .val (.int v130)] [])) _
      refine XS.iload X119'.here hx rfl (hb hby at_195) rfl ?_
      exact k
    refine own_End.go (fun t k => st136 _ k) ?_
    by_cases hc197_137 : v79 = (0 : Int32)
    · have st138 : ∀ t, Steps p.tables e below (T119.setTop (mkF m 215 #[.val (.int p0), .val (.int v5), .val (.int v11), .val (.int v17), .val (.int v23), .val (.ref b26), .val (.ref b32), .val (.int v61), .val (.int v70), .val (.int v79), .val (.int v99), .val (.int v130)] [(.int (0 : Int32))])) t → Steps p.tables e below (T119.setTop (mkF m 197 #[.val (.int p0), .val (.int v5), .val (.int v11), .val (.int v17), .val (.int v23), .val (.ref b26), .val (.ref b32), .val (.int v61), .val (.int v70), .val (.int v79), .val (.int v99), .val (.int v130)] [(.int v79)])) t := by
        intro t k
        show Steps p.tables e below (T119.setTop (mkF m 197 #[.val (.int p0), .val (.int v5), .val (.int v11), .val (.int v17), .val (.int v23), .val (.ref b26), .val (.ref b32), .val (.int v61), .val (.int v70), .val (.int v79), .val (.int v99), .val (.int v130)] [(.int v79)])) _
        refine XS.ifYes X119'.here hx rfl (pc0 := 197) (pc' := 214) rfl (hb hby at_197) rfl ((if0 _ _).trans (teq hc197_137).1) (by decide) (by decide) ?_
        show Steps p.tables e below (T119.setTop (mkF m 214 #[.val (.int p0), .val (.int v5), .val (.int v11), .val (.int v17), .val (.int v23), .val (.ref b26), .val (.ref b32), .val (.int v61), .val (.int v70), .val (.int v79), .val (.int v99), .val (.int v130)] [])) _
        refine XS.iconst X119'.here hx rfl (hb hby at_214) ?_
        exact k
      refine own_End.go (fun t k => st138 _ k) ?_
      exact own_leafN X119' hx Bd.notSynchronized (t := .boolean) Bd.returns (by simp) (hb hby at_215) ⟨congrArg (fun z => some (Value.int z)) (own_e0_139 hv5 hv11 hv17 hv23 hv43 hv61 hv65 hv70 hv74 hv79 hv95 hv99 hv120 hv125 hv130 hc192_133 hc197_137), N102⟩ (by decide) (by decide)
    · have st140 : ∀ t, Steps p.tables e below (T119.setTop (mkF m 202 #[.val (.int p0), .val (.int v5), .val (.int v11), .val (.int v17), .val (.int v23), .val (.ref b26), .val (.ref b32), .val (.int v61), .val (.int v70), .val (.int v79), .val (.int v99), .val (.int v130)] [(.int v99)])) t → Steps p.tables e below (T119.setTop (mkF m 197 #[.val (.int p0), .val (.int v5), .val (.int v11), .val (.int v17), .val (.int v23), .val (.ref b26), .val (.ref b32), .val (.int v61), .val (.int v70), .val (.int v79), .val (.int v99), .val (.int v130)] [(.int v79)])) t := by
        intro t k
        show Steps p.tables e below (T119.setTop (mkF m 197 #[.val (.int p0), .val (.int v5), .val (.int v11), .val (.int v17), .val (.int v23), .val (.ref b26), .val (.ref b32), .val (.int v61), .val (.int v70), .val (.int v79), .val (.int v99), .val (.int v130)] [(.int v79)])) _
        refine XS.ifNo X119'.here hx rfl (hb hby at_197) rfl ((if0 _ _).trans (feq hc197_137).1) ?_
        show Steps p.tables e below (T119.setTop (mkF m 200 #[.val (.int p0), .val (.int v5), .val (.int v11), .val (.int v17), .val (.int v23), .val (.ref b26), .val (.ref b32), .val (.int v61), .val (.int v70), .val (.int v79), .val (.int v99), .val (.int v130)] [])) _
        refine XS.iload X119'.here hx rfl (hb hby at_200) rfl ?_
        exact k
      refine own_End.go (fun t k => st140 _ k) ?_
      by_cases hc202_141 : v99 = (0 : Int32)
      · have st142 : ∀ t, Steps p.tables e below (T119.setTop (mkF m 215 #[.val (.int p0), .val (.int v5), .val (.int v11), .val (.int v17), .val (.int v23), .val (.ref b26), .val (.ref b32), .val (.int v61), .val (.int v70), .val (.int v79), .val (.int v99), .val (.int v130)] [(.int (0 : Int32))])) t → Steps p.tables e below (T119.setTop (mkF m 202 #[.val (.int p0), .val (.int v5), .val (.int v11), .val (.int v17), .val (.int v23), .val (.ref b26), .val (.ref b32), .val (.int v61), .val (.int v70), .val (.int v79), .val (.int v99), .val (.int v130)] [(.int v99)])) t := by
          intro t k
          show Steps p.tables e below (T119.setTop (mkF m 202 #[.val (.int p0), .val (.int v5), .val (.int v11), .val (.int v17), .val (.int v23), .val (.ref b26), .val (.ref b32), .val (.int v61), .val (.int v70), .val (.int v79), .val (.int v99), .val (.int v130)] [(.int v99)])) _
          refine XS.ifYes X119'.here hx rfl (pc0 := 202) (pc' := 214) rfl (hb hby at_202) rfl ((if0 _ _).trans (teq hc202_141).1) (by decide) (by decide) ?_
          show Steps p.tables e below (T119.setTop (mkF m 214 #[.val (.int p0), .val (.int v5), .val (.int v11), .val (.int v17), .val (.int v23), .val (.ref b26), .val (.ref b32), .val (.int v61), .val (.int v70), .val (.int v79), .val (.int v99), .val (.int v130)] [])) _
          refine XS.iconst X119'.here hx rfl (hb hby at_214) ?_
          exact k
        refine own_End.go (fun t k => st142 _ k) ?_
        exact own_leafN X119' hx Bd.notSynchronized (t := .boolean) Bd.returns (by simp) (hb hby at_215) ⟨congrArg (fun z => some (Value.int z)) (own_e0_143 hv5 hv11 hv17 hv23 hv43 hv61 hv65 hv70 hv74 hv79 hv95 hv99 hv120 hv125 hv130 hc192_133 hc197_137 hc202_141), N102⟩ (by decide) (by decide)
      · have st144 : ∀ t, Steps p.tables e below (T119.setTop (mkF m 207 #[.val (.int p0), .val (.int v5), .val (.int v11), .val (.int v17), .val (.int v23), .val (.ref b26), .val (.ref b32), .val (.int v61), .val (.int v70), .val (.int v79), .val (.int v99), .val (.int v130)] [(.int v130)])) t → Steps p.tables e below (T119.setTop (mkF m 202 #[.val (.int p0), .val (.int v5), .val (.int v11), .val (.int v17), .val (.int v23), .val (.ref b26), .val (.ref b32), .val (.int v61), .val (.int v70), .val (.int v79), .val (.int v99), .val (.int v130)] [(.int v99)])) t := by
          intro t k
          show Steps p.tables e below (T119.setTop (mkF m 202 #[.val (.int p0), .val (.int v5), .val (.int v11), .val (.int v17), .val (.int v23), .val (.ref b26), .val (.ref b32), .val (.int v61), .val (.int v70), .val (.int v79), .val (.int v99), .val (.int v130)] [(.int v99)])) _
          refine XS.ifNo X119'.here hx rfl (hb hby at_202) rfl ((if0 _ _).trans (feq hc202_141).1) ?_
          show Steps p.tables e below (T119.setTop (mkF m 205 #[.val (.int p0), .val (.int v5), .val (.int v11), .val (.int v17), .val (.int v23), .val (.ref b26), .val (.ref b32), .val (.int v61), .val (.int v70), .val (.int v79), .val (.int v99), .val (.int v130)] [])) _
          refine XS.iload X119'.here hx rfl (hb hby at_205) rfl ?_
          exact k
        refine own_End.go (fun t k => st144 _ k) ?_
        by_cases hc207_145 : v130 = (0 : Int32)
        · have st146 : ∀ t, Steps p.tables e below (T119.setTop (mkF m 215 #[.val (.int p0), .val (.int v5), .val (.int v11), .val (.int v17), .val (.int v23), .val (.ref b26), .val (.ref b32), .val (.int v61), .val (.int v70), .val (.int v79), .val (.int v99), .val (.int v130)] [(.int (0 : Int32))])) t → Steps p.tables e below (T119.setTop (mkF m 207 #[.val (.int p0), .val (.int v5), .val (.int v11), .val (.int v17), .val (.int v23), .val (.ref b26), .val (.ref b32), .val (.int v61), .val (.int v70), .val (.int v79), .val (.int v99), .val (.int v130)] [(.int v130)])) t := by
            intro t k
            show Steps p.tables e below (T119.setTop (mkF m 207 #[.val (.int p0), .val (.int v5), .val (.int v11), .val (.int v17), .val (.int v23), .val (.ref b26), .val (.ref b32), .val (.int v61), .val (.int v70), .val (.int v79), .val (.int v99), .val (.int v130)] [(.int v130)])) _
            refine XS.ifYes X119'.here hx rfl (pc0 := 207) (pc' := 214) rfl (hb hby at_207) rfl ((if0 _ _).trans (teq hc207_145).1) (by decide) (by decide) ?_
            show Steps p.tables e below (T119.setTop (mkF m 214 #[.val (.int p0), .val (.int v5), .val (.int v11), .val (.int v17), .val (.int v23), .val (.ref b26), .val (.ref b32), .val (.int v61), .val (.int v70), .val (.int v79), .val (.int v99), .val (.int v130)] [])) _
            refine XS.iconst X119'.here hx rfl (hb hby at_214) ?_
            exact k
          refine own_End.go (fun t k => st146 _ k) ?_
          exact own_leafN X119' hx Bd.notSynchronized (t := .boolean) Bd.returns (by simp) (hb hby at_215) ⟨congrArg (fun z => some (Value.int z)) (own_e0_147 hv5 hv11 hv17 hv23 hv43 hv61 hv65 hv70 hv74 hv79 hv95 hv99 hv120 hv125 hv130 hc192_133 hc197_137 hc202_141 hc207_145), N102⟩ (by decide) (by decide)
        · have st148 : ∀ t, Steps p.tables e below (T119.setTop (mkF m 215 #[.val (.int p0), .val (.int v5), .val (.int v11), .val (.int v17), .val (.int v23), .val (.ref b26), .val (.ref b32), .val (.int v61), .val (.int v70), .val (.int v79), .val (.int v99), .val (.int v130)] [(.int (1 : Int32))])) t → Steps p.tables e below (T119.setTop (mkF m 207 #[.val (.int p0), .val (.int v5), .val (.int v11), .val (.int v17), .val (.int v23), .val (.ref b26), .val (.ref b32), .val (.int v61), .val (.int v70), .val (.int v79), .val (.int v99), .val (.int v130)] [(.int v130)])) t := by
            intro t k
            show Steps p.tables e below (T119.setTop (mkF m 207 #[.val (.int p0), .val (.int v5), .val (.int v11), .val (.int v17), .val (.int v23), .val (.ref b26), .val (.ref b32), .val (.int v61), .val (.int v70), .val (.int v79), .val (.int v99), .val (.int v130)] [(.int v130)])) _
            refine XS.ifNo X119'.here hx rfl (hb hby at_207) rfl ((if0 _ _).trans (feq hc207_145).1) ?_
            show Steps p.tables e below (T119.setTop (mkF m 210 #[.val (.int p0), .val (.int v5), .val (.int v11), .val (.int v17), .val (.int v23), .val (.ref b26), .val (.ref b32), .val (.int v61), .val (.int v70), .val (.int v79), .val (.int v99), .val (.int v130)] [])) _
            refine XS.iconst X119'.here hx rfl (hb hby at_210) ?_
            show Steps p.tables e below (T119.setTop (mkF m 211 #[.val (.int p0), .val (.int v5), .val (.int v11), .val (.int v17), .val (.int v23), .val (.ref b26), .val (.ref b32), .val (.int v61), .val (.int v70), .val (.int v79), .val (.int v99), .val (.int v130)] [(.int (1 : Int32))])) _
            refine XS.goto X119'.here hx rfl (pc0 := 211) (pc' := 215) rfl (hb hby at_211) (by decide) (by decide) ?_
            exact k
          refine own_End.go (fun t k => st148 _ k) ?_
          exact own_leafN X119' hx Bd.notSynchronized (t := .boolean) Bd.returns (by simp) (hb hby at_215) ⟨congrArg (fun z => some (Value.int z)) (own_e0_149 hv5 hv11 hv17 hv23 hv43 hv61 hv65 hv70 hv74 hv79 hv95 hv99 hv120 hv125 hv130 hc192_133 hc197_137 hc202_141 hc207_145), N102⟩ (by decide) (by decide)
theorem own_plain (p0 : Int32) : own_F0 p0 = 1 := by
  unfold own_F0
  by_cases h1 : (p0 &&& (1 : Int32)) = (0 : Int32) <;> by_cases h2 : (p0 &&& (2 : Int32)) = (0 : Int32) <;> by_cases h3 : (p0 &&& (4 : Int32)) = (0 : Int32) <;> by_cases h4 : (p0 &&& (8 : Int32)) = (0 : Int32) <;> simp only [h1, h2, h3, h4, if_true, if_false] <;> decide +kernel

set_option maxRecDepth 65536 in
set_option maxHeartbeats 40000000 in
theorem comes_1 {Post : Tables → Env → Array Value → State → Outcome → State → Prop} (hpost : ∀ tb e args s v u, (limb_1_1.after args s (.returned v) u = true ∧ limb_1_2.after args s (.returned v) u = true ∧ True) → FrameEnd s (.returned v) u (Jvm.fieldLocs frame_1_writes args s ++ Jvm.arrayLocs frame_1_arrays args s ++ Jvm.staticLocs frame_1_statics s) 16 128 → Post tb e args s (.returned v) u) :
    ArmFor flags0 classFile x code maxLocals ret World_1 tables_1 room_1 Calls_1 rest_1 Pre_1 Post := by
  intro l hfl _ _ p e ha hc hk s m args below hf hA hF happ hP
  obtain ⟨hcalls, hrest, hpre⟩ := hP
  obtain ⟨-, -, -, hnamed, -, -, -, hat⟩ := (Spec.applies_iff hf).mp happ
  obtain ⟨hg, hn⟩ := and_e (Cond.before_iff.mp (show (Jvm.Cond.and given_1 narrow_1).before args s = true from hpre))
  obtain ⟨g1, g2⟩ := and_e hg
  obtain ⟨w0, rfl⟩ : ∃ w0 : Value, args = #[w0] := by
    have hs : args.size = 1 := by simpa [Cond.value, given_1] using g1
    obtain ⟨L⟩ := args
    match L, hs with
    | [w0], _ => exact ⟨w0, rfl⟩
  have hw := fun d (hd : d ∈ tables_1) => atoms_spec (ws := Jvm.Cond.code x code maxLocals ret :: tables_1) hat d (List.mem_cons_of_mem _ hd)
  obtain ⟨i0, ei0⟩ := is_v g2
  obtain rfl : w0 = (.int i0) := Option.some.inj ei0
  obtain ⟨n, o, h1, h2, h3, _, L, rfl, ⟨hv, N⟩, hq⟩ := own_rm0 l s _ hw tables_1 i0 s.heap s.heap.size (Nat.le_refl _) p e ha hc hk s m _ below hf ((Spec.applies_iff_loose hf).mp happ).1 ⟨rfl, State.Warmed39.refl s, rfl⟩ trivial
  rw [own_plain i0] at hv
  subst hv
  refine ⟨n, _, h1, h2, h3, hpost _ _ _ _ _ _ ⟨Cond.after_iff.mpr rfl, Cond.after_iff.mpr (eq_i res_at (Term.int_eval (1)) rfl), trivial⟩ ⟨hq.1, hq.2.1, (hq.2.2.sift fun y hy => Or.inr (N y hy)).mono (by decide) (by decide)⟩⟩
theorem main_1_1 : Claimed_1_1 := comes_1 fun _ _ _ _ _ _ h hF => ⟨h.1, hF⟩
theorem main_1_2 : Claimed_1_2 := comes_1 fun _ _ _ _ _ _ h hF => ⟨h.2.1, hF⟩
end Jvm.Pilot.@@N@@
namespace Jvm.Pilot.@@N@@
open Jvm Jvm.ClassFile Sem Op Lib Jvm.Free Jvm.Stand Jvm.Pilot.@@N@@.Jvm.D
/-! MADE BY PROGRAM (witnessworld.py) out of the Statement's table words and the real class files: 10 classes; the members and pool entries that the words name. The judged class is class 1, her method 1. -/
namespace start1
open Jvm.ClassFile
def u (s : String) : CpInfo := .utf8 (stringToUtf16 s)
/-- a pool by its gaps: so many unusable entries, then the entry; so many at the end -/
def gap : Nat → List CpInfo → List CpInfo
  | 0, r => r
  | n + 1, r => .unusable :: gap n r
def poolList (es : List (Nat × CpInfo)) (last : Nat) : List CpInfo := es.foldr (fun e r => gap e.1 (e.2 :: r)) (gap last [])
def pool (es : List (Nat × CpInfo)) (last : Nat) : Array CpInfo := ⟨poolList es last⟩
def fileOf (pool : Array CpInfo) (this : Nat) (attrs : Array Attribute := #[]) (ms : Array MethodInfo := #[]) (fl : Nat := 33) (sup : Nat := 0) (ifs : Array Nat := #[]) (fds : Array FieldInfo := #[]) : ClassFile where
  minorVersion := 0
  majorVersion := 65
  constantPool := pool
  accessFlags := fl
  thisClass := this
  superClass := sup
  interfaces := ifs
  fields := fds
  methods := ms
  attributes := attrs
def plain (name : String) (sup : Option ClassId) : Class where
  name := name
  kind := .ordinary
  loader := none
  accessFlags := 33
  super := sup
  interfaces := #[]
  cf := none
  fields := #[]
  methods := #[]
  instanceTypes := #[]
  staticTypes := #[]
  resolved := #[]
  callSites := []
  init := .initialized
  statics := none
  mirror := none

def pool0 : Array CpInfo := pool [(5, u "<init>"), (0, u "()V"), (1, .class_ 10), (1, u "java/lang/Object")] 113

def k0c0 : Code := { maxStack := 0, maxLocals := 1, code := object_method_1_code, exceptionTable := #[], attributes := #[] }
def k0m0 : Method := { name := "<init>", desc := "()V", sig := { parameters := [], returnType := none }, accessFlags := 1, code := some k0c0 }
/-- java/lang/Object -/
def k0 : Class := { plain "java/lang/Object" none with
  accessFlags := 33
  interfaces := #[]
  cf := some (fileOf pool0 8 #[] #[{ accessFlags := 1, nameIndex := 5, descriptorIndex := 6, attributes := #[] }] 33 0 #[] #[])
  fields := #[]
  methods := #[k0m0]
  instanceTypes := #[]
  staticTypes := #[]
  resolved := Array.replicate 124 none
  statics := none }

def pool1 : Array CpInfo := pool [(2, .class_ 4), (1, u "java/lang/Object"), (0, u "<init>"), (0, u "()V"), (0, .class_ 8), (0, u "com/example/tx1/tx1/FailureVerdict$PartCommitted"), (0, .methodref 7 10), (0, .nameAndType 5 11), (0, u "(ZZZZ)V"), (0, .methodref 7 13), (0, .nameAndType 14 15), (0, u "untold"), (0, u "()Z"), (0, .methodref 7 17), (0, .nameAndType 18 19), (0, u "onceTold"), (0, u "()Lcom/example/tx1/tx1/FailureVerdict$PartCommitted;"), (0, .methodref 7 21), (0, .nameAndType 22 19), (0, u "withImplicitCommit"), (0, .class_ 24), (0, u "com/example/tx1/tx1/PartCommittedUntoldPinLaw"), (2, u "law"), (0, u "(I)Z")] 7

def k1m0 : Method := { name := "<init>", desc := "()V", sig := { parameters := [], returnType := none }, accessFlags := 2, code := none }
def k1c1 : Code := { maxStack := 6, maxLocals := 12, code := code, exceptionTable := #[], attributes := #[] }
def k1m1 : Method := { name := "law", desc := "(I)Z", sig := { parameters := [.int], returnType := some .boolean }, accessFlags := 9, code := some k1c1 }
/-- com/example/tx1/tx1/PartCommittedUntoldPinLaw -/
def k1 : Class := { plain "com/example/tx1/tx1/PartCommittedUntoldPinLaw" (some 0) with
  accessFlags := 49
  interfaces := #[]
  cf := some (fileOf pool1 23 #[] #[{ accessFlags := 2, nameIndex := 5, descriptorIndex := 6, attributes := #[] }, { accessFlags := 9, nameIndex := 27, descriptorIndex := 28, attributes := #[] }] 49 2 #[] #[])
  fields := #[]
  methods := #[k1m0, k1m1]
  instanceTypes := #[]
  staticTypes := #[]
  resolved := Array.replicate 36 none
  statics := none }

def pool2 : Array CpInfo := pool [(1, .methodref 2 3), (0, .class_ 4), (0, .nameAndType 5 6), (0, u "java/lang/Object"), (0, u "<init>"), (0, u "()V"), (0, .class_ 8), (0, u "java/lang/Record")] 13

def k2c0 : Code := { maxStack := 1, maxLocals := 1, code := jdk_30_method_1_code, exceptionTable := #[], attributes := #[] }
def k2m0 : Method := { name := "<init>", desc := "()V", sig := { parameters := [], returnType := none }, accessFlags := 4, code := some k2c0 }
/-- java/lang/Record -/
def k2 : Class := { plain "java/lang/Record" (some 0) with
  accessFlags := 1057
  interfaces := #[]
  cf := some (fileOf pool2 7 #[] #[{ accessFlags := 4, nameIndex := 5, descriptorIndex := 6, attributes := #[] }] 1057 2 #[] #[])
  fields := #[]
  methods := #[k2m0]
  instanceTypes := #[]
  staticTypes := #[]
  resolved := Array.replicate 22 none
  statics := none }

def pool3 : Array CpInfo := pool [(1, .class_ 2), (0, u "com/example/tx1/tx1/FailureVerdict"), (0, .methodref 4 5), (0, .class_ 6), (0, .nameAndType 7 8), (0, u "java/lang/Record"), (0, u "<init>"), (0, u "()V"), (0, .fieldref 10 11), (0, .class_ 12), (0, .nameAndType 13 14), (0, u "com/example/tx1/tx1/FailureVerdict$PartCommitted"), (0, u "implicitly"), (0, u "Z"), (0, .fieldref 10 16), (0, .nameAndType 17 14), (0, u "toAsk"), (0, .fieldref 10 19), (0, .nameAndType 20 14), (0, u "unseen"), (0, .fieldref 10 22), (0, .nameAndType 23 14), (0, u "told"), (0, .methodref 10 25), (0, .nameAndType 7 26), (0, u "(ZZZZ)V"), (2, u "()Z"), (29, u "NONE"), (0, u "Lcom/example/tx1/tx1/FailureVerdict$PartCommitted;"), (3, u "withImplicitCommit"), (0, u "()Lcom/example/tx1/tx1/FailureVerdict$PartCommitted;"), (4, u "untold"), (0, u "onceTold")] 43

def k3c0 : Code := { maxStack := 2, maxLocals := 5, code := prog_7_method_1_code, exceptionTable := #[], attributes := #[] }
def k3m0 : Method := { name := "<init>", desc := "(ZZZZ)V", sig := { parameters := [.boolean, .boolean, .boolean, .boolean], returnType := none }, accessFlags := 0, code := some k3c0 }
def k3c1 : Code := { maxStack := 6, maxLocals := 1, code := prog_7_method_2_code, exceptionTable := #[], attributes := #[] }
def k3m1 : Method := { name := "withImplicitCommit", desc := "()Lcom/example/tx1/tx1/FailureVerdict$PartCommitted;", sig := { parameters := [], returnType := some (.object "com/example/tx1/tx1/FailureVerdict$PartCommitted") }, accessFlags := 0, code := some k3c1 }
def k3c2 : Code := { maxStack := 1, maxLocals := 1, code := prog_7_method_5_code, exceptionTable := #[], attributes := #[] }
def k3m2 : Method := { name := "untold", desc := "()Z", sig := { parameters := [], returnType := some .boolean }, accessFlags := 0, code := some k3c2 }
def k3c3 : Code := { maxStack := 6, maxLocals := 1, code := prog_7_method_6_code, exceptionTable := #[], attributes := #[] }
def k3m3 : Method := { name := "onceTold", desc := "()Lcom/example/tx1/tx1/FailureVerdict$PartCommitted;", sig := { parameters := [], returnType := some (.object "com/example/tx1/tx1/FailureVerdict$PartCommitted") }, accessFlags := 0, code := some k3c3 }
/-- com/example/tx1/tx1/FailureVerdict$PartCommitted -/
def k3 : Class := { plain "com/example/tx1/tx1/FailureVerdict$PartCommitted" (some 2) with
  accessFlags := 48
  interfaces := #[]
  cf := some (fileOf pool3 10 #[.nestHost 1] #[{ accessFlags := 0, nameIndex := 7, descriptorIndex := 26, attributes := #[] }, { accessFlags := 0, nameIndex := 64, descriptorIndex := 65, attributes := #[] }, { accessFlags := 0, nameIndex := 70, descriptorIndex := 29, attributes := #[] }, { accessFlags := 0, nameIndex := 71, descriptorIndex := 65, attributes := #[] }] 48 4 #[] #[{ accessFlags := 18, nameIndex := 13, descriptorIndex := 14, attributes := #[] }, { accessFlags := 18, nameIndex := 17, descriptorIndex := 14, attributes := #[] }, { accessFlags := 18, nameIndex := 20, descriptorIndex := 14, attributes := #[] }, { accessFlags := 18, nameIndex := 23, descriptorIndex := 14, attributes := #[] }, { accessFlags := 24, nameIndex := 59, descriptorIndex := 60, attributes := #[] }])
  fields := #[{ name := "implicitly", type := .boolean, accessFlags := 18, slot := 0, constantValue := 0 }, { name := "toAsk", type := .boolean, accessFlags := 18, slot := 1, constantValue := 0 }, { name := "unseen", type := .boolean, accessFlags := 18, slot := 2, constantValue := 0 }, { name := "told", type := .boolean, accessFlags := 18, slot := 3, constantValue := 0 }, { name := "NONE", type := (.object "com/example/tx1/tx1/FailureVerdict$PartCommitted"), accessFlags := 24, slot := 0, constantValue := 0 }]
  methods := #[k3m0, k3m1, k3m2, k3m3]
  instanceTypes := #[.boolean, .boolean, .boolean, .boolean]
  staticTypes := #[(.object "com/example/tx1/tx1/FailureVerdict$PartCommitted")]
  resolved := Array.replicate 115 none
  statics := none }

def pool4 : Array CpInfo := pool [(1, u "java/lang/Cloneable"), (0, .class_ 1), (0, u "java/lang/Object"), (0, .class_ 3)] 3

/-- java/lang/Cloneable -/
def k4 : Class := { plain "java/lang/Cloneable" (some 0) with
  accessFlags := 1537
  interfaces := #[]
  cf := some (fileOf pool4 2 #[] #[] 1537 4 #[] #[])
  fields := #[]
  methods := #[]
  instanceTypes := #[]
  staticTypes := #[]
  resolved := Array.replicate 8 none
  statics := none }

def pool5 : Array CpInfo := pool [(1, u "java/io/Serializable"), (0, .class_ 1), (0, u "java/lang/Object"), (0, .class_ 3)] 3

/-- java/io/Serializable -/
def k5 : Class := { plain "java/io/Serializable" (some 0) with
  accessFlags := 1537
  interfaces := #[]
  cf := some (fileOf pool5 2 #[] #[] 1537 4 #[] #[])
  fields := #[]
  methods := #[]
  instanceTypes := #[]
  staticTypes := #[]
  resolved := Array.replicate 8 none
  statics := none }

/-- the primitive byte -/
def k6 : Class := { plain "byte" none with kind := .primitive 'B', accessFlags := 0x411 }
/-- [B -/
def k7 : Class := { plain "[B" (some 0) with kind := .array 6 .byte, interfaces := #[4, 5], accessFlags := 1041 }

/-- the primitive int -/
def k8 : Class := { plain "int" none with kind := .primitive 'I', accessFlags := 0x411 }
/-- [I -/
def k9 : Class := { plain "[I" (some 0) with kind := .array 8 .int, interfaces := #[4, 5], accessFlags := 1041 }

def heap : Heap := #[]
def classes : Array Class := #[k0, k1, k2, k3, k4, k5, k6, k7, k8, k9]
def interned : List (Array UInt16 × Addr) := []
def slotsUsed : Nat := 0
def theMethod : MethodId := ⟨1, 1⟩
def args0 : Array Value := #[.int 5]
def aboutOver (below : List Frame) : State where
  vm := { classes := classes, interned := interned.toArray }
  heap := heap
  slotsUsed := slotsUsed
  threads := #[{ frames := .invoking theMethod args0 :: below }]
def below0 : List Frame := [.native { method := ⟨0, 0⟩, args := #[] }]
def about1 : State := aboutOver below0
def p0 : Program := .bare "" "" ""
def e0 : Env := launch0.env 0 0 0
theorem w_frames : about1.frames = Frame.invoking theMethod args0 :: below0 := rfl
set_option maxRecDepth 65536 in
theorem w_args : argsFit about1.vm theMethod args0 = true := by decide +kernel
set_option maxRecDepth 65536 in
theorem w_heap : heapFits about1 = true := by decide +kernel
set_option maxRecDepth 65536 in
theorem w_runnable : about1.curStatus? = some .runnable := by decide +kernel
set_option maxRecDepth 65536 in
theorem w_alone : about1.alone = true := by decide +kernel
set_option maxRecDepth 65536 in
theorem w_named : about1.methodNamed? x = some theMethod := by decide +kernel
set_option maxRecDepth 65536 in
theorem w_hears : about1.hears theMethod below0 = true := by decide +kernel
set_option maxRecDepth 65536 in
theorem w_ripe : about1.ripe theMethod args0 below0 = true := by decide +kernel
theorem w_running : about1.status = .running := rfl
set_option maxRecDepth 65536 in
theorem w_room : about1.hasRoom e0.platform room_1 = true :=
  launch0.hasRoom_least _ room_1 (by decide +kernel) (by decide +kernel) (by decide +kernel) (by decide +kernel) (by decide +kernel) (by decide +kernel)
theorem allAtoms_all (ts : List Jvm.Cond) (a : Array Jvm.Value) (st : Jvm.State) : (allAtoms ts).before a st = ts.all (fun c => c.before a st) := by
  induction ts with
  | nil => rfl
  | cons c t ih =>
    show (Jvm.Cond.and c (allAtoms t)).before a st = _
    rw [Jvm.Cond.before_and, ih, List.all_cons]
def words1 : List Jvm.Cond := Jvm.Cond.code x code maxLocals ret :: tables_1
/-- a 'code' word, met by the world's own term for the bytes: nothing is compared byte by byte -/
theorem code_word {y : MethodName} {bytes : ByteArray} {mx : Nat} {rt : Option FieldType} {a : Array Value} {s : State} {m : MethodId} {meth : Method} {c : Code} (h1 : s.methodNamed? y = some m) (h2 : s.vm.method? m = some meth) (h3 : meth.code = some c) (h4 : c.code = bytes)
    (h5 : (c.maxLocals == mx && c.exceptionTable.isEmpty && decide (c.maxStack ≤ mostOperands) && decide (meth.sig.returnType = rt) && !meth.locks && decide (parseMethodDescriptor y.desc = some meth.sig)) = true) : (Jvm.Cond.code y bytes mx rt).before a s = true := by
  simp only [Bool.and_eq_true, beq_iff_eq, Bool.not_eq_true', decide_eq_true_eq] at h5
  obtain ⟨⟨⟨⟨⟨g1, g2⟩, g3⟩, g4⟩, g5⟩, g6⟩ := h5
  simp [Cond.before, Cond.holds, Cond.value, h1, h2, h3, h4, g1, g2, g3, g4, g5, g6]
def isCode : Jvm.Cond → Bool
  | .code _ _ _ _ => true
  | _ => false
theorem all_split {L : List Jvm.Cond} {P : Jvm.Cond → Bool} (h1 : L.all (fun c => isCode c || P c) = true) (h2 : ∀ c ∈ L.filter isCode, P c = true) : L.all P = true := by
  refine List.all_eq_true.mpr fun c hc => ?_
  have h := List.all_eq_true.mp h1 c hc
  rcases Bool.eq_false_or_eq_true (isCode c) with hi | hi
  · exact h2 c (List.mem_filter.mpr ⟨hc, hi⟩)
  · simpa [hi] using h
set_option maxRecDepth 65536 in
theorem w_c0 : (Jvm.Cond.code x code maxLocals ret).before args0 about1 = true := code_word (m := ⟨1, 1⟩) (meth := k1m1) (c := k1c1) (by decide +kernel) rfl rfl rfl (by decide +kernel)
set_option maxRecDepth 65536 in
theorem w_c1 : (Jvm.Cond.code ({ cls := "com/example/tx1/tx1/FailureVerdict$PartCommitted", name := "<init>", desc := "(ZZZZ)V" } : Jvm.MethodName) prog_7_method_1_code (5 : Nat) (Option.none : Option Jvm.ClassFile.FieldType)).before args0 about1 = true := code_word (m := ⟨3, 0⟩) (meth := k3m0) (c := k3c0) (by decide +kernel) rfl rfl rfl (by decide +kernel)
set_option maxRecDepth 65536 in
theorem w_c2 : (Jvm.Cond.code ({ cls := "java/lang/Record", name := "<init>", desc := "()V" } : Jvm.MethodName) jdk_30_method_1_code (1 : Nat) (Option.none : Option Jvm.ClassFile.FieldType)).before args0 about1 = true := code_word (m := ⟨2, 0⟩) (meth := k2m0) (c := k2c0) (by decide +kernel) rfl rfl rfl (by decide +kernel)
set_option maxRecDepth 65536 in
theorem w_c3 : (Jvm.Cond.code ({ cls := "java/lang/Object", name := "<init>", desc := "()V" } : Jvm.MethodName) object_method_1_code (1 : Nat) (Option.none : Option Jvm.ClassFile.FieldType)).before args0 about1 = true := code_word (m := ⟨0, 0⟩) (meth := k0m0) (c := k0c0) (by decide +kernel) rfl rfl rfl (by decide +kernel)
set_option maxRecDepth 65536 in
theorem w_c4 : (Jvm.Cond.code ({ cls := "com/example/tx1/tx1/FailureVerdict$PartCommitted", name := "untold", desc := "()Z" } : Jvm.MethodName) prog_7_method_5_code (1 : Nat) (Option.some Jvm.ClassFile.FieldType.boolean)).before args0 about1 = true := code_word (m := ⟨3, 2⟩) (meth := k3m2) (c := k3c2) (by decide +kernel) rfl rfl rfl (by decide +kernel)
set_option maxRecDepth 65536 in
theorem w_c5 : (Jvm.Cond.code ({ cls := "com/example/tx1/tx1/FailureVerdict$PartCommitted", name := "onceTold", desc := "()Lcom/example/tx1/tx1/FailureVerdict$PartCommitted;" } : Jvm.MethodName) prog_7_method_6_code (1 : Nat) (Option.some (Jvm.ClassFile.FieldType.object "com/example/tx1/tx1/FailureVerdict$PartCommitted"))).before args0 about1 = true := code_word (m := ⟨3, 3⟩) (meth := k3m3) (c := k3c3) (by decide +kernel) rfl rfl rfl (by decide +kernel)
set_option maxRecDepth 65536 in
theorem w_c6 : (Jvm.Cond.code ({ cls := "com/example/tx1/tx1/FailureVerdict$PartCommitted", name := "withImplicitCommit", desc := "()Lcom/example/tx1/tx1/FailureVerdict$PartCommitted;" } : Jvm.MethodName) prog_7_method_2_code (1 : Nat) (Option.some (Jvm.ClassFile.FieldType.object "com/example/tx1/tx1/FailureVerdict$PartCommitted"))).before args0 about1 = true := code_word (m := ⟨3, 1⟩) (meth := k3m1) (c := k3c1) (by decide +kernel) rfl rfl rfl (by decide +kernel)
def codes1 : List Jvm.Cond := [Jvm.Cond.code x code maxLocals ret, Jvm.Cond.code ({ cls := "com/example/tx1/tx1/FailureVerdict$PartCommitted", name := "<init>", desc := "(ZZZZ)V" } : Jvm.MethodName) prog_7_method_1_code (5 : Nat) (Option.none : Option Jvm.ClassFile.FieldType), Jvm.Cond.code ({ cls := "java/lang/Record", name := "<init>", desc := "()V" } : Jvm.MethodName) jdk_30_method_1_code (1 : Nat) (Option.none : Option Jvm.ClassFile.FieldType), Jvm.Cond.code ({ cls := "java/lang/Object", name := "<init>", desc := "()V" } : Jvm.MethodName) object_method_1_code (1 : Nat) (Option.none : Option Jvm.ClassFile.FieldType), Jvm.Cond.code ({ cls := "com/example/tx1/tx1/FailureVerdict$PartCommitted", name := "untold", desc := "()Z" } : Jvm.MethodName) prog_7_method_5_code (1 : Nat) (Option.some Jvm.ClassFile.FieldType.boolean), Jvm.Cond.code ({ cls := "com/example/tx1/tx1/FailureVerdict$PartCommitted", name := "onceTold", desc := "()Lcom/example/tx1/tx1/FailureVerdict$PartCommitted;" } : Jvm.MethodName) prog_7_method_6_code (1 : Nat) (Option.some (Jvm.ClassFile.FieldType.object "com/example/tx1/tx1/FailureVerdict$PartCommitted")), Jvm.Cond.code ({ cls := "com/example/tx1/tx1/FailureVerdict$PartCommitted", name := "withImplicitCommit", desc := "()Lcom/example/tx1/tx1/FailureVerdict$PartCommitted;" } : Jvm.MethodName) prog_7_method_2_code (1 : Nat) (Option.some (Jvm.ClassFile.FieldType.object "com/example/tx1/tx1/FailureVerdict$PartCommitted"))]
set_option maxRecDepth 65536 in
theorem codes_eq : words1.filter isCode = codes1 := rfl
theorem w_codes : ∀ c ∈ words1.filter isCode, c.before args0 about1 = true := by
  rw [codes_eq]
  intro c hc
  simp only [codes1, List.mem_cons, List.not_mem_nil, or_false] at hc
  rcases hc with rfl | rfl | rfl | rfl | rfl | rfl | rfl
  · exact w_c0
  · exact w_c1
  · exact w_c2
  · exact w_c3
  · exact w_c4
  · exact w_c5
  · exact w_c6
set_option maxRecDepth 65536 in
theorem w_t1 : (words1.take 24).all (fun c => isCode c || c.before args0 about1) = true := by decide +kernel
set_option maxRecDepth 65536 in
theorem w_t2 : (words1.drop 24).all (fun c => isCode c || c.before args0 about1) = true := by decide +kernel
theorem w_tables : (allAtoms (Jvm.Cond.code x code maxLocals ret :: tables_1)).before args0 about1 = true := by
  rw [allAtoms_all]
  show words1.all (fun c => c.before args0 about1) = true
  refine all_split ?_ w_codes
  rw [← List.take_append_drop 24 words1, List.all_append, w_t1, w_t2]
  rfl
set_option maxRecDepth 65536 in
theorem w_case : (Jvm.Cond.and given_1 narrow_1).before args0 about1 = true := by decide +kernel
theorem w_applies : (headSpec (Jvm.Cond.code x code maxLocals ret :: tables_1) room_1).applies x e0.platform about1 = true :=
  (Spec.applies_iff w_frames).mpr ⟨w_running, w_runnable, w_alone, w_named, w_hears, w_ripe, w_room, w_tables⟩
theorem atStart : AtStart classFile x code maxLocals ret World_1 tables_1 room_1 Calls_1 rest_1 Pre_1 launch0 p0 e0 about1 theMethod args0 below0 :=
  ⟨lists_1, trivial, launch0.admits_env _ _ _, launch0.least_env, fairChoices_fair.cas, fairChoices_fair.clock, w_frames, w_args, w_heap, w_applies, trivial, trivial, w_case⟩
end start1
theorem witness_1 : WitnessClaimed_1 := ⟨start1.p0, start1.e0, start1.about1, start1.theMethod, start1.args0, start1.below0, start1.atStart⟩
end Jvm.Pilot.@@N@@
