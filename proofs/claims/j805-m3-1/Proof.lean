import JvmDerived
import JvmDerived.Pilot.@@N@@Statement
import JvmDerived.Pilot.@@N@@Code
set_option linter.unusedVariables false
set_option linter.unusedSimpArgs false
namespace Jvm.RoadKit
open Sem ClassFile Op Lib Jvm.Stand Jvm.Free Jvm.LawKit
section New
variable {p : Program} {l : Launch} {e : Env} {R : Room} {s : State} {m : MethodId} {args : Array Value} {below : List Frame} {meth : Method} {c : Code} {T : State} {locs : List Loc} {cells slots : Nat}
theorem retI (X : Stand p l e R s m args below meth c T locs cells slots) (hx : p.tables.exec = Jvm.exec) {pc : Nat} {Ls : Array Slot} {z : Int32} {rest : List Value} (hret : meth.sig.returnType = some .int) (hd : decode c.code pc = .ok (.ireturn, 1)) {fs : List Frame}
    (hl : ∀ (f : JFrame) (acts : List Action), f.method = m → f.locked = none → f.entered = [] → (doReturn e (T.setTop f) acts (some (.int z))).1 = T.setFrames fs) : Steps p.tables e below (T.setTop (mkF m pc Ls (.int z :: rest))) (T.setFrames fs) := by
  have hm' : T.vm.method? m = some meth := X.method'
  have hn : narrow .int (.int z) = .int z := rfl
  show Steps p.tables e below (T.setTop { method := m, pc := pc, locals := Ls, stack := _ :: rest, locked := none }) _
  jvm_step X.here [X.here.top, hx, hd, hm', hret, hn]
  first | (intro acts; rw [hl _ acts rfl rfl rfl]) | rw [hl _ _ rfl rfl rfl]
  exact Steps.refl _
end New
end Jvm.RoadKit
namespace Jvm.Pilot.@@N@@
open Jvm Jvm.ClassFile Sem Op Lib Jvm.Free Jvm.Stand Jvm.LawKit Jvm.RoadKit Bundle Jvm.Pilot.@@N@@.Jvm.D
/-! MY OWN LAYER, 1: a walk in forward style -/
/-- from the state S the run ends, and Q holds of the end -/
def Goes (tb : Tables) (e : Env) (below : List Frame) (Q : Outcome → State → Prop) (S : State) : Prop :=
  ∃ s₂ o, Steps tb e below S s₂ ∧ s₂.status = .running ∧ Ended s₂ below o ∧ Q o s₂
theorem Goes.out {tb : Tables} {e : Env} {below : List Frame} {Q : Outcome → State → Prop} {S : State} (h : Goes tb e below Q S) :
    ∃ s₂ o, Steps tb e below S s₂ ∧ s₂.status = .running ∧ Ended s₂ below o ∧ Q o s₂ := h
theorem Goes.step {tb : Tables} {e : Env} {below : List Frame} {Q : Outcome → State → Prop} {S S' : State}
    (h : ∀ t, Steps tb e below S' t → Steps tb e below S t) (k : Goes tb e below Q S') : Goes tb e below Q S := by
  obtain ⟨s₂, o, h1, h2⟩ := k
  exact ⟨s₂, o, h _ h1, h2⟩
section Ites
variable {tb : Tables} {e : Env} {below : List Frame} {T S : State} {c : Prop} [Decidable c]
theorem own_ite0 {F : JFrame} (hy : c → ∀ t, Steps tb e below (T.setTop F) t → Steps tb e below S t) (hn : ¬ c → ∀ t, Steps tb e below (T.setTop F) t → Steps tb e below S t) :
    ∀ t, Steps tb e below (T.setTop F) t → Steps tb e below S t := fun t k => by
  by_cases h : c
  · exact hy h t k
  · exact hn h t k
theorem own_ite1 {A0 : Type} {a0 b0 : A0} {F : A0 → JFrame} (hy : c → ∀ t, Steps tb e below (T.setTop (F a0)) t → Steps tb e below S t) (hn : ¬ c → ∀ t, Steps tb e below (T.setTop (F b0)) t → Steps tb e below S t) :
    ∀ t, Steps tb e below (T.setTop (F (if c then a0 else b0))) t → Steps tb e below S t := fun t k => by
  by_cases h : c
  · rw [if_pos h] at k; exact hy h t k
  · rw [if_neg h] at k; exact hn h t k
theorem own_ite2 {A0 A1 : Type} {a0 b0 : A0} {a1 b1 : A1} {F : A0 → A1 → JFrame} (hy : c → ∀ t, Steps tb e below (T.setTop (F a0 a1)) t → Steps tb e below S t) (hn : ¬ c → ∀ t, Steps tb e below (T.setTop (F b0 b1)) t → Steps tb e below S t) :
    ∀ t, Steps tb e below (T.setTop (F (if c then a0 else b0) (if c then a1 else b1))) t → Steps tb e below S t := fun t k => by
  by_cases h : c
  · rw [if_pos h, if_pos h] at k; exact hy h t k
  · rw [if_neg h, if_neg h] at k; exact hn h t k
theorem own_ite3 {A0 A1 A2 : Type} {a0 b0 : A0} {a1 b1 : A1} {a2 b2 : A2} {F : A0 → A1 → A2 → JFrame} (hy : c → ∀ t, Steps tb e below (T.setTop (F a0 a1 a2)) t → Steps tb e below S t) (hn : ¬ c → ∀ t, Steps tb e below (T.setTop (F b0 b1 b2)) t → Steps tb e below S t) :
    ∀ t, Steps tb e below (T.setTop (F (if c then a0 else b0) (if c then a1 else b1) (if c then a2 else b2))) t → Steps tb e below S t := fun t k => by
  by_cases h : c
  · rw [if_pos h, if_pos h, if_pos h] at k; exact hy h t k
  · rw [if_neg h, if_neg h, if_neg h] at k; exact hn h t k
end Ites
section Rets
variable {p : Program} {l : Launch} {e : Env} {R : Room} {s : State} {m : MethodId} {args : Array Value} {below : List Frame} {meth : Method} {c : Code} {T : State} {locs : List Loc} {cells slots : Nat}
variable {QQ : Option Value → Heap → List Loc → Prop} {C0 S0 : Nat} {pc : Nat} {Ls : Array Slot} {rest : List Value}
theorem Goes.retN (X : Stand p l e R s m args below meth c T locs cells slots) (hx : p.tables.exec = Jvm.exec) (hlk : meth.locks = false) {t : FieldType} {z : Int32} (hret : meth.sig.returnType = some t) (ht : t = .boolean ∨ t = .byte ∨ t = .char ∨ t = .short)
    (hd : decode c.code pc = .ok (.ireturn, 1)) (hC : cells ≤ C0) (hS : slots ≤ S0) (hQ : QQ (some (.int (nar t z))) T.heap locs) :
    Goes p.tables e below (fun o U' => ∃ v L, o = .returned v ∧ QQ v U'.heap L ∧ FrameEnd s o U' L C0 S0) (T.setTop (mkF m pc Ls (.int z :: rest))) := by
  obtain ⟨fs, hr, hrun, hended, hW, hsame⟩ := X.leave (v := some (.int (nar t z))) (fun h => by rw [hret] at h; cases h) hlk
  exact ⟨_, _, Jvm.RoadKit.retN X hx hret ht hd hr, hrun, hended, _, _, rfl, hQ, ⟨_, rfl⟩, hW, hsame.mono hC hS⟩
theorem Goes.retI (X : Stand p l e R s m args below meth c T locs cells slots) (hx : p.tables.exec = Jvm.exec) (hlk : meth.locks = false) {z : Int32} (hret : meth.sig.returnType = some .int)
    (hd : decode c.code pc = .ok (.ireturn, 1)) (hC : cells ≤ C0) (hS : slots ≤ S0) (hQ : QQ (some (.int z)) T.heap locs) :
    Goes p.tables e below (fun o U' => ∃ v L, o = .returned v ∧ QQ v U'.heap L ∧ FrameEnd s o U' L C0 S0) (T.setTop (mkF m pc Ls (.int z :: rest))) := by
  obtain ⟨fs, hr, hrun, hended, hW, hsame⟩ := X.leave (v := some (.int z)) (fun h => by rw [hret] at h; cases h) hlk
  exact ⟨_, _, Jvm.RoadKit.retI X hx hret hd hr, hrun, hended, _, _, rfl, hQ, ⟨_, rfl⟩, hW, hsame.mono hC hS⟩
theorem Goes.retJ (X : Stand p l e R s m args below meth c T locs cells slots) (hx : p.tables.exec = Jvm.exec) (hlk : meth.locks = false) {z : Int64} (hret : meth.sig.returnType = some .long)
    (hd : decode c.code pc = .ok (.lreturn, 1)) (hC : cells ≤ C0) (hS : slots ≤ S0) (hQ : QQ (some (.long z)) T.heap locs) :
    Goes p.tables e below (fun o U' => ∃ v L, o = .returned v ∧ QQ v U'.heap L ∧ FrameEnd s o U' L C0 S0) (T.setTop (mkF m pc Ls (.long z :: rest))) := by
  obtain ⟨fs, hr, hrun, hended, hW, hsame⟩ := X.leave (v := some (.long z)) (fun h => by rw [hret] at h; cases h) hlk
  refine ⟨_, _, ?_, hrun, hended, _, _, rfl, hQ, ⟨_, rfl⟩, hW, hsame.mono hC hS⟩
  jvm_step X.here [X.here.top, hx, hd, X.method', hret, narrow]
  first | (intro acts; rw [hr _ acts rfl rfl rfl]) | rw [hr _ _ rfl rfl rfl]
  exact Steps.refl _
theorem Goes.retA (X : Stand p l e R s m args below meth c T locs cells slots) (hx : p.tables.exec = Jvm.exec) (hlk : meth.locks = false) {a : Addr} {t : FieldType} (hret : meth.sig.returnType = some t) (ht : t.isReference = true)
    (hd : decode c.code pc = .ok (.areturn, 1)) (hC : cells ≤ C0) (hS : slots ≤ S0) (hQ : QQ (some (.ref a)) T.heap locs) :
    Goes p.tables e below (fun o U' => ∃ v L, o = .returned v ∧ QQ v U'.heap L ∧ FrameEnd s o U' L C0 S0) (T.setTop (mkF m pc Ls (.ref a :: rest))) := by
  obtain ⟨fs, hr, hrun, hended, hW, hsame⟩ := X.leave (v := some (.ref a)) (fun h => by rw [hret] at h; cases h) hlk
  refine ⟨_, _, ?_, hrun, hended, _, _, rfl, hQ, ⟨_, rfl⟩, hW, hsame.mono hC hS⟩
  jvm_step X.here [X.here.top, hx, hd, X.method', hret, Value.isRef, ht]
  first | (intro acts; rw [hr _ acts rfl rfl rfl]) | rw [hr _ _ rfl rfl rfl]
  exact Steps.refl _
theorem Goes.retV (X : Stand p l e R s m args below meth c T locs cells slots) (hx : p.tables.exec = Jvm.exec) (hlk : meth.locks = false) (hret : meth.sig.returnType = none)
    (hd : decode c.code pc = .ok (.return_, 1)) (hC : cells ≤ C0) (hS : slots ≤ S0) (hQ : QQ none T.heap locs) :
    Goes p.tables e below (fun o U' => ∃ v L, o = .returned v ∧ QQ v U'.heap L ∧ FrameEnd s o U' L C0 S0) (T.setTop (mkF m pc Ls [])) := by
  obtain ⟨fs, hr, hrun, hended, hW, hsame⟩ := X.leave (v := none) (fun _ => rfl) hlk
  exact ⟨_, _, X.returnOut hx hret hd hr, hrun, hended, _, _, rfl, hQ, ⟨_, rfl⟩, hW, hsame.mono hC hS⟩
theorem own_lrem {g : JFrame} {target : State} (X : Stand p l e R s m args below meth c T locs cells slots) (hx : p.tables.exec = Jvm.exec) (hg : g.method = m) {x y : Int64} {rest : List Value} (hd : decode c.code g.pc = .ok (.lrem, 1)) (hs : g.stack = .long y :: .long x :: rest) (hy : y ≠ 0)
    (hr : Steps p.tables e below (T.setTop { g with pc := g.pc + 1, stack := .long (x % y) :: rest }) target) : Steps p.tables e below (T.setTop g) target :=
  XS.lrem X.here hx hg hd hs hy (by rw [lrem_mod]; exact hr)
end Rets
/-! MY OWN LAYER, 2: an array of ints (bytes, chars ..) by the list of its values, whole -/
def AI (Z : State) (h : Heap) (a : Addr) (k : ClassId) (ty : FieldType) (n : Int32) (vs : List Int32) : Prop :=
  Arv Z h a k ty n (vs.map Value.int) (.int 0) ∧ vs.length = n.toNatClampNeg
section Arrays
variable {p : Program} {l : Launch} {e : Env} {R : Room} {s : State} {m : MethodId} {args : Array Value} {below : List Frame} {meth : Method} {c : Code} {T : State} {locs : List Loc} {cells slots : Nat}
variable {Z : State} {h h' : Heap} {a b : Addr} {k : ClassId} {ty : FieldType} {n : Int32} {vs : List Int32} {sl : Nat} {v : Value} {ws : List Addr}
theorem AI.lt (F : AI Z h a k ty n vs) : a < h.size := F.1.lt
theorem AI.nn (F : AI Z h a k ty n vs) : ¬ n < 0 := by obtain ⟨⟨c, -, -, -, q, -⟩, -⟩ := F; exact q
theorem AI.ext (F : AI Z h a k ty n vs) (E : Ext h h') : AI Z h' a k ty n vs := ⟨F.1.ext E, F.2⟩
theorem AI.other (F : AI Z h b k ty n vs) (W : Wr h h' a sl v) (q : b ≠ a) : AI Z h' b k ty n vs := ⟨F.1.other W q, F.2⟩
theorem AI.keep (F : AI Z h a k ty n vs) (K : Keep h h' ws) (q : a ∉ ws) : AI Z h' a k ty n vs := ⟨F.1.keep K q, F.2⟩
theorem own_getD (vs : List Int32) (i : Nat) : (vs.map Value.int).getD i (.int 0) = .int (vs.getD i 0) := by
  simp only [List.getD_eq_getElem?_getD, List.getElem?_map]
  cases vs[i]? <;> rfl
theorem own_new {q : Int32} (A : Arr Z h a (newA k ty q) ty) (hq : ¬ q < 0) (hd : defaultValue ty = .int 0) {vs : List Int32} (hv : vs = List.replicate q.toNatClampNeg 0 := by rfl) : AI Z h a k ty q vs := by
  subst hv
  have V := Arv.new A hq
  rw [hd] at V
  refine ⟨?_, by simp⟩
  have q1 := V.pad (pad_rep [] (.int 0) q.toNatClampNeg)
  rw [List.nil_append] at q1
  rw [List.map_replicate]; exact q1
theorem own_inb {cl : Cell} {j : Int32} (S : cl.slots.size = n.toNatClampNeg) (q : ¬ j < 0 ∧ j < n) : ¬ (j < 0 ∨ cl.slots.size ≤ j.toNatClampNeg) := inb_of S q
theorem own_jlt {j : Int32} (q : ¬ j < 0 ∧ j < n) : j.toNatClampNeg < n.toNatClampNeg := by
  obtain ⟨q1, q2⟩ := q
  rw [Int32.lt_iff_toInt_lt] at q1 q2
  have e0 : (0 : Int32).toInt = 0 := rfl
  simp only [Int32.toNatClampNeg] at *; omega
theorem own_iaload {pc : Nat} {Ls : Array Slot} {rest : List Value} {j : Int32} (X : Stand p l e R s m args below meth c T locs cells slots) (hx : p.tables.exec = Jvm.exec) (hZ : Z.Warmed39 s.vm) (eT : T.heap = h) (F : AI Z h a k .int n vs) (hj : ¬ j < 0 ∧ j < n)
    (hd : decode c.code pc = .ok (.iaload, 1)) (t : State) (kk : Steps p.tables e below (T.setTop (mkF m (pc + 1) Ls (.int (vs.getD j.toNatClampNeg 0) :: rest))) t) : Steps p.tables e below (T.setTop (mkF m pc Ls (.int j :: .ref a :: rest))) t := by
  obtain ⟨⟨cl, A, -, S, -, H, -⟩, hl⟩ := F
  have hin := own_inb S hj
  exact X.iaload hx (j := j) (v := .int (vs.getD j.toNatClampNeg 0)) (by rw [eT]; exact A.1) (State.isArrayOf_alike hZ.alike A.2.1) A.2.2 hin (H.at hin (own_getD _ _)) (g := mkF m pc Ls (.int j :: .ref a :: rest)) rfl rfl hd _ kk
theorem own_baload {pc : Nat} {Ls : Array Slot} {rest : List Value} {j : Int32} (X : Stand p l e R s m args below meth c T locs cells slots) (hx : p.tables.exec = Jvm.exec) (hZ : Z.Warmed39 s.vm) (eT : T.heap = h) (F : AI Z h a k .byte n vs) (hj : ¬ j < 0 ∧ j < n)
    (hd : decode c.code pc = .ok (.baload, 1)) (t : State) (kk : Steps p.tables e below (T.setTop (mkF m (pc + 1) Ls (.int (vs.getD j.toNatClampNeg 0) :: rest))) t) : Steps p.tables e below (T.setTop (mkF m pc Ls (.int j :: .ref a :: rest))) t := by
  obtain ⟨⟨cl, A, -, S, -, H, -⟩, hl⟩ := F
  have hin := own_inb S hj
  exact X.baloadBytes hx (j := j) (v := .int (vs.getD j.toNatClampNeg 0)) (by rw [eT]; exact A.1) (State.isArrayOf_alike hZ.alike A.2.1) A.2.2 hin (H.at hin (own_getD _ _)) (g := mkF m pc Ls (.int j :: .ref a :: rest)) rfl rfl hd _ kk
theorem own_len {pc : Nat} {Ls : Array Slot} {rest : List Value} (X : Stand p l e R s m args below meth c T locs cells slots) (hx : p.tables.exec = Jvm.exec) (hZ : Z.Warmed39 s.vm) (eT : T.heap = h) (F : AI Z h a k ty n vs)
    (hd : decode c.code pc = .ok (.arraylength, 1)) (t : State) (kk : Steps p.tables e below (T.setTop (mkF m (pc + 1) Ls (.int n :: rest))) t) : Steps p.tables e below (T.setTop (mkF m pc Ls (.ref a :: rest))) t := by
  obtain ⟨⟨cl, A, -, S, N, H, -⟩, hl⟩ := F
  refine X.arraylength hx (by rw [eT]; exact A.1) (State.isArrayOf_alike hZ.alike A.2.1) (g := mkF m pc Ls (.ref a :: rest)) rfl rfl hd _ ?_
  rw [len_of S N]; exact kk
theorem own_iastore {j x : Int32} (X : Stand p l e R s m args below meth c T locs cells slots) (hx : p.tables.exec = Jvm.exec) (hZ : Z.Warmed39 s.vm) (eT : T.heap = h) (F : AI Z h a k .int n vs) (hj : ¬ j < 0 ∧ j < n) {g : JFrame} (hg : g.method = m) {rest : List Value} (hs : g.stack = .int x :: .int j :: .ref a :: rest) (hd : decode c.code g.pc = .ok (.iastore, 1)) :
    ∃ T' h', Stand p l e R s m args below meth c T' (locs ++ [⟨a, j.toNatClampNeg⟩]) cells slots ∧ T'.heap = h' ∧ Wr h h' a j.toNatClampNeg (.int x) ∧ AI Z h' a k .int n (vs.set j.toNatClampNeg x) ∧ ∀ target, Steps p.tables e below (T'.setTop { g with pc := g.pc + 1, stack := rest }) target → Steps p.tables e below (T.setTop g) target := by
  obtain ⟨⟨cl, A, q1, S, N, H, G⟩, hl⟩ := F
  obtain ⟨T', h', X', e', W, st⟩ := stI X hx hZ eT A (own_inb S hj) hg hs hd
  refine ⟨T', h', X', e', W, ⟨?_, by simpa using hl⟩, st⟩
  rw [List.map_set]
  exact Arv.set A q1 S N H G rfl W _ rfl (by rw [List.length_map, hl]; exact own_jlt hj)
theorem own_bastore {j x : Int32} (X : Stand p l e R s m args below meth c T locs cells slots) (hx : p.tables.exec = Jvm.exec) (hZ : Z.Warmed39 s.vm) (eT : T.heap = h) (F : AI Z h a k .byte n vs) (hj : ¬ j < 0 ∧ j < n) {g : JFrame} (hg : g.method = m) {rest : List Value} (hs : g.stack = .int x :: .int j :: .ref a :: rest) (hd : decode c.code g.pc = .ok (.bastore, 1)) :
    ∃ T' h', Stand p l e R s m args below meth c T' (locs ++ [⟨a, j.toNatClampNeg⟩]) cells slots ∧ T'.heap = h' ∧ Wr h h' a j.toNatClampNeg (.int (nar .byte x)) ∧ AI Z h' a k .byte n (vs.set j.toNatClampNeg (nar .byte x)) ∧ ∀ target, Steps p.tables e below (T'.setTop { g with pc := g.pc + 1, stack := rest }) target → Steps p.tables e below (T.setTop g) target := by
  obtain ⟨⟨cl, A, q1, S, N, H, G⟩, hl⟩ := F
  obtain ⟨T', h', X', e', W, st⟩ := stB X hx hZ eT A (own_inb S hj) hg hs hd
  refine ⟨T', h', X', e', W, ⟨?_, by simpa using hl⟩, st⟩
  rw [List.map_set]
  exact Arv.set A q1 S N H G (fits_nar_byte _) W _ rfl (by rw [List.length_map, hl]; exact own_jlt hj)
end Arrays
/-! MY OWN LAYER, 3: numbers -/
theorem own_b255 (x : Int32) : (nar .byte (x.toInt8.toInt32)) &&& 255 = x &&& 255 := by
  have a := c_i2b x
  have b := c_i2b x.toInt8.toInt32
  have m1 : ((x.toInt8.toInt32.toInt8.toInt32) &&& 255).toInt = (x.toInt8.toInt32.toInt8.toInt32).toInt % 256 := c_mask _ 255 8 (by decide) (by decide)
  have m2 : (x &&& 255).toInt = x.toInt % 256 := c_mask _ 255 8 (by decide) (by decide)
  apply Int32.toInt_inj.mp
  show ((x.toInt8.toInt32.toInt8.toInt32) &&& 255).toInt = _
  omega
theorem own_m255 (x : Int32) : (x &&& 255).toInt = x.toInt % 256 := c_mask _ 255 8 (by decide) (by decide)
theorem own_or8 (a b : Int32) (h1 : 0 ≤ a.toInt) (h2 : a.toInt < 256) (h3 : 0 ≤ b.toInt) (h4 : b.toInt < 256) : ((a <<< ((8 : Int32) &&& 31)) ||| b).toInt = a.toInt * 256 + b.toInt := by
  have s : ((a <<< ((8 : Int32) &&& 31)).toInt - a.toInt * 256) % 4294967296 = 0 := c_ishl a 8 8 (by decide)
  have r := rng32 (a <<< ((8 : Int32) &&& 31))
  have e : (a <<< ((8 : Int32) &&& 31)).toInt = a.toInt * 256 := by omega
  have o := c_or (a <<< ((8 : Int32) &&& 31)) b 8 (by decide) 256 (by decide) (by omega) h3 h4
  have r2 := rng32 ((a <<< ((8 : Int32) &&& 31)) ||| b)
  omega
theorem own_nar0 : nar .boolean 0 = 0 := by decide
theorem own_nar1 : nar .boolean 1 = 1 := by decide
theorem own_u4 (p0 : Int32) : (((((nar .byte (((p0.toUInt32 >>> ((24 : Int32) &&& 31).toUInt32).toInt32).toInt8.toInt32)) &&& 255) <<< ((8 : Int32) &&& 31)) ||| ((nar .byte (((p0.toUInt32 >>> ((16 : Int32) &&& 31).toUInt32).toInt32).toInt8.toInt32)) &&& 255)) <<< ((16 : Int32) &&& 31))
    ||| ((((nar .byte (((p0.toUInt32 >>> ((8 : Int32) &&& 31).toUInt32).toInt32).toInt8.toInt32)) &&& 255) <<< ((8 : Int32) &&& 31)) ||| ((nar .byte (p0.toInt8.toInt32)) &&& 255)) = p0 := by
  rw [own_b255, own_b255, own_b255, own_b255]
  have s3 : ((p0.toUInt32 >>> ((24 : Int32) &&& 31).toUInt32).toInt32).toInt = (p0.toInt % 4294967296) / 16777216 := c_iushr p0 24 24 (by decide) (by decide)
  have s2 : ((p0.toUInt32 >>> ((16 : Int32) &&& 31).toUInt32).toInt32).toInt = (p0.toInt % 4294967296) / 65536 := c_iushr p0 16 16 (by decide) (by decide)
  have s1 : ((p0.toUInt32 >>> ((8 : Int32) &&& 31).toUInt32).toInt32).toInt = (p0.toInt % 4294967296) / 256 := c_iushr p0 8 8 (by decide) (by decide)
  have m3 := own_m255 ((p0.toUInt32 >>> ((24 : Int32) &&& 31).toUInt32).toInt32)
  have m2 := own_m255 ((p0.toUInt32 >>> ((16 : Int32) &&& 31).toUInt32).toInt32)
  have m1 := own_m255 ((p0.toUInt32 >>> ((8 : Int32) &&& 31).toUInt32).toInt32)
  have m0 := own_m255 p0
  generalize ((p0.toUInt32 >>> ((24 : Int32) &&& 31).toUInt32).toInt32) &&& 255 = b3 at *
  generalize ((p0.toUInt32 >>> ((16 : Int32) &&& 31).toUInt32).toInt32) &&& 255 = b2 at *
  generalize ((p0.toUInt32 >>> ((8 : Int32) &&& 31).toUInt32).toInt32) &&& 255 = b1 at *
  generalize p0 &&& 255 = b0 at *
  have h := own_or8 b3 b2 (by omega) (by omega) (by omega) (by omega)
  have l := own_or8 b1 b0 (by omega) (by omega) (by omega) (by omega)
  generalize b3 <<< ((8 : Int32) &&& 31) ||| b2 = hi at *
  generalize b1 <<< ((8 : Int32) &&& 31) ||| b0 = lo at *
  have s : ((hi <<< ((16 : Int32) &&& 31)).toInt - hi.toInt * 65536) % 4294967296 = 0 := c_ishl hi 16 16 (by decide)
  have o := c_or (hi <<< ((16 : Int32) &&& 31)) lo 16 (by decide) 65536 (by decide) (by omega) (by omega) (by omega)
  have r := rng32 ((hi <<< ((16 : Int32) &&& 31)) ||| lo)
  have r0 := rng32 p0
  apply Int32.toInt_inj.mp
  omega
theorem d2_0 : decode prog_15_method_7_code 0 = .ok (.aload_n 0, 1) := by decide +kernel
theorem d2_1 : decode prog_15_method_7_code 1 = .ok (.iload_n 1, 1) := by decide +kernel
theorem d2_2 : decode prog_15_method_7_code 2 = .ok (.baload, 1) := by decide +kernel
theorem d2_3 : decode prog_15_method_7_code 3 = .ok (.sipush 255, 3) := by decide +kernel
theorem d2_6 : decode prog_15_method_7_code 6 = .ok (.iand, 1) := by decide +kernel
theorem d2_7 : decode prog_15_method_7_code 7 = .ok (.bipush 8, 2) := by decide +kernel
theorem d2_9 : decode prog_15_method_7_code 9 = .ok (.ishl, 1) := by decide +kernel
theorem d2_10 : decode prog_15_method_7_code 10 = .ok (.aload_n 0, 1) := by decide +kernel
theorem d2_11 : decode prog_15_method_7_code 11 = .ok (.iload_n 1, 1) := by decide +kernel
theorem d2_12 : decode prog_15_method_7_code 12 = .ok (.iconst 1, 1) := by decide +kernel
theorem d2_13 : decode prog_15_method_7_code 13 = .ok (.iadd, 1) := by decide +kernel
theorem d2_14 : decode prog_15_method_7_code 14 = .ok (.baload, 1) := by decide +kernel
theorem d2_15 : decode prog_15_method_7_code 15 = .ok (.sipush 255, 3) := by decide +kernel
theorem d2_18 : decode prog_15_method_7_code 18 = .ok (.iand, 1) := by decide +kernel
theorem d2_19 : decode prog_15_method_7_code 19 = .ok (.ior, 1) := by decide +kernel
theorem d2_20 : decode prog_15_method_7_code 20 = .ok (.ireturn, 1) := by decide +kernel
theorem pn0 : plainName "com/example/marginalia/marginalia/classfile/ClassBytes" = true := by first | (simp [plainName, overriddenIn]; done) | decide +kernel
theorem ef2 (m : MethodId) (u0 : Addr) (p1 : Int32) : entryFrame m #[(.ref u0), (.int p1)] 2 = mkF m 0 #[.val (.ref u0), .val (.int p1)] [] := by first | (simp [entryFrame, mkF, argsToLocals, Value.category]; done) | rfl
def f2 (n_u0 : Int32) (vs_u0 : List Int32) (p1 : Int32) : Int32 := ((((vs_u0.getD (p1).toNatClampNeg 0) &&& (255 : Int32)) <<< ((8 : Int32) &&& 31)) ||| ((vs_u0.getD ((p1 + (1 : Int32))).toNatClampNeg 0) &&& (255 : Int32)))
theorem own_ix2_2 (n_u0 : Int32) (vs_u0 : List Int32) (hl_u0 : vs_u0.length = n_u0.toNatClampNeg) (hn_u0 : ¬ n_u0 < 0) (p1 : Int32) (hB : ¬ p1 < 0 ∧ p1 < n_u0) (hb2 : ¬ (p1 + (1 : Int32)) < 0 ∧ (p1 + (1 : Int32)) < n_u0) : ¬ p1 < 0 ∧ p1 < n_u0 := by
  exact hB
theorem own_ix2_14 (n_u0 : Int32) (vs_u0 : List Int32) (hl_u0 : vs_u0.length = n_u0.toNatClampNeg) (hn_u0 : ¬ n_u0 < 0) (p1 : Int32) (hB : ¬ p1 < 0 ∧ p1 < n_u0) (hb2 : ¬ (p1 + (1 : Int32)) < 0 ∧ (p1 + (1 : Int32)) < n_u0) : ¬ (p1 + (1 : Int32)) < 0 ∧ (p1 + (1 : Int32)) < n_u0 := by
  exact hb2
def Q2 (Z : State) (u0 : Addr) (p1 : Int32) (k_u0 : ClassId) (n_u0 : Int32) (vs_u0 : List Int32) (h0 : Heap) (n0 : Nat) (v : Option Value) (h : Heap) (L : List Loc) : Prop := v = some (.int (f2 n_u0 vs_u0 p1)) ∧ Fr n0 L ∧ h = h0
set_option maxRecDepth 65536 in
set_option maxHeartbeats 40000000 in
theorem rm2 (l : Launch) (Z : State) (a0 : Array Value) (hw : ∀ d ∈ tables_1, d.before a0 Z = true) (ws : List Jvm.Cond) (u0 : Addr) (p1 : Int32) (k_u0 : ClassId) (n_u0 : Int32) (vs_u0 : List Int32) (h0 : Heap) (n0 : Nat) (Z0 : n0 ≤ h0.size) (V_u0 : AI Z h0 u0 k_u0 .byte n_u0 vs_u0) (hB : ¬ p1 < 0 ∧ p1 < n_u0) (hb2 : ¬ (p1 + (1 : Int32)) < 0 ∧ (p1 + (1 : Int32)) < n_u0) :
    MetFree l (⟨"com/example/marginalia/marginalia/classfile/ClassBytes", "u2", "([BI)I"⟩ : MethodName) (head1 (Jvm.Cond.code (⟨"com/example/marginalia/marginalia/classfile/ClassBytes", "u2", "([BI)I"⟩ : MethodName) prog_15_method_7_code 2 (some .int) :: ws) ({ frames := 0, cells := 0, slots := 0, locals := 0 } : Room)) (fun a U => a = #[(.ref u0), (.int p1)] ∧ Z.Warmed39 U.vm ∧ U.heap = h0) (fun _ _ _ _ _ => True) (fun _ U o U' => ∃ v L, o = .returned v ∧ Q2 Z u0 p1 k_u0 n_u0 vs_u0 h0 n0 v U'.heap L ∧ FrameEnd U o U' L ({ frames := 0, cells := 0, slots := 0, locals := 0 } : Room).cells ({ frames := 0, cells := 0, slots := 0, locals := 0 } : Room).slots) := by
  refine MetFree.of_bodySF (plainFor_of_name pn0) hisR ?_
  intro p e s m args below meth c s₁ Bd hml0 hP hK
  obtain ⟨rfl, hZ, hh⟩ := hP
  have hx := Bd.exec
  have hby := Bd.bytes
  have hml : c.maxLocals = 2 := hml0
  have hown : s.vm.findClass "com/example/marginalia/marginalia/classfile/ClassBytes" = some m.cls := findClass_of_methodNamed Bd.named
  have hnm := (name_of_methodNamed Bd.named Bd.method).1
  have X0 : Stand p l e ({ frames := 0, cells := 0, slots := 0, locals := 0 } : Room) s m #[(.ref u0), (.int p1)] below meth c s₁ [] 0 0 := Stand.of_body Bd
  have e0 : s₁.heap = h0 := by rw [← hh, Bd.state]; rfl
  have N0 := Fr.nil n0
  have hl_u0 : vs_u0.length = n_u0.toNatClampNeg := V_u0.2
  have hn_u0 : ¬ n_u0 < 0 := V_u0.nn
  refine Goes.out (Q := fun o U' => ∃ v L, o = .returned v ∧ Q2 Z u0 p1 k_u0 n_u0 vs_u0 h0 n0 v U'.heap L ∧ FrameEnd s o U' L ({ frames := 0, cells := 0, slots := 0, locals := 0 } : Room).cells ({ frames := 0, cells := 0, slots := 0, locals := 0 } : Room).slots) ?_
  refine Goes.step (S' := s₁.setTop (mkF m 0 #[.val (.ref u0), .val (.int p1)] [])) (fun _ k => castTop (ef2 m u0 p1) k) ?_
  refine Goes.step (S' := s₁.setTop (mkF m 1 #[.val (.ref u0), .val (.int p1)] [(.ref u0)])) (fun _ k => XS.aloadN X0.here hx rfl (hb hby d2_0) rfl rfl k) ?_
  refine Goes.step (S' := s₁.setTop (mkF m 2 #[.val (.ref u0), .val (.int p1)] [(.int p1), (.ref u0)])) (fun _ k => XS.iloadN X0.here hx rfl (hb hby d2_1) rfl  k) ?_
  refine Goes.step (S' := s₁.setTop (mkF m 3 #[.val (.ref u0), .val (.int p1)] [(.int (vs_u0.getD (p1).toNatClampNeg 0))])) (fun _ k => own_baload X0 hx hZ e0 V_u0 (own_ix2_2 n_u0 vs_u0 hl_u0 hn_u0 p1 hB hb2) (hb hby d2_2) _ k) ?_
  refine Goes.step (S' := s₁.setTop (mkF m 6 #[.val (.ref u0), .val (.int p1)] [(.int (255 : Int32)), (.int (vs_u0.getD (p1).toNatClampNeg 0))])) (fun _ k => XS.sipush X0.here hx rfl (hb hby d2_3) k) ?_
  refine Goes.step (S' := s₁.setTop (mkF m 7 #[.val (.ref u0), .val (.int p1)] [(.int ((vs_u0.getD (p1).toNatClampNeg 0) &&& (255 : Int32)))])) (fun _ k => XS.iand X0.here hx rfl (hb hby d2_6) rfl k) ?_
  refine Goes.step (S' := s₁.setTop (mkF m 9 #[.val (.ref u0), .val (.int p1)] [(.int (8 : Int32)), (.int ((vs_u0.getD (p1).toNatClampNeg 0) &&& (255 : Int32)))])) (fun _ k => XS.bipush X0.here hx rfl (hb hby d2_7) k) ?_
  refine Goes.step (S' := s₁.setTop (mkF m 10 #[.val (.ref u0), .val (.int p1)] [(.int (((vs_u0.getD (p1).toNatClampNeg 0) &&& (255 : Int32)) <<< ((8 : Int32) &&& 31)))])) (fun _ k => XS.ishl X0.here hx rfl (hb hby d2_9) rfl k) ?_
  refine Goes.step (S' := s₁.setTop (mkF m 11 #[.val (.ref u0), .val (.int p1)] [(.ref u0), (.int (((vs_u0.getD (p1).toNatClampNeg 0) &&& (255 : Int32)) <<< ((8 : Int32) &&& 31)))])) (fun _ k => XS.aloadN X0.here hx rfl (hb hby d2_10) rfl rfl k) ?_
  refine Goes.step (S' := s₁.setTop (mkF m 12 #[.val (.ref u0), .val (.int p1)] [(.int p1), (.ref u0), (.int (((vs_u0.getD (p1).toNatClampNeg 0) &&& (255 : Int32)) <<< ((8 : Int32) &&& 31)))])) (fun _ k => XS.iloadN X0.here hx rfl (hb hby d2_11) rfl  k) ?_
  refine Goes.step (S' := s₁.setTop (mkF m 13 #[.val (.ref u0), .val (.int p1)] [(.int (1 : Int32)), (.int p1), (.ref u0), (.int (((vs_u0.getD (p1).toNatClampNeg 0) &&& (255 : Int32)) <<< ((8 : Int32) &&& 31)))])) (fun _ k => XS.iconst X0.here hx rfl (hb hby d2_12) k) ?_
  refine Goes.step (S' := s₁.setTop (mkF m 14 #[.val (.ref u0), .val (.int p1)] [(.int (p1 + (1 : Int32))), (.ref u0), (.int (((vs_u0.getD (p1).toNatClampNeg 0) &&& (255 : Int32)) <<< ((8 : Int32) &&& 31)))])) (fun _ k => XS.iadd X0.here hx rfl (hb hby d2_13) rfl k) ?_
  refine Goes.step (S' := s₁.setTop (mkF m 15 #[.val (.ref u0), .val (.int p1)] [(.int (vs_u0.getD ((p1 + (1 : Int32))).toNatClampNeg 0)), (.int (((vs_u0.getD (p1).toNatClampNeg 0) &&& (255 : Int32)) <<< ((8 : Int32) &&& 31)))])) (fun _ k => own_baload X0 hx hZ e0 V_u0 (own_ix2_14 n_u0 vs_u0 hl_u0 hn_u0 p1 hB hb2) (hb hby d2_14) _ k) ?_
  refine Goes.step (S' := s₁.setTop (mkF m 18 #[.val (.ref u0), .val (.int p1)] [(.int (255 : Int32)), (.int (vs_u0.getD ((p1 + (1 : Int32))).toNatClampNeg 0)), (.int (((vs_u0.getD (p1).toNatClampNeg 0) &&& (255 : Int32)) <<< ((8 : Int32) &&& 31)))])) (fun _ k => XS.sipush X0.here hx rfl (hb hby d2_15) k) ?_
  refine Goes.step (S' := s₁.setTop (mkF m 19 #[.val (.ref u0), .val (.int p1)] [(.int ((vs_u0.getD ((p1 + (1 : Int32))).toNatClampNeg 0) &&& (255 : Int32))), (.int (((vs_u0.getD (p1).toNatClampNeg 0) &&& (255 : Int32)) <<< ((8 : Int32) &&& 31)))])) (fun _ k => XS.iand X0.here hx rfl (hb hby d2_18) rfl k) ?_
  refine Goes.step (S' := s₁.setTop (mkF m 20 #[.val (.ref u0), .val (.int p1)] [(.int ((((vs_u0.getD (p1).toNatClampNeg 0) &&& (255 : Int32)) <<< ((8 : Int32) &&& 31)) ||| ((vs_u0.getD ((p1 + (1 : Int32))).toNatClampNeg 0) &&& (255 : Int32))))])) (fun _ k => XS.ior X0.here hx rfl (hb hby d2_19) rfl k) ?_
  refine Goes.retI X0 hx Bd.notSynchronized Bd.returns (hb hby d2_20) (by decide) (by decide) ?_
  exact ⟨rfl, N0, e0⟩
theorem pd0 : parseMethodDescriptor "([BI)I" = some ⟨[(.array .byte), .int], some .int⟩ := by decide +kernel
theorem d1_0 : decode prog_15_method_8_code 0 = .ok (.aload_n 0, 1) := by decide +kernel
theorem d1_1 : decode prog_15_method_8_code 1 = .ok (.iload_n 1, 1) := by decide +kernel
theorem d1_2 : decode prog_15_method_8_code 2 = .ok (.invokestatic 33, 3) := by decide +kernel
theorem d1_5 : decode prog_15_method_8_code 5 = .ok (.bipush 16, 2) := by decide +kernel
theorem d1_7 : decode prog_15_method_8_code 7 = .ok (.ishl, 1) := by decide +kernel
theorem d1_8 : decode prog_15_method_8_code 8 = .ok (.aload_n 0, 1) := by decide +kernel
theorem d1_9 : decode prog_15_method_8_code 9 = .ok (.iload_n 1, 1) := by decide +kernel
theorem d1_10 : decode prog_15_method_8_code 10 = .ok (.iconst 2, 1) := by decide +kernel
theorem d1_11 : decode prog_15_method_8_code 11 = .ok (.iadd, 1) := by decide +kernel
theorem d1_12 : decode prog_15_method_8_code 12 = .ok (.invokestatic 33, 3) := by decide +kernel
theorem d1_15 : decode prog_15_method_8_code 15 = .ok (.ior, 1) := by decide +kernel
theorem d1_16 : decode prog_15_method_8_code 16 = .ok (.ireturn, 1) := by decide +kernel
theorem ef1 (m : MethodId) (u0 : Addr) (p1 : Int32) : entryFrame m #[(.ref u0), (.int p1)] 2 = mkF m 0 #[.val (.ref u0), .val (.int p1)] [] := by first | (simp [entryFrame, mkF, argsToLocals, Value.category]; done) | rfl
def f1 (n_u0 : Int32) (vs_u0 : List Int32) (p1 : Int32) : Int32 := (((f2 n_u0 vs_u0 p1) <<< ((16 : Int32) &&& 31)) ||| (f2 n_u0 vs_u0 (p1 + (2 : Int32))))
theorem own_pr1_2_hB (n_u0 : Int32) (vs_u0 : List Int32) (hl_u0 : vs_u0.length = n_u0.toNatClampNeg) (hn_u0 : ¬ n_u0 < 0) (p1 : Int32) (hB : ¬ p1 < 0 ∧ p1 < n_u0) (hb2 : ¬ (p1 + (1 : Int32)) < 0 ∧ (p1 + (1 : Int32)) < n_u0) (hb3 : ¬ (p1 + (2 : Int32)) < 0 ∧ (p1 + (2 : Int32)) < n_u0) (hb4 : ¬ (p1 + (2 : Int32)) + (1 : Int32) < 0 ∧ (p1 + (2 : Int32)) + (1 : Int32) < n_u0) : ¬ p1 < 0 ∧ p1 < n_u0 := by
  exact hB
theorem own_pr1_2_hb2 (n_u0 : Int32) (vs_u0 : List Int32) (hl_u0 : vs_u0.length = n_u0.toNatClampNeg) (hn_u0 : ¬ n_u0 < 0) (p1 : Int32) (hB : ¬ p1 < 0 ∧ p1 < n_u0) (hb2 : ¬ (p1 + (1 : Int32)) < 0 ∧ (p1 + (1 : Int32)) < n_u0) (hb3 : ¬ (p1 + (2 : Int32)) < 0 ∧ (p1 + (2 : Int32)) < n_u0) (hb4 : ¬ (p1 + (2 : Int32)) + (1 : Int32) < 0 ∧ (p1 + (2 : Int32)) + (1 : Int32) < n_u0) : ¬ (p1 + (1 : Int32)) < 0 ∧ (p1 + (1 : Int32)) < n_u0 := by
  exact hb2
theorem own_pr1_12_hB (n_u0 : Int32) (vs_u0 : List Int32) (hl_u0 : vs_u0.length = n_u0.toNatClampNeg) (hn_u0 : ¬ n_u0 < 0) (p1 : Int32) (hB : ¬ p1 < 0 ∧ p1 < n_u0) (hb2 : ¬ (p1 + (1 : Int32)) < 0 ∧ (p1 + (1 : Int32)) < n_u0) (hb3 : ¬ (p1 + (2 : Int32)) < 0 ∧ (p1 + (2 : Int32)) < n_u0) (hb4 : ¬ (p1 + (2 : Int32)) + (1 : Int32) < 0 ∧ (p1 + (2 : Int32)) + (1 : Int32) < n_u0) : ¬ (p1 + (2 : Int32)) < 0 ∧ (p1 + (2 : Int32)) < n_u0 := by
  exact hb3
theorem own_pr1_12_hb2 (n_u0 : Int32) (vs_u0 : List Int32) (hl_u0 : vs_u0.length = n_u0.toNatClampNeg) (hn_u0 : ¬ n_u0 < 0) (p1 : Int32) (hB : ¬ p1 < 0 ∧ p1 < n_u0) (hb2 : ¬ (p1 + (1 : Int32)) < 0 ∧ (p1 + (1 : Int32)) < n_u0) (hb3 : ¬ (p1 + (2 : Int32)) < 0 ∧ (p1 + (2 : Int32)) < n_u0) (hb4 : ¬ (p1 + (2 : Int32)) + (1 : Int32) < 0 ∧ (p1 + (2 : Int32)) + (1 : Int32) < n_u0) : ¬ ((p1 + (2 : Int32)) + (1 : Int32)) < 0 ∧ ((p1 + (2 : Int32)) + (1 : Int32)) < n_u0 := by
  exact hb4
def Q1 (Z : State) (u0 : Addr) (p1 : Int32) (k_u0 : ClassId) (n_u0 : Int32) (vs_u0 : List Int32) (h0 : Heap) (n0 : Nat) (v : Option Value) (h : Heap) (L : List Loc) : Prop := v = some (.int (f1 n_u0 vs_u0 p1)) ∧ Fr n0 L ∧ h = h0
set_option maxRecDepth 65536 in
set_option maxHeartbeats 40000000 in
theorem rm1 (l : Launch) (Z : State) (a0 : Array Value) (hw : ∀ d ∈ tables_1, d.before a0 Z = true) (ws : List Jvm.Cond) (u0 : Addr) (p1 : Int32) (k_u0 : ClassId) (n_u0 : Int32) (vs_u0 : List Int32) (h0 : Heap) (n0 : Nat) (Z0 : n0 ≤ h0.size) (V_u0 : AI Z h0 u0 k_u0 .byte n_u0 vs_u0) (hB : ¬ p1 < 0 ∧ p1 < n_u0) (hb2 : ¬ (p1 + (1 : Int32)) < 0 ∧ (p1 + (1 : Int32)) < n_u0) (hb3 : ¬ (p1 + (2 : Int32)) < 0 ∧ (p1 + (2 : Int32)) < n_u0) (hb4 : ¬ (p1 + (2 : Int32)) + (1 : Int32) < 0 ∧ (p1 + (2 : Int32)) + (1 : Int32) < n_u0) :
    MetFree l (⟨"com/example/marginalia/marginalia/classfile/ClassBytes", "u4", "([BI)I"⟩ : MethodName) (head1 (Jvm.Cond.code (⟨"com/example/marginalia/marginalia/classfile/ClassBytes", "u4", "([BI)I"⟩ : MethodName) prog_15_method_8_code 2 (some .int) :: ws) ({ frames := 1, cells := 0, slots := 0, locals := 14 } : Room)) (fun a U => a = #[(.ref u0), (.int p1)] ∧ Z.Warmed39 U.vm ∧ U.heap = h0) (fun _ _ _ _ _ => True) (fun _ U o U' => ∃ v L, o = .returned v ∧ Q1 Z u0 p1 k_u0 n_u0 vs_u0 h0 n0 v U'.heap L ∧ FrameEnd U o U' L ({ frames := 1, cells := 0, slots := 0, locals := 14 } : Room).cells ({ frames := 1, cells := 0, slots := 0, locals := 14 } : Room).slots) := by
  refine MetFree.of_bodySF (plainFor_of_name pn0) hisR ?_
  intro p e s m args below meth c s₁ Bd hml0 hP hK
  obtain ⟨rfl, hZ, hh⟩ := hP
  have hx := Bd.exec
  have hby := Bd.bytes
  have hml : c.maxLocals = 2 := hml0
  have hown : s.vm.findClass "com/example/marginalia/marginalia/classfile/ClassBytes" = some m.cls := findClass_of_methodNamed Bd.named
  have hnm := (name_of_methodNamed Bd.named Bd.method).1
  have X0 : Stand p l e ({ frames := 1, cells := 0, slots := 0, locals := 14 } : Room) s m #[(.ref u0), (.int p1)] below meth c s₁ [] 0 0 := Stand.of_body Bd
  have e0 : s₁.heap = h0 := by rw [← hh, Bd.state]; rfl
  have N0 := Fr.nil n0
  have hl_u0 : vs_u0.length = n_u0.toNatClampNeg := V_u0.2
  have hn_u0 : ¬ n_u0 < 0 := V_u0.nn
  refine Goes.out (Q := fun o U' => ∃ v L, o = .returned v ∧ Q1 Z u0 p1 k_u0 n_u0 vs_u0 h0 n0 v U'.heap L ∧ FrameEnd s o U' L ({ frames := 1, cells := 0, slots := 0, locals := 14 } : Room).cells ({ frames := 1, cells := 0, slots := 0, locals := 14 } : Room).slots) ?_
  refine Goes.step (S' := s₁.setTop (mkF m 0 #[.val (.ref u0), .val (.int p1)] [])) (fun _ k => castTop (ef1 m u0 p1) k) ?_
  refine Goes.step (S' := s₁.setTop (mkF m 1 #[.val (.ref u0), .val (.int p1)] [(.ref u0)])) (fun _ k => XS.aloadN X0.here hx rfl (hb hby d1_0) rfl rfl k) ?_
  refine Goes.step (S' := s₁.setTop (mkF m 2 #[.val (.ref u0), .val (.int p1)] [(.int p1), (.ref u0)])) (fun _ k => XS.iloadN X0.here hx rfl (hb hby d1_1) rfl  k) ?_
  obtain ⟨_, _, ⟨T1, L1, k1, n1⟩, -, X1, ⟨Lc1, hQ1, l1, y1, z1⟩, st1⟩ := Jvm.LawKit.callS X0 hx (y := (⟨"com/example/marginalia/marginalia/classfile/ClassBytes", "u2", "([BI)I"⟩ : MethodName)) hown (mvT hZ (hw _ (List.mem_of_getElem? (i := 6) rfl))) (mvT hZ (hw _ (List.mem_of_getElem? (i := 7) rfl))) (mvT hZ (hw _ (List.mem_of_getElem? (i := 4) rfl))) (mvT hZ (hw _ (List.mem_of_getElem? (i := 8) rfl))) (by decide) (backOf (W := 0) (rm2 l Z a0 hw [] u0 p1 k_u0 n_u0 vs_u0 h0 n0 Z0 V_u0 (own_pr1_2_hB n_u0 vs_u0 hl_u0 hn_u0 p1 hB hb2 hb3 hb4) (own_pr1_2_hb2 n_u0 vs_u0 hl_u0 hn_u0 p1 hB hb2 hb3 hb4)) hZ (hw _ (List.mem_of_getElem? (i := 8) rfl)) (hw _ (List.mem_of_getElem? (i := 4) rfl)) (by decide) (by decide)) (g := (mkF m 2 #[.val (.ref u0), .val (.int p1)] [(.int p1), (.ref u0)])) rfl (by rw [hml]; rfl) (argsL := [(.ref u0), (.int p1)]) (rest := []) (lenOf pd0 rfl) rfl (by show 2 * 0 + _ ≤ _; exact Nat.le_of_eq rfl) (hb hby d1_2) (fun _ _ => ⟨rfl, e0, (by decide : 0 + 0 ≤ _), (by decide : 0 + 0 ≤ _)⟩)
  dsimp only [Pt.U, Pt.locs, Pt.cells, Pt.slots] at X1 l1 y1 z1 st1 hQ1
  subst l1 y1 z1
  obtain ⟨rfl, N1q, e1⟩ := hQ1
  have N2 := Fr.app N0 N1q
  refine Goes.step (S' := T1.setTop (mkF m 5 #[.val (.ref u0), .val (.int p1)] [(.int (f2 n_u0 vs_u0 p1))])) st1 ?_
  refine Goes.step (S' := T1.setTop (mkF m 7 #[.val (.ref u0), .val (.int p1)] [(.int (16 : Int32)), (.int (f2 n_u0 vs_u0 p1))])) (fun _ k => XS.bipush X1.here hx rfl (hb hby d1_5) k) ?_
  refine Goes.step (S' := T1.setTop (mkF m 8 #[.val (.ref u0), .val (.int p1)] [(.int ((f2 n_u0 vs_u0 p1) <<< ((16 : Int32) &&& 31)))])) (fun _ k => XS.ishl X1.here hx rfl (hb hby d1_7) rfl k) ?_
  refine Goes.step (S' := T1.setTop (mkF m 9 #[.val (.ref u0), .val (.int p1)] [(.ref u0), (.int ((f2 n_u0 vs_u0 p1) <<< ((16 : Int32) &&& 31)))])) (fun _ k => XS.aloadN X1.here hx rfl (hb hby d1_8) rfl rfl k) ?_
  refine Goes.step (S' := T1.setTop (mkF m 10 #[.val (.ref u0), .val (.int p1)] [(.int p1), (.ref u0), (.int ((f2 n_u0 vs_u0 p1) <<< ((16 : Int32) &&& 31)))])) (fun _ k => XS.iloadN X1.here hx rfl (hb hby d1_9) rfl  k) ?_
  refine Goes.step (S' := T1.setTop (mkF m 11 #[.val (.ref u0), .val (.int p1)] [(.int (2 : Int32)), (.int p1), (.ref u0), (.int ((f2 n_u0 vs_u0 p1) <<< ((16 : Int32) &&& 31)))])) (fun _ k => XS.iconst X1.here hx rfl (hb hby d1_10) k) ?_
  refine Goes.step (S' := T1.setTop (mkF m 12 #[.val (.ref u0), .val (.int p1)] [(.int (p1 + (2 : Int32))), (.ref u0), (.int ((f2 n_u0 vs_u0 p1) <<< ((16 : Int32) &&& 31)))])) (fun _ k => XS.iadd X1.here hx rfl (hb hby d1_11) rfl k) ?_
  obtain ⟨_, _, ⟨T3, L3, k3, n3⟩, -, X3, ⟨Lc3, hQ3, l3, y3, z3⟩, st3⟩ := Jvm.LawKit.callS X1 hx (y := (⟨"com/example/marginalia/marginalia/classfile/ClassBytes", "u2", "([BI)I"⟩ : MethodName)) hown (mvT hZ (hw _ (List.mem_of_getElem? (i := 6) rfl))) (mvT hZ (hw _ (List.mem_of_getElem? (i := 7) rfl))) (mvT hZ (hw _ (List.mem_of_getElem? (i := 4) rfl))) (mvT hZ (hw _ (List.mem_of_getElem? (i := 8) rfl))) (by decide) (backOf (W := 1) (rm2 l Z a0 hw [] u0 (p1 + (2 : Int32)) k_u0 n_u0 vs_u0 h0 n0 Z0 V_u0 (own_pr1_12_hB n_u0 vs_u0 hl_u0 hn_u0 p1 hB hb2 hb3 hb4) (own_pr1_12_hb2 n_u0 vs_u0 hl_u0 hn_u0 p1 hB hb2 hb3 hb4)) hZ (hw _ (List.mem_of_getElem? (i := 8) rfl)) (hw _ (List.mem_of_getElem? (i := 4) rfl)) (by decide) (by decide)) (g := (mkF m 12 #[.val (.ref u0), .val (.int p1)] [(.int (p1 + (2 : Int32))), (.ref u0), (.int ((f2 n_u0 vs_u0 p1) <<< ((16 : Int32) &&& 31)))])) rfl (by rw [hml]; rfl) (argsL := [(.ref u0), (.int (p1 + (2 : Int32)))]) (rest := [(.int ((f2 n_u0 vs_u0 p1) <<< ((16 : Int32) &&& 31)))]) (lenOf pd0 rfl) rfl (by show 2 * 0 + _ ≤ _; exact Nat.le_of_eq rfl) (hb hby d1_12) (fun _ _ => ⟨rfl, e1, (by decide : 0 + 0 ≤ _), (by decide : 0 + 0 ≤ _)⟩)
  dsimp only [Pt.U, Pt.locs, Pt.cells, Pt.slots] at X3 l3 y3 z3 st3 hQ3
  subst l3 y3 z3
  obtain ⟨rfl, N3q, e3⟩ := hQ3
  have N4 := Fr.app N2 N3q
  refine Goes.step (S' := T3.setTop (mkF m 15 #[.val (.ref u0), .val (.int p1)] [(.int (f2 n_u0 vs_u0 (p1 + (2 : Int32)))), (.int ((f2 n_u0 vs_u0 p1) <<< ((16 : Int32) &&& 31)))])) st3 ?_
  refine Goes.step (S' := T3.setTop (mkF m 16 #[.val (.ref u0), .val (.int p1)] [(.int (((f2 n_u0 vs_u0 p1) <<< ((16 : Int32) &&& 31)) ||| (f2 n_u0 vs_u0 (p1 + (2 : Int32)))))])) (fun _ k => XS.ior X3.here hx rfl (hb hby d1_15) rfl k) ?_
  refine Goes.retI X3 hx Bd.notSynchronized Bd.returns (hb hby d1_16) (by decide) (by decide) ?_
  exact ⟨rfl, N4, e3⟩
theorem pn1 : plainName "com/example/marginalia/marginalia/classfile/ClassBytesU4PinLaw" = true := by first | (simp [plainName, overriddenIn]; done) | decide +kernel
theorem ef0 (m : MethodId) (p0 : Int32) (q1 : Int64) (p2 : Int32) : entryFrame m #[(.int p0), (.long q1), (.int p2)] maxLocals = mkF m 0 #[.val (.int p0), .val (.long q1), .second, .val (.int p2), .unset, .unset] [] := by first | (simp [entryFrame, mkF, argsToLocals, Value.category, maxLocals]; done) | rfl
theorem own_case0_71 (p0 : Int32) (q1 : Int64) (p2 : Int32) (v5_69 : Int32) (ev5_69 : v5_69 = ((p2 &&& (2147483647 : Int32)) % (3 : Int32))) : v5_69 = (0 : Int32) ∨ v5_69 = (1 : Int32) ∨ v5_69 = (2 : Int32) := by
  have a : (p2 &&& 2147483647).toInt = p2.toInt % 2147483648 := c_mask p2 2147483647 31 (by decide) (by decide)
  have b := c_irem (p2 &&& 2147483647) 3 3 (by decide)
  rw [← ev5_69] at b
  simp only [← Int32.toInt_inj, Int32.reduceToInt]
  omega
theorem own_pr0_118_hB (p0 : Int32) (q1 : Int64) (p2 : Int32) (ev5_69 : (0 : Int32) = ((p2 &&& (2147483647 : Int32)) % (3 : Int32))) : ¬ (0 : Int32) < 0 ∧ (0 : Int32) < (6 : Int32) := by
  first | decide | exact ⟨by decide, by decide⟩
theorem own_pr0_118_hb2 (p0 : Int32) (q1 : Int64) (p2 : Int32) (ev5_69 : (0 : Int32) = ((p2 &&& (2147483647 : Int32)) % (3 : Int32))) : ¬ ((0 : Int32) + (1 : Int32)) < 0 ∧ ((0 : Int32) + (1 : Int32)) < (6 : Int32) := by
  first | decide | exact ⟨by decide, by decide⟩
theorem own_pr0_118_hb3 (p0 : Int32) (q1 : Int64) (p2 : Int32) (ev5_69 : (0 : Int32) = ((p2 &&& (2147483647 : Int32)) % (3 : Int32))) : ¬ ((0 : Int32) + (2 : Int32)) < 0 ∧ ((0 : Int32) + (2 : Int32)) < (6 : Int32) := by
  first | decide | exact ⟨by decide, by decide⟩
theorem own_pr0_118_hb4 (p0 : Int32) (q1 : Int64) (p2 : Int32) (ev5_69 : (0 : Int32) = ((p2 &&& (2147483647 : Int32)) % (3 : Int32))) : ¬ ((0 : Int32) + (2 : Int32)) + (1 : Int32) < 0 ∧ ((0 : Int32) + (2 : Int32)) + (1 : Int32) < (6 : Int32) := by
  first | decide | exact ⟨by decide, by decide⟩
theorem own_hc0_122 (p0 : Int32) (q1 : Int64) (p2 : Int32) (ev5_69 : (0 : Int32) = ((p2 &&& (2147483647 : Int32)) % (3 : Int32))) : (f1 (6 : Int32) [(nar .byte (((p0.toUInt32 >>> ((24 : Int32) &&& 31).toUInt32).toInt32).toInt8.toInt32)), (nar .byte (((p0.toUInt32 >>> ((16 : Int32) &&& 31).toUInt32).toInt32).toInt8.toInt32)), (nar .byte (((p0.toUInt32 >>> ((8 : Int32) &&& 31).toUInt32).toInt32).toInt8.toInt32)), (nar .byte (p0.toInt8.toInt32)), (nar .byte ((((q1.toUInt64 >>> ((32 : Int32) &&& 0x3f).toInt64.toUInt64).toInt64).toInt32).toInt8.toInt32)), (nar .byte ((((q1.toUInt64 >>> ((40 : Int32) &&& 0x3f).toInt64.toUInt64).toInt64).toInt32).toInt8.toInt32))] (0 : Int32)) = p0 := by
  exact own_u4 p0
theorem own_pr0_118_hB_2 (p0 : Int32) (q1 : Int64) (p2 : Int32) (ev5_69 : (1 : Int32) = ((p2 &&& (2147483647 : Int32)) % (3 : Int32))) : ¬ (1 : Int32) < 0 ∧ (1 : Int32) < (6 : Int32) := by
  first | decide | exact ⟨by decide, by decide⟩
theorem own_pr0_118_hb2_2 (p0 : Int32) (q1 : Int64) (p2 : Int32) (ev5_69 : (1 : Int32) = ((p2 &&& (2147483647 : Int32)) % (3 : Int32))) : ¬ ((1 : Int32) + (1 : Int32)) < 0 ∧ ((1 : Int32) + (1 : Int32)) < (6 : Int32) := by
  first | decide | exact ⟨by decide, by decide⟩
theorem own_pr0_118_hb3_2 (p0 : Int32) (q1 : Int64) (p2 : Int32) (ev5_69 : (1 : Int32) = ((p2 &&& (2147483647 : Int32)) % (3 : Int32))) : ¬ ((1 : Int32) + (2 : Int32)) < 0 ∧ ((1 : Int32) + (2 : Int32)) < (6 : Int32) := by
  first | decide | exact ⟨by decide, by decide⟩
theorem own_pr0_118_hb4_2 (p0 : Int32) (q1 : Int64) (p2 : Int32) (ev5_69 : (1 : Int32) = ((p2 &&& (2147483647 : Int32)) % (3 : Int32))) : ¬ ((1 : Int32) + (2 : Int32)) + (1 : Int32) < 0 ∧ ((1 : Int32) + (2 : Int32)) + (1 : Int32) < (6 : Int32) := by
  first | decide | exact ⟨by decide, by decide⟩
theorem own_hc0_122_2 (p0 : Int32) (q1 : Int64) (p2 : Int32) (ev5_69 : (1 : Int32) = ((p2 &&& (2147483647 : Int32)) % (3 : Int32))) : (f1 (6 : Int32) [(nar .byte ((q1.toInt32).toInt8.toInt32)), (nar .byte (((p0.toUInt32 >>> ((24 : Int32) &&& 31).toUInt32).toInt32).toInt8.toInt32)), (nar .byte (((p0.toUInt32 >>> ((16 : Int32) &&& 31).toUInt32).toInt32).toInt8.toInt32)), (nar .byte (((p0.toUInt32 >>> ((8 : Int32) &&& 31).toUInt32).toInt32).toInt8.toInt32)), (nar .byte (p0.toInt8.toInt32)), (nar .byte ((((q1.toUInt64 >>> ((40 : Int32) &&& 0x3f).toInt64.toUInt64).toInt64).toInt32).toInt8.toInt32))] (1 : Int32)) = p0 := by
  exact own_u4 p0
theorem own_pr0_118_hB_3 (p0 : Int32) (q1 : Int64) (p2 : Int32) (ev5_69 : (2 : Int32) = ((p2 &&& (2147483647 : Int32)) % (3 : Int32))) : ¬ (2 : Int32) < 0 ∧ (2 : Int32) < (6 : Int32) := by
  first | decide | exact ⟨by decide, by decide⟩
theorem own_pr0_118_hb2_3 (p0 : Int32) (q1 : Int64) (p2 : Int32) (ev5_69 : (2 : Int32) = ((p2 &&& (2147483647 : Int32)) % (3 : Int32))) : ¬ ((2 : Int32) + (1 : Int32)) < 0 ∧ ((2 : Int32) + (1 : Int32)) < (6 : Int32) := by
  first | decide | exact ⟨by decide, by decide⟩
theorem own_pr0_118_hb3_3 (p0 : Int32) (q1 : Int64) (p2 : Int32) (ev5_69 : (2 : Int32) = ((p2 &&& (2147483647 : Int32)) % (3 : Int32))) : ¬ ((2 : Int32) + (2 : Int32)) < 0 ∧ ((2 : Int32) + (2 : Int32)) < (6 : Int32) := by
  first | decide | exact ⟨by decide, by decide⟩
theorem own_pr0_118_hb4_3 (p0 : Int32) (q1 : Int64) (p2 : Int32) (ev5_69 : (2 : Int32) = ((p2 &&& (2147483647 : Int32)) % (3 : Int32))) : ¬ ((2 : Int32) + (2 : Int32)) + (1 : Int32) < 0 ∧ ((2 : Int32) + (2 : Int32)) + (1 : Int32) < (6 : Int32) := by
  first | decide | exact ⟨by decide, by decide⟩
theorem own_hc0_122_3 (p0 : Int32) (q1 : Int64) (p2 : Int32) (ev5_69 : (2 : Int32) = ((p2 &&& (2147483647 : Int32)) % (3 : Int32))) : (f1 (6 : Int32) [(nar .byte ((q1.toInt32).toInt8.toInt32)), (nar .byte ((((q1.toUInt64 >>> ((8 : Int32) &&& 0x3f).toInt64.toUInt64).toInt64).toInt32).toInt8.toInt32)), (nar .byte (((p0.toUInt32 >>> ((24 : Int32) &&& 31).toUInt32).toInt32).toInt8.toInt32)), (nar .byte (((p0.toUInt32 >>> ((16 : Int32) &&& 31).toUInt32).toInt32).toInt8.toInt32)), (nar .byte (((p0.toUInt32 >>> ((8 : Int32) &&& 31).toUInt32).toInt32).toInt8.toInt32)), (nar .byte (p0.toInt8.toInt32))] (2 : Int32)) = p0 := by
  exact own_u4 p0
def Q0 (Z : State) (p0 : Int32) (q1 : Int64) (p2 : Int32) (h0 : Heap) (n0 : Nat) (v : Option Value) (h : Heap) (L : List Loc) : Prop := v = some (.int 1) ∧ Fr n0 L
set_option maxRecDepth 65536 in
set_option maxHeartbeats 40000000 in
theorem rm0 (l : Launch) (Z : State) (a0 : Array Value) (hw : ∀ d ∈ tables_1, d.before a0 Z = true) (ws : List Jvm.Cond) (p0 : Int32) (q1 : Int64) (p2 : Int32) (h0 : Heap) (n0 : Nat) (Z0 : n0 ≤ h0.size) :
    MetFree l x (head1 (Jvm.Cond.code x code maxLocals ret :: ws) room_1) (fun a U => a = #[(.int p0), (.long q1), (.int p2)] ∧ Z.Warmed39 U.vm ∧ U.heap = h0) (fun _ _ _ _ _ => True) (fun _ U o U' => ∃ v L, o = .returned v ∧ Q0 Z p0 q1 p2 h0 n0 v U'.heap L ∧ FrameEnd U o U' L room_1.cells room_1.slots) := by
  refine MetFree.of_bodySF (plainFor_of_name pn1) hisR ?_
  intro p e s m args below meth c s₁ Bd hml0 hP hK
  obtain ⟨rfl, hZ, hh⟩ := hP
  have hx := Bd.exec
  have hby := Bd.bytes
  have hml : c.maxLocals = 6 := hml0
  have hown : s.vm.findClass "com/example/marginalia/marginalia/classfile/ClassBytesU4PinLaw" = some m.cls := findClass_of_methodNamed Bd.named
  have hnm := (name_of_methodNamed Bd.named Bd.method).1
  have X0 : Stand p l e room_1 s m #[(.int p0), (.long q1), (.int p2)] below meth c s₁ [] 0 0 := Stand.of_body Bd
  have e0 : s₁.heap = h0 := by rw [← hh, Bd.state]; rfl
  have N0 := Fr.nil n0
  refine Goes.out (Q := fun o U' => ∃ v L, o = .returned v ∧ Q0 Z p0 q1 p2 h0 n0 v U'.heap L ∧ FrameEnd s o U' L room_1.cells room_1.slots) ?_
  refine Goes.step (S' := s₁.setTop (mkF m 0 #[.val (.int p0), .val (.long q1), .second, .val (.int p2), .unset, .unset] [])) (fun _ k => castTop (ef0 m p0 q1 p2) k) ?_
  refine Goes.step (S' := s₁.setTop (mkF m 2 #[.val (.int p0), .val (.long q1), .second, .val (.int p2), .unset, .unset] [(.int (6 : Int32))])) (fun _ k => XS.bipush X0.here hx rfl (hb hby at_0) k) ?_
  obtain ⟨T1, h1, k1, X1, e1, E1, A1, st1⟩ := newP X0 hx hZ (hw _ (List.mem_of_getElem? (i := 0) rfl)) e0 (g := (mkF m 2 #[.val (.int p0), .val (.long q1), .second, .val (.int p2), .unset, .unset] [(.int (6 : Int32))])) rfl (hb hby at_2) rfl (by decide) (cap := 6) (by decide) (by decide) (by decide) (by decide)
  obtain ⟨b1, g1⟩ : ∃ z, z = h0.size := ⟨_, rfl⟩
  rw [← g1] at A1 st1
  have g2 : n0 ≤ b1 := Nat.le_trans Z0 (Nat.le_of_eq g1.symm)
  have Z3 : n0 ≤ h1.size := Nat.le_trans Z0 E1.1
  have V4 : AI Z h1 b1 k1 .byte (6 : Int32) [(0 : Int32), (0 : Int32), (0 : Int32), (0 : Int32), (0 : Int32), (0 : Int32)] := own_new A1 (by decide) rfl
  refine Goes.step (S' := T1.setTop (mkF m 4 #[.val (.int p0), .val (.long q1), .second, .val (.int p2), .unset, .unset] [(.ref b1)])) st1 ?_
  refine Goes.step (S' := T1.setTop (mkF m 6 #[.val (.int p0), .val (.long q1), .second, .val (.int p2), .val (.ref b1), .unset] [])) (fun _ k => XS.astore X1.here hx rfl (hb hby at_4) rfl rfl (l' := #[.val (.int p0), .val (.long q1), .second, .val (.int p2), .val (.ref b1), .unset]) rfl k) ?_
  refine Goes.step (S' := T1.setTop (mkF m 8 #[.val (.int p0), .val (.long q1), .second, .val (.int p2), .val (.ref b1), .unset] [(.ref b1)])) (fun _ k => XS.aload X1.here hx rfl (hb hby at_6) rfl rfl k) ?_
  refine Goes.step (S' := T1.setTop (mkF m 9 #[.val (.int p0), .val (.long q1), .second, .val (.int p2), .val (.ref b1), .unset] [(.int (0 : Int32)), (.ref b1)])) (fun _ k => XS.iconst X1.here hx rfl (hb hby at_8) k) ?_
  refine Goes.step (S' := T1.setTop (mkF m 10 #[.val (.int p0), .val (.long q1), .second, .val (.int p2), .val (.ref b1), .unset] [(.long q1), (.int (0 : Int32)), (.ref b1)])) (fun _ k => XS.lloadN X1.here hx rfl (hb hby at_9) rfl  k) ?_
  refine Goes.step (S' := T1.setTop (mkF m 11 #[.val (.int p0), .val (.long q1), .second, .val (.int p2), .val (.ref b1), .unset] [(.int (q1.toInt32)), (.int (0 : Int32)), (.ref b1)])) (fun _ k => XS.l2i X1.here hx rfl (hb hby at_10) rfl k) ?_
  refine Goes.step (S' := T1.setTop (mkF m 12 #[.val (.int p0), .val (.long q1), .second, .val (.int p2), .val (.ref b1), .unset] [(.int ((q1.toInt32).toInt8.toInt32)), (.int (0 : Int32)), (.ref b1)])) (fun _ k => XS.i2b X1.here hx rfl (hb hby at_11) rfl k) ?_
  obtain ⟨T5, h5, X5, e5, W5, V_5, st5⟩ := own_bastore X1 hx hZ e1 V4 ⟨by decide, by decide⟩ (g := (mkF m 12 #[.val (.int p0), .val (.long q1), .second, .val (.int p2), .val (.ref b1), .unset] [(.int ((q1.toInt32).toInt8.toInt32)), (.int (0 : Int32)), (.ref b1)])) rfl rfl (hb hby at_12)
  replace V_5 : AI Z h5 b1 k1 .byte (6 : Int32) [(nar .byte ((q1.toInt32).toInt8.toInt32)), (0 : Int32), (0 : Int32), (0 : Int32), (0 : Int32), (0 : Int32)] := V_5
  have N6 := Fr.snoc X5 N0 g2
  have Z7 : n0 ≤ h5.size := Nat.le_trans Z3 (Nat.le_of_eq W5.size.symm)
  refine Goes.step (S' := T5.setTop (mkF m 13 #[.val (.int p0), .val (.long q1), .second, .val (.int p2), .val (.ref b1), .unset] [])) st5 ?_
  refine Goes.step (S' := T5.setTop (mkF m 15 #[.val (.int p0), .val (.long q1), .second, .val (.int p2), .val (.ref b1), .unset] [(.ref b1)])) (fun _ k => XS.aload X5.here hx rfl (hb hby at_13) rfl rfl k) ?_
  refine Goes.step (S' := T5.setTop (mkF m 16 #[.val (.int p0), .val (.long q1), .second, .val (.int p2), .val (.ref b1), .unset] [(.int (1 : Int32)), (.ref b1)])) (fun _ k => XS.iconst X5.here hx rfl (hb hby at_15) k) ?_
  refine Goes.step (S' := T5.setTop (mkF m 17 #[.val (.int p0), .val (.long q1), .second, .val (.int p2), .val (.ref b1), .unset] [(.long q1), (.int (1 : Int32)), (.ref b1)])) (fun _ k => XS.lloadN X5.here hx rfl (hb hby at_16) rfl  k) ?_
  refine Goes.step (S' := T5.setTop (mkF m 19 #[.val (.int p0), .val (.long q1), .second, .val (.int p2), .val (.ref b1), .unset] [(.int (8 : Int32)), (.long q1), (.int (1 : Int32)), (.ref b1)])) (fun _ k => XS.bipush X5.here hx rfl (hb hby at_17) k) ?_
  refine Goes.step (S' := T5.setTop (mkF m 20 #[.val (.int p0), .val (.long q1), .second, .val (.int p2), .val (.ref b1), .unset] [(.long ((q1.toUInt64 >>> ((8 : Int32) &&& 0x3f).toInt64.toUInt64).toInt64)), (.int (1 : Int32)), (.ref b1)])) (fun _ k => XS.lushr X5.here hx rfl (hb hby at_19) rfl k) ?_
  refine Goes.step (S' := T5.setTop (mkF m 21 #[.val (.int p0), .val (.long q1), .second, .val (.int p2), .val (.ref b1), .unset] [(.int (((q1.toUInt64 >>> ((8 : Int32) &&& 0x3f).toInt64.toUInt64).toInt64).toInt32)), (.int (1 : Int32)), (.ref b1)])) (fun _ k => XS.l2i X5.here hx rfl (hb hby at_20) rfl k) ?_
  refine Goes.step (S' := T5.setTop (mkF m 22 #[.val (.int p0), .val (.long q1), .second, .val (.int p2), .val (.ref b1), .unset] [(.int ((((q1.toUInt64 >>> ((8 : Int32) &&& 0x3f).toInt64.toUInt64).toInt64).toInt32).toInt8.toInt32)), (.int (1 : Int32)), (.ref b1)])) (fun _ k => XS.i2b X5.here hx rfl (hb hby at_21) rfl k) ?_
  obtain ⟨T8, h8, X8, e8, W8, V_8, st8⟩ := own_bastore X5 hx hZ e5 V_5 ⟨by decide, by decide⟩ (g := (mkF m 22 #[.val (.int p0), .val (.long q1), .second, .val (.int p2), .val (.ref b1), .unset] [(.int ((((q1.toUInt64 >>> ((8 : Int32) &&& 0x3f).toInt64.toUInt64).toInt64).toInt32).toInt8.toInt32)), (.int (1 : Int32)), (.ref b1)])) rfl rfl (hb hby at_22)
  replace V_8 : AI Z h8 b1 k1 .byte (6 : Int32) [(nar .byte ((q1.toInt32).toInt8.toInt32)), (nar .byte ((((q1.toUInt64 >>> ((8 : Int32) &&& 0x3f).toInt64.toUInt64).toInt64).toInt32).toInt8.toInt32)), (0 : Int32), (0 : Int32), (0 : Int32), (0 : Int32)] := V_8
  have N9 := Fr.snoc X8 N6 g2
  have Z10 : n0 ≤ h8.size := Nat.le_trans Z7 (Nat.le_of_eq W8.size.symm)
  refine Goes.step (S' := T8.setTop (mkF m 23 #[.val (.int p0), .val (.long q1), .second, .val (.int p2), .val (.ref b1), .unset] [])) st8 ?_
  refine Goes.step (S' := T8.setTop (mkF m 25 #[.val (.int p0), .val (.long q1), .second, .val (.int p2), .val (.ref b1), .unset] [(.ref b1)])) (fun _ k => XS.aload X8.here hx rfl (hb hby at_23) rfl rfl k) ?_
  refine Goes.step (S' := T8.setTop (mkF m 26 #[.val (.int p0), .val (.long q1), .second, .val (.int p2), .val (.ref b1), .unset] [(.int (2 : Int32)), (.ref b1)])) (fun _ k => XS.iconst X8.here hx rfl (hb hby at_25) k) ?_
  refine Goes.step (S' := T8.setTop (mkF m 27 #[.val (.int p0), .val (.long q1), .second, .val (.int p2), .val (.ref b1), .unset] [(.long q1), (.int (2 : Int32)), (.ref b1)])) (fun _ k => XS.lloadN X8.here hx rfl (hb hby at_26) rfl  k) ?_
  refine Goes.step (S' := T8.setTop (mkF m 29 #[.val (.int p0), .val (.long q1), .second, .val (.int p2), .val (.ref b1), .unset] [(.int (16 : Int32)), (.long q1), (.int (2 : Int32)), (.ref b1)])) (fun _ k => XS.bipush X8.here hx rfl (hb hby at_27) k) ?_
  refine Goes.step (S' := T8.setTop (mkF m 30 #[.val (.int p0), .val (.long q1), .second, .val (.int p2), .val (.ref b1), .unset] [(.long ((q1.toUInt64 >>> ((16 : Int32) &&& 0x3f).toInt64.toUInt64).toInt64)), (.int (2 : Int32)), (.ref b1)])) (fun _ k => XS.lushr X8.here hx rfl (hb hby at_29) rfl k) ?_
  refine Goes.step (S' := T8.setTop (mkF m 31 #[.val (.int p0), .val (.long q1), .second, .val (.int p2), .val (.ref b1), .unset] [(.int (((q1.toUInt64 >>> ((16 : Int32) &&& 0x3f).toInt64.toUInt64).toInt64).toInt32)), (.int (2 : Int32)), (.ref b1)])) (fun _ k => XS.l2i X8.here hx rfl (hb hby at_30) rfl k) ?_
  refine Goes.step (S' := T8.setTop (mkF m 32 #[.val (.int p0), .val (.long q1), .second, .val (.int p2), .val (.ref b1), .unset] [(.int ((((q1.toUInt64 >>> ((16 : Int32) &&& 0x3f).toInt64.toUInt64).toInt64).toInt32).toInt8.toInt32)), (.int (2 : Int32)), (.ref b1)])) (fun _ k => XS.i2b X8.here hx rfl (hb hby at_31) rfl k) ?_
  obtain ⟨T11, h11, X11, e11, W11, V_11, st11⟩ := own_bastore X8 hx hZ e8 V_8 ⟨by decide, by decide⟩ (g := (mkF m 32 #[.val (.int p0), .val (.long q1), .second, .val (.int p2), .val (.ref b1), .unset] [(.int ((((q1.toUInt64 >>> ((16 : Int32) &&& 0x3f).toInt64.toUInt64).toInt64).toInt32).toInt8.toInt32)), (.int (2 : Int32)), (.ref b1)])) rfl rfl (hb hby at_32)
  replace V_11 : AI Z h11 b1 k1 .byte (6 : Int32) [(nar .byte ((q1.toInt32).toInt8.toInt32)), (nar .byte ((((q1.toUInt64 >>> ((8 : Int32) &&& 0x3f).toInt64.toUInt64).toInt64).toInt32).toInt8.toInt32)), (nar .byte ((((q1.toUInt64 >>> ((16 : Int32) &&& 0x3f).toInt64.toUInt64).toInt64).toInt32).toInt8.toInt32)), (0 : Int32), (0 : Int32), (0 : Int32)] := V_11
  have N12 := Fr.snoc X11 N9 g2
  have Z13 : n0 ≤ h11.size := Nat.le_trans Z10 (Nat.le_of_eq W11.size.symm)
  refine Goes.step (S' := T11.setTop (mkF m 33 #[.val (.int p0), .val (.long q1), .second, .val (.int p2), .val (.ref b1), .unset] [])) st11 ?_
  refine Goes.step (S' := T11.setTop (mkF m 35 #[.val (.int p0), .val (.long q1), .second, .val (.int p2), .val (.ref b1), .unset] [(.ref b1)])) (fun _ k => XS.aload X11.here hx rfl (hb hby at_33) rfl rfl k) ?_
  refine Goes.step (S' := T11.setTop (mkF m 36 #[.val (.int p0), .val (.long q1), .second, .val (.int p2), .val (.ref b1), .unset] [(.int (3 : Int32)), (.ref b1)])) (fun _ k => XS.iconst X11.here hx rfl (hb hby at_35) k) ?_
  refine Goes.step (S' := T11.setTop (mkF m 37 #[.val (.int p0), .val (.long q1), .second, .val (.int p2), .val (.ref b1), .unset] [(.long q1), (.int (3 : Int32)), (.ref b1)])) (fun _ k => XS.lloadN X11.here hx rfl (hb hby at_36) rfl  k) ?_
  refine Goes.step (S' := T11.setTop (mkF m 39 #[.val (.int p0), .val (.long q1), .second, .val (.int p2), .val (.ref b1), .unset] [(.int (24 : Int32)), (.long q1), (.int (3 : Int32)), (.ref b1)])) (fun _ k => XS.bipush X11.here hx rfl (hb hby at_37) k) ?_
  refine Goes.step (S' := T11.setTop (mkF m 40 #[.val (.int p0), .val (.long q1), .second, .val (.int p2), .val (.ref b1), .unset] [(.long ((q1.toUInt64 >>> ((24 : Int32) &&& 0x3f).toInt64.toUInt64).toInt64)), (.int (3 : Int32)), (.ref b1)])) (fun _ k => XS.lushr X11.here hx rfl (hb hby at_39) rfl k) ?_
  refine Goes.step (S' := T11.setTop (mkF m 41 #[.val (.int p0), .val (.long q1), .second, .val (.int p2), .val (.ref b1), .unset] [(.int (((q1.toUInt64 >>> ((24 : Int32) &&& 0x3f).toInt64.toUInt64).toInt64).toInt32)), (.int (3 : Int32)), (.ref b1)])) (fun _ k => XS.l2i X11.here hx rfl (hb hby at_40) rfl k) ?_
  refine Goes.step (S' := T11.setTop (mkF m 42 #[.val (.int p0), .val (.long q1), .second, .val (.int p2), .val (.ref b1), .unset] [(.int ((((q1.toUInt64 >>> ((24 : Int32) &&& 0x3f).toInt64.toUInt64).toInt64).toInt32).toInt8.toInt32)), (.int (3 : Int32)), (.ref b1)])) (fun _ k => XS.i2b X11.here hx rfl (hb hby at_41) rfl k) ?_
  obtain ⟨T14, h14, X14, e14, W14, V_14, st14⟩ := own_bastore X11 hx hZ e11 V_11 ⟨by decide, by decide⟩ (g := (mkF m 42 #[.val (.int p0), .val (.long q1), .second, .val (.int p2), .val (.ref b1), .unset] [(.int ((((q1.toUInt64 >>> ((24 : Int32) &&& 0x3f).toInt64.toUInt64).toInt64).toInt32).toInt8.toInt32)), (.int (3 : Int32)), (.ref b1)])) rfl rfl (hb hby at_42)
  replace V_14 : AI Z h14 b1 k1 .byte (6 : Int32) [(nar .byte ((q1.toInt32).toInt8.toInt32)), (nar .byte ((((q1.toUInt64 >>> ((8 : Int32) &&& 0x3f).toInt64.toUInt64).toInt64).toInt32).toInt8.toInt32)), (nar .byte ((((q1.toUInt64 >>> ((16 : Int32) &&& 0x3f).toInt64.toUInt64).toInt64).toInt32).toInt8.toInt32)), (nar .byte ((((q1.toUInt64 >>> ((24 : Int32) &&& 0x3f).toInt64.toUInt64).toInt64).toInt32).toInt8.toInt32)), (0 : Int32), (0 : Int32)] := V_14
  have N15 := Fr.snoc X14 N12 g2
  have Z16 : n0 ≤ h14.size := Nat.le_trans Z13 (Nat.le_of_eq W14.size.symm)
  refine Goes.step (S' := T14.setTop (mkF m 43 #[.val (.int p0), .val (.long q1), .second, .val (.int p2), .val (.ref b1), .unset] [])) st14 ?_
  refine Goes.step (S' := T14.setTop (mkF m 45 #[.val (.int p0), .val (.long q1), .second, .val (.int p2), .val (.ref b1), .unset] [(.ref b1)])) (fun _ k => XS.aload X14.here hx rfl (hb hby at_43) rfl rfl k) ?_
  refine Goes.step (S' := T14.setTop (mkF m 46 #[.val (.int p0), .val (.long q1), .second, .val (.int p2), .val (.ref b1), .unset] [(.int (4 : Int32)), (.ref b1)])) (fun _ k => XS.iconst X14.here hx rfl (hb hby at_45) k) ?_
  refine Goes.step (S' := T14.setTop (mkF m 47 #[.val (.int p0), .val (.long q1), .second, .val (.int p2), .val (.ref b1), .unset] [(.long q1), (.int (4 : Int32)), (.ref b1)])) (fun _ k => XS.lloadN X14.here hx rfl (hb hby at_46) rfl  k) ?_
  refine Goes.step (S' := T14.setTop (mkF m 49 #[.val (.int p0), .val (.long q1), .second, .val (.int p2), .val (.ref b1), .unset] [(.int (32 : Int32)), (.long q1), (.int (4 : Int32)), (.ref b1)])) (fun _ k => XS.bipush X14.here hx rfl (hb hby at_47) k) ?_
  refine Goes.step (S' := T14.setTop (mkF m 50 #[.val (.int p0), .val (.long q1), .second, .val (.int p2), .val (.ref b1), .unset] [(.long ((q1.toUInt64 >>> ((32 : Int32) &&& 0x3f).toInt64.toUInt64).toInt64)), (.int (4 : Int32)), (.ref b1)])) (fun _ k => XS.lushr X14.here hx rfl (hb hby at_49) rfl k) ?_
  refine Goes.step (S' := T14.setTop (mkF m 51 #[.val (.int p0), .val (.long q1), .second, .val (.int p2), .val (.ref b1), .unset] [(.int (((q1.toUInt64 >>> ((32 : Int32) &&& 0x3f).toInt64.toUInt64).toInt64).toInt32)), (.int (4 : Int32)), (.ref b1)])) (fun _ k => XS.l2i X14.here hx rfl (hb hby at_50) rfl k) ?_
  refine Goes.step (S' := T14.setTop (mkF m 52 #[.val (.int p0), .val (.long q1), .second, .val (.int p2), .val (.ref b1), .unset] [(.int ((((q1.toUInt64 >>> ((32 : Int32) &&& 0x3f).toInt64.toUInt64).toInt64).toInt32).toInt8.toInt32)), (.int (4 : Int32)), (.ref b1)])) (fun _ k => XS.i2b X14.here hx rfl (hb hby at_51) rfl k) ?_
  obtain ⟨T17, h17, X17, e17, W17, V_17, st17⟩ := own_bastore X14 hx hZ e14 V_14 ⟨by decide, by decide⟩ (g := (mkF m 52 #[.val (.int p0), .val (.long q1), .second, .val (.int p2), .val (.ref b1), .unset] [(.int ((((q1.toUInt64 >>> ((32 : Int32) &&& 0x3f).toInt64.toUInt64).toInt64).toInt32).toInt8.toInt32)), (.int (4 : Int32)), (.ref b1)])) rfl rfl (hb hby at_52)
  replace V_17 : AI Z h17 b1 k1 .byte (6 : Int32) [(nar .byte ((q1.toInt32).toInt8.toInt32)), (nar .byte ((((q1.toUInt64 >>> ((8 : Int32) &&& 0x3f).toInt64.toUInt64).toInt64).toInt32).toInt8.toInt32)), (nar .byte ((((q1.toUInt64 >>> ((16 : Int32) &&& 0x3f).toInt64.toUInt64).toInt64).toInt32).toInt8.toInt32)), (nar .byte ((((q1.toUInt64 >>> ((24 : Int32) &&& 0x3f).toInt64.toUInt64).toInt64).toInt32).toInt8.toInt32)), (nar .byte ((((q1.toUInt64 >>> ((32 : Int32) &&& 0x3f).toInt64.toUInt64).toInt64).toInt32).toInt8.toInt32)), (0 : Int32)] := V_17
  have N18 := Fr.snoc X17 N15 g2
  have Z19 : n0 ≤ h17.size := Nat.le_trans Z16 (Nat.le_of_eq W17.size.symm)
  refine Goes.step (S' := T17.setTop (mkF m 53 #[.val (.int p0), .val (.long q1), .second, .val (.int p2), .val (.ref b1), .unset] [])) st17 ?_
  refine Goes.step (S' := T17.setTop (mkF m 55 #[.val (.int p0), .val (.long q1), .second, .val (.int p2), .val (.ref b1), .unset] [(.ref b1)])) (fun _ k => XS.aload X17.here hx rfl (hb hby at_53) rfl rfl k) ?_
  refine Goes.step (S' := T17.setTop (mkF m 56 #[.val (.int p0), .val (.long q1), .second, .val (.int p2), .val (.ref b1), .unset] [(.int (5 : Int32)), (.ref b1)])) (fun _ k => XS.iconst X17.here hx rfl (hb hby at_55) k) ?_
  refine Goes.step (S' := T17.setTop (mkF m 57 #[.val (.int p0), .val (.long q1), .second, .val (.int p2), .val (.ref b1), .unset] [(.long q1), (.int (5 : Int32)), (.ref b1)])) (fun _ k => XS.lloadN X17.here hx rfl (hb hby at_56) rfl  k) ?_
  refine Goes.step (S' := T17.setTop (mkF m 59 #[.val (.int p0), .val (.long q1), .second, .val (.int p2), .val (.ref b1), .unset] [(.int (40 : Int32)), (.long q1), (.int (5 : Int32)), (.ref b1)])) (fun _ k => XS.bipush X17.here hx rfl (hb hby at_57) k) ?_
  refine Goes.step (S' := T17.setTop (mkF m 60 #[.val (.int p0), .val (.long q1), .second, .val (.int p2), .val (.ref b1), .unset] [(.long ((q1.toUInt64 >>> ((40 : Int32) &&& 0x3f).toInt64.toUInt64).toInt64)), (.int (5 : Int32)), (.ref b1)])) (fun _ k => XS.lushr X17.here hx rfl (hb hby at_59) rfl k) ?_
  refine Goes.step (S' := T17.setTop (mkF m 61 #[.val (.int p0), .val (.long q1), .second, .val (.int p2), .val (.ref b1), .unset] [(.int (((q1.toUInt64 >>> ((40 : Int32) &&& 0x3f).toInt64.toUInt64).toInt64).toInt32)), (.int (5 : Int32)), (.ref b1)])) (fun _ k => XS.l2i X17.here hx rfl (hb hby at_60) rfl k) ?_
  refine Goes.step (S' := T17.setTop (mkF m 62 #[.val (.int p0), .val (.long q1), .second, .val (.int p2), .val (.ref b1), .unset] [(.int ((((q1.toUInt64 >>> ((40 : Int32) &&& 0x3f).toInt64.toUInt64).toInt64).toInt32).toInt8.toInt32)), (.int (5 : Int32)), (.ref b1)])) (fun _ k => XS.i2b X17.here hx rfl (hb hby at_61) rfl k) ?_
  obtain ⟨T20, h20, X20, e20, W20, V_20, st20⟩ := own_bastore X17 hx hZ e17 V_17 ⟨by decide, by decide⟩ (g := (mkF m 62 #[.val (.int p0), .val (.long q1), .second, .val (.int p2), .val (.ref b1), .unset] [(.int ((((q1.toUInt64 >>> ((40 : Int32) &&& 0x3f).toInt64.toUInt64).toInt64).toInt32).toInt8.toInt32)), (.int (5 : Int32)), (.ref b1)])) rfl rfl (hb hby at_62)
  replace V_20 : AI Z h20 b1 k1 .byte (6 : Int32) [(nar .byte ((q1.toInt32).toInt8.toInt32)), (nar .byte ((((q1.toUInt64 >>> ((8 : Int32) &&& 0x3f).toInt64.toUInt64).toInt64).toInt32).toInt8.toInt32)), (nar .byte ((((q1.toUInt64 >>> ((16 : Int32) &&& 0x3f).toInt64.toUInt64).toInt64).toInt32).toInt8.toInt32)), (nar .byte ((((q1.toUInt64 >>> ((24 : Int32) &&& 0x3f).toInt64.toUInt64).toInt64).toInt32).toInt8.toInt32)), (nar .byte ((((q1.toUInt64 >>> ((32 : Int32) &&& 0x3f).toInt64.toUInt64).toInt64).toInt32).toInt8.toInt32)), (nar .byte ((((q1.toUInt64 >>> ((40 : Int32) &&& 0x3f).toInt64.toUInt64).toInt64).toInt32).toInt8.toInt32))] := V_20
  have N21 := Fr.snoc X20 N18 g2
  have Z22 : n0 ≤ h20.size := Nat.le_trans Z19 (Nat.le_of_eq W20.size.symm)
  refine Goes.step (S' := T20.setTop (mkF m 63 #[.val (.int p0), .val (.long q1), .second, .val (.int p2), .val (.ref b1), .unset] [])) st20 ?_
  refine Goes.step (S' := T20.setTop (mkF m 64 #[.val (.int p0), .val (.long q1), .second, .val (.int p2), .val (.ref b1), .unset] [(.int p2)])) (fun _ k => XS.iloadN X20.here hx rfl (hb hby at_63) rfl  k) ?_
  refine Goes.step (S' := T20.setTop (mkF m 66 #[.val (.int p0), .val (.long q1), .second, .val (.int p2), .val (.ref b1), .unset] [(.int (2147483647 : Int32)), (.int p2)])) (fun _ k => X20.ldcInt hx hown (mvT hZ (hw _ (List.mem_of_getElem? (i := 1) rfl))) (g := (mkF m 64 #[.val (.int p0), .val (.long q1), .second, .val (.int p2), .val (.ref b1), .unset] [(.int p2)])) rfl (hb hby at_64) _ k) ?_
  refine Goes.step (S' := T20.setTop (mkF m 67 #[.val (.int p0), .val (.long q1), .second, .val (.int p2), .val (.ref b1), .unset] [(.int (p2 &&& (2147483647 : Int32)))])) (fun _ k => XS.iand X20.here hx rfl (hb hby at_66) rfl k) ?_
  refine Goes.step (S' := T20.setTop (mkF m 68 #[.val (.int p0), .val (.long q1), .second, .val (.int p2), .val (.ref b1), .unset] [(.int (3 : Int32)), (.int (p2 &&& (2147483647 : Int32)))])) (fun _ k => XS.iconst X20.here hx rfl (hb hby at_67) k) ?_
  refine Goes.step (S' := T20.setTop (mkF m 69 #[.val (.int p0), .val (.long q1), .second, .val (.int p2), .val (.ref b1), .unset] [(.int ((p2 &&& (2147483647 : Int32)) % (3 : Int32)))])) (fun _ k => iremM X20 hx rfl (hb hby at_68) rfl (by decide) k) ?_
  refine Goes.step (S' := T20.setTop (mkF m 71 #[.val (.int p0), .val (.long q1), .second, .val (.int p2), .val (.ref b1), .val (.int ((p2 &&& (2147483647 : Int32)) % (3 : Int32)))] [])) (fun _ k => XS.istore X20.here hx rfl (hb hby at_69) rfl (l' := #[.val (.int p0), .val (.long q1), .second, .val (.int p2), .val (.ref b1), .val (.int ((p2 &&& (2147483647 : Int32)) % (3 : Int32)))]) rfl k) ?_
  obtain ⟨v5_69, ev5_69⟩ : ∃ z : Int32, z = ((p2 &&& (2147483647 : Int32)) % (3 : Int32)) := ⟨_, rfl⟩
  rw [← ev5_69]
  have hcase := (own_case0_71 p0 q1 p2 v5_69 ev5_69)
  rcases hcase with rfl | rfl | rfl
  · refine Goes.step (S' := T20.setTop (mkF m 73 #[.val (.int p0), .val (.long q1), .second, .val (.int p2), .val (.ref b1), .val (.int (0 : Int32))] [(.ref b1)])) (fun _ k => XS.aload X20.here hx rfl (hb hby at_71) rfl rfl k) ?_
    refine Goes.step (S' := T20.setTop (mkF m 75 #[.val (.int p0), .val (.long q1), .second, .val (.int p2), .val (.ref b1), .val (.int (0 : Int32))] [(.int (0 : Int32)), (.ref b1)])) (fun _ k => XS.iload X20.here hx rfl (hb hby at_73) rfl  k) ?_
    refine Goes.step (S' := T20.setTop (mkF m 76 #[.val (.int p0), .val (.long q1), .second, .val (.int p2), .val (.ref b1), .val (.int (0 : Int32))] [(.int p0), (.int (0 : Int32)), (.ref b1)])) (fun _ k => XS.iloadN X20.here hx rfl (hb hby at_75) rfl  k) ?_
    refine Goes.step (S' := T20.setTop (mkF m 78 #[.val (.int p0), .val (.long q1), .second, .val (.int p2), .val (.ref b1), .val (.int (0 : Int32))] [(.int (24 : Int32)), (.int p0), (.int (0 : Int32)), (.ref b1)])) (fun _ k => XS.bipush X20.here hx rfl (hb hby at_76) k) ?_
    refine Goes.step (S' := T20.setTop (mkF m 79 #[.val (.int p0), .val (.long q1), .second, .val (.int p2), .val (.ref b1), .val (.int (0 : Int32))] [(.int ((p0.toUInt32 >>> ((24 : Int32) &&& 31).toUInt32).toInt32)), (.int (0 : Int32)), (.ref b1)])) (fun _ k => XS.iushr X20.here hx rfl (hb hby at_78) rfl k) ?_
    refine Goes.step (S' := T20.setTop (mkF m 80 #[.val (.int p0), .val (.long q1), .second, .val (.int p2), .val (.ref b1), .val (.int (0 : Int32))] [(.int (((p0.toUInt32 >>> ((24 : Int32) &&& 31).toUInt32).toInt32).toInt8.toInt32)), (.int (0 : Int32)), (.ref b1)])) (fun _ k => XS.i2b X20.here hx rfl (hb hby at_79) rfl k) ?_
    obtain ⟨T23, h23, X23, e23, W23, V_23, st23⟩ := own_bastore X20 hx hZ e20 V_20 ⟨by decide, by decide⟩ (g := (mkF m 80 #[.val (.int p0), .val (.long q1), .second, .val (.int p2), .val (.ref b1), .val (.int (0 : Int32))] [(.int (((p0.toUInt32 >>> ((24 : Int32) &&& 31).toUInt32).toInt32).toInt8.toInt32)), (.int (0 : Int32)), (.ref b1)])) rfl rfl (hb hby at_80)
    replace V_23 : AI Z h23 b1 k1 .byte (6 : Int32) [(nar .byte (((p0.toUInt32 >>> ((24 : Int32) &&& 31).toUInt32).toInt32).toInt8.toInt32)), (nar .byte ((((q1.toUInt64 >>> ((8 : Int32) &&& 0x3f).toInt64.toUInt64).toInt64).toInt32).toInt8.toInt32)), (nar .byte ((((q1.toUInt64 >>> ((16 : Int32) &&& 0x3f).toInt64.toUInt64).toInt64).toInt32).toInt8.toInt32)), (nar .byte ((((q1.toUInt64 >>> ((24 : Int32) &&& 0x3f).toInt64.toUInt64).toInt64).toInt32).toInt8.toInt32)), (nar .byte ((((q1.toUInt64 >>> ((32 : Int32) &&& 0x3f).toInt64.toUInt64).toInt64).toInt32).toInt8.toInt32)), (nar .byte ((((q1.toUInt64 >>> ((40 : Int32) &&& 0x3f).toInt64.toUInt64).toInt64).toInt32).toInt8.toInt32))] := V_23
    have N24 := Fr.snoc X23 N21 g2
    have Z25 : n0 ≤ h23.size := Nat.le_trans Z22 (Nat.le_of_eq W23.size.symm)
    refine Goes.step (S' := T23.setTop (mkF m 81 #[.val (.int p0), .val (.long q1), .second, .val (.int p2), .val (.ref b1), .val (.int (0 : Int32))] [])) st23 ?_
    refine Goes.step (S' := T23.setTop (mkF m 83 #[.val (.int p0), .val (.long q1), .second, .val (.int p2), .val (.ref b1), .val (.int (0 : Int32))] [(.ref b1)])) (fun _ k => XS.aload X23.here hx rfl (hb hby at_81) rfl rfl k) ?_
    refine Goes.step (S' := T23.setTop (mkF m 85 #[.val (.int p0), .val (.long q1), .second, .val (.int p2), .val (.ref b1), .val (.int (0 : Int32))] [(.int (0 : Int32)), (.ref b1)])) (fun _ k => XS.iload X23.here hx rfl (hb hby at_83) rfl  k) ?_
    refine Goes.step (S' := T23.setTop (mkF m 86 #[.val (.int p0), .val (.long q1), .second, .val (.int p2), .val (.ref b1), .val (.int (0 : Int32))] [(.int (1 : Int32)), (.int (0 : Int32)), (.ref b1)])) (fun _ k => XS.iconst X23.here hx rfl (hb hby at_85) k) ?_
    refine Goes.step (S' := T23.setTop (mkF m 87 #[.val (.int p0), .val (.long q1), .second, .val (.int p2), .val (.ref b1), .val (.int (0 : Int32))] [(.int (1 : Int32)), (.ref b1)])) (fun _ k => XS.iadd X23.here hx rfl (hb hby at_86) rfl k) ?_
    refine Goes.step (S' := T23.setTop (mkF m 88 #[.val (.int p0), .val (.long q1), .second, .val (.int p2), .val (.ref b1), .val (.int (0 : Int32))] [(.int p0), (.int (1 : Int32)), (.ref b1)])) (fun _ k => XS.iloadN X23.here hx rfl (hb hby at_87) rfl  k) ?_
    refine Goes.step (S' := T23.setTop (mkF m 90 #[.val (.int p0), .val (.long q1), .second, .val (.int p2), .val (.ref b1), .val (.int (0 : Int32))] [(.int (16 : Int32)), (.int p0), (.int (1 : Int32)), (.ref b1)])) (fun _ k => XS.bipush X23.here hx rfl (hb hby at_88) k) ?_
    refine Goes.step (S' := T23.setTop (mkF m 91 #[.val (.int p0), .val (.long q1), .second, .val (.int p2), .val (.ref b1), .val (.int (0 : Int32))] [(.int ((p0.toUInt32 >>> ((16 : Int32) &&& 31).toUInt32).toInt32)), (.int (1 : Int32)), (.ref b1)])) (fun _ k => XS.iushr X23.here hx rfl (hb hby at_90) rfl k) ?_
    refine Goes.step (S' := T23.setTop (mkF m 92 #[.val (.int p0), .val (.long q1), .second, .val (.int p2), .val (.ref b1), .val (.int (0 : Int32))] [(.int (((p0.toUInt32 >>> ((16 : Int32) &&& 31).toUInt32).toInt32).toInt8.toInt32)), (.int (1 : Int32)), (.ref b1)])) (fun _ k => XS.i2b X23.here hx rfl (hb hby at_91) rfl k) ?_
    obtain ⟨T26, h26, X26, e26, W26, V_26, st26⟩ := own_bastore X23 hx hZ e23 V_23 ⟨by decide, by decide⟩ (g := (mkF m 92 #[.val (.int p0), .val (.long q1), .second, .val (.int p2), .val (.ref b1), .val (.int (0 : Int32))] [(.int (((p0.toUInt32 >>> ((16 : Int32) &&& 31).toUInt32).toInt32).toInt8.toInt32)), (.int (1 : Int32)), (.ref b1)])) rfl rfl (hb hby at_92)
    replace V_26 : AI Z h26 b1 k1 .byte (6 : Int32) [(nar .byte (((p0.toUInt32 >>> ((24 : Int32) &&& 31).toUInt32).toInt32).toInt8.toInt32)), (nar .byte (((p0.toUInt32 >>> ((16 : Int32) &&& 31).toUInt32).toInt32).toInt8.toInt32)), (nar .byte ((((q1.toUInt64 >>> ((16 : Int32) &&& 0x3f).toInt64.toUInt64).toInt64).toInt32).toInt8.toInt32)), (nar .byte ((((q1.toUInt64 >>> ((24 : Int32) &&& 0x3f).toInt64.toUInt64).toInt64).toInt32).toInt8.toInt32)), (nar .byte ((((q1.toUInt64 >>> ((32 : Int32) &&& 0x3f).toInt64.toUInt64).toInt64).toInt32).toInt8.toInt32)), (nar .byte ((((q1.toUInt64 >>> ((40 : Int32) &&& 0x3f).toInt64.toUInt64).toInt64).toInt32).toInt8.toInt32))] := V_26
    have N27 := Fr.snoc X26 N24 g2
    have Z28 : n0 ≤ h26.size := Nat.le_trans Z25 (Nat.le_of_eq W26.size.symm)
    refine Goes.step (S' := T26.setTop (mkF m 93 #[.val (.int p0), .val (.long q1), .second, .val (.int p2), .val (.ref b1), .val (.int (0 : Int32))] [])) st26 ?_
    refine Goes.step (S' := T26.setTop (mkF m 95 #[.val (.int p0), .val (.long q1), .second, .val (.int p2), .val (.ref b1), .val (.int (0 : Int32))] [(.ref b1)])) (fun _ k => XS.aload X26.here hx rfl (hb hby at_93) rfl rfl k) ?_
    refine Goes.step (S' := T26.setTop (mkF m 97 #[.val (.int p0), .val (.long q1), .second, .val (.int p2), .val (.ref b1), .val (.int (0 : Int32))] [(.int (0 : Int32)), (.ref b1)])) (fun _ k => XS.iload X26.here hx rfl (hb hby at_95) rfl  k) ?_
    refine Goes.step (S' := T26.setTop (mkF m 98 #[.val (.int p0), .val (.long q1), .second, .val (.int p2), .val (.ref b1), .val (.int (0 : Int32))] [(.int (2 : Int32)), (.int (0 : Int32)), (.ref b1)])) (fun _ k => XS.iconst X26.here hx rfl (hb hby at_97) k) ?_
    refine Goes.step (S' := T26.setTop (mkF m 99 #[.val (.int p0), .val (.long q1), .second, .val (.int p2), .val (.ref b1), .val (.int (0 : Int32))] [(.int (2 : Int32)), (.ref b1)])) (fun _ k => XS.iadd X26.here hx rfl (hb hby at_98) rfl k) ?_
    refine Goes.step (S' := T26.setTop (mkF m 100 #[.val (.int p0), .val (.long q1), .second, .val (.int p2), .val (.ref b1), .val (.int (0 : Int32))] [(.int p0), (.int (2 : Int32)), (.ref b1)])) (fun _ k => XS.iloadN X26.here hx rfl (hb hby at_99) rfl  k) ?_
    refine Goes.step (S' := T26.setTop (mkF m 102 #[.val (.int p0), .val (.long q1), .second, .val (.int p2), .val (.ref b1), .val (.int (0 : Int32))] [(.int (8 : Int32)), (.int p0), (.int (2 : Int32)), (.ref b1)])) (fun _ k => XS.bipush X26.here hx rfl (hb hby at_100) k) ?_
    refine Goes.step (S' := T26.setTop (mkF m 103 #[.val (.int p0), .val (.long q1), .second, .val (.int p2), .val (.ref b1), .val (.int (0 : Int32))] [(.int ((p0.toUInt32 >>> ((8 : Int32) &&& 31).toUInt32).toInt32)), (.int (2 : Int32)), (.ref b1)])) (fun _ k => XS.iushr X26.here hx rfl (hb hby at_102) rfl k) ?_
    refine Goes.step (S' := T26.setTop (mkF m 104 #[.val (.int p0), .val (.long q1), .second, .val (.int p2), .val (.ref b1), .val (.int (0 : Int32))] [(.int (((p0.toUInt32 >>> ((8 : Int32) &&& 31).toUInt32).toInt32).toInt8.toInt32)), (.int (2 : Int32)), (.ref b1)])) (fun _ k => XS.i2b X26.here hx rfl (hb hby at_103) rfl k) ?_
    obtain ⟨T29, h29, X29, e29, W29, V_29, st29⟩ := own_bastore X26 hx hZ e26 V_26 ⟨by decide, by decide⟩ (g := (mkF m 104 #[.val (.int p0), .val (.long q1), .second, .val (.int p2), .val (.ref b1), .val (.int (0 : Int32))] [(.int (((p0.toUInt32 >>> ((8 : Int32) &&& 31).toUInt32).toInt32).toInt8.toInt32)), (.int (2 : Int32)), (.ref b1)])) rfl rfl (hb hby at_104)
    replace V_29 : AI Z h29 b1 k1 .byte (6 : Int32) [(nar .byte (((p0.toUInt32 >>> ((24 : Int32) &&& 31).toUInt32).toInt32).toInt8.toInt32)), (nar .byte (((p0.toUInt32 >>> ((16 : Int32) &&& 31).toUInt32).toInt32).toInt8.toInt32)), (nar .byte (((p0.toUInt32 >>> ((8 : Int32) &&& 31).toUInt32).toInt32).toInt8.toInt32)), (nar .byte ((((q1.toUInt64 >>> ((24 : Int32) &&& 0x3f).toInt64.toUInt64).toInt64).toInt32).toInt8.toInt32)), (nar .byte ((((q1.toUInt64 >>> ((32 : Int32) &&& 0x3f).toInt64.toUInt64).toInt64).toInt32).toInt8.toInt32)), (nar .byte ((((q1.toUInt64 >>> ((40 : Int32) &&& 0x3f).toInt64.toUInt64).toInt64).toInt32).toInt8.toInt32))] := V_29
    have N30 := Fr.snoc X29 N27 g2
    have Z31 : n0 ≤ h29.size := Nat.le_trans Z28 (Nat.le_of_eq W29.size.symm)
    refine Goes.step (S' := T29.setTop (mkF m 105 #[.val (.int p0), .val (.long q1), .second, .val (.int p2), .val (.ref b1), .val (.int (0 : Int32))] [])) st29 ?_
    refine Goes.step (S' := T29.setTop (mkF m 107 #[.val (.int p0), .val (.long q1), .second, .val (.int p2), .val (.ref b1), .val (.int (0 : Int32))] [(.ref b1)])) (fun _ k => XS.aload X29.here hx rfl (hb hby at_105) rfl rfl k) ?_
    refine Goes.step (S' := T29.setTop (mkF m 109 #[.val (.int p0), .val (.long q1), .second, .val (.int p2), .val (.ref b1), .val (.int (0 : Int32))] [(.int (0 : Int32)), (.ref b1)])) (fun _ k => XS.iload X29.here hx rfl (hb hby at_107) rfl  k) ?_
    refine Goes.step (S' := T29.setTop (mkF m 110 #[.val (.int p0), .val (.long q1), .second, .val (.int p2), .val (.ref b1), .val (.int (0 : Int32))] [(.int (3 : Int32)), (.int (0 : Int32)), (.ref b1)])) (fun _ k => XS.iconst X29.here hx rfl (hb hby at_109) k) ?_
    refine Goes.step (S' := T29.setTop (mkF m 111 #[.val (.int p0), .val (.long q1), .second, .val (.int p2), .val (.ref b1), .val (.int (0 : Int32))] [(.int (3 : Int32)), (.ref b1)])) (fun _ k => XS.iadd X29.here hx rfl (hb hby at_110) rfl k) ?_
    refine Goes.step (S' := T29.setTop (mkF m 112 #[.val (.int p0), .val (.long q1), .second, .val (.int p2), .val (.ref b1), .val (.int (0 : Int32))] [(.int p0), (.int (3 : Int32)), (.ref b1)])) (fun _ k => XS.iloadN X29.here hx rfl (hb hby at_111) rfl  k) ?_
    refine Goes.step (S' := T29.setTop (mkF m 113 #[.val (.int p0), .val (.long q1), .second, .val (.int p2), .val (.ref b1), .val (.int (0 : Int32))] [(.int (p0.toInt8.toInt32)), (.int (3 : Int32)), (.ref b1)])) (fun _ k => XS.i2b X29.here hx rfl (hb hby at_112) rfl k) ?_
    obtain ⟨T32, h32, X32, e32, W32, V_32, st32⟩ := own_bastore X29 hx hZ e29 V_29 ⟨by decide, by decide⟩ (g := (mkF m 113 #[.val (.int p0), .val (.long q1), .second, .val (.int p2), .val (.ref b1), .val (.int (0 : Int32))] [(.int (p0.toInt8.toInt32)), (.int (3 : Int32)), (.ref b1)])) rfl rfl (hb hby at_113)
    replace V_32 : AI Z h32 b1 k1 .byte (6 : Int32) [(nar .byte (((p0.toUInt32 >>> ((24 : Int32) &&& 31).toUInt32).toInt32).toInt8.toInt32)), (nar .byte (((p0.toUInt32 >>> ((16 : Int32) &&& 31).toUInt32).toInt32).toInt8.toInt32)), (nar .byte (((p0.toUInt32 >>> ((8 : Int32) &&& 31).toUInt32).toInt32).toInt8.toInt32)), (nar .byte (p0.toInt8.toInt32)), (nar .byte ((((q1.toUInt64 >>> ((32 : Int32) &&& 0x3f).toInt64.toUInt64).toInt64).toInt32).toInt8.toInt32)), (nar .byte ((((q1.toUInt64 >>> ((40 : Int32) &&& 0x3f).toInt64.toUInt64).toInt64).toInt32).toInt8.toInt32))] := V_32
    have N33 := Fr.snoc X32 N30 g2
    have Z34 : n0 ≤ h32.size := Nat.le_trans Z31 (Nat.le_of_eq W32.size.symm)
    refine Goes.step (S' := T32.setTop (mkF m 114 #[.val (.int p0), .val (.long q1), .second, .val (.int p2), .val (.ref b1), .val (.int (0 : Int32))] [])) st32 ?_
    refine Goes.step (S' := T32.setTop (mkF m 116 #[.val (.int p0), .val (.long q1), .second, .val (.int p2), .val (.ref b1), .val (.int (0 : Int32))] [(.ref b1)])) (fun _ k => XS.aload X32.here hx rfl (hb hby at_114) rfl rfl k) ?_
    refine Goes.step (S' := T32.setTop (mkF m 118 #[.val (.int p0), .val (.long q1), .second, .val (.int p2), .val (.ref b1), .val (.int (0 : Int32))] [(.int (0 : Int32)), (.ref b1)])) (fun _ k => XS.iload X32.here hx rfl (hb hby at_116) rfl  k) ?_
    obtain ⟨_, _, ⟨T35, L35, k35, n35⟩, -, X35, ⟨Lc35, hQ35, l35, y35, z35⟩, st35⟩ := Jvm.LawKit.callS X32 hx (y := (⟨"com/example/marginalia/marginalia/classfile/ClassBytes", "u4", "([BI)I"⟩ : MethodName)) hown (mvT hZ (hw _ (List.mem_of_getElem? (i := 2) rfl))) (mvT hZ (hw _ (List.mem_of_getElem? (i := 3) rfl))) (mvT hZ (hw _ (List.mem_of_getElem? (i := 4) rfl))) (mvT hZ (hw _ (List.mem_of_getElem? (i := 5) rfl))) (by decide) (backOf (W := 0) (rm1 l Z a0 hw [] b1 (0 : Int32) k1 ((6 : Int32)) ([(nar .byte (((p0.toUInt32 >>> ((24 : Int32) &&& 31).toUInt32).toInt32).toInt8.toInt32)), (nar .byte (((p0.toUInt32 >>> ((16 : Int32) &&& 31).toUInt32).toInt32).toInt8.toInt32)), (nar .byte (((p0.toUInt32 >>> ((8 : Int32) &&& 31).toUInt32).toInt32).toInt8.toInt32)), (nar .byte (p0.toInt8.toInt32)), (nar .byte ((((q1.toUInt64 >>> ((32 : Int32) &&& 0x3f).toInt64.toUInt64).toInt64).toInt32).toInt8.toInt32)), (nar .byte ((((q1.toUInt64 >>> ((40 : Int32) &&& 0x3f).toInt64.toUInt64).toInt64).toInt32).toInt8.toInt32))]) h32 n0 Z34 V_32 (own_pr0_118_hB p0 q1 p2 ev5_69) (own_pr0_118_hb2 p0 q1 p2 ev5_69) (own_pr0_118_hb3 p0 q1 p2 ev5_69) (own_pr0_118_hb4 p0 q1 p2 ev5_69)) hZ (hw _ (List.mem_of_getElem? (i := 5) rfl)) (hw _ (List.mem_of_getElem? (i := 4) rfl)) (by decide) (by decide)) (g := (mkF m 118 #[.val (.int p0), .val (.long q1), .second, .val (.int p2), .val (.ref b1), .val (.int (0 : Int32))] [(.int (0 : Int32)), (.ref b1)])) rfl (by rw [hml]; rfl) (argsL := [(.ref b1), (.int (0 : Int32))]) (rest := []) (lenOf pd0 rfl) rfl (by show 2 * 0 + _ ≤ _; exact Nat.le_of_eq rfl) (hb hby at_118) (fun _ _ => ⟨rfl, e32, (by decide : 1 + 0 ≤ _), (by decide : 6 + 0 ≤ _)⟩)
    dsimp only [Pt.U, Pt.locs, Pt.cells, Pt.slots] at X35 l35 y35 z35 st35 hQ35
    subst l35 y35 z35
    obtain ⟨rfl, N35q, e35⟩ := hQ35
    have N36 := Fr.app N33 N35q
    refine Goes.step (S' := T35.setTop (mkF m 121 #[.val (.int p0), .val (.long q1), .second, .val (.int p2), .val (.ref b1), .val (.int (0 : Int32))] [(.int (f1 (6 : Int32) [(nar .byte (((p0.toUInt32 >>> ((24 : Int32) &&& 31).toUInt32).toInt32).toInt8.toInt32)), (nar .byte (((p0.toUInt32 >>> ((16 : Int32) &&& 31).toUInt32).toInt32).toInt8.toInt32)), (nar .byte (((p0.toUInt32 >>> ((8 : Int32) &&& 31).toUInt32).toInt32).toInt8.toInt32)), (nar .byte (p0.toInt8.toInt32)), (nar .byte ((((q1.toUInt64 >>> ((32 : Int32) &&& 0x3f).toInt64.toUInt64).toInt64).toInt32).toInt8.toInt32)), (nar .byte ((((q1.toUInt64 >>> ((40 : Int32) &&& 0x3f).toInt64.toUInt64).toInt64).toInt32).toInt8.toInt32))] (0 : Int32)))])) st35 ?_
    refine Goes.step (S' := T35.setTop (mkF m 122 #[.val (.int p0), .val (.long q1), .second, .val (.int p2), .val (.ref b1), .val (.int (0 : Int32))] [(.int p0), (.int (f1 (6 : Int32) [(nar .byte (((p0.toUInt32 >>> ((24 : Int32) &&& 31).toUInt32).toInt32).toInt8.toInt32)), (nar .byte (((p0.toUInt32 >>> ((16 : Int32) &&& 31).toUInt32).toInt32).toInt8.toInt32)), (nar .byte (((p0.toUInt32 >>> ((8 : Int32) &&& 31).toUInt32).toInt32).toInt8.toInt32)), (nar .byte (p0.toInt8.toInt32)), (nar .byte ((((q1.toUInt64 >>> ((32 : Int32) &&& 0x3f).toInt64.toUInt64).toInt64).toInt32).toInt8.toInt32)), (nar .byte ((((q1.toUInt64 >>> ((40 : Int32) &&& 0x3f).toInt64.toUInt64).toInt64).toInt32).toInt8.toInt32))] (0 : Int32)))])) (fun _ k => XS.iloadN X35.here hx rfl (hb hby at_121) rfl  k) ?_
    refine Goes.step (S' := T35.setTop (mkF m 125 #[.val (.int p0), .val (.long q1), .second, .val (.int p2), .val (.ref b1), .val (.int (0 : Int32))] [])) (fun _ k => XS.icmpNo X35.here hx rfl (hb hby at_122) rfl (teq (own_hc0_122 p0 q1 p2 ev5_69)).2 k) ?_
    refine Goes.step (S' := T35.setTop (mkF m 126 #[.val (.int p0), .val (.long q1), .second, .val (.int p2), .val (.ref b1), .val (.int (0 : Int32))] [(.int (1 : Int32))])) (fun _ k => XS.iconst X35.here hx rfl (hb hby at_125) k) ?_
    refine Goes.step (S' := T35.setTop (mkF m 130 #[.val (.int p0), .val (.long q1), .second, .val (.int p2), .val (.ref b1), .val (.int (0 : Int32))] [(.int (1 : Int32))])) (fun _ k => XS.goto X35.here hx rfl (pc0 := 126) (pc' := 130) rfl (hb hby at_126) (by decide) (by decide) k) ?_
    refine Goes.retN X35 hx Bd.notSynchronized (t := .boolean) Bd.returns (by simp) (hb hby at_130) (by decide) (by decide) ?_
    exact ⟨rfl, N36⟩
  · refine Goes.step (S' := T20.setTop (mkF m 73 #[.val (.int p0), .val (.long q1), .second, .val (.int p2), .val (.ref b1), .val (.int (1 : Int32))] [(.ref b1)])) (fun _ k => XS.aload X20.here hx rfl (hb hby at_71) rfl rfl k) ?_
    refine Goes.step (S' := T20.setTop (mkF m 75 #[.val (.int p0), .val (.long q1), .second, .val (.int p2), .val (.ref b1), .val (.int (1 : Int32))] [(.int (1 : Int32)), (.ref b1)])) (fun _ k => XS.iload X20.here hx rfl (hb hby at_73) rfl  k) ?_
    refine Goes.step (S' := T20.setTop (mkF m 76 #[.val (.int p0), .val (.long q1), .second, .val (.int p2), .val (.ref b1), .val (.int (1 : Int32))] [(.int p0), (.int (1 : Int32)), (.ref b1)])) (fun _ k => XS.iloadN X20.here hx rfl (hb hby at_75) rfl  k) ?_
    refine Goes.step (S' := T20.setTop (mkF m 78 #[.val (.int p0), .val (.long q1), .second, .val (.int p2), .val (.ref b1), .val (.int (1 : Int32))] [(.int (24 : Int32)), (.int p0), (.int (1 : Int32)), (.ref b1)])) (fun _ k => XS.bipush X20.here hx rfl (hb hby at_76) k) ?_
    refine Goes.step (S' := T20.setTop (mkF m 79 #[.val (.int p0), .val (.long q1), .second, .val (.int p2), .val (.ref b1), .val (.int (1 : Int32))] [(.int ((p0.toUInt32 >>> ((24 : Int32) &&& 31).toUInt32).toInt32)), (.int (1 : Int32)), (.ref b1)])) (fun _ k => XS.iushr X20.here hx rfl (hb hby at_78) rfl k) ?_
    refine Goes.step (S' := T20.setTop (mkF m 80 #[.val (.int p0), .val (.long q1), .second, .val (.int p2), .val (.ref b1), .val (.int (1 : Int32))] [(.int (((p0.toUInt32 >>> ((24 : Int32) &&& 31).toUInt32).toInt32).toInt8.toInt32)), (.int (1 : Int32)), (.ref b1)])) (fun _ k => XS.i2b X20.here hx rfl (hb hby at_79) rfl k) ?_
    obtain ⟨T37, h37, X37, e37, W37, V_37, st37⟩ := own_bastore X20 hx hZ e20 V_20 ⟨by decide, by decide⟩ (g := (mkF m 80 #[.val (.int p0), .val (.long q1), .second, .val (.int p2), .val (.ref b1), .val (.int (1 : Int32))] [(.int (((p0.toUInt32 >>> ((24 : Int32) &&& 31).toUInt32).toInt32).toInt8.toInt32)), (.int (1 : Int32)), (.ref b1)])) rfl rfl (hb hby at_80)
    replace V_37 : AI Z h37 b1 k1 .byte (6 : Int32) [(nar .byte ((q1.toInt32).toInt8.toInt32)), (nar .byte (((p0.toUInt32 >>> ((24 : Int32) &&& 31).toUInt32).toInt32).toInt8.toInt32)), (nar .byte ((((q1.toUInt64 >>> ((16 : Int32) &&& 0x3f).toInt64.toUInt64).toInt64).toInt32).toInt8.toInt32)), (nar .byte ((((q1.toUInt64 >>> ((24 : Int32) &&& 0x3f).toInt64.toUInt64).toInt64).toInt32).toInt8.toInt32)), (nar .byte ((((q1.toUInt64 >>> ((32 : Int32) &&& 0x3f).toInt64.toUInt64).toInt64).toInt32).toInt8.toInt32)), (nar .byte ((((q1.toUInt64 >>> ((40 : Int32) &&& 0x3f).toInt64.toUInt64).toInt64).toInt32).toInt8.toInt32))] := V_37
    have N38 := Fr.snoc X37 N21 g2
    have Z39 : n0 ≤ h37.size := Nat.le_trans Z22 (Nat.le_of_eq W37.size.symm)
    refine Goes.step (S' := T37.setTop (mkF m 81 #[.val (.int p0), .val (.long q1), .second, .val (.int p2), .val (.ref b1), .val (.int (1 : Int32))] [])) st37 ?_
    refine Goes.step (S' := T37.setTop (mkF m 83 #[.val (.int p0), .val (.long q1), .second, .val (.int p2), .val (.ref b1), .val (.int (1 : Int32))] [(.ref b1)])) (fun _ k => XS.aload X37.here hx rfl (hb hby at_81) rfl rfl k) ?_
    refine Goes.step (S' := T37.setTop (mkF m 85 #[.val (.int p0), .val (.long q1), .second, .val (.int p2), .val (.ref b1), .val (.int (1 : Int32))] [(.int (1 : Int32)), (.ref b1)])) (fun _ k => XS.iload X37.here hx rfl (hb hby at_83) rfl  k) ?_
    refine Goes.step (S' := T37.setTop (mkF m 86 #[.val (.int p0), .val (.long q1), .second, .val (.int p2), .val (.ref b1), .val (.int (1 : Int32))] [(.int (1 : Int32)), (.int (1 : Int32)), (.ref b1)])) (fun _ k => XS.iconst X37.here hx rfl (hb hby at_85) k) ?_
    refine Goes.step (S' := T37.setTop (mkF m 87 #[.val (.int p0), .val (.long q1), .second, .val (.int p2), .val (.ref b1), .val (.int (1 : Int32))] [(.int (2 : Int32)), (.ref b1)])) (fun _ k => XS.iadd X37.here hx rfl (hb hby at_86) rfl k) ?_
    refine Goes.step (S' := T37.setTop (mkF m 88 #[.val (.int p0), .val (.long q1), .second, .val (.int p2), .val (.ref b1), .val (.int (1 : Int32))] [(.int p0), (.int (2 : Int32)), (.ref b1)])) (fun _ k => XS.iloadN X37.here hx rfl (hb hby at_87) rfl  k) ?_
    refine Goes.step (S' := T37.setTop (mkF m 90 #[.val (.int p0), .val (.long q1), .second, .val (.int p2), .val (.ref b1), .val (.int (1 : Int32))] [(.int (16 : Int32)), (.int p0), (.int (2 : Int32)), (.ref b1)])) (fun _ k => XS.bipush X37.here hx rfl (hb hby at_88) k) ?_
    refine Goes.step (S' := T37.setTop (mkF m 91 #[.val (.int p0), .val (.long q1), .second, .val (.int p2), .val (.ref b1), .val (.int (1 : Int32))] [(.int ((p0.toUInt32 >>> ((16 : Int32) &&& 31).toUInt32).toInt32)), (.int (2 : Int32)), (.ref b1)])) (fun _ k => XS.iushr X37.here hx rfl (hb hby at_90) rfl k) ?_
    refine Goes.step (S' := T37.setTop (mkF m 92 #[.val (.int p0), .val (.long q1), .second, .val (.int p2), .val (.ref b1), .val (.int (1 : Int32))] [(.int (((p0.toUInt32 >>> ((16 : Int32) &&& 31).toUInt32).toInt32).toInt8.toInt32)), (.int (2 : Int32)), (.ref b1)])) (fun _ k => XS.i2b X37.here hx rfl (hb hby at_91) rfl k) ?_
    obtain ⟨T40, h40, X40, e40, W40, V_40, st40⟩ := own_bastore X37 hx hZ e37 V_37 ⟨by decide, by decide⟩ (g := (mkF m 92 #[.val (.int p0), .val (.long q1), .second, .val (.int p2), .val (.ref b1), .val (.int (1 : Int32))] [(.int (((p0.toUInt32 >>> ((16 : Int32) &&& 31).toUInt32).toInt32).toInt8.toInt32)), (.int (2 : Int32)), (.ref b1)])) rfl rfl (hb hby at_92)
    replace V_40 : AI Z h40 b1 k1 .byte (6 : Int32) [(nar .byte ((q1.toInt32).toInt8.toInt32)), (nar .byte (((p0.toUInt32 >>> ((24 : Int32) &&& 31).toUInt32).toInt32).toInt8.toInt32)), (nar .byte (((p0.toUInt32 >>> ((16 : Int32) &&& 31).toUInt32).toInt32).toInt8.toInt32)), (nar .byte ((((q1.toUInt64 >>> ((24 : Int32) &&& 0x3f).toInt64.toUInt64).toInt64).toInt32).toInt8.toInt32)), (nar .byte ((((q1.toUInt64 >>> ((32 : Int32) &&& 0x3f).toInt64.toUInt64).toInt64).toInt32).toInt8.toInt32)), (nar .byte ((((q1.toUInt64 >>> ((40 : Int32) &&& 0x3f).toInt64.toUInt64).toInt64).toInt32).toInt8.toInt32))] := V_40
    have N41 := Fr.snoc X40 N38 g2
    have Z42 : n0 ≤ h40.size := Nat.le_trans Z39 (Nat.le_of_eq W40.size.symm)
    refine Goes.step (S' := T40.setTop (mkF m 93 #[.val (.int p0), .val (.long q1), .second, .val (.int p2), .val (.ref b1), .val (.int (1 : Int32))] [])) st40 ?_
    refine Goes.step (S' := T40.setTop (mkF m 95 #[.val (.int p0), .val (.long q1), .second, .val (.int p2), .val (.ref b1), .val (.int (1 : Int32))] [(.ref b1)])) (fun _ k => XS.aload X40.here hx rfl (hb hby at_93) rfl rfl k) ?_
    refine Goes.step (S' := T40.setTop (mkF m 97 #[.val (.int p0), .val (.long q1), .second, .val (.int p2), .val (.ref b1), .val (.int (1 : Int32))] [(.int (1 : Int32)), (.ref b1)])) (fun _ k => XS.iload X40.here hx rfl (hb hby at_95) rfl  k) ?_
    refine Goes.step (S' := T40.setTop (mkF m 98 #[.val (.int p0), .val (.long q1), .second, .val (.int p2), .val (.ref b1), .val (.int (1 : Int32))] [(.int (2 : Int32)), (.int (1 : Int32)), (.ref b1)])) (fun _ k => XS.iconst X40.here hx rfl (hb hby at_97) k) ?_
    refine Goes.step (S' := T40.setTop (mkF m 99 #[.val (.int p0), .val (.long q1), .second, .val (.int p2), .val (.ref b1), .val (.int (1 : Int32))] [(.int (3 : Int32)), (.ref b1)])) (fun _ k => XS.iadd X40.here hx rfl (hb hby at_98) rfl k) ?_
    refine Goes.step (S' := T40.setTop (mkF m 100 #[.val (.int p0), .val (.long q1), .second, .val (.int p2), .val (.ref b1), .val (.int (1 : Int32))] [(.int p0), (.int (3 : Int32)), (.ref b1)])) (fun _ k => XS.iloadN X40.here hx rfl (hb hby at_99) rfl  k) ?_
    refine Goes.step (S' := T40.setTop (mkF m 102 #[.val (.int p0), .val (.long q1), .second, .val (.int p2), .val (.ref b1), .val (.int (1 : Int32))] [(.int (8 : Int32)), (.int p0), (.int (3 : Int32)), (.ref b1)])) (fun _ k => XS.bipush X40.here hx rfl (hb hby at_100) k) ?_
    refine Goes.step (S' := T40.setTop (mkF m 103 #[.val (.int p0), .val (.long q1), .second, .val (.int p2), .val (.ref b1), .val (.int (1 : Int32))] [(.int ((p0.toUInt32 >>> ((8 : Int32) &&& 31).toUInt32).toInt32)), (.int (3 : Int32)), (.ref b1)])) (fun _ k => XS.iushr X40.here hx rfl (hb hby at_102) rfl k) ?_
    refine Goes.step (S' := T40.setTop (mkF m 104 #[.val (.int p0), .val (.long q1), .second, .val (.int p2), .val (.ref b1), .val (.int (1 : Int32))] [(.int (((p0.toUInt32 >>> ((8 : Int32) &&& 31).toUInt32).toInt32).toInt8.toInt32)), (.int (3 : Int32)), (.ref b1)])) (fun _ k => XS.i2b X40.here hx rfl (hb hby at_103) rfl k) ?_
    obtain ⟨T43, h43, X43, e43, W43, V_43, st43⟩ := own_bastore X40 hx hZ e40 V_40 ⟨by decide, by decide⟩ (g := (mkF m 104 #[.val (.int p0), .val (.long q1), .second, .val (.int p2), .val (.ref b1), .val (.int (1 : Int32))] [(.int (((p0.toUInt32 >>> ((8 : Int32) &&& 31).toUInt32).toInt32).toInt8.toInt32)), (.int (3 : Int32)), (.ref b1)])) rfl rfl (hb hby at_104)
    replace V_43 : AI Z h43 b1 k1 .byte (6 : Int32) [(nar .byte ((q1.toInt32).toInt8.toInt32)), (nar .byte (((p0.toUInt32 >>> ((24 : Int32) &&& 31).toUInt32).toInt32).toInt8.toInt32)), (nar .byte (((p0.toUInt32 >>> ((16 : Int32) &&& 31).toUInt32).toInt32).toInt8.toInt32)), (nar .byte (((p0.toUInt32 >>> ((8 : Int32) &&& 31).toUInt32).toInt32).toInt8.toInt32)), (nar .byte ((((q1.toUInt64 >>> ((32 : Int32) &&& 0x3f).toInt64.toUInt64).toInt64).toInt32).toInt8.toInt32)), (nar .byte ((((q1.toUInt64 >>> ((40 : Int32) &&& 0x3f).toInt64.toUInt64).toInt64).toInt32).toInt8.toInt32))] := V_43
    have N44 := Fr.snoc X43 N41 g2
    have Z45 : n0 ≤ h43.size := Nat.le_trans Z42 (Nat.le_of_eq W43.size.symm)
    refine Goes.step (S' := T43.setTop (mkF m 105 #[.val (.int p0), .val (.long q1), .second, .val (.int p2), .val (.ref b1), .val (.int (1 : Int32))] [])) st43 ?_
    refine Goes.step (S' := T43.setTop (mkF m 107 #[.val (.int p0), .val (.long q1), .second, .val (.int p2), .val (.ref b1), .val (.int (1 : Int32))] [(.ref b1)])) (fun _ k => XS.aload X43.here hx rfl (hb hby at_105) rfl rfl k) ?_
    refine Goes.step (S' := T43.setTop (mkF m 109 #[.val (.int p0), .val (.long q1), .second, .val (.int p2), .val (.ref b1), .val (.int (1 : Int32))] [(.int (1 : Int32)), (.ref b1)])) (fun _ k => XS.iload X43.here hx rfl (hb hby at_107) rfl  k) ?_
    refine Goes.step (S' := T43.setTop (mkF m 110 #[.val (.int p0), .val (.long q1), .second, .val (.int p2), .val (.ref b1), .val (.int (1 : Int32))] [(.int (3 : Int32)), (.int (1 : Int32)), (.ref b1)])) (fun _ k => XS.iconst X43.here hx rfl (hb hby at_109) k) ?_
    refine Goes.step (S' := T43.setTop (mkF m 111 #[.val (.int p0), .val (.long q1), .second, .val (.int p2), .val (.ref b1), .val (.int (1 : Int32))] [(.int (4 : Int32)), (.ref b1)])) (fun _ k => XS.iadd X43.here hx rfl (hb hby at_110) rfl k) ?_
    refine Goes.step (S' := T43.setTop (mkF m 112 #[.val (.int p0), .val (.long q1), .second, .val (.int p2), .val (.ref b1), .val (.int (1 : Int32))] [(.int p0), (.int (4 : Int32)), (.ref b1)])) (fun _ k => XS.iloadN X43.here hx rfl (hb hby at_111) rfl  k) ?_
    refine Goes.step (S' := T43.setTop (mkF m 113 #[.val (.int p0), .val (.long q1), .second, .val (.int p2), .val (.ref b1), .val (.int (1 : Int32))] [(.int (p0.toInt8.toInt32)), (.int (4 : Int32)), (.ref b1)])) (fun _ k => XS.i2b X43.here hx rfl (hb hby at_112) rfl k) ?_
    obtain ⟨T46, h46, X46, e46, W46, V_46, st46⟩ := own_bastore X43 hx hZ e43 V_43 ⟨by decide, by decide⟩ (g := (mkF m 113 #[.val (.int p0), .val (.long q1), .second, .val (.int p2), .val (.ref b1), .val (.int (1 : Int32))] [(.int (p0.toInt8.toInt32)), (.int (4 : Int32)), (.ref b1)])) rfl rfl (hb hby at_113)
    replace V_46 : AI Z h46 b1 k1 .byte (6 : Int32) [(nar .byte ((q1.toInt32).toInt8.toInt32)), (nar .byte (((p0.toUInt32 >>> ((24 : Int32) &&& 31).toUInt32).toInt32).toInt8.toInt32)), (nar .byte (((p0.toUInt32 >>> ((16 : Int32) &&& 31).toUInt32).toInt32).toInt8.toInt32)), (nar .byte (((p0.toUInt32 >>> ((8 : Int32) &&& 31).toUInt32).toInt32).toInt8.toInt32)), (nar .byte (p0.toInt8.toInt32)), (nar .byte ((((q1.toUInt64 >>> ((40 : Int32) &&& 0x3f).toInt64.toUInt64).toInt64).toInt32).toInt8.toInt32))] := V_46
    have N47 := Fr.snoc X46 N44 g2
    have Z48 : n0 ≤ h46.size := Nat.le_trans Z45 (Nat.le_of_eq W46.size.symm)
    refine Goes.step (S' := T46.setTop (mkF m 114 #[.val (.int p0), .val (.long q1), .second, .val (.int p2), .val (.ref b1), .val (.int (1 : Int32))] [])) st46 ?_
    refine Goes.step (S' := T46.setTop (mkF m 116 #[.val (.int p0), .val (.long q1), .second, .val (.int p2), .val (.ref b1), .val (.int (1 : Int32))] [(.ref b1)])) (fun _ k => XS.aload X46.here hx rfl (hb hby at_114) rfl rfl k) ?_
    refine Goes.step (S' := T46.setTop (mkF m 118 #[.val (.int p0), .val (.long q1), .second, .val (.int p2), .val (.ref b1), .val (.int (1 : Int32))] [(.int (1 : Int32)), (.ref b1)])) (fun _ k => XS.iload X46.here hx rfl (hb hby at_116) rfl  k) ?_
    obtain ⟨_, _, ⟨T49, L49, k49, n49⟩, -, X49, ⟨Lc49, hQ49, l49, y49, z49⟩, st49⟩ := Jvm.LawKit.callS X46 hx (y := (⟨"com/example/marginalia/marginalia/classfile/ClassBytes", "u4", "([BI)I"⟩ : MethodName)) hown (mvT hZ (hw _ (List.mem_of_getElem? (i := 2) rfl))) (mvT hZ (hw _ (List.mem_of_getElem? (i := 3) rfl))) (mvT hZ (hw _ (List.mem_of_getElem? (i := 4) rfl))) (mvT hZ (hw _ (List.mem_of_getElem? (i := 5) rfl))) (by decide) (backOf (W := 0) (rm1 l Z a0 hw [] b1 (1 : Int32) k1 ((6 : Int32)) ([(nar .byte ((q1.toInt32).toInt8.toInt32)), (nar .byte (((p0.toUInt32 >>> ((24 : Int32) &&& 31).toUInt32).toInt32).toInt8.toInt32)), (nar .byte (((p0.toUInt32 >>> ((16 : Int32) &&& 31).toUInt32).toInt32).toInt8.toInt32)), (nar .byte (((p0.toUInt32 >>> ((8 : Int32) &&& 31).toUInt32).toInt32).toInt8.toInt32)), (nar .byte (p0.toInt8.toInt32)), (nar .byte ((((q1.toUInt64 >>> ((40 : Int32) &&& 0x3f).toInt64.toUInt64).toInt64).toInt32).toInt8.toInt32))]) h46 n0 Z48 V_46 (own_pr0_118_hB_2 p0 q1 p2 ev5_69) (own_pr0_118_hb2_2 p0 q1 p2 ev5_69) (own_pr0_118_hb3_2 p0 q1 p2 ev5_69) (own_pr0_118_hb4_2 p0 q1 p2 ev5_69)) hZ (hw _ (List.mem_of_getElem? (i := 5) rfl)) (hw _ (List.mem_of_getElem? (i := 4) rfl)) (by decide) (by decide)) (g := (mkF m 118 #[.val (.int p0), .val (.long q1), .second, .val (.int p2), .val (.ref b1), .val (.int (1 : Int32))] [(.int (1 : Int32)), (.ref b1)])) rfl (by rw [hml]; rfl) (argsL := [(.ref b1), (.int (1 : Int32))]) (rest := []) (lenOf pd0 rfl) rfl (by show 2 * 0 + _ ≤ _; exact Nat.le_of_eq rfl) (hb hby at_118) (fun _ _ => ⟨rfl, e46, (by decide : 1 + 0 ≤ _), (by decide : 6 + 0 ≤ _)⟩)
    dsimp only [Pt.U, Pt.locs, Pt.cells, Pt.slots] at X49 l49 y49 z49 st49 hQ49
    subst l49 y49 z49
    obtain ⟨rfl, N49q, e49⟩ := hQ49
    have N50 := Fr.app N47 N49q
    refine Goes.step (S' := T49.setTop (mkF m 121 #[.val (.int p0), .val (.long q1), .second, .val (.int p2), .val (.ref b1), .val (.int (1 : Int32))] [(.int (f1 (6 : Int32) [(nar .byte ((q1.toInt32).toInt8.toInt32)), (nar .byte (((p0.toUInt32 >>> ((24 : Int32) &&& 31).toUInt32).toInt32).toInt8.toInt32)), (nar .byte (((p0.toUInt32 >>> ((16 : Int32) &&& 31).toUInt32).toInt32).toInt8.toInt32)), (nar .byte (((p0.toUInt32 >>> ((8 : Int32) &&& 31).toUInt32).toInt32).toInt8.toInt32)), (nar .byte (p0.toInt8.toInt32)), (nar .byte ((((q1.toUInt64 >>> ((40 : Int32) &&& 0x3f).toInt64.toUInt64).toInt64).toInt32).toInt8.toInt32))] (1 : Int32)))])) st49 ?_
    refine Goes.step (S' := T49.setTop (mkF m 122 #[.val (.int p0), .val (.long q1), .second, .val (.int p2), .val (.ref b1), .val (.int (1 : Int32))] [(.int p0), (.int (f1 (6 : Int32) [(nar .byte ((q1.toInt32).toInt8.toInt32)), (nar .byte (((p0.toUInt32 >>> ((24 : Int32) &&& 31).toUInt32).toInt32).toInt8.toInt32)), (nar .byte (((p0.toUInt32 >>> ((16 : Int32) &&& 31).toUInt32).toInt32).toInt8.toInt32)), (nar .byte (((p0.toUInt32 >>> ((8 : Int32) &&& 31).toUInt32).toInt32).toInt8.toInt32)), (nar .byte (p0.toInt8.toInt32)), (nar .byte ((((q1.toUInt64 >>> ((40 : Int32) &&& 0x3f).toInt64.toUInt64).toInt64).toInt32).toInt8.toInt32))] (1 : Int32)))])) (fun _ k => XS.iloadN X49.here hx rfl (hb hby at_121) rfl  k) ?_
    refine Goes.step (S' := T49.setTop (mkF m 125 #[.val (.int p0), .val (.long q1), .second, .val (.int p2), .val (.ref b1), .val (.int (1 : Int32))] [])) (fun _ k => XS.icmpNo X49.here hx rfl (hb hby at_122) rfl (teq (own_hc0_122_2 p0 q1 p2 ev5_69)).2 k) ?_
    refine Goes.step (S' := T49.setTop (mkF m 126 #[.val (.int p0), .val (.long q1), .second, .val (.int p2), .val (.ref b1), .val (.int (1 : Int32))] [(.int (1 : Int32))])) (fun _ k => XS.iconst X49.here hx rfl (hb hby at_125) k) ?_
    refine Goes.step (S' := T49.setTop (mkF m 130 #[.val (.int p0), .val (.long q1), .second, .val (.int p2), .val (.ref b1), .val (.int (1 : Int32))] [(.int (1 : Int32))])) (fun _ k => XS.goto X49.here hx rfl (pc0 := 126) (pc' := 130) rfl (hb hby at_126) (by decide) (by decide) k) ?_
    refine Goes.retN X49 hx Bd.notSynchronized (t := .boolean) Bd.returns (by simp) (hb hby at_130) (by decide) (by decide) ?_
    exact ⟨rfl, N50⟩
  · refine Goes.step (S' := T20.setTop (mkF m 73 #[.val (.int p0), .val (.long q1), .second, .val (.int p2), .val (.ref b1), .val (.int (2 : Int32))] [(.ref b1)])) (fun _ k => XS.aload X20.here hx rfl (hb hby at_71) rfl rfl k) ?_
    refine Goes.step (S' := T20.setTop (mkF m 75 #[.val (.int p0), .val (.long q1), .second, .val (.int p2), .val (.ref b1), .val (.int (2 : Int32))] [(.int (2 : Int32)), (.ref b1)])) (fun _ k => XS.iload X20.here hx rfl (hb hby at_73) rfl  k) ?_
    refine Goes.step (S' := T20.setTop (mkF m 76 #[.val (.int p0), .val (.long q1), .second, .val (.int p2), .val (.ref b1), .val (.int (2 : Int32))] [(.int p0), (.int (2 : Int32)), (.ref b1)])) (fun _ k => XS.iloadN X20.here hx rfl (hb hby at_75) rfl  k) ?_
    refine Goes.step (S' := T20.setTop (mkF m 78 #[.val (.int p0), .val (.long q1), .second, .val (.int p2), .val (.ref b1), .val (.int (2 : Int32))] [(.int (24 : Int32)), (.int p0), (.int (2 : Int32)), (.ref b1)])) (fun _ k => XS.bipush X20.here hx rfl (hb hby at_76) k) ?_
    refine Goes.step (S' := T20.setTop (mkF m 79 #[.val (.int p0), .val (.long q1), .second, .val (.int p2), .val (.ref b1), .val (.int (2 : Int32))] [(.int ((p0.toUInt32 >>> ((24 : Int32) &&& 31).toUInt32).toInt32)), (.int (2 : Int32)), (.ref b1)])) (fun _ k => XS.iushr X20.here hx rfl (hb hby at_78) rfl k) ?_
    refine Goes.step (S' := T20.setTop (mkF m 80 #[.val (.int p0), .val (.long q1), .second, .val (.int p2), .val (.ref b1), .val (.int (2 : Int32))] [(.int (((p0.toUInt32 >>> ((24 : Int32) &&& 31).toUInt32).toInt32).toInt8.toInt32)), (.int (2 : Int32)), (.ref b1)])) (fun _ k => XS.i2b X20.here hx rfl (hb hby at_79) rfl k) ?_
    obtain ⟨T51, h51, X51, e51, W51, V_51, st51⟩ := own_bastore X20 hx hZ e20 V_20 ⟨by decide, by decide⟩ (g := (mkF m 80 #[.val (.int p0), .val (.long q1), .second, .val (.int p2), .val (.ref b1), .val (.int (2 : Int32))] [(.int (((p0.toUInt32 >>> ((24 : Int32) &&& 31).toUInt32).toInt32).toInt8.toInt32)), (.int (2 : Int32)), (.ref b1)])) rfl rfl (hb hby at_80)
    replace V_51 : AI Z h51 b1 k1 .byte (6 : Int32) [(nar .byte ((q1.toInt32).toInt8.toInt32)), (nar .byte ((((q1.toUInt64 >>> ((8 : Int32) &&& 0x3f).toInt64.toUInt64).toInt64).toInt32).toInt8.toInt32)), (nar .byte (((p0.toUInt32 >>> ((24 : Int32) &&& 31).toUInt32).toInt32).toInt8.toInt32)), (nar .byte ((((q1.toUInt64 >>> ((24 : Int32) &&& 0x3f).toInt64.toUInt64).toInt64).toInt32).toInt8.toInt32)), (nar .byte ((((q1.toUInt64 >>> ((32 : Int32) &&& 0x3f).toInt64.toUInt64).toInt64).toInt32).toInt8.toInt32)), (nar .byte ((((q1.toUInt64 >>> ((40 : Int32) &&& 0x3f).toInt64.toUInt64).toInt64).toInt32).toInt8.toInt32))] := V_51
    have N52 := Fr.snoc X51 N21 g2
    have Z53 : n0 ≤ h51.size := Nat.le_trans Z22 (Nat.le_of_eq W51.size.symm)
    refine Goes.step (S' := T51.setTop (mkF m 81 #[.val (.int p0), .val (.long q1), .second, .val (.int p2), .val (.ref b1), .val (.int (2 : Int32))] [])) st51 ?_
    refine Goes.step (S' := T51.setTop (mkF m 83 #[.val (.int p0), .val (.long q1), .second, .val (.int p2), .val (.ref b1), .val (.int (2 : Int32))] [(.ref b1)])) (fun _ k => XS.aload X51.here hx rfl (hb hby at_81) rfl rfl k) ?_
    refine Goes.step (S' := T51.setTop (mkF m 85 #[.val (.int p0), .val (.long q1), .second, .val (.int p2), .val (.ref b1), .val (.int (2 : Int32))] [(.int (2 : Int32)), (.ref b1)])) (fun _ k => XS.iload X51.here hx rfl (hb hby at_83) rfl  k) ?_
    refine Goes.step (S' := T51.setTop (mkF m 86 #[.val (.int p0), .val (.long q1), .second, .val (.int p2), .val (.ref b1), .val (.int (2 : Int32))] [(.int (1 : Int32)), (.int (2 : Int32)), (.ref b1)])) (fun _ k => XS.iconst X51.here hx rfl (hb hby at_85) k) ?_
    refine Goes.step (S' := T51.setTop (mkF m 87 #[.val (.int p0), .val (.long q1), .second, .val (.int p2), .val (.ref b1), .val (.int (2 : Int32))] [(.int (3 : Int32)), (.ref b1)])) (fun _ k => XS.iadd X51.here hx rfl (hb hby at_86) rfl k) ?_
    refine Goes.step (S' := T51.setTop (mkF m 88 #[.val (.int p0), .val (.long q1), .second, .val (.int p2), .val (.ref b1), .val (.int (2 : Int32))] [(.int p0), (.int (3 : Int32)), (.ref b1)])) (fun _ k => XS.iloadN X51.here hx rfl (hb hby at_87) rfl  k) ?_
    refine Goes.step (S' := T51.setTop (mkF m 90 #[.val (.int p0), .val (.long q1), .second, .val (.int p2), .val (.ref b1), .val (.int (2 : Int32))] [(.int (16 : Int32)), (.int p0), (.int (3 : Int32)), (.ref b1)])) (fun _ k => XS.bipush X51.here hx rfl (hb hby at_88) k) ?_
    refine Goes.step (S' := T51.setTop (mkF m 91 #[.val (.int p0), .val (.long q1), .second, .val (.int p2), .val (.ref b1), .val (.int (2 : Int32))] [(.int ((p0.toUInt32 >>> ((16 : Int32) &&& 31).toUInt32).toInt32)), (.int (3 : Int32)), (.ref b1)])) (fun _ k => XS.iushr X51.here hx rfl (hb hby at_90) rfl k) ?_
    refine Goes.step (S' := T51.setTop (mkF m 92 #[.val (.int p0), .val (.long q1), .second, .val (.int p2), .val (.ref b1), .val (.int (2 : Int32))] [(.int (((p0.toUInt32 >>> ((16 : Int32) &&& 31).toUInt32).toInt32).toInt8.toInt32)), (.int (3 : Int32)), (.ref b1)])) (fun _ k => XS.i2b X51.here hx rfl (hb hby at_91) rfl k) ?_
    obtain ⟨T54, h54, X54, e54, W54, V_54, st54⟩ := own_bastore X51 hx hZ e51 V_51 ⟨by decide, by decide⟩ (g := (mkF m 92 #[.val (.int p0), .val (.long q1), .second, .val (.int p2), .val (.ref b1), .val (.int (2 : Int32))] [(.int (((p0.toUInt32 >>> ((16 : Int32) &&& 31).toUInt32).toInt32).toInt8.toInt32)), (.int (3 : Int32)), (.ref b1)])) rfl rfl (hb hby at_92)
    replace V_54 : AI Z h54 b1 k1 .byte (6 : Int32) [(nar .byte ((q1.toInt32).toInt8.toInt32)), (nar .byte ((((q1.toUInt64 >>> ((8 : Int32) &&& 0x3f).toInt64.toUInt64).toInt64).toInt32).toInt8.toInt32)), (nar .byte (((p0.toUInt32 >>> ((24 : Int32) &&& 31).toUInt32).toInt32).toInt8.toInt32)), (nar .byte (((p0.toUInt32 >>> ((16 : Int32) &&& 31).toUInt32).toInt32).toInt8.toInt32)), (nar .byte ((((q1.toUInt64 >>> ((32 : Int32) &&& 0x3f).toInt64.toUInt64).toInt64).toInt32).toInt8.toInt32)), (nar .byte ((((q1.toUInt64 >>> ((40 : Int32) &&& 0x3f).toInt64.toUInt64).toInt64).toInt32).toInt8.toInt32))] := V_54
    have N55 := Fr.snoc X54 N52 g2
    have Z56 : n0 ≤ h54.size := Nat.le_trans Z53 (Nat.le_of_eq W54.size.symm)
    refine Goes.step (S' := T54.setTop (mkF m 93 #[.val (.int p0), .val (.long q1), .second, .val (.int p2), .val (.ref b1), .val (.int (2 : Int32))] [])) st54 ?_
    refine Goes.step (S' := T54.setTop (mkF m 95 #[.val (.int p0), .val (.long q1), .second, .val (.int p2), .val (.ref b1), .val (.int (2 : Int32))] [(.ref b1)])) (fun _ k => XS.aload X54.here hx rfl (hb hby at_93) rfl rfl k) ?_
    refine Goes.step (S' := T54.setTop (mkF m 97 #[.val (.int p0), .val (.long q1), .second, .val (.int p2), .val (.ref b1), .val (.int (2 : Int32))] [(.int (2 : Int32)), (.ref b1)])) (fun _ k => XS.iload X54.here hx rfl (hb hby at_95) rfl  k) ?_
    refine Goes.step (S' := T54.setTop (mkF m 98 #[.val (.int p0), .val (.long q1), .second, .val (.int p2), .val (.ref b1), .val (.int (2 : Int32))] [(.int (2 : Int32)), (.int (2 : Int32)), (.ref b1)])) (fun _ k => XS.iconst X54.here hx rfl (hb hby at_97) k) ?_
    refine Goes.step (S' := T54.setTop (mkF m 99 #[.val (.int p0), .val (.long q1), .second, .val (.int p2), .val (.ref b1), .val (.int (2 : Int32))] [(.int (4 : Int32)), (.ref b1)])) (fun _ k => XS.iadd X54.here hx rfl (hb hby at_98) rfl k) ?_
    refine Goes.step (S' := T54.setTop (mkF m 100 #[.val (.int p0), .val (.long q1), .second, .val (.int p2), .val (.ref b1), .val (.int (2 : Int32))] [(.int p0), (.int (4 : Int32)), (.ref b1)])) (fun _ k => XS.iloadN X54.here hx rfl (hb hby at_99) rfl  k) ?_
    refine Goes.step (S' := T54.setTop (mkF m 102 #[.val (.int p0), .val (.long q1), .second, .val (.int p2), .val (.ref b1), .val (.int (2 : Int32))] [(.int (8 : Int32)), (.int p0), (.int (4 : Int32)), (.ref b1)])) (fun _ k => XS.bipush X54.here hx rfl (hb hby at_100) k) ?_
    refine Goes.step (S' := T54.setTop (mkF m 103 #[.val (.int p0), .val (.long q1), .second, .val (.int p2), .val (.ref b1), .val (.int (2 : Int32))] [(.int ((p0.toUInt32 >>> ((8 : Int32) &&& 31).toUInt32).toInt32)), (.int (4 : Int32)), (.ref b1)])) (fun _ k => XS.iushr X54.here hx rfl (hb hby at_102) rfl k) ?_
    refine Goes.step (S' := T54.setTop (mkF m 104 #[.val (.int p0), .val (.long q1), .second, .val (.int p2), .val (.ref b1), .val (.int (2 : Int32))] [(.int (((p0.toUInt32 >>> ((8 : Int32) &&& 31).toUInt32).toInt32).toInt8.toInt32)), (.int (4 : Int32)), (.ref b1)])) (fun _ k => XS.i2b X54.here hx rfl (hb hby at_103) rfl k) ?_
    obtain ⟨T57, h57, X57, e57, W57, V_57, st57⟩ := own_bastore X54 hx hZ e54 V_54 ⟨by decide, by decide⟩ (g := (mkF m 104 #[.val (.int p0), .val (.long q1), .second, .val (.int p2), .val (.ref b1), .val (.int (2 : Int32))] [(.int (((p0.toUInt32 >>> ((8 : Int32) &&& 31).toUInt32).toInt32).toInt8.toInt32)), (.int (4 : Int32)), (.ref b1)])) rfl rfl (hb hby at_104)
    replace V_57 : AI Z h57 b1 k1 .byte (6 : Int32) [(nar .byte ((q1.toInt32).toInt8.toInt32)), (nar .byte ((((q1.toUInt64 >>> ((8 : Int32) &&& 0x3f).toInt64.toUInt64).toInt64).toInt32).toInt8.toInt32)), (nar .byte (((p0.toUInt32 >>> ((24 : Int32) &&& 31).toUInt32).toInt32).toInt8.toInt32)), (nar .byte (((p0.toUInt32 >>> ((16 : Int32) &&& 31).toUInt32).toInt32).toInt8.toInt32)), (nar .byte (((p0.toUInt32 >>> ((8 : Int32) &&& 31).toUInt32).toInt32).toInt8.toInt32)), (nar .byte ((((q1.toUInt64 >>> ((40 : Int32) &&& 0x3f).toInt64.toUInt64).toInt64).toInt32).toInt8.toInt32))] := V_57
    have N58 := Fr.snoc X57 N55 g2
    have Z59 : n0 ≤ h57.size := Nat.le_trans Z56 (Nat.le_of_eq W57.size.symm)
    refine Goes.step (S' := T57.setTop (mkF m 105 #[.val (.int p0), .val (.long q1), .second, .val (.int p2), .val (.ref b1), .val (.int (2 : Int32))] [])) st57 ?_
    refine Goes.step (S' := T57.setTop (mkF m 107 #[.val (.int p0), .val (.long q1), .second, .val (.int p2), .val (.ref b1), .val (.int (2 : Int32))] [(.ref b1)])) (fun _ k => XS.aload X57.here hx rfl (hb hby at_105) rfl rfl k) ?_
    refine Goes.step (S' := T57.setTop (mkF m 109 #[.val (.int p0), .val (.long q1), .second, .val (.int p2), .val (.ref b1), .val (.int (2 : Int32))] [(.int (2 : Int32)), (.ref b1)])) (fun _ k => XS.iload X57.here hx rfl (hb hby at_107) rfl  k) ?_
    refine Goes.step (S' := T57.setTop (mkF m 110 #[.val (.int p0), .val (.long q1), .second, .val (.int p2), .val (.ref b1), .val (.int (2 : Int32))] [(.int (3 : Int32)), (.int (2 : Int32)), (.ref b1)])) (fun _ k => XS.iconst X57.here hx rfl (hb hby at_109) k) ?_
    refine Goes.step (S' := T57.setTop (mkF m 111 #[.val (.int p0), .val (.long q1), .second, .val (.int p2), .val (.ref b1), .val (.int (2 : Int32))] [(.int (5 : Int32)), (.ref b1)])) (fun _ k => XS.iadd X57.here hx rfl (hb hby at_110) rfl k) ?_
    refine Goes.step (S' := T57.setTop (mkF m 112 #[.val (.int p0), .val (.long q1), .second, .val (.int p2), .val (.ref b1), .val (.int (2 : Int32))] [(.int p0), (.int (5 : Int32)), (.ref b1)])) (fun _ k => XS.iloadN X57.here hx rfl (hb hby at_111) rfl  k) ?_
    refine Goes.step (S' := T57.setTop (mkF m 113 #[.val (.int p0), .val (.long q1), .second, .val (.int p2), .val (.ref b1), .val (.int (2 : Int32))] [(.int (p0.toInt8.toInt32)), (.int (5 : Int32)), (.ref b1)])) (fun _ k => XS.i2b X57.here hx rfl (hb hby at_112) rfl k) ?_
    obtain ⟨T60, h60, X60, e60, W60, V_60, st60⟩ := own_bastore X57 hx hZ e57 V_57 ⟨by decide, by decide⟩ (g := (mkF m 113 #[.val (.int p0), .val (.long q1), .second, .val (.int p2), .val (.ref b1), .val (.int (2 : Int32))] [(.int (p0.toInt8.toInt32)), (.int (5 : Int32)), (.ref b1)])) rfl rfl (hb hby at_113)
    replace V_60 : AI Z h60 b1 k1 .byte (6 : Int32) [(nar .byte ((q1.toInt32).toInt8.toInt32)), (nar .byte ((((q1.toUInt64 >>> ((8 : Int32) &&& 0x3f).toInt64.toUInt64).toInt64).toInt32).toInt8.toInt32)), (nar .byte (((p0.toUInt32 >>> ((24 : Int32) &&& 31).toUInt32).toInt32).toInt8.toInt32)), (nar .byte (((p0.toUInt32 >>> ((16 : Int32) &&& 31).toUInt32).toInt32).toInt8.toInt32)), (nar .byte (((p0.toUInt32 >>> ((8 : Int32) &&& 31).toUInt32).toInt32).toInt8.toInt32)), (nar .byte (p0.toInt8.toInt32))] := V_60
    have N61 := Fr.snoc X60 N58 g2
    have Z62 : n0 ≤ h60.size := Nat.le_trans Z59 (Nat.le_of_eq W60.size.symm)
    refine Goes.step (S' := T60.setTop (mkF m 114 #[.val (.int p0), .val (.long q1), .second, .val (.int p2), .val (.ref b1), .val (.int (2 : Int32))] [])) st60 ?_
    refine Goes.step (S' := T60.setTop (mkF m 116 #[.val (.int p0), .val (.long q1), .second, .val (.int p2), .val (.ref b1), .val (.int (2 : Int32))] [(.ref b1)])) (fun _ k => XS.aload X60.here hx rfl (hb hby at_114) rfl rfl k) ?_
    refine Goes.step (S' := T60.setTop (mkF m 118 #[.val (.int p0), .val (.long q1), .second, .val (.int p2), .val (.ref b1), .val (.int (2 : Int32))] [(.int (2 : Int32)), (.ref b1)])) (fun _ k => XS.iload X60.here hx rfl (hb hby at_116) rfl  k) ?_
    obtain ⟨_, _, ⟨T63, L63, k63, n63⟩, -, X63, ⟨Lc63, hQ63, l63, y63, z63⟩, st63⟩ := Jvm.LawKit.callS X60 hx (y := (⟨"com/example/marginalia/marginalia/classfile/ClassBytes", "u4", "([BI)I"⟩ : MethodName)) hown (mvT hZ (hw _ (List.mem_of_getElem? (i := 2) rfl))) (mvT hZ (hw _ (List.mem_of_getElem? (i := 3) rfl))) (mvT hZ (hw _ (List.mem_of_getElem? (i := 4) rfl))) (mvT hZ (hw _ (List.mem_of_getElem? (i := 5) rfl))) (by decide) (backOf (W := 0) (rm1 l Z a0 hw [] b1 (2 : Int32) k1 ((6 : Int32)) ([(nar .byte ((q1.toInt32).toInt8.toInt32)), (nar .byte ((((q1.toUInt64 >>> ((8 : Int32) &&& 0x3f).toInt64.toUInt64).toInt64).toInt32).toInt8.toInt32)), (nar .byte (((p0.toUInt32 >>> ((24 : Int32) &&& 31).toUInt32).toInt32).toInt8.toInt32)), (nar .byte (((p0.toUInt32 >>> ((16 : Int32) &&& 31).toUInt32).toInt32).toInt8.toInt32)), (nar .byte (((p0.toUInt32 >>> ((8 : Int32) &&& 31).toUInt32).toInt32).toInt8.toInt32)), (nar .byte (p0.toInt8.toInt32))]) h60 n0 Z62 V_60 (own_pr0_118_hB_3 p0 q1 p2 ev5_69) (own_pr0_118_hb2_3 p0 q1 p2 ev5_69) (own_pr0_118_hb3_3 p0 q1 p2 ev5_69) (own_pr0_118_hb4_3 p0 q1 p2 ev5_69)) hZ (hw _ (List.mem_of_getElem? (i := 5) rfl)) (hw _ (List.mem_of_getElem? (i := 4) rfl)) (by decide) (by decide)) (g := (mkF m 118 #[.val (.int p0), .val (.long q1), .second, .val (.int p2), .val (.ref b1), .val (.int (2 : Int32))] [(.int (2 : Int32)), (.ref b1)])) rfl (by rw [hml]; rfl) (argsL := [(.ref b1), (.int (2 : Int32))]) (rest := []) (lenOf pd0 rfl) rfl (by show 2 * 0 + _ ≤ _; exact Nat.le_of_eq rfl) (hb hby at_118) (fun _ _ => ⟨rfl, e60, (by decide : 1 + 0 ≤ _), (by decide : 6 + 0 ≤ _)⟩)
    dsimp only [Pt.U, Pt.locs, Pt.cells, Pt.slots] at X63 l63 y63 z63 st63 hQ63
    subst l63 y63 z63
    obtain ⟨rfl, N63q, e63⟩ := hQ63
    have N64 := Fr.app N61 N63q
    refine Goes.step (S' := T63.setTop (mkF m 121 #[.val (.int p0), .val (.long q1), .second, .val (.int p2), .val (.ref b1), .val (.int (2 : Int32))] [(.int (f1 (6 : Int32) [(nar .byte ((q1.toInt32).toInt8.toInt32)), (nar .byte ((((q1.toUInt64 >>> ((8 : Int32) &&& 0x3f).toInt64.toUInt64).toInt64).toInt32).toInt8.toInt32)), (nar .byte (((p0.toUInt32 >>> ((24 : Int32) &&& 31).toUInt32).toInt32).toInt8.toInt32)), (nar .byte (((p0.toUInt32 >>> ((16 : Int32) &&& 31).toUInt32).toInt32).toInt8.toInt32)), (nar .byte (((p0.toUInt32 >>> ((8 : Int32) &&& 31).toUInt32).toInt32).toInt8.toInt32)), (nar .byte (p0.toInt8.toInt32))] (2 : Int32)))])) st63 ?_
    refine Goes.step (S' := T63.setTop (mkF m 122 #[.val (.int p0), .val (.long q1), .second, .val (.int p2), .val (.ref b1), .val (.int (2 : Int32))] [(.int p0), (.int (f1 (6 : Int32) [(nar .byte ((q1.toInt32).toInt8.toInt32)), (nar .byte ((((q1.toUInt64 >>> ((8 : Int32) &&& 0x3f).toInt64.toUInt64).toInt64).toInt32).toInt8.toInt32)), (nar .byte (((p0.toUInt32 >>> ((24 : Int32) &&& 31).toUInt32).toInt32).toInt8.toInt32)), (nar .byte (((p0.toUInt32 >>> ((16 : Int32) &&& 31).toUInt32).toInt32).toInt8.toInt32)), (nar .byte (((p0.toUInt32 >>> ((8 : Int32) &&& 31).toUInt32).toInt32).toInt8.toInt32)), (nar .byte (p0.toInt8.toInt32))] (2 : Int32)))])) (fun _ k => XS.iloadN X63.here hx rfl (hb hby at_121) rfl  k) ?_
    refine Goes.step (S' := T63.setTop (mkF m 125 #[.val (.int p0), .val (.long q1), .second, .val (.int p2), .val (.ref b1), .val (.int (2 : Int32))] [])) (fun _ k => XS.icmpNo X63.here hx rfl (hb hby at_122) rfl (teq (own_hc0_122_3 p0 q1 p2 ev5_69)).2 k) ?_
    refine Goes.step (S' := T63.setTop (mkF m 126 #[.val (.int p0), .val (.long q1), .second, .val (.int p2), .val (.ref b1), .val (.int (2 : Int32))] [(.int (1 : Int32))])) (fun _ k => XS.iconst X63.here hx rfl (hb hby at_125) k) ?_
    refine Goes.step (S' := T63.setTop (mkF m 130 #[.val (.int p0), .val (.long q1), .second, .val (.int p2), .val (.ref b1), .val (.int (2 : Int32))] [(.int (1 : Int32))])) (fun _ k => XS.goto X63.here hx rfl (pc0 := 126) (pc' := 130) rfl (hb hby at_126) (by decide) (by decide) k) ?_
    refine Goes.retN X63 hx Bd.notSynchronized (t := .boolean) Bd.returns (by simp) (hb hby at_130) (by decide) (by decide) ?_
    exact ⟨rfl, N64⟩
set_option maxRecDepth 65536 in
set_option maxHeartbeats 40000000 in
theorem comes_1 {Post : Tables → Env → Array Value → State → Outcome → State → Prop} (hpost : ∀ tb e args s v u, (limb_1_1.after args s (.returned v) u = true ∧ limb_1_2.after args s (.returned v) u = true ∧ True) → FrameEnd s (.returned v) u (Jvm.fieldLocs frame_1_writes args s ++ Jvm.arrayLocs frame_1_arrays args s ++ Jvm.staticLocs frame_1_statics s) 16 128 → Post tb e args s (.returned v) u) :
    ArmFor flags0 classFile x code maxLocals ret World_1 tables_1 room_1 Calls_1 rest_1 Pre_1 Post := by
  intro l hfl _ _ p e ha hc hk s m args below hf hA hF happ hP
  obtain ⟨hcalls, hrest, hpre⟩ := hP
  obtain ⟨-, -, -, hnamed, -, -, -, hat⟩ := (Spec.applies_iff hf).mp happ
  obtain ⟨hg, hn⟩ := and_e (Cond.before_iff.mp (show (Jvm.Cond.and given_1 narrow_1).before args s = true from hpre))
  obtain ⟨gg1, gg2⟩ := and_e hg
  obtain ⟨gg3, gg4⟩ := and_e gg2
  obtain ⟨gg5, gg6⟩ := and_e gg4
  obtain ⟨w0, w1, w2, rfl⟩ : ∃ w0 w1 w2 : Value, args = #[w0, w1, w2] := by
    have hs : args.size = 3 := by simpa [Cond.value, given_1] using gg1
    obtain ⟨L⟩ := args
    match L, hs with
    | [w0, w1, w2], _ => exact ⟨w0, w1, w2, rfl⟩
  have hw := fun d (hd : d ∈ tables_1) => atoms_spec (ws := Jvm.Cond.code x code maxLocals ret :: tables_1) hat d (List.mem_cons_of_mem _ hd)
  obtain ⟨i0, ei0⟩ := is_v gg3
  obtain rfl : w0 = (.int i0) := Option.some.inj ei0
  obtain ⟨i1, ei1⟩ := isL_v gg5
  obtain rfl : w1 = (.long i1) := Option.some.inj ei1
  obtain ⟨i2, ei2⟩ := is_v gg6
  obtain rfl : w2 = (.int i2) := Option.some.inj ei2
  obtain ⟨n, o, h1, h2, h3, _, L, rfl, ⟨rfl, N⟩, hq⟩ := rm0 l s _ hw tables_1 i0 i1 i2 s.heap s.heap.size (Nat.le_refl _) p e ha hc hk s m _ below hf ((Spec.applies_iff_loose hf).mp happ).1 ⟨rfl, State.Warmed39.refl s, rfl⟩ trivial
  refine ⟨n, _, h1, h2, h3, hpost _ _ _ _ _ _ ⟨Cond.after_iff.mpr rfl, Cond.after_iff.mpr (eq_i res_at (Term.int_eval (1)) rfl), trivial⟩ ⟨hq.1, hq.2.1, (hq.2.2.sift fun y hy => Or.inr (N y hy)).mono (by decide) (by decide)⟩⟩
theorem main_1_1 : Claimed_1_1 := comes_1 fun _ _ _ _ _ _ h hF => ⟨h.1, hF⟩
theorem main_1_2 : Claimed_1_2 := comes_1 fun _ _ _ _ _ _ h hF => ⟨h.2.1, hF⟩
end Jvm.Pilot.@@N@@
namespace Jvm.Pilot.@@N@@
open Jvm Jvm.ClassFile Sem Op Lib Jvm.Free Jvm.Stand Jvm.Pilot.@@N@@.Jvm.D
/-! MADE BY PROGRAM (witnessworld.py) out of the Statement's table words and the real class files: 9 classes; the members and pool entries that the words name. The judged class is class 1, her method 1. -/
namespace start1
open Jvm.ClassFile
def u (s : String) : CpInfo := .utf8 (stringToUtf16 s)
/-- a pool by its gaps: so many unusable entries, then the entry; so many at the end -/
def gap : Nat → List CpInfo → List CpInfo
  | 0, r => r
  | n + 1, r => .unusable :: gap n r
def poolList (es : List (Nat × CpInfo)) (last : Nat) : List CpInfo := es.foldr (fun e r => gap e.1 (e.2 :: r)) (gap last [])
def pool (es : List (Nat × CpInfo)) (last : Nat) : Array CpInfo := ⟨poolList es last⟩
def fileOf (pool : Array CpInfo) (this : Nat) (attrs : Array Attribute := #[]) (ms : Array MethodInfo := #[]) (fl : Nat := 33) (sup : Nat := 0) (ifs : Array Nat := #[]) (fds : Array FieldInfo := #[]) : ClassFile where
  minorVersion := 0
  majorVersion := 65
  constantPool := pool
  accessFlags := fl
  thisClass := this
  superClass := sup
  interfaces := ifs
  fields := fds
  methods := ms
  attributes := attrs
def plain (name : String) (sup : Option ClassId) : Class where
  name := name
  kind := .ordinary
  loader := none
  accessFlags := 33
  super := sup
  interfaces := #[]
  cf := none
  fields := #[]
  methods := #[]
  instanceTypes := #[]
  staticTypes := #[]
  resolved := #[]
  callSites := []
  init := .initialized
  statics := none
  mirror := none

def pool0 : Array CpInfo := pool [(5, u "<init>"), (0, u "()V"), (1, .class_ 10), (1, u "java/lang/Object")] 113

def k0m0 : Method := { name := "<init>", desc := "()V", sig := { parameters := [], returnType := none }, accessFlags := 1, code := none }
/-- java/lang/Object -/
def k0 : Class := { plain "java/lang/Object" none with
  accessFlags := 33
  interfaces := #[]
  cf := some (fileOf pool0 8 #[] #[{ accessFlags := 1, nameIndex := 5, descriptorIndex := 6, attributes := #[] }] 33 0 #[] #[])
  fields := #[]
  methods := #[k0m0]
  instanceTypes := #[]
  staticTypes := #[]
  resolved := Array.replicate 124 none
  statics := none }

def pool1 : Array CpInfo := pool [(2, .class_ 4), (1, u "java/lang/Object"), (0, u "<init>"), (0, u "()V"), (0, .integer 2147483647), (0, .methodref 9 10), (0, .class_ 11), (0, .nameAndType 12 13), (0, u "com/example/marginalia/marginalia/classfile/ClassBytes"), (0, u "u4"), (0, u "([BI)I"), (0, .class_ 15), (0, u "com/example/marginalia/marginalia/classfile/ClassBytesU4PinLaw"), (2, u "law"), (0, u "(IJI)Z")] 5

def k1m0 : Method := { name := "<init>", desc := "()V", sig := { parameters := [], returnType := none }, accessFlags := 1, code := none }
def k1c1 : Code := { maxStack := 5, maxLocals := 6, code := code, exceptionTable := #[], attributes := #[] }
def k1m1 : Method := { name := "law", desc := "(IJI)Z", sig := { parameters := [.int, .long, .int], returnType := some .boolean }, accessFlags := 9, code := some k1c1 }
/-- com/example/marginalia/marginalia/classfile/ClassBytesU4PinLaw -/
def k1 : Class := { plain "com/example/marginalia/marginalia/classfile/ClassBytesU4PinLaw" (some 0) with
  accessFlags := 49
  interfaces := #[]
  cf := some (fileOf pool1 14 #[] #[{ accessFlags := 1, nameIndex := 5, descriptorIndex := 6, attributes := #[] }, { accessFlags := 9, nameIndex := 18, descriptorIndex := 19, attributes := #[] }] 49 2 #[] #[])
  fields := #[]
  methods := #[k1m0, k1m1]
  instanceTypes := #[]
  staticTypes := #[]
  resolved := Array.replicate 25 none
  statics := none }

def pool2 : Array CpInfo := pool [(2, .class_ 4), (1, u "com/example/marginalia/marginalia/classfile/ClassBytes"), (3, .class_ 10), (1, u "java/lang/Object"), (3, u "m_bytes"), (0, u "[B"), (2, u "m_position"), (0, u "I"), (2, u "m_end"), (3, u "Ljava/lang/String;"), (6, .methodref 2 34), (0, .nameAndType 35 36), (0, u "u2"), (0, u "([BI)I"), (25, u "u4")] 26

def k2c0 : Code := { maxStack := 4, maxLocals := 2, code := prog_15_method_7_code, exceptionTable := #[], attributes := #[] }
def k2m0 : Method := { name := "u2", desc := "([BI)I", sig := { parameters := [(.array .byte), .int], returnType := some .int }, accessFlags := 8, code := some k2c0 }
def k2c1 : Code := { maxStack := 4, maxLocals := 2, code := prog_15_method_8_code, exceptionTable := #[], attributes := #[] }
def k2m1 : Method := { name := "u4", desc := "([BI)I", sig := { parameters := [(.array .byte), .int], returnType := some .int }, accessFlags := 8, code := some k2c1 }
/-- com/example/marginalia/marginalia/classfile/ClassBytes -/
def k2 : Class := { plain "com/example/marginalia/marginalia/classfile/ClassBytes" (some 0) with
  accessFlags := 48
  interfaces := #[]
  cf := some (fileOf pool2 2 #[] #[{ accessFlags := 8, nameIndex := 35, descriptorIndex := 36, attributes := #[] }, { accessFlags := 8, nameIndex := 62, descriptorIndex := 36, attributes := #[] }] 48 8 #[] #[])
  fields := #[]
  methods := #[k2m0, k2m1]
  instanceTypes := #[]
  staticTypes := #[]
  resolved := Array.replicate 89 none
  statics := none }

def pool3 : Array CpInfo := pool [(1, u "java/lang/Cloneable"), (0, .class_ 1), (0, u "java/lang/Object"), (0, .class_ 3)] 3

/-- java/lang/Cloneable -/
def k3 : Class := { plain "java/lang/Cloneable" (some 0) with
  accessFlags := 1537
  interfaces := #[]
  cf := some (fileOf pool3 2 #[] #[] 1537 4 #[] #[])
  fields := #[]
  methods := #[]
  instanceTypes := #[]
  staticTypes := #[]
  resolved := Array.replicate 8 none
  statics := none }

def pool4 : Array CpInfo := pool [(1, u "java/io/Serializable"), (0, .class_ 1), (0, u "java/lang/Object"), (0, .class_ 3)] 3

/-- java/io/Serializable -/
def k4 : Class := { plain "java/io/Serializable" (some 0) with
  accessFlags := 1537
  interfaces := #[]
  cf := some (fileOf pool4 2 #[] #[] 1537 4 #[] #[])
  fields := #[]
  methods := #[]
  instanceTypes := #[]
  staticTypes := #[]
  resolved := Array.replicate 8 none
  statics := none }

/-- the primitive byte -/
def k5 : Class := { plain "byte" none with kind := .primitive 'B', accessFlags := 0x411 }
/-- [B -/
def k6 : Class := { plain "[B" (some 0) with kind := .array 5 .byte, interfaces := #[3, 4], accessFlags := 1041 }

/-- the primitive int -/
def k7 : Class := { plain "int" none with kind := .primitive 'I', accessFlags := 0x411 }
/-- [I -/
def k8 : Class := { plain "[I" (some 0) with kind := .array 7 .int, interfaces := #[3, 4], accessFlags := 1041 }

def heap : Heap := #[]
def classes : Array Class := #[k0, k1, k2, k3, k4, k5, k6, k7, k8]
def interned : List (Array UInt16 × Addr) := []
def slotsUsed : Nat := 0
def theMethod : MethodId := ⟨1, 1⟩
def args0 : Array Value := #[.int 5, .long 5, .int 5]
def aboutOver (below : List Frame) : State where
  vm := { classes := classes, interned := interned.toArray }
  heap := heap
  slotsUsed := slotsUsed
  threads := #[{ frames := .invoking theMethod args0 :: below }]
def below0 : List Frame := [.native { method := ⟨0, 0⟩, args := #[] }]
def about1 : State := aboutOver below0
def p0 : Program := .bare "" "" ""
def e0 : Env := launch0.env 0 0 0
theorem w_frames : about1.frames = Frame.invoking theMethod args0 :: below0 := rfl
set_option maxRecDepth 65536 in
theorem w_args : argsFit about1.vm theMethod args0 = true := by decide +kernel
set_option maxRecDepth 65536 in
theorem w_heap : heapFits about1 = true := by decide +kernel
set_option maxRecDepth 65536 in
theorem w_runnable : about1.curStatus? = some .runnable := by decide +kernel
set_option maxRecDepth 65536 in
theorem w_alone : about1.alone = true := by decide +kernel
set_option maxRecDepth 65536 in
theorem w_named : about1.methodNamed? x = some theMethod := by decide +kernel
set_option maxRecDepth 65536 in
theorem w_hears : about1.hears theMethod below0 = true := by decide +kernel
set_option maxRecDepth 65536 in
theorem w_ripe : about1.ripe theMethod args0 below0 = true := by decide +kernel
theorem w_running : about1.status = .running := rfl
set_option maxRecDepth 65536 in
theorem w_room : about1.hasRoom e0.platform room_1 = true :=
  launch0.hasRoom_least _ room_1 (by decide +kernel) (by decide +kernel) (by decide +kernel) (by decide +kernel) (by decide +kernel) (by decide +kernel)
theorem allAtoms_all (ts : List Jvm.Cond) (a : Array Jvm.Value) (st : Jvm.State) : (allAtoms ts).before a st = ts.all (fun c => c.before a st) := by
  induction ts with
  | nil => rfl
  | cons c t ih =>
    show (Jvm.Cond.and c (allAtoms t)).before a st = _
    rw [Jvm.Cond.before_and, ih, List.all_cons]
def words1 : List Jvm.Cond := Jvm.Cond.code x code maxLocals ret :: tables_1
/-- a 'code' word, met by the world's own term for the bytes: nothing is compared byte by byte -/
theorem code_word {y : MethodName} {bytes : ByteArray} {mx : Nat} {rt : Option FieldType} {a : Array Value} {s : State} {m : MethodId} {meth : Method} {c : Code} (h1 : s.methodNamed? y = some m) (h2 : s.vm.method? m = some meth) (h3 : meth.code = some c) (h4 : c.code = bytes)
    (h5 : (c.maxLocals == mx && c.exceptionTable.isEmpty && decide (c.maxStack ≤ mostOperands) && decide (meth.sig.returnType = rt) && !meth.locks && decide (parseMethodDescriptor y.desc = some meth.sig)) = true) : (Jvm.Cond.code y bytes mx rt).before a s = true := by
  simp only [Bool.and_eq_true, beq_iff_eq, Bool.not_eq_true', decide_eq_true_eq] at h5
  obtain ⟨⟨⟨⟨⟨g1, g2⟩, g3⟩, g4⟩, g5⟩, g6⟩ := h5
  simp [Cond.before, Cond.holds, Cond.value, h1, h2, h3, h4, g1, g2, g3, g4, g5, g6]
def isCode : Jvm.Cond → Bool
  | .code _ _ _ _ => true
  | _ => false
theorem all_split {L : List Jvm.Cond} {P : Jvm.Cond → Bool} (h1 : L.all (fun c => isCode c || P c) = true) (h2 : ∀ c ∈ L.filter isCode, P c = true) : L.all P = true := by
  refine List.all_eq_true.mpr fun c hc => ?_
  have h := List.all_eq_true.mp h1 c hc
  rcases Bool.eq_false_or_eq_true (isCode c) with hi | hi
  · exact h2 c (List.mem_filter.mpr ⟨hc, hi⟩)
  · simpa [hi] using h
set_option maxRecDepth 65536 in
theorem w_c0 : (Jvm.Cond.code x code maxLocals ret).before args0 about1 = true := code_word (m := ⟨1, 1⟩) (meth := k1m1) (c := k1c1) (by decide +kernel) rfl rfl rfl (by decide +kernel)
set_option maxRecDepth 65536 in
theorem w_c1 : (Jvm.Cond.code ({ cls := "com/example/marginalia/marginalia/classfile/ClassBytes", name := "u4", desc := "([BI)I" } : Jvm.MethodName) prog_15_method_8_code (2 : Nat) (Option.some Jvm.ClassFile.FieldType.int)).before args0 about1 = true := code_word (m := ⟨2, 1⟩) (meth := k2m1) (c := k2c1) (by decide +kernel) rfl rfl rfl (by decide +kernel)
set_option maxRecDepth 65536 in
theorem w_c2 : (Jvm.Cond.code ({ cls := "com/example/marginalia/marginalia/classfile/ClassBytes", name := "u2", desc := "([BI)I" } : Jvm.MethodName) prog_15_method_7_code (2 : Nat) (Option.some Jvm.ClassFile.FieldType.int)).before args0 about1 = true := code_word (m := ⟨2, 0⟩) (meth := k2m0) (c := k2c0) (by decide +kernel) rfl rfl rfl (by decide +kernel)
def codes1 : List Jvm.Cond := [Jvm.Cond.code x code maxLocals ret, Jvm.Cond.code ({ cls := "com/example/marginalia/marginalia/classfile/ClassBytes", name := "u4", desc := "([BI)I" } : Jvm.MethodName) prog_15_method_8_code (2 : Nat) (Option.some Jvm.ClassFile.FieldType.int), Jvm.Cond.code ({ cls := "com/example/marginalia/marginalia/classfile/ClassBytes", name := "u2", desc := "([BI)I" } : Jvm.MethodName) prog_15_method_7_code (2 : Nat) (Option.some Jvm.ClassFile.FieldType.int)]
set_option maxRecDepth 65536 in
theorem codes_eq : words1.filter isCode = codes1 := rfl
theorem w_codes : ∀ c ∈ words1.filter isCode, c.before args0 about1 = true := by
  rw [codes_eq]
  intro c hc
  simp only [codes1, List.mem_cons, List.not_mem_nil, or_false] at hc
  rcases hc with rfl | rfl | rfl
  · exact w_c0
  · exact w_c1
  · exact w_c2
set_option maxRecDepth 65536 in
theorem w_t1 : words1.all (fun c => isCode c || c.before args0 about1) = true := by decide +kernel
theorem w_tables : (allAtoms (Jvm.Cond.code x code maxLocals ret :: tables_1)).before args0 about1 = true := by
  rw [allAtoms_all]
  show words1.all (fun c => c.before args0 about1) = true
  refine all_split ?_ w_codes
  rw [w_t1]
set_option maxRecDepth 65536 in
theorem w_case : (Jvm.Cond.and given_1 narrow_1).before args0 about1 = true := by decide +kernel
theorem w_applies : (headSpec (Jvm.Cond.code x code maxLocals ret :: tables_1) room_1).applies x e0.platform about1 = true :=
  (Spec.applies_iff w_frames).mpr ⟨w_running, w_runnable, w_alone, w_named, w_hears, w_ripe, w_room, w_tables⟩
theorem atStart : AtStart classFile x code maxLocals ret World_1 tables_1 room_1 Calls_1 rest_1 Pre_1 launch0 p0 e0 about1 theMethod args0 below0 :=
  ⟨lists_1, trivial, launch0.admits_env _ _ _, launch0.least_env, fairChoices_fair.cas, fairChoices_fair.clock, w_frames, w_args, w_heap, w_applies, trivial, trivial, w_case⟩
end start1
theorem witness_1 : WitnessClaimed_1 := ⟨start1.p0, start1.e0, start1.about1, start1.theMethod, start1.args0, start1.below0, start1.atStart⟩
end Jvm.Pilot.@@N@@
