import JvmDerived
import JvmDerived.Pilot.@@N@@Statement
import JvmDerived.Pilot.@@N@@Code
set_option linter.unusedVariables false
set_option linter.unusedSimpArgs false
namespace Jvm.RoadKit
open Sem ClassFile Op Lib Jvm.Stand Jvm.Free Jvm.LawKit
section New
variable {p : Program} {l : Launch} {e : Env} {R : Room} {s : State} {m : MethodId} {args : Array Value} {below : List Frame} {meth : Method} {c : Code} {T : State} {locs : List Loc} {cells slots : Nat}
theorem retI (X : Stand p l e R s m args below meth c T locs cells slots) (hx : p.tables.exec = Jvm.exec) {pc : Nat} {Ls : Array Slot} {z : Int32} {rest : List Value} (hret : meth.sig.returnType = some .int) (hd : decode c.code pc = .ok (.ireturn, 1)) {fs : List Frame}
    (hl : ∀ (f : JFrame) (acts : List Action), f.method = m → f.locked = none → f.entered = [] → (doReturn e (T.setTop f) acts (some (.int z))).1 = T.setFrames fs) : Steps p.tables e below (T.setTop (mkF m pc Ls (.int z :: rest))) (T.setFrames fs) := by
  have hm' : T.vm.method? m = some meth := X.method'
  have hn : narrow .int (.int z) = .int z := rfl
  show Steps p.tables e below (T.setTop { method := m, pc := pc, locals := Ls, stack := _ :: rest, locked := none }) _
  jvm_step X.here [X.here.top, hx, hd, hm', hret, hn]
  first | (intro acts; rw [hl _ acts rfl rfl rfl]) | rw [hl _ _ rfl rfl rfl]
  exact Steps.refl _
end New
end Jvm.RoadKit
namespace Jvm.Pilot.@@N@@
open Jvm Jvm.ClassFile Sem Op Lib Jvm.Free Jvm.Stand Jvm.LawKit Jvm.RoadKit Bundle Jvm.Pilot.@@N@@.Jvm.D
/-! MY OWN LAYER, 1: a walk in forward style -/
/-- from the state S the run ends, and Q holds of the end -/
def Goes (tb : Tables) (e : Env) (below : List Frame) (Q : Outcome → State → Prop) (S : State) : Prop :=
  ∃ s₂ o, Steps tb e below S s₂ ∧ s₂.status = .running ∧ Ended s₂ below o ∧ Q o s₂
theorem Goes.out {tb : Tables} {e : Env} {below : List Frame} {Q : Outcome → State → Prop} {S : State} (h : Goes tb e below Q S) :
    ∃ s₂ o, Steps tb e below S s₂ ∧ s₂.status = .running ∧ Ended s₂ below o ∧ Q o s₂ := h
theorem Goes.step {tb : Tables} {e : Env} {below : List Frame} {Q : Outcome → State → Prop} {S S' : State}
    (h : ∀ t, Steps tb e below S' t → Steps tb e below S t) (k : Goes tb e below Q S') : Goes tb e below Q S := by
  obtain ⟨s₂, o, h1, h2⟩ := k
  exact ⟨s₂, o, h _ h1, h2⟩
section Ites
variable {tb : Tables} {e : Env} {below : List Frame} {T S : State} {c : Prop} [Decidable c]
theorem own_ite0 {F : JFrame} (hy : c → ∀ t, Steps tb e below (T.setTop F) t → Steps tb e below S t) (hn : ¬ c → ∀ t, Steps tb e below (T.setTop F) t → Steps tb e below S t) :
    ∀ t, Steps tb e below (T.setTop F) t → Steps tb e below S t := fun t k => by
  by_cases h : c
  · exact hy h t k
  · exact hn h t k
theorem own_ite1 {A0 : Type} {a0 b0 : A0} {F : A0 → JFrame} (hy : c → ∀ t, Steps tb e below (T.setTop (F a0)) t → Steps tb e below S t) (hn : ¬ c → ∀ t, Steps tb e below (T.setTop (F b0)) t → Steps tb e below S t) :
    ∀ t, Steps tb e below (T.setTop (F (if c then a0 else b0))) t → Steps tb e below S t := fun t k => by
  by_cases h : c
  · rw [if_pos h] at k; exact hy h t k
  · rw [if_neg h] at k; exact hn h t k
theorem own_ite2 {A0 A1 : Type} {a0 b0 : A0} {a1 b1 : A1} {F : A0 → A1 → JFrame} (hy : c → ∀ t, Steps tb e below (T.setTop (F a0 a1)) t → Steps tb e below S t) (hn : ¬ c → ∀ t, Steps tb e below (T.setTop (F b0 b1)) t → Steps tb e below S t) :
    ∀ t, Steps tb e below (T.setTop (F (if c then a0 else b0) (if c then a1 else b1))) t → Steps tb e below S t := fun t k => by
  by_cases h : c
  · rw [if_pos h, if_pos h] at k; exact hy h t k
  · rw [if_neg h, if_neg h] at k; exact hn h t k
theorem own_ite3 {A0 A1 A2 : Type} {a0 b0 : A0} {a1 b1 : A1} {a2 b2 : A2} {F : A0 → A1 → A2 → JFrame} (hy : c → ∀ t, Steps tb e below (T.setTop (F a0 a1 a2)) t → Steps tb e below S t) (hn : ¬ c → ∀ t, Steps tb e below (T.setTop (F b0 b1 b2)) t → Steps tb e below S t) :
    ∀ t, Steps tb e below (T.setTop (F (if c then a0 else b0) (if c then a1 else b1) (if c then a2 else b2))) t → Steps tb e below S t := fun t k => by
  by_cases h : c
  · rw [if_pos h, if_pos h, if_pos h] at k; exact hy h t k
  · rw [if_neg h, if_neg h, if_neg h] at k; exact hn h t k
end Ites
section Rets
variable {p : Program} {l : Launch} {e : Env} {R : Room} {s : State} {m : MethodId} {args : Array Value} {below : List Frame} {meth : Method} {c : Code} {T : State} {locs : List Loc} {cells slots : Nat}
variable {QQ : Option Value → Heap → List Loc → Prop} {C0 S0 : Nat} {pc : Nat} {Ls : Array Slot} {rest : List Value}
theorem Goes.retN (X : Stand p l e R s m args below meth c T locs cells slots) (hx : p.tables.exec = Jvm.exec) (hlk : meth.locks = false) {t : FieldType} {z : Int32} (hret : meth.sig.returnType = some t) (ht : t = .boolean ∨ t = .byte ∨ t = .char ∨ t = .short)
    (hd : decode c.code pc = .ok (.ireturn, 1)) (hC : cells ≤ C0) (hS : slots ≤ S0) (hQ : QQ (some (.int (nar t z))) T.heap locs) :
    Goes p.tables e below (fun o U' => ∃ v L, o = .returned v ∧ QQ v U'.heap L ∧ FrameEnd s o U' L C0 S0) (T.setTop (mkF m pc Ls (.int z :: rest))) := by
  obtain ⟨fs, hr, hrun, hended, hW, hsame⟩ := X.leave (v := some (.int (nar t z))) (fun h => by rw [hret] at h; cases h) hlk
  exact ⟨_, _, Jvm.RoadKit.retN X hx hret ht hd hr, hrun, hended, _, _, rfl, hQ, ⟨_, rfl⟩, hW, hsame.mono hC hS⟩
theorem Goes.retI (X : Stand p l e R s m args below meth c T locs cells slots) (hx : p.tables.exec = Jvm.exec) (hlk : meth.locks = false) {z : Int32} (hret : meth.sig.returnType = some .int)
    (hd : decode c.code pc = .ok (.ireturn, 1)) (hC : cells ≤ C0) (hS : slots ≤ S0) (hQ : QQ (some (.int z)) T.heap locs) :
    Goes p.tables e below (fun o U' => ∃ v L, o = .returned v ∧ QQ v U'.heap L ∧ FrameEnd s o U' L C0 S0) (T.setTop (mkF m pc Ls (.int z :: rest))) := by
  obtain ⟨fs, hr, hrun, hended, hW, hsame⟩ := X.leave (v := some (.int z)) (fun h => by rw [hret] at h; cases h) hlk
  exact ⟨_, _, Jvm.RoadKit.retI X hx hret hd hr, hrun, hended, _, _, rfl, hQ, ⟨_, rfl⟩, hW, hsame.mono hC hS⟩
theorem Goes.retJ (X : Stand p l e R s m args below meth c T locs cells slots) (hx : p.tables.exec = Jvm.exec) (hlk : meth.locks = false) {z : Int64} (hret : meth.sig.returnType = some .long)
    (hd : decode c.code pc = .ok (.lreturn, 1)) (hC : cells ≤ C0) (hS : slots ≤ S0) (hQ : QQ (some (.long z)) T.heap locs) :
    Goes p.tables e below (fun o U' => ∃ v L, o = .returned v ∧ QQ v U'.heap L ∧ FrameEnd s o U' L C0 S0) (T.setTop (mkF m pc Ls (.long z :: rest))) := by
  obtain ⟨fs, hr, hrun, hended, hW, hsame⟩ := X.leave (v := some (.long z)) (fun h => by rw [hret] at h; cases h) hlk
  refine ⟨_, _, ?_, hrun, hended, _, _, rfl, hQ, ⟨_, rfl⟩, hW, hsame.mono hC hS⟩
  jvm_step X.here [X.here.top, hx, hd, X.method', hret, narrow]
  first | (intro acts; rw [hr _ acts rfl rfl rfl]) | rw [hr _ _ rfl rfl rfl]
  exact Steps.refl _
theorem Goes.retA (X : Stand p l e R s m args below meth c T locs cells slots) (hx : p.tables.exec = Jvm.exec) (hlk : meth.locks = false) {a : Addr} {t : FieldType} (hret : meth.sig.returnType = some t) (ht : t.isReference = true)
    (hd : decode c.code pc = .ok (.areturn, 1)) (hC : cells ≤ C0) (hS : slots ≤ S0) (hQ : QQ (some (.ref a)) T.heap locs) :
    Goes p.tables e below (fun o U' => ∃ v L, o = .returned v ∧ QQ v U'.heap L ∧ FrameEnd s o U' L C0 S0) (T.setTop (mkF m pc Ls (.ref a :: rest))) := by
  obtain ⟨fs, hr, hrun, hended, hW, hsame⟩ := X.leave (v := some (.ref a)) (fun h => by rw [hret] at h; cases h) hlk
  refine ⟨_, _, ?_, hrun, hended, _, _, rfl, hQ, ⟨_, rfl⟩, hW, hsame.mono hC hS⟩
  jvm_step X.here [X.here.top, hx, hd, X.method', hret, Value.isRef, ht]
  first | (intro acts; rw [hr _ acts rfl rfl rfl]) | rw [hr _ _ rfl rfl rfl]
  exact Steps.refl _
theorem Goes.retV (X : Stand p l e R s m args below meth c T locs cells slots) (hx : p.tables.exec = Jvm.exec) (hlk : meth.locks = false) (hret : meth.sig.returnType = none)
    (hd : decode c.code pc = .ok (.return_, 1)) (hC : cells ≤ C0) (hS : slots ≤ S0) (hQ : QQ none T.heap locs) :
    Goes p.tables e below (fun o U' => ∃ v L, o = .returned v ∧ QQ v U'.heap L ∧ FrameEnd s o U' L C0 S0) (T.setTop (mkF m pc Ls [])) := by
  obtain ⟨fs, hr, hrun, hended, hW, hsame⟩ := X.leave (v := none) (fun _ => rfl) hlk
  exact ⟨_, _, X.returnOut hx hret hd hr, hrun, hended, _, _, rfl, hQ, ⟨_, rfl⟩, hW, hsame.mono hC hS⟩
theorem own_lrem {g : JFrame} {target : State} (X : Stand p l e R s m args below meth c T locs cells slots) (hx : p.tables.exec = Jvm.exec) (hg : g.method = m) {x y : Int64} {rest : List Value} (hd : decode c.code g.pc = .ok (.lrem, 1)) (hs : g.stack = .long y :: .long x :: rest) (hy : y ≠ 0)
    (hr : Steps p.tables e below (T.setTop { g with pc := g.pc + 1, stack := .long (x % y) :: rest }) target) : Steps p.tables e below (T.setTop g) target :=
  XS.lrem X.here hx hg hd hs hy (by rw [lrem_mod]; exact hr)
end Rets
/-! MY OWN LAYER, 2: an array of ints (bytes, chars ..) by the list of its values, whole -/
def AI (Z : State) (h : Heap) (a : Addr) (k : ClassId) (ty : FieldType) (n : Int32) (vs : List Int32) : Prop :=
  Arv Z h a k ty n (vs.map Value.int) (.int 0) ∧ vs.length = n.toNatClampNeg
section Arrays
variable {p : Program} {l : Launch} {e : Env} {R : Room} {s : State} {m : MethodId} {args : Array Value} {below : List Frame} {meth : Method} {c : Code} {T : State} {locs : List Loc} {cells slots : Nat}
variable {Z : State} {h h' : Heap} {a b : Addr} {k : ClassId} {ty : FieldType} {n : Int32} {vs : List Int32} {sl : Nat} {v : Value} {ws : List Addr}
theorem AI.lt (F : AI Z h a k ty n vs) : a < h.size := F.1.lt
theorem AI.nn (F : AI Z h a k ty n vs) : ¬ n < 0 := by obtain ⟨⟨c, -, -, -, q, -⟩, -⟩ := F; exact q
theorem AI.ext (F : AI Z h a k ty n vs) (E : Ext h h') : AI Z h' a k ty n vs := ⟨F.1.ext E, F.2⟩
theorem AI.other (F : AI Z h b k ty n vs) (W : Wr h h' a sl v) (q : b ≠ a) : AI Z h' b k ty n vs := ⟨F.1.other W q, F.2⟩
theorem AI.keep (F : AI Z h a k ty n vs) (K : Keep h h' ws) (q : a ∉ ws) : AI Z h' a k ty n vs := ⟨F.1.keep K q, F.2⟩
theorem own_getD (vs : List Int32) (i : Nat) : (vs.map Value.int).getD i (.int 0) = .int (vs.getD i 0) := by
  simp only [List.getD_eq_getElem?_getD, List.getElem?_map]
  cases vs[i]? <;> rfl
theorem own_new {q : Int32} (A : Arr Z h a (newA k ty q) ty) (hq : ¬ q < 0) (hd : defaultValue ty = .int 0) {vs : List Int32} (hv : vs = List.replicate q.toNatClampNeg 0 := by rfl) : AI Z h a k ty q vs := by
  subst hv
  have V := Arv.new A hq
  rw [hd] at V
  refine ⟨?_, by simp⟩
  have q1 := V.pad (pad_rep [] (.int 0) q.toNatClampNeg)
  rw [List.nil_append] at q1
  rw [List.map_replicate]; exact q1
theorem own_inb {cl : Cell} {j : Int32} (S : cl.slots.size = n.toNatClampNeg) (q : ¬ j < 0 ∧ j < n) : ¬ (j < 0 ∨ cl.slots.size ≤ j.toNatClampNeg) := inb_of S q
theorem own_jlt {j : Int32} (q : ¬ j < 0 ∧ j < n) : j.toNatClampNeg < n.toNatClampNeg := by
  obtain ⟨q1, q2⟩ := q
  rw [Int32.lt_iff_toInt_lt] at q1 q2
  have e0 : (0 : Int32).toInt = 0 := rfl
  simp only [Int32.toNatClampNeg] at *; omega
theorem own_iaload {pc : Nat} {Ls : Array Slot} {rest : List Value} {j : Int32} (X : Stand p l e R s m args below meth c T locs cells slots) (hx : p.tables.exec = Jvm.exec) (hZ : Z.Warmed39 s.vm) (eT : T.heap = h) (F : AI Z h a k .int n vs) (hj : ¬ j < 0 ∧ j < n)
    (hd : decode c.code pc = .ok (.iaload, 1)) (t : State) (kk : Steps p.tables e below (T.setTop (mkF m (pc + 1) Ls (.int (vs.getD j.toNatClampNeg 0) :: rest))) t) : Steps p.tables e below (T.setTop (mkF m pc Ls (.int j :: .ref a :: rest))) t := by
  obtain ⟨⟨cl, A, -, S, -, H, -⟩, hl⟩ := F
  have hin := own_inb S hj
  exact X.iaload hx (j := j) (v := .int (vs.getD j.toNatClampNeg 0)) (by rw [eT]; exact A.1) (State.isArrayOf_alike hZ.alike A.2.1) A.2.2 hin (H.at hin (own_getD _ _)) (g := mkF m pc Ls (.int j :: .ref a :: rest)) rfl rfl hd _ kk
theorem own_baload {pc : Nat} {Ls : Array Slot} {rest : List Value} {j : Int32} (X : Stand p l e R s m args below meth c T locs cells slots) (hx : p.tables.exec = Jvm.exec) (hZ : Z.Warmed39 s.vm) (eT : T.heap = h) (F : AI Z h a k .byte n vs) (hj : ¬ j < 0 ∧ j < n)
    (hd : decode c.code pc = .ok (.baload, 1)) (t : State) (kk : Steps p.tables e below (T.setTop (mkF m (pc + 1) Ls (.int (vs.getD j.toNatClampNeg 0) :: rest))) t) : Steps p.tables e below (T.setTop (mkF m pc Ls (.int j :: .ref a :: rest))) t := by
  obtain ⟨⟨cl, A, -, S, -, H, -⟩, hl⟩ := F
  have hin := own_inb S hj
  exact X.baloadBytes hx (j := j) (v := .int (vs.getD j.toNatClampNeg 0)) (by rw [eT]; exact A.1) (State.isArrayOf_alike hZ.alike A.2.1) A.2.2 hin (H.at hin (own_getD _ _)) (g := mkF m pc Ls (.int j :: .ref a :: rest)) rfl rfl hd _ kk
theorem own_len {pc : Nat} {Ls : Array Slot} {rest : List Value} (X : Stand p l e R s m args below meth c T locs cells slots) (hx : p.tables.exec = Jvm.exec) (hZ : Z.Warmed39 s.vm) (eT : T.heap = h) (F : AI Z h a k ty n vs)
    (hd : decode c.code pc = .ok (.arraylength, 1)) (t : State) (kk : Steps p.tables e below (T.setTop (mkF m (pc + 1) Ls (.int n :: rest))) t) : Steps p.tables e below (T.setTop (mkF m pc Ls (.ref a :: rest))) t := by
  obtain ⟨⟨cl, A, -, S, N, H, -⟩, hl⟩ := F
  refine X.arraylength hx (by rw [eT]; exact A.1) (State.isArrayOf_alike hZ.alike A.2.1) (g := mkF m pc Ls (.ref a :: rest)) rfl rfl hd _ ?_
  rw [len_of S N]; exact kk
theorem own_iastore {j x : Int32} (X : Stand p l e R s m args below meth c T locs cells slots) (hx : p.tables.exec = Jvm.exec) (hZ : Z.Warmed39 s.vm) (eT : T.heap = h) (F : AI Z h a k .int n vs) (hj : ¬ j < 0 ∧ j < n) {g : JFrame} (hg : g.method = m) {rest : List Value} (hs : g.stack = .int x :: .int j :: .ref a :: rest) (hd : decode c.code g.pc = .ok (.iastore, 1)) :
    ∃ T' h', Stand p l e R s m args below meth c T' (locs ++ [⟨a, j.toNatClampNeg⟩]) cells slots ∧ T'.heap = h' ∧ Wr h h' a j.toNatClampNeg (.int x) ∧ AI Z h' a k .int n (vs.set j.toNatClampNeg x) ∧ ∀ target, Steps p.tables e below (T'.setTop { g with pc := g.pc + 1, stack := rest }) target → Steps p.tables e below (T.setTop g) target := by
  obtain ⟨⟨cl, A, q1, S, N, H, G⟩, hl⟩ := F
  obtain ⟨T', h', X', e', W, st⟩ := stI X hx hZ eT A (own_inb S hj) hg hs hd
  refine ⟨T', h', X', e', W, ⟨?_, by simpa using hl⟩, st⟩
  rw [List.map_set]
  exact Arv.set A q1 S N H G rfl W _ rfl (by rw [List.length_map, hl]; exact own_jlt hj)
theorem own_bastore {j x : Int32} (X : Stand p l e R s m args below meth c T locs cells slots) (hx : p.tables.exec = Jvm.exec) (hZ : Z.Warmed39 s.vm) (eT : T.heap = h) (F : AI Z h a k .byte n vs) (hj : ¬ j < 0 ∧ j < n) {g : JFrame} (hg : g.method = m) {rest : List Value} (hs : g.stack = .int x :: .int j :: .ref a :: rest) (hd : decode c.code g.pc = .ok (.bastore, 1)) :
    ∃ T' h', Stand p l e R s m args below meth c T' (locs ++ [⟨a, j.toNatClampNeg⟩]) cells slots ∧ T'.heap = h' ∧ Wr h h' a j.toNatClampNeg (.int (nar .byte x)) ∧ AI Z h' a k .byte n (vs.set j.toNatClampNeg (nar .byte x)) ∧ ∀ target, Steps p.tables e below (T'.setTop { g with pc := g.pc + 1, stack := rest }) target → Steps p.tables e below (T.setTop g) target := by
  obtain ⟨⟨cl, A, q1, S, N, H, G⟩, hl⟩ := F
  obtain ⟨T', h', X', e', W, st⟩ := stB X hx hZ eT A (own_inb S hj) hg hs hd
  refine ⟨T', h', X', e', W, ⟨?_, by simpa using hl⟩, st⟩
  rw [List.map_set]
  exact Arv.set A q1 S N H G (fits_nar_byte _) W _ rfl (by rw [List.length_map, hl]; exact own_jlt hj)
end Arrays
/-! MY OWN LAYER, 3: numbers -/
theorem own_b255 (x : Int32) : (nar .byte (x.toInt8.toInt32)) &&& 255 = x &&& 255 := by
  have a := c_i2b x
  have b := c_i2b x.toInt8.toInt32
  have m1 : ((x.toInt8.toInt32.toInt8.toInt32) &&& 255).toInt = (x.toInt8.toInt32.toInt8.toInt32).toInt % 256 := c_mask _ 255 8 (by decide) (by decide)
  have m2 : (x &&& 255).toInt = x.toInt % 256 := c_mask _ 255 8 (by decide) (by decide)
  apply Int32.toInt_inj.mp
  show ((x.toInt8.toInt32.toInt8.toInt32) &&& 255).toInt = _
  omega
theorem own_m255 (x : Int32) : (x &&& 255).toInt = x.toInt % 256 := c_mask _ 255 8 (by decide) (by decide)
theorem own_or8 (a b : Int32) (h1 : 0 ≤ a.toInt) (h2 : a.toInt < 256) (h3 : 0 ≤ b.toInt) (h4 : b.toInt < 256) : ((a <<< ((8 : Int32) &&& 31)) ||| b).toInt = a.toInt * 256 + b.toInt := by
  have s : ((a <<< ((8 : Int32) &&& 31)).toInt - a.toInt * 256) % 4294967296 = 0 := c_ishl a 8 8 (by decide)
  have r := rng32 (a <<< ((8 : Int32) &&& 31))
  have e : (a <<< ((8 : Int32) &&& 31)).toInt = a.toInt * 256 := by omega
  have o := c_or (a <<< ((8 : Int32) &&& 31)) b 8 (by decide) 256 (by decide) (by omega) h3 h4
  have r2 := rng32 ((a <<< ((8 : Int32) &&& 31)) ||| b)
  omega
theorem own_nar0 : nar .boolean 0 = 0 := by decide
theorem own_nar1 : nar .boolean 1 = 1 := by decide
theorem own_mul (x y : Int32) (h1 : 0 ≤ x.toInt) (h2 : x.toInt ≤ 1000000) (h3 : 0 ≤ y.toInt) (h4 : y.toInt ≤ 1000000) : (x.toInt64 * y.toInt64).toInt = x.toInt * y.toInt := by
  have m := c_lmul x.toInt64 y.toInt64
  rw [c_i2l, c_i2l] at m
  have r := rng64 (x.toInt64 * y.toInt64)
  have p0 : 0 ≤ x.toInt * y.toInt := Int.mul_nonneg h1 h3
  have p1 : x.toInt * y.toInt ≤ 1000000 * 1000000 := Int.mul_le_mul h2 h4 h3 (by decide)
  generalize x.toInt * y.toInt = z at *
  omega
theorem own_rate (a b c d qa ra qc rc : Int) (ha : a = qa * b + ra) (h0 : 0 ≤ ra) (h1 : ra < b) (hc : c = qc * d + rc) (h2 : 0 ≤ rc) (h3 : rc < d) : (c * b < a * d) ↔ ¬ (qa < qc ∨ (qa = qc ∧ ¬ rc * b < ra * d)) := by
  have hB : 0 < b := by omega
  have hd : 0 < d := by omega
  have X1 : 0 ≤ ra * d := Int.mul_nonneg h0 (by omega)
  have X2 : ra * d < b * d := Int.mul_lt_mul_of_pos_right h1 hd
  have Y1 : 0 ≤ rc * b := Int.mul_nonneg h2 (by omega)
  have Y2 : rc * b < d * b := Int.mul_lt_mul_of_pos_right h3 hB
  have e1 : a * d = qa * (b * d) + ra * d := by rw [ha, Int.add_mul, Int.mul_assoc]
  have e2 : c * b = qc * (b * d) + rc * b := by rw [hc, Int.add_mul, Int.mul_assoc, Int.mul_comm d b]
  have Pp : 0 < b * d := Int.mul_pos hB hd
  rw [e1, e2]
  rw [Int.mul_comm d b] at Y2
  generalize b * d = P at *
  generalize ra * d = X at *
  generalize rc * b = Y at *
  rcases Int.lt_trichotomy qa qc with h | h | h
  · have t : (qa + 1) * P ≤ qc * P := Int.mul_le_mul_of_nonneg_right (by omega) (by omega)
    rw [Int.add_mul, Int.one_mul] at t
    constructor
    · intro g; omega
    · intro g; omega
  · subst h
    constructor
    · intro g; omega
    · intro g; omega
  · have t : (qc + 1) * P ≤ qa * P := Int.mul_le_mul_of_nonneg_right (by omega) (by omega)
    rw [Int.add_mul, Int.one_mul] at t
    constructor
    · intro g; omega
    · intro g; omega
theorem d4_0 : decode prog_15_method_2_code 0 = .ok (.lload_n 0, 1) := by decide +kernel
theorem d4_1 : decode prog_15_method_2_code 1 = .ok (.lconst 1, 1) := by decide +kernel
theorem d4_2 : decode prog_15_method_2_code 2 = .ok (.lcmp, 1) := by decide +kernel
theorem d4_3 : decode prog_15_method_2_code 3 = .ok (.ifCond .lt 29, 3) := by decide +kernel
theorem d4_6 : decode prog_15_method_2_code 6 = .ok (.lload_n 0, 1) := by decide +kernel
theorem d4_7 : decode prog_15_method_2_code 7 = .ok (.ldc2_w 27, 3) := by decide +kernel
theorem d4_10 : decode prog_15_method_2_code 10 = .ok (.lcmp, 1) := by decide +kernel
theorem d4_11 : decode prog_15_method_2_code 11 = .ok (.ifCond .gt 21, 3) := by decide +kernel
theorem d4_14 : decode prog_15_method_2_code 14 = .ok (.lload_n 2, 1) := by decide +kernel
theorem d4_15 : decode prog_15_method_2_code 15 = .ok (.lconst 1, 1) := by decide +kernel
theorem d4_16 : decode prog_15_method_2_code 16 = .ok (.lcmp, 1) := by decide +kernel
theorem d4_17 : decode prog_15_method_2_code 17 = .ok (.ifCond .lt 15, 3) := by decide +kernel
theorem d4_20 : decode prog_15_method_2_code 20 = .ok (.lload_n 2, 1) := by decide +kernel
theorem d4_21 : decode prog_15_method_2_code 21 = .ok (.ldc2_w 29, 3) := by decide +kernel
theorem d4_24 : decode prog_15_method_2_code 24 = .ok (.lcmp, 1) := by decide +kernel
theorem d4_25 : decode prog_15_method_2_code 25 = .ok (.ifCond .gt 7, 3) := by decide +kernel
theorem d4_28 : decode prog_15_method_2_code 28 = .ok (.iconst 1, 1) := by decide +kernel
theorem d4_29 : decode prog_15_method_2_code 29 = .ok (.goto 4, 3) := by decide +kernel
theorem d4_32 : decode prog_15_method_2_code 32 = .ok (.iconst 0, 1) := by decide +kernel
theorem d4_33 : decode prog_15_method_2_code 33 = .ok (.ireturn, 1) := by decide +kernel
theorem pn0 : plainName "com/example/keywarden/keywarden/core/RateLimit" = true := by first | (simp [plainName, overriddenIn]; done) | decide +kernel
theorem ef4 (m : MethodId) (q0 : Int64) (q1 : Int64) : entryFrame m #[(.long q0), (.long q1)] 4 = mkF m 0 #[.val (.long q0), .second, .val (.long q1), .second] [] := by first | (simp [entryFrame, mkF, argsToLocals, Value.category]; done) | rfl
def f4 (q0 : Int64) (q1 : Int64) : Int32 := (nar .boolean (if q0 < (1 : Int64) then (0 : Int32) else (if (1000000 : Int64) < q0 then (0 : Int32) else (if q1 < (1 : Int64) then (0 : Int32) else (if (86400 : Int64) < q1 then (0 : Int32) else (1 : Int32))))))
def Q4 (Z : State) (q0 : Int64) (q1 : Int64) (h0 : Heap) (n0 : Nat) (v : Option Value) (h : Heap) (L : List Loc) : Prop := v = some (.int (f4 q0 q1)) ∧ Fr n0 L ∧ h = h0
set_option maxRecDepth 65536 in
set_option maxHeartbeats 40000000 in
theorem rm4 (l : Launch) (Z : State) (a0 : Array Value) (hw : ∀ d ∈ tables_1, d.before a0 Z = true) (ws : List Jvm.Cond) (q0 : Int64) (q1 : Int64) (h0 : Heap) (n0 : Nat) (Z0 : n0 ≤ h0.size) :
    MetFree l (⟨"com/example/keywarden/keywarden/core/RateLimit", "isValid", "(JJ)Z"⟩ : MethodName) (head1 (Jvm.Cond.code (⟨"com/example/keywarden/keywarden/core/RateLimit", "isValid", "(JJ)Z"⟩ : MethodName) prog_15_method_2_code 4 (some .boolean) :: ws) ({ frames := 0, cells := 0, slots := 0, locals := 0 } : Room)) (fun a U => a = #[(.long q0), (.long q1)] ∧ Z.Warmed39 U.vm ∧ U.heap = h0) (fun _ _ _ _ _ => True) (fun _ U o U' => ∃ v L, o = .returned v ∧ Q4 Z q0 q1 h0 n0 v U'.heap L ∧ FrameEnd U o U' L ({ frames := 0, cells := 0, slots := 0, locals := 0 } : Room).cells ({ frames := 0, cells := 0, slots := 0, locals := 0 } : Room).slots) := by
  refine MetFree.of_bodySF (plainFor_of_name pn0) hisR ?_
  intro p e s m args below meth c s₁ Bd hml0 hP hK
  obtain ⟨rfl, hZ, hh⟩ := hP
  have hx := Bd.exec
  have hby := Bd.bytes
  have hml : c.maxLocals = 4 := hml0
  have hown : s.vm.findClass "com/example/keywarden/keywarden/core/RateLimit" = some m.cls := findClass_of_methodNamed Bd.named
  have hnm := (name_of_methodNamed Bd.named Bd.method).1
  have X0 : Stand p l e ({ frames := 0, cells := 0, slots := 0, locals := 0 } : Room) s m #[(.long q0), (.long q1)] below meth c s₁ [] 0 0 := Stand.of_body Bd
  have e0 : s₁.heap = h0 := by rw [← hh, Bd.state]; rfl
  have N0 := Fr.nil n0
  refine Goes.out (Q := fun o U' => ∃ v L, o = .returned v ∧ Q4 Z q0 q1 h0 n0 v U'.heap L ∧ FrameEnd s o U' L ({ frames := 0, cells := 0, slots := 0, locals := 0 } : Room).cells ({ frames := 0, cells := 0, slots := 0, locals := 0 } : Room).slots) ?_
  refine Goes.step (S' := s₁.setTop (mkF m 0 #[.val (.long q0), .second, .val (.long q1), .second] [])) (fun _ k => castTop (ef4 m q0 q1) k) ?_
  refine Goes.step (S' := s₁.setTop (mkF m 1 #[.val (.long q0), .second, .val (.long q1), .second] [(.long q0)])) (fun _ k => XS.lloadN X0.here hx rfl (hb hby d4_0) rfl  k) ?_
  refine Goes.step (S' := s₁.setTop (mkF m 2 #[.val (.long q0), .second, .val (.long q1), .second] [(.long (1 : Int64)), (.long q0)])) (fun _ k => XS.lconst X0.here hx rfl (hb hby d4_1) k) ?_
  refine Goes.step (S' := s₁.setTop (mkF m 3 #[.val (.long q0), .second, .val (.long q1), .second] [(.int (lcmpW q0 (1 : Int64)))])) (fun _ k => XS.lcmp X0.here hx rfl (hb hby d4_2) rfl k) ?_
  refine Goes.step (own_ite1 (T := s₁) (c := q0 < (1 : Int64)) (a0 := (0 : Int32)) (b0 := (if (1000000 : Int64) < q0 then (0 : Int32) else (if q1 < (1 : Int64) then (0 : Int32) else (if (86400 : Int64) < q1 then (0 : Int32) else (1 : Int32))))) (F := fun z4_0 => (mkF m 33 #[.val (.long q0), .second, .val (.long q1), .second] [(.int z4_0)])) ?_ ?_) ?_
  · intro hc3_1 t k
    refine XS.ifYes X0.here hx rfl (pc0 := 3) (pc' := 32) rfl (hb hby d4_3) rfl ((if0 _ _).trans (tlt ((lw_lt q0 (1 : Int64)).mpr hc3_1)).1) (by decide) (by decide) ?_
    show Steps p.tables e below (s₁.setTop (mkF m 32 #[.val (.long q0), .second, .val (.long q1), .second] [])) _
    refine XS.iconst X0.here hx rfl (hb hby d4_32) ?_
    show Steps p.tables e below (s₁.setTop (mkF m 33 #[.val (.long q0), .second, .val (.long q1), .second] [(.int (0 : Int32))])) _
    exact k
  · intro hc3_1 t k
    refine XS.ifNo X0.here hx rfl (hb hby d4_3) rfl ((if0 _ _).trans (flt (mt (lw_lt q0 (1 : Int64)).mp hc3_1)).1) ?_
    show Steps p.tables e below (s₁.setTop (mkF m 6 #[.val (.long q0), .second, .val (.long q1), .second] [])) _
    refine XS.lloadN X0.here hx rfl (hb hby d4_6) rfl  ?_
    show Steps p.tables e below (s₁.setTop (mkF m 7 #[.val (.long q0), .second, .val (.long q1), .second] [(.long q0)])) _
    refine X0.ldc2Long hx hown (mvT hZ (hw _ (List.mem_of_getElem? (i := 20) rfl))) (g := (mkF m 7 #[.val (.long q0), .second, .val (.long q1), .second] [(.long q0)])) rfl (hb hby d4_7) _ ?_
    show Steps p.tables e below (s₁.setTop (mkF m 10 #[.val (.long q0), .second, .val (.long q1), .second] [(.long (1000000 : Int64)), (.long q0)])) _
    refine XS.lcmp X0.here hx rfl (hb hby d4_10) rfl ?_
    show Steps p.tables e below (s₁.setTop (mkF m 11 #[.val (.long q0), .second, .val (.long q1), .second] [(.int (lcmpW q0 (1000000 : Int64)))])) _
    refine own_ite1 (T := s₁) (c := (1000000 : Int64) < q0) (a0 := (0 : Int32)) (b0 := (if q1 < (1 : Int64) then (0 : Int32) else (if (86400 : Int64) < q1 then (0 : Int32) else (1 : Int32)))) (F := fun z4_0 => (mkF m 33 #[.val (.long q0), .second, .val (.long q1), .second] [(.int z4_0)])) ?_ ?_ _ ?_
    · intro hc11_2 t k
      refine XS.ifYes X0.here hx rfl (pc0 := 11) (pc' := 32) rfl (hb hby d4_11) rfl ((if0 _ _).trans (tlt ((lw_gt q0 (1000000 : Int64)).mpr hc11_2)).2.2.1) (by decide) (by decide) ?_
      show Steps p.tables e below (s₁.setTop (mkF m 32 #[.val (.long q0), .second, .val (.long q1), .second] [])) _
      refine XS.iconst X0.here hx rfl (hb hby d4_32) ?_
      show Steps p.tables e below (s₁.setTop (mkF m 33 #[.val (.long q0), .second, .val (.long q1), .second] [(.int (0 : Int32))])) _
      exact k
    · intro hc11_2 t k
      refine XS.ifNo X0.here hx rfl (hb hby d4_11) rfl ((if0 _ _).trans (flt (mt (lw_gt q0 (1000000 : Int64)).mp hc11_2)).2.2.1) ?_
      show Steps p.tables e below (s₁.setTop (mkF m 14 #[.val (.long q0), .second, .val (.long q1), .second] [])) _
      refine XS.lloadN X0.here hx rfl (hb hby d4_14) rfl  ?_
      show Steps p.tables e below (s₁.setTop (mkF m 15 #[.val (.long q0), .second, .val (.long q1), .second] [(.long q1)])) _
      refine XS.lconst X0.here hx rfl (hb hby d4_15) ?_
      show Steps p.tables e below (s₁.setTop (mkF m 16 #[.val (.long q0), .second, .val (.long q1), .second] [(.long (1 : Int64)), (.long q1)])) _
      refine XS.lcmp X0.here hx rfl (hb hby d4_16) rfl ?_
      show Steps p.tables e below (s₁.setTop (mkF m 17 #[.val (.long q0), .second, .val (.long q1), .second] [(.int (lcmpW q1 (1 : Int64)))])) _
      refine own_ite1 (T := s₁) (c := q1 < (1 : Int64)) (a0 := (0 : Int32)) (b0 := (if (86400 : Int64) < q1 then (0 : Int32) else (1 : Int32))) (F := fun z4_0 => (mkF m 33 #[.val (.long q0), .second, .val (.long q1), .second] [(.int z4_0)])) ?_ ?_ _ ?_
      · intro hc17_3 t k
        refine XS.ifYes X0.here hx rfl (pc0 := 17) (pc' := 32) rfl (hb hby d4_17) rfl ((if0 _ _).trans (tlt ((lw_lt q1 (1 : Int64)).mpr hc17_3)).1) (by decide) (by decide) ?_
        show Steps p.tables e below (s₁.setTop (mkF m 32 #[.val (.long q0), .second, .val (.long q1), .second] [])) _
        refine XS.iconst X0.here hx rfl (hb hby d4_32) ?_
        show Steps p.tables e below (s₁.setTop (mkF m 33 #[.val (.long q0), .second, .val (.long q1), .second] [(.int (0 : Int32))])) _
        exact k
      · intro hc17_3 t k
        refine XS.ifNo X0.here hx rfl (hb hby d4_17) rfl ((if0 _ _).trans (flt (mt (lw_lt q1 (1 : Int64)).mp hc17_3)).1) ?_
        show Steps p.tables e below (s₁.setTop (mkF m 20 #[.val (.long q0), .second, .val (.long q1), .second] [])) _
        refine XS.lloadN X0.here hx rfl (hb hby d4_20) rfl  ?_
        show Steps p.tables e below (s₁.setTop (mkF m 21 #[.val (.long q0), .second, .val (.long q1), .second] [(.long q1)])) _
        refine X0.ldc2Long hx hown (mvT hZ (hw _ (List.mem_of_getElem? (i := 21) rfl))) (g := (mkF m 21 #[.val (.long q0), .second, .val (.long q1), .second] [(.long q1)])) rfl (hb hby d4_21) _ ?_
        show Steps p.tables e below (s₁.setTop (mkF m 24 #[.val (.long q0), .second, .val (.long q1), .second] [(.long (86400 : Int64)), (.long q1)])) _
        refine XS.lcmp X0.here hx rfl (hb hby d4_24) rfl ?_
        show Steps p.tables e below (s₁.setTop (mkF m 25 #[.val (.long q0), .second, .val (.long q1), .second] [(.int (lcmpW q1 (86400 : Int64)))])) _
        refine own_ite1 (T := s₁) (c := (86400 : Int64) < q1) (a0 := (0 : Int32)) (b0 := (1 : Int32)) (F := fun z4_0 => (mkF m 33 #[.val (.long q0), .second, .val (.long q1), .second] [(.int z4_0)])) ?_ ?_ _ ?_
        · intro hc25_4 t k
          refine XS.ifYes X0.here hx rfl (pc0 := 25) (pc' := 32) rfl (hb hby d4_25) rfl ((if0 _ _).trans (tlt ((lw_gt q1 (86400 : Int64)).mpr hc25_4)).2.2.1) (by decide) (by decide) ?_
          show Steps p.tables e below (s₁.setTop (mkF m 32 #[.val (.long q0), .second, .val (.long q1), .second] [])) _
          refine XS.iconst X0.here hx rfl (hb hby d4_32) ?_
          show Steps p.tables e below (s₁.setTop (mkF m 33 #[.val (.long q0), .second, .val (.long q1), .second] [(.int (0 : Int32))])) _
          exact k
        · intro hc25_4 t k
          refine XS.ifNo X0.here hx rfl (hb hby d4_25) rfl ((if0 _ _).trans (flt (mt (lw_gt q1 (86400 : Int64)).mp hc25_4)).2.2.1) ?_
          show Steps p.tables e below (s₁.setTop (mkF m 28 #[.val (.long q0), .second, .val (.long q1), .second] [])) _
          refine XS.iconst X0.here hx rfl (hb hby d4_28) ?_
          show Steps p.tables e below (s₁.setTop (mkF m 29 #[.val (.long q0), .second, .val (.long q1), .second] [(.int (1 : Int32))])) _
          refine XS.goto X0.here hx rfl (pc0 := 29) (pc' := 33) rfl (hb hby d4_29) (by decide) (by decide) ?_
          show Steps p.tables e below (s₁.setTop (mkF m 33 #[.val (.long q0), .second, .val (.long q1), .second] [(.int (1 : Int32))])) _
          exact k
        show Steps p.tables e below (s₁.setTop (mkF m 33 #[.val (.long q0), .second, .val (.long q1), .second] [(.int (if (86400 : Int64) < q1 then (0 : Int32) else (1 : Int32)))])) _
        exact k
      show Steps p.tables e below (s₁.setTop (mkF m 33 #[.val (.long q0), .second, .val (.long q1), .second] [(.int (if q1 < (1 : Int64) then (0 : Int32) else (if (86400 : Int64) < q1 then (0 : Int32) else (1 : Int32))))])) _
      exact k
    show Steps p.tables e below (s₁.setTop (mkF m 33 #[.val (.long q0), .second, .val (.long q1), .second] [(.int (if (1000000 : Int64) < q0 then (0 : Int32) else (if q1 < (1 : Int64) then (0 : Int32) else (if (86400 : Int64) < q1 then (0 : Int32) else (1 : Int32)))))])) _
    exact k
  show Goes p.tables e below _ (s₁.setTop (mkF m 33 #[.val (.long q0), .second, .val (.long q1), .second] [(.int (if q0 < (1 : Int64) then (0 : Int32) else (if (1000000 : Int64) < q0 then (0 : Int32) else (if q1 < (1 : Int64) then (0 : Int32) else (if (86400 : Int64) < q1 then (0 : Int32) else (1 : Int32))))))]))
  refine Goes.retN X0 hx Bd.notSynchronized (t := .boolean) Bd.returns (by simp) (hb hby d4_33) (by decide) (by decide) ?_
  exact ⟨rfl, N0, e0⟩
theorem d2_0 : decode jdk_30_method_1_code 0 = .ok (.aload_n 0, 1) := by decide +kernel
theorem d2_1 : decode jdk_30_method_1_code 1 = .ok (.invokespecial 1, 3) := by decide +kernel
theorem d2_4 : decode jdk_30_method_1_code 4 = .ok (.return_, 1) := by decide +kernel
theorem pn1 : plainName "java/lang/Record" = true := by first | (simp [plainName, overriddenIn]; done) | decide +kernel
theorem ef2 (m : MethodId) (u0 : Addr) : entryFrame m #[(.ref u0)] 1 = mkF m 0 #[.val (.ref u0)] [] := by first | (simp [entryFrame, mkF, argsToLocals, Value.category]; done) | rfl
def Q2 (Z : State) (u0 : Addr) (h0 : Heap) (n0 : Nat) (v : Option Value) (h : Heap) (L : List Loc) : Prop := v = none ∧ Fr n0 L ∧ h = h0
set_option maxRecDepth 65536 in
set_option maxHeartbeats 40000000 in
theorem rm2 (l : Launch) (Z : State) (a0 : Array Value) (hw : ∀ d ∈ tables_1, d.before a0 Z = true) (ws : List Jvm.Cond) (u0 : Addr) (h0 : Heap) (n0 : Nat) (Z0 : n0 ≤ h0.size) :
    MetFree l (⟨"java/lang/Record", "<init>", "()V"⟩ : MethodName) (head1 (Jvm.Cond.code (⟨"java/lang/Record", "<init>", "()V"⟩ : MethodName) jdk_30_method_1_code 1 none :: ws) ({ frames := 1, cells := 0, slots := 0, locals := 12 } : Room)) (fun a U => a = #[(.ref u0)] ∧ Z.Warmed39 U.vm ∧ U.heap = h0) (fun _ _ _ _ _ => True) (fun _ U o U' => ∃ v L, o = .returned v ∧ Q2 Z u0 h0 n0 v U'.heap L ∧ FrameEnd U o U' L ({ frames := 1, cells := 0, slots := 0, locals := 12 } : Room).cells ({ frames := 1, cells := 0, slots := 0, locals := 12 } : Room).slots) := by
  refine MetFree.of_bodySF (plainFor_of_name pn1) hisR ?_
  intro p e s m args below meth c s₁ Bd hml0 hP hK
  obtain ⟨rfl, hZ, hh⟩ := hP
  have hx := Bd.exec
  have hby := Bd.bytes
  have hml : c.maxLocals = 1 := hml0
  have hown : s.vm.findClass "java/lang/Record" = some m.cls := findClass_of_methodNamed Bd.named
  have hnm := (name_of_methodNamed Bd.named Bd.method).1
  have X0 : Stand p l e ({ frames := 1, cells := 0, slots := 0, locals := 12 } : Room) s m #[(.ref u0)] below meth c s₁ [] 0 0 := Stand.of_body Bd
  have e0 : s₁.heap = h0 := by rw [← hh, Bd.state]; rfl
  have N0 := Fr.nil n0
  refine Goes.out (Q := fun o U' => ∃ v L, o = .returned v ∧ Q2 Z u0 h0 n0 v U'.heap L ∧ FrameEnd s o U' L ({ frames := 1, cells := 0, slots := 0, locals := 12 } : Room).cells ({ frames := 1, cells := 0, slots := 0, locals := 12 } : Room).slots) ?_
  refine Goes.step (S' := s₁.setTop (mkF m 0 #[.val (.ref u0)] [])) (fun _ k => castTop (ef2 m u0) k) ?_
  refine Goes.step (S' := s₁.setTop (mkF m 1 #[.val (.ref u0)] [(.ref u0)])) (fun _ k => XS.aloadN X0.here hx rfl (hb hby d2_0) rfl rfl k) ?_
  obtain ⟨T1, X1, e1, st1⟩ := initO X0 hx hZ hown (hw _ (List.mem_of_getElem? (i := 14) rfl)) (hw _ (List.mem_of_getElem? (i := 15) rfl)) (hw _ (List.mem_of_getElem? (i := 16) rfl)) e0 (g := (mkF m 1 #[.val (.ref u0)] [(.ref u0)])) rfl (by rw [hml]; rfl) rfl (hb hby d2_1) (by decide) (W := 0) (by show 2 * 0 + _ ≤ _; exact Nat.le_of_eq rfl) (by decide)
  refine Goes.step (S' := T1.setTop (mkF m 4 #[.val (.ref u0)] [])) st1 ?_
  refine Goes.retV X1 hx Bd.notSynchronized Bd.returns (hb hby d2_4) (by decide) (by decide) ?_
  exact ⟨rfl, N0, e1⟩
theorem pd0 : parseMethodDescriptor "()V" = some ⟨[], none⟩ := by decide +kernel
theorem pd1 : parseMethodDescriptor "(JJ)Z" = some ⟨[.long, .long], some .boolean⟩ := by decide +kernel
theorem d1_0 : decode prog_15_method_1_code 0 = .ok (.aload_n 0, 1) := by decide +kernel
theorem d1_1 : decode prog_15_method_1_code 1 = .ok (.invokespecial 1, 3) := by decide +kernel
theorem d1_4 : decode prog_15_method_1_code 4 = .ok (.iload_n 1, 1) := by decide +kernel
theorem d1_5 : decode prog_15_method_1_code 5 = .ok (.i2l, 1) := by decide +kernel
theorem d1_6 : decode prog_15_method_1_code 6 = .ok (.iload_n 2, 1) := by decide +kernel
theorem d1_7 : decode prog_15_method_1_code 7 = .ok (.i2l, 1) := by decide +kernel
theorem d1_8 : decode prog_15_method_1_code 8 = .ok (.invokestatic 7, 3) := by decide +kernel
theorem d1_11 : decode prog_15_method_1_code 11 = .ok (.ifCond .ne 13, 3) := by decide +kernel
theorem d1_24 : decode prog_15_method_1_code 24 = .ok (.aload_n 0, 1) := by decide +kernel
theorem d1_25 : decode prog_15_method_1_code 25 = .ok (.iload_n 1, 1) := by decide +kernel
theorem d1_26 : decode prog_15_method_1_code 26 = .ok (.putfield 20, 3) := by decide +kernel
theorem d1_29 : decode prog_15_method_1_code 29 = .ok (.aload_n 0, 1) := by decide +kernel
theorem d1_30 : decode prog_15_method_1_code 30 = .ok (.iload_n 2, 1) := by decide +kernel
theorem d1_31 : decode prog_15_method_1_code 31 = .ok (.putfield 24, 3) := by decide +kernel
theorem d1_34 : decode prog_15_method_1_code 34 = .ok (.return_, 1) := by decide +kernel
theorem ef1 (m : MethodId) (u0 : Addr) (p1 : Int32) (p2 : Int32) : entryFrame m #[(.ref u0), (.int p1), (.int p2)] 3 = mkF m 0 #[.val (.ref u0), .val (.int p1), .val (.int p2)] [] := by first | (simp [entryFrame, mkF, argsToLocals, Value.category]; done) | rfl
theorem own_hc1_11 (p1 : Int32) (p2 : Int32) (hv : (f4 (p1.toInt64) (p2.toInt64)) = (1 : Int32)) : ¬ ((f4 (p1.toInt64) (p2.toInt64)) = (0 : Int32)) := by
  rw [hv]; decide
def Q1 (Z : State) (u0 : Addr) (p1 : Int32) (p2 : Int32) (h0 : Heap) (n0 : Nat) (v : Option Value) (h : Heap) (L : List Loc) : Prop := v = none ∧ Fr n0 L ∧ Keep h0 h [u0] ∧ Exa Z h u0 "com/example/keywarden/keywarden/core/RateLimit" ∧ Fld Z h u0 "com/example/keywarden/keywarden/core/RateLimit" "limit" "I" (.int p1) ∧ Fld Z h u0 "com/example/keywarden/keywarden/core/RateLimit" "windowSeconds" "I" (.int p2)
set_option maxRecDepth 65536 in
set_option maxHeartbeats 40000000 in
theorem rm1 (l : Launch) (Z : State) (a0 : Array Value) (hw : ∀ d ∈ tables_1, d.before a0 Z = true) (ws : List Jvm.Cond) (u0 : Addr) (p1 : Int32) (p2 : Int32) (h0 : Heap) (n0 : Nat) (Z0 : n0 ≤ h0.size) (E_u0 : Exa Z h0 u0 "com/example/keywarden/keywarden/core/RateLimit") (F_limit_u0 : Fld Z h0 u0 "com/example/keywarden/keywarden/core/RateLimit" "limit" "I" (.int (0 : Int32))) (F_windowSeconds_u0 : Fld Z h0 u0 "com/example/keywarden/keywarden/core/RateLimit" "windowSeconds" "I" (.int (0 : Int32))) (g_u0 : n0 ≤ u0) (hv : (f4 (p1.toInt64) (p2.toInt64)) = (1 : Int32)) :
    MetFree l (⟨"com/example/keywarden/keywarden/core/RateLimit", "<init>", "(II)V"⟩ : MethodName) (head1 (Jvm.Cond.code (⟨"com/example/keywarden/keywarden/core/RateLimit", "<init>", "(II)V"⟩ : MethodName) prog_15_method_1_code 3 none :: ws) ({ frames := 2, cells := 0, slots := 0, locals := 24 } : Room)) (fun a U => a = #[(.ref u0), (.int p1), (.int p2)] ∧ Z.Warmed39 U.vm ∧ U.heap = h0) (fun _ _ _ _ _ => True) (fun _ U o U' => ∃ v L, o = .returned v ∧ Q1 Z u0 p1 p2 h0 n0 v U'.heap L ∧ FrameEnd U o U' L ({ frames := 2, cells := 0, slots := 0, locals := 24 } : Room).cells ({ frames := 2, cells := 0, slots := 0, locals := 24 } : Room).slots) := by
  refine MetFree.of_bodySF (plainFor_of_name pn0) hisR ?_
  intro p e s m args below meth c s₁ Bd hml0 hP hK
  obtain ⟨rfl, hZ, hh⟩ := hP
  have hx := Bd.exec
  have hby := Bd.bytes
  have hml : c.maxLocals = 3 := hml0
  have hown : s.vm.findClass "com/example/keywarden/keywarden/core/RateLimit" = some m.cls := findClass_of_methodNamed Bd.named
  have hnm := (name_of_methodNamed Bd.named Bd.method).1
  have X0 : Stand p l e ({ frames := 2, cells := 0, slots := 0, locals := 24 } : Room) s m #[(.ref u0), (.int p1), (.int p2)] below meth c s₁ [] 0 0 := Stand.of_body Bd
  have e0 : s₁.heap = h0 := by rw [← hh, Bd.state]; rfl
  have N0 := Fr.nil n0
  have K0 : Keep h0 h0 [u0] := Keep.refl _ _
  refine Goes.out (Q := fun o U' => ∃ v L, o = .returned v ∧ Q1 Z u0 p1 p2 h0 n0 v U'.heap L ∧ FrameEnd s o U' L ({ frames := 2, cells := 0, slots := 0, locals := 24 } : Room).cells ({ frames := 2, cells := 0, slots := 0, locals := 24 } : Room).slots) ?_
  refine Goes.step (S' := s₁.setTop (mkF m 0 #[.val (.ref u0), .val (.int p1), .val (.int p2)] [])) (fun _ k => castTop (ef1 m u0 p1 p2) k) ?_
  refine Goes.step (S' := s₁.setTop (mkF m 1 #[.val (.ref u0), .val (.int p1), .val (.int p2)] [(.ref u0)])) (fun _ k => XS.aloadN X0.here hx rfl (hb hby d1_0) rfl rfl k) ?_
  obtain ⟨_, _, ⟨T1, L1, k1, n1⟩, -, X1, ⟨Lc1, hQ1, l1, y1, z1⟩, st1⟩ := X0.specialBack hx (y := (⟨"java/lang/Record", "<init>", "()V"⟩ : MethodName)) rfl hown (mvT hZ (hw _ (List.mem_of_getElem? (i := 9) rfl))) (mvT hZ (hw _ (List.mem_of_getElem? (i := 10) rfl))) (mvT hZ (hw _ (List.mem_of_getElem? (i := 13) rfl))) (by decide) (backOf (W := 0) (rm2 l Z a0 hw [] u0 h0 n0 Z0) hZ (hw _ (List.mem_of_getElem? (i := 13) rfl)) (hw _ (List.mem_of_getElem? (i := 12) rfl)) (by decide) (by decide)) (g := (mkF m 1 #[.val (.ref u0), .val (.int p1), .val (.int p2)] [(.ref u0)])) rfl (by rw [hml]; rfl) (Steps.refl _) (a := u0) (argsL := []) (rest := []) (lenOf pd0 rfl) rfl (by show 2 * 0 + _ ≤ _; exact Nat.le_of_eq rfl) (hb hby d1_1) (fun _ _ => ⟨rfl, e0, (by decide : 0 + 0 ≤ _), (by decide : 0 + 0 ≤ _)⟩)
  dsimp only [Pt.U, Pt.locs, Pt.cells, Pt.slots] at X1 l1 y1 z1 st1 hQ1
  subst l1 y1 z1
  obtain ⟨rfl, N1q, e1⟩ := hQ1
  have N2 := Fr.app N0 N1q
  refine Goes.step (S' := T1.setTop (mkF m 4 #[.val (.ref u0), .val (.int p1), .val (.int p2)] [])) (fun _ k => st1.trans k) ?_
  refine Goes.step (S' := T1.setTop (mkF m 5 #[.val (.ref u0), .val (.int p1), .val (.int p2)] [(.int p1)])) (fun _ k => XS.iloadN X1.here hx rfl (hb hby d1_4) rfl  k) ?_
  refine Goes.step (S' := T1.setTop (mkF m 6 #[.val (.ref u0), .val (.int p1), .val (.int p2)] [(.long (p1.toInt64))])) (fun _ k => XS.i2l X1.here hx rfl (hb hby d1_5) rfl k) ?_
  refine Goes.step (S' := T1.setTop (mkF m 7 #[.val (.ref u0), .val (.int p1), .val (.int p2)] [(.int p2), (.long (p1.toInt64))])) (fun _ k => XS.iloadN X1.here hx rfl (hb hby d1_6) rfl  k) ?_
  refine Goes.step (S' := T1.setTop (mkF m 8 #[.val (.ref u0), .val (.int p1), .val (.int p2)] [(.long (p2.toInt64)), (.long (p1.toInt64))])) (fun _ k => XS.i2l X1.here hx rfl (hb hby d1_7) rfl k) ?_
  obtain ⟨_, _, ⟨T3, L3, k3, n3⟩, -, X3, ⟨Lc3, hQ3, l3, y3, z3⟩, st3⟩ := Jvm.LawKit.callS X1 hx (y := (⟨"com/example/keywarden/keywarden/core/RateLimit", "isValid", "(JJ)Z"⟩ : MethodName)) hown (mvT hZ (hw _ (List.mem_of_getElem? (i := 17) rfl))) (mvT hZ (hw _ (List.mem_of_getElem? (i := 18) rfl))) (mvT hZ (hw _ (List.mem_of_getElem? (i := 5) rfl))) (mvT hZ (hw _ (List.mem_of_getElem? (i := 19) rfl))) (by decide) (backOf (W := 0) (rm4 l Z a0 hw [] (p1.toInt64) (p2.toInt64) h0 n0 Z0) hZ (hw _ (List.mem_of_getElem? (i := 19) rfl)) (hw _ (List.mem_of_getElem? (i := 5) rfl)) (by decide) (by decide)) (g := (mkF m 8 #[.val (.ref u0), .val (.int p1), .val (.int p2)] [(.long (p2.toInt64)), (.long (p1.toInt64))])) rfl (by rw [hml]; rfl) (argsL := [(.long (p1.toInt64)), (.long (p2.toInt64))]) (rest := []) (lenOf pd1 rfl) rfl (by show 2 * 0 + _ ≤ _; exact Nat.le_of_eq rfl) (hb hby d1_8) (fun _ _ => ⟨rfl, e1, (by decide : 0 + 0 ≤ _), (by decide : 0 + 0 ≤ _)⟩)
  dsimp only [Pt.U, Pt.locs, Pt.cells, Pt.slots] at X3 l3 y3 z3 st3 hQ3
  subst l3 y3 z3
  obtain ⟨rfl, N3q, e3⟩ := hQ3
  have N4 := Fr.app N2 N3q
  refine Goes.step (S' := T3.setTop (mkF m 11 #[.val (.ref u0), .val (.int p1), .val (.int p2)] [(.int (f4 (p1.toInt64) (p2.toInt64)))])) st3 ?_
  refine Goes.step (S' := T3.setTop (mkF m 24 #[.val (.ref u0), .val (.int p1), .val (.int p2)] [])) (fun _ k => XS.ifYes X3.here hx rfl (pc0 := 11) (pc' := 24) rfl (hb hby d1_11) rfl ((if0 _ _).trans (feq (own_hc1_11 p1 p2 hv)).2) (by decide) (by decide) k) ?_
  refine Goes.step (S' := T3.setTop (mkF m 25 #[.val (.ref u0), .val (.int p1), .val (.int p2)] [(.ref u0)])) (fun _ k => XS.aloadN X3.here hx rfl (hb hby d1_24) rfl rfl k) ?_
  refine Goes.step (S' := T3.setTop (mkF m 26 #[.val (.ref u0), .val (.int p1), .val (.int p2)] [(.int p1), (.ref u0)])) (fun _ k => XS.iloadN X3.here hx rfl (hb hby d1_25) rfl  k) ?_
  obtain ⟨T5, h5, X5, e5, W5, st5⟩ := putF X3 hx hZ hown (host := "") (Or.inl (hw _ (List.mem_of_getElem? (i := 22) rfl))) Via.refl e3 F_limit_u0 E_u0 (Or.inr ⟨(hw _ (List.mem_of_getElem? (i := 23) rfl)), rfl, hnm⟩) (hw _ (List.mem_of_getElem? (i := 4) rfl)) (ty := .int) (by decide) rfl rfl (g := (mkF m 26 #[.val (.ref u0), .val (.int p1), .val (.int p2)] [(.int p1), (.ref u0)])) rfl rfl (hb hby d1_26)
  have Fw5 := F_limit_u0.same W5
  have N6 := Fr.snoc X5 N4 g_u0
  have Z7 : n0 ≤ h5.size := Nat.le_trans Z0 (Nat.le_of_eq W5.size.symm)
  have E_8 := E_u0.wr W5
  have F9 := F_windowSeconds_u0.other W5 (Or.inr (slot_ne (Or.inr (hw _ (List.mem_of_getElem? (i := 25) rfl))) (Or.inr (hw _ (List.mem_of_getElem? (i := 23) rfl))) (by decide) (t := .int) (t' := .int) (by decide) (by decide)))
  have K10 : Keep h0 h5 [u0] := K0.wr W5 (Or.inl (List.mem_of_getElem? (i := 0) rfl))
  refine Goes.step (S' := T5.setTop (mkF m 29 #[.val (.ref u0), .val (.int p1), .val (.int p2)] [])) st5 ?_
  refine Goes.step (S' := T5.setTop (mkF m 30 #[.val (.ref u0), .val (.int p1), .val (.int p2)] [(.ref u0)])) (fun _ k => XS.aloadN X5.here hx rfl (hb hby d1_29) rfl rfl k) ?_
  refine Goes.step (S' := T5.setTop (mkF m 31 #[.val (.ref u0), .val (.int p1), .val (.int p2)] [(.int p2), (.ref u0)])) (fun _ k => XS.iloadN X5.here hx rfl (hb hby d1_30) rfl  k) ?_
  obtain ⟨T11, h11, X11, e11, W11, st11⟩ := putF X5 hx hZ hown (host := "") (Or.inl (hw _ (List.mem_of_getElem? (i := 24) rfl))) Via.refl e5 F9 E_8 (Or.inr ⟨(hw _ (List.mem_of_getElem? (i := 25) rfl)), rfl, hnm⟩) (hw _ (List.mem_of_getElem? (i := 4) rfl)) (ty := .int) (by decide) rfl rfl (g := (mkF m 31 #[.val (.ref u0), .val (.int p1), .val (.int p2)] [(.int p2), (.ref u0)])) rfl rfl (hb hby d1_31)
  have Fw11 := F9.same W11
  have N12 := Fr.snoc X11 N6 g_u0
  have Z13 : n0 ≤ h11.size := Nat.le_trans Z7 (Nat.le_of_eq W11.size.symm)
  have E_14 := E_8.wr W11
  have F15 := Fw5.other W11 (Or.inr (slot_ne (Or.inr (hw _ (List.mem_of_getElem? (i := 23) rfl))) (Or.inr (hw _ (List.mem_of_getElem? (i := 25) rfl))) (by decide) (t := .int) (t' := .int) (by decide) (by decide)))
  have K16 : Keep h0 h11 [u0] := K10.wr W11 (Or.inl (List.mem_of_getElem? (i := 0) rfl))
  refine Goes.step (S' := T11.setTop (mkF m 34 #[.val (.ref u0), .val (.int p1), .val (.int p2)] [])) st11 ?_
  refine Goes.retV X11 hx Bd.notSynchronized Bd.returns (hb hby d1_34) (by decide) (by decide) ?_
  refine ⟨rfl, N12, ?_, ?_, ?_, ?_⟩
  · rw [e11]; exact K16
  · rw [e11]; exact E_14
  · rw [e11]; exact F15
  · rw [e11]; exact Fw11
theorem d5_0 : decode prog_15_method_3_code 0 = .ok (.aload_n 0, 1) := by decide +kernel
theorem d5_1 : decode prog_15_method_3_code 1 = .ok (.getfield 20, 3) := by decide +kernel
theorem d5_4 : decode prog_15_method_3_code 4 = .ok (.aload_n 1, 1) := by decide +kernel
theorem d5_5 : decode prog_15_method_3_code 5 = .ok (.getfield 20, 3) := by decide +kernel
theorem d5_8 : decode prog_15_method_3_code 8 = .ok (.if_icmp .gt 33, 3) := by decide +kernel
theorem d5_11 : decode prog_15_method_3_code 11 = .ok (.aload_n 0, 1) := by decide +kernel
theorem d5_12 : decode prog_15_method_3_code 12 = .ok (.getfield 20, 3) := by decide +kernel
theorem d5_15 : decode prog_15_method_3_code 15 = .ok (.i2l, 1) := by decide +kernel
theorem d5_16 : decode prog_15_method_3_code 16 = .ok (.aload_n 1, 1) := by decide +kernel
theorem d5_17 : decode prog_15_method_3_code 17 = .ok (.getfield 24, 3) := by decide +kernel
theorem d5_20 : decode prog_15_method_3_code 20 = .ok (.i2l, 1) := by decide +kernel
theorem d5_21 : decode prog_15_method_3_code 21 = .ok (.lmul, 1) := by decide +kernel
theorem d5_22 : decode prog_15_method_3_code 22 = .ok (.aload_n 1, 1) := by decide +kernel
theorem d5_23 : decode prog_15_method_3_code 23 = .ok (.getfield 20, 3) := by decide +kernel
theorem d5_26 : decode prog_15_method_3_code 26 = .ok (.i2l, 1) := by decide +kernel
theorem d5_27 : decode prog_15_method_3_code 27 = .ok (.aload_n 0, 1) := by decide +kernel
theorem d5_28 : decode prog_15_method_3_code 28 = .ok (.getfield 24, 3) := by decide +kernel
theorem d5_31 : decode prog_15_method_3_code 31 = .ok (.i2l, 1) := by decide +kernel
theorem d5_32 : decode prog_15_method_3_code 32 = .ok (.lmul, 1) := by decide +kernel
theorem d5_33 : decode prog_15_method_3_code 33 = .ok (.lcmp, 1) := by decide +kernel
theorem d5_34 : decode prog_15_method_3_code 34 = .ok (.ifCond .gt 7, 3) := by decide +kernel
theorem d5_37 : decode prog_15_method_3_code 37 = .ok (.iconst 1, 1) := by decide +kernel
theorem d5_38 : decode prog_15_method_3_code 38 = .ok (.goto 4, 3) := by decide +kernel
theorem d5_41 : decode prog_15_method_3_code 41 = .ok (.iconst 0, 1) := by decide +kernel
theorem d5_42 : decode prog_15_method_3_code 42 = .ok (.ireturn, 1) := by decide +kernel
theorem ef5 (m : MethodId) (u0 : Addr) (u1 : Addr) : entryFrame m #[(.ref u0), (.ref u1)] 2 = mkF m 0 #[.val (.ref u0), .val (.ref u1)] [] := by first | (simp [entryFrame, mkF, argsToLocals, Value.category]; done) | rfl
def f5 (w_limit_u0 : Int32) (w_windowSeconds_u0 : Int32) (w_limit_u1 : Int32) (w_windowSeconds_u1 : Int32) : Int32 := (if w_limit_u1 < w_limit_u0 then (0 : Int32) else (nar .boolean (if ((w_limit_u1.toInt64) * (w_windowSeconds_u0.toInt64)) < ((w_limit_u0.toInt64) * (w_windowSeconds_u1.toInt64)) then (0 : Int32) else (1 : Int32))))
def Q5 (Z : State) (u0 : Addr) (u1 : Addr) (w_limit_u0 : Int32) (w_windowSeconds_u0 : Int32) (w_limit_u1 : Int32) (w_windowSeconds_u1 : Int32) (h0 : Heap) (n0 : Nat) (v : Option Value) (h : Heap) (L : List Loc) : Prop := v = some (.int (f5 w_limit_u0 w_windowSeconds_u0 w_limit_u1 w_windowSeconds_u1)) ∧ Fr n0 L ∧ h = h0
set_option maxRecDepth 65536 in
set_option maxHeartbeats 40000000 in
theorem rm5 (l : Launch) (Z : State) (a0 : Array Value) (hw : ∀ d ∈ tables_1, d.before a0 Z = true) (ws : List Jvm.Cond) (u0 : Addr) (u1 : Addr) (w_limit_u0 : Int32) (w_windowSeconds_u0 : Int32) (w_limit_u1 : Int32) (w_windowSeconds_u1 : Int32) (h0 : Heap) (n0 : Nat) (Z0 : n0 ≤ h0.size) (E_u0 : Exa Z h0 u0 "com/example/keywarden/keywarden/core/RateLimit") (F_limit_u0 : Fld Z h0 u0 "com/example/keywarden/keywarden/core/RateLimit" "limit" "I" (.int w_limit_u0)) (F_windowSeconds_u0 : Fld Z h0 u0 "com/example/keywarden/keywarden/core/RateLimit" "windowSeconds" "I" (.int w_windowSeconds_u0)) (E_u1 : Exa Z h0 u1 "com/example/keywarden/keywarden/core/RateLimit") (F_limit_u1 : Fld Z h0 u1 "com/example/keywarden/keywarden/core/RateLimit" "limit" "I" (.int w_limit_u1)) (F_windowSeconds_u1 : Fld Z h0 u1 "com/example/keywarden/keywarden/core/RateLimit" "windowSeconds" "I" (.int w_windowSeconds_u1)) :
    MetFree l (⟨"com/example/keywarden/keywarden/core/RateLimit", "isWithin", "(Lcom/example/keywarden/keywarden/core/RateLimit;)Z"⟩ : MethodName) (head1 (Jvm.Cond.code (⟨"com/example/keywarden/keywarden/core/RateLimit", "isWithin", "(Lcom/example/keywarden/keywarden/core/RateLimit;)Z"⟩ : MethodName) prog_15_method_3_code 2 (some .boolean) :: ws) ({ frames := 0, cells := 0, slots := 0, locals := 0 } : Room)) (fun a U => a = #[(.ref u0), (.ref u1)] ∧ Z.Warmed39 U.vm ∧ U.heap = h0) (fun _ _ _ _ _ => True) (fun _ U o U' => ∃ v L, o = .returned v ∧ Q5 Z u0 u1 w_limit_u0 w_windowSeconds_u0 w_limit_u1 w_windowSeconds_u1 h0 n0 v U'.heap L ∧ FrameEnd U o U' L ({ frames := 0, cells := 0, slots := 0, locals := 0 } : Room).cells ({ frames := 0, cells := 0, slots := 0, locals := 0 } : Room).slots) := by
  refine MetFree.of_bodySF (plainFor_of_name pn0) hisR ?_
  intro p e s m args below meth c s₁ Bd hml0 hP hK
  obtain ⟨rfl, hZ, hh⟩ := hP
  have hx := Bd.exec
  have hby := Bd.bytes
  have hml : c.maxLocals = 2 := hml0
  have hown : s.vm.findClass "com/example/keywarden/keywarden/core/RateLimit" = some m.cls := findClass_of_methodNamed Bd.named
  have hnm := (name_of_methodNamed Bd.named Bd.method).1
  have X0 : Stand p l e ({ frames := 0, cells := 0, slots := 0, locals := 0 } : Room) s m #[(.ref u0), (.ref u1)] below meth c s₁ [] 0 0 := Stand.of_body Bd
  have e0 : s₁.heap = h0 := by rw [← hh, Bd.state]; rfl
  have N0 := Fr.nil n0
  refine Goes.out (Q := fun o U' => ∃ v L, o = .returned v ∧ Q5 Z u0 u1 w_limit_u0 w_windowSeconds_u0 w_limit_u1 w_windowSeconds_u1 h0 n0 v U'.heap L ∧ FrameEnd s o U' L ({ frames := 0, cells := 0, slots := 0, locals := 0 } : Room).cells ({ frames := 0, cells := 0, slots := 0, locals := 0 } : Room).slots) ?_
  refine Goes.step (S' := s₁.setTop (mkF m 0 #[.val (.ref u0), .val (.ref u1)] [])) (fun _ k => castTop (ef5 m u0 u1) k) ?_
  refine Goes.step (S' := s₁.setTop (mkF m 1 #[.val (.ref u0), .val (.ref u1)] [(.ref u0)])) (fun _ k => XS.aloadN X0.here hx rfl (hb hby d5_0) rfl rfl k) ?_
  obtain ⟨T1, X1, e1, st1⟩ := getF X0 hx hZ hown (host := "") (Or.inl (hw _ (List.mem_of_getElem? (i := 22) rfl))) Via.refl e0 F_limit_u0 (g := (mkF m 1 #[.val (.ref u0), .val (.ref u1)] [(.ref u0)])) rfl rfl (hb hby d5_1)
  refine Goes.step (S' := T1.setTop (mkF m 4 #[.val (.ref u0), .val (.ref u1)] [(.int w_limit_u0)])) st1 ?_
  refine Goes.step (S' := T1.setTop (mkF m 5 #[.val (.ref u0), .val (.ref u1)] [(.ref u1), (.int w_limit_u0)])) (fun _ k => XS.aloadN X1.here hx rfl (hb hby d5_4) rfl rfl k) ?_
  obtain ⟨T2, X2, e2, st2⟩ := getF X1 hx hZ hown (host := "") (Or.inl (hw _ (List.mem_of_getElem? (i := 22) rfl))) Via.refl e1 F_limit_u1 (g := (mkF m 5 #[.val (.ref u0), .val (.ref u1)] [(.ref u1), (.int w_limit_u0)])) rfl rfl (hb hby d5_5)
  refine Goes.step (S' := T2.setTop (mkF m 8 #[.val (.ref u0), .val (.ref u1)] [(.int w_limit_u1), (.int w_limit_u0)])) st2 ?_
  by_cases hc8_1 : w_limit_u1 < w_limit_u0
  · refine Goes.step (S' := T2.setTop (mkF m 41 #[.val (.ref u0), .val (.ref u1)] [])) (fun _ k => XS.icmpYes X2.here hx rfl (pc0 := 8) (pc' := 41) rfl (hb hby d5_8) rfl (tlt hc8_1).2.2.1 (by decide) (by decide) k) ?_
    refine Goes.step (S' := T2.setTop (mkF m 42 #[.val (.ref u0), .val (.ref u1)] [(.int (0 : Int32))])) (fun _ k => XS.iconst X2.here hx rfl (hb hby d5_41) k) ?_
    refine Goes.retN X2 hx Bd.notSynchronized (t := .boolean) Bd.returns (by simp) (hb hby d5_42) (by decide) (by decide) ?_
    refine ⟨congrArg (fun z => some (Value.int z)) ?_, N0, e2⟩
    rw [f5, if_pos hc8_1]
    try rfl
  · refine Goes.step (S' := T2.setTop (mkF m 11 #[.val (.ref u0), .val (.ref u1)] [])) (fun _ k => XS.icmpNo X2.here hx rfl (hb hby d5_8) rfl (flt hc8_1).2.2.1 k) ?_
    refine Goes.step (S' := T2.setTop (mkF m 12 #[.val (.ref u0), .val (.ref u1)] [(.ref u0)])) (fun _ k => XS.aloadN X2.here hx rfl (hb hby d5_11) rfl rfl k) ?_
    obtain ⟨T3, X3, e3, st3⟩ := getF X2 hx hZ hown (host := "") (Or.inl (hw _ (List.mem_of_getElem? (i := 22) rfl))) Via.refl e2 F_limit_u0 (g := (mkF m 12 #[.val (.ref u0), .val (.ref u1)] [(.ref u0)])) rfl rfl (hb hby d5_12)
    refine Goes.step (S' := T3.setTop (mkF m 15 #[.val (.ref u0), .val (.ref u1)] [(.int w_limit_u0)])) st3 ?_
    refine Goes.step (S' := T3.setTop (mkF m 16 #[.val (.ref u0), .val (.ref u1)] [(.long (w_limit_u0.toInt64))])) (fun _ k => XS.i2l X3.here hx rfl (hb hby d5_15) rfl k) ?_
    refine Goes.step (S' := T3.setTop (mkF m 17 #[.val (.ref u0), .val (.ref u1)] [(.ref u1), (.long (w_limit_u0.toInt64))])) (fun _ k => XS.aloadN X3.here hx rfl (hb hby d5_16) rfl rfl k) ?_
    obtain ⟨T4, X4, e4, st4⟩ := getF X3 hx hZ hown (host := "") (Or.inl (hw _ (List.mem_of_getElem? (i := 24) rfl))) Via.refl e3 F_windowSeconds_u1 (g := (mkF m 17 #[.val (.ref u0), .val (.ref u1)] [(.ref u1), (.long (w_limit_u0.toInt64))])) rfl rfl (hb hby d5_17)
    refine Goes.step (S' := T4.setTop (mkF m 20 #[.val (.ref u0), .val (.ref u1)] [(.int w_windowSeconds_u1), (.long (w_limit_u0.toInt64))])) st4 ?_
    refine Goes.step (S' := T4.setTop (mkF m 21 #[.val (.ref u0), .val (.ref u1)] [(.long (w_windowSeconds_u1.toInt64)), (.long (w_limit_u0.toInt64))])) (fun _ k => XS.i2l X4.here hx rfl (hb hby d5_20) rfl k) ?_
    refine Goes.step (S' := T4.setTop (mkF m 22 #[.val (.ref u0), .val (.ref u1)] [(.long ((w_limit_u0.toInt64) * (w_windowSeconds_u1.toInt64)))])) (fun _ k => XS.lmul X4.here hx rfl (hb hby d5_21) rfl k) ?_
    refine Goes.step (S' := T4.setTop (mkF m 23 #[.val (.ref u0), .val (.ref u1)] [(.ref u1), (.long ((w_limit_u0.toInt64) * (w_windowSeconds_u1.toInt64)))])) (fun _ k => XS.aloadN X4.here hx rfl (hb hby d5_22) rfl rfl k) ?_
    obtain ⟨T5, X5, e5, st5⟩ := getF X4 hx hZ hown (host := "") (Or.inl (hw _ (List.mem_of_getElem? (i := 22) rfl))) Via.refl e4 F_limit_u1 (g := (mkF m 23 #[.val (.ref u0), .val (.ref u1)] [(.ref u1), (.long ((w_limit_u0.toInt64) * (w_windowSeconds_u1.toInt64)))])) rfl rfl (hb hby d5_23)
    refine Goes.step (S' := T5.setTop (mkF m 26 #[.val (.ref u0), .val (.ref u1)] [(.int w_limit_u1), (.long ((w_limit_u0.toInt64) * (w_windowSeconds_u1.toInt64)))])) st5 ?_
    refine Goes.step (S' := T5.setTop (mkF m 27 #[.val (.ref u0), .val (.ref u1)] [(.long (w_limit_u1.toInt64)), (.long ((w_limit_u0.toInt64) * (w_windowSeconds_u1.toInt64)))])) (fun _ k => XS.i2l X5.here hx rfl (hb hby d5_26) rfl k) ?_
    refine Goes.step (S' := T5.setTop (mkF m 28 #[.val (.ref u0), .val (.ref u1)] [(.ref u0), (.long (w_limit_u1.toInt64)), (.long ((w_limit_u0.toInt64) * (w_windowSeconds_u1.toInt64)))])) (fun _ k => XS.aloadN X5.here hx rfl (hb hby d5_27) rfl rfl k) ?_
    obtain ⟨T6, X6, e6, st6⟩ := getF X5 hx hZ hown (host := "") (Or.inl (hw _ (List.mem_of_getElem? (i := 24) rfl))) Via.refl e5 F_windowSeconds_u0 (g := (mkF m 28 #[.val (.ref u0), .val (.ref u1)] [(.ref u0), (.long (w_limit_u1.toInt64)), (.long ((w_limit_u0.toInt64) * (w_windowSeconds_u1.toInt64)))])) rfl rfl (hb hby d5_28)
    refine Goes.step (S' := T6.setTop (mkF m 31 #[.val (.ref u0), .val (.ref u1)] [(.int w_windowSeconds_u0), (.long (w_limit_u1.toInt64)), (.long ((w_limit_u0.toInt64) * (w_windowSeconds_u1.toInt64)))])) st6 ?_
    refine Goes.step (S' := T6.setTop (mkF m 32 #[.val (.ref u0), .val (.ref u1)] [(.long (w_windowSeconds_u0.toInt64)), (.long (w_limit_u1.toInt64)), (.long ((w_limit_u0.toInt64) * (w_windowSeconds_u1.toInt64)))])) (fun _ k => XS.i2l X6.here hx rfl (hb hby d5_31) rfl k) ?_
    refine Goes.step (S' := T6.setTop (mkF m 33 #[.val (.ref u0), .val (.ref u1)] [(.long ((w_limit_u1.toInt64) * (w_windowSeconds_u0.toInt64))), (.long ((w_limit_u0.toInt64) * (w_windowSeconds_u1.toInt64)))])) (fun _ k => XS.lmul X6.here hx rfl (hb hby d5_32) rfl k) ?_
    refine Goes.step (S' := T6.setTop (mkF m 34 #[.val (.ref u0), .val (.ref u1)] [(.int (lcmpW ((w_limit_u0.toInt64) * (w_windowSeconds_u1.toInt64)) ((w_limit_u1.toInt64) * (w_windowSeconds_u0.toInt64))))])) (fun _ k => XS.lcmp X6.here hx rfl (hb hby d5_33) rfl k) ?_
    refine Goes.step (own_ite1 (T := T6) (c := ((w_limit_u1.toInt64) * (w_windowSeconds_u0.toInt64)) < ((w_limit_u0.toInt64) * (w_windowSeconds_u1.toInt64))) (a0 := (0 : Int32)) (b0 := (1 : Int32)) (F := fun z2_0 => (mkF m 42 #[.val (.ref u0), .val (.ref u1)] [(.int z2_0)])) ?_ ?_) ?_
    · intro hc34_2 t k
      refine XS.ifYes X6.here hx rfl (pc0 := 34) (pc' := 41) rfl (hb hby d5_34) rfl ((if0 _ _).trans (tlt ((lw_gt ((w_limit_u0.toInt64) * (w_windowSeconds_u1.toInt64)) ((w_limit_u1.toInt64) * (w_windowSeconds_u0.toInt64))).mpr hc34_2)).2.2.1) (by decide) (by decide) ?_
      show Steps p.tables e below (T6.setTop (mkF m 41 #[.val (.ref u0), .val (.ref u1)] [])) _
      refine XS.iconst X6.here hx rfl (hb hby d5_41) ?_
      show Steps p.tables e below (T6.setTop (mkF m 42 #[.val (.ref u0), .val (.ref u1)] [(.int (0 : Int32))])) _
      exact k
    · intro hc34_2 t k
      refine XS.ifNo X6.here hx rfl (hb hby d5_34) rfl ((if0 _ _).trans (flt (mt (lw_gt ((w_limit_u0.toInt64) * (w_windowSeconds_u1.toInt64)) ((w_limit_u1.toInt64) * (w_windowSeconds_u0.toInt64))).mp hc34_2)).2.2.1) ?_
      show Steps p.tables e below (T6.setTop (mkF m 37 #[.val (.ref u0), .val (.ref u1)] [])) _
      refine XS.iconst X6.here hx rfl (hb hby d5_37) ?_
      show Steps p.tables e below (T6.setTop (mkF m 38 #[.val (.ref u0), .val (.ref u1)] [(.int (1 : Int32))])) _
      refine XS.goto X6.here hx rfl (pc0 := 38) (pc' := 42) rfl (hb hby d5_38) (by decide) (by decide) ?_
      show Steps p.tables e below (T6.setTop (mkF m 42 #[.val (.ref u0), .val (.ref u1)] [(.int (1 : Int32))])) _
      exact k
    show Goes p.tables e below _ (T6.setTop (mkF m 42 #[.val (.ref u0), .val (.ref u1)] [(.int (if ((w_limit_u1.toInt64) * (w_windowSeconds_u0.toInt64)) < ((w_limit_u0.toInt64) * (w_windowSeconds_u1.toInt64)) then (0 : Int32) else (1 : Int32)))]))
    refine Goes.retN X6 hx Bd.notSynchronized (t := .boolean) Bd.returns (by simp) (hb hby d5_42) (by decide) (by decide) ?_
    refine ⟨congrArg (fun z => some (Value.int z)) ?_, N0, e6⟩
    rw [f5, if_neg hc8_1]
    try rfl
theorem pd2 : parseMethodDescriptor "(II)V" = some ⟨[.int, .int], none⟩ := by decide +kernel
theorem pd3 : parseMethodDescriptor "(Lcom/example/keywarden/keywarden/core/RateLimit;)Z" = some ⟨[(.object "com/example/keywarden/keywarden/core/RateLimit")], some .boolean⟩ := by decide +kernel
theorem pn2 : plainName "com/example/keywarden/keywarden/core/RateLimitIsWithinPinLaw" = true := by first | (simp [plainName, overriddenIn]; done) | decide +kernel
theorem ef0 (m : MethodId) (p0 : Int32) (p1 : Int32) (p2 : Int32) (p3 : Int32) : entryFrame m #[(.int p0), (.int p1), (.int p2), (.int p3)] maxLocals = mkF m 0 #[.val (.int p0), .val (.int p1), .val (.int p2), .val (.int p3), .unset, .unset, .unset, .unset, .unset, .unset, .unset, .unset, .unset, .unset, .unset, .unset, .unset, .unset, .unset, .unset] [] := by first | (simp [entryFrame, mkF, argsToLocals, Value.category, maxLocals]; done) | rfl
theorem own_pr0_52_hv (p0 : Int32) (p1 : Int32) (p2 : Int32) (p3 : Int32) (v4_9 : Int32) (ev4_9 : v4_9 = (((p0 &&& (2147483647 : Int32)) % (1000000 : Int32)) + (1 : Int32))) (v5_20 : Int32) (ev5_20 : v5_20 = (((p1 &&& (2147483647 : Int32)) % (86400 : Int32)) + (1 : Int32))) (v6_31 : Int32) (ev6_31 : v6_31 = (((p2 &&& (2147483647 : Int32)) % (1000000 : Int32)) + (1 : Int32))) (v7_42 : Int32) (ev7_42 : v7_42 = (((p3 &&& (2147483647 : Int32)) % (86400 : Int32)) + (1 : Int32))) : (f4 (v4_9.toInt64) (v5_20.toInt64)) = (1 : Int32) := by
  have ap0 : (p0 &&& 2147483647).toInt = p0.toInt % 2147483648 := c_mask p0 2147483647 31 (by decide) (by decide)
  have bp0 := c_irem (p0 &&& 2147483647) 1000000 1000000 (by decide)
  have dp0 := c_iadd ((p0 &&& 2147483647) % 1000000) 1
  have rp0 := rng32 (((p0 &&& 2147483647) % 1000000) + 1)
  rw [← ev4_9] at dp0 rp0
  simp only [Int32.reduceToInt] at dp0
  have R4 : 1 ≤ v4_9.toInt ∧ v4_9.toInt ≤ 1000000 := by omega
  clear ap0 bp0 dp0 rp0
  have ap1 : (p1 &&& 2147483647).toInt = p1.toInt % 2147483648 := c_mask p1 2147483647 31 (by decide) (by decide)
  have bp1 := c_irem (p1 &&& 2147483647) 86400 86400 (by decide)
  have dp1 := c_iadd ((p1 &&& 2147483647) % 86400) 1
  have rp1 := rng32 (((p1 &&& 2147483647) % 86400) + 1)
  rw [← ev5_20] at dp1 rp1
  simp only [Int32.reduceToInt] at dp1
  have R5 : 1 ≤ v5_20.toInt ∧ v5_20.toInt ≤ 86400 := by omega
  clear ap1 bp1 dp1 rp1
  have l1 := c_i2l v4_9
  have l2 := c_i2l v5_20
  simp only [f4, Int32.lt_iff_toInt_lt, ← Int32.toInt_inj, apply_ite Int32.toInt, apply_ite (nar .boolean), own_nar0, own_nar1, Int32.reduceToInt, Int64.lt_iff_toInt_lt, ← Int64.toInt_inj, apply_ite Int64.toInt, Int64.reduceToInt]
  repeat' split
  all_goals first | rfl | decide | (exfalso; omega)
theorem own_pr0_65_hv (p0 : Int32) (p1 : Int32) (p2 : Int32) (p3 : Int32) (v4_9 : Int32) (ev4_9 : v4_9 = (((p0 &&& (2147483647 : Int32)) % (1000000 : Int32)) + (1 : Int32))) (v5_20 : Int32) (ev5_20 : v5_20 = (((p1 &&& (2147483647 : Int32)) % (86400 : Int32)) + (1 : Int32))) (v6_31 : Int32) (ev6_31 : v6_31 = (((p2 &&& (2147483647 : Int32)) % (1000000 : Int32)) + (1 : Int32))) (v7_42 : Int32) (ev7_42 : v7_42 = (((p3 &&& (2147483647 : Int32)) % (86400 : Int32)) + (1 : Int32))) : (f4 (v6_31.toInt64) (v7_42.toInt64)) = (1 : Int32) := by
  have ap2 : (p2 &&& 2147483647).toInt = p2.toInt % 2147483648 := c_mask p2 2147483647 31 (by decide) (by decide)
  have bp2 := c_irem (p2 &&& 2147483647) 1000000 1000000 (by decide)
  have dp2 := c_iadd ((p2 &&& 2147483647) % 1000000) 1
  have rp2 := rng32 (((p2 &&& 2147483647) % 1000000) + 1)
  rw [← ev6_31] at dp2 rp2
  simp only [Int32.reduceToInt] at dp2
  have R6 : 1 ≤ v6_31.toInt ∧ v6_31.toInt ≤ 1000000 := by omega
  clear ap2 bp2 dp2 rp2
  have ap3 : (p3 &&& 2147483647).toInt = p3.toInt % 2147483648 := c_mask p3 2147483647 31 (by decide) (by decide)
  have bp3 := c_irem (p3 &&& 2147483647) 86400 86400 (by decide)
  have dp3 := c_iadd ((p3 &&& 2147483647) % 86400) 1
  have rp3 := rng32 (((p3 &&& 2147483647) % 86400) + 1)
  rw [← ev7_42] at dp3 rp3
  simp only [Int32.reduceToInt] at dp3
  have R7 : 1 ≤ v7_42.toInt ∧ v7_42.toInt ≤ 86400 := by omega
  clear ap3 bp3 dp3 rp3
  have l1 := c_i2l v6_31
  have l2 := c_i2l v7_42
  simp only [f4, Int32.lt_iff_toInt_lt, ← Int32.toInt_inj, apply_ite Int32.toInt, apply_ite (nar .boolean), own_nar0, own_nar1, Int32.reduceToInt, Int64.lt_iff_toInt_lt, ← Int64.toInt_inj, apply_ite Int64.toInt, Int64.reduceToInt]
  repeat' split
  all_goals first | rfl | decide | (exfalso; omega)
theorem own_nz0_88 (p0 : Int32) (p1 : Int32) (p2 : Int32) (p3 : Int32) (v4_9 : Int32) (ev4_9 : v4_9 = (((p0 &&& (2147483647 : Int32)) % (1000000 : Int32)) + (1 : Int32))) (v5_20 : Int32) (ev5_20 : v5_20 = (((p1 &&& (2147483647 : Int32)) % (86400 : Int32)) + (1 : Int32))) (v6_31 : Int32) (ev6_31 : v6_31 = (((p2 &&& (2147483647 : Int32)) % (1000000 : Int32)) + (1 : Int32))) (v7_42 : Int32) (ev7_42 : v7_42 = (((p3 &&& (2147483647 : Int32)) % (86400 : Int32)) + (1 : Int32))) (v10_82 : Int32) (ev10_82 : v10_82 = (if v6_31 < v4_9 then (0 : Int32) else (1 : Int32))) : v5_20 ≠ 0 := by
  have ap1 : (p1 &&& 2147483647).toInt = p1.toInt % 2147483648 := c_mask p1 2147483647 31 (by decide) (by decide)
  have bp1 := c_irem (p1 &&& 2147483647) 86400 86400 (by decide)
  have dp1 := c_iadd ((p1 &&& 2147483647) % 86400) 1
  have rp1 := rng32 (((p1 &&& 2147483647) % 86400) + 1)
  rw [← ev5_20] at dp1 rp1
  simp only [Int32.reduceToInt] at dp1
  have R5 : 1 ≤ v5_20.toInt ∧ v5_20.toInt ≤ 86400 := by omega
  clear ap1 bp1 dp1 rp1
  intro h
  rw [h] at R5
  exact absurd R5.1 (by decide)
theorem own_nz0_96 (p0 : Int32) (p1 : Int32) (p2 : Int32) (p3 : Int32) (v4_9 : Int32) (ev4_9 : v4_9 = (((p0 &&& (2147483647 : Int32)) % (1000000 : Int32)) + (1 : Int32))) (v5_20 : Int32) (ev5_20 : v5_20 = (((p1 &&& (2147483647 : Int32)) % (86400 : Int32)) + (1 : Int32))) (v6_31 : Int32) (ev6_31 : v6_31 = (((p2 &&& (2147483647 : Int32)) % (1000000 : Int32)) + (1 : Int32))) (v7_42 : Int32) (ev7_42 : v7_42 = (((p3 &&& (2147483647 : Int32)) % (86400 : Int32)) + (1 : Int32))) (v10_82 : Int32) (ev10_82 : v10_82 = (if v6_31 < v4_9 then (0 : Int32) else (1 : Int32))) (v11_90 : Int64) (ev11_90 : v11_90 = ((v4_9 / v5_20).toInt64)) : v5_20 ≠ 0 := by
  have ap1 : (p1 &&& 2147483647).toInt = p1.toInt % 2147483648 := c_mask p1 2147483647 31 (by decide) (by decide)
  have bp1 := c_irem (p1 &&& 2147483647) 86400 86400 (by decide)
  have dp1 := c_iadd ((p1 &&& 2147483647) % 86400) 1
  have rp1 := rng32 (((p1 &&& 2147483647) % 86400) + 1)
  rw [← ev5_20] at dp1 rp1
  simp only [Int32.reduceToInt] at dp1
  have R5 : 1 ≤ v5_20.toInt ∧ v5_20.toInt ≤ 86400 := by omega
  clear ap1 bp1 dp1 rp1
  intro h
  rw [h] at R5
  exact absurd R5.1 (by decide)
theorem own_nz0_104 (p0 : Int32) (p1 : Int32) (p2 : Int32) (p3 : Int32) (v4_9 : Int32) (ev4_9 : v4_9 = (((p0 &&& (2147483647 : Int32)) % (1000000 : Int32)) + (1 : Int32))) (v5_20 : Int32) (ev5_20 : v5_20 = (((p1 &&& (2147483647 : Int32)) % (86400 : Int32)) + (1 : Int32))) (v6_31 : Int32) (ev6_31 : v6_31 = (((p2 &&& (2147483647 : Int32)) % (1000000 : Int32)) + (1 : Int32))) (v7_42 : Int32) (ev7_42 : v7_42 = (((p3 &&& (2147483647 : Int32)) % (86400 : Int32)) + (1 : Int32))) (v10_82 : Int32) (ev10_82 : v10_82 = (if v6_31 < v4_9 then (0 : Int32) else (1 : Int32))) (v11_90 : Int64) (ev11_90 : v11_90 = ((v4_9 / v5_20).toInt64)) (v13_98 : Int64) (ev13_98 : v13_98 = ((v4_9 % v5_20).toInt64)) : v7_42 ≠ 0 := by
  have ap3 : (p3 &&& 2147483647).toInt = p3.toInt % 2147483648 := c_mask p3 2147483647 31 (by decide) (by decide)
  have bp3 := c_irem (p3 &&& 2147483647) 86400 86400 (by decide)
  have dp3 := c_iadd ((p3 &&& 2147483647) % 86400) 1
  have rp3 := rng32 (((p3 &&& 2147483647) % 86400) + 1)
  rw [← ev7_42] at dp3 rp3
  simp only [Int32.reduceToInt] at dp3
  have R7 : 1 ≤ v7_42.toInt ∧ v7_42.toInt ≤ 86400 := by omega
  clear ap3 bp3 dp3 rp3
  intro h
  rw [h] at R7
  exact absurd R7.1 (by decide)
theorem own_nz0_112 (p0 : Int32) (p1 : Int32) (p2 : Int32) (p3 : Int32) (v4_9 : Int32) (ev4_9 : v4_9 = (((p0 &&& (2147483647 : Int32)) % (1000000 : Int32)) + (1 : Int32))) (v5_20 : Int32) (ev5_20 : v5_20 = (((p1 &&& (2147483647 : Int32)) % (86400 : Int32)) + (1 : Int32))) (v6_31 : Int32) (ev6_31 : v6_31 = (((p2 &&& (2147483647 : Int32)) % (1000000 : Int32)) + (1 : Int32))) (v7_42 : Int32) (ev7_42 : v7_42 = (((p3 &&& (2147483647 : Int32)) % (86400 : Int32)) + (1 : Int32))) (v10_82 : Int32) (ev10_82 : v10_82 = (if v6_31 < v4_9 then (0 : Int32) else (1 : Int32))) (v11_90 : Int64) (ev11_90 : v11_90 = ((v4_9 / v5_20).toInt64)) (v13_98 : Int64) (ev13_98 : v13_98 = ((v4_9 % v5_20).toInt64)) (v15_106 : Int64) (ev15_106 : v15_106 = ((v6_31 / v7_42).toInt64)) : v7_42 ≠ 0 := by
  have ap3 : (p3 &&& 2147483647).toInt = p3.toInt % 2147483648 := c_mask p3 2147483647 31 (by decide) (by decide)
  have bp3 := c_irem (p3 &&& 2147483647) 86400 86400 (by decide)
  have dp3 := c_iadd ((p3 &&& 2147483647) % 86400) 1
  have rp3 := rng32 (((p3 &&& 2147483647) % 86400) + 1)
  rw [← ev7_42] at dp3 rp3
  simp only [Int32.reduceToInt] at dp3
  have R7 : 1 ≤ v7_42.toInt ∧ v7_42.toInt ≤ 86400 := by omega
  clear ap3 bp3 dp3 rp3
  intro h
  rw [h] at R7
  exact absurd R7.1 (by decide)
theorem own_hc0_177 (p0 : Int32) (p1 : Int32) (p2 : Int32) (p3 : Int32) (v4_9 : Int32) (ev4_9 : v4_9 = (((p0 &&& (2147483647 : Int32)) % (1000000 : Int32)) + (1 : Int32))) (v5_20 : Int32) (ev5_20 : v5_20 = (((p1 &&& (2147483647 : Int32)) % (86400 : Int32)) + (1 : Int32))) (v6_31 : Int32) (ev6_31 : v6_31 = (((p2 &&& (2147483647 : Int32)) % (1000000 : Int32)) + (1 : Int32))) (v7_42 : Int32) (ev7_42 : v7_42 = (((p3 &&& (2147483647 : Int32)) % (86400 : Int32)) + (1 : Int32))) (v10_82 : Int32) (ev10_82 : v10_82 = (if v6_31 < v4_9 then (0 : Int32) else (1 : Int32))) (v11_90 : Int64) (ev11_90 : v11_90 = ((v4_9 / v5_20).toInt64)) (v13_98 : Int64) (ev13_98 : v13_98 = ((v4_9 % v5_20).toInt64)) (v15_106 : Int64) (ev15_106 : v15_106 = ((v6_31 / v7_42).toInt64)) (v17_114 : Int64) (ev17_114 : v17_114 = ((v6_31 % v7_42).toInt64)) (v19_153 : Int32) (ev19_153 : v19_153 = (if v11_90 < v15_106 then (1 : Int32) else (if v11_90 = v15_106 then (if (v17_114 * (v5_20.toInt64)) < (v13_98 * (v7_42.toInt64)) then (0 : Int32) else (1 : Int32)) else (0 : Int32)))) : (f5 v4_9 v5_20 v6_31 v7_42) = (if v10_82 = (0 : Int32) then (0 : Int32) else (if v19_153 = (0 : Int32) then (0 : Int32) else (1 : Int32))) := by
  have ap0 : (p0 &&& 2147483647).toInt = p0.toInt % 2147483648 := c_mask p0 2147483647 31 (by decide) (by decide)
  have bp0 := c_irem (p0 &&& 2147483647) 1000000 1000000 (by decide)
  have dp0 := c_iadd ((p0 &&& 2147483647) % 1000000) 1
  have rp0 := rng32 (((p0 &&& 2147483647) % 1000000) + 1)
  rw [← ev4_9] at dp0 rp0
  simp only [Int32.reduceToInt] at dp0
  have R4 : 1 ≤ v4_9.toInt ∧ v4_9.toInt ≤ 1000000 := by omega
  clear ap0 bp0 dp0 rp0
  have ap1 : (p1 &&& 2147483647).toInt = p1.toInt % 2147483648 := c_mask p1 2147483647 31 (by decide) (by decide)
  have bp1 := c_irem (p1 &&& 2147483647) 86400 86400 (by decide)
  have dp1 := c_iadd ((p1 &&& 2147483647) % 86400) 1
  have rp1 := rng32 (((p1 &&& 2147483647) % 86400) + 1)
  rw [← ev5_20] at dp1 rp1
  simp only [Int32.reduceToInt] at dp1
  have R5 : 1 ≤ v5_20.toInt ∧ v5_20.toInt ≤ 86400 := by omega
  clear ap1 bp1 dp1 rp1
  have ap2 : (p2 &&& 2147483647).toInt = p2.toInt % 2147483648 := c_mask p2 2147483647 31 (by decide) (by decide)
  have bp2 := c_irem (p2 &&& 2147483647) 1000000 1000000 (by decide)
  have dp2 := c_iadd ((p2 &&& 2147483647) % 1000000) 1
  have rp2 := rng32 (((p2 &&& 2147483647) % 1000000) + 1)
  rw [← ev6_31] at dp2 rp2
  simp only [Int32.reduceToInt] at dp2
  have R6 : 1 ≤ v6_31.toInt ∧ v6_31.toInt ≤ 1000000 := by omega
  clear ap2 bp2 dp2 rp2
  have ap3 : (p3 &&& 2147483647).toInt = p3.toInt % 2147483648 := c_mask p3 2147483647 31 (by decide) (by decide)
  have bp3 := c_irem (p3 &&& 2147483647) 86400 86400 (by decide)
  have dp3 := c_iadd ((p3 &&& 2147483647) % 86400) 1
  have rp3 := rng32 (((p3 &&& 2147483647) % 86400) + 1)
  rw [← ev7_42] at dp3 rp3
  simp only [Int32.reduceToInt] at dp3
  have R7 : 1 ≤ v7_42.toInt ∧ v7_42.toInt ≤ 86400 := by omega
  clear ap3 bp3 dp3 rp3
  have nb : v5_20 ≠ -1 := fun h => by rw [h] at R5; exact absurd R5.1 (by decide)
  have nd : v7_42 ≠ -1 := fun h => by rw [h] at R7; exact absurd R7.1 (by decide)
  have qa := (c_idiv v4_9 v5_20 _ rfl nb).1 (by omega)
  have ra := (c_irem v4_9 v5_20 _ rfl).1 (by omega)
  have qc := (c_idiv v6_31 v7_42 _ rfl nd).1 (by omega)
  have rc := (c_irem v6_31 v7_42 _ rfl).1 (by omega)
  have ra0 : 0 ≤ v4_9.toInt % v5_20.toInt := Int.emod_nonneg _ (by omega)
  have ra1 : v4_9.toInt % v5_20.toInt < v5_20.toInt := Int.emod_lt_of_pos _ (by omega)
  have rc0 : 0 ≤ v6_31.toInt % v7_42.toInt := Int.emod_nonneg _ (by omega)
  have rc1 : v6_31.toInt % v7_42.toInt < v7_42.toInt := Int.emod_lt_of_pos _ (by omega)
  have K := own_rate v4_9.toInt v5_20.toInt v6_31.toInt v7_42.toInt _ _ _ _ (Int.ediv_mul_add_emod v4_9.toInt v5_20.toInt).symm ra0 ra1 (Int.ediv_mul_add_emod v6_31.toInt v7_42.toInt).symm rc0 rc1
  have M1 := own_mul v6_31 v5_20 (by omega) (by omega) (by omega) (by omega)
  have M2 := own_mul v4_9 v7_42 (by omega) (by omega) (by omega) (by omega)
  have M3 := own_mul (v6_31 % v7_42) v5_20 (by omega) (by omega) (by omega) (by omega)
  have M4 := own_mul (v4_9 % v5_20) v7_42 (by omega) (by omega) (by omega) (by omega)
  rw [← M1, ← M2, ← rc, ← ra, ← M3, ← M4, ← qa, ← qc] at K
  rw [ev19_153, ev10_82, ev11_90, ev13_98, ev15_106, ev17_114]
  have g1 := c_i2l (v4_9 / v5_20)
  have g2 := c_i2l (v6_31 / v7_42)
  rw [← g1, ← g2] at K
  have K' : ((v6_31.toInt64 * v5_20.toInt64) < (v4_9.toInt64 * v7_42.toInt64)) ↔ ¬ ((v4_9 / v5_20).toInt64 < (v6_31 / v7_42).toInt64 ∨ ((v4_9 / v5_20).toInt64 = (v6_31 / v7_42).toInt64 ∧ ¬ ((v6_31 % v7_42).toInt64 * v5_20.toInt64) < ((v4_9 % v5_20).toInt64 * v7_42.toInt64))) := by
    simp only [Int64.lt_iff_toInt_lt, ← Int64.toInt_inj]
    exact K
  clear K M1 M2 M3 M4 qa ra qc rc g1 g2 ra0 ra1 rc0 rc1
  unfold f5
  by_cases e1 : v6_31 < v4_9
  · rw [if_pos e1, if_pos e1]; rfl
  rw [if_neg e1, if_neg e1, if_neg (show ¬ ((1 : Int32) = 0) by decide)]
  by_cases e2 : (v4_9 / v5_20).toInt64 < (v6_31 / v7_42).toInt64
  · rw [if_neg (fun h => K'.mp h (Or.inl e2)), if_pos e2]; rfl
  rw [if_neg e2]
  by_cases e3 : (v4_9 / v5_20).toInt64 = (v6_31 / v7_42).toInt64
  · rw [if_pos e3]
    by_cases e4 : ((v6_31 % v7_42).toInt64 * v5_20.toInt64) < ((v4_9 % v5_20).toInt64 * v7_42.toInt64)
    · rw [if_pos (K'.mpr (fun h => h.elim e2 (fun h => h.2 e4))), if_pos e4]; rfl
    · rw [if_neg (fun h => K'.mp h (Or.inr ⟨e3, e4⟩)), if_neg e4]; rfl
  · rw [if_neg e3, if_pos (K'.mpr (fun h => h.elim e2 (fun h => e3 h.1)))]; rfl
def Q0 (Z : State) (p0 : Int32) (p1 : Int32) (p2 : Int32) (p3 : Int32) (h0 : Heap) (n0 : Nat) (v : Option Value) (h : Heap) (L : List Loc) : Prop := v = some (.int 1) ∧ Fr n0 L
set_option maxRecDepth 65536 in
set_option maxHeartbeats 40000000 in
theorem rm0 (l : Launch) (Z : State) (a0 : Array Value) (hw : ∀ d ∈ tables_1, d.before a0 Z = true) (ws : List Jvm.Cond) (p0 : Int32) (p1 : Int32) (p2 : Int32) (p3 : Int32) (h0 : Heap) (n0 : Nat) (Z0 : n0 ≤ h0.size) :
    MetFree l x (head1 (Jvm.Cond.code x code maxLocals ret :: ws) room_1) (fun a U => a = #[(.int p0), (.int p1), (.int p2), (.int p3)] ∧ Z.Warmed39 U.vm ∧ U.heap = h0) (fun _ _ _ _ _ => True) (fun _ U o U' => ∃ v L, o = .returned v ∧ Q0 Z p0 p1 p2 p3 h0 n0 v U'.heap L ∧ FrameEnd U o U' L room_1.cells room_1.slots) := by
  refine MetFree.of_bodySF (plainFor_of_name pn2) hisR ?_
  intro p e s m args below meth c s₁ Bd hml0 hP hK
  obtain ⟨rfl, hZ, hh⟩ := hP
  have hx := Bd.exec
  have hby := Bd.bytes
  have hml : c.maxLocals = 20 := hml0
  have hown : s.vm.findClass "com/example/keywarden/keywarden/core/RateLimitIsWithinPinLaw" = some m.cls := findClass_of_methodNamed Bd.named
  have hnm := (name_of_methodNamed Bd.named Bd.method).1
  have X0 : Stand p l e room_1 s m #[(.int p0), (.int p1), (.int p2), (.int p3)] below meth c s₁ [] 0 0 := Stand.of_body Bd
  have e0 : s₁.heap = h0 := by rw [← hh, Bd.state]; rfl
  have N0 := Fr.nil n0
  refine Goes.out (Q := fun o U' => ∃ v L, o = .returned v ∧ Q0 Z p0 p1 p2 p3 h0 n0 v U'.heap L ∧ FrameEnd s o U' L room_1.cells room_1.slots) ?_
  refine Goes.step (S' := s₁.setTop (mkF m 0 #[.val (.int p0), .val (.int p1), .val (.int p2), .val (.int p3), .unset, .unset, .unset, .unset, .unset, .unset, .unset, .unset, .unset, .unset, .unset, .unset, .unset, .unset, .unset, .unset] [])) (fun _ k => castTop (ef0 m p0 p1 p2 p3) k) ?_
  refine Goes.step (S' := s₁.setTop (mkF m 1 #[.val (.int p0), .val (.int p1), .val (.int p2), .val (.int p3), .unset, .unset, .unset, .unset, .unset, .unset, .unset, .unset, .unset, .unset, .unset, .unset, .unset, .unset, .unset, .unset] [(.int p0)])) (fun _ k => XS.iloadN X0.here hx rfl (hb hby at_0) rfl  k) ?_
  refine Goes.step (S' := s₁.setTop (mkF m 3 #[.val (.int p0), .val (.int p1), .val (.int p2), .val (.int p3), .unset, .unset, .unset, .unset, .unset, .unset, .unset, .unset, .unset, .unset, .unset, .unset, .unset, .unset, .unset, .unset] [(.int (2147483647 : Int32)), (.int p0)])) (fun _ k => X0.ldcInt hx hown (mvT hZ (hw _ (List.mem_of_getElem? (i := 0) rfl))) (g := (mkF m 1 #[.val (.int p0), .val (.int p1), .val (.int p2), .val (.int p3), .unset, .unset, .unset, .unset, .unset, .unset, .unset, .unset, .unset, .unset, .unset, .unset, .unset, .unset, .unset, .unset] [(.int p0)])) rfl (hb hby at_1) _ k) ?_
  refine Goes.step (S' := s₁.setTop (mkF m 4 #[.val (.int p0), .val (.int p1), .val (.int p2), .val (.int p3), .unset, .unset, .unset, .unset, .unset, .unset, .unset, .unset, .unset, .unset, .unset, .unset, .unset, .unset, .unset, .unset] [(.int (p0 &&& (2147483647 : Int32)))])) (fun _ k => XS.iand X0.here hx rfl (hb hby at_3) rfl k) ?_
  refine Goes.step (S' := s₁.setTop (mkF m 6 #[.val (.int p0), .val (.int p1), .val (.int p2), .val (.int p3), .unset, .unset, .unset, .unset, .unset, .unset, .unset, .unset, .unset, .unset, .unset, .unset, .unset, .unset, .unset, .unset] [(.int (1000000 : Int32)), (.int (p0 &&& (2147483647 : Int32)))])) (fun _ k => X0.ldcInt hx hown (mvT hZ (hw _ (List.mem_of_getElem? (i := 1) rfl))) (g := (mkF m 4 #[.val (.int p0), .val (.int p1), .val (.int p2), .val (.int p3), .unset, .unset, .unset, .unset, .unset, .unset, .unset, .unset, .unset, .unset, .unset, .unset, .unset, .unset, .unset, .unset] [(.int (p0 &&& (2147483647 : Int32)))])) rfl (hb hby at_4) _ k) ?_
  refine Goes.step (S' := s₁.setTop (mkF m 7 #[.val (.int p0), .val (.int p1), .val (.int p2), .val (.int p3), .unset, .unset, .unset, .unset, .unset, .unset, .unset, .unset, .unset, .unset, .unset, .unset, .unset, .unset, .unset, .unset] [(.int ((p0 &&& (2147483647 : Int32)) % (1000000 : Int32)))])) (fun _ k => iremM X0 hx rfl (hb hby at_6) rfl (by decide) k) ?_
  refine Goes.step (S' := s₁.setTop (mkF m 8 #[.val (.int p0), .val (.int p1), .val (.int p2), .val (.int p3), .unset, .unset, .unset, .unset, .unset, .unset, .unset, .unset, .unset, .unset, .unset, .unset, .unset, .unset, .unset, .unset] [(.int (1 : Int32)), (.int ((p0 &&& (2147483647 : Int32)) % (1000000 : Int32)))])) (fun _ k => XS.iconst X0.here hx rfl (hb hby at_7) k) ?_
  refine Goes.step (S' := s₁.setTop (mkF m 9 #[.val (.int p0), .val (.int p1), .val (.int p2), .val (.int p3), .unset, .unset, .unset, .unset, .unset, .unset, .unset, .unset, .unset, .unset, .unset, .unset, .unset, .unset, .unset, .unset] [(.int (((p0 &&& (2147483647 : Int32)) % (1000000 : Int32)) + (1 : Int32)))])) (fun _ k => XS.iadd X0.here hx rfl (hb hby at_8) rfl k) ?_
  refine Goes.step (S' := s₁.setTop (mkF m 11 #[.val (.int p0), .val (.int p1), .val (.int p2), .val (.int p3), .val (.int (((p0 &&& (2147483647 : Int32)) % (1000000 : Int32)) + (1 : Int32))), .unset, .unset, .unset, .unset, .unset, .unset, .unset, .unset, .unset, .unset, .unset, .unset, .unset, .unset, .unset] [])) (fun _ k => XS.istore X0.here hx rfl (hb hby at_9) rfl (l' := #[.val (.int p0), .val (.int p1), .val (.int p2), .val (.int p3), .val (.int (((p0 &&& (2147483647 : Int32)) % (1000000 : Int32)) + (1 : Int32))), .unset, .unset, .unset, .unset, .unset, .unset, .unset, .unset, .unset, .unset, .unset, .unset, .unset, .unset, .unset]) rfl k) ?_
  obtain ⟨v4_9, ev4_9⟩ : ∃ z : Int32, z = (((p0 &&& (2147483647 : Int32)) % (1000000 : Int32)) + (1 : Int32)) := ⟨_, rfl⟩
  rw [← ev4_9]
  refine Goes.step (S' := s₁.setTop (mkF m 12 #[.val (.int p0), .val (.int p1), .val (.int p2), .val (.int p3), .val (.int v4_9), .unset, .unset, .unset, .unset, .unset, .unset, .unset, .unset, .unset, .unset, .unset, .unset, .unset, .unset, .unset] [(.int p1)])) (fun _ k => XS.iloadN X0.here hx rfl (hb hby at_11) rfl  k) ?_
  refine Goes.step (S' := s₁.setTop (mkF m 14 #[.val (.int p0), .val (.int p1), .val (.int p2), .val (.int p3), .val (.int v4_9), .unset, .unset, .unset, .unset, .unset, .unset, .unset, .unset, .unset, .unset, .unset, .unset, .unset, .unset, .unset] [(.int (2147483647 : Int32)), (.int p1)])) (fun _ k => X0.ldcInt hx hown (mvT hZ (hw _ (List.mem_of_getElem? (i := 0) rfl))) (g := (mkF m 12 #[.val (.int p0), .val (.int p1), .val (.int p2), .val (.int p3), .val (.int v4_9), .unset, .unset, .unset, .unset, .unset, .unset, .unset, .unset, .unset, .unset, .unset, .unset, .unset, .unset, .unset] [(.int p1)])) rfl (hb hby at_12) _ k) ?_
  refine Goes.step (S' := s₁.setTop (mkF m 15 #[.val (.int p0), .val (.int p1), .val (.int p2), .val (.int p3), .val (.int v4_9), .unset, .unset, .unset, .unset, .unset, .unset, .unset, .unset, .unset, .unset, .unset, .unset, .unset, .unset, .unset] [(.int (p1 &&& (2147483647 : Int32)))])) (fun _ k => XS.iand X0.here hx rfl (hb hby at_14) rfl k) ?_
  refine Goes.step (S' := s₁.setTop (mkF m 17 #[.val (.int p0), .val (.int p1), .val (.int p2), .val (.int p3), .val (.int v4_9), .unset, .unset, .unset, .unset, .unset, .unset, .unset, .unset, .unset, .unset, .unset, .unset, .unset, .unset, .unset] [(.int (86400 : Int32)), (.int (p1 &&& (2147483647 : Int32)))])) (fun _ k => X0.ldcInt hx hown (mvT hZ (hw _ (List.mem_of_getElem? (i := 2) rfl))) (g := (mkF m 15 #[.val (.int p0), .val (.int p1), .val (.int p2), .val (.int p3), .val (.int v4_9), .unset, .unset, .unset, .unset, .unset, .unset, .unset, .unset, .unset, .unset, .unset, .unset, .unset, .unset, .unset] [(.int (p1 &&& (2147483647 : Int32)))])) rfl (hb hby at_15) _ k) ?_
  refine Goes.step (S' := s₁.setTop (mkF m 18 #[.val (.int p0), .val (.int p1), .val (.int p2), .val (.int p3), .val (.int v4_9), .unset, .unset, .unset, .unset, .unset, .unset, .unset, .unset, .unset, .unset, .unset, .unset, .unset, .unset, .unset] [(.int ((p1 &&& (2147483647 : Int32)) % (86400 : Int32)))])) (fun _ k => iremM X0 hx rfl (hb hby at_17) rfl (by decide) k) ?_
  refine Goes.step (S' := s₁.setTop (mkF m 19 #[.val (.int p0), .val (.int p1), .val (.int p2), .val (.int p3), .val (.int v4_9), .unset, .unset, .unset, .unset, .unset, .unset, .unset, .unset, .unset, .unset, .unset, .unset, .unset, .unset, .unset] [(.int (1 : Int32)), (.int ((p1 &&& (2147483647 : Int32)) % (86400 : Int32)))])) (fun _ k => XS.iconst X0.here hx rfl (hb hby at_18) k) ?_
  refine Goes.step (S' := s₁.setTop (mkF m 20 #[.val (.int p0), .val (.int p1), .val (.int p2), .val (.int p3), .val (.int v4_9), .unset, .unset, .unset, .unset, .unset, .unset, .unset, .unset, .unset, .unset, .unset, .unset, .unset, .unset, .unset] [(.int (((p1 &&& (2147483647 : Int32)) % (86400 : Int32)) + (1 : Int32)))])) (fun _ k => XS.iadd X0.here hx rfl (hb hby at_19) rfl k) ?_
  refine Goes.step (S' := s₁.setTop (mkF m 22 #[.val (.int p0), .val (.int p1), .val (.int p2), .val (.int p3), .val (.int v4_9), .val (.int (((p1 &&& (2147483647 : Int32)) % (86400 : Int32)) + (1 : Int32))), .unset, .unset, .unset, .unset, .unset, .unset, .unset, .unset, .unset, .unset, .unset, .unset, .unset, .unset] [])) (fun _ k => XS.istore X0.here hx rfl (hb hby at_20) rfl (l' := #[.val (.int p0), .val (.int p1), .val (.int p2), .val (.int p3), .val (.int v4_9), .val (.int (((p1 &&& (2147483647 : Int32)) % (86400 : Int32)) + (1 : Int32))), .unset, .unset, .unset, .unset, .unset, .unset, .unset, .unset, .unset, .unset, .unset, .unset, .unset, .unset]) rfl k) ?_
  obtain ⟨v5_20, ev5_20⟩ : ∃ z : Int32, z = (((p1 &&& (2147483647 : Int32)) % (86400 : Int32)) + (1 : Int32)) := ⟨_, rfl⟩
  rw [← ev5_20]
  refine Goes.step (S' := s₁.setTop (mkF m 23 #[.val (.int p0), .val (.int p1), .val (.int p2), .val (.int p3), .val (.int v4_9), .val (.int v5_20), .unset, .unset, .unset, .unset, .unset, .unset, .unset, .unset, .unset, .unset, .unset, .unset, .unset, .unset] [(.int p2)])) (fun _ k => XS.iloadN X0.here hx rfl (hb hby at_22) rfl  k) ?_
  refine Goes.step (S' := s₁.setTop (mkF m 25 #[.val (.int p0), .val (.int p1), .val (.int p2), .val (.int p3), .val (.int v4_9), .val (.int v5_20), .unset, .unset, .unset, .unset, .unset, .unset, .unset, .unset, .unset, .unset, .unset, .unset, .unset, .unset] [(.int (2147483647 : Int32)), (.int p2)])) (fun _ k => X0.ldcInt hx hown (mvT hZ (hw _ (List.mem_of_getElem? (i := 0) rfl))) (g := (mkF m 23 #[.val (.int p0), .val (.int p1), .val (.int p2), .val (.int p3), .val (.int v4_9), .val (.int v5_20), .unset, .unset, .unset, .unset, .unset, .unset, .unset, .unset, .unset, .unset, .unset, .unset, .unset, .unset] [(.int p2)])) rfl (hb hby at_23) _ k) ?_
  refine Goes.step (S' := s₁.setTop (mkF m 26 #[.val (.int p0), .val (.int p1), .val (.int p2), .val (.int p3), .val (.int v4_9), .val (.int v5_20), .unset, .unset, .unset, .unset, .unset, .unset, .unset, .unset, .unset, .unset, .unset, .unset, .unset, .unset] [(.int (p2 &&& (2147483647 : Int32)))])) (fun _ k => XS.iand X0.here hx rfl (hb hby at_25) rfl k) ?_
  refine Goes.step (S' := s₁.setTop (mkF m 28 #[.val (.int p0), .val (.int p1), .val (.int p2), .val (.int p3), .val (.int v4_9), .val (.int v5_20), .unset, .unset, .unset, .unset, .unset, .unset, .unset, .unset, .unset, .unset, .unset, .unset, .unset, .unset] [(.int (1000000 : Int32)), (.int (p2 &&& (2147483647 : Int32)))])) (fun _ k => X0.ldcInt hx hown (mvT hZ (hw _ (List.mem_of_getElem? (i := 1) rfl))) (g := (mkF m 26 #[.val (.int p0), .val (.int p1), .val (.int p2), .val (.int p3), .val (.int v4_9), .val (.int v5_20), .unset, .unset, .unset, .unset, .unset, .unset, .unset, .unset, .unset, .unset, .unset, .unset, .unset, .unset] [(.int (p2 &&& (2147483647 : Int32)))])) rfl (hb hby at_26) _ k) ?_
  refine Goes.step (S' := s₁.setTop (mkF m 29 #[.val (.int p0), .val (.int p1), .val (.int p2), .val (.int p3), .val (.int v4_9), .val (.int v5_20), .unset, .unset, .unset, .unset, .unset, .unset, .unset, .unset, .unset, .unset, .unset, .unset, .unset, .unset] [(.int ((p2 &&& (2147483647 : Int32)) % (1000000 : Int32)))])) (fun _ k => iremM X0 hx rfl (hb hby at_28) rfl (by decide) k) ?_
  refine Goes.step (S' := s₁.setTop (mkF m 30 #[.val (.int p0), .val (.int p1), .val (.int p2), .val (.int p3), .val (.int v4_9), .val (.int v5_20), .unset, .unset, .unset, .unset, .unset, .unset, .unset, .unset, .unset, .unset, .unset, .unset, .unset, .unset] [(.int (1 : Int32)), (.int ((p2 &&& (2147483647 : Int32)) % (1000000 : Int32)))])) (fun _ k => XS.iconst X0.here hx rfl (hb hby at_29) k) ?_
  refine Goes.step (S' := s₁.setTop (mkF m 31 #[.val (.int p0), .val (.int p1), .val (.int p2), .val (.int p3), .val (.int v4_9), .val (.int v5_20), .unset, .unset, .unset, .unset, .unset, .unset, .unset, .unset, .unset, .unset, .unset, .unset, .unset, .unset] [(.int (((p2 &&& (2147483647 : Int32)) % (1000000 : Int32)) + (1 : Int32)))])) (fun _ k => XS.iadd X0.here hx rfl (hb hby at_30) rfl k) ?_
  refine Goes.step (S' := s₁.setTop (mkF m 33 #[.val (.int p0), .val (.int p1), .val (.int p2), .val (.int p3), .val (.int v4_9), .val (.int v5_20), .val (.int (((p2 &&& (2147483647 : Int32)) % (1000000 : Int32)) + (1 : Int32))), .unset, .unset, .unset, .unset, .unset, .unset, .unset, .unset, .unset, .unset, .unset, .unset, .unset] [])) (fun _ k => XS.istore X0.here hx rfl (hb hby at_31) rfl (l' := #[.val (.int p0), .val (.int p1), .val (.int p2), .val (.int p3), .val (.int v4_9), .val (.int v5_20), .val (.int (((p2 &&& (2147483647 : Int32)) % (1000000 : Int32)) + (1 : Int32))), .unset, .unset, .unset, .unset, .unset, .unset, .unset, .unset, .unset, .unset, .unset, .unset, .unset]) rfl k) ?_
  obtain ⟨v6_31, ev6_31⟩ : ∃ z : Int32, z = (((p2 &&& (2147483647 : Int32)) % (1000000 : Int32)) + (1 : Int32)) := ⟨_, rfl⟩
  rw [← ev6_31]
  refine Goes.step (S' := s₁.setTop (mkF m 34 #[.val (.int p0), .val (.int p1), .val (.int p2), .val (.int p3), .val (.int v4_9), .val (.int v5_20), .val (.int v6_31), .unset, .unset, .unset, .unset, .unset, .unset, .unset, .unset, .unset, .unset, .unset, .unset, .unset] [(.int p3)])) (fun _ k => XS.iloadN X0.here hx rfl (hb hby at_33) rfl  k) ?_
  refine Goes.step (S' := s₁.setTop (mkF m 36 #[.val (.int p0), .val (.int p1), .val (.int p2), .val (.int p3), .val (.int v4_9), .val (.int v5_20), .val (.int v6_31), .unset, .unset, .unset, .unset, .unset, .unset, .unset, .unset, .unset, .unset, .unset, .unset, .unset] [(.int (2147483647 : Int32)), (.int p3)])) (fun _ k => X0.ldcInt hx hown (mvT hZ (hw _ (List.mem_of_getElem? (i := 0) rfl))) (g := (mkF m 34 #[.val (.int p0), .val (.int p1), .val (.int p2), .val (.int p3), .val (.int v4_9), .val (.int v5_20), .val (.int v6_31), .unset, .unset, .unset, .unset, .unset, .unset, .unset, .unset, .unset, .unset, .unset, .unset, .unset] [(.int p3)])) rfl (hb hby at_34) _ k) ?_
  refine Goes.step (S' := s₁.setTop (mkF m 37 #[.val (.int p0), .val (.int p1), .val (.int p2), .val (.int p3), .val (.int v4_9), .val (.int v5_20), .val (.int v6_31), .unset, .unset, .unset, .unset, .unset, .unset, .unset, .unset, .unset, .unset, .unset, .unset, .unset] [(.int (p3 &&& (2147483647 : Int32)))])) (fun _ k => XS.iand X0.here hx rfl (hb hby at_36) rfl k) ?_
  refine Goes.step (S' := s₁.setTop (mkF m 39 #[.val (.int p0), .val (.int p1), .val (.int p2), .val (.int p3), .val (.int v4_9), .val (.int v5_20), .val (.int v6_31), .unset, .unset, .unset, .unset, .unset, .unset, .unset, .unset, .unset, .unset, .unset, .unset, .unset] [(.int (86400 : Int32)), (.int (p3 &&& (2147483647 : Int32)))])) (fun _ k => X0.ldcInt hx hown (mvT hZ (hw _ (List.mem_of_getElem? (i := 2) rfl))) (g := (mkF m 37 #[.val (.int p0), .val (.int p1), .val (.int p2), .val (.int p3), .val (.int v4_9), .val (.int v5_20), .val (.int v6_31), .unset, .unset, .unset, .unset, .unset, .unset, .unset, .unset, .unset, .unset, .unset, .unset, .unset] [(.int (p3 &&& (2147483647 : Int32)))])) rfl (hb hby at_37) _ k) ?_
  refine Goes.step (S' := s₁.setTop (mkF m 40 #[.val (.int p0), .val (.int p1), .val (.int p2), .val (.int p3), .val (.int v4_9), .val (.int v5_20), .val (.int v6_31), .unset, .unset, .unset, .unset, .unset, .unset, .unset, .unset, .unset, .unset, .unset, .unset, .unset] [(.int ((p3 &&& (2147483647 : Int32)) % (86400 : Int32)))])) (fun _ k => iremM X0 hx rfl (hb hby at_39) rfl (by decide) k) ?_
  refine Goes.step (S' := s₁.setTop (mkF m 41 #[.val (.int p0), .val (.int p1), .val (.int p2), .val (.int p3), .val (.int v4_9), .val (.int v5_20), .val (.int v6_31), .unset, .unset, .unset, .unset, .unset, .unset, .unset, .unset, .unset, .unset, .unset, .unset, .unset] [(.int (1 : Int32)), (.int ((p3 &&& (2147483647 : Int32)) % (86400 : Int32)))])) (fun _ k => XS.iconst X0.here hx rfl (hb hby at_40) k) ?_
  refine Goes.step (S' := s₁.setTop (mkF m 42 #[.val (.int p0), .val (.int p1), .val (.int p2), .val (.int p3), .val (.int v4_9), .val (.int v5_20), .val (.int v6_31), .unset, .unset, .unset, .unset, .unset, .unset, .unset, .unset, .unset, .unset, .unset, .unset, .unset] [(.int (((p3 &&& (2147483647 : Int32)) % (86400 : Int32)) + (1 : Int32)))])) (fun _ k => XS.iadd X0.here hx rfl (hb hby at_41) rfl k) ?_
  refine Goes.step (S' := s₁.setTop (mkF m 44 #[.val (.int p0), .val (.int p1), .val (.int p2), .val (.int p3), .val (.int v4_9), .val (.int v5_20), .val (.int v6_31), .val (.int (((p3 &&& (2147483647 : Int32)) % (86400 : Int32)) + (1 : Int32))), .unset, .unset, .unset, .unset, .unset, .unset, .unset, .unset, .unset, .unset, .unset, .unset] [])) (fun _ k => XS.istore X0.here hx rfl (hb hby at_42) rfl (l' := #[.val (.int p0), .val (.int p1), .val (.int p2), .val (.int p3), .val (.int v4_9), .val (.int v5_20), .val (.int v6_31), .val (.int (((p3 &&& (2147483647 : Int32)) % (86400 : Int32)) + (1 : Int32))), .unset, .unset, .unset, .unset, .unset, .unset, .unset, .unset, .unset, .unset, .unset, .unset]) rfl k) ?_
  obtain ⟨v7_42, ev7_42⟩ : ∃ z : Int32, z = (((p3 &&& (2147483647 : Int32)) % (86400 : Int32)) + (1 : Int32)) := ⟨_, rfl⟩
  rw [← ev7_42]
  obtain ⟨T1, h1, X1, e1, E1, A1, D1, -, st1⟩ := newO X0 hx hZ hown (hw _ (List.mem_of_getElem? (i := 3) rfl)) (hw _ (List.mem_of_getElem? (i := 4) rfl)) (hw _ (List.mem_of_getElem? (i := 5) rfl)) e0 (g := (mkF m 44 #[.val (.int p0), .val (.int p1), .val (.int p2), .val (.int p3), .val (.int v4_9), .val (.int v5_20), .val (.int v6_31), .val (.int v7_42), .unset, .unset, .unset, .unset, .unset, .unset, .unset, .unset, .unset, .unset, .unset, .unset] [])) rfl (hb hby at_44) (by decide) (by decide)
  obtain ⟨b1, g1⟩ : ∃ z, z = h0.size := ⟨_, rfl⟩
  rw [← g1] at A1 D1 st1
  have g2 : n0 ≤ b1 := Nat.le_trans Z0 (Nat.le_of_eq g1.symm)
  have Z3 : n0 ≤ h1.size := Nat.le_trans Z0 E1.1
  have F4 : Fld Z h1 b1 "com/example/keywarden/keywarden/core/RateLimit" "limit" "I" (.int (0 : Int32)) := D1 (Or.inr (hw _ (List.mem_of_getElem? (i := 23) rfl))) (ty := .int) (by decide)
  have F5 : Fld Z h1 b1 "com/example/keywarden/keywarden/core/RateLimit" "windowSeconds" "I" (.int (0 : Int32)) := D1 (Or.inr (hw _ (List.mem_of_getElem? (i := 25) rfl))) (ty := .int) (by decide)
  refine Goes.step (S' := T1.setTop (mkF m 47 #[.val (.int p0), .val (.int p1), .val (.int p2), .val (.int p3), .val (.int v4_9), .val (.int v5_20), .val (.int v6_31), .val (.int v7_42), .unset, .unset, .unset, .unset, .unset, .unset, .unset, .unset, .unset, .unset, .unset, .unset] [(.ref b1)])) st1 ?_
  refine Goes.step (S' := T1.setTop (mkF m 48 #[.val (.int p0), .val (.int p1), .val (.int p2), .val (.int p3), .val (.int v4_9), .val (.int v5_20), .val (.int v6_31), .val (.int v7_42), .unset, .unset, .unset, .unset, .unset, .unset, .unset, .unset, .unset, .unset, .unset, .unset] [(.ref b1), (.ref b1)])) (fun _ k => XS.dup X1.here hx rfl (hb hby at_47) rfl rfl k) ?_
  refine Goes.step (S' := T1.setTop (mkF m 50 #[.val (.int p0), .val (.int p1), .val (.int p2), .val (.int p3), .val (.int v4_9), .val (.int v5_20), .val (.int v6_31), .val (.int v7_42), .unset, .unset, .unset, .unset, .unset, .unset, .unset, .unset, .unset, .unset, .unset, .unset] [(.int v4_9), (.ref b1), (.ref b1)])) (fun _ k => XS.iload X1.here hx rfl (hb hby at_48) rfl  k) ?_
  refine Goes.step (S' := T1.setTop (mkF m 52 #[.val (.int p0), .val (.int p1), .val (.int p2), .val (.int p3), .val (.int v4_9), .val (.int v5_20), .val (.int v6_31), .val (.int v7_42), .unset, .unset, .unset, .unset, .unset, .unset, .unset, .unset, .unset, .unset, .unset, .unset] [(.int v5_20), (.int v4_9), (.ref b1), (.ref b1)])) (fun _ k => XS.iload X1.here hx rfl (hb hby at_50) rfl  k) ?_
  obtain ⟨_, _, ⟨T6, L6, k6, n6⟩, -, X6, ⟨Lc6, hQ6, l6, y6, z6⟩, st6⟩ := X1.specialBack hx (y := (⟨"com/example/keywarden/keywarden/core/RateLimit", "<init>", "(II)V"⟩ : MethodName)) rfl hown (mvT hZ (hw _ (List.mem_of_getElem? (i := 6) rfl))) (mvT hZ (hw _ (List.mem_of_getElem? (i := 7) rfl))) (mvT hZ (hw _ (List.mem_of_getElem? (i := 8) rfl))) (by decide) (backOf (W := 1) (rm1 l Z a0 hw [] b1 v4_9 v5_20 h1 n0 Z3 A1 F4 F5 g2 (own_pr0_52_hv p0 p1 p2 p3 v4_9 ev4_9 v5_20 ev5_20 v6_31 ev6_31 v7_42 ev7_42)) hZ (hw _ (List.mem_of_getElem? (i := 8) rfl)) (hw _ (List.mem_of_getElem? (i := 5) rfl)) (by decide) (by decide)) (g := (mkF m 52 #[.val (.int p0), .val (.int p1), .val (.int p2), .val (.int p3), .val (.int v4_9), .val (.int v5_20), .val (.int v6_31), .val (.int v7_42), .unset, .unset, .unset, .unset, .unset, .unset, .unset, .unset, .unset, .unset, .unset, .unset] [(.int v5_20), (.int v4_9), (.ref b1), (.ref b1)])) rfl (by rw [hml]; rfl) (Steps.refl _) (a := b1) (argsL := [(.int v4_9), (.int v5_20)]) (rest := [(.ref b1)]) (lenOf pd2 rfl) rfl (by show 2 * 0 + _ ≤ _; exact Nat.le_of_eq rfl) (hb hby at_52) (fun _ _ => ⟨rfl, e1, (by decide : 1 + 0 ≤ _), (by decide : 2 + 0 ≤ _)⟩)
  dsimp only [Pt.U, Pt.locs, Pt.cells, Pt.slots] at X6 l6 y6 z6 st6 hQ6
  subst l6 y6 z6
  obtain ⟨rfl, N6q, K6q, E_7, F8, F9⟩ := hQ6
  have N10 := Fr.app N0 N6q
  have E_11 := A1.keep K6q
  have Z12 : n0 ≤ T6.heap.size := Nat.le_trans Z3 K6q.1
  refine Goes.step (S' := T6.setTop (mkF m 55 #[.val (.int p0), .val (.int p1), .val (.int p2), .val (.int p3), .val (.int v4_9), .val (.int v5_20), .val (.int v6_31), .val (.int v7_42), .unset, .unset, .unset, .unset, .unset, .unset, .unset, .unset, .unset, .unset, .unset, .unset] [(.ref b1)])) (fun _ k => st6.trans k) ?_
  refine Goes.step (S' := T6.setTop (mkF m 57 #[.val (.int p0), .val (.int p1), .val (.int p2), .val (.int p3), .val (.int v4_9), .val (.int v5_20), .val (.int v6_31), .val (.int v7_42), .val (.ref b1), .unset, .unset, .unset, .unset, .unset, .unset, .unset, .unset, .unset, .unset, .unset] [])) (fun _ k => XS.astore X6.here hx rfl (hb hby at_55) rfl rfl (l' := #[.val (.int p0), .val (.int p1), .val (.int p2), .val (.int p3), .val (.int v4_9), .val (.int v5_20), .val (.int v6_31), .val (.int v7_42), .val (.ref b1), .unset, .unset, .unset, .unset, .unset, .unset, .unset, .unset, .unset, .unset, .unset]) rfl k) ?_
  obtain ⟨T13, h13, X13, e13, E13, A13, D13, -, st13⟩ := newO X6 hx hZ hown (hw _ (List.mem_of_getElem? (i := 3) rfl)) (hw _ (List.mem_of_getElem? (i := 4) rfl)) (hw _ (List.mem_of_getElem? (i := 5) rfl)) rfl (g := (mkF m 57 #[.val (.int p0), .val (.int p1), .val (.int p2), .val (.int p3), .val (.int v4_9), .val (.int v5_20), .val (.int v6_31), .val (.int v7_42), .val (.ref b1), .unset, .unset, .unset, .unset, .unset, .unset, .unset, .unset, .unset, .unset, .unset] [])) rfl (hb hby at_57) (by decide) (by decide)
  obtain ⟨b13, g13⟩ : ∃ z, z = T6.heap.size := ⟨_, rfl⟩
  rw [← g13] at A13 D13 st13
  have ne14 : b1 ≠ b13 := Nat.ne_of_lt (Nat.lt_of_lt_of_le E_7.lt (Nat.le_of_eq g13.symm))
  have g15 : n0 ≤ b13 := Nat.le_trans Z12 (Nat.le_of_eq g13.symm)
  have Z16 : n0 ≤ h13.size := Nat.le_trans Z12 E13.1
  have E_17 := E_7.ext E13
  have F18 := F8.ext E13
  have F19 := F9.ext E13
  have F20 : Fld Z h13 b13 "com/example/keywarden/keywarden/core/RateLimit" "limit" "I" (.int (0 : Int32)) := D13 (Or.inr (hw _ (List.mem_of_getElem? (i := 23) rfl))) (ty := .int) (by decide)
  have F21 : Fld Z h13 b13 "com/example/keywarden/keywarden/core/RateLimit" "windowSeconds" "I" (.int (0 : Int32)) := D13 (Or.inr (hw _ (List.mem_of_getElem? (i := 25) rfl))) (ty := .int) (by decide)
  refine Goes.step (S' := T13.setTop (mkF m 60 #[.val (.int p0), .val (.int p1), .val (.int p2), .val (.int p3), .val (.int v4_9), .val (.int v5_20), .val (.int v6_31), .val (.int v7_42), .val (.ref b1), .unset, .unset, .unset, .unset, .unset, .unset, .unset, .unset, .unset, .unset, .unset] [(.ref b13)])) st13 ?_
  refine Goes.step (S' := T13.setTop (mkF m 61 #[.val (.int p0), .val (.int p1), .val (.int p2), .val (.int p3), .val (.int v4_9), .val (.int v5_20), .val (.int v6_31), .val (.int v7_42), .val (.ref b1), .unset, .unset, .unset, .unset, .unset, .unset, .unset, .unset, .unset, .unset, .unset] [(.ref b13), (.ref b13)])) (fun _ k => XS.dup X13.here hx rfl (hb hby at_60) rfl rfl k) ?_
  refine Goes.step (S' := T13.setTop (mkF m 63 #[.val (.int p0), .val (.int p1), .val (.int p2), .val (.int p3), .val (.int v4_9), .val (.int v5_20), .val (.int v6_31), .val (.int v7_42), .val (.ref b1), .unset, .unset, .unset, .unset, .unset, .unset, .unset, .unset, .unset, .unset, .unset] [(.int v6_31), (.ref b13), (.ref b13)])) (fun _ k => XS.iload X13.here hx rfl (hb hby at_61) rfl  k) ?_
  refine Goes.step (S' := T13.setTop (mkF m 65 #[.val (.int p0), .val (.int p1), .val (.int p2), .val (.int p3), .val (.int v4_9), .val (.int v5_20), .val (.int v6_31), .val (.int v7_42), .val (.ref b1), .unset, .unset, .unset, .unset, .unset, .unset, .unset, .unset, .unset, .unset, .unset] [(.int v7_42), (.int v6_31), (.ref b13), (.ref b13)])) (fun _ k => XS.iload X13.here hx rfl (hb hby at_63) rfl  k) ?_
  obtain ⟨_, _, ⟨T22, L22, k22, n22⟩, -, X22, ⟨Lc22, hQ22, l22, y22, z22⟩, st22⟩ := X13.specialBack hx (y := (⟨"com/example/keywarden/keywarden/core/RateLimit", "<init>", "(II)V"⟩ : MethodName)) rfl hown (mvT hZ (hw _ (List.mem_of_getElem? (i := 6) rfl))) (mvT hZ (hw _ (List.mem_of_getElem? (i := 7) rfl))) (mvT hZ (hw _ (List.mem_of_getElem? (i := 8) rfl))) (by decide) (backOf (W := 1) (rm1 l Z a0 hw [] b13 v6_31 v7_42 h13 n0 Z16 A13 F20 F21 g15 (own_pr0_65_hv p0 p1 p2 p3 v4_9 ev4_9 v5_20 ev5_20 v6_31 ev6_31 v7_42 ev7_42)) hZ (hw _ (List.mem_of_getElem? (i := 8) rfl)) (hw _ (List.mem_of_getElem? (i := 5) rfl)) (by decide) (by decide)) (g := (mkF m 65 #[.val (.int p0), .val (.int p1), .val (.int p2), .val (.int p3), .val (.int v4_9), .val (.int v5_20), .val (.int v6_31), .val (.int v7_42), .val (.ref b1), .unset, .unset, .unset, .unset, .unset, .unset, .unset, .unset, .unset, .unset, .unset] [(.int v7_42), (.int v6_31), (.ref b13), (.ref b13)])) rfl (by rw [hml]; rfl) (Steps.refl _) (a := b13) (argsL := [(.int v6_31), (.int v7_42)]) (rest := [(.ref b13)]) (lenOf pd2 rfl) rfl (by show 2 * 0 + _ ≤ _; exact Nat.le_of_eq rfl) (hb hby at_65) (fun _ _ => ⟨rfl, e13, (by decide : 2 + 0 ≤ _), (by decide : 4 + 0 ≤ _)⟩)
  dsimp only [Pt.U, Pt.locs, Pt.cells, Pt.slots] at X22 l22 y22 z22 st22 hQ22
  subst l22 y22 z22
  obtain ⟨rfl, N22q, K22q, E_23, F24, F25⟩ := hQ22
  have N26 := Fr.app N10 N22q
  have E_27 := E_17.keep K22q
  have F28 := F18.keep K22q (ninS ne14 nin0)
  have F29 := F19.keep K22q (ninS ne14 nin0)
  have E_30 := A13.keep K22q
  have Z31 : n0 ≤ T22.heap.size := Nat.le_trans Z16 K22q.1
  refine Goes.step (S' := T22.setTop (mkF m 68 #[.val (.int p0), .val (.int p1), .val (.int p2), .val (.int p3), .val (.int v4_9), .val (.int v5_20), .val (.int v6_31), .val (.int v7_42), .val (.ref b1), .unset, .unset, .unset, .unset, .unset, .unset, .unset, .unset, .unset, .unset, .unset] [(.ref b13)])) (fun _ k => st22.trans k) ?_
  refine Goes.step (S' := T22.setTop (mkF m 70 #[.val (.int p0), .val (.int p1), .val (.int p2), .val (.int p3), .val (.int v4_9), .val (.int v5_20), .val (.int v6_31), .val (.int v7_42), .val (.ref b1), .val (.ref b13), .unset, .unset, .unset, .unset, .unset, .unset, .unset, .unset, .unset, .unset] [])) (fun _ k => XS.astore X22.here hx rfl (hb hby at_68) rfl rfl (l' := #[.val (.int p0), .val (.int p1), .val (.int p2), .val (.int p3), .val (.int v4_9), .val (.int v5_20), .val (.int v6_31), .val (.int v7_42), .val (.ref b1), .val (.ref b13), .unset, .unset, .unset, .unset, .unset, .unset, .unset, .unset, .unset, .unset]) rfl k) ?_
  refine Goes.step (S' := T22.setTop (mkF m 72 #[.val (.int p0), .val (.int p1), .val (.int p2), .val (.int p3), .val (.int v4_9), .val (.int v5_20), .val (.int v6_31), .val (.int v7_42), .val (.ref b1), .val (.ref b13), .unset, .unset, .unset, .unset, .unset, .unset, .unset, .unset, .unset, .unset] [(.int v4_9)])) (fun _ k => XS.iload X22.here hx rfl (hb hby at_70) rfl  k) ?_
  refine Goes.step (S' := T22.setTop (mkF m 74 #[.val (.int p0), .val (.int p1), .val (.int p2), .val (.int p3), .val (.int v4_9), .val (.int v5_20), .val (.int v6_31), .val (.int v7_42), .val (.ref b1), .val (.ref b13), .unset, .unset, .unset, .unset, .unset, .unset, .unset, .unset, .unset, .unset] [(.int v6_31), (.int v4_9)])) (fun _ k => XS.iload X22.here hx rfl (hb hby at_72) rfl  k) ?_
  refine Goes.step (own_ite1 (T := T22) (c := v6_31 < v4_9) (a0 := (0 : Int32)) (b0 := (1 : Int32)) (F := fun z1_0 => (mkF m 82 #[.val (.int p0), .val (.int p1), .val (.int p2), .val (.int p3), .val (.int v4_9), .val (.int v5_20), .val (.int v6_31), .val (.int v7_42), .val (.ref b1), .val (.ref b13), .unset, .unset, .unset, .unset, .unset, .unset, .unset, .unset, .unset, .unset] [(.int z1_0)])) ?_ ?_) ?_
  · intro hc74_1 t k
    refine XS.icmpYes X22.here hx rfl (pc0 := 74) (pc' := 81) rfl (hb hby at_74) rfl (tlt hc74_1).2.2.1 (by decide) (by decide) ?_
    show Steps p.tables e below (T22.setTop (mkF m 81 #[.val (.int p0), .val (.int p1), .val (.int p2), .val (.int p3), .val (.int v4_9), .val (.int v5_20), .val (.int v6_31), .val (.int v7_42), .val (.ref b1), .val (.ref b13), .unset, .unset, .unset, .unset, .unset, .unset, .unset, .unset, .unset, .unset] [])) _
    refine XS.iconst X22.here hx rfl (hb hby at_81) ?_
    show Steps p.tables e below (T22.setTop (mkF m 82 #[.val (.int p0), .val (.int p1), .val (.int p2), .val (.int p3), .val (.int v4_9), .val (.int v5_20), .val (.int v6_31), .val (.int v7_42), .val (.ref b1), .val (.ref b13), .unset, .unset, .unset, .unset, .unset, .unset, .unset, .unset, .unset, .unset] [(.int (0 : Int32))])) _
    exact k
  · intro hc74_1 t k
    refine XS.icmpNo X22.here hx rfl (hb hby at_74) rfl (flt hc74_1).2.2.1 ?_
    show Steps p.tables e below (T22.setTop (mkF m 77 #[.val (.int p0), .val (.int p1), .val (.int p2), .val (.int p3), .val (.int v4_9), .val (.int v5_20), .val (.int v6_31), .val (.int v7_42), .val (.ref b1), .val (.ref b13), .unset, .unset, .unset, .unset, .unset, .unset, .unset, .unset, .unset, .unset] [])) _
    refine XS.iconst X22.here hx rfl (hb hby at_77) ?_
    show Steps p.tables e below (T22.setTop (mkF m 78 #[.val (.int p0), .val (.int p1), .val (.int p2), .val (.int p3), .val (.int v4_9), .val (.int v5_20), .val (.int v6_31), .val (.int v7_42), .val (.ref b1), .val (.ref b13), .unset, .unset, .unset, .unset, .unset, .unset, .unset, .unset, .unset, .unset] [(.int (1 : Int32))])) _
    refine XS.goto X22.here hx rfl (pc0 := 78) (pc' := 82) rfl (hb hby at_78) (by decide) (by decide) ?_
    show Steps p.tables e below (T22.setTop (mkF m 82 #[.val (.int p0), .val (.int p1), .val (.int p2), .val (.int p3), .val (.int v4_9), .val (.int v5_20), .val (.int v6_31), .val (.int v7_42), .val (.ref b1), .val (.ref b13), .unset, .unset, .unset, .unset, .unset, .unset, .unset, .unset, .unset, .unset] [(.int (1 : Int32))])) _
    exact k
  show Goes p.tables e below _ (T22.setTop (mkF m 82 #[.val (.int p0), .val (.int p1), .val (.int p2), .val (.int p3), .val (.int v4_9), .val (.int v5_20), .val (.int v6_31), .val (.int v7_42), .val (.ref b1), .val (.ref b13), .unset, .unset, .unset, .unset, .unset, .unset, .unset, .unset, .unset, .unset] [(.int (if v6_31 < v4_9 then (0 : Int32) else (1 : Int32)))]))
  refine Goes.step (S' := T22.setTop (mkF m 84 #[.val (.int p0), .val (.int p1), .val (.int p2), .val (.int p3), .val (.int v4_9), .val (.int v5_20), .val (.int v6_31), .val (.int v7_42), .val (.ref b1), .val (.ref b13), .val (.int (if v6_31 < v4_9 then (0 : Int32) else (1 : Int32))), .unset, .unset, .unset, .unset, .unset, .unset, .unset, .unset, .unset] [])) (fun _ k => XS.istore X22.here hx rfl (hb hby at_82) rfl (l' := #[.val (.int p0), .val (.int p1), .val (.int p2), .val (.int p3), .val (.int v4_9), .val (.int v5_20), .val (.int v6_31), .val (.int v7_42), .val (.ref b1), .val (.ref b13), .val (.int (if v6_31 < v4_9 then (0 : Int32) else (1 : Int32))), .unset, .unset, .unset, .unset, .unset, .unset, .unset, .unset, .unset]) rfl k) ?_
  obtain ⟨v10_82, ev10_82⟩ : ∃ z : Int32, z = (if v6_31 < v4_9 then (0 : Int32) else (1 : Int32)) := ⟨_, rfl⟩
  rw [← ev10_82]
  refine Goes.step (S' := T22.setTop (mkF m 86 #[.val (.int p0), .val (.int p1), .val (.int p2), .val (.int p3), .val (.int v4_9), .val (.int v5_20), .val (.int v6_31), .val (.int v7_42), .val (.ref b1), .val (.ref b13), .val (.int v10_82), .unset, .unset, .unset, .unset, .unset, .unset, .unset, .unset, .unset] [(.int v4_9)])) (fun _ k => XS.iload X22.here hx rfl (hb hby at_84) rfl  k) ?_
  refine Goes.step (S' := T22.setTop (mkF m 88 #[.val (.int p0), .val (.int p1), .val (.int p2), .val (.int p3), .val (.int v4_9), .val (.int v5_20), .val (.int v6_31), .val (.int v7_42), .val (.ref b1), .val (.ref b13), .val (.int v10_82), .unset, .unset, .unset, .unset, .unset, .unset, .unset, .unset, .unset] [(.int v5_20), (.int v4_9)])) (fun _ k => XS.iload X22.here hx rfl (hb hby at_86) rfl  k) ?_
  refine Goes.step (S' := T22.setTop (mkF m 89 #[.val (.int p0), .val (.int p1), .val (.int p2), .val (.int p3), .val (.int v4_9), .val (.int v5_20), .val (.int v6_31), .val (.int v7_42), .val (.ref b1), .val (.ref b13), .val (.int v10_82), .unset, .unset, .unset, .unset, .unset, .unset, .unset, .unset, .unset] [(.int (v4_9 / v5_20))])) (fun _ k => XS.idiv X22.here hx rfl (hb hby at_88) rfl (own_nz0_88 p0 p1 p2 p3 v4_9 ev4_9 v5_20 ev5_20 v6_31 ev6_31 v7_42 ev7_42 v10_82 ev10_82) k) ?_
  refine Goes.step (S' := T22.setTop (mkF m 90 #[.val (.int p0), .val (.int p1), .val (.int p2), .val (.int p3), .val (.int v4_9), .val (.int v5_20), .val (.int v6_31), .val (.int v7_42), .val (.ref b1), .val (.ref b13), .val (.int v10_82), .unset, .unset, .unset, .unset, .unset, .unset, .unset, .unset, .unset] [(.long ((v4_9 / v5_20).toInt64))])) (fun _ k => XS.i2l X22.here hx rfl (hb hby at_89) rfl k) ?_
  refine Goes.step (S' := T22.setTop (mkF m 92 #[.val (.int p0), .val (.int p1), .val (.int p2), .val (.int p3), .val (.int v4_9), .val (.int v5_20), .val (.int v6_31), .val (.int v7_42), .val (.ref b1), .val (.ref b13), .val (.int v10_82), .val (.long ((v4_9 / v5_20).toInt64)), .second, .unset, .unset, .unset, .unset, .unset, .unset, .unset] [])) (fun _ k => XS.lstore X22.here hx rfl (hb hby at_90) rfl (l' := #[.val (.int p0), .val (.int p1), .val (.int p2), .val (.int p3), .val (.int v4_9), .val (.int v5_20), .val (.int v6_31), .val (.int v7_42), .val (.ref b1), .val (.ref b13), .val (.int v10_82), .val (.long ((v4_9 / v5_20).toInt64)), .second, .unset, .unset, .unset, .unset, .unset, .unset, .unset]) rfl k) ?_
  obtain ⟨v11_90, ev11_90⟩ : ∃ z : Int64, z = ((v4_9 / v5_20).toInt64) := ⟨_, rfl⟩
  rw [← ev11_90]
  refine Goes.step (S' := T22.setTop (mkF m 94 #[.val (.int p0), .val (.int p1), .val (.int p2), .val (.int p3), .val (.int v4_9), .val (.int v5_20), .val (.int v6_31), .val (.int v7_42), .val (.ref b1), .val (.ref b13), .val (.int v10_82), .val (.long v11_90), .second, .unset, .unset, .unset, .unset, .unset, .unset, .unset] [(.int v4_9)])) (fun _ k => XS.iload X22.here hx rfl (hb hby at_92) rfl  k) ?_
  refine Goes.step (S' := T22.setTop (mkF m 96 #[.val (.int p0), .val (.int p1), .val (.int p2), .val (.int p3), .val (.int v4_9), .val (.int v5_20), .val (.int v6_31), .val (.int v7_42), .val (.ref b1), .val (.ref b13), .val (.int v10_82), .val (.long v11_90), .second, .unset, .unset, .unset, .unset, .unset, .unset, .unset] [(.int v5_20), (.int v4_9)])) (fun _ k => XS.iload X22.here hx rfl (hb hby at_94) rfl  k) ?_
  refine Goes.step (S' := T22.setTop (mkF m 97 #[.val (.int p0), .val (.int p1), .val (.int p2), .val (.int p3), .val (.int v4_9), .val (.int v5_20), .val (.int v6_31), .val (.int v7_42), .val (.ref b1), .val (.ref b13), .val (.int v10_82), .val (.long v11_90), .second, .unset, .unset, .unset, .unset, .unset, .unset, .unset] [(.int (v4_9 % v5_20))])) (fun _ k => iremM X22 hx rfl (hb hby at_96) rfl (own_nz0_96 p0 p1 p2 p3 v4_9 ev4_9 v5_20 ev5_20 v6_31 ev6_31 v7_42 ev7_42 v10_82 ev10_82 v11_90 ev11_90) k) ?_
  refine Goes.step (S' := T22.setTop (mkF m 98 #[.val (.int p0), .val (.int p1), .val (.int p2), .val (.int p3), .val (.int v4_9), .val (.int v5_20), .val (.int v6_31), .val (.int v7_42), .val (.ref b1), .val (.ref b13), .val (.int v10_82), .val (.long v11_90), .second, .unset, .unset, .unset, .unset, .unset, .unset, .unset] [(.long ((v4_9 % v5_20).toInt64))])) (fun _ k => XS.i2l X22.here hx rfl (hb hby at_97) rfl k) ?_
  refine Goes.step (S' := T22.setTop (mkF m 100 #[.val (.int p0), .val (.int p1), .val (.int p2), .val (.int p3), .val (.int v4_9), .val (.int v5_20), .val (.int v6_31), .val (.int v7_42), .val (.ref b1), .val (.ref b13), .val (.int v10_82), .val (.long v11_90), .second, .val (.long ((v4_9 % v5_20).toInt64)), .second, .unset, .unset, .unset, .unset, .unset] [])) (fun _ k => XS.lstore X22.here hx rfl (hb hby at_98) rfl (l' := #[.val (.int p0), .val (.int p1), .val (.int p2), .val (.int p3), .val (.int v4_9), .val (.int v5_20), .val (.int v6_31), .val (.int v7_42), .val (.ref b1), .val (.ref b13), .val (.int v10_82), .val (.long v11_90), .second, .val (.long ((v4_9 % v5_20).toInt64)), .second, .unset, .unset, .unset, .unset, .unset]) rfl k) ?_
  obtain ⟨v13_98, ev13_98⟩ : ∃ z : Int64, z = ((v4_9 % v5_20).toInt64) := ⟨_, rfl⟩
  rw [← ev13_98]
  refine Goes.step (S' := T22.setTop (mkF m 102 #[.val (.int p0), .val (.int p1), .val (.int p2), .val (.int p3), .val (.int v4_9), .val (.int v5_20), .val (.int v6_31), .val (.int v7_42), .val (.ref b1), .val (.ref b13), .val (.int v10_82), .val (.long v11_90), .second, .val (.long v13_98), .second, .unset, .unset, .unset, .unset, .unset] [(.int v6_31)])) (fun _ k => XS.iload X22.here hx rfl (hb hby at_100) rfl  k) ?_
  refine Goes.step (S' := T22.setTop (mkF m 104 #[.val (.int p0), .val (.int p1), .val (.int p2), .val (.int p3), .val (.int v4_9), .val (.int v5_20), .val (.int v6_31), .val (.int v7_42), .val (.ref b1), .val (.ref b13), .val (.int v10_82), .val (.long v11_90), .second, .val (.long v13_98), .second, .unset, .unset, .unset, .unset, .unset] [(.int v7_42), (.int v6_31)])) (fun _ k => XS.iload X22.here hx rfl (hb hby at_102) rfl  k) ?_
  refine Goes.step (S' := T22.setTop (mkF m 105 #[.val (.int p0), .val (.int p1), .val (.int p2), .val (.int p3), .val (.int v4_9), .val (.int v5_20), .val (.int v6_31), .val (.int v7_42), .val (.ref b1), .val (.ref b13), .val (.int v10_82), .val (.long v11_90), .second, .val (.long v13_98), .second, .unset, .unset, .unset, .unset, .unset] [(.int (v6_31 / v7_42))])) (fun _ k => XS.idiv X22.here hx rfl (hb hby at_104) rfl (own_nz0_104 p0 p1 p2 p3 v4_9 ev4_9 v5_20 ev5_20 v6_31 ev6_31 v7_42 ev7_42 v10_82 ev10_82 v11_90 ev11_90 v13_98 ev13_98) k) ?_
  refine Goes.step (S' := T22.setTop (mkF m 106 #[.val (.int p0), .val (.int p1), .val (.int p2), .val (.int p3), .val (.int v4_9), .val (.int v5_20), .val (.int v6_31), .val (.int v7_42), .val (.ref b1), .val (.ref b13), .val (.int v10_82), .val (.long v11_90), .second, .val (.long v13_98), .second, .unset, .unset, .unset, .unset, .unset] [(.long ((v6_31 / v7_42).toInt64))])) (fun _ k => XS.i2l X22.here hx rfl (hb hby at_105) rfl k) ?_
  refine Goes.step (S' := T22.setTop (mkF m 108 #[.val (.int p0), .val (.int p1), .val (.int p2), .val (.int p3), .val (.int v4_9), .val (.int v5_20), .val (.int v6_31), .val (.int v7_42), .val (.ref b1), .val (.ref b13), .val (.int v10_82), .val (.long v11_90), .second, .val (.long v13_98), .second, .val (.long ((v6_31 / v7_42).toInt64)), .second, .unset, .unset, .unset] [])) (fun _ k => XS.lstore X22.here hx rfl (hb hby at_106) rfl (l' := #[.val (.int p0), .val (.int p1), .val (.int p2), .val (.int p3), .val (.int v4_9), .val (.int v5_20), .val (.int v6_31), .val (.int v7_42), .val (.ref b1), .val (.ref b13), .val (.int v10_82), .val (.long v11_90), .second, .val (.long v13_98), .second, .val (.long ((v6_31 / v7_42).toInt64)), .second, .unset, .unset, .unset]) rfl k) ?_
  obtain ⟨v15_106, ev15_106⟩ : ∃ z : Int64, z = ((v6_31 / v7_42).toInt64) := ⟨_, rfl⟩
  rw [← ev15_106]
  refine Goes.step (S' := T22.setTop (mkF m 110 #[.val (.int p0), .val (.int p1), .val (.int p2), .val (.int p3), .val (.int v4_9), .val (.int v5_20), .val (.int v6_31), .val (.int v7_42), .val (.ref b1), .val (.ref b13), .val (.int v10_82), .val (.long v11_90), .second, .val (.long v13_98), .second, .val (.long v15_106), .second, .unset, .unset, .unset] [(.int v6_31)])) (fun _ k => XS.iload X22.here hx rfl (hb hby at_108) rfl  k) ?_
  refine Goes.step (S' := T22.setTop (mkF m 112 #[.val (.int p0), .val (.int p1), .val (.int p2), .val (.int p3), .val (.int v4_9), .val (.int v5_20), .val (.int v6_31), .val (.int v7_42), .val (.ref b1), .val (.ref b13), .val (.int v10_82), .val (.long v11_90), .second, .val (.long v13_98), .second, .val (.long v15_106), .second, .unset, .unset, .unset] [(.int v7_42), (.int v6_31)])) (fun _ k => XS.iload X22.here hx rfl (hb hby at_110) rfl  k) ?_
  refine Goes.step (S' := T22.setTop (mkF m 113 #[.val (.int p0), .val (.int p1), .val (.int p2), .val (.int p3), .val (.int v4_9), .val (.int v5_20), .val (.int v6_31), .val (.int v7_42), .val (.ref b1), .val (.ref b13), .val (.int v10_82), .val (.long v11_90), .second, .val (.long v13_98), .second, .val (.long v15_106), .second, .unset, .unset, .unset] [(.int (v6_31 % v7_42))])) (fun _ k => iremM X22 hx rfl (hb hby at_112) rfl (own_nz0_112 p0 p1 p2 p3 v4_9 ev4_9 v5_20 ev5_20 v6_31 ev6_31 v7_42 ev7_42 v10_82 ev10_82 v11_90 ev11_90 v13_98 ev13_98 v15_106 ev15_106) k) ?_
  refine Goes.step (S' := T22.setTop (mkF m 114 #[.val (.int p0), .val (.int p1), .val (.int p2), .val (.int p3), .val (.int v4_9), .val (.int v5_20), .val (.int v6_31), .val (.int v7_42), .val (.ref b1), .val (.ref b13), .val (.int v10_82), .val (.long v11_90), .second, .val (.long v13_98), .second, .val (.long v15_106), .second, .unset, .unset, .unset] [(.long ((v6_31 % v7_42).toInt64))])) (fun _ k => XS.i2l X22.here hx rfl (hb hby at_113) rfl k) ?_
  refine Goes.step (S' := T22.setTop (mkF m 116 #[.val (.int p0), .val (.int p1), .val (.int p2), .val (.int p3), .val (.int v4_9), .val (.int v5_20), .val (.int v6_31), .val (.int v7_42), .val (.ref b1), .val (.ref b13), .val (.int v10_82), .val (.long v11_90), .second, .val (.long v13_98), .second, .val (.long v15_106), .second, .val (.long ((v6_31 % v7_42).toInt64)), .second, .unset] [])) (fun _ k => XS.lstore X22.here hx rfl (hb hby at_114) rfl (l' := #[.val (.int p0), .val (.int p1), .val (.int p2), .val (.int p3), .val (.int v4_9), .val (.int v5_20), .val (.int v6_31), .val (.int v7_42), .val (.ref b1), .val (.ref b13), .val (.int v10_82), .val (.long v11_90), .second, .val (.long v13_98), .second, .val (.long v15_106), .second, .val (.long ((v6_31 % v7_42).toInt64)), .second, .unset]) rfl k) ?_
  obtain ⟨v17_114, ev17_114⟩ : ∃ z : Int64, z = ((v6_31 % v7_42).toInt64) := ⟨_, rfl⟩
  rw [← ev17_114]
  refine Goes.step (S' := T22.setTop (mkF m 118 #[.val (.int p0), .val (.int p1), .val (.int p2), .val (.int p3), .val (.int v4_9), .val (.int v5_20), .val (.int v6_31), .val (.int v7_42), .val (.ref b1), .val (.ref b13), .val (.int v10_82), .val (.long v11_90), .second, .val (.long v13_98), .second, .val (.long v15_106), .second, .val (.long v17_114), .second, .unset] [(.long v11_90)])) (fun _ k => XS.lload X22.here hx rfl (hb hby at_116) rfl  k) ?_
  refine Goes.step (S' := T22.setTop (mkF m 120 #[.val (.int p0), .val (.int p1), .val (.int p2), .val (.int p3), .val (.int v4_9), .val (.int v5_20), .val (.int v6_31), .val (.int v7_42), .val (.ref b1), .val (.ref b13), .val (.int v10_82), .val (.long v11_90), .second, .val (.long v13_98), .second, .val (.long v15_106), .second, .val (.long v17_114), .second, .unset] [(.long v15_106), (.long v11_90)])) (fun _ k => XS.lload X22.here hx rfl (hb hby at_118) rfl  k) ?_
  refine Goes.step (S' := T22.setTop (mkF m 121 #[.val (.int p0), .val (.int p1), .val (.int p2), .val (.int p3), .val (.int v4_9), .val (.int v5_20), .val (.int v6_31), .val (.int v7_42), .val (.ref b1), .val (.ref b13), .val (.int v10_82), .val (.long v11_90), .second, .val (.long v13_98), .second, .val (.long v15_106), .second, .val (.long v17_114), .second, .unset] [(.int (lcmpW v11_90 v15_106))])) (fun _ k => XS.lcmp X22.here hx rfl (hb hby at_120) rfl k) ?_
  refine Goes.step (own_ite1 (T := T22) (c := v11_90 < v15_106) (a0 := (1 : Int32)) (b0 := (if v11_90 = v15_106 then (if (v17_114 * (v5_20.toInt64)) < (v13_98 * (v7_42.toInt64)) then (0 : Int32) else (1 : Int32)) else (0 : Int32))) (F := fun z4_0 => (mkF m 153 #[.val (.int p0), .val (.int p1), .val (.int p2), .val (.int p3), .val (.int v4_9), .val (.int v5_20), .val (.int v6_31), .val (.int v7_42), .val (.ref b1), .val (.ref b13), .val (.int v10_82), .val (.long v11_90), .second, .val (.long v13_98), .second, .val (.long v15_106), .second, .val (.long v17_114), .second, .unset] [(.int z4_0)])) ?_ ?_) ?_
  · intro hc121_2 t k
    refine XS.ifYes X22.here hx rfl (pc0 := 121) (pc' := 148) rfl (hb hby at_121) rfl ((if0 _ _).trans (tlt ((lw_lt v11_90 v15_106).mpr hc121_2)).1) (by decide) (by decide) ?_
    show Steps p.tables e below (T22.setTop (mkF m 148 #[.val (.int p0), .val (.int p1), .val (.int p2), .val (.int p3), .val (.int v4_9), .val (.int v5_20), .val (.int v6_31), .val (.int v7_42), .val (.ref b1), .val (.ref b13), .val (.int v10_82), .val (.long v11_90), .second, .val (.long v13_98), .second, .val (.long v15_106), .second, .val (.long v17_114), .second, .unset] [])) _
    refine XS.iconst X22.here hx rfl (hb hby at_148) ?_
    show Steps p.tables e below (T22.setTop (mkF m 149 #[.val (.int p0), .val (.int p1), .val (.int p2), .val (.int p3), .val (.int v4_9), .val (.int v5_20), .val (.int v6_31), .val (.int v7_42), .val (.ref b1), .val (.ref b13), .val (.int v10_82), .val (.long v11_90), .second, .val (.long v13_98), .second, .val (.long v15_106), .second, .val (.long v17_114), .second, .unset] [(.int (1 : Int32))])) _
    refine XS.goto X22.here hx rfl (pc0 := 149) (pc' := 153) rfl (hb hby at_149) (by decide) (by decide) ?_
    show Steps p.tables e below (T22.setTop (mkF m 153 #[.val (.int p0), .val (.int p1), .val (.int p2), .val (.int p3), .val (.int v4_9), .val (.int v5_20), .val (.int v6_31), .val (.int v7_42), .val (.ref b1), .val (.ref b13), .val (.int v10_82), .val (.long v11_90), .second, .val (.long v13_98), .second, .val (.long v15_106), .second, .val (.long v17_114), .second, .unset] [(.int (1 : Int32))])) _
    exact k
  · intro hc121_2 t k
    refine XS.ifNo X22.here hx rfl (hb hby at_121) rfl ((if0 _ _).trans (flt (mt (lw_lt v11_90 v15_106).mp hc121_2)).1) ?_
    show Steps p.tables e below (T22.setTop (mkF m 124 #[.val (.int p0), .val (.int p1), .val (.int p2), .val (.int p3), .val (.int v4_9), .val (.int v5_20), .val (.int v6_31), .val (.int v7_42), .val (.ref b1), .val (.ref b13), .val (.int v10_82), .val (.long v11_90), .second, .val (.long v13_98), .second, .val (.long v15_106), .second, .val (.long v17_114), .second, .unset] [])) _
    refine XS.lload X22.here hx rfl (hb hby at_124) rfl  ?_
    show Steps p.tables e below (T22.setTop (mkF m 126 #[.val (.int p0), .val (.int p1), .val (.int p2), .val (.int p3), .val (.int v4_9), .val (.int v5_20), .val (.int v6_31), .val (.int v7_42), .val (.ref b1), .val (.ref b13), .val (.int v10_82), .val (.long v11_90), .second, .val (.long v13_98), .second, .val (.long v15_106), .second, .val (.long v17_114), .second, .unset] [(.long v11_90)])) _
    refine XS.lload X22.here hx rfl (hb hby at_126) rfl  ?_
    show Steps p.tables e below (T22.setTop (mkF m 128 #[.val (.int p0), .val (.int p1), .val (.int p2), .val (.int p3), .val (.int v4_9), .val (.int v5_20), .val (.int v6_31), .val (.int v7_42), .val (.ref b1), .val (.ref b13), .val (.int v10_82), .val (.long v11_90), .second, .val (.long v13_98), .second, .val (.long v15_106), .second, .val (.long v17_114), .second, .unset] [(.long v15_106), (.long v11_90)])) _
    refine XS.lcmp X22.here hx rfl (hb hby at_128) rfl ?_
    show Steps p.tables e below (T22.setTop (mkF m 129 #[.val (.int p0), .val (.int p1), .val (.int p2), .val (.int p3), .val (.int v4_9), .val (.int v5_20), .val (.int v6_31), .val (.int v7_42), .val (.ref b1), .val (.ref b13), .val (.int v10_82), .val (.long v11_90), .second, .val (.long v13_98), .second, .val (.long v15_106), .second, .val (.long v17_114), .second, .unset] [(.int (lcmpW v11_90 v15_106))])) _
    refine own_ite1 (T := T22) (c := v11_90 = v15_106) (a0 := (if (v17_114 * (v5_20.toInt64)) < (v13_98 * (v7_42.toInt64)) then (0 : Int32) else (1 : Int32))) (b0 := (0 : Int32)) (F := fun z4_0 => (mkF m 153 #[.val (.int p0), .val (.int p1), .val (.int p2), .val (.int p3), .val (.int v4_9), .val (.int v5_20), .val (.int v6_31), .val (.int v7_42), .val (.ref b1), .val (.ref b13), .val (.int v10_82), .val (.long v11_90), .second, .val (.long v13_98), .second, .val (.long v15_106), .second, .val (.long v17_114), .second, .unset] [(.int z4_0)])) ?_ ?_ _ ?_
    · intro hc129_3 t k
      refine XS.ifNo X22.here hx rfl (hb hby at_129) rfl ((if0 _ _).trans (teq ((lw_eq v11_90 v15_106).mpr hc129_3)).2) ?_
      show Steps p.tables e below (T22.setTop (mkF m 132 #[.val (.int p0), .val (.int p1), .val (.int p2), .val (.int p3), .val (.int v4_9), .val (.int v5_20), .val (.int v6_31), .val (.int v7_42), .val (.ref b1), .val (.ref b13), .val (.int v10_82), .val (.long v11_90), .second, .val (.long v13_98), .second, .val (.long v15_106), .second, .val (.long v17_114), .second, .unset] [])) _
      refine XS.lload X22.here hx rfl (hb hby at_132) rfl  ?_
      show Steps p.tables e below (T22.setTop (mkF m 134 #[.val (.int p0), .val (.int p1), .val (.int p2), .val (.int p3), .val (.int v4_9), .val (.int v5_20), .val (.int v6_31), .val (.int v7_42), .val (.ref b1), .val (.ref b13), .val (.int v10_82), .val (.long v11_90), .second, .val (.long v13_98), .second, .val (.long v15_106), .second, .val (.long v17_114), .second, .unset] [(.long v13_98)])) _
      refine XS.iload X22.here hx rfl (hb hby at_134) rfl  ?_
      show Steps p.tables e below (T22.setTop (mkF m 136 #[.val (.int p0), .val (.int p1), .val (.int p2), .val (.int p3), .val (.int v4_9), .val (.int v5_20), .val (.int v6_31), .val (.int v7_42), .val (.ref b1), .val (.ref b13), .val (.int v10_82), .val (.long v11_90), .second, .val (.long v13_98), .second, .val (.long v15_106), .second, .val (.long v17_114), .second, .unset] [(.int v7_42), (.long v13_98)])) _
      refine XS.i2l X22.here hx rfl (hb hby at_136) rfl ?_
      show Steps p.tables e below (T22.setTop (mkF m 137 #[.val (.int p0), .val (.int p1), .val (.int p2), .val (.int p3), .val (.int v4_9), .val (.int v5_20), .val (.int v6_31), .val (.int v7_42), .val (.ref b1), .val (.ref b13), .val (.int v10_82), .val (.long v11_90), .second, .val (.long v13_98), .second, .val (.long v15_106), .second, .val (.long v17_114), .second, .unset] [(.long (v7_42.toInt64)), (.long v13_98)])) _
      refine XS.lmul X22.here hx rfl (hb hby at_137) rfl ?_
      show Steps p.tables e below (T22.setTop (mkF m 138 #[.val (.int p0), .val (.int p1), .val (.int p2), .val (.int p3), .val (.int v4_9), .val (.int v5_20), .val (.int v6_31), .val (.int v7_42), .val (.ref b1), .val (.ref b13), .val (.int v10_82), .val (.long v11_90), .second, .val (.long v13_98), .second, .val (.long v15_106), .second, .val (.long v17_114), .second, .unset] [(.long (v13_98 * (v7_42.toInt64)))])) _
      refine XS.lload X22.here hx rfl (hb hby at_138) rfl  ?_
      show Steps p.tables e below (T22.setTop (mkF m 140 #[.val (.int p0), .val (.int p1), .val (.int p2), .val (.int p3), .val (.int v4_9), .val (.int v5_20), .val (.int v6_31), .val (.int v7_42), .val (.ref b1), .val (.ref b13), .val (.int v10_82), .val (.long v11_90), .second, .val (.long v13_98), .second, .val (.long v15_106), .second, .val (.long v17_114), .second, .unset] [(.long v17_114), (.long (v13_98 * (v7_42.toInt64)))])) _
      refine XS.iload X22.here hx rfl (hb hby at_140) rfl  ?_
      show Steps p.tables e below (T22.setTop (mkF m 142 #[.val (.int p0), .val (.int p1), .val (.int p2), .val (.int p3), .val (.int v4_9), .val (.int v5_20), .val (.int v6_31), .val (.int v7_42), .val (.ref b1), .val (.ref b13), .val (.int v10_82), .val (.long v11_90), .second, .val (.long v13_98), .second, .val (.long v15_106), .second, .val (.long v17_114), .second, .unset] [(.int v5_20), (.long v17_114), (.long (v13_98 * (v7_42.toInt64)))])) _
      refine XS.i2l X22.here hx rfl (hb hby at_142) rfl ?_
      show Steps p.tables e below (T22.setTop (mkF m 143 #[.val (.int p0), .val (.int p1), .val (.int p2), .val (.int p3), .val (.int v4_9), .val (.int v5_20), .val (.int v6_31), .val (.int v7_42), .val (.ref b1), .val (.ref b13), .val (.int v10_82), .val (.long v11_90), .second, .val (.long v13_98), .second, .val (.long v15_106), .second, .val (.long v17_114), .second, .unset] [(.long (v5_20.toInt64)), (.long v17_114), (.long (v13_98 * (v7_42.toInt64)))])) _
      refine XS.lmul X22.here hx rfl (hb hby at_143) rfl ?_
      show Steps p.tables e below (T22.setTop (mkF m 144 #[.val (.int p0), .val (.int p1), .val (.int p2), .val (.int p3), .val (.int v4_9), .val (.int v5_20), .val (.int v6_31), .val (.int v7_42), .val (.ref b1), .val (.ref b13), .val (.int v10_82), .val (.long v11_90), .second, .val (.long v13_98), .second, .val (.long v15_106), .second, .val (.long v17_114), .second, .unset] [(.long (v17_114 * (v5_20.toInt64))), (.long (v13_98 * (v7_42.toInt64)))])) _
      refine XS.lcmp X22.here hx rfl (hb hby at_144) rfl ?_
      show Steps p.tables e below (T22.setTop (mkF m 145 #[.val (.int p0), .val (.int p1), .val (.int p2), .val (.int p3), .val (.int v4_9), .val (.int v5_20), .val (.int v6_31), .val (.int v7_42), .val (.ref b1), .val (.ref b13), .val (.int v10_82), .val (.long v11_90), .second, .val (.long v13_98), .second, .val (.long v15_106), .second, .val (.long v17_114), .second, .unset] [(.int (lcmpW (v13_98 * (v7_42.toInt64)) (v17_114 * (v5_20.toInt64))))])) _
      refine own_ite1 (T := T22) (c := (v17_114 * (v5_20.toInt64)) < (v13_98 * (v7_42.toInt64))) (a0 := (0 : Int32)) (b0 := (1 : Int32)) (F := fun z4_0 => (mkF m 153 #[.val (.int p0), .val (.int p1), .val (.int p2), .val (.int p3), .val (.int v4_9), .val (.int v5_20), .val (.int v6_31), .val (.int v7_42), .val (.ref b1), .val (.ref b13), .val (.int v10_82), .val (.long v11_90), .second, .val (.long v13_98), .second, .val (.long v15_106), .second, .val (.long v17_114), .second, .unset] [(.int z4_0)])) ?_ ?_ _ ?_
      · intro hc145_4 t k
        refine XS.ifYes X22.here hx rfl (pc0 := 145) (pc' := 152) rfl (hb hby at_145) rfl ((if0 _ _).trans (tlt ((lw_gt (v13_98 * (v7_42.toInt64)) (v17_114 * (v5_20.toInt64))).mpr hc145_4)).2.2.1) (by decide) (by decide) ?_
        show Steps p.tables e below (T22.setTop (mkF m 152 #[.val (.int p0), .val (.int p1), .val (.int p2), .val (.int p3), .val (.int v4_9), .val (.int v5_20), .val (.int v6_31), .val (.int v7_42), .val (.ref b1), .val (.ref b13), .val (.int v10_82), .val (.long v11_90), .second, .val (.long v13_98), .second, .val (.long v15_106), .second, .val (.long v17_114), .second, .unset] [])) _
        refine XS.iconst X22.here hx rfl (hb hby at_152) ?_
        show Steps p.tables e below (T22.setTop (mkF m 153 #[.val (.int p0), .val (.int p1), .val (.int p2), .val (.int p3), .val (.int v4_9), .val (.int v5_20), .val (.int v6_31), .val (.int v7_42), .val (.ref b1), .val (.ref b13), .val (.int v10_82), .val (.long v11_90), .second, .val (.long v13_98), .second, .val (.long v15_106), .second, .val (.long v17_114), .second, .unset] [(.int (0 : Int32))])) _
        exact k
      · intro hc145_4 t k
        refine XS.ifNo X22.here hx rfl (hb hby at_145) rfl ((if0 _ _).trans (flt (mt (lw_gt (v13_98 * (v7_42.toInt64)) (v17_114 * (v5_20.toInt64))).mp hc145_4)).2.2.1) ?_
        show Steps p.tables e below (T22.setTop (mkF m 148 #[.val (.int p0), .val (.int p1), .val (.int p2), .val (.int p3), .val (.int v4_9), .val (.int v5_20), .val (.int v6_31), .val (.int v7_42), .val (.ref b1), .val (.ref b13), .val (.int v10_82), .val (.long v11_90), .second, .val (.long v13_98), .second, .val (.long v15_106), .second, .val (.long v17_114), .second, .unset] [])) _
        refine XS.iconst X22.here hx rfl (hb hby at_148) ?_
        show Steps p.tables e below (T22.setTop (mkF m 149 #[.val (.int p0), .val (.int p1), .val (.int p2), .val (.int p3), .val (.int v4_9), .val (.int v5_20), .val (.int v6_31), .val (.int v7_42), .val (.ref b1), .val (.ref b13), .val (.int v10_82), .val (.long v11_90), .second, .val (.long v13_98), .second, .val (.long v15_106), .second, .val (.long v17_114), .second, .unset] [(.int (1 : Int32))])) _
        refine XS.goto X22.here hx rfl (pc0 := 149) (pc' := 153) rfl (hb hby at_149) (by decide) (by decide) ?_
        show Steps p.tables e below (T22.setTop (mkF m 153 #[.val (.int p0), .val (.int p1), .val (.int p2), .val (.int p3), .val (.int v4_9), .val (.int v5_20), .val (.int v6_31), .val (.int v7_42), .val (.ref b1), .val (.ref b13), .val (.int v10_82), .val (.long v11_90), .second, .val (.long v13_98), .second, .val (.long v15_106), .second, .val (.long v17_114), .second, .unset] [(.int (1 : Int32))])) _
        exact k
      show Steps p.tables e below (T22.setTop (mkF m 153 #[.val (.int p0), .val (.int p1), .val (.int p2), .val (.int p3), .val (.int v4_9), .val (.int v5_20), .val (.int v6_31), .val (.int v7_42), .val (.ref b1), .val (.ref b13), .val (.int v10_82), .val (.long v11_90), .second, .val (.long v13_98), .second, .val (.long v15_106), .second, .val (.long v17_114), .second, .unset] [(.int (if (v17_114 * (v5_20.toInt64)) < (v13_98 * (v7_42.toInt64)) then (0 : Int32) else (1 : Int32)))])) _
      exact k
    · intro hc129_3 t k
      refine XS.ifYes X22.here hx rfl (pc0 := 129) (pc' := 152) rfl (hb hby at_129) rfl ((if0 _ _).trans (feq (mt (lw_eq v11_90 v15_106).mp hc129_3)).2) (by decide) (by decide) ?_
      show Steps p.tables e below (T22.setTop (mkF m 152 #[.val (.int p0), .val (.int p1), .val (.int p2), .val (.int p3), .val (.int v4_9), .val (.int v5_20), .val (.int v6_31), .val (.int v7_42), .val (.ref b1), .val (.ref b13), .val (.int v10_82), .val (.long v11_90), .second, .val (.long v13_98), .second, .val (.long v15_106), .second, .val (.long v17_114), .second, .unset] [])) _
      refine XS.iconst X22.here hx rfl (hb hby at_152) ?_
      show Steps p.tables e below (T22.setTop (mkF m 153 #[.val (.int p0), .val (.int p1), .val (.int p2), .val (.int p3), .val (.int v4_9), .val (.int v5_20), .val (.int v6_31), .val (.int v7_42), .val (.ref b1), .val (.ref b13), .val (.int v10_82), .val (.long v11_90), .second, .val (.long v13_98), .second, .val (.long v15_106), .second, .val (.long v17_114), .second, .unset] [(.int (0 : Int32))])) _
      exact k
    show Steps p.tables e below (T22.setTop (mkF m 153 #[.val (.int p0), .val (.int p1), .val (.int p2), .val (.int p3), .val (.int v4_9), .val (.int v5_20), .val (.int v6_31), .val (.int v7_42), .val (.ref b1), .val (.ref b13), .val (.int v10_82), .val (.long v11_90), .second, .val (.long v13_98), .second, .val (.long v15_106), .second, .val (.long v17_114), .second, .unset] [(.int (if v11_90 = v15_106 then (if (v17_114 * (v5_20.toInt64)) < (v13_98 * (v7_42.toInt64)) then (0 : Int32) else (1 : Int32)) else (0 : Int32)))])) _
    exact k
  show Goes p.tables e below _ (T22.setTop (mkF m 153 #[.val (.int p0), .val (.int p1), .val (.int p2), .val (.int p3), .val (.int v4_9), .val (.int v5_20), .val (.int v6_31), .val (.int v7_42), .val (.ref b1), .val (.ref b13), .val (.int v10_82), .val (.long v11_90), .second, .val (.long v13_98), .second, .val (.long v15_106), .second, .val (.long v17_114), .second, .unset] [(.int (if v11_90 < v15_106 then (1 : Int32) else (if v11_90 = v15_106 then (if (v17_114 * (v5_20.toInt64)) < (v13_98 * (v7_42.toInt64)) then (0 : Int32) else (1 : Int32)) else (0 : Int32))))]))
  refine Goes.step (S' := T22.setTop (mkF m 155 #[.val (.int p0), .val (.int p1), .val (.int p2), .val (.int p3), .val (.int v4_9), .val (.int v5_20), .val (.int v6_31), .val (.int v7_42), .val (.ref b1), .val (.ref b13), .val (.int v10_82), .val (.long v11_90), .second, .val (.long v13_98), .second, .val (.long v15_106), .second, .val (.long v17_114), .second, .val (.int (if v11_90 < v15_106 then (1 : Int32) else (if v11_90 = v15_106 then (if (v17_114 * (v5_20.toInt64)) < (v13_98 * (v7_42.toInt64)) then (0 : Int32) else (1 : Int32)) else (0 : Int32))))] [])) (fun _ k => XS.istore X22.here hx rfl (hb hby at_153) rfl (l' := #[.val (.int p0), .val (.int p1), .val (.int p2), .val (.int p3), .val (.int v4_9), .val (.int v5_20), .val (.int v6_31), .val (.int v7_42), .val (.ref b1), .val (.ref b13), .val (.int v10_82), .val (.long v11_90), .second, .val (.long v13_98), .second, .val (.long v15_106), .second, .val (.long v17_114), .second, .val (.int (if v11_90 < v15_106 then (1 : Int32) else (if v11_90 = v15_106 then (if (v17_114 * (v5_20.toInt64)) < (v13_98 * (v7_42.toInt64)) then (0 : Int32) else (1 : Int32)) else (0 : Int32))))]) rfl k) ?_
  obtain ⟨v19_153, ev19_153⟩ : ∃ z : Int32, z = (if v11_90 < v15_106 then (1 : Int32) else (if v11_90 = v15_106 then (if (v17_114 * (v5_20.toInt64)) < (v13_98 * (v7_42.toInt64)) then (0 : Int32) else (1 : Int32)) else (0 : Int32))) := ⟨_, rfl⟩
  rw [← ev19_153]
  refine Goes.step (S' := T22.setTop (mkF m 157 #[.val (.int p0), .val (.int p1), .val (.int p2), .val (.int p3), .val (.int v4_9), .val (.int v5_20), .val (.int v6_31), .val (.int v7_42), .val (.ref b1), .val (.ref b13), .val (.int v10_82), .val (.long v11_90), .second, .val (.long v13_98), .second, .val (.long v15_106), .second, .val (.long v17_114), .second, .val (.int v19_153)] [(.ref b1)])) (fun _ k => XS.aload X22.here hx rfl (hb hby at_155) rfl rfl k) ?_
  refine Goes.step (S' := T22.setTop (mkF m 159 #[.val (.int p0), .val (.int p1), .val (.int p2), .val (.int p3), .val (.int v4_9), .val (.int v5_20), .val (.int v6_31), .val (.int v7_42), .val (.ref b1), .val (.ref b13), .val (.int v10_82), .val (.long v11_90), .second, .val (.long v13_98), .second, .val (.long v15_106), .second, .val (.long v17_114), .second, .val (.int v19_153)] [(.ref b13), (.ref b1)])) (fun _ k => XS.aload X22.here hx rfl (hb hby at_157) rfl rfl k) ?_
  obtain ⟨cq32, kq32, q32a, q32b, q32c⟩ := isOf hZ rfl E_27
  obtain ⟨_, _, ⟨T32, L32, k32, n32⟩, -, X32, ⟨Lc32, hQ32, l32, y32, z32⟩, st32⟩ := X22.virtualBack hx (y := (⟨"com/example/keywarden/keywarden/core/RateLimit", "isWithin", "(Lcom/example/keywarden/keywarden/core/RateLimit;)Z"⟩ : MethodName)) (z := (⟨"com/example/keywarden/keywarden/core/RateLimit", "isWithin", "(Lcom/example/keywarden/keywarden/core/RateLimit;)Z"⟩ : MethodName)) hown (mvT hZ (hw _ (List.mem_of_getElem? (i := 26) rfl))) (mvT hZ (hw _ (List.mem_of_getElem? (i := 27) rfl))) (notFace_of_selects (args := #[]) (mvT hZ (hw _ (List.mem_of_getElem? (i := 29) rfl)))) (mvT hZ (hw _ (List.mem_of_getElem? (i := 29) rfl))) (mvT hZ (hw _ (List.mem_of_getElem? (i := 28) rfl))) (by decide) (backOf (W := 0) (rm5 l Z a0 hw [] b1 b13 v4_9 v5_20 v6_31 v7_42 T22.heap n0 Z31 E_27 F28 F29 E_23 F24 F25) hZ (hw _ (List.mem_of_getElem? (i := 30) rfl)) (hw _ (List.mem_of_getElem? (i := 5) rfl)) (by decide) (by decide)) q32a q32c (g := (mkF m 159 #[.val (.int p0), .val (.int p1), .val (.int p2), .val (.int p3), .val (.int v4_9), .val (.int v5_20), .val (.int v6_31), .val (.int v7_42), .val (.ref b1), .val (.ref b13), .val (.int v10_82), .val (.long v11_90), .second, .val (.long v13_98), .second, .val (.long v15_106), .second, .val (.long v17_114), .second, .val (.int v19_153)] [(.ref b13), (.ref b1)])) rfl (by rw [hml]; rfl) (Steps.refl _) (argsL := [(.ref b13)]) (rest := []) (lenOf pd3 rfl) rfl (by show 2 * 0 + _ ≤ _; exact Nat.le_of_eq rfl) (hb hby at_159) (fun _ _ => ⟨rfl, rfl, (by decide : 2 + 0 ≤ _), (by decide : 4 + 0 ≤ _)⟩)
  dsimp only [Pt.U, Pt.locs, Pt.cells, Pt.slots] at X32 l32 y32 z32 st32 hQ32
  subst l32 y32 z32
  obtain ⟨rfl, N32q, e32⟩ := hQ32
  have N33 := Fr.app N26 N32q
  refine Goes.step (S' := T32.setTop (mkF m 162 #[.val (.int p0), .val (.int p1), .val (.int p2), .val (.int p3), .val (.int v4_9), .val (.int v5_20), .val (.int v6_31), .val (.int v7_42), .val (.ref b1), .val (.ref b13), .val (.int v10_82), .val (.long v11_90), .second, .val (.long v13_98), .second, .val (.long v15_106), .second, .val (.long v17_114), .second, .val (.int v19_153)] [(.int (f5 v4_9 v5_20 v6_31 v7_42))])) (fun _ k => st32.trans k) ?_
  refine Goes.step (S' := T32.setTop (mkF m 164 #[.val (.int p0), .val (.int p1), .val (.int p2), .val (.int p3), .val (.int v4_9), .val (.int v5_20), .val (.int v6_31), .val (.int v7_42), .val (.ref b1), .val (.ref b13), .val (.int v10_82), .val (.long v11_90), .second, .val (.long v13_98), .second, .val (.long v15_106), .second, .val (.long v17_114), .second, .val (.int v19_153)] [(.int v10_82), (.int (f5 v4_9 v5_20 v6_31 v7_42))])) (fun _ k => XS.iload X32.here hx rfl (hb hby at_162) rfl  k) ?_
  refine Goes.step (own_ite1 (T := T32) (c := v10_82 = (0 : Int32)) (a0 := (0 : Int32)) (b0 := (if v19_153 = (0 : Int32) then (0 : Int32) else (1 : Int32))) (F := fun z6_0 => (mkF m 177 #[.val (.int p0), .val (.int p1), .val (.int p2), .val (.int p3), .val (.int v4_9), .val (.int v5_20), .val (.int v6_31), .val (.int v7_42), .val (.ref b1), .val (.ref b13), .val (.int v10_82), .val (.long v11_90), .second, .val (.long v13_98), .second, .val (.long v15_106), .second, .val (.long v17_114), .second, .val (.int v19_153)] [(.int z6_0), (.int (f5 v4_9 v5_20 v6_31 v7_42))])) ?_ ?_) ?_
  · intro hc164_5 t k
    refine XS.ifYes X32.here hx rfl (pc0 := 164) (pc' := 176) rfl (hb hby at_164) rfl ((if0 _ _).trans (teq hc164_5).1) (by decide) (by decide) ?_
    show Steps p.tables e below (T32.setTop (mkF m 176 #[.val (.int p0), .val (.int p1), .val (.int p2), .val (.int p3), .val (.int v4_9), .val (.int v5_20), .val (.int v6_31), .val (.int v7_42), .val (.ref b1), .val (.ref b13), .val (.int v10_82), .val (.long v11_90), .second, .val (.long v13_98), .second, .val (.long v15_106), .second, .val (.long v17_114), .second, .val (.int v19_153)] [(.int (f5 v4_9 v5_20 v6_31 v7_42))])) _
    refine XS.iconst X32.here hx rfl (hb hby at_176) ?_
    show Steps p.tables e below (T32.setTop (mkF m 177 #[.val (.int p0), .val (.int p1), .val (.int p2), .val (.int p3), .val (.int v4_9), .val (.int v5_20), .val (.int v6_31), .val (.int v7_42), .val (.ref b1), .val (.ref b13), .val (.int v10_82), .val (.long v11_90), .second, .val (.long v13_98), .second, .val (.long v15_106), .second, .val (.long v17_114), .second, .val (.int v19_153)] [(.int (0 : Int32)), (.int (f5 v4_9 v5_20 v6_31 v7_42))])) _
    exact k
  · intro hc164_5 t k
    refine XS.ifNo X32.here hx rfl (hb hby at_164) rfl ((if0 _ _).trans (feq hc164_5).1) ?_
    show Steps p.tables e below (T32.setTop (mkF m 167 #[.val (.int p0), .val (.int p1), .val (.int p2), .val (.int p3), .val (.int v4_9), .val (.int v5_20), .val (.int v6_31), .val (.int v7_42), .val (.ref b1), .val (.ref b13), .val (.int v10_82), .val (.long v11_90), .second, .val (.long v13_98), .second, .val (.long v15_106), .second, .val (.long v17_114), .second, .val (.int v19_153)] [(.int (f5 v4_9 v5_20 v6_31 v7_42))])) _
    refine XS.iload X32.here hx rfl (hb hby at_167) rfl  ?_
    show Steps p.tables e below (T32.setTop (mkF m 169 #[.val (.int p0), .val (.int p1), .val (.int p2), .val (.int p3), .val (.int v4_9), .val (.int v5_20), .val (.int v6_31), .val (.int v7_42), .val (.ref b1), .val (.ref b13), .val (.int v10_82), .val (.long v11_90), .second, .val (.long v13_98), .second, .val (.long v15_106), .second, .val (.long v17_114), .second, .val (.int v19_153)] [(.int v19_153), (.int (f5 v4_9 v5_20 v6_31 v7_42))])) _
    refine own_ite1 (T := T32) (c := v19_153 = (0 : Int32)) (a0 := (0 : Int32)) (b0 := (1 : Int32)) (F := fun z6_0 => (mkF m 177 #[.val (.int p0), .val (.int p1), .val (.int p2), .val (.int p3), .val (.int v4_9), .val (.int v5_20), .val (.int v6_31), .val (.int v7_42), .val (.ref b1), .val (.ref b13), .val (.int v10_82), .val (.long v11_90), .second, .val (.long v13_98), .second, .val (.long v15_106), .second, .val (.long v17_114), .second, .val (.int v19_153)] [(.int z6_0), (.int (f5 v4_9 v5_20 v6_31 v7_42))])) ?_ ?_ _ ?_
    · intro hc169_6 t k
      refine XS.ifYes X32.here hx rfl (pc0 := 169) (pc' := 176) rfl (hb hby at_169) rfl ((if0 _ _).trans (teq hc169_6).1) (by decide) (by decide) ?_
      show Steps p.tables e below (T32.setTop (mkF m 176 #[.val (.int p0), .val (.int p1), .val (.int p2), .val (.int p3), .val (.int v4_9), .val (.int v5_20), .val (.int v6_31), .val (.int v7_42), .val (.ref b1), .val (.ref b13), .val (.int v10_82), .val (.long v11_90), .second, .val (.long v13_98), .second, .val (.long v15_106), .second, .val (.long v17_114), .second, .val (.int v19_153)] [(.int (f5 v4_9 v5_20 v6_31 v7_42))])) _
      refine XS.iconst X32.here hx rfl (hb hby at_176) ?_
      show Steps p.tables e below (T32.setTop (mkF m 177 #[.val (.int p0), .val (.int p1), .val (.int p2), .val (.int p3), .val (.int v4_9), .val (.int v5_20), .val (.int v6_31), .val (.int v7_42), .val (.ref b1), .val (.ref b13), .val (.int v10_82), .val (.long v11_90), .second, .val (.long v13_98), .second, .val (.long v15_106), .second, .val (.long v17_114), .second, .val (.int v19_153)] [(.int (0 : Int32)), (.int (f5 v4_9 v5_20 v6_31 v7_42))])) _
      exact k
    · intro hc169_6 t k
      refine XS.ifNo X32.here hx rfl (hb hby at_169) rfl ((if0 _ _).trans (feq hc169_6).1) ?_
      show Steps p.tables e below (T32.setTop (mkF m 172 #[.val (.int p0), .val (.int p1), .val (.int p2), .val (.int p3), .val (.int v4_9), .val (.int v5_20), .val (.int v6_31), .val (.int v7_42), .val (.ref b1), .val (.ref b13), .val (.int v10_82), .val (.long v11_90), .second, .val (.long v13_98), .second, .val (.long v15_106), .second, .val (.long v17_114), .second, .val (.int v19_153)] [(.int (f5 v4_9 v5_20 v6_31 v7_42))])) _
      refine XS.iconst X32.here hx rfl (hb hby at_172) ?_
      show Steps p.tables e below (T32.setTop (mkF m 173 #[.val (.int p0), .val (.int p1), .val (.int p2), .val (.int p3), .val (.int v4_9), .val (.int v5_20), .val (.int v6_31), .val (.int v7_42), .val (.ref b1), .val (.ref b13), .val (.int v10_82), .val (.long v11_90), .second, .val (.long v13_98), .second, .val (.long v15_106), .second, .val (.long v17_114), .second, .val (.int v19_153)] [(.int (1 : Int32)), (.int (f5 v4_9 v5_20 v6_31 v7_42))])) _
      refine XS.goto X32.here hx rfl (pc0 := 173) (pc' := 177) rfl (hb hby at_173) (by decide) (by decide) ?_
      show Steps p.tables e below (T32.setTop (mkF m 177 #[.val (.int p0), .val (.int p1), .val (.int p2), .val (.int p3), .val (.int v4_9), .val (.int v5_20), .val (.int v6_31), .val (.int v7_42), .val (.ref b1), .val (.ref b13), .val (.int v10_82), .val (.long v11_90), .second, .val (.long v13_98), .second, .val (.long v15_106), .second, .val (.long v17_114), .second, .val (.int v19_153)] [(.int (1 : Int32)), (.int (f5 v4_9 v5_20 v6_31 v7_42))])) _
      exact k
    show Steps p.tables e below (T32.setTop (mkF m 177 #[.val (.int p0), .val (.int p1), .val (.int p2), .val (.int p3), .val (.int v4_9), .val (.int v5_20), .val (.int v6_31), .val (.int v7_42), .val (.ref b1), .val (.ref b13), .val (.int v10_82), .val (.long v11_90), .second, .val (.long v13_98), .second, .val (.long v15_106), .second, .val (.long v17_114), .second, .val (.int v19_153)] [(.int (if v19_153 = (0 : Int32) then (0 : Int32) else (1 : Int32))), (.int (f5 v4_9 v5_20 v6_31 v7_42))])) _
    exact k
  show Goes p.tables e below _ (T32.setTop (mkF m 177 #[.val (.int p0), .val (.int p1), .val (.int p2), .val (.int p3), .val (.int v4_9), .val (.int v5_20), .val (.int v6_31), .val (.int v7_42), .val (.ref b1), .val (.ref b13), .val (.int v10_82), .val (.long v11_90), .second, .val (.long v13_98), .second, .val (.long v15_106), .second, .val (.long v17_114), .second, .val (.int v19_153)] [(.int (if v10_82 = (0 : Int32) then (0 : Int32) else (if v19_153 = (0 : Int32) then (0 : Int32) else (1 : Int32)))), (.int (f5 v4_9 v5_20 v6_31 v7_42))]))
  refine Goes.step (S' := T32.setTop (mkF m 180 #[.val (.int p0), .val (.int p1), .val (.int p2), .val (.int p3), .val (.int v4_9), .val (.int v5_20), .val (.int v6_31), .val (.int v7_42), .val (.ref b1), .val (.ref b13), .val (.int v10_82), .val (.long v11_90), .second, .val (.long v13_98), .second, .val (.long v15_106), .second, .val (.long v17_114), .second, .val (.int v19_153)] [])) (fun _ k => XS.icmpNo X32.here hx rfl (hb hby at_177) rfl (teq (own_hc0_177 p0 p1 p2 p3 v4_9 ev4_9 v5_20 ev5_20 v6_31 ev6_31 v7_42 ev7_42 v10_82 ev10_82 v11_90 ev11_90 v13_98 ev13_98 v15_106 ev15_106 v17_114 ev17_114 v19_153 ev19_153)).2 k) ?_
  refine Goes.step (S' := T32.setTop (mkF m 181 #[.val (.int p0), .val (.int p1), .val (.int p2), .val (.int p3), .val (.int v4_9), .val (.int v5_20), .val (.int v6_31), .val (.int v7_42), .val (.ref b1), .val (.ref b13), .val (.int v10_82), .val (.long v11_90), .second, .val (.long v13_98), .second, .val (.long v15_106), .second, .val (.long v17_114), .second, .val (.int v19_153)] [(.int (1 : Int32))])) (fun _ k => XS.iconst X32.here hx rfl (hb hby at_180) k) ?_
  refine Goes.step (S' := T32.setTop (mkF m 185 #[.val (.int p0), .val (.int p1), .val (.int p2), .val (.int p3), .val (.int v4_9), .val (.int v5_20), .val (.int v6_31), .val (.int v7_42), .val (.ref b1), .val (.ref b13), .val (.int v10_82), .val (.long v11_90), .second, .val (.long v13_98), .second, .val (.long v15_106), .second, .val (.long v17_114), .second, .val (.int v19_153)] [(.int (1 : Int32))])) (fun _ k => XS.goto X32.here hx rfl (pc0 := 181) (pc' := 185) rfl (hb hby at_181) (by decide) (by decide) k) ?_
  refine Goes.retN X32 hx Bd.notSynchronized (t := .boolean) Bd.returns (by simp) (hb hby at_185) (by decide) (by decide) ?_
  exact ⟨rfl, N33⟩
set_option maxRecDepth 65536 in
set_option maxHeartbeats 40000000 in
theorem comes_1 {Post : Tables → Env → Array Value → State → Outcome → State → Prop} (hpost : ∀ tb e args s v u, (limb_1_1.after args s (.returned v) u = true ∧ limb_1_2.after args s (.returned v) u = true ∧ True) → FrameEnd s (.returned v) u (Jvm.fieldLocs frame_1_writes args s ++ Jvm.arrayLocs frame_1_arrays args s ++ Jvm.staticLocs frame_1_statics s) 16 128 → Post tb e args s (.returned v) u) :
    ArmFor flags0 classFile x code maxLocals ret World_1 tables_1 room_1 Calls_1 rest_1 Pre_1 Post := by
  intro l hfl _ _ p e ha hc hk s m args below hf hA hF happ hP
  obtain ⟨hcalls, hrest, hpre⟩ := hP
  obtain ⟨-, -, -, hnamed, -, -, -, hat⟩ := (Spec.applies_iff hf).mp happ
  obtain ⟨hg, hn⟩ := and_e (Cond.before_iff.mp (show (Jvm.Cond.and given_1 narrow_1).before args s = true from hpre))
  obtain ⟨gg1, gg2⟩ := and_e hg
  obtain ⟨gg3, gg4⟩ := and_e gg2
  obtain ⟨gg5, gg6⟩ := and_e gg4
  obtain ⟨gg7, gg8⟩ := and_e gg6
  obtain ⟨w0, w1, w2, w3, rfl⟩ : ∃ w0 w1 w2 w3 : Value, args = #[w0, w1, w2, w3] := by
    have hs : args.size = 4 := by simpa [Cond.value, given_1] using gg1
    obtain ⟨L⟩ := args
    match L, hs with
    | [w0, w1, w2, w3], _ => exact ⟨w0, w1, w2, w3, rfl⟩
  have hw := fun d (hd : d ∈ tables_1) => atoms_spec (ws := Jvm.Cond.code x code maxLocals ret :: tables_1) hat d (List.mem_cons_of_mem _ hd)
  obtain ⟨i0, ei0⟩ := is_v gg3
  obtain rfl : w0 = (.int i0) := Option.some.inj ei0
  obtain ⟨i1, ei1⟩ := is_v gg5
  obtain rfl : w1 = (.int i1) := Option.some.inj ei1
  obtain ⟨i2, ei2⟩ := is_v gg7
  obtain rfl : w2 = (.int i2) := Option.some.inj ei2
  obtain ⟨i3, ei3⟩ := is_v gg8
  obtain rfl : w3 = (.int i3) := Option.some.inj ei3
  obtain ⟨n, o, h1, h2, h3, _, L, rfl, ⟨rfl, N⟩, hq⟩ := rm0 l s _ hw tables_1 i0 i1 i2 i3 s.heap s.heap.size (Nat.le_refl _) p e ha hc hk s m _ below hf ((Spec.applies_iff_loose hf).mp happ).1 ⟨rfl, State.Warmed39.refl s, rfl⟩ trivial
  refine ⟨n, _, h1, h2, h3, hpost _ _ _ _ _ _ ⟨Cond.after_iff.mpr rfl, Cond.after_iff.mpr (eq_i res_at (Term.int_eval (1)) rfl), trivial⟩ ⟨hq.1, hq.2.1, (hq.2.2.sift fun y hy => Or.inr (N y hy)).mono (by decide) (by decide)⟩⟩
theorem main_1_1 : Claimed_1_1 := comes_1 fun _ _ _ _ _ _ h hF => ⟨h.1, hF⟩
theorem main_1_2 : Claimed_1_2 := comes_1 fun _ _ _ _ _ _ h hF => ⟨h.2.1, hF⟩
end Jvm.Pilot.@@N@@
namespace Jvm.Pilot.@@N@@
open Jvm Jvm.ClassFile Sem Op Lib Jvm.Free Jvm.Stand Jvm.Pilot.@@N@@.Jvm.D
/-! MADE BY PROGRAM (witnessworld.py) out of the Statement's table words and the real class files: 10 classes; the members and pool entries that the words name. The judged class is class 1, her method 1. -/
namespace start1
open Jvm.ClassFile
def u (s : String) : CpInfo := .utf8 (stringToUtf16 s)
/-- a pool by its gaps: so many unusable entries, then the entry; so many at the end -/
def gap : Nat → List CpInfo → List CpInfo
  | 0, r => r
  | n + 1, r => .unusable :: gap n r
def poolList (es : List (Nat × CpInfo)) (last : Nat) : List CpInfo := es.foldr (fun e r => gap e.1 (e.2 :: r)) (gap last [])
def pool (es : List (Nat × CpInfo)) (last : Nat) : Array CpInfo := ⟨poolList es last⟩
def fileOf (pool : Array CpInfo) (this : Nat) (attrs : Array Attribute := #[]) (ms : Array MethodInfo := #[]) (fl : Nat := 33) (sup : Nat := 0) (ifs : Array Nat := #[]) (fds : Array FieldInfo := #[]) : ClassFile where
  minorVersion := 0
  majorVersion := 65
  constantPool := pool
  accessFlags := fl
  thisClass := this
  superClass := sup
  interfaces := ifs
  fields := fds
  methods := ms
  attributes := attrs
def plain (name : String) (sup : Option ClassId) : Class where
  name := name
  kind := .ordinary
  loader := none
  accessFlags := 33
  super := sup
  interfaces := #[]
  cf := none
  fields := #[]
  methods := #[]
  instanceTypes := #[]
  staticTypes := #[]
  resolved := #[]
  callSites := []
  init := .initialized
  statics := none
  mirror := none

def pool0 : Array CpInfo := pool [(5, u "<init>"), (0, u "()V"), (1, .class_ 10), (1, u "java/lang/Object")] 113

def k0c0 : Code := { maxStack := 0, maxLocals := 1, code := object_method_1_code, exceptionTable := #[], attributes := #[] }
def k0m0 : Method := { name := "<init>", desc := "()V", sig := { parameters := [], returnType := none }, accessFlags := 1, code := some k0c0 }
/-- java/lang/Object -/
def k0 : Class := { plain "java/lang/Object" none with
  accessFlags := 33
  interfaces := #[]
  cf := some (fileOf pool0 8 #[] #[{ accessFlags := 1, nameIndex := 5, descriptorIndex := 6, attributes := #[] }] 33 0 #[] #[])
  fields := #[]
  methods := #[k0m0]
  instanceTypes := #[]
  staticTypes := #[]
  resolved := Array.replicate 124 none
  statics := none }

def pool1 : Array CpInfo := pool [(2, .class_ 4), (1, u "java/lang/Object"), (0, u "<init>"), (0, u "()V"), (0, .integer 2147483647), (0, .class_ 9), (0, u "com/example/keywarden/keywarden/core/RateLimit"), (0, .integer 1000000), (0, .integer 86400), (0, .methodref 8 13), (0, .nameAndType 5 14), (0, u "(II)V"), (0, .methodref 8 16), (0, .nameAndType 17 18), (0, u "isWithin"), (0, u "(Lcom/example/keywarden/keywarden/core/RateLimit;)Z"), (0, .class_ 20), (0, u "com/example/keywarden/keywarden/core/RateLimitIsWithinPinLaw"), (2, u "law"), (0, u "(IIII)Z")] 3

def k1m0 : Method := { name := "<init>", desc := "()V", sig := { parameters := [], returnType := none }, accessFlags := 1, code := none }
def k1c1 : Code := { maxStack := 6, maxLocals := 20, code := code, exceptionTable := #[], attributes := #[] }
def k1m1 : Method := { name := "law", desc := "(IIII)Z", sig := { parameters := [.int, .int, .int, .int], returnType := some .boolean }, accessFlags := 9, code := some k1c1 }
/-- com/example/keywarden/keywarden/core/RateLimitIsWithinPinLaw -/
def k1 : Class := { plain "com/example/keywarden/keywarden/core/RateLimitIsWithinPinLaw" (some 0) with
  accessFlags := 49
  interfaces := #[]
  cf := some (fileOf pool1 19 #[] #[{ accessFlags := 1, nameIndex := 5, descriptorIndex := 6, attributes := #[] }, { accessFlags := 9, nameIndex := 23, descriptorIndex := 24, attributes := #[] }] 49 2 #[] #[])
  fields := #[]
  methods := #[k1m0, k1m1]
  instanceTypes := #[]
  staticTypes := #[]
  resolved := Array.replicate 28 none
  statics := none }

def pool2 : Array CpInfo := pool [(1, .methodref 2 3), (0, .class_ 4), (0, .nameAndType 5 6), (0, u "java/lang/Object"), (0, u "<init>"), (0, u "()V"), (0, .class_ 8), (0, u "java/lang/Record")] 13

def k2c0 : Code := { maxStack := 1, maxLocals := 1, code := jdk_30_method_1_code, exceptionTable := #[], attributes := #[] }
def k2m0 : Method := { name := "<init>", desc := "()V", sig := { parameters := [], returnType := none }, accessFlags := 4, code := some k2c0 }
/-- java/lang/Record -/
def k2 : Class := { plain "java/lang/Record" (some 0) with
  accessFlags := 1057
  interfaces := #[]
  cf := some (fileOf pool2 7 #[] #[{ accessFlags := 4, nameIndex := 5, descriptorIndex := 6, attributes := #[] }] 1057 2 #[] #[])
  fields := #[]
  methods := #[k2m0]
  instanceTypes := #[]
  staticTypes := #[]
  resolved := Array.replicate 22 none
  statics := none }

def pool3 : Array CpInfo := pool [(1, .methodref 2 3), (0, .class_ 4), (0, .nameAndType 5 6), (0, u "java/lang/Record"), (0, u "<init>"), (0, u "()V"), (0, .methodref 8 9), (0, .class_ 10), (0, .nameAndType 11 12), (0, u "com/example/keywarden/keywarden/core/RateLimit"), (0, u "isValid"), (0, u "(JJ)Z"), (7, .fieldref 8 21), (0, .nameAndType 22 23), (0, u "limit"), (0, u "I"), (0, .fieldref 8 25), (0, .nameAndType 26 23), (0, u "windowSeconds"), (0, .long 1000000), (1, .long 86400), (13, u "MAX_LIMIT"), (2, u "MAX_WINDOW_SECONDS"), (1, u "(II)V"), (4, u "isWithin"), (0, u "(Lcom/example/keywarden/keywarden/core/RateLimit;)Z")] 24

def k3c0 : Code := { maxStack := 4, maxLocals := 3, code := prog_15_method_1_code, exceptionTable := #[], attributes := #[] }
def k3m0 : Method := { name := "<init>", desc := "(II)V", sig := { parameters := [.int, .int], returnType := none }, accessFlags := 1, code := some k3c0 }
def k3c1 : Code := { maxStack := 4, maxLocals := 4, code := prog_15_method_2_code, exceptionTable := #[], attributes := #[] }
def k3m1 : Method := { name := "isValid", desc := "(JJ)Z", sig := { parameters := [.long, .long], returnType := some .boolean }, accessFlags := 9, code := some k3c1 }
def k3c2 : Code := { maxStack := 6, maxLocals := 2, code := prog_15_method_3_code, exceptionTable := #[], attributes := #[] }
def k3m2 : Method := { name := "isWithin", desc := "(Lcom/example/keywarden/keywarden/core/RateLimit;)Z", sig := { parameters := [(.object "com/example/keywarden/keywarden/core/RateLimit")], returnType := some .boolean }, accessFlags := 1, code := some k3c2 }
/-- com/example/keywarden/keywarden/core/RateLimit -/
def k3 : Class := { plain "com/example/keywarden/keywarden/core/RateLimit" (some 2) with
  accessFlags := 49
  interfaces := #[]
  cf := some (fileOf pool3 8 #[] #[{ accessFlags := 1, nameIndex := 5, descriptorIndex := 48, attributes := #[] }, { accessFlags := 9, nameIndex := 11, descriptorIndex := 12, attributes := #[] }, { accessFlags := 1, nameIndex := 53, descriptorIndex := 54, attributes := #[] }] 49 2 #[] #[{ accessFlags := 18, nameIndex := 22, descriptorIndex := 23, attributes := #[] }, { accessFlags := 18, nameIndex := 26, descriptorIndex := 23, attributes := #[] }, { accessFlags := 25, nameIndex := 43, descriptorIndex := 23, attributes := #[] }, { accessFlags := 25, nameIndex := 46, descriptorIndex := 23, attributes := #[] }])
  fields := #[{ name := "limit", type := .int, accessFlags := 18, slot := 0, constantValue := 0 }, { name := "windowSeconds", type := .int, accessFlags := 18, slot := 1, constantValue := 0 }, { name := "MAX_LIMIT", type := .int, accessFlags := 25, slot := 0, constantValue := 0 }, { name := "MAX_WINDOW_SECONDS", type := .int, accessFlags := 25, slot := 1, constantValue := 0 }]
  methods := #[k3m0, k3m1, k3m2]
  instanceTypes := #[.int, .int]
  staticTypes := #[.int, .int]
  resolved := Array.replicate 79 none
  statics := none }

def pool4 : Array CpInfo := pool [(1, u "java/lang/Cloneable"), (0, .class_ 1), (0, u "java/lang/Object"), (0, .class_ 3)] 3

/-- java/lang/Cloneable -/
def k4 : Class := { plain "java/lang/Cloneable" (some 0) with
  accessFlags := 1537
  interfaces := #[]
  cf := some (fileOf pool4 2 #[] #[] 1537 4 #[] #[])
  fields := #[]
  methods := #[]
  instanceTypes := #[]
  staticTypes := #[]
  resolved := Array.replicate 8 none
  statics := none }

def pool5 : Array CpInfo := pool [(1, u "java/io/Serializable"), (0, .class_ 1), (0, u "java/lang/Object"), (0, .class_ 3)] 3

/-- java/io/Serializable -/
def k5 : Class := { plain "java/io/Serializable" (some 0) with
  accessFlags := 1537
  interfaces := #[]
  cf := some (fileOf pool5 2 #[] #[] 1537 4 #[] #[])
  fields := #[]
  methods := #[]
  instanceTypes := #[]
  staticTypes := #[]
  resolved := Array.replicate 8 none
  statics := none }

/-- the primitive byte -/
def k6 : Class := { plain "byte" none with kind := .primitive 'B', accessFlags := 0x411 }
/-- [B -/
def k7 : Class := { plain "[B" (some 0) with kind := .array 6 .byte, interfaces := #[4, 5], accessFlags := 1041 }

/-- the primitive int -/
def k8 : Class := { plain "int" none with kind := .primitive 'I', accessFlags := 0x411 }
/-- [I -/
def k9 : Class := { plain "[I" (some 0) with kind := .array 8 .int, interfaces := #[4, 5], accessFlags := 1041 }

def heap : Heap := #[]
def classes : Array Class := #[k0, k1, k2, k3, k4, k5, k6, k7, k8, k9]
def interned : List (Array UInt16 × Addr) := []
def slotsUsed : Nat := 0
def theMethod : MethodId := ⟨1, 1⟩
def args0 : Array Value := #[.int 5, .int 5, .int 5, .int 5]
def aboutOver (below : List Frame) : State where
  vm := { classes := classes, interned := interned.toArray }
  heap := heap
  slotsUsed := slotsUsed
  threads := #[{ frames := .invoking theMethod args0 :: below }]
def below0 : List Frame := [.native { method := ⟨0, 0⟩, args := #[] }]
def about1 : State := aboutOver below0
def p0 : Program := .bare "" "" ""
def e0 : Env := launch0.env 0 0 0
theorem w_frames : about1.frames = Frame.invoking theMethod args0 :: below0 := rfl
set_option maxRecDepth 65536 in
theorem w_args : argsFit about1.vm theMethod args0 = true := by decide +kernel
set_option maxRecDepth 65536 in
theorem w_heap : heapFits about1 = true := by decide +kernel
set_option maxRecDepth 65536 in
theorem w_runnable : about1.curStatus? = some .runnable := by decide +kernel
set_option maxRecDepth 65536 in
theorem w_alone : about1.alone = true := by decide +kernel
set_option maxRecDepth 65536 in
theorem w_named : about1.methodNamed? x = some theMethod := by decide +kernel
set_option maxRecDepth 65536 in
theorem w_hears : about1.hears theMethod below0 = true := by decide +kernel
set_option maxRecDepth 65536 in
theorem w_ripe : about1.ripe theMethod args0 below0 = true := by decide +kernel
theorem w_running : about1.status = .running := rfl
set_option maxRecDepth 65536 in
theorem w_room : about1.hasRoom e0.platform room_1 = true :=
  launch0.hasRoom_least _ room_1 (by decide +kernel) (by decide +kernel) (by decide +kernel) (by decide +kernel) (by decide +kernel) (by decide +kernel)
theorem allAtoms_all (ts : List Jvm.Cond) (a : Array Jvm.Value) (st : Jvm.State) : (allAtoms ts).before a st = ts.all (fun c => c.before a st) := by
  induction ts with
  | nil => rfl
  | cons c t ih =>
    show (Jvm.Cond.and c (allAtoms t)).before a st = _
    rw [Jvm.Cond.before_and, ih, List.all_cons]
def words1 : List Jvm.Cond := Jvm.Cond.code x code maxLocals ret :: tables_1
/-- a 'code' word, met by the world's own term for the bytes: nothing is compared byte by byte -/
theorem code_word {y : MethodName} {bytes : ByteArray} {mx : Nat} {rt : Option FieldType} {a : Array Value} {s : State} {m : MethodId} {meth : Method} {c : Code} (h1 : s.methodNamed? y = some m) (h2 : s.vm.method? m = some meth) (h3 : meth.code = some c) (h4 : c.code = bytes)
    (h5 : (c.maxLocals == mx && c.exceptionTable.isEmpty && decide (c.maxStack ≤ mostOperands) && decide (meth.sig.returnType = rt) && !meth.locks && decide (parseMethodDescriptor y.desc = some meth.sig)) = true) : (Jvm.Cond.code y bytes mx rt).before a s = true := by
  simp only [Bool.and_eq_true, beq_iff_eq, Bool.not_eq_true', decide_eq_true_eq] at h5
  obtain ⟨⟨⟨⟨⟨g1, g2⟩, g3⟩, g4⟩, g5⟩, g6⟩ := h5
  simp [Cond.before, Cond.holds, Cond.value, h1, h2, h3, h4, g1, g2, g3, g4, g5, g6]
def isCode : Jvm.Cond → Bool
  | .code _ _ _ _ => true
  | _ => false
theorem all_split {L : List Jvm.Cond} {P : Jvm.Cond → Bool} (h1 : L.all (fun c => isCode c || P c) = true) (h2 : ∀ c ∈ L.filter isCode, P c = true) : L.all P = true := by
  refine List.all_eq_true.mpr fun c hc => ?_
  have h := List.all_eq_true.mp h1 c hc
  rcases Bool.eq_false_or_eq_true (isCode c) with hi | hi
  · exact h2 c (List.mem_filter.mpr ⟨hc, hi⟩)
  · simpa [hi] using h
set_option maxRecDepth 65536 in
theorem w_c0 : (Jvm.Cond.code x code maxLocals ret).before args0 about1 = true := code_word (m := ⟨1, 1⟩) (meth := k1m1) (c := k1c1) (by decide +kernel) rfl rfl rfl (by decide +kernel)
set_option maxRecDepth 65536 in
theorem w_c1 : (Jvm.Cond.code ({ cls := "com/example/keywarden/keywarden/core/RateLimit", name := "<init>", desc := "(II)V" } : Jvm.MethodName) prog_15_method_1_code (3 : Nat) (Option.none : Option Jvm.ClassFile.FieldType)).before args0 about1 = true := code_word (m := ⟨3, 0⟩) (meth := k3m0) (c := k3c0) (by decide +kernel) rfl rfl rfl (by decide +kernel)
set_option maxRecDepth 65536 in
theorem w_c2 : (Jvm.Cond.code ({ cls := "java/lang/Record", name := "<init>", desc := "()V" } : Jvm.MethodName) jdk_30_method_1_code (1 : Nat) (Option.none : Option Jvm.ClassFile.FieldType)).before args0 about1 = true := code_word (m := ⟨2, 0⟩) (meth := k2m0) (c := k2c0) (by decide +kernel) rfl rfl rfl (by decide +kernel)
set_option maxRecDepth 65536 in
theorem w_c3 : (Jvm.Cond.code ({ cls := "java/lang/Object", name := "<init>", desc := "()V" } : Jvm.MethodName) object_method_1_code (1 : Nat) (Option.none : Option Jvm.ClassFile.FieldType)).before args0 about1 = true := code_word (m := ⟨0, 0⟩) (meth := k0m0) (c := k0c0) (by decide +kernel) rfl rfl rfl (by decide +kernel)
set_option maxRecDepth 65536 in
theorem w_c4 : (Jvm.Cond.code ({ cls := "com/example/keywarden/keywarden/core/RateLimit", name := "isValid", desc := "(JJ)Z" } : Jvm.MethodName) prog_15_method_2_code (4 : Nat) (Option.some Jvm.ClassFile.FieldType.boolean)).before args0 about1 = true := code_word (m := ⟨3, 1⟩) (meth := k3m1) (c := k3c1) (by decide +kernel) rfl rfl rfl (by decide +kernel)
set_option maxRecDepth 65536 in
theorem w_c5 : (Jvm.Cond.code ({ cls := "com/example/keywarden/keywarden/core/RateLimit", name := "isWithin", desc := "(Lcom/example/keywarden/keywarden/core/RateLimit;)Z" } : Jvm.MethodName) prog_15_method_3_code (2 : Nat) (Option.some Jvm.ClassFile.FieldType.boolean)).before args0 about1 = true := code_word (m := ⟨3, 2⟩) (meth := k3m2) (c := k3c2) (by decide +kernel) rfl rfl rfl (by decide +kernel)
def codes1 : List Jvm.Cond := [Jvm.Cond.code x code maxLocals ret, Jvm.Cond.code ({ cls := "com/example/keywarden/keywarden/core/RateLimit", name := "<init>", desc := "(II)V" } : Jvm.MethodName) prog_15_method_1_code (3 : Nat) (Option.none : Option Jvm.ClassFile.FieldType), Jvm.Cond.code ({ cls := "java/lang/Record", name := "<init>", desc := "()V" } : Jvm.MethodName) jdk_30_method_1_code (1 : Nat) (Option.none : Option Jvm.ClassFile.FieldType), Jvm.Cond.code ({ cls := "java/lang/Object", name := "<init>", desc := "()V" } : Jvm.MethodName) object_method_1_code (1 : Nat) (Option.none : Option Jvm.ClassFile.FieldType), Jvm.Cond.code ({ cls := "com/example/keywarden/keywarden/core/RateLimit", name := "isValid", desc := "(JJ)Z" } : Jvm.MethodName) prog_15_method_2_code (4 : Nat) (Option.some Jvm.ClassFile.FieldType.boolean), Jvm.Cond.code ({ cls := "com/example/keywarden/keywarden/core/RateLimit", name := "isWithin", desc := "(Lcom/example/keywarden/keywarden/core/RateLimit;)Z" } : Jvm.MethodName) prog_15_method_3_code (2 : Nat) (Option.some Jvm.ClassFile.FieldType.boolean)]
set_option maxRecDepth 65536 in
theorem codes_eq : words1.filter isCode = codes1 := rfl
theorem w_codes : ∀ c ∈ words1.filter isCode, c.before args0 about1 = true := by
  rw [codes_eq]
  intro c hc
  simp only [codes1, List.mem_cons, List.not_mem_nil, or_false] at hc
  rcases hc with rfl | rfl | rfl | rfl | rfl | rfl
  · exact w_c0
  · exact w_c1
  · exact w_c2
  · exact w_c3
  · exact w_c4
  · exact w_c5
set_option maxRecDepth 65536 in
theorem w_t1 : (words1.take 24).all (fun c => isCode c || c.before args0 about1) = true := by decide +kernel
set_option maxRecDepth 65536 in
theorem w_t2 : (words1.drop 24).all (fun c => isCode c || c.before args0 about1) = true := by decide +kernel
theorem w_tables : (allAtoms (Jvm.Cond.code x code maxLocals ret :: tables_1)).before args0 about1 = true := by
  rw [allAtoms_all]
  show words1.all (fun c => c.before args0 about1) = true
  refine all_split ?_ w_codes
  rw [← List.take_append_drop 24 words1, List.all_append, w_t1, w_t2]
  rfl
set_option maxRecDepth 65536 in
theorem w_case : (Jvm.Cond.and given_1 narrow_1).before args0 about1 = true := by decide +kernel
theorem w_applies : (headSpec (Jvm.Cond.code x code maxLocals ret :: tables_1) room_1).applies x e0.platform about1 = true :=
  (Spec.applies_iff w_frames).mpr ⟨w_running, w_runnable, w_alone, w_named, w_hears, w_ripe, w_room, w_tables⟩
theorem atStart : AtStart classFile x code maxLocals ret World_1 tables_1 room_1 Calls_1 rest_1 Pre_1 launch0 p0 e0 about1 theMethod args0 below0 :=
  ⟨lists_1, trivial, launch0.admits_env _ _ _, launch0.least_env, fairChoices_fair.cas, fairChoices_fair.clock, w_frames, w_args, w_heap, w_applies, trivial, trivial, w_case⟩
end start1
theorem witness_1 : WitnessClaimed_1 := ⟨start1.p0, start1.e0, start1.about1, start1.theMethod, start1.args0, start1.below0, start1.atStart⟩
end Jvm.Pilot.@@N@@
