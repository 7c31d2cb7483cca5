import JvmDerived
import JvmDerived.Pilot.@@N@@Statement
import JvmDerived.Pilot.@@N@@Code
set_option linter.unusedVariables false
set_option linter.unusedSimpArgs false
namespace Jvm.RoadKit
open Sem ClassFile Op Lib Jvm.Stand Jvm.Free Jvm.LawKit
section New
variable {p : Program} {l : Launch} {e : Env} {R : Room} {s : State} {m : MethodId} {args : Array Value} {below : List Frame} {meth : Method} {c : Code} {T : State} {locs : List Loc} {cells slots : Nat}
theorem retI (X : Stand p l e R s m args below meth c T locs cells slots) (hx : p.tables.exec = Jvm.exec) {pc : Nat} {Ls : Array Slot} {z : Int32} {rest : List Value} (hret : meth.sig.returnType = some .int) (hd : decode c.code pc = .ok (.ireturn, 1)) {fs : List Frame}
    (hl : ∀ (f : JFrame) (acts : List Action), f.method = m → f.locked = none → f.entered = [] → (doReturn e (T.setTop f) acts (some (.int z))).1 = T.setFrames fs) : Steps p.tables e below (T.setTop (mkF m pc Ls (.int z :: rest))) (T.setFrames fs) := by
  have hm' : T.vm.method? m = some meth := X.method'
  have hn : narrow .int (.int z) = .int z := rfl
  show Steps p.tables e below (T.setTop { method := m, pc := pc, locals := Ls, stack := _ :: rest, locked := none }) _
  jvm_step X.here [X.here.top, hx, hd, hm', hret, hn]
  first | (intro acts; rw [hl _ acts rfl rfl rfl]) | rw [hl _ _ rfl rfl rfl]
  exact Steps.refl _
end New
end Jvm.RoadKit
namespace Jvm.Pilot.@@N@@
open Jvm Jvm.ClassFile Sem Op Lib Jvm.Free Jvm.Stand Jvm.LawKit Jvm.RoadKit Bundle Jvm.Pilot.@@N@@.Jvm.D
/-! MY OWN LAYER, 1: a walk in forward style -/
/-- from the state S the run ends, and Q holds of the end -/
def Goes (tb : Tables) (e : Env) (below : List Frame) (Q : Outcome → State → Prop) (S : State) : Prop :=
  ∃ s₂ o, Steps tb e below S s₂ ∧ s₂.status = .running ∧ Ended s₂ below o ∧ Q o s₂
theorem Goes.out {tb : Tables} {e : Env} {below : List Frame} {Q : Outcome → State → Prop} {S : State} (h : Goes tb e below Q S) :
    ∃ s₂ o, Steps tb e below S s₂ ∧ s₂.status = .running ∧ Ended s₂ below o ∧ Q o s₂ := h
theorem Goes.step {tb : Tables} {e : Env} {below : List Frame} {Q : Outcome → State → Prop} {S S' : State}
    (h : ∀ t, Steps tb e below S' t → Steps tb e below S t) (k : Goes tb e below Q S') : Goes tb e below Q S := by
  obtain ⟨s₂, o, h1, h2⟩ := k
  exact ⟨s₂, o, h _ h1, h2⟩
section Ites
variable {tb : Tables} {e : Env} {below : List Frame} {T S : State} {c : Prop} [Decidable c]
theorem own_ite0 {F : JFrame} (hy : c → ∀ t, Steps tb e below (T.setTop F) t → Steps tb e below S t) (hn : ¬ c → ∀ t, Steps tb e below (T.setTop F) t → Steps tb e below S t) :
    ∀ t, Steps tb e below (T.setTop F) t → Steps tb e below S t := fun t k => by
  by_cases h : c
  · exact hy h t k
  · exact hn h t k
theorem own_ite1 {A0 : Type} {a0 b0 : A0} {F : A0 → JFrame} (hy : c → ∀ t, Steps tb e below (T.setTop (F a0)) t → Steps tb e below S t) (hn : ¬ c → ∀ t, Steps tb e below (T.setTop (F b0)) t → Steps tb e below S t) :
    ∀ t, Steps tb e below (T.setTop (F (if c then a0 else b0))) t → Steps tb e below S t := fun t k => by
  by_cases h : c
  · rw [if_pos h] at k; exact hy h t k
  · rw [if_neg h] at k; exact hn h t k
theorem own_ite2 {A0 A1 : Type} {a0 b0 : A0} {a1 b1 : A1} {F : A0 → A1 → JFrame} (hy : c → ∀ t, Steps tb e below (T.setTop (F a0 a1)) t → Steps tb e below S t) (hn : ¬ c → ∀ t, Steps tb e below (T.setTop (F b0 b1)) t → Steps tb e below S t) :
    ∀ t, Steps tb e below (T.setTop (F (if c then a0 else b0) (if c then a1 else b1))) t → Steps tb e below S t := fun t k => by
  by_cases h : c
  · rw [if_pos h, if_pos h] at k; exact hy h t k
  · rw [if_neg h, if_neg h] at k; exact hn h t k
theorem own_ite3 {A0 A1 A2 : Type} {a0 b0 : A0} {a1 b1 : A1} {a2 b2 : A2} {F : A0 → A1 → A2 → JFrame} (hy : c → ∀ t, Steps tb e below (T.setTop (F a0 a1 a2)) t → Steps tb e below S t) (hn : ¬ c → ∀ t, Steps tb e below (T.setTop (F b0 b1 b2)) t → Steps tb e below S t) :
    ∀ t, Steps tb e below (T.setTop (F (if c then a0 else b0) (if c then a1 else b1) (if c then a2 else b2))) t → Steps tb e below S t := fun t k => by
  by_cases h : c
  · rw [if_pos h, if_pos h, if_pos h] at k; exact hy h t k
  · rw [if_neg h, if_neg h, if_neg h] at k; exact hn h t k
end Ites
section Rets
variable {p : Program} {l : Launch} {e : Env} {R : Room} {s : State} {m : MethodId} {args : Array Value} {below : List Frame} {meth : Method} {c : Code} {T : State} {locs : List Loc} {cells slots : Nat}
variable {QQ : Option Value → Heap → List Loc → Prop} {C0 S0 : Nat} {pc : Nat} {Ls : Array Slot} {rest : List Value}
theorem Goes.retN (X : Stand p l e R s m args below meth c T locs cells slots) (hx : p.tables.exec = Jvm.exec) (hlk : meth.locks = false) {t : FieldType} {z : Int32} (hret : meth.sig.returnType = some t) (ht : t = .boolean ∨ t = .byte ∨ t = .char ∨ t = .short)
    (hd : decode c.code pc = .ok (.ireturn, 1)) (hC : cells ≤ C0) (hS : slots ≤ S0) (hQ : QQ (some (.int (nar t z))) T.heap locs) :
    Goes p.tables e below (fun o U' => ∃ v L, o = .returned v ∧ QQ v U'.heap L ∧ FrameEnd s o U' L C0 S0) (T.setTop (mkF m pc Ls (.int z :: rest))) := by
  obtain ⟨fs, hr, hrun, hended, hW, hsame⟩ := X.leave (v := some (.int (nar t z))) (fun h => by rw [hret] at h; cases h) hlk
  exact ⟨_, _, Jvm.RoadKit.retN X hx hret ht hd hr, hrun, hended, _, _, rfl, hQ, ⟨_, rfl⟩, hW, hsame.mono hC hS⟩
theorem Goes.retI (X : Stand p l e R s m args below meth c T locs cells slots) (hx : p.tables.exec = Jvm.exec) (hlk : meth.locks = false) {z : Int32} (hret : meth.sig.returnType = some .int)
    (hd : decode c.code pc = .ok (.ireturn, 1)) (hC : cells ≤ C0) (hS : slots ≤ S0) (hQ : QQ (some (.int z)) T.heap locs) :
    Goes p.tables e below (fun o U' => ∃ v L, o = .returned v ∧ QQ v U'.heap L ∧ FrameEnd s o U' L C0 S0) (T.setTop (mkF m pc Ls (.int z :: rest))) := by
  obtain ⟨fs, hr, hrun, hended, hW, hsame⟩ := X.leave (v := some (.int z)) (fun h => by rw [hret] at h; cases h) hlk
  exact ⟨_, _, Jvm.RoadKit.retI X hx hret hd hr, hrun, hended, _, _, rfl, hQ, ⟨_, rfl⟩, hW, hsame.mono hC hS⟩
theorem Goes.retJ (X : Stand p l e R s m args below meth c T locs cells slots) (hx : p.tables.exec = Jvm.exec) (hlk : meth.locks = false) {z : Int64} (hret : meth.sig.returnType = some .long)
    (hd : decode c.code pc = .ok (.lreturn, 1)) (hC : cells ≤ C0) (hS : slots ≤ S0) (hQ : QQ (some (.long z)) T.heap locs) :
    Goes p.tables e below (fun o U' => ∃ v L, o = .returned v ∧ QQ v U'.heap L ∧ FrameEnd s o U' L C0 S0) (T.setTop (mkF m pc Ls (.long z :: rest))) := by
  obtain ⟨fs, hr, hrun, hended, hW, hsame⟩ := X.leave (v := some (.long z)) (fun h => by rw [hret] at h; cases h) hlk
  refine ⟨_, _, ?_, hrun, hended, _, _, rfl, hQ, ⟨_, rfl⟩, hW, hsame.mono hC hS⟩
  jvm_step X.here [X.here.top, hx, hd, X.method', hret, narrow]
  first | (intro acts; rw [hr _ acts rfl rfl rfl]) | rw [hr _ _ rfl rfl rfl]
  exact Steps.refl _
theorem Goes.retA (X : Stand p l e R s m args below meth c T locs cells slots) (hx : p.tables.exec = Jvm.exec) (hlk : meth.locks = false) {a : Addr} {t : FieldType} (hret : meth.sig.returnType = some t) (ht : t.isReference = true)
    (hd : decode c.code pc = .ok (.areturn, 1)) (hC : cells ≤ C0) (hS : slots ≤ S0) (hQ : QQ (some (.ref a)) T.heap locs) :
    Goes p.tables e below (fun o U' => ∃ v L, o = .returned v ∧ QQ v U'.heap L ∧ FrameEnd s o U' L C0 S0) (T.setTop (mkF m pc Ls (.ref a :: rest))) := by
  obtain ⟨fs, hr, hrun, hended, hW, hsame⟩ := X.leave (v := some (.ref a)) (fun h => by rw [hret] at h; cases h) hlk
  refine ⟨_, _, ?_, hrun, hended, _, _, rfl, hQ, ⟨_, rfl⟩, hW, hsame.mono hC hS⟩
  jvm_step X.here [X.here.top, hx, hd, X.method', hret, Value.isRef, ht]
  first | (intro acts; rw [hr _ acts rfl rfl rfl]) | rw [hr _ _ rfl rfl rfl]
  exact Steps.refl _
theorem Goes.retV (X : Stand p l e R s m args below meth c T locs cells slots) (hx : p.tables.exec = Jvm.exec) (hlk : meth.locks = false) (hret : meth.sig.returnType = none)
    (hd : decode c.code pc = .ok (.return_, 1)) (hC : cells ≤ C0) (hS : slots ≤ S0) (hQ : QQ none T.heap locs) :
    Goes p.tables e below (fun o U' => ∃ v L, o = .returned v ∧ QQ v U'.heap L ∧ FrameEnd s o U' L C0 S0) (T.setTop (mkF m pc Ls [])) := by
  obtain ⟨fs, hr, hrun, hended, hW, hsame⟩ := X.leave (v := none) (fun _ => rfl) hlk
  exact ⟨_, _, X.returnOut hx hret hd hr, hrun, hended, _, _, rfl, hQ, ⟨_, rfl⟩, hW, hsame.mono hC hS⟩
theorem own_lrem {g : JFrame} {target : State} (X : Stand p l e R s m args below meth c T locs cells slots) (hx : p.tables.exec = Jvm.exec) (hg : g.method = m) {x y : Int64} {rest : List Value} (hd : decode c.code g.pc = .ok (.lrem, 1)) (hs : g.stack = .long y :: .long x :: rest) (hy : y ≠ 0)
    (hr : Steps p.tables e below (T.setTop { g with pc := g.pc + 1, stack := .long (x % y) :: rest }) target) : Steps p.tables e below (T.setTop g) target :=
  XS.lrem X.here hx hg hd hs hy (by rw [lrem_mod]; exact hr)
end Rets
/-! MY OWN LAYER, 2: an array of ints (bytes, chars ..) by the list of its values, whole -/
def AI (Z : State) (h : Heap) (a : Addr) (k : ClassId) (ty : FieldType) (n : Int32) (vs : List Int32) : Prop :=
  Arv Z h a k ty n (vs.map Value.int) (.int 0) ∧ vs.length = n.toNatClampNeg
section Arrays
variable {p : Program} {l : Launch} {e : Env} {R : Room} {s : State} {m : MethodId} {args : Array Value} {below : List Frame} {meth : Method} {c : Code} {T : State} {locs : List Loc} {cells slots : Nat}
variable {Z : State} {h h' : Heap} {a b : Addr} {k : ClassId} {ty : FieldType} {n : Int32} {vs : List Int32} {sl : Nat} {v : Value} {ws : List Addr}
theorem AI.lt (F : AI Z h a k ty n vs) : a < h.size := F.1.lt
theorem AI.nn (F : AI Z h a k ty n vs) : ¬ n < 0 := by obtain ⟨⟨c, -, -, -, q, -⟩, -⟩ := F; exact q
theorem AI.ext (F : AI Z h a k ty n vs) (E : Ext h h') : AI Z h' a k ty n vs := ⟨F.1.ext E, F.2⟩
theorem AI.other (F : AI Z h b k ty n vs) (W : Wr h h' a sl v) (q : b ≠ a) : AI Z h' b k ty n vs := ⟨F.1.other W q, F.2⟩
theorem AI.keep (F : AI Z h a k ty n vs) (K : Keep h h' ws) (q : a ∉ ws) : AI Z h' a k ty n vs := ⟨F.1.keep K q, F.2⟩
theorem own_getD (vs : List Int32) (i : Nat) : (vs.map Value.int).getD i (.int 0) = .int (vs.getD i 0) := by
  simp only [List.getD_eq_getElem?_getD, List.getElem?_map]
  cases vs[i]? <;> rfl
theorem own_new {q : Int32} (A : Arr Z h a (newA k ty q) ty) (hq : ¬ q < 0) (hd : defaultValue ty = .int 0) {vs : List Int32} (hv : vs = List.replicate q.toNatClampNeg 0 := by rfl) : AI Z h a k ty q vs := by
  subst hv
  have V := Arv.new A hq
  rw [hd] at V
  refine ⟨?_, by simp⟩
  have q1 := V.pad (pad_rep [] (.int 0) q.toNatClampNeg)
  rw [List.nil_append] at q1
  rw [List.map_replicate]; exact q1
theorem own_inb {cl : Cell} {j : Int32} (S : cl.slots.size = n.toNatClampNeg) (q : ¬ j < 0 ∧ j < n) : ¬ (j < 0 ∨ cl.slots.size ≤ j.toNatClampNeg) := inb_of S q
theorem own_jlt {j : Int32} (q : ¬ j < 0 ∧ j < n) : j.toNatClampNeg < n.toNatClampNeg := by
  obtain ⟨q1, q2⟩ := q
  rw [Int32.lt_iff_toInt_lt] at q1 q2
  have e0 : (0 : Int32).toInt = 0 := rfl
  simp only [Int32.toNatClampNeg] at *; omega
theorem own_iaload {pc : Nat} {Ls : Array Slot} {rest : List Value} {j : Int32} (X : Stand p l e R s m args below meth c T locs cells slots) (hx : p.tables.exec = Jvm.exec) (hZ : Z.Warmed39 s.vm) (eT : T.heap = h) (F : AI Z h a k .int n vs) (hj : ¬ j < 0 ∧ j < n)
    (hd : decode c.code pc = .ok (.iaload, 1)) (t : State) (kk : Steps p.tables e below (T.setTop (mkF m (pc + 1) Ls (.int (vs.getD j.toNatClampNeg 0) :: rest))) t) : Steps p.tables e below (T.setTop (mkF m pc Ls (.int j :: .ref a :: rest))) t := by
  obtain ⟨⟨cl, A, -, S, -, H, -⟩, hl⟩ := F
  have hin := own_inb S hj
  exact X.iaload hx (j := j) (v := .int (vs.getD j.toNatClampNeg 0)) (by rw [eT]; exact A.1) (State.isArrayOf_alike hZ.alike A.2.1) A.2.2 hin (H.at hin (own_getD _ _)) (g := mkF m pc Ls (.int j :: .ref a :: rest)) rfl rfl hd _ kk
theorem own_baload {pc : Nat} {Ls : Array Slot} {rest : List Value} {j : Int32} (X : Stand p l e R s m args below meth c T locs cells slots) (hx : p.tables.exec = Jvm.exec) (hZ : Z.Warmed39 s.vm) (eT : T.heap = h) (F : AI Z h a k .byte n vs) (hj : ¬ j < 0 ∧ j < n)
    (hd : decode c.code pc = .ok (.baload, 1)) (t : State) (kk : Steps p.tables e below (T.setTop (mkF m (pc + 1) Ls (.int (vs.getD j.toNatClampNeg 0) :: rest))) t) : Steps p.tables e below (T.setTop (mkF m pc Ls (.int j :: .ref a :: rest))) t := by
  obtain ⟨⟨cl, A, -, S, -, H, -⟩, hl⟩ := F
  have hin := own_inb S hj
  exact X.baloadBytes hx (j := j) (v := .int (vs.getD j.toNatClampNeg 0)) (by rw [eT]; exact A.1) (State.isArrayOf_alike hZ.alike A.2.1) A.2.2 hin (H.at hin (own_getD _ _)) (g := mkF m pc Ls (.int j :: .ref a :: rest)) rfl rfl hd _ kk
theorem own_len {pc : Nat} {Ls : Array Slot} {rest : List Value} (X : Stand p l e R s m args below meth c T locs cells slots) (hx : p.tables.exec = Jvm.exec) (hZ : Z.Warmed39 s.vm) (eT : T.heap = h) (F : AI Z h a k ty n vs)
    (hd : decode c.code pc = .ok (.arraylength, 1)) (t : State) (kk : Steps p.tables e below (T.setTop (mkF m (pc + 1) Ls (.int n :: rest))) t) : Steps p.tables e below (T.setTop (mkF m pc Ls (.ref a :: rest))) t := by
  obtain ⟨⟨cl, A, -, S, N, H, -⟩, hl⟩ := F
  refine X.arraylength hx (by rw [eT]; exact A.1) (State.isArrayOf_alike hZ.alike A.2.1) (g := mkF m pc Ls (.ref a :: rest)) rfl rfl hd _ ?_
  rw [len_of S N]; exact kk
theorem own_iastore {j x : Int32} (X : Stand p l e R s m args below meth c T locs cells slots) (hx : p.tables.exec = Jvm.exec) (hZ : Z.Warmed39 s.vm) (eT : T.heap = h) (F : AI Z h a k .int n vs) (hj : ¬ j < 0 ∧ j < n) {g : JFrame} (hg : g.method = m) {rest : List Value} (hs : g.stack = .int x :: .int j :: .ref a :: rest) (hd : decode c.code g.pc = .ok (.iastore, 1)) :
    ∃ T' h', Stand p l e R s m args below meth c T' (locs ++ [⟨a, j.toNatClampNeg⟩]) cells slots ∧ T'.heap = h' ∧ Wr h h' a j.toNatClampNeg (.int x) ∧ AI Z h' a k .int n (vs.set j.toNatClampNeg x) ∧ ∀ target, Steps p.tables e below (T'.setTop { g with pc := g.pc + 1, stack := rest }) target → Steps p.tables e below (T.setTop g) target := by
  obtain ⟨⟨cl, A, q1, S, N, H, G⟩, hl⟩ := F
  obtain ⟨T', h', X', e', W, st⟩ := stI X hx hZ eT A (own_inb S hj) hg hs hd
  refine ⟨T', h', X', e', W, ⟨?_, by simpa using hl⟩, st⟩
  rw [List.map_set]
  exact Arv.set A q1 S N H G rfl W _ rfl (by rw [List.length_map, hl]; exact own_jlt hj)
theorem own_bastore {j x : Int32} (X : Stand p l e R s m args below meth c T locs cells slots) (hx : p.tables.exec = Jvm.exec) (hZ : Z.Warmed39 s.vm) (eT : T.heap = h) (F : AI Z h a k .byte n vs) (hj : ¬ j < 0 ∧ j < n) {g : JFrame} (hg : g.method = m) {rest : List Value} (hs : g.stack = .int x :: .int j :: .ref a :: rest) (hd : decode c.code g.pc = .ok (.bastore, 1)) :
    ∃ T' h', Stand p l e R s m args below meth c T' (locs ++ [⟨a, j.toNatClampNeg⟩]) cells slots ∧ T'.heap = h' ∧ Wr h h' a j.toNatClampNeg (.int (nar .byte x)) ∧ AI Z h' a k .byte n (vs.set j.toNatClampNeg (nar .byte x)) ∧ ∀ target, Steps p.tables e below (T'.setTop { g with pc := g.pc + 1, stack := rest }) target → Steps p.tables e below (T.setTop g) target := by
  obtain ⟨⟨cl, A, q1, S, N, H, G⟩, hl⟩ := F
  obtain ⟨T', h', X', e', W, st⟩ := stB X hx hZ eT A (own_inb S hj) hg hs hd
  refine ⟨T', h', X', e', W, ⟨?_, by simpa using hl⟩, st⟩
  rw [List.map_set]
  exact Arv.set A q1 S N H G (fits_nar_byte _) W _ rfl (by rw [List.length_map, hl]; exact own_jlt hj)
end Arrays
/-! MY OWN LAYER, 3: numbers -/
theorem own_b255 (x : Int32) : (nar .byte (x.toInt8.toInt32)) &&& 255 = x &&& 255 := by
  have a := c_i2b x
  have b := c_i2b x.toInt8.toInt32
  have m1 : ((x.toInt8.toInt32.toInt8.toInt32) &&& 255).toInt = (x.toInt8.toInt32.toInt8.toInt32).toInt % 256 := c_mask _ 255 8 (by decide) (by decide)
  have m2 : (x &&& 255).toInt = x.toInt % 256 := c_mask _ 255 8 (by decide) (by decide)
  apply Int32.toInt_inj.mp
  show ((x.toInt8.toInt32.toInt8.toInt32) &&& 255).toInt = _
  omega
theorem own_m255 (x : Int32) : (x &&& 255).toInt = x.toInt % 256 := c_mask _ 255 8 (by decide) (by decide)
theorem own_or8 (a b : Int32) (h1 : 0 ≤ a.toInt) (h2 : a.toInt < 256) (h3 : 0 ≤ b.toInt) (h4 : b.toInt < 256) : ((a <<< ((8 : Int32) &&& 31)) ||| b).toInt = a.toInt * 256 + b.toInt := by
  have s : ((a <<< ((8 : Int32) &&& 31)).toInt - a.toInt * 256) % 4294967296 = 0 := c_ishl a 8 8 (by decide)
  have r := rng32 (a <<< ((8 : Int32) &&& 31))
  have e : (a <<< ((8 : Int32) &&& 31)).toInt = a.toInt * 256 := by omega
  have o := c_or (a <<< ((8 : Int32) &&& 31)) b 8 (by decide) 256 (by decide) (by omega) h3 h4
  have r2 := rng32 ((a <<< ((8 : Int32) &&& 31)) ||| b)
  omega
theorem own_nar0 : nar .boolean 0 = 0 := by decide
theorem own_nar1 : nar .boolean 1 = 1 := by decide
theorem d2_0 : decode jdk_30_method_1_code 0 = .ok (.aload_n 0, 1) := by decide +kernel
theorem d2_1 : decode jdk_30_method_1_code 1 = .ok (.invokespecial 1, 3) := by decide +kernel
theorem d2_4 : decode jdk_30_method_1_code 4 = .ok (.return_, 1) := by decide +kernel
theorem pn0 : plainName "java/lang/Record" = true := by first | (simp [plainName, overriddenIn]; done) | decide +kernel
theorem ef2 (m : MethodId) (u0 : Addr) : entryFrame m #[(.ref u0)] 1 = mkF m 0 #[.val (.ref u0)] [] := by first | (simp [entryFrame, mkF, argsToLocals, Value.category]; done) | rfl
def Q2 (Z : State) (u0 : Addr) (h0 : Heap) (n0 : Nat) (v : Option Value) (h : Heap) (L : List Loc) : Prop := v = none ∧ Fr n0 L ∧ h = h0
set_option maxRecDepth 65536 in
set_option maxHeartbeats 40000000 in
theorem rm2 (l : Launch) (Z : State) (a0 : Array Value) (hw : ∀ d ∈ tables_1, d.before a0 Z = true) (ws : List Jvm.Cond) (u0 : Addr) (h0 : Heap) (n0 : Nat) (Z0 : n0 ≤ h0.size) :
    MetFree l (⟨"java/lang/Record", "<init>", "()V"⟩ : MethodName) (head1 (Jvm.Cond.code (⟨"java/lang/Record", "<init>", "()V"⟩ : MethodName) jdk_30_method_1_code 1 none :: ws) ({ frames := 1, cells := 0, slots := 0, locals := 12 } : Room)) (fun a U => a = #[(.ref u0)] ∧ Z.Warmed39 U.vm ∧ U.heap = h0) (fun _ _ _ _ _ => True) (fun _ U o U' => ∃ v L, o = .returned v ∧ Q2 Z u0 h0 n0 v U'.heap L ∧ FrameEnd U o U' L ({ frames := 1, cells := 0, slots := 0, locals := 12 } : Room).cells ({ frames := 1, cells := 0, slots := 0, locals := 12 } : Room).slots) := by
  refine MetFree.of_bodySF (plainFor_of_name pn0) hisR ?_
  intro p e s m args below meth c s₁ Bd hml0 hP hK
  obtain ⟨rfl, hZ, hh⟩ := hP
  have hx := Bd.exec
  have hby := Bd.bytes
  have hml : c.maxLocals = 1 := hml0
  have hown : s.vm.findClass "java/lang/Record" = some m.cls := findClass_of_methodNamed Bd.named
  have hnm := (name_of_methodNamed Bd.named Bd.method).1
  have X0 : Stand p l e ({ frames := 1, cells := 0, slots := 0, locals := 12 } : Room) s m #[(.ref u0)] below meth c s₁ [] 0 0 := Stand.of_body Bd
  have e0 : s₁.heap = h0 := by rw [← hh, Bd.state]; rfl
  have N0 := Fr.nil n0
  refine Goes.out (Q := fun o U' => ∃ v L, o = .returned v ∧ Q2 Z u0 h0 n0 v U'.heap L ∧ FrameEnd s o U' L ({ frames := 1, cells := 0, slots := 0, locals := 12 } : Room).cells ({ frames := 1, cells := 0, slots := 0, locals := 12 } : Room).slots) ?_
  refine Goes.step (S' := s₁.setTop (mkF m 0 #[.val (.ref u0)] [])) (fun _ k => castTop (ef2 m u0) k) ?_
  refine Goes.step (S' := s₁.setTop (mkF m 1 #[.val (.ref u0)] [(.ref u0)])) (fun _ k => XS.aloadN X0.here hx rfl (hb hby d2_0) rfl rfl k) ?_
  obtain ⟨T1, X1, e1, st1⟩ := initO X0 hx hZ hown (hw _ (List.mem_of_getElem? (i := 12) rfl)) (hw _ (List.mem_of_getElem? (i := 13) rfl)) (hw _ (List.mem_of_getElem? (i := 14) rfl)) e0 (g := (mkF m 1 #[.val (.ref u0)] [(.ref u0)])) rfl (by rw [hml]; rfl) rfl (hb hby d2_1) (by decide) (W := 0) (by show 2 * 0 + _ ≤ _; exact Nat.le_of_eq rfl) (by decide)
  refine Goes.step (S' := T1.setTop (mkF m 4 #[.val (.ref u0)] [])) st1 ?_
  refine Goes.retV X1 hx Bd.notSynchronized Bd.returns (hb hby d2_4) (by decide) (by decide) ?_
  exact ⟨rfl, N0, e1⟩
theorem pd0 : parseMethodDescriptor "()V" = some ⟨[], none⟩ := by decide +kernel
theorem d1_0 : decode prog_29_method_1_code 0 = .ok (.aload_n 0, 1) := by decide +kernel
theorem d1_1 : decode prog_29_method_1_code 1 = .ok (.invokespecial 1, 3) := by decide +kernel
theorem d1_4 : decode prog_29_method_1_code 4 = .ok (.iload_n 1, 1) := by decide +kernel
theorem d1_5 : decode prog_29_method_1_code 5 = .ok (.ifCond .lt 32, 3) := by decide +kernel
theorem d1_8 : decode prog_29_method_1_code 8 = .ok (.iload_n 2, 1) := by decide +kernel
theorem d1_9 : decode prog_29_method_1_code 9 = .ok (.ifCond .lt 28, 3) := by decide +kernel
theorem d1_12 : decode prog_29_method_1_code 12 = .ok (.iload_n 3, 1) := by decide +kernel
theorem d1_13 : decode prog_29_method_1_code 13 = .ok (.ifCond .eq 11, 3) := by decide +kernel
theorem d1_16 : decode prog_29_method_1_code 16 = .ok (.iload_n 1, 1) := by decide +kernel
theorem d1_17 : decode prog_29_method_1_code 17 = .ok (.ifCond .eq 20, 3) := by decide +kernel
theorem d1_20 : decode prog_29_method_1_code 20 = .ok (.iload_n 2, 1) := by decide +kernel
theorem d1_21 : decode prog_29_method_1_code 21 = .ok (.ifCond .eq 16, 3) := by decide +kernel
theorem d1_24 : decode prog_29_method_1_code 24 = .ok (.iload 4, 2) := by decide +kernel
theorem d1_26 : decode prog_29_method_1_code 26 = .ok (.ifCond .eq 49, 3) := by decide +kernel
theorem d1_29 : decode prog_29_method_1_code 29 = .ok (.iload_n 1, 1) := by decide +kernel
theorem d1_30 : decode prog_29_method_1_code 30 = .ok (.ifCond .gt 7, 3) := by decide +kernel
theorem d1_33 : decode prog_29_method_1_code 33 = .ok (.iload_n 2, 1) := by decide +kernel
theorem d1_34 : decode prog_29_method_1_code 34 = .ok (.ifCond .le 41, 3) := by decide +kernel
theorem d1_75 : decode prog_29_method_1_code 75 = .ok (.aload_n 0, 1) := by decide +kernel
theorem d1_76 : decode prog_29_method_1_code 76 = .ok (.iload_n 1, 1) := by decide +kernel
theorem d1_77 : decode prog_29_method_1_code 77 = .ok (.putfield 22, 3) := by decide +kernel
theorem d1_80 : decode prog_29_method_1_code 80 = .ok (.aload_n 0, 1) := by decide +kernel
theorem d1_81 : decode prog_29_method_1_code 81 = .ok (.iload_n 2, 1) := by decide +kernel
theorem d1_82 : decode prog_29_method_1_code 82 = .ok (.putfield 28, 3) := by decide +kernel
theorem d1_85 : decode prog_29_method_1_code 85 = .ok (.aload_n 0, 1) := by decide +kernel
theorem d1_86 : decode prog_29_method_1_code 86 = .ok (.iload_n 3, 1) := by decide +kernel
theorem d1_87 : decode prog_29_method_1_code 87 = .ok (.putfield 31, 3) := by decide +kernel
theorem d1_90 : decode prog_29_method_1_code 90 = .ok (.aload_n 0, 1) := by decide +kernel
theorem d1_91 : decode prog_29_method_1_code 91 = .ok (.iload 4, 2) := by decide +kernel
theorem d1_93 : decode prog_29_method_1_code 93 = .ok (.putfield 35, 3) := by decide +kernel
theorem d1_96 : decode prog_29_method_1_code 96 = .ok (.return_, 1) := by decide +kernel
theorem pn1 : plainName "com/example/proofsheet/proofsheet/core/Rendition" = true := by first | (simp [plainName, overriddenIn]; done) | decide +kernel
theorem ef1 (m : MethodId) (u0 : Addr) (p1 : Int32) (p2 : Int32) (p3 : Int32) (p4 : Int32) : entryFrame m #[(.ref u0), (.int p1), (.int p2), (.int p3), (.int p4)] 5 = mkF m 0 #[.val (.ref u0), .val (.int p1), .val (.int p2), .val (.int p3), .val (.int p4)] [] := by first | (simp [entryFrame, mkF, argsToLocals, Value.category]; done) | rfl
theorem own_hc1_30 (p1 : Int32) (p2 : Int32) (p3 : Int32) (p4 : Int32) (hw0 : ¬ p1 < (0 : Int32)) (hh0 : ¬ p2 < (0 : Int32)) (hcr : p3 = (0 : Int32) ∨ (0 : Int32) < p1 ∧ (0 : Int32) < p2) (hvi : p4 = (0 : Int32) ∨ ¬ (0 : Int32) < p1 ∧ ¬ (0 : Int32) < p2) (hc13_1 : p3 = (0 : Int32)) (hc26_2 : ¬ (p4 = (0 : Int32))) : ¬ ((0 : Int32) < p1) := by
  simp only [Int32.lt_iff_toInt_lt, ← Int32.toInt_inj, Int32.reduceToInt] at *
  omega
theorem own_hc1_34 (p1 : Int32) (p2 : Int32) (p3 : Int32) (p4 : Int32) (hw0 : ¬ p1 < (0 : Int32)) (hh0 : ¬ p2 < (0 : Int32)) (hcr : p3 = (0 : Int32) ∨ (0 : Int32) < p1 ∧ (0 : Int32) < p2) (hvi : p4 = (0 : Int32) ∨ ¬ (0 : Int32) < p1 ∧ ¬ (0 : Int32) < p2) (hc13_1 : p3 = (0 : Int32)) (hc26_2 : ¬ (p4 = (0 : Int32))) : ¬ ((0 : Int32) < p2) := by
  simp only [Int32.lt_iff_toInt_lt, ← Int32.toInt_inj, Int32.reduceToInt] at *
  omega
theorem own_hc1_17 (p1 : Int32) (p2 : Int32) (p3 : Int32) (p4 : Int32) (hw0 : ¬ p1 < (0 : Int32)) (hh0 : ¬ p2 < (0 : Int32)) (hcr : p3 = (0 : Int32) ∨ (0 : Int32) < p1 ∧ (0 : Int32) < p2) (hvi : p4 = (0 : Int32) ∨ ¬ (0 : Int32) < p1 ∧ ¬ (0 : Int32) < p2) (hc13_1 : ¬ (p3 = (0 : Int32))) : ¬ (p1 = (0 : Int32)) := by
  simp only [Int32.lt_iff_toInt_lt, ← Int32.toInt_inj, Int32.reduceToInt] at *
  omega
theorem own_hc1_21 (p1 : Int32) (p2 : Int32) (p3 : Int32) (p4 : Int32) (hw0 : ¬ p1 < (0 : Int32)) (hh0 : ¬ p2 < (0 : Int32)) (hcr : p3 = (0 : Int32) ∨ (0 : Int32) < p1 ∧ (0 : Int32) < p2) (hvi : p4 = (0 : Int32) ∨ ¬ (0 : Int32) < p1 ∧ ¬ (0 : Int32) < p2) (hc13_1 : ¬ (p3 = (0 : Int32))) : ¬ (p2 = (0 : Int32)) := by
  simp only [Int32.lt_iff_toInt_lt, ← Int32.toInt_inj, Int32.reduceToInt] at *
  omega
theorem own_hc1_30_2 (p1 : Int32) (p2 : Int32) (p3 : Int32) (p4 : Int32) (hw0 : ¬ p1 < (0 : Int32)) (hh0 : ¬ p2 < (0 : Int32)) (hcr : p3 = (0 : Int32) ∨ (0 : Int32) < p1 ∧ (0 : Int32) < p2) (hvi : p4 = (0 : Int32) ∨ ¬ (0 : Int32) < p1 ∧ ¬ (0 : Int32) < p2) (hc13_1 : ¬ (p3 = (0 : Int32))) (hc26_3 : ¬ (p4 = (0 : Int32))) : ¬ ((0 : Int32) < p1) := by
  simp only [Int32.lt_iff_toInt_lt, ← Int32.toInt_inj, Int32.reduceToInt] at *
  omega
theorem own_hc1_34_2 (p1 : Int32) (p2 : Int32) (p3 : Int32) (p4 : Int32) (hw0 : ¬ p1 < (0 : Int32)) (hh0 : ¬ p2 < (0 : Int32)) (hcr : p3 = (0 : Int32) ∨ (0 : Int32) < p1 ∧ (0 : Int32) < p2) (hvi : p4 = (0 : Int32) ∨ ¬ (0 : Int32) < p1 ∧ ¬ (0 : Int32) < p2) (hc13_1 : ¬ (p3 = (0 : Int32))) (hc26_3 : ¬ (p4 = (0 : Int32))) : ¬ ((0 : Int32) < p2) := by
  simp only [Int32.lt_iff_toInt_lt, ← Int32.toInt_inj, Int32.reduceToInt] at *
  omega
def Q1 (Z : State) (u0 : Addr) (p1 : Int32) (p2 : Int32) (p3 : Int32) (p4 : Int32) (h0 : Heap) (n0 : Nat) (v : Option Value) (h : Heap) (L : List Loc) : Prop := v = none ∧ Fr n0 L ∧ Keep h0 h [u0] ∧ Exa Z h u0 "com/example/proofsheet/proofsheet/core/Rendition" ∧ Fld Z h u0 "com/example/proofsheet/proofsheet/core/Rendition" "crop" "Z" (.int (nar .boolean p3)) ∧ Fld Z h u0 "com/example/proofsheet/proofsheet/core/Rendition" "height" "I" (.int p2) ∧ Fld Z h u0 "com/example/proofsheet/proofsheet/core/Rendition" "video" "Z" (.int (nar .boolean p4)) ∧ Fld Z h u0 "com/example/proofsheet/proofsheet/core/Rendition" "width" "I" (.int p1)
set_option maxRecDepth 65536 in
set_option maxHeartbeats 40000000 in
theorem rm1 (l : Launch) (Z : State) (a0 : Array Value) (hw : ∀ d ∈ tables_1, d.before a0 Z = true) (ws : List Jvm.Cond) (u0 : Addr) (p1 : Int32) (p2 : Int32) (p3 : Int32) (p4 : Int32) (h0 : Heap) (n0 : Nat) (Z0 : n0 ≤ h0.size) (E_u0 : Exa Z h0 u0 "com/example/proofsheet/proofsheet/core/Rendition") (F_width_u0 : Fld Z h0 u0 "com/example/proofsheet/proofsheet/core/Rendition" "width" "I" (.int (0 : Int32))) (F_height_u0 : Fld Z h0 u0 "com/example/proofsheet/proofsheet/core/Rendition" "height" "I" (.int (0 : Int32))) (F_crop_u0 : Fld Z h0 u0 "com/example/proofsheet/proofsheet/core/Rendition" "crop" "Z" (.int (0 : Int32))) (F_video_u0 : Fld Z h0 u0 "com/example/proofsheet/proofsheet/core/Rendition" "video" "Z" (.int (0 : Int32))) (g_u0 : n0 ≤ u0) (hw0 : ¬ p1 < (0 : Int32)) (hh0 : ¬ p2 < (0 : Int32)) (hcr : p3 = (0 : Int32) ∨ (0 : Int32) < p1 ∧ (0 : Int32) < p2) (hvi : p4 = (0 : Int32) ∨ ¬ (0 : Int32) < p1 ∧ ¬ (0 : Int32) < p2) :
    MetFree l (⟨"com/example/proofsheet/proofsheet/core/Rendition", "<init>", "(IIZZ)V"⟩ : MethodName) (head1 (Jvm.Cond.code (⟨"com/example/proofsheet/proofsheet/core/Rendition", "<init>", "(IIZZ)V"⟩ : MethodName) prog_29_method_1_code 5 none :: ws) ({ frames := 2, cells := 0, slots := 0, locals := 24 } : Room)) (fun a U => a = #[(.ref u0), (.int p1), (.int p2), (.int p3), (.int p4)] ∧ Z.Warmed39 U.vm ∧ U.heap = h0) (fun _ _ _ _ _ => True) (fun _ U o U' => ∃ v L, o = .returned v ∧ Q1 Z u0 p1 p2 p3 p4 h0 n0 v U'.heap L ∧ FrameEnd U o U' L ({ frames := 2, cells := 0, slots := 0, locals := 24 } : Room).cells ({ frames := 2, cells := 0, slots := 0, locals := 24 } : Room).slots) := by
  refine MetFree.of_bodySF (plainFor_of_name pn1) hisR ?_
  intro p e s m args below meth c s₁ Bd hml0 hP hK
  obtain ⟨rfl, hZ, hh⟩ := hP
  have hx := Bd.exec
  have hby := Bd.bytes
  have hml : c.maxLocals = 5 := hml0
  have hown : s.vm.findClass "com/example/proofsheet/proofsheet/core/Rendition" = some m.cls := findClass_of_methodNamed Bd.named
  have hnm := (name_of_methodNamed Bd.named Bd.method).1
  have X0 : Stand p l e ({ frames := 2, cells := 0, slots := 0, locals := 24 } : Room) s m #[(.ref u0), (.int p1), (.int p2), (.int p3), (.int p4)] below meth c s₁ [] 0 0 := Stand.of_body Bd
  have e0 : s₁.heap = h0 := by rw [← hh, Bd.state]; rfl
  have N0 := Fr.nil n0
  have K0 : Keep h0 h0 [u0] := Keep.refl _ _
  refine Goes.out (Q := fun o U' => ∃ v L, o = .returned v ∧ Q1 Z u0 p1 p2 p3 p4 h0 n0 v U'.heap L ∧ FrameEnd s o U' L ({ frames := 2, cells := 0, slots := 0, locals := 24 } : Room).cells ({ frames := 2, cells := 0, slots := 0, locals := 24 } : Room).slots) ?_
  refine Goes.step (S' := s₁.setTop (mkF m 0 #[.val (.ref u0), .val (.int p1), .val (.int p2), .val (.int p3), .val (.int p4)] [])) (fun _ k => castTop (ef1 m u0 p1 p2 p3 p4) k) ?_
  refine Goes.step (S' := s₁.setTop (mkF m 1 #[.val (.ref u0), .val (.int p1), .val (.int p2), .val (.int p3), .val (.int p4)] [(.ref u0)])) (fun _ k => XS.aloadN X0.here hx rfl (hb hby d1_0) rfl rfl k) ?_
  obtain ⟨_, _, ⟨T1, L1, k1, n1⟩, -, X1, ⟨Lc1, hQ1, l1, y1, z1⟩, st1⟩ := X0.specialBack hx (y := (⟨"java/lang/Record", "<init>", "()V"⟩ : MethodName)) rfl hown (mvT hZ (hw _ (List.mem_of_getElem? (i := 7) rfl))) (mvT hZ (hw _ (List.mem_of_getElem? (i := 8) rfl))) (mvT hZ (hw _ (List.mem_of_getElem? (i := 11) rfl))) (by decide) (backOf (W := 0) (rm2 l Z a0 hw [] u0 h0 n0 Z0) hZ (hw _ (List.mem_of_getElem? (i := 11) rfl)) (hw _ (List.mem_of_getElem? (i := 10) rfl)) (by decide) (by decide)) (g := (mkF m 1 #[.val (.ref u0), .val (.int p1), .val (.int p2), .val (.int p3), .val (.int p4)] [(.ref u0)])) rfl (by rw [hml]; rfl) (Steps.refl _) (a := u0) (argsL := []) (rest := []) (lenOf pd0 rfl) rfl (by show 2 * 0 + _ ≤ _; exact Nat.le_of_eq rfl) (hb hby d1_1) (fun _ _ => ⟨rfl, e0, (by decide : 0 + 0 ≤ _), (by decide : 0 + 0 ≤ _)⟩)
  dsimp only [Pt.U, Pt.locs, Pt.cells, Pt.slots] at X1 l1 y1 z1 st1 hQ1
  subst l1 y1 z1
  obtain ⟨rfl, N1q, e1⟩ := hQ1
  have N2 := Fr.app N0 N1q
  refine Goes.step (S' := T1.setTop (mkF m 4 #[.val (.ref u0), .val (.int p1), .val (.int p2), .val (.int p3), .val (.int p4)] [])) (fun _ k => st1.trans k) ?_
  refine Goes.step (S' := T1.setTop (mkF m 5 #[.val (.ref u0), .val (.int p1), .val (.int p2), .val (.int p3), .val (.int p4)] [(.int p1)])) (fun _ k => XS.iloadN X1.here hx rfl (hb hby d1_4) rfl  k) ?_
  refine Goes.step (S' := T1.setTop (mkF m 8 #[.val (.ref u0), .val (.int p1), .val (.int p2), .val (.int p3), .val (.int p4)] [])) (fun _ k => XS.ifNo X1.here hx rfl (hb hby d1_5) rfl ((if0 _ _).trans (flt hw0).1) k) ?_
  refine Goes.step (S' := T1.setTop (mkF m 9 #[.val (.ref u0), .val (.int p1), .val (.int p2), .val (.int p3), .val (.int p4)] [(.int p2)])) (fun _ k => XS.iloadN X1.here hx rfl (hb hby d1_8) rfl  k) ?_
  refine Goes.step (S' := T1.setTop (mkF m 12 #[.val (.ref u0), .val (.int p1), .val (.int p2), .val (.int p3), .val (.int p4)] [])) (fun _ k => XS.ifNo X1.here hx rfl (hb hby d1_9) rfl ((if0 _ _).trans (flt hh0).1) k) ?_
  refine Goes.step (S' := T1.setTop (mkF m 13 #[.val (.ref u0), .val (.int p1), .val (.int p2), .val (.int p3), .val (.int p4)] [(.int p3)])) (fun _ k => XS.iloadN X1.here hx rfl (hb hby d1_12) rfl  k) ?_
  by_cases hc13_1 : p3 = (0 : Int32)
  · refine Goes.step (S' := T1.setTop (mkF m 24 #[.val (.ref u0), .val (.int p1), .val (.int p2), .val (.int p3), .val (.int p4)] [])) (fun _ k => XS.ifYes X1.here hx rfl (pc0 := 13) (pc' := 24) rfl (hb hby d1_13) rfl ((if0 _ _).trans (teq hc13_1).1) (by decide) (by decide) k) ?_
    refine Goes.step (S' := T1.setTop (mkF m 26 #[.val (.ref u0), .val (.int p1), .val (.int p2), .val (.int p3), .val (.int p4)] [(.int p4)])) (fun _ k => XS.iload X1.here hx rfl (hb hby d1_24) rfl  k) ?_
    by_cases hc26_2 : p4 = (0 : Int32)
    · refine Goes.step (S' := T1.setTop (mkF m 75 #[.val (.ref u0), .val (.int p1), .val (.int p2), .val (.int p3), .val (.int p4)] [])) (fun _ k => XS.ifYes X1.here hx rfl (pc0 := 26) (pc' := 75) rfl (hb hby d1_26) rfl ((if0 _ _).trans (teq hc26_2).1) (by decide) (by decide) k) ?_
      refine Goes.step (S' := T1.setTop (mkF m 76 #[.val (.ref u0), .val (.int p1), .val (.int p2), .val (.int p3), .val (.int p4)] [(.ref u0)])) (fun _ k => XS.aloadN X1.here hx rfl (hb hby d1_75) rfl rfl k) ?_
      refine Goes.step (S' := T1.setTop (mkF m 77 #[.val (.ref u0), .val (.int p1), .val (.int p2), .val (.int p3), .val (.int p4)] [(.int p1), (.ref u0)])) (fun _ k => XS.iloadN X1.here hx rfl (hb hby d1_76) rfl  k) ?_
      obtain ⟨T3, h3, X3, e3, W3, st3⟩ := putF X1 hx hZ hown (host := "") (Or.inl (hw _ (List.mem_of_getElem? (i := 15) rfl))) Via.refl e1 F_width_u0 E_u0 (Or.inr ⟨(hw _ (List.mem_of_getElem? (i := 16) rfl)), rfl, hnm⟩) (hw _ (List.mem_of_getElem? (i := 2) rfl)) (ty := .int) (by decide) rfl rfl (g := (mkF m 77 #[.val (.ref u0), .val (.int p1), .val (.int p2), .val (.int p3), .val (.int p4)] [(.int p1), (.ref u0)])) rfl rfl (hb hby d1_77)
      have Fw3 := F_width_u0.same W3
      have N4 := Fr.snoc X3 N2 g_u0
      have Z5 : n0 ≤ h3.size := Nat.le_trans Z0 (Nat.le_of_eq W3.size.symm)
      have E_6 := E_u0.wr W3
      have F7 := F_height_u0.other W3 (Or.inr (slot_ne (Or.inr (hw _ (List.mem_of_getElem? (i := 18) rfl))) (Or.inr (hw _ (List.mem_of_getElem? (i := 16) rfl))) (by decide) (t := .int) (t' := .int) (by decide) (by decide)))
      have F8 := F_crop_u0.other W3 (Or.inr (slot_ne (Or.inr (hw _ (List.mem_of_getElem? (i := 20) rfl))) (Or.inr (hw _ (List.mem_of_getElem? (i := 16) rfl))) (by decide) (t := .boolean) (t' := .int) (by decide) (by decide)))
      have F9 := F_video_u0.other W3 (Or.inr (slot_ne (Or.inr (hw _ (List.mem_of_getElem? (i := 22) rfl))) (Or.inr (hw _ (List.mem_of_getElem? (i := 16) rfl))) (by decide) (t := .boolean) (t' := .int) (by decide) (by decide)))
      have K10 : Keep h0 h3 [u0] := K0.wr W3 (Or.inl (List.mem_of_getElem? (i := 0) rfl))
      refine Goes.step (S' := T3.setTop (mkF m 80 #[.val (.ref u0), .val (.int p1), .val (.int p2), .val (.int p3), .val (.int p4)] [])) st3 ?_
      refine Goes.step (S' := T3.setTop (mkF m 81 #[.val (.ref u0), .val (.int p1), .val (.int p2), .val (.int p3), .val (.int p4)] [(.ref u0)])) (fun _ k => XS.aloadN X3.here hx rfl (hb hby d1_80) rfl rfl k) ?_
      refine Goes.step (S' := T3.setTop (mkF m 82 #[.val (.ref u0), .val (.int p1), .val (.int p2), .val (.int p3), .val (.int p4)] [(.int p2), (.ref u0)])) (fun _ k => XS.iloadN X3.here hx rfl (hb hby d1_81) rfl  k) ?_
      obtain ⟨T11, h11, X11, e11, W11, st11⟩ := putF X3 hx hZ hown (host := "") (Or.inl (hw _ (List.mem_of_getElem? (i := 17) rfl))) Via.refl e3 F7 E_6 (Or.inr ⟨(hw _ (List.mem_of_getElem? (i := 18) rfl)), rfl, hnm⟩) (hw _ (List.mem_of_getElem? (i := 2) rfl)) (ty := .int) (by decide) rfl rfl (g := (mkF m 82 #[.val (.ref u0), .val (.int p1), .val (.int p2), .val (.int p3), .val (.int p4)] [(.int p2), (.ref u0)])) rfl rfl (hb hby d1_82)
      have Fw11 := F7.same W11
      have N12 := Fr.snoc X11 N4 g_u0
      have Z13 : n0 ≤ h11.size := Nat.le_trans Z5 (Nat.le_of_eq W11.size.symm)
      have E_14 := E_6.wr W11
      have F15 := Fw3.other W11 (Or.inr (slot_ne (Or.inr (hw _ (List.mem_of_getElem? (i := 16) rfl))) (Or.inr (hw _ (List.mem_of_getElem? (i := 18) rfl))) (by decide) (t := .int) (t' := .int) (by decide) (by decide)))
      have F16 := F8.other W11 (Or.inr (slot_ne (Or.inr (hw _ (List.mem_of_getElem? (i := 20) rfl))) (Or.inr (hw _ (List.mem_of_getElem? (i := 18) rfl))) (by decide) (t := .boolean) (t' := .int) (by decide) (by decide)))
      have F17 := F9.other W11 (Or.inr (slot_ne (Or.inr (hw _ (List.mem_of_getElem? (i := 22) rfl))) (Or.inr (hw _ (List.mem_of_getElem? (i := 18) rfl))) (by decide) (t := .boolean) (t' := .int) (by decide) (by decide)))
      have K18 : Keep h0 h11 [u0] := K10.wr W11 (Or.inl (List.mem_of_getElem? (i := 0) rfl))
      refine Goes.step (S' := T11.setTop (mkF m 85 #[.val (.ref u0), .val (.int p1), .val (.int p2), .val (.int p3), .val (.int p4)] [])) st11 ?_
      refine Goes.step (S' := T11.setTop (mkF m 86 #[.val (.ref u0), .val (.int p1), .val (.int p2), .val (.int p3), .val (.int p4)] [(.ref u0)])) (fun _ k => XS.aloadN X11.here hx rfl (hb hby d1_85) rfl rfl k) ?_
      refine Goes.step (S' := T11.setTop (mkF m 87 #[.val (.ref u0), .val (.int p1), .val (.int p2), .val (.int p3), .val (.int p4)] [(.int p3), (.ref u0)])) (fun _ k => XS.iloadN X11.here hx rfl (hb hby d1_86) rfl  k) ?_
      obtain ⟨T19, h19, X19, e19, W19, st19⟩ := putFN X11 hx hZ hown (hw _ (List.mem_of_getElem? (i := 19) rfl)) Via.refl e11 F16 E_14 (Or.inr ⟨(hw _ (List.mem_of_getElem? (i := 20) rfl)), rfl, hnm⟩) (hw _ (List.mem_of_getElem? (i := 2) rfl)) (ty := .boolean) (v' := (.int (nar .boolean p3))) (by decide) rfl (fits_nar_bool _) (g := (mkF m 87 #[.val (.ref u0), .val (.int p1), .val (.int p2), .val (.int p3), .val (.int p4)] [(.int p3), (.ref u0)])) rfl rfl (hb hby d1_87)
      have Fw19 := F16.same W19
      have N20 := Fr.snoc X19 N12 g_u0
      have Z21 : n0 ≤ h19.size := Nat.le_trans Z13 (Nat.le_of_eq W19.size.symm)
      have E_22 := E_14.wr W19
      have F23 := F15.other W19 (Or.inr (slot_ne (Or.inr (hw _ (List.mem_of_getElem? (i := 16) rfl))) (Or.inr (hw _ (List.mem_of_getElem? (i := 20) rfl))) (by decide) (t := .int) (t' := .boolean) (by decide) (by decide)))
      have F24 := Fw11.other W19 (Or.inr (slot_ne (Or.inr (hw _ (List.mem_of_getElem? (i := 18) rfl))) (Or.inr (hw _ (List.mem_of_getElem? (i := 20) rfl))) (by decide) (t := .int) (t' := .boolean) (by decide) (by decide)))
      have F25 := F17.other W19 (Or.inr (slot_ne (Or.inr (hw _ (List.mem_of_getElem? (i := 22) rfl))) (Or.inr (hw _ (List.mem_of_getElem? (i := 20) rfl))) (by decide) (t := .boolean) (t' := .boolean) (by decide) (by decide)))
      have K26 : Keep h0 h19 [u0] := K18.wr W19 (Or.inl (List.mem_of_getElem? (i := 0) rfl))
      refine Goes.step (S' := T19.setTop (mkF m 90 #[.val (.ref u0), .val (.int p1), .val (.int p2), .val (.int p3), .val (.int p4)] [])) st19 ?_
      refine Goes.step (S' := T19.setTop (mkF m 91 #[.val (.ref u0), .val (.int p1), .val (.int p2), .val (.int p3), .val (.int p4)] [(.ref u0)])) (fun _ k => XS.aloadN X19.here hx rfl (hb hby d1_90) rfl rfl k) ?_
      refine Goes.step (S' := T19.setTop (mkF m 93 #[.val (.ref u0), .val (.int p1), .val (.int p2), .val (.int p3), .val (.int p4)] [(.int p4), (.ref u0)])) (fun _ k => XS.iload X19.here hx rfl (hb hby d1_91) rfl  k) ?_
      obtain ⟨T27, h27, X27, e27, W27, st27⟩ := putFN X19 hx hZ hown (hw _ (List.mem_of_getElem? (i := 21) rfl)) Via.refl e19 F25 E_22 (Or.inr ⟨(hw _ (List.mem_of_getElem? (i := 22) rfl)), rfl, hnm⟩) (hw _ (List.mem_of_getElem? (i := 2) rfl)) (ty := .boolean) (v' := (.int (nar .boolean p4))) (by decide) rfl (fits_nar_bool _) (g := (mkF m 93 #[.val (.ref u0), .val (.int p1), .val (.int p2), .val (.int p3), .val (.int p4)] [(.int p4), (.ref u0)])) rfl rfl (hb hby d1_93)
      have Fw27 := F25.same W27
      have N28 := Fr.snoc X27 N20 g_u0
      have Z29 : n0 ≤ h27.size := Nat.le_trans Z21 (Nat.le_of_eq W27.size.symm)
      have E_30 := E_22.wr W27
      have F31 := F23.other W27 (Or.inr (slot_ne (Or.inr (hw _ (List.mem_of_getElem? (i := 16) rfl))) (Or.inr (hw _ (List.mem_of_getElem? (i := 22) rfl))) (by decide) (t := .int) (t' := .boolean) (by decide) (by decide)))
      have F32 := F24.other W27 (Or.inr (slot_ne (Or.inr (hw _ (List.mem_of_getElem? (i := 18) rfl))) (Or.inr (hw _ (List.mem_of_getElem? (i := 22) rfl))) (by decide) (t := .int) (t' := .boolean) (by decide) (by decide)))
      have F33 := Fw19.other W27 (Or.inr (slot_ne (Or.inr (hw _ (List.mem_of_getElem? (i := 20) rfl))) (Or.inr (hw _ (List.mem_of_getElem? (i := 22) rfl))) (by decide) (t := .boolean) (t' := .boolean) (by decide) (by decide)))
      have K34 : Keep h0 h27 [u0] := K26.wr W27 (Or.inl (List.mem_of_getElem? (i := 0) rfl))
      refine Goes.step (S' := T27.setTop (mkF m 96 #[.val (.ref u0), .val (.int p1), .val (.int p2), .val (.int p3), .val (.int p4)] [])) st27 ?_
      refine Goes.retV X27 hx Bd.notSynchronized Bd.returns (hb hby d1_96) (by decide) (by decide) ?_
      refine ⟨rfl, N28, ?_, ?_, ?_, ?_, ?_, ?_⟩
      · rw [e27]; exact K34
      · rw [e27]; exact E_30
      · rw [e27]; exact F33
      · rw [e27]; exact F32
      · rw [e27]; exact Fw27
      · rw [e27]; exact F31
    · refine Goes.step (S' := T1.setTop (mkF m 29 #[.val (.ref u0), .val (.int p1), .val (.int p2), .val (.int p3), .val (.int p4)] [])) (fun _ k => XS.ifNo X1.here hx rfl (hb hby d1_26) rfl ((if0 _ _).trans (feq hc26_2).1) k) ?_
      refine Goes.step (S' := T1.setTop (mkF m 30 #[.val (.ref u0), .val (.int p1), .val (.int p2), .val (.int p3), .val (.int p4)] [(.int p1)])) (fun _ k => XS.iloadN X1.here hx rfl (hb hby d1_29) rfl  k) ?_
      refine Goes.step (S' := T1.setTop (mkF m 33 #[.val (.ref u0), .val (.int p1), .val (.int p2), .val (.int p3), .val (.int p4)] [])) (fun _ k => XS.ifNo X1.here hx rfl (hb hby d1_30) rfl ((if0 _ _).trans (flt (own_hc1_30 p1 p2 p3 p4 hw0 hh0 hcr hvi hc13_1 hc26_2)).2.2.1) k) ?_
      refine Goes.step (S' := T1.setTop (mkF m 34 #[.val (.ref u0), .val (.int p1), .val (.int p2), .val (.int p3), .val (.int p4)] [(.int p2)])) (fun _ k => XS.iloadN X1.here hx rfl (hb hby d1_33) rfl  k) ?_
      refine Goes.step (S' := T1.setTop (mkF m 75 #[.val (.ref u0), .val (.int p1), .val (.int p2), .val (.int p3), .val (.int p4)] [])) (fun _ k => XS.ifYes X1.here hx rfl (pc0 := 34) (pc' := 75) rfl (hb hby d1_34) rfl ((if0 _ _).trans (flt (own_hc1_34 p1 p2 p3 p4 hw0 hh0 hcr hvi hc13_1 hc26_2)).2.2.2) (by decide) (by decide) k) ?_
      refine Goes.step (S' := T1.setTop (mkF m 76 #[.val (.ref u0), .val (.int p1), .val (.int p2), .val (.int p3), .val (.int p4)] [(.ref u0)])) (fun _ k => XS.aloadN X1.here hx rfl (hb hby d1_75) rfl rfl k) ?_
      refine Goes.step (S' := T1.setTop (mkF m 77 #[.val (.ref u0), .val (.int p1), .val (.int p2), .val (.int p3), .val (.int p4)] [(.int p1), (.ref u0)])) (fun _ k => XS.iloadN X1.here hx rfl (hb hby d1_76) rfl  k) ?_
      obtain ⟨T35, h35, X35, e35, W35, st35⟩ := putF X1 hx hZ hown (host := "") (Or.inl (hw _ (List.mem_of_getElem? (i := 15) rfl))) Via.refl e1 F_width_u0 E_u0 (Or.inr ⟨(hw _ (List.mem_of_getElem? (i := 16) rfl)), rfl, hnm⟩) (hw _ (List.mem_of_getElem? (i := 2) rfl)) (ty := .int) (by decide) rfl rfl (g := (mkF m 77 #[.val (.ref u0), .val (.int p1), .val (.int p2), .val (.int p3), .val (.int p4)] [(.int p1), (.ref u0)])) rfl rfl (hb hby d1_77)
      have Fw35 := F_width_u0.same W35
      have N36 := Fr.snoc X35 N2 g_u0
      have Z37 : n0 ≤ h35.size := Nat.le_trans Z0 (Nat.le_of_eq W35.size.symm)
      have E_38 := E_u0.wr W35
      have F39 := F_height_u0.other W35 (Or.inr (slot_ne (Or.inr (hw _ (List.mem_of_getElem? (i := 18) rfl))) (Or.inr (hw _ (List.mem_of_getElem? (i := 16) rfl))) (by decide) (t := .int) (t' := .int) (by decide) (by decide)))
      have F40 := F_crop_u0.other W35 (Or.inr (slot_ne (Or.inr (hw _ (List.mem_of_getElem? (i := 20) rfl))) (Or.inr (hw _ (List.mem_of_getElem? (i := 16) rfl))) (by decide) (t := .boolean) (t' := .int) (by decide) (by decide)))
      have F41 := F_video_u0.other W35 (Or.inr (slot_ne (Or.inr (hw _ (List.mem_of_getElem? (i := 22) rfl))) (Or.inr (hw _ (List.mem_of_getElem? (i := 16) rfl))) (by decide) (t := .boolean) (t' := .int) (by decide) (by decide)))
      have K42 : Keep h0 h35 [u0] := K0.wr W35 (Or.inl (List.mem_of_getElem? (i := 0) rfl))
      refine Goes.step (S' := T35.setTop (mkF m 80 #[.val (.ref u0), .val (.int p1), .val (.int p2), .val (.int p3), .val (.int p4)] [])) st35 ?_
      refine Goes.step (S' := T35.setTop (mkF m 81 #[.val (.ref u0), .val (.int p1), .val (.int p2), .val (.int p3), .val (.int p4)] [(.ref u0)])) (fun _ k => XS.aloadN X35.here hx rfl (hb hby d1_80) rfl rfl k) ?_
      refine Goes.step (S' := T35.setTop (mkF m 82 #[.val (.ref u0), .val (.int p1), .val (.int p2), .val (.int p3), .val (.int p4)] [(.int p2), (.ref u0)])) (fun _ k => XS.iloadN X35.here hx rfl (hb hby d1_81) rfl  k) ?_
      obtain ⟨T43, h43, X43, e43, W43, st43⟩ := putF X35 hx hZ hown (host := "") (Or.inl (hw _ (List.mem_of_getElem? (i := 17) rfl))) Via.refl e35 F39 E_38 (Or.inr ⟨(hw _ (List.mem_of_getElem? (i := 18) rfl)), rfl, hnm⟩) (hw _ (List.mem_of_getElem? (i := 2) rfl)) (ty := .int) (by decide) rfl rfl (g := (mkF m 82 #[.val (.ref u0), .val (.int p1), .val (.int p2), .val (.int p3), .val (.int p4)] [(.int p2), (.ref u0)])) rfl rfl (hb hby d1_82)
      have Fw43 := F39.same W43
      have N44 := Fr.snoc X43 N36 g_u0
      have Z45 : n0 ≤ h43.size := Nat.le_trans Z37 (Nat.le_of_eq W43.size.symm)
      have E_46 := E_38.wr W43
      have F47 := Fw35.other W43 (Or.inr (slot_ne (Or.inr (hw _ (List.mem_of_getElem? (i := 16) rfl))) (Or.inr (hw _ (List.mem_of_getElem? (i := 18) rfl))) (by decide) (t := .int) (t' := .int) (by decide) (by decide)))
      have F48 := F40.other W43 (Or.inr (slot_ne (Or.inr (hw _ (List.mem_of_getElem? (i := 20) rfl))) (Or.inr (hw _ (List.mem_of_getElem? (i := 18) rfl))) (by decide) (t := .boolean) (t' := .int) (by decide) (by decide)))
      have F49 := F41.other W43 (Or.inr (slot_ne (Or.inr (hw _ (List.mem_of_getElem? (i := 22) rfl))) (Or.inr (hw _ (List.mem_of_getElem? (i := 18) rfl))) (by decide) (t := .boolean) (t' := .int) (by decide) (by decide)))
      have K50 : Keep h0 h43 [u0] := K42.wr W43 (Or.inl (List.mem_of_getElem? (i := 0) rfl))
      refine Goes.step (S' := T43.setTop (mkF m 85 #[.val (.ref u0), .val (.int p1), .val (.int p2), .val (.int p3), .val (.int p4)] [])) st43 ?_
      refine Goes.step (S' := T43.setTop (mkF m 86 #[.val (.ref u0), .val (.int p1), .val (.int p2), .val (.int p3), .val (.int p4)] [(.ref u0)])) (fun _ k => XS.aloadN X43.here hx rfl (hb hby d1_85) rfl rfl k) ?_
      refine Goes.step (S' := T43.setTop (mkF m 87 #[.val (.ref u0), .val (.int p1), .val (.int p2), .val (.int p3), .val (.int p4)] [(.int p3), (.ref u0)])) (fun _ k => XS.iloadN X43.here hx rfl (hb hby d1_86) rfl  k) ?_
      obtain ⟨T51, h51, X51, e51, W51, st51⟩ := putFN X43 hx hZ hown (hw _ (List.mem_of_getElem? (i := 19) rfl)) Via.refl e43 F48 E_46 (Or.inr ⟨(hw _ (List.mem_of_getElem? (i := 20) rfl)), rfl, hnm⟩) (hw _ (List.mem_of_getElem? (i := 2) rfl)) (ty := .boolean) (v' := (.int (nar .boolean p3))) (by decide) rfl (fits_nar_bool _) (g := (mkF m 87 #[.val (.ref u0), .val (.int p1), .val (.int p2), .val (.int p3), .val (.int p4)] [(.int p3), (.ref u0)])) rfl rfl (hb hby d1_87)
      have Fw51 := F48.same W51
      have N52 := Fr.snoc X51 N44 g_u0
      have Z53 : n0 ≤ h51.size := Nat.le_trans Z45 (Nat.le_of_eq W51.size.symm)
      have E_54 := E_46.wr W51
      have F55 := F47.other W51 (Or.inr (slot_ne (Or.inr (hw _ (List.mem_of_getElem? (i := 16) rfl))) (Or.inr (hw _ (List.mem_of_getElem? (i := 20) rfl))) (by decide) (t := .int) (t' := .boolean) (by decide) (by decide)))
      have F56 := Fw43.other W51 (Or.inr (slot_ne (Or.inr (hw _ (List.mem_of_getElem? (i := 18) rfl))) (Or.inr (hw _ (List.mem_of_getElem? (i := 20) rfl))) (by decide) (t := .int) (t' := .boolean) (by decide) (by decide)))
      have F57 := F49.other W51 (Or.inr (slot_ne (Or.inr (hw _ (List.mem_of_getElem? (i := 22) rfl))) (Or.inr (hw _ (List.mem_of_getElem? (i := 20) rfl))) (by decide) (t := .boolean) (t' := .boolean) (by decide) (by decide)))
      have K58 : Keep h0 h51 [u0] := K50.wr W51 (Or.inl (List.mem_of_getElem? (i := 0) rfl))
      refine Goes.step (S' := T51.setTop (mkF m 90 #[.val (.ref u0), .val (.int p1), .val (.int p2), .val (.int p3), .val (.int p4)] [])) st51 ?_
      refine Goes.step (S' := T51.setTop (mkF m 91 #[.val (.ref u0), .val (.int p1), .val (.int p2), .val (.int p3), .val (.int p4)] [(.ref u0)])) (fun _ k => XS.aloadN X51.here hx rfl (hb hby d1_90) rfl rfl k) ?_
      refine Goes.step (S' := T51.setTop (mkF m 93 #[.val (.ref u0), .val (.int p1), .val (.int p2), .val (.int p3), .val (.int p4)] [(.int p4), (.ref u0)])) (fun _ k => XS.iload X51.here hx rfl (hb hby d1_91) rfl  k) ?_
      obtain ⟨T59, h59, X59, e59, W59, st59⟩ := putFN X51 hx hZ hown (hw _ (List.mem_of_getElem? (i := 21) rfl)) Via.refl e51 F57 E_54 (Or.inr ⟨(hw _ (List.mem_of_getElem? (i := 22) rfl)), rfl, hnm⟩) (hw _ (List.mem_of_getElem? (i := 2) rfl)) (ty := .boolean) (v' := (.int (nar .boolean p4))) (by decide) rfl (fits_nar_bool _) (g := (mkF m 93 #[.val (.ref u0), .val (.int p1), .val (.int p2), .val (.int p3), .val (.int p4)] [(.int p4), (.ref u0)])) rfl rfl (hb hby d1_93)
      have Fw59 := F57.same W59
      have N60 := Fr.snoc X59 N52 g_u0
      have Z61 : n0 ≤ h59.size := Nat.le_trans Z53 (Nat.le_of_eq W59.size.symm)
      have E_62 := E_54.wr W59
      have F63 := F55.other W59 (Or.inr (slot_ne (Or.inr (hw _ (List.mem_of_getElem? (i := 16) rfl))) (Or.inr (hw _ (List.mem_of_getElem? (i := 22) rfl))) (by decide) (t := .int) (t' := .boolean) (by decide) (by decide)))
      have F64 := F56.other W59 (Or.inr (slot_ne (Or.inr (hw _ (List.mem_of_getElem? (i := 18) rfl))) (Or.inr (hw _ (List.mem_of_getElem? (i := 22) rfl))) (by decide) (t := .int) (t' := .boolean) (by decide) (by decide)))
      have F65 := Fw51.other W59 (Or.inr (slot_ne (Or.inr (hw _ (List.mem_of_getElem? (i := 20) rfl))) (Or.inr (hw _ (List.mem_of_getElem? (i := 22) rfl))) (by decide) (t := .boolean) (t' := .boolean) (by decide) (by decide)))
      have K66 : Keep h0 h59 [u0] := K58.wr W59 (Or.inl (List.mem_of_getElem? (i := 0) rfl))
      refine Goes.step (S' := T59.setTop (mkF m 96 #[.val (.ref u0), .val (.int p1), .val (.int p2), .val (.int p3), .val (.int p4)] [])) st59 ?_
      refine Goes.retV X59 hx Bd.notSynchronized Bd.returns (hb hby d1_96) (by decide) (by decide) ?_
      refine ⟨rfl, N60, ?_, ?_, ?_, ?_, ?_, ?_⟩
      · rw [e59]; exact K66
      · rw [e59]; exact E_62
      · rw [e59]; exact F65
      · rw [e59]; exact F64
      · rw [e59]; exact Fw59
      · rw [e59]; exact F63
  · refine Goes.step (S' := T1.setTop (mkF m 16 #[.val (.ref u0), .val (.int p1), .val (.int p2), .val (.int p3), .val (.int p4)] [])) (fun _ k => XS.ifNo X1.here hx rfl (hb hby d1_13) rfl ((if0 _ _).trans (feq hc13_1).1) k) ?_
    refine Goes.step (S' := T1.setTop (mkF m 17 #[.val (.ref u0), .val (.int p1), .val (.int p2), .val (.int p3), .val (.int p4)] [(.int p1)])) (fun _ k => XS.iloadN X1.here hx rfl (hb hby d1_16) rfl  k) ?_
    refine Goes.step (S' := T1.setTop (mkF m 20 #[.val (.ref u0), .val (.int p1), .val (.int p2), .val (.int p3), .val (.int p4)] [])) (fun _ k => XS.ifNo X1.here hx rfl (hb hby d1_17) rfl ((if0 _ _).trans (feq (own_hc1_17 p1 p2 p3 p4 hw0 hh0 hcr hvi hc13_1)).1) k) ?_
    refine Goes.step (S' := T1.setTop (mkF m 21 #[.val (.ref u0), .val (.int p1), .val (.int p2), .val (.int p3), .val (.int p4)] [(.int p2)])) (fun _ k => XS.iloadN X1.here hx rfl (hb hby d1_20) rfl  k) ?_
    refine Goes.step (S' := T1.setTop (mkF m 24 #[.val (.ref u0), .val (.int p1), .val (.int p2), .val (.int p3), .val (.int p4)] [])) (fun _ k => XS.ifNo X1.here hx rfl (hb hby d1_21) rfl ((if0 _ _).trans (feq (own_hc1_21 p1 p2 p3 p4 hw0 hh0 hcr hvi hc13_1)).1) k) ?_
    refine Goes.step (S' := T1.setTop (mkF m 26 #[.val (.ref u0), .val (.int p1), .val (.int p2), .val (.int p3), .val (.int p4)] [(.int p4)])) (fun _ k => XS.iload X1.here hx rfl (hb hby d1_24) rfl  k) ?_
    by_cases hc26_3 : p4 = (0 : Int32)
    · refine Goes.step (S' := T1.setTop (mkF m 75 #[.val (.ref u0), .val (.int p1), .val (.int p2), .val (.int p3), .val (.int p4)] [])) (fun _ k => XS.ifYes X1.here hx rfl (pc0 := 26) (pc' := 75) rfl (hb hby d1_26) rfl ((if0 _ _).trans (teq hc26_3).1) (by decide) (by decide) k) ?_
      refine Goes.step (S' := T1.setTop (mkF m 76 #[.val (.ref u0), .val (.int p1), .val (.int p2), .val (.int p3), .val (.int p4)] [(.ref u0)])) (fun _ k => XS.aloadN X1.here hx rfl (hb hby d1_75) rfl rfl k) ?_
      refine Goes.step (S' := T1.setTop (mkF m 77 #[.val (.ref u0), .val (.int p1), .val (.int p2), .val (.int p3), .val (.int p4)] [(.int p1), (.ref u0)])) (fun _ k => XS.iloadN X1.here hx rfl (hb hby d1_76) rfl  k) ?_
      obtain ⟨T67, h67, X67, e67, W67, st67⟩ := putF X1 hx hZ hown (host := "") (Or.inl (hw _ (List.mem_of_getElem? (i := 15) rfl))) Via.refl e1 F_width_u0 E_u0 (Or.inr ⟨(hw _ (List.mem_of_getElem? (i := 16) rfl)), rfl, hnm⟩) (hw _ (List.mem_of_getElem? (i := 2) rfl)) (ty := .int) (by decide) rfl rfl (g := (mkF m 77 #[.val (.ref u0), .val (.int p1), .val (.int p2), .val (.int p3), .val (.int p4)] [(.int p1), (.ref u0)])) rfl rfl (hb hby d1_77)
      have Fw67 := F_width_u0.same W67
      have N68 := Fr.snoc X67 N2 g_u0
      have Z69 : n0 ≤ h67.size := Nat.le_trans Z0 (Nat.le_of_eq W67.size.symm)
      have E_70 := E_u0.wr W67
      have F71 := F_height_u0.other W67 (Or.inr (slot_ne (Or.inr (hw _ (List.mem_of_getElem? (i := 18) rfl))) (Or.inr (hw _ (List.mem_of_getElem? (i := 16) rfl))) (by decide) (t := .int) (t' := .int) (by decide) (by decide)))
      have F72 := F_crop_u0.other W67 (Or.inr (slot_ne (Or.inr (hw _ (List.mem_of_getElem? (i := 20) rfl))) (Or.inr (hw _ (List.mem_of_getElem? (i := 16) rfl))) (by decide) (t := .boolean) (t' := .int) (by decide) (by decide)))
      have F73 := F_video_u0.other W67 (Or.inr (slot_ne (Or.inr (hw _ (List.mem_of_getElem? (i := 22) rfl))) (Or.inr (hw _ (List.mem_of_getElem? (i := 16) rfl))) (by decide) (t := .boolean) (t' := .int) (by decide) (by decide)))
      have K74 : Keep h0 h67 [u0] := K0.wr W67 (Or.inl (List.mem_of_getElem? (i := 0) rfl))
      refine Goes.step (S' := T67.setTop (mkF m 80 #[.val (.ref u0), .val (.int p1), .val (.int p2), .val (.int p3), .val (.int p4)] [])) st67 ?_
      refine Goes.step (S' := T67.setTop (mkF m 81 #[.val (.ref u0), .val (.int p1), .val (.int p2), .val (.int p3), .val (.int p4)] [(.ref u0)])) (fun _ k => XS.aloadN X67.here hx rfl (hb hby d1_80) rfl rfl k) ?_
      refine Goes.step (S' := T67.setTop (mkF m 82 #[.val (.ref u0), .val (.int p1), .val (.int p2), .val (.int p3), .val (.int p4)] [(.int p2), (.ref u0)])) (fun _ k => XS.iloadN X67.here hx rfl (hb hby d1_81) rfl  k) ?_
      obtain ⟨T75, h75, X75, e75, W75, st75⟩ := putF X67 hx hZ hown (host := "") (Or.inl (hw _ (List.mem_of_getElem? (i := 17) rfl))) Via.refl e67 F71 E_70 (Or.inr ⟨(hw _ (List.mem_of_getElem? (i := 18) rfl)), rfl, hnm⟩) (hw _ (List.mem_of_getElem? (i := 2) rfl)) (ty := .int) (by decide) rfl rfl (g := (mkF m 82 #[.val (.ref u0), .val (.int p1), .val (.int p2), .val (.int p3), .val (.int p4)] [(.int p2), (.ref u0)])) rfl rfl (hb hby d1_82)
      have Fw75 := F71.same W75
      have N76 := Fr.snoc X75 N68 g_u0
      have Z77 : n0 ≤ h75.size := Nat.le_trans Z69 (Nat.le_of_eq W75.size.symm)
      have E_78 := E_70.wr W75
      have F79 := Fw67.other W75 (Or.inr (slot_ne (Or.inr (hw _ (List.mem_of_getElem? (i := 16) rfl))) (Or.inr (hw _ (List.mem_of_getElem? (i := 18) rfl))) (by decide) (t := .int) (t' := .int) (by decide) (by decide)))
      have F80 := F72.other W75 (Or.inr (slot_ne (Or.inr (hw _ (List.mem_of_getElem? (i := 20) rfl))) (Or.inr (hw _ (List.mem_of_getElem? (i := 18) rfl))) (by decide) (t := .boolean) (t' := .int) (by decide) (by decide)))
      have F81 := F73.other W75 (Or.inr (slot_ne (Or.inr (hw _ (List.mem_of_getElem? (i := 22) rfl))) (Or.inr (hw _ (List.mem_of_getElem? (i := 18) rfl))) (by decide) (t := .boolean) (t' := .int) (by decide) (by decide)))
      have K82 : Keep h0 h75 [u0] := K74.wr W75 (Or.inl (List.mem_of_getElem? (i := 0) rfl))
      refine Goes.step (S' := T75.setTop (mkF m 85 #[.val (.ref u0), .val (.int p1), .val (.int p2), .val (.int p3), .val (.int p4)] [])) st75 ?_
      refine Goes.step (S' := T75.setTop (mkF m 86 #[.val (.ref u0), .val (.int p1), .val (.int p2), .val (.int p3), .val (.int p4)] [(.ref u0)])) (fun _ k => XS.aloadN X75.here hx rfl (hb hby d1_85) rfl rfl k) ?_
      refine Goes.step (S' := T75.setTop (mkF m 87 #[.val (.ref u0), .val (.int p1), .val (.int p2), .val (.int p3), .val (.int p4)] [(.int p3), (.ref u0)])) (fun _ k => XS.iloadN X75.here hx rfl (hb hby d1_86) rfl  k) ?_
      obtain ⟨T83, h83, X83, e83, W83, st83⟩ := putFN X75 hx hZ hown (hw _ (List.mem_of_getElem? (i := 19) rfl)) Via.refl e75 F80 E_78 (Or.inr ⟨(hw _ (List.mem_of_getElem? (i := 20) rfl)), rfl, hnm⟩) (hw _ (List.mem_of_getElem? (i := 2) rfl)) (ty := .boolean) (v' := (.int (nar .boolean p3))) (by decide) rfl (fits_nar_bool _) (g := (mkF m 87 #[.val (.ref u0), .val (.int p1), .val (.int p2), .val (.int p3), .val (.int p4)] [(.int p3), (.ref u0)])) rfl rfl (hb hby d1_87)
      have Fw83 := F80.same W83
      have N84 := Fr.snoc X83 N76 g_u0
      have Z85 : n0 ≤ h83.size := Nat.le_trans Z77 (Nat.le_of_eq W83.size.symm)
      have E_86 := E_78.wr W83
      have F87 := F79.other W83 (Or.inr (slot_ne (Or.inr (hw _ (List.mem_of_getElem? (i := 16) rfl))) (Or.inr (hw _ (List.mem_of_getElem? (i := 20) rfl))) (by decide) (t := .int) (t' := .boolean) (by decide) (by decide)))
      have F88 := Fw75.other W83 (Or.inr (slot_ne (Or.inr (hw _ (List.mem_of_getElem? (i := 18) rfl))) (Or.inr (hw _ (List.mem_of_getElem? (i := 20) rfl))) (by decide) (t := .int) (t' := .boolean) (by decide) (by decide)))
      have F89 := F81.other W83 (Or.inr (slot_ne (Or.inr (hw _ (List.mem_of_getElem? (i := 22) rfl))) (Or.inr (hw _ (List.mem_of_getElem? (i := 20) rfl))) (by decide) (t := .boolean) (t' := .boolean) (by decide) (by decide)))
      have K90 : Keep h0 h83 [u0] := K82.wr W83 (Or.inl (List.mem_of_getElem? (i := 0) rfl))
      refine Goes.step (S' := T83.setTop (mkF m 90 #[.val (.ref u0), .val (.int p1), .val (.int p2), .val (.int p3), .val (.int p4)] [])) st83 ?_
      refine Goes.step (S' := T83.setTop (mkF m 91 #[.val (.ref u0), .val (.int p1), .val (.int p2), .val (.int p3), .val (.int p4)] [(.ref u0)])) (fun _ k => XS.aloadN X83.here hx rfl (hb hby d1_90) rfl rfl k) ?_
      refine Goes.step (S' := T83.setTop (mkF m 93 #[.val (.ref u0), .val (.int p1), .val (.int p2), .val (.int p3), .val (.int p4)] [(.int p4), (.ref u0)])) (fun _ k => XS.iload X83.here hx rfl (hb hby d1_91) rfl  k) ?_
      obtain ⟨T91, h91, X91, e91, W91, st91⟩ := putFN X83 hx hZ hown (hw _ (List.mem_of_getElem? (i := 21) rfl)) Via.refl e83 F89 E_86 (Or.inr ⟨(hw _ (List.mem_of_getElem? (i := 22) rfl)), rfl, hnm⟩) (hw _ (List.mem_of_getElem? (i := 2) rfl)) (ty := .boolean) (v' := (.int (nar .boolean p4))) (by decide) rfl (fits_nar_bool _) (g := (mkF m 93 #[.val (.ref u0), .val (.int p1), .val (.int p2), .val (.int p3), .val (.int p4)] [(.int p4), (.ref u0)])) rfl rfl (hb hby d1_93)
      have Fw91 := F89.same W91
      have N92 := Fr.snoc X91 N84 g_u0
      have Z93 : n0 ≤ h91.size := Nat.le_trans Z85 (Nat.le_of_eq W91.size.symm)
      have E_94 := E_86.wr W91
      have F95 := F87.other W91 (Or.inr (slot_ne (Or.inr (hw _ (List.mem_of_getElem? (i := 16) rfl))) (Or.inr (hw _ (List.mem_of_getElem? (i := 22) rfl))) (by decide) (t := .int) (t' := .boolean) (by decide) (by decide)))
      have F96 := F88.other W91 (Or.inr (slot_ne (Or.inr (hw _ (List.mem_of_getElem? (i := 18) rfl))) (Or.inr (hw _ (List.mem_of_getElem? (i := 22) rfl))) (by decide) (t := .int) (t' := .boolean) (by decide) (by decide)))
      have F97 := Fw83.other W91 (Or.inr (slot_ne (Or.inr (hw _ (List.mem_of_getElem? (i := 20) rfl))) (Or.inr (hw _ (List.mem_of_getElem? (i := 22) rfl))) (by decide) (t := .boolean) (t' := .boolean) (by decide) (by decide)))
      have K98 : Keep h0 h91 [u0] := K90.wr W91 (Or.inl (List.mem_of_getElem? (i := 0) rfl))
      refine Goes.step (S' := T91.setTop (mkF m 96 #[.val (.ref u0), .val (.int p1), .val (.int p2), .val (.int p3), .val (.int p4)] [])) st91 ?_
      refine Goes.retV X91 hx Bd.notSynchronized Bd.returns (hb hby d1_96) (by decide) (by decide) ?_
      refine ⟨rfl, N92, ?_, ?_, ?_, ?_, ?_, ?_⟩
      · rw [e91]; exact K98
      · rw [e91]; exact E_94
      · rw [e91]; exact F97
      · rw [e91]; exact F96
      · rw [e91]; exact Fw91
      · rw [e91]; exact F95
    · refine Goes.step (S' := T1.setTop (mkF m 29 #[.val (.ref u0), .val (.int p1), .val (.int p2), .val (.int p3), .val (.int p4)] [])) (fun _ k => XS.ifNo X1.here hx rfl (hb hby d1_26) rfl ((if0 _ _).trans (feq hc26_3).1) k) ?_
      refine Goes.step (S' := T1.setTop (mkF m 30 #[.val (.ref u0), .val (.int p1), .val (.int p2), .val (.int p3), .val (.int p4)] [(.int p1)])) (fun _ k => XS.iloadN X1.here hx rfl (hb hby d1_29) rfl  k) ?_
      refine Goes.step (S' := T1.setTop (mkF m 33 #[.val (.ref u0), .val (.int p1), .val (.int p2), .val (.int p3), .val (.int p4)] [])) (fun _ k => XS.ifNo X1.here hx rfl (hb hby d1_30) rfl ((if0 _ _).trans (flt (own_hc1_30_2 p1 p2 p3 p4 hw0 hh0 hcr hvi hc13_1 hc26_3)).2.2.1) k) ?_
      refine Goes.step (S' := T1.setTop (mkF m 34 #[.val (.ref u0), .val (.int p1), .val (.int p2), .val (.int p3), .val (.int p4)] [(.int p2)])) (fun _ k => XS.iloadN X1.here hx rfl (hb hby d1_33) rfl  k) ?_
      refine Goes.step (S' := T1.setTop (mkF m 75 #[.val (.ref u0), .val (.int p1), .val (.int p2), .val (.int p3), .val (.int p4)] [])) (fun _ k => XS.ifYes X1.here hx rfl (pc0 := 34) (pc' := 75) rfl (hb hby d1_34) rfl ((if0 _ _).trans (flt (own_hc1_34_2 p1 p2 p3 p4 hw0 hh0 hcr hvi hc13_1 hc26_3)).2.2.2) (by decide) (by decide) k) ?_
      refine Goes.step (S' := T1.setTop (mkF m 76 #[.val (.ref u0), .val (.int p1), .val (.int p2), .val (.int p3), .val (.int p4)] [(.ref u0)])) (fun _ k => XS.aloadN X1.here hx rfl (hb hby d1_75) rfl rfl k) ?_
      refine Goes.step (S' := T1.setTop (mkF m 77 #[.val (.ref u0), .val (.int p1), .val (.int p2), .val (.int p3), .val (.int p4)] [(.int p1), (.ref u0)])) (fun _ k => XS.iloadN X1.here hx rfl (hb hby d1_76) rfl  k) ?_
      obtain ⟨T99, h99, X99, e99, W99, st99⟩ := putF X1 hx hZ hown (host := "") (Or.inl (hw _ (List.mem_of_getElem? (i := 15) rfl))) Via.refl e1 F_width_u0 E_u0 (Or.inr ⟨(hw _ (List.mem_of_getElem? (i := 16) rfl)), rfl, hnm⟩) (hw _ (List.mem_of_getElem? (i := 2) rfl)) (ty := .int) (by decide) rfl rfl (g := (mkF m 77 #[.val (.ref u0), .val (.int p1), .val (.int p2), .val (.int p3), .val (.int p4)] [(.int p1), (.ref u0)])) rfl rfl (hb hby d1_77)
      have Fw99 := F_width_u0.same W99
      have N100 := Fr.snoc X99 N2 g_u0
      have Z101 : n0 ≤ h99.size := Nat.le_trans Z0 (Nat.le_of_eq W99.size.symm)
      have E_102 := E_u0.wr W99
      have F103 := F_height_u0.other W99 (Or.inr (slot_ne (Or.inr (hw _ (List.mem_of_getElem? (i := 18) rfl))) (Or.inr (hw _ (List.mem_of_getElem? (i := 16) rfl))) (by decide) (t := .int) (t' := .int) (by decide) (by decide)))
      have F104 := F_crop_u0.other W99 (Or.inr (slot_ne (Or.inr (hw _ (List.mem_of_getElem? (i := 20) rfl))) (Or.inr (hw _ (List.mem_of_getElem? (i := 16) rfl))) (by decide) (t := .boolean) (t' := .int) (by decide) (by decide)))
      have F105 := F_video_u0.other W99 (Or.inr (slot_ne (Or.inr (hw _ (List.mem_of_getElem? (i := 22) rfl))) (Or.inr (hw _ (List.mem_of_getElem? (i := 16) rfl))) (by decide) (t := .boolean) (t' := .int) (by decide) (by decide)))
      have K106 : Keep h0 h99 [u0] := K0.wr W99 (Or.inl (List.mem_of_getElem? (i := 0) rfl))
      refine Goes.step (S' := T99.setTop (mkF m 80 #[.val (.ref u0), .val (.int p1), .val (.int p2), .val (.int p3), .val (.int p4)] [])) st99 ?_
      refine Goes.step (S' := T99.setTop (mkF m 81 #[.val (.ref u0), .val (.int p1), .val (.int p2), .val (.int p3), .val (.int p4)] [(.ref u0)])) (fun _ k => XS.aloadN X99.here hx rfl (hb hby d1_80) rfl rfl k) ?_
      refine Goes.step (S' := T99.setTop (mkF m 82 #[.val (.ref u0), .val (.int p1), .val (.int p2), .val (.int p3), .val (.int p4)] [(.int p2), (.ref u0)])) (fun _ k => XS.iloadN X99.here hx rfl (hb hby d1_81) rfl  k) ?_
      obtain ⟨T107, h107, X107, e107, W107, st107⟩ := putF X99 hx hZ hown (host := "") (Or.inl (hw _ (List.mem_of_getElem? (i := 17) rfl))) Via.refl e99 F103 E_102 (Or.inr ⟨(hw _ (List.mem_of_getElem? (i := 18) rfl)), rfl, hnm⟩) (hw _ (List.mem_of_getElem? (i := 2) rfl)) (ty := .int) (by decide) rfl rfl (g := (mkF m 82 #[.val (.ref u0), .val (.int p1), .val (.int p2), .val (.int p3), .val (.int p4)] [(.int p2), (.ref u0)])) rfl rfl (hb hby d1_82)
      have Fw107 := F103.same W107
      have N108 := Fr.snoc X107 N100 g_u0
      have Z109 : n0 ≤ h107.size := Nat.le_trans Z101 (Nat.le_of_eq W107.size.symm)
      have E_110 := E_102.wr W107
      have F111 := Fw99.other W107 (Or.inr (slot_ne (Or.inr (hw _ (List.mem_of_getElem? (i := 16) rfl))) (Or.inr (hw _ (List.mem_of_getElem? (i := 18) rfl))) (by decide) (t := .int) (t' := .int) (by decide) (by decide)))
      have F112 := F104.other W107 (Or.inr (slot_ne (Or.inr (hw _ (List.mem_of_getElem? (i := 20) rfl))) (Or.inr (hw _ (List.mem_of_getElem? (i := 18) rfl))) (by decide) (t := .boolean) (t' := .int) (by decide) (by decide)))
      have F113 := F105.other W107 (Or.inr (slot_ne (Or.inr (hw _ (List.mem_of_getElem? (i := 22) rfl))) (Or.inr (hw _ (List.mem_of_getElem? (i := 18) rfl))) (by decide) (t := .boolean) (t' := .int) (by decide) (by decide)))
      have K114 : Keep h0 h107 [u0] := K106.wr W107 (Or.inl (List.mem_of_getElem? (i := 0) rfl))
      refine Goes.step (S' := T107.setTop (mkF m 85 #[.val (.ref u0), .val (.int p1), .val (.int p2), .val (.int p3), .val (.int p4)] [])) st107 ?_
      refine Goes.step (S' := T107.setTop (mkF m 86 #[.val (.ref u0), .val (.int p1), .val (.int p2), .val (.int p3), .val (.int p4)] [(.ref u0)])) (fun _ k => XS.aloadN X107.here hx rfl (hb hby d1_85) rfl rfl k) ?_
      refine Goes.step (S' := T107.setTop (mkF m 87 #[.val (.ref u0), .val (.int p1), .val (.int p2), .val (.int p3), .val (.int p4)] [(.int p3), (.ref u0)])) (fun _ k => XS.iloadN X107.here hx rfl (hb hby d1_86) rfl  k) ?_
      obtain ⟨T115, h115, X115, e115, W115, st115⟩ := putFN X107 hx hZ hown (hw _ (List.mem_of_getElem? (i := 19) rfl)) Via.refl e107 F112 E_110 (Or.inr ⟨(hw _ (List.mem_of_getElem? (i := 20) rfl)), rfl, hnm⟩) (hw _ (List.mem_of_getElem? (i := 2) rfl)) (ty := .boolean) (v' := (.int (nar .boolean p3))) (by decide) rfl (fits_nar_bool _) (g := (mkF m 87 #[.val (.ref u0), .val (.int p1), .val (.int p2), .val (.int p3), .val (.int p4)] [(.int p3), (.ref u0)])) rfl rfl (hb hby d1_87)
      have Fw115 := F112.same W115
      have N116 := Fr.snoc X115 N108 g_u0
      have Z117 : n0 ≤ h115.size := Nat.le_trans Z109 (Nat.le_of_eq W115.size.symm)
      have E_118 := E_110.wr W115
      have F119 := F111.other W115 (Or.inr (slot_ne (Or.inr (hw _ (List.mem_of_getElem? (i := 16) rfl))) (Or.inr (hw _ (List.mem_of_getElem? (i := 20) rfl))) (by decide) (t := .int) (t' := .boolean) (by decide) (by decide)))
      have F120 := Fw107.other W115 (Or.inr (slot_ne (Or.inr (hw _ (List.mem_of_getElem? (i := 18) rfl))) (Or.inr (hw _ (List.mem_of_getElem? (i := 20) rfl))) (by decide) (t := .int) (t' := .boolean) (by decide) (by decide)))
      have F121 := F113.other W115 (Or.inr (slot_ne (Or.inr (hw _ (List.mem_of_getElem? (i := 22) rfl))) (Or.inr (hw _ (List.mem_of_getElem? (i := 20) rfl))) (by decide) (t := .boolean) (t' := .boolean) (by decide) (by decide)))
      have K122 : Keep h0 h115 [u0] := K114.wr W115 (Or.inl (List.mem_of_getElem? (i := 0) rfl))
      refine Goes.step (S' := T115.setTop (mkF m 90 #[.val (.ref u0), .val (.int p1), .val (.int p2), .val (.int p3), .val (.int p4)] [])) st115 ?_
      refine Goes.step (S' := T115.setTop (mkF m 91 #[.val (.ref u0), .val (.int p1), .val (.int p2), .val (.int p3), .val (.int p4)] [(.ref u0)])) (fun _ k => XS.aloadN X115.here hx rfl (hb hby d1_90) rfl rfl k) ?_
      refine Goes.step (S' := T115.setTop (mkF m 93 #[.val (.ref u0), .val (.int p1), .val (.int p2), .val (.int p3), .val (.int p4)] [(.int p4), (.ref u0)])) (fun _ k => XS.iload X115.here hx rfl (hb hby d1_91) rfl  k) ?_
      obtain ⟨T123, h123, X123, e123, W123, st123⟩ := putFN X115 hx hZ hown (hw _ (List.mem_of_getElem? (i := 21) rfl)) Via.refl e115 F121 E_118 (Or.inr ⟨(hw _ (List.mem_of_getElem? (i := 22) rfl)), rfl, hnm⟩) (hw _ (List.mem_of_getElem? (i := 2) rfl)) (ty := .boolean) (v' := (.int (nar .boolean p4))) (by decide) rfl (fits_nar_bool _) (g := (mkF m 93 #[.val (.ref u0), .val (.int p1), .val (.int p2), .val (.int p3), .val (.int p4)] [(.int p4), (.ref u0)])) rfl rfl (hb hby d1_93)
      have Fw123 := F121.same W123
      have N124 := Fr.snoc X123 N116 g_u0
      have Z125 : n0 ≤ h123.size := Nat.le_trans Z117 (Nat.le_of_eq W123.size.symm)
      have E_126 := E_118.wr W123
      have F127 := F119.other W123 (Or.inr (slot_ne (Or.inr (hw _ (List.mem_of_getElem? (i := 16) rfl))) (Or.inr (hw _ (List.mem_of_getElem? (i := 22) rfl))) (by decide) (t := .int) (t' := .boolean) (by decide) (by decide)))
      have F128 := F120.other W123 (Or.inr (slot_ne (Or.inr (hw _ (List.mem_of_getElem? (i := 18) rfl))) (Or.inr (hw _ (List.mem_of_getElem? (i := 22) rfl))) (by decide) (t := .int) (t' := .boolean) (by decide) (by decide)))
      have F129 := Fw115.other W123 (Or.inr (slot_ne (Or.inr (hw _ (List.mem_of_getElem? (i := 20) rfl))) (Or.inr (hw _ (List.mem_of_getElem? (i := 22) rfl))) (by decide) (t := .boolean) (t' := .boolean) (by decide) (by decide)))
      have K130 : Keep h0 h123 [u0] := K122.wr W123 (Or.inl (List.mem_of_getElem? (i := 0) rfl))
      refine Goes.step (S' := T123.setTop (mkF m 96 #[.val (.ref u0), .val (.int p1), .val (.int p2), .val (.int p3), .val (.int p4)] [])) st123 ?_
      refine Goes.retV X123 hx Bd.notSynchronized Bd.returns (hb hby d1_96) (by decide) (by decide) ?_
      refine ⟨rfl, N124, ?_, ?_, ?_, ?_, ?_, ?_⟩
      · rw [e123]; exact K130
      · rw [e123]; exact E_126
      · rw [e123]; exact F129
      · rw [e123]; exact F128
      · rw [e123]; exact Fw123
      · rw [e123]; exact F127
theorem d4_0 : decode prog_29_method_3_code 0 = .ok (.aload_n 0, 1) := by decide +kernel
theorem d4_1 : decode prog_29_method_3_code 1 = .ok (.getfield 22, 3) := by decide +kernel
theorem d4_4 : decode prog_29_method_3_code 4 = .ok (.ifCond .ne 14, 3) := by decide +kernel
theorem d4_7 : decode prog_29_method_3_code 7 = .ok (.aload_n 0, 1) := by decide +kernel
theorem d4_8 : decode prog_29_method_3_code 8 = .ok (.getfield 28, 3) := by decide +kernel
theorem d4_11 : decode prog_29_method_3_code 11 = .ok (.ifCond .ne 7, 3) := by decide +kernel
theorem d4_14 : decode prog_29_method_3_code 14 = .ok (.iconst 1, 1) := by decide +kernel
theorem d4_15 : decode prog_29_method_3_code 15 = .ok (.goto 4, 3) := by decide +kernel
theorem d4_18 : decode prog_29_method_3_code 18 = .ok (.iconst 0, 1) := by decide +kernel
theorem d4_19 : decode prog_29_method_3_code 19 = .ok (.ireturn, 1) := by decide +kernel
theorem ef4 (m : MethodId) (u0 : Addr) : entryFrame m #[(.ref u0)] 1 = mkF m 0 #[.val (.ref u0)] [] := by first | (simp [entryFrame, mkF, argsToLocals, Value.category]; done) | rfl
def f4 (w_width_u0 : Int32) (w_height_u0 : Int32) (w_crop_u0 : Int32) (w_video_u0 : Int32) : Int32 := (if w_width_u0 = (0 : Int32) then (nar .boolean (if w_height_u0 = (0 : Int32) then (1 : Int32) else (0 : Int32))) else (0 : Int32))
def Q4 (Z : State) (u0 : Addr) (w_width_u0 : Int32) (w_height_u0 : Int32) (w_crop_u0 : Int32) (w_video_u0 : Int32) (h0 : Heap) (n0 : Nat) (v : Option Value) (h : Heap) (L : List Loc) : Prop := v = some (.int (f4 w_width_u0 w_height_u0 w_crop_u0 w_video_u0)) ∧ Fr n0 L ∧ h = h0
set_option maxRecDepth 65536 in
set_option maxHeartbeats 40000000 in
theorem rm4 (l : Launch) (Z : State) (a0 : Array Value) (hw : ∀ d ∈ tables_1, d.before a0 Z = true) (ws : List Jvm.Cond) (u0 : Addr) (w_width_u0 : Int32) (w_height_u0 : Int32) (w_crop_u0 : Int32) (w_video_u0 : Int32) (h0 : Heap) (n0 : Nat) (Z0 : n0 ≤ h0.size) (E_u0 : Exa Z h0 u0 "com/example/proofsheet/proofsheet/core/Rendition") (F_width_u0 : Fld Z h0 u0 "com/example/proofsheet/proofsheet/core/Rendition" "width" "I" (.int w_width_u0)) (F_height_u0 : Fld Z h0 u0 "com/example/proofsheet/proofsheet/core/Rendition" "height" "I" (.int w_height_u0)) (F_crop_u0 : Fld Z h0 u0 "com/example/proofsheet/proofsheet/core/Rendition" "crop" "Z" (.int w_crop_u0)) (F_video_u0 : Fld Z h0 u0 "com/example/proofsheet/proofsheet/core/Rendition" "video" "Z" (.int w_video_u0)) :
    MetFree l (⟨"com/example/proofsheet/proofsheet/core/Rendition", "isOriginal", "()Z"⟩ : MethodName) (head1 (Jvm.Cond.code (⟨"com/example/proofsheet/proofsheet/core/Rendition", "isOriginal", "()Z"⟩ : MethodName) prog_29_method_3_code 1 (some .boolean) :: ws) ({ frames := 0, cells := 0, slots := 0, locals := 0 } : Room)) (fun a U => a = #[(.ref u0)] ∧ Z.Warmed39 U.vm ∧ U.heap = h0) (fun _ _ _ _ _ => True) (fun _ U o U' => ∃ v L, o = .returned v ∧ Q4 Z u0 w_width_u0 w_height_u0 w_crop_u0 w_video_u0 h0 n0 v U'.heap L ∧ FrameEnd U o U' L ({ frames := 0, cells := 0, slots := 0, locals := 0 } : Room).cells ({ frames := 0, cells := 0, slots := 0, locals := 0 } : Room).slots) := by
  refine MetFree.of_bodySF (plainFor_of_name pn1) hisR ?_
  intro p e s m args below meth c s₁ Bd hml0 hP hK
  obtain ⟨rfl, hZ, hh⟩ := hP
  have hx := Bd.exec
  have hby := Bd.bytes
  have hml : c.maxLocals = 1 := hml0
  have hown : s.vm.findClass "com/example/proofsheet/proofsheet/core/Rendition" = some m.cls := findClass_of_methodNamed Bd.named
  have hnm := (name_of_methodNamed Bd.named Bd.method).1
  have X0 : Stand p l e ({ frames := 0, cells := 0, slots := 0, locals := 0 } : Room) s m #[(.ref u0)] below meth c s₁ [] 0 0 := Stand.of_body Bd
  have e0 : s₁.heap = h0 := by rw [← hh, Bd.state]; rfl
  have N0 := Fr.nil n0
  refine Goes.out (Q := fun o U' => ∃ v L, o = .returned v ∧ Q4 Z u0 w_width_u0 w_height_u0 w_crop_u0 w_video_u0 h0 n0 v U'.heap L ∧ FrameEnd s o U' L ({ frames := 0, cells := 0, slots := 0, locals := 0 } : Room).cells ({ frames := 0, cells := 0, slots := 0, locals := 0 } : Room).slots) ?_
  refine Goes.step (S' := s₁.setTop (mkF m 0 #[.val (.ref u0)] [])) (fun _ k => castTop (ef4 m u0) k) ?_
  refine Goes.step (S' := s₁.setTop (mkF m 1 #[.val (.ref u0)] [(.ref u0)])) (fun _ k => XS.aloadN X0.here hx rfl (hb hby d4_0) rfl rfl k) ?_
  obtain ⟨T1, X1, e1, st1⟩ := getF X0 hx hZ hown (host := "") (Or.inl (hw _ (List.mem_of_getElem? (i := 15) rfl))) Via.refl e0 F_width_u0 (g := (mkF m 1 #[.val (.ref u0)] [(.ref u0)])) rfl rfl (hb hby d4_1)
  refine Goes.step (S' := T1.setTop (mkF m 4 #[.val (.ref u0)] [(.int w_width_u0)])) st1 ?_
  by_cases hc4_1 : w_width_u0 = (0 : Int32)
  · refine Goes.step (S' := T1.setTop (mkF m 7 #[.val (.ref u0)] [])) (fun _ k => XS.ifNo X1.here hx rfl (hb hby d4_4) rfl ((if0 _ _).trans (teq hc4_1).2) k) ?_
    refine Goes.step (S' := T1.setTop (mkF m 8 #[.val (.ref u0)] [(.ref u0)])) (fun _ k => XS.aloadN X1.here hx rfl (hb hby d4_7) rfl rfl k) ?_
    obtain ⟨T2, X2, e2, st2⟩ := getF X1 hx hZ hown (host := "") (Or.inl (hw _ (List.mem_of_getElem? (i := 17) rfl))) Via.refl e1 F_height_u0 (g := (mkF m 8 #[.val (.ref u0)] [(.ref u0)])) rfl rfl (hb hby d4_8)
    refine Goes.step (S' := T2.setTop (mkF m 11 #[.val (.ref u0)] [(.int w_height_u0)])) st2 ?_
    refine Goes.step (own_ite1 (T := T2) (c := w_height_u0 = (0 : Int32)) (a0 := (1 : Int32)) (b0 := (0 : Int32)) (F := fun z2_0 => (mkF m 19 #[.val (.ref u0)] [(.int z2_0)])) ?_ ?_) ?_
    · intro hc11_2 t k
      refine XS.ifNo X2.here hx rfl (hb hby d4_11) rfl ((if0 _ _).trans (teq hc11_2).2) ?_
      show Steps p.tables e below (T2.setTop (mkF m 14 #[.val (.ref u0)] [])) _
      refine XS.iconst X2.here hx rfl (hb hby d4_14) ?_
      show Steps p.tables e below (T2.setTop (mkF m 15 #[.val (.ref u0)] [(.int (1 : Int32))])) _
      refine XS.goto X2.here hx rfl (pc0 := 15) (pc' := 19) rfl (hb hby d4_15) (by decide) (by decide) ?_
      show Steps p.tables e below (T2.setTop (mkF m 19 #[.val (.ref u0)] [(.int (1 : Int32))])) _
      exact k
    · intro hc11_2 t k
      refine XS.ifYes X2.here hx rfl (pc0 := 11) (pc' := 18) rfl (hb hby d4_11) rfl ((if0 _ _).trans (feq hc11_2).2) (by decide) (by decide) ?_
      show Steps p.tables e below (T2.setTop (mkF m 18 #[.val (.ref u0)] [])) _
      refine XS.iconst X2.here hx rfl (hb hby d4_18) ?_
      show Steps p.tables e below (T2.setTop (mkF m 19 #[.val (.ref u0)] [(.int (0 : Int32))])) _
      exact k
    show Goes p.tables e below _ (T2.setTop (mkF m 19 #[.val (.ref u0)] [(.int (if w_height_u0 = (0 : Int32) then (1 : Int32) else (0 : Int32)))]))
    refine Goes.retN X2 hx Bd.notSynchronized (t := .boolean) Bd.returns (by simp) (hb hby d4_19) (by decide) (by decide) ?_
    refine ⟨congrArg (fun z => some (Value.int z)) ?_, N0, e2⟩
    rw [f4, if_pos hc4_1]
    try rfl
  · refine Goes.step (S' := T1.setTop (mkF m 18 #[.val (.ref u0)] [])) (fun _ k => XS.ifYes X1.here hx rfl (pc0 := 4) (pc' := 18) rfl (hb hby d4_4) rfl ((if0 _ _).trans (feq hc4_1).2) (by decide) (by decide) k) ?_
    refine Goes.step (S' := T1.setTop (mkF m 19 #[.val (.ref u0)] [(.int (0 : Int32))])) (fun _ k => XS.iconst X1.here hx rfl (hb hby d4_18) k) ?_
    refine Goes.retN X1 hx Bd.notSynchronized (t := .boolean) Bd.returns (by simp) (hb hby d4_19) (by decide) (by decide) ?_
    refine ⟨congrArg (fun z => some (Value.int z)) ?_, N0, e1⟩
    rw [f4, if_neg hc4_1]
    try rfl
theorem pd1 : parseMethodDescriptor "(IIZZ)V" = some ⟨[.int, .int, .boolean, .boolean], none⟩ := by decide +kernel
theorem pd2 : parseMethodDescriptor "()Z" = some ⟨[], some .boolean⟩ := by decide +kernel
theorem pn2 : plainName "com/example/proofsheet/proofsheet/core/RenditionIsOriginalPinLaw" = true := by first | (simp [plainName, overriddenIn]; done) | decide +kernel
theorem ef0 (m : MethodId) (p0 : Int32) (p1 : Int32) (p2 : Int32) : entryFrame m #[(.int p0), (.int p1), (.int p2)] maxLocals = mkF m 0 #[.val (.int p0), .val (.int p1), .val (.int p2), .unset, .unset, .unset, .unset, .unset, .unset, .unset] [] := by first | (simp [entryFrame, mkF, argsToLocals, Value.category, maxLocals]; done) | rfl
theorem own_pr0_88_hw0 (p0 : Int32) (p1 : Int32) (p2 : Int32) (v3_14 : Int32) (ev3_14 : v3_14 = (if (p2 &&& (4 : Int32)) = (0 : Int32) then (p0 &&& (2147483647 : Int32)) else (0 : Int32))) (v4_30 : Int32) (ev4_30 : v4_30 = (if (p2 &&& (8 : Int32)) = (0 : Int32) then (p1 &&& (2147483647 : Int32)) else (0 : Int32))) (v5_43 : Int32) (ev5_43 : v5_43 = (if (p2 &&& (1 : Int32)) = (0 : Int32) then (0 : Int32) else (1 : Int32))) (v3_55 : Int32) (ev3_55 : v3_55 = (if v5_43 = (0 : Int32) then v3_14 else (0 : Int32))) (v4_55 : Int32) (ev4_55 : v4_55 = (if v5_43 = (0 : Int32) then v4_30 else (0 : Int32))) (v6_75 : Int32) (ev6_75 : v6_75 = (if (p2 &&& (2 : Int32)) = (0 : Int32) then (0 : Int32) else (if (0 : Int32) < v3_55 then (if (0 : Int32) < v4_55 then (1 : Int32) else (0 : Int32)) else (0 : Int32)))) : ¬ v3_55 < (0 : Int32) := by
  have a : (p0 &&& 2147483647).toInt = p0.toInt % 2147483648 := c_mask p0 2147483647 31 (by decide) (by decide)
  have b : (p1 &&& 2147483647).toInt = p1.toInt % 2147483648 := c_mask p1 2147483647 31 (by decide) (by decide)
  have w0 : 0 ≤ v3_55.toInt := by
    rw [ev3_55, ev3_14]
    repeat' split
    all_goals first | omega | decide
  have h0 : 0 ≤ v4_55.toInt := by
    rw [ev4_55, ev4_30]
    repeat' split
    all_goals first | omega | decide
  simp only [Int32.lt_iff_toInt_lt, Int32.reduceToInt]
  omega
theorem own_pr0_88_hh0 (p0 : Int32) (p1 : Int32) (p2 : Int32) (v3_14 : Int32) (ev3_14 : v3_14 = (if (p2 &&& (4 : Int32)) = (0 : Int32) then (p0 &&& (2147483647 : Int32)) else (0 : Int32))) (v4_30 : Int32) (ev4_30 : v4_30 = (if (p2 &&& (8 : Int32)) = (0 : Int32) then (p1 &&& (2147483647 : Int32)) else (0 : Int32))) (v5_43 : Int32) (ev5_43 : v5_43 = (if (p2 &&& (1 : Int32)) = (0 : Int32) then (0 : Int32) else (1 : Int32))) (v3_55 : Int32) (ev3_55 : v3_55 = (if v5_43 = (0 : Int32) then v3_14 else (0 : Int32))) (v4_55 : Int32) (ev4_55 : v4_55 = (if v5_43 = (0 : Int32) then v4_30 else (0 : Int32))) (v6_75 : Int32) (ev6_75 : v6_75 = (if (p2 &&& (2 : Int32)) = (0 : Int32) then (0 : Int32) else (if (0 : Int32) < v3_55 then (if (0 : Int32) < v4_55 then (1 : Int32) else (0 : Int32)) else (0 : Int32)))) : ¬ v4_55 < (0 : Int32) := by
  have a : (p0 &&& 2147483647).toInt = p0.toInt % 2147483648 := c_mask p0 2147483647 31 (by decide) (by decide)
  have b : (p1 &&& 2147483647).toInt = p1.toInt % 2147483648 := c_mask p1 2147483647 31 (by decide) (by decide)
  have w0 : 0 ≤ v3_55.toInt := by
    rw [ev3_55, ev3_14]
    repeat' split
    all_goals first | omega | decide
  have h0 : 0 ≤ v4_55.toInt := by
    rw [ev4_55, ev4_30]
    repeat' split
    all_goals first | omega | decide
  simp only [Int32.lt_iff_toInt_lt, Int32.reduceToInt]
  omega
theorem own_pr0_88_hcr (p0 : Int32) (p1 : Int32) (p2 : Int32) (v3_14 : Int32) (ev3_14 : v3_14 = (if (p2 &&& (4 : Int32)) = (0 : Int32) then (p0 &&& (2147483647 : Int32)) else (0 : Int32))) (v4_30 : Int32) (ev4_30 : v4_30 = (if (p2 &&& (8 : Int32)) = (0 : Int32) then (p1 &&& (2147483647 : Int32)) else (0 : Int32))) (v5_43 : Int32) (ev5_43 : v5_43 = (if (p2 &&& (1 : Int32)) = (0 : Int32) then (0 : Int32) else (1 : Int32))) (v3_55 : Int32) (ev3_55 : v3_55 = (if v5_43 = (0 : Int32) then v3_14 else (0 : Int32))) (v4_55 : Int32) (ev4_55 : v4_55 = (if v5_43 = (0 : Int32) then v4_30 else (0 : Int32))) (v6_75 : Int32) (ev6_75 : v6_75 = (if (p2 &&& (2 : Int32)) = (0 : Int32) then (0 : Int32) else (if (0 : Int32) < v3_55 then (if (0 : Int32) < v4_55 then (1 : Int32) else (0 : Int32)) else (0 : Int32)))) : v6_75 = (0 : Int32) ∨ (0 : Int32) < v3_55 ∧ (0 : Int32) < v4_55 := by
  rw [ev6_75]
  by_cases e1 : (p2 &&& (2 : Int32)) = 0
  · rw [if_pos e1]; exact Or.inl rfl
  rw [if_neg e1]
  by_cases e2 : (0 : Int32) < v3_55
  · by_cases e3 : (0 : Int32) < v4_55
    · exact Or.inr ⟨e2, e3⟩
    · rw [if_pos e2, if_neg e3]; exact Or.inl rfl
  · rw [if_neg e2]; exact Or.inl rfl
theorem own_pr0_88_hvi (p0 : Int32) (p1 : Int32) (p2 : Int32) (v3_14 : Int32) (ev3_14 : v3_14 = (if (p2 &&& (4 : Int32)) = (0 : Int32) then (p0 &&& (2147483647 : Int32)) else (0 : Int32))) (v4_30 : Int32) (ev4_30 : v4_30 = (if (p2 &&& (8 : Int32)) = (0 : Int32) then (p1 &&& (2147483647 : Int32)) else (0 : Int32))) (v5_43 : Int32) (ev5_43 : v5_43 = (if (p2 &&& (1 : Int32)) = (0 : Int32) then (0 : Int32) else (1 : Int32))) (v3_55 : Int32) (ev3_55 : v3_55 = (if v5_43 = (0 : Int32) then v3_14 else (0 : Int32))) (v4_55 : Int32) (ev4_55 : v4_55 = (if v5_43 = (0 : Int32) then v4_30 else (0 : Int32))) (v6_75 : Int32) (ev6_75 : v6_75 = (if (p2 &&& (2 : Int32)) = (0 : Int32) then (0 : Int32) else (if (0 : Int32) < v3_55 then (if (0 : Int32) < v4_55 then (1 : Int32) else (0 : Int32)) else (0 : Int32)))) : v5_43 = (0 : Int32) ∨ ¬ (0 : Int32) < v3_55 ∧ ¬ (0 : Int32) < v4_55 := by
  by_cases e : v5_43 = 0
  · exact Or.inl e
  · refine Or.inr ⟨?_, ?_⟩
    · rw [ev3_55, if_neg e]; decide
    · rw [ev4_55, if_neg e]; decide
theorem own_hc0_128 (p0 : Int32) (p1 : Int32) (p2 : Int32) (v3_14 : Int32) (ev3_14 : v3_14 = (if (p2 &&& (4 : Int32)) = (0 : Int32) then (p0 &&& (2147483647 : Int32)) else (0 : Int32))) (v4_30 : Int32) (ev4_30 : v4_30 = (if (p2 &&& (8 : Int32)) = (0 : Int32) then (p1 &&& (2147483647 : Int32)) else (0 : Int32))) (v5_43 : Int32) (ev5_43 : v5_43 = (if (p2 &&& (1 : Int32)) = (0 : Int32) then (0 : Int32) else (1 : Int32))) (v3_55 : Int32) (ev3_55 : v3_55 = (if v5_43 = (0 : Int32) then v3_14 else (0 : Int32))) (v4_55 : Int32) (ev4_55 : v4_55 = (if v5_43 = (0 : Int32) then v4_30 else (0 : Int32))) (v6_75 : Int32) (ev6_75 : v6_75 = (if (p2 &&& (2 : Int32)) = (0 : Int32) then (0 : Int32) else (if (0 : Int32) < v3_55 then (if (0 : Int32) < v4_55 then (1 : Int32) else (0 : Int32)) else (0 : Int32)))) (v8_98 : Int32) (ev8_98 : v8_98 = (f4 v3_55 v4_55 (nar .boolean v6_75) (nar .boolean v5_43))) (v9_124 : Int32) (ev9_124 : v9_124 = (if (0 : Int32) < v3_55 then (0 : Int32) else (if (0 : Int32) < v4_55 then (0 : Int32) else (1 : Int32)))) : v8_98 = v9_124 := by
  have a : (p0 &&& 2147483647).toInt = p0.toInt % 2147483648 := c_mask p0 2147483647 31 (by decide) (by decide)
  have b : (p1 &&& 2147483647).toInt = p1.toInt % 2147483648 := c_mask p1 2147483647 31 (by decide) (by decide)
  have w0 : 0 ≤ v3_55.toInt := by
    rw [ev3_55, ev3_14]
    repeat' split
    all_goals first | omega | decide
  have h0 : 0 ≤ v4_55.toInt := by
    rw [ev4_55, ev4_30]
    repeat' split
    all_goals first | omega | decide
  have k : v8_98 = if v3_55 = 0 then (if v4_55 = 0 then 1 else 0) else 0 := by
    rw [ev8_98]
    unfold f4
    repeat' split
    all_goals first | rfl | contradiction
  rw [k, ev9_124]
  simp only [Int32.lt_iff_toInt_lt, ← Int32.toInt_inj, apply_ite Int32.toInt, apply_ite (nar .boolean), own_nar0, own_nar1, Int32.reduceToInt]
  repeat' split
  all_goals first | rfl | (exfalso; omega)
theorem own_ret0_156 (p0 : Int32) (p1 : Int32) (p2 : Int32) (v3_14 : Int32) (ev3_14 : v3_14 = (if (p2 &&& (4 : Int32)) = (0 : Int32) then (p0 &&& (2147483647 : Int32)) else (0 : Int32))) (v4_30 : Int32) (ev4_30 : v4_30 = (if (p2 &&& (8 : Int32)) = (0 : Int32) then (p1 &&& (2147483647 : Int32)) else (0 : Int32))) (v5_43 : Int32) (ev5_43 : v5_43 = (if (p2 &&& (1 : Int32)) = (0 : Int32) then (0 : Int32) else (1 : Int32))) (v3_55 : Int32) (ev3_55 : v3_55 = (if v5_43 = (0 : Int32) then v3_14 else (0 : Int32))) (v4_55 : Int32) (ev4_55 : v4_55 = (if v5_43 = (0 : Int32) then v4_30 else (0 : Int32))) (v6_75 : Int32) (ev6_75 : v6_75 = (if (p2 &&& (2 : Int32)) = (0 : Int32) then (0 : Int32) else (if (0 : Int32) < v3_55 then (if (0 : Int32) < v4_55 then (1 : Int32) else (0 : Int32)) else (0 : Int32)))) (v8_98 : Int32) (ev8_98 : v8_98 = (f4 v3_55 v4_55 (nar .boolean v6_75) (nar .boolean v5_43))) (v9_124 : Int32) (ev9_124 : v9_124 = (if (0 : Int32) < v3_55 then (0 : Int32) else (if (0 : Int32) < v4_55 then (0 : Int32) else (1 : Int32)))) : (nar .boolean (if v5_43 = (0 : Int32) then (if v6_75 = (0 : Int32) then (1 : Int32) else (if v8_98 = (0 : Int32) then (1 : Int32) else (0 : Int32))) else (if v8_98 = (0 : Int32) then (0 : Int32) else (if v6_75 = (0 : Int32) then (1 : Int32) else (0 : Int32))))) = 1 := by
  have a : (p0 &&& 2147483647).toInt = p0.toInt % 2147483648 := c_mask p0 2147483647 31 (by decide) (by decide)
  have b : (p1 &&& 2147483647).toInt = p1.toInt % 2147483648 := c_mask p1 2147483647 31 (by decide) (by decide)
  have w0 : 0 ≤ v3_55.toInt := by
    rw [ev3_55, ev3_14]
    repeat' split
    all_goals first | omega | decide
  have h0 : 0 ≤ v4_55.toInt := by
    rw [ev4_55, ev4_30]
    repeat' split
    all_goals first | omega | decide
  have k : v8_98 = if v3_55 = 0 then (if v4_55 = 0 then 1 else 0) else 0 := by
    rw [ev8_98]
    unfold f4
    repeat' split
    all_goals first | rfl | contradiction
  have c1 : v6_75 = 0 ∨ ((0 : Int32) < v3_55 ∧ (0 : Int32) < v4_55) := by
    rw [ev6_75]
    by_cases e1 : (p2 &&& (2 : Int32)) = 0
    · rw [if_pos e1]; exact Or.inl rfl
    rw [if_neg e1]
    by_cases e2 : (0 : Int32) < v3_55
    · by_cases e3 : (0 : Int32) < v4_55
      · exact Or.inr ⟨e2, e3⟩
      · rw [if_pos e2, if_neg e3]; exact Or.inl rfl
    · rw [if_neg e2]; exact Or.inl rfl
  have c2 : v5_43 = 0 ∨ (v3_55 = 0 ∧ v4_55 = 0) := by
    by_cases e : v5_43 = 0
    · exact Or.inl e
    · refine Or.inr ⟨?_, ?_⟩
      · rw [ev3_55, if_neg e]
      · rw [ev4_55, if_neg e]
  have c3 : v6_75 = 0 ∨ v8_98 = 0 := by
    rcases c1 with h | ⟨h, -⟩
    · exact Or.inl h
    · refine Or.inr ?_
      rw [k, if_neg]
      intro z
      rw [z] at h
      exact absurd h (by decide)
  have c4 : v5_43 = 0 ∨ (v8_98 = 1 ∧ v6_75 = 0) := by
    rcases c2 with h | ⟨h, h'⟩
    · exact Or.inl h
    · refine Or.inr ⟨by rw [k, if_pos h, if_pos h'], ?_⟩
      rcases c1 with g | ⟨g, -⟩
      · exact g
      · rw [h] at g; exact absurd g (by decide)
  clear ev9_124 ev8_98 ev6_75 ev5_43 k
  rcases c4 with h | ⟨h, h'⟩
  · rw [if_pos h]
    rcases c3 with g | g
    · rw [if_pos g]; rfl
    · by_cases e : v6_75 = 0
      · rw [if_pos e]; rfl
      · rw [if_neg e, if_pos g]; rfl
  · by_cases e : v5_43 = 0
    · rw [if_pos e, if_pos h']; rfl
    · rw [if_neg e, h, if_neg (by decide), if_pos h']; rfl
def Q0 (Z : State) (p0 : Int32) (p1 : Int32) (p2 : Int32) (h0 : Heap) (n0 : Nat) (v : Option Value) (h : Heap) (L : List Loc) : Prop := v = some (.int 1) ∧ Fr n0 L
set_option maxRecDepth 65536 in
set_option maxHeartbeats 40000000 in
theorem rm0 (l : Launch) (Z : State) (a0 : Array Value) (hw : ∀ d ∈ tables_1, d.before a0 Z = true) (ws : List Jvm.Cond) (p0 : Int32) (p1 : Int32) (p2 : Int32) (h0 : Heap) (n0 : Nat) (Z0 : n0 ≤ h0.size) :
    MetFree l x (head1 (Jvm.Cond.code x code maxLocals ret :: ws) room_1) (fun a U => a = #[(.int p0), (.int p1), (.int p2)] ∧ Z.Warmed39 U.vm ∧ U.heap = h0) (fun _ _ _ _ _ => True) (fun _ U o U' => ∃ v L, o = .returned v ∧ Q0 Z p0 p1 p2 h0 n0 v U'.heap L ∧ FrameEnd U o U' L room_1.cells room_1.slots) := by
  refine MetFree.of_bodySF (plainFor_of_name pn2) hisR ?_
  intro p e s m args below meth c s₁ Bd hml0 hP hK
  obtain ⟨rfl, hZ, hh⟩ := hP
  have hx := Bd.exec
  have hby := Bd.bytes
  have hml : c.maxLocals = 10 := hml0
  have hown : s.vm.findClass "com/example/proofsheet/proofsheet/core/RenditionIsOriginalPinLaw" = some m.cls := findClass_of_methodNamed Bd.named
  have hnm := (name_of_methodNamed Bd.named Bd.method).1
  have X0 : Stand p l e room_1 s m #[(.int p0), (.int p1), (.int p2)] below meth c s₁ [] 0 0 := Stand.of_body Bd
  have e0 : s₁.heap = h0 := by rw [← hh, Bd.state]; rfl
  have N0 := Fr.nil n0
  refine Goes.out (Q := fun o U' => ∃ v L, o = .returned v ∧ Q0 Z p0 p1 p2 h0 n0 v U'.heap L ∧ FrameEnd s o U' L room_1.cells room_1.slots) ?_
  refine Goes.step (S' := s₁.setTop (mkF m 0 #[.val (.int p0), .val (.int p1), .val (.int p2), .unset, .unset, .unset, .unset, .unset, .unset, .unset] [])) (fun _ k => castTop (ef0 m p0 p1 p2) k) ?_
  refine Goes.step (S' := s₁.setTop (mkF m 1 #[.val (.int p0), .val (.int p1), .val (.int p2), .unset, .unset, .unset, .unset, .unset, .unset, .unset] [(.int p2)])) (fun _ k => XS.iloadN X0.here hx rfl (hb hby at_0) rfl  k) ?_
  refine Goes.step (S' := s₁.setTop (mkF m 2 #[.val (.int p0), .val (.int p1), .val (.int p2), .unset, .unset, .unset, .unset, .unset, .unset, .unset] [(.int (4 : Int32)), (.int p2)])) (fun _ k => XS.iconst X0.here hx rfl (hb hby at_1) k) ?_
  refine Goes.step (S' := s₁.setTop (mkF m 3 #[.val (.int p0), .val (.int p1), .val (.int p2), .unset, .unset, .unset, .unset, .unset, .unset, .unset] [(.int (p2 &&& (4 : Int32)))])) (fun _ k => XS.iand X0.here hx rfl (hb hby at_2) rfl k) ?_
  refine Goes.step (own_ite1 (T := s₁) (c := (p2 &&& (4 : Int32)) = (0 : Int32)) (a0 := (p0 &&& (2147483647 : Int32))) (b0 := (0 : Int32)) (F := fun z1_0 => (mkF m 14 #[.val (.int p0), .val (.int p1), .val (.int p2), .unset, .unset, .unset, .unset, .unset, .unset, .unset] [(.int z1_0)])) ?_ ?_) ?_
  · intro hc3_1 t k
    refine XS.ifYes X0.here hx rfl (pc0 := 3) (pc' := 10) rfl (hb hby at_3) rfl ((if0 _ _).trans (teq hc3_1).1) (by decide) (by decide) ?_
    show Steps p.tables e below (s₁.setTop (mkF m 10 #[.val (.int p0), .val (.int p1), .val (.int p2), .unset, .unset, .unset, .unset, .unset, .unset, .unset] [])) _
    refine XS.iloadN X0.here hx rfl (hb hby at_10) rfl  ?_
    show Steps p.tables e below (s₁.setTop (mkF m 11 #[.val (.int p0), .val (.int p1), .val (.int p2), .unset, .unset, .unset, .unset, .unset, .unset, .unset] [(.int p0)])) _
    refine X0.ldcInt hx hown (mvT hZ (hw _ (List.mem_of_getElem? (i := 0) rfl))) (g := (mkF m 11 #[.val (.int p0), .val (.int p1), .val (.int p2), .unset, .unset, .unset, .unset, .unset, .unset, .unset] [(.int p0)])) rfl (hb hby at_11) _ ?_
    show Steps p.tables e below (s₁.setTop (mkF m 13 #[.val (.int p0), .val (.int p1), .val (.int p2), .unset, .unset, .unset, .unset, .unset, .unset, .unset] [(.int (2147483647 : Int32)), (.int p0)])) _
    refine XS.iand X0.here hx rfl (hb hby at_13) rfl ?_
    show Steps p.tables e below (s₁.setTop (mkF m 14 #[.val (.int p0), .val (.int p1), .val (.int p2), .unset, .unset, .unset, .unset, .unset, .unset, .unset] [(.int (p0 &&& (2147483647 : Int32)))])) _
    exact k
  · intro hc3_1 t k
    refine XS.ifNo X0.here hx rfl (hb hby at_3) rfl ((if0 _ _).trans (feq hc3_1).1) ?_
    show Steps p.tables e below (s₁.setTop (mkF m 6 #[.val (.int p0), .val (.int p1), .val (.int p2), .unset, .unset, .unset, .unset, .unset, .unset, .unset] [])) _
    refine XS.iconst X0.here hx rfl (hb hby at_6) ?_
    show Steps p.tables e below (s₁.setTop (mkF m 7 #[.val (.int p0), .val (.int p1), .val (.int p2), .unset, .unset, .unset, .unset, .unset, .unset, .unset] [(.int (0 : Int32))])) _
    refine XS.goto X0.here hx rfl (pc0 := 7) (pc' := 14) rfl (hb hby at_7) (by decide) (by decide) ?_
    show Steps p.tables e below (s₁.setTop (mkF m 14 #[.val (.int p0), .val (.int p1), .val (.int p2), .unset, .unset, .unset, .unset, .unset, .unset, .unset] [(.int (0 : Int32))])) _
    exact k
  show Goes p.tables e below _ (s₁.setTop (mkF m 14 #[.val (.int p0), .val (.int p1), .val (.int p2), .unset, .unset, .unset, .unset, .unset, .unset, .unset] [(.int (if (p2 &&& (4 : Int32)) = (0 : Int32) then (p0 &&& (2147483647 : Int32)) else (0 : Int32)))]))
  refine Goes.step (S' := s₁.setTop (mkF m 15 #[.val (.int p0), .val (.int p1), .val (.int p2), .val (.int (if (p2 &&& (4 : Int32)) = (0 : Int32) then (p0 &&& (2147483647 : Int32)) else (0 : Int32))), .unset, .unset, .unset, .unset, .unset, .unset] [])) (fun _ k => XS.istoreN X0.here hx rfl (hb hby at_14) rfl (l' := #[.val (.int p0), .val (.int p1), .val (.int p2), .val (.int (if (p2 &&& (4 : Int32)) = (0 : Int32) then (p0 &&& (2147483647 : Int32)) else (0 : Int32))), .unset, .unset, .unset, .unset, .unset, .unset]) rfl k) ?_
  obtain ⟨v3_14, ev3_14⟩ : ∃ z : Int32, z = (if (p2 &&& (4 : Int32)) = (0 : Int32) then (p0 &&& (2147483647 : Int32)) else (0 : Int32)) := ⟨_, rfl⟩
  rw [← ev3_14]
  refine Goes.step (S' := s₁.setTop (mkF m 16 #[.val (.int p0), .val (.int p1), .val (.int p2), .val (.int v3_14), .unset, .unset, .unset, .unset, .unset, .unset] [(.int p2)])) (fun _ k => XS.iloadN X0.here hx rfl (hb hby at_15) rfl  k) ?_
  refine Goes.step (S' := s₁.setTop (mkF m 18 #[.val (.int p0), .val (.int p1), .val (.int p2), .val (.int v3_14), .unset, .unset, .unset, .unset, .unset, .unset] [(.int (8 : Int32)), (.int p2)])) (fun _ k => XS.bipush X0.here hx rfl (hb hby at_16) k) ?_
  refine Goes.step (S' := s₁.setTop (mkF m 19 #[.val (.int p0), .val (.int p1), .val (.int p2), .val (.int v3_14), .unset, .unset, .unset, .unset, .unset, .unset] [(.int (p2 &&& (8 : Int32)))])) (fun _ k => XS.iand X0.here hx rfl (hb hby at_18) rfl k) ?_
  refine Goes.step (own_ite1 (T := s₁) (c := (p2 &&& (8 : Int32)) = (0 : Int32)) (a0 := (p1 &&& (2147483647 : Int32))) (b0 := (0 : Int32)) (F := fun z2_0 => (mkF m 30 #[.val (.int p0), .val (.int p1), .val (.int p2), .val (.int v3_14), .unset, .unset, .unset, .unset, .unset, .unset] [(.int z2_0)])) ?_ ?_) ?_
  · intro hc19_2 t k
    refine XS.ifYes X0.here hx rfl (pc0 := 19) (pc' := 26) rfl (hb hby at_19) rfl ((if0 _ _).trans (teq hc19_2).1) (by decide) (by decide) ?_
    show Steps p.tables e below (s₁.setTop (mkF m 26 #[.val (.int p0), .val (.int p1), .val (.int p2), .val (.int v3_14), .unset, .unset, .unset, .unset, .unset, .unset] [])) _
    refine XS.iloadN X0.here hx rfl (hb hby at_26) rfl  ?_
    show Steps p.tables e below (s₁.setTop (mkF m 27 #[.val (.int p0), .val (.int p1), .val (.int p2), .val (.int v3_14), .unset, .unset, .unset, .unset, .unset, .unset] [(.int p1)])) _
    refine X0.ldcInt hx hown (mvT hZ (hw _ (List.mem_of_getElem? (i := 0) rfl))) (g := (mkF m 27 #[.val (.int p0), .val (.int p1), .val (.int p2), .val (.int v3_14), .unset, .unset, .unset, .unset, .unset, .unset] [(.int p1)])) rfl (hb hby at_27) _ ?_
    show Steps p.tables e below (s₁.setTop (mkF m 29 #[.val (.int p0), .val (.int p1), .val (.int p2), .val (.int v3_14), .unset, .unset, .unset, .unset, .unset, .unset] [(.int (2147483647 : Int32)), (.int p1)])) _
    refine XS.iand X0.here hx rfl (hb hby at_29) rfl ?_
    show Steps p.tables e below (s₁.setTop (mkF m 30 #[.val (.int p0), .val (.int p1), .val (.int p2), .val (.int v3_14), .unset, .unset, .unset, .unset, .unset, .unset] [(.int (p1 &&& (2147483647 : Int32)))])) _
    exact k
  · intro hc19_2 t k
    refine XS.ifNo X0.here hx rfl (hb hby at_19) rfl ((if0 _ _).trans (feq hc19_2).1) ?_
    show Steps p.tables e below (s₁.setTop (mkF m 22 #[.val (.int p0), .val (.int p1), .val (.int p2), .val (.int v3_14), .unset, .unset, .unset, .unset, .unset, .unset] [])) _
    refine XS.iconst X0.here hx rfl (hb hby at_22) ?_
    show Steps p.tables e below (s₁.setTop (mkF m 23 #[.val (.int p0), .val (.int p1), .val (.int p2), .val (.int v3_14), .unset, .unset, .unset, .unset, .unset, .unset] [(.int (0 : Int32))])) _
    refine XS.goto X0.here hx rfl (pc0 := 23) (pc' := 30) rfl (hb hby at_23) (by decide) (by decide) ?_
    show Steps p.tables e below (s₁.setTop (mkF m 30 #[.val (.int p0), .val (.int p1), .val (.int p2), .val (.int v3_14), .unset, .unset, .unset, .unset, .unset, .unset] [(.int (0 : Int32))])) _
    exact k
  show Goes p.tables e below _ (s₁.setTop (mkF m 30 #[.val (.int p0), .val (.int p1), .val (.int p2), .val (.int v3_14), .unset, .unset, .unset, .unset, .unset, .unset] [(.int (if (p2 &&& (8 : Int32)) = (0 : Int32) then (p1 &&& (2147483647 : Int32)) else (0 : Int32)))]))
  refine Goes.step (S' := s₁.setTop (mkF m 32 #[.val (.int p0), .val (.int p1), .val (.int p2), .val (.int v3_14), .val (.int (if (p2 &&& (8 : Int32)) = (0 : Int32) then (p1 &&& (2147483647 : Int32)) else (0 : Int32))), .unset, .unset, .unset, .unset, .unset] [])) (fun _ k => XS.istore X0.here hx rfl (hb hby at_30) rfl (l' := #[.val (.int p0), .val (.int p1), .val (.int p2), .val (.int v3_14), .val (.int (if (p2 &&& (8 : Int32)) = (0 : Int32) then (p1 &&& (2147483647 : Int32)) else (0 : Int32))), .unset, .unset, .unset, .unset, .unset]) rfl k) ?_
  obtain ⟨v4_30, ev4_30⟩ : ∃ z : Int32, z = (if (p2 &&& (8 : Int32)) = (0 : Int32) then (p1 &&& (2147483647 : Int32)) else (0 : Int32)) := ⟨_, rfl⟩
  rw [← ev4_30]
  refine Goes.step (S' := s₁.setTop (mkF m 33 #[.val (.int p0), .val (.int p1), .val (.int p2), .val (.int v3_14), .val (.int v4_30), .unset, .unset, .unset, .unset, .unset] [(.int p2)])) (fun _ k => XS.iloadN X0.here hx rfl (hb hby at_32) rfl  k) ?_
  refine Goes.step (S' := s₁.setTop (mkF m 34 #[.val (.int p0), .val (.int p1), .val (.int p2), .val (.int v3_14), .val (.int v4_30), .unset, .unset, .unset, .unset, .unset] [(.int (1 : Int32)), (.int p2)])) (fun _ k => XS.iconst X0.here hx rfl (hb hby at_33) k) ?_
  refine Goes.step (S' := s₁.setTop (mkF m 35 #[.val (.int p0), .val (.int p1), .val (.int p2), .val (.int v3_14), .val (.int v4_30), .unset, .unset, .unset, .unset, .unset] [(.int (p2 &&& (1 : Int32)))])) (fun _ k => XS.iand X0.here hx rfl (hb hby at_34) rfl k) ?_
  refine Goes.step (own_ite1 (T := s₁) (c := (p2 &&& (1 : Int32)) = (0 : Int32)) (a0 := (0 : Int32)) (b0 := (1 : Int32)) (F := fun z3_0 => (mkF m 43 #[.val (.int p0), .val (.int p1), .val (.int p2), .val (.int v3_14), .val (.int v4_30), .unset, .unset, .unset, .unset, .unset] [(.int z3_0)])) ?_ ?_) ?_
  · intro hc35_3 t k
    refine XS.ifYes X0.here hx rfl (pc0 := 35) (pc' := 42) rfl (hb hby at_35) rfl ((if0 _ _).trans (teq hc35_3).1) (by decide) (by decide) ?_
    show Steps p.tables e below (s₁.setTop (mkF m 42 #[.val (.int p0), .val (.int p1), .val (.int p2), .val (.int v3_14), .val (.int v4_30), .unset, .unset, .unset, .unset, .unset] [])) _
    refine XS.iconst X0.here hx rfl (hb hby at_42) ?_
    show Steps p.tables e below (s₁.setTop (mkF m 43 #[.val (.int p0), .val (.int p1), .val (.int p2), .val (.int v3_14), .val (.int v4_30), .unset, .unset, .unset, .unset, .unset] [(.int (0 : Int32))])) _
    exact k
  · intro hc35_3 t k
    refine XS.ifNo X0.here hx rfl (hb hby at_35) rfl ((if0 _ _).trans (feq hc35_3).1) ?_
    show Steps p.tables e below (s₁.setTop (mkF m 38 #[.val (.int p0), .val (.int p1), .val (.int p2), .val (.int v3_14), .val (.int v4_30), .unset, .unset, .unset, .unset, .unset] [])) _
    refine XS.iconst X0.here hx rfl (hb hby at_38) ?_
    show Steps p.tables e below (s₁.setTop (mkF m 39 #[.val (.int p0), .val (.int p1), .val (.int p2), .val (.int v3_14), .val (.int v4_30), .unset, .unset, .unset, .unset, .unset] [(.int (1 : Int32))])) _
    refine XS.goto X0.here hx rfl (pc0 := 39) (pc' := 43) rfl (hb hby at_39) (by decide) (by decide) ?_
    show Steps p.tables e below (s₁.setTop (mkF m 43 #[.val (.int p0), .val (.int p1), .val (.int p2), .val (.int v3_14), .val (.int v4_30), .unset, .unset, .unset, .unset, .unset] [(.int (1 : Int32))])) _
    exact k
  show Goes p.tables e below _ (s₁.setTop (mkF m 43 #[.val (.int p0), .val (.int p1), .val (.int p2), .val (.int v3_14), .val (.int v4_30), .unset, .unset, .unset, .unset, .unset] [(.int (if (p2 &&& (1 : Int32)) = (0 : Int32) then (0 : Int32) else (1 : Int32)))]))
  refine Goes.step (S' := s₁.setTop (mkF m 45 #[.val (.int p0), .val (.int p1), .val (.int p2), .val (.int v3_14), .val (.int v4_30), .val (.int (if (p2 &&& (1 : Int32)) = (0 : Int32) then (0 : Int32) else (1 : Int32))), .unset, .unset, .unset, .unset] [])) (fun _ k => XS.istore X0.here hx rfl (hb hby at_43) rfl (l' := #[.val (.int p0), .val (.int p1), .val (.int p2), .val (.int v3_14), .val (.int v4_30), .val (.int (if (p2 &&& (1 : Int32)) = (0 : Int32) then (0 : Int32) else (1 : Int32))), .unset, .unset, .unset, .unset]) rfl k) ?_
  obtain ⟨v5_43, ev5_43⟩ : ∃ z : Int32, z = (if (p2 &&& (1 : Int32)) = (0 : Int32) then (0 : Int32) else (1 : Int32)) := ⟨_, rfl⟩
  rw [← ev5_43]
  refine Goes.step (S' := s₁.setTop (mkF m 47 #[.val (.int p0), .val (.int p1), .val (.int p2), .val (.int v3_14), .val (.int v4_30), .val (.int v5_43), .unset, .unset, .unset, .unset] [(.int v5_43)])) (fun _ k => XS.iload X0.here hx rfl (hb hby at_45) rfl  k) ?_
  refine Goes.step (own_ite2 (T := s₁) (c := v5_43 = (0 : Int32)) (a0 := v3_14) (b0 := (0 : Int32)) (a1 := v4_30) (b1 := (0 : Int32)) (F := fun z4_0 z4_1 => (mkF m 55 #[.val (.int p0), .val (.int p1), .val (.int p2), .val (.int z4_0), .val (.int z4_1), .val (.int v5_43), .unset, .unset, .unset, .unset] [])) ?_ ?_) ?_
  · intro hc47_4 t k
    refine XS.ifYes X0.here hx rfl (pc0 := 47) (pc' := 55) rfl (hb hby at_47) rfl ((if0 _ _).trans (teq hc47_4).1) (by decide) (by decide) ?_
    show Steps p.tables e below (s₁.setTop (mkF m 55 #[.val (.int p0), .val (.int p1), .val (.int p2), .val (.int v3_14), .val (.int v4_30), .val (.int v5_43), .unset, .unset, .unset, .unset] [])) _
    exact k
  · intro hc47_4 t k
    refine XS.ifNo X0.here hx rfl (hb hby at_47) rfl ((if0 _ _).trans (feq hc47_4).1) ?_
    show Steps p.tables e below (s₁.setTop (mkF m 50 #[.val (.int p0), .val (.int p1), .val (.int p2), .val (.int v3_14), .val (.int v4_30), .val (.int v5_43), .unset, .unset, .unset, .unset] [])) _
    refine XS.iconst X0.here hx rfl (hb hby at_50) ?_
    show Steps p.tables e below (s₁.setTop (mkF m 51 #[.val (.int p0), .val (.int p1), .val (.int p2), .val (.int v3_14), .val (.int v4_30), .val (.int v5_43), .unset, .unset, .unset, .unset] [(.int (0 : Int32))])) _
    refine XS.istoreN X0.here hx rfl (hb hby at_51) rfl (l' := #[.val (.int p0), .val (.int p1), .val (.int p2), .val (.int (0 : Int32)), .val (.int v4_30), .val (.int v5_43), .unset, .unset, .unset, .unset]) rfl ?_
    show Steps p.tables e below (s₁.setTop (mkF m 52 #[.val (.int p0), .val (.int p1), .val (.int p2), .val (.int (0 : Int32)), .val (.int v4_30), .val (.int v5_43), .unset, .unset, .unset, .unset] [])) _
    refine XS.iconst X0.here hx rfl (hb hby at_52) ?_
    show Steps p.tables e below (s₁.setTop (mkF m 53 #[.val (.int p0), .val (.int p1), .val (.int p2), .val (.int (0 : Int32)), .val (.int v4_30), .val (.int v5_43), .unset, .unset, .unset, .unset] [(.int (0 : Int32))])) _
    refine XS.istore X0.here hx rfl (hb hby at_53) rfl (l' := #[.val (.int p0), .val (.int p1), .val (.int p2), .val (.int (0 : Int32)), .val (.int (0 : Int32)), .val (.int v5_43), .unset, .unset, .unset, .unset]) rfl ?_
    show Steps p.tables e below (s₁.setTop (mkF m 55 #[.val (.int p0), .val (.int p1), .val (.int p2), .val (.int (0 : Int32)), .val (.int (0 : Int32)), .val (.int v5_43), .unset, .unset, .unset, .unset] [])) _
    exact k
  show Goes p.tables e below _ (s₁.setTop (mkF m 55 #[.val (.int p0), .val (.int p1), .val (.int p2), .val (.int (if v5_43 = (0 : Int32) then v3_14 else (0 : Int32))), .val (.int (if v5_43 = (0 : Int32) then v4_30 else (0 : Int32))), .val (.int v5_43), .unset, .unset, .unset, .unset] []))
  obtain ⟨v3_55, ev3_55⟩ : ∃ z : Int32, z = (if v5_43 = (0 : Int32) then v3_14 else (0 : Int32)) := ⟨_, rfl⟩
  rw [← ev3_55]
  obtain ⟨v4_55, ev4_55⟩ : ∃ z : Int32, z = (if v5_43 = (0 : Int32) then v4_30 else (0 : Int32)) := ⟨_, rfl⟩
  rw [← ev4_55]
  refine Goes.step (S' := s₁.setTop (mkF m 56 #[.val (.int p0), .val (.int p1), .val (.int p2), .val (.int v3_55), .val (.int v4_55), .val (.int v5_43), .unset, .unset, .unset, .unset] [(.int p2)])) (fun _ k => XS.iloadN X0.here hx rfl (hb hby at_55) rfl  k) ?_
  refine Goes.step (S' := s₁.setTop (mkF m 57 #[.val (.int p0), .val (.int p1), .val (.int p2), .val (.int v3_55), .val (.int v4_55), .val (.int v5_43), .unset, .unset, .unset, .unset] [(.int (2 : Int32)), (.int p2)])) (fun _ k => XS.iconst X0.here hx rfl (hb hby at_56) k) ?_
  refine Goes.step (S' := s₁.setTop (mkF m 58 #[.val (.int p0), .val (.int p1), .val (.int p2), .val (.int v3_55), .val (.int v4_55), .val (.int v5_43), .unset, .unset, .unset, .unset] [(.int (p2 &&& (2 : Int32)))])) (fun _ k => XS.iand X0.here hx rfl (hb hby at_57) rfl k) ?_
  refine Goes.step (own_ite1 (T := s₁) (c := (p2 &&& (2 : Int32)) = (0 : Int32)) (a0 := (0 : Int32)) (b0 := (if (0 : Int32) < v3_55 then (if (0 : Int32) < v4_55 then (1 : Int32) else (0 : Int32)) else (0 : Int32))) (F := fun z7_0 => (mkF m 75 #[.val (.int p0), .val (.int p1), .val (.int p2), .val (.int v3_55), .val (.int v4_55), .val (.int v5_43), .unset, .unset, .unset, .unset] [(.int z7_0)])) ?_ ?_) ?_
  · intro hc58_5 t k
    refine XS.ifYes X0.here hx rfl (pc0 := 58) (pc' := 74) rfl (hb hby at_58) rfl ((if0 _ _).trans (teq hc58_5).1) (by decide) (by decide) ?_
    show Steps p.tables e below (s₁.setTop (mkF m 74 #[.val (.int p0), .val (.int p1), .val (.int p2), .val (.int v3_55), .val (.int v4_55), .val (.int v5_43), .unset, .unset, .unset, .unset] [])) _
    refine XS.iconst X0.here hx rfl (hb hby at_74) ?_
    show Steps p.tables e below (s₁.setTop (mkF m 75 #[.val (.int p0), .val (.int p1), .val (.int p2), .val (.int v3_55), .val (.int v4_55), .val (.int v5_43), .unset, .unset, .unset, .unset] [(.int (0 : Int32))])) _
    exact k
  · intro hc58_5 t k
    refine XS.ifNo X0.here hx rfl (hb hby at_58) rfl ((if0 _ _).trans (feq hc58_5).1) ?_
    show Steps p.tables e below (s₁.setTop (mkF m 61 #[.val (.int p0), .val (.int p1), .val (.int p2), .val (.int v3_55), .val (.int v4_55), .val (.int v5_43), .unset, .unset, .unset, .unset] [])) _
    refine XS.iloadN X0.here hx rfl (hb hby at_61) rfl  ?_
    show Steps p.tables e below (s₁.setTop (mkF m 62 #[.val (.int p0), .val (.int p1), .val (.int p2), .val (.int v3_55), .val (.int v4_55), .val (.int v5_43), .unset, .unset, .unset, .unset] [(.int v3_55)])) _
    refine own_ite1 (T := s₁) (c := (0 : Int32) < v3_55) (a0 := (if (0 : Int32) < v4_55 then (1 : Int32) else (0 : Int32))) (b0 := (0 : Int32)) (F := fun z7_0 => (mkF m 75 #[.val (.int p0), .val (.int p1), .val (.int p2), .val (.int v3_55), .val (.int v4_55), .val (.int v5_43), .unset, .unset, .unset, .unset] [(.int z7_0)])) ?_ ?_ _ ?_
    · intro hc62_6 t k
      refine XS.ifNo X0.here hx rfl (hb hby at_62) rfl ((if0 _ _).trans (tlt hc62_6).2.2.2) ?_
      show Steps p.tables e below (s₁.setTop (mkF m 65 #[.val (.int p0), .val (.int p1), .val (.int p2), .val (.int v3_55), .val (.int v4_55), .val (.int v5_43), .unset, .unset, .unset, .unset] [])) _
      refine XS.iload X0.here hx rfl (hb hby at_65) rfl  ?_
      show Steps p.tables e below (s₁.setTop (mkF m 67 #[.val (.int p0), .val (.int p1), .val (.int p2), .val (.int v3_55), .val (.int v4_55), .val (.int v5_43), .unset, .unset, .unset, .unset] [(.int v4_55)])) _
      refine own_ite1 (T := s₁) (c := (0 : Int32) < v4_55) (a0 := (1 : Int32)) (b0 := (0 : Int32)) (F := fun z7_0 => (mkF m 75 #[.val (.int p0), .val (.int p1), .val (.int p2), .val (.int v3_55), .val (.int v4_55), .val (.int v5_43), .unset, .unset, .unset, .unset] [(.int z7_0)])) ?_ ?_ _ ?_
      · intro hc67_7 t k
        refine XS.ifNo X0.here hx rfl (hb hby at_67) rfl ((if0 _ _).trans (tlt hc67_7).2.2.2) ?_
        show Steps p.tables e below (s₁.setTop (mkF m 70 #[.val (.int p0), .val (.int p1), .val (.int p2), .val (.int v3_55), .val (.int v4_55), .val (.int v5_43), .unset, .unset, .unset, .unset] [])) _
        refine XS.iconst X0.here hx rfl (hb hby at_70) ?_
        show Steps p.tables e below (s₁.setTop (mkF m 71 #[.val (.int p0), .val (.int p1), .val (.int p2), .val (.int v3_55), .val (.int v4_55), .val (.int v5_43), .unset, .unset, .unset, .unset] [(.int (1 : Int32))])) _
        refine XS.goto X0.here hx rfl (pc0 := 71) (pc' := 75) rfl (hb hby at_71) (by decide) (by decide) ?_
        show Steps p.tables e below (s₁.setTop (mkF m 75 #[.val (.int p0), .val (.int p1), .val (.int p2), .val (.int v3_55), .val (.int v4_55), .val (.int v5_43), .unset, .unset, .unset, .unset] [(.int (1 : Int32))])) _
        exact k
      · intro hc67_7 t k
        refine XS.ifYes X0.here hx rfl (pc0 := 67) (pc' := 74) rfl (hb hby at_67) rfl ((if0 _ _).trans (flt hc67_7).2.2.2) (by decide) (by decide) ?_
        show Steps p.tables e below (s₁.setTop (mkF m 74 #[.val (.int p0), .val (.int p1), .val (.int p2), .val (.int v3_55), .val (.int v4_55), .val (.int v5_43), .unset, .unset, .unset, .unset] [])) _
        refine XS.iconst X0.here hx rfl (hb hby at_74) ?_
        show Steps p.tables e below (s₁.setTop (mkF m 75 #[.val (.int p0), .val (.int p1), .val (.int p2), .val (.int v3_55), .val (.int v4_55), .val (.int v5_43), .unset, .unset, .unset, .unset] [(.int (0 : Int32))])) _
        exact k
      show Steps p.tables e below (s₁.setTop (mkF m 75 #[.val (.int p0), .val (.int p1), .val (.int p2), .val (.int v3_55), .val (.int v4_55), .val (.int v5_43), .unset, .unset, .unset, .unset] [(.int (if (0 : Int32) < v4_55 then (1 : Int32) else (0 : Int32)))])) _
      exact k
    · intro hc62_6 t k
      refine XS.ifYes X0.here hx rfl (pc0 := 62) (pc' := 74) rfl (hb hby at_62) rfl ((if0 _ _).trans (flt hc62_6).2.2.2) (by decide) (by decide) ?_
      show Steps p.tables e below (s₁.setTop (mkF m 74 #[.val (.int p0), .val (.int p1), .val (.int p2), .val (.int v3_55), .val (.int v4_55), .val (.int v5_43), .unset, .unset, .unset, .unset] [])) _
      refine XS.iconst X0.here hx rfl (hb hby at_74) ?_
      show Steps p.tables e below (s₁.setTop (mkF m 75 #[.val (.int p0), .val (.int p1), .val (.int p2), .val (.int v3_55), .val (.int v4_55), .val (.int v5_43), .unset, .unset, .unset, .unset] [(.int (0 : Int32))])) _
      exact k
    show Steps p.tables e below (s₁.setTop (mkF m 75 #[.val (.int p0), .val (.int p1), .val (.int p2), .val (.int v3_55), .val (.int v4_55), .val (.int v5_43), .unset, .unset, .unset, .unset] [(.int (if (0 : Int32) < v3_55 then (if (0 : Int32) < v4_55 then (1 : Int32) else (0 : Int32)) else (0 : Int32)))])) _
    exact k
  show Goes p.tables e below _ (s₁.setTop (mkF m 75 #[.val (.int p0), .val (.int p1), .val (.int p2), .val (.int v3_55), .val (.int v4_55), .val (.int v5_43), .unset, .unset, .unset, .unset] [(.int (if (p2 &&& (2 : Int32)) = (0 : Int32) then (0 : Int32) else (if (0 : Int32) < v3_55 then (if (0 : Int32) < v4_55 then (1 : Int32) else (0 : Int32)) else (0 : Int32))))]))
  refine Goes.step (S' := s₁.setTop (mkF m 77 #[.val (.int p0), .val (.int p1), .val (.int p2), .val (.int v3_55), .val (.int v4_55), .val (.int v5_43), .val (.int (if (p2 &&& (2 : Int32)) = (0 : Int32) then (0 : Int32) else (if (0 : Int32) < v3_55 then (if (0 : Int32) < v4_55 then (1 : Int32) else (0 : Int32)) else (0 : Int32)))), .unset, .unset, .unset] [])) (fun _ k => XS.istore X0.here hx rfl (hb hby at_75) rfl (l' := #[.val (.int p0), .val (.int p1), .val (.int p2), .val (.int v3_55), .val (.int v4_55), .val (.int v5_43), .val (.int (if (p2 &&& (2 : Int32)) = (0 : Int32) then (0 : Int32) else (if (0 : Int32) < v3_55 then (if (0 : Int32) < v4_55 then (1 : Int32) else (0 : Int32)) else (0 : Int32)))), .unset, .unset, .unset]) rfl k) ?_
  obtain ⟨v6_75, ev6_75⟩ : ∃ z : Int32, z = (if (p2 &&& (2 : Int32)) = (0 : Int32) then (0 : Int32) else (if (0 : Int32) < v3_55 then (if (0 : Int32) < v4_55 then (1 : Int32) else (0 : Int32)) else (0 : Int32))) := ⟨_, rfl⟩
  rw [← ev6_75]
  obtain ⟨T1, h1, X1, e1, E1, A1, D1, -, st1⟩ := newO X0 hx hZ hown (hw _ (List.mem_of_getElem? (i := 1) rfl)) (hw _ (List.mem_of_getElem? (i := 2) rfl)) (hw _ (List.mem_of_getElem? (i := 3) rfl)) e0 (g := (mkF m 77 #[.val (.int p0), .val (.int p1), .val (.int p2), .val (.int v3_55), .val (.int v4_55), .val (.int v5_43), .val (.int v6_75), .unset, .unset, .unset] [])) rfl (hb hby at_77) (by decide) (by decide)
  obtain ⟨b1, g1⟩ : ∃ z, z = h0.size := ⟨_, rfl⟩
  rw [← g1] at A1 D1 st1
  have g2 : n0 ≤ b1 := Nat.le_trans Z0 (Nat.le_of_eq g1.symm)
  have Z3 : n0 ≤ h1.size := Nat.le_trans Z0 E1.1
  have F4 : Fld Z h1 b1 "com/example/proofsheet/proofsheet/core/Rendition" "width" "I" (.int (0 : Int32)) := D1 (Or.inr (hw _ (List.mem_of_getElem? (i := 16) rfl))) (ty := .int) (by decide)
  have F5 : Fld Z h1 b1 "com/example/proofsheet/proofsheet/core/Rendition" "height" "I" (.int (0 : Int32)) := D1 (Or.inr (hw _ (List.mem_of_getElem? (i := 18) rfl))) (ty := .int) (by decide)
  have F6 : Fld Z h1 b1 "com/example/proofsheet/proofsheet/core/Rendition" "crop" "Z" (.int (0 : Int32)) := D1 (Or.inr (hw _ (List.mem_of_getElem? (i := 20) rfl))) (ty := .boolean) (by decide)
  have F7 : Fld Z h1 b1 "com/example/proofsheet/proofsheet/core/Rendition" "video" "Z" (.int (0 : Int32)) := D1 (Or.inr (hw _ (List.mem_of_getElem? (i := 22) rfl))) (ty := .boolean) (by decide)
  refine Goes.step (S' := T1.setTop (mkF m 80 #[.val (.int p0), .val (.int p1), .val (.int p2), .val (.int v3_55), .val (.int v4_55), .val (.int v5_43), .val (.int v6_75), .unset, .unset, .unset] [(.ref b1)])) st1 ?_
  refine Goes.step (S' := T1.setTop (mkF m 81 #[.val (.int p0), .val (.int p1), .val (.int p2), .val (.int v3_55), .val (.int v4_55), .val (.int v5_43), .val (.int v6_75), .unset, .unset, .unset] [(.ref b1), (.ref b1)])) (fun _ k => XS.dup X1.here hx rfl (hb hby at_80) rfl rfl k) ?_
  refine Goes.step (S' := T1.setTop (mkF m 82 #[.val (.int p0), .val (.int p1), .val (.int p2), .val (.int v3_55), .val (.int v4_55), .val (.int v5_43), .val (.int v6_75), .unset, .unset, .unset] [(.int v3_55), (.ref b1), (.ref b1)])) (fun _ k => XS.iloadN X1.here hx rfl (hb hby at_81) rfl  k) ?_
  refine Goes.step (S' := T1.setTop (mkF m 84 #[.val (.int p0), .val (.int p1), .val (.int p2), .val (.int v3_55), .val (.int v4_55), .val (.int v5_43), .val (.int v6_75), .unset, .unset, .unset] [(.int v4_55), (.int v3_55), (.ref b1), (.ref b1)])) (fun _ k => XS.iload X1.here hx rfl (hb hby at_82) rfl  k) ?_
  refine Goes.step (S' := T1.setTop (mkF m 86 #[.val (.int p0), .val (.int p1), .val (.int p2), .val (.int v3_55), .val (.int v4_55), .val (.int v5_43), .val (.int v6_75), .unset, .unset, .unset] [(.int v6_75), (.int v4_55), (.int v3_55), (.ref b1), (.ref b1)])) (fun _ k => XS.iload X1.here hx rfl (hb hby at_84) rfl  k) ?_
  refine Goes.step (S' := T1.setTop (mkF m 88 #[.val (.int p0), .val (.int p1), .val (.int p2), .val (.int v3_55), .val (.int v4_55), .val (.int v5_43), .val (.int v6_75), .unset, .unset, .unset] [(.int v5_43), (.int v6_75), (.int v4_55), (.int v3_55), (.ref b1), (.ref b1)])) (fun _ k => XS.iload X1.here hx rfl (hb hby at_86) rfl  k) ?_
  obtain ⟨_, _, ⟨T8, L8, k8, n8⟩, -, X8, ⟨Lc8, hQ8, l8, y8, z8⟩, st8⟩ := X1.specialBack hx (y := (⟨"com/example/proofsheet/proofsheet/core/Rendition", "<init>", "(IIZZ)V"⟩ : MethodName)) rfl hown (mvT hZ (hw _ (List.mem_of_getElem? (i := 4) rfl))) (mvT hZ (hw _ (List.mem_of_getElem? (i := 5) rfl))) (mvT hZ (hw _ (List.mem_of_getElem? (i := 6) rfl))) (by decide) (backOf (W := 1) (rm1 l Z a0 hw [] b1 v3_55 v4_55 v6_75 v5_43 h1 n0 Z3 A1 F4 F5 F6 F7 g2 (own_pr0_88_hw0 p0 p1 p2 v3_14 ev3_14 v4_30 ev4_30 v5_43 ev5_43 v3_55 ev3_55 v4_55 ev4_55 v6_75 ev6_75) (own_pr0_88_hh0 p0 p1 p2 v3_14 ev3_14 v4_30 ev4_30 v5_43 ev5_43 v3_55 ev3_55 v4_55 ev4_55 v6_75 ev6_75) (own_pr0_88_hcr p0 p1 p2 v3_14 ev3_14 v4_30 ev4_30 v5_43 ev5_43 v3_55 ev3_55 v4_55 ev4_55 v6_75 ev6_75) (own_pr0_88_hvi p0 p1 p2 v3_14 ev3_14 v4_30 ev4_30 v5_43 ev5_43 v3_55 ev3_55 v4_55 ev4_55 v6_75 ev6_75)) hZ (hw _ (List.mem_of_getElem? (i := 6) rfl)) (hw _ (List.mem_of_getElem? (i := 3) rfl)) (by decide) (by decide)) (g := (mkF m 88 #[.val (.int p0), .val (.int p1), .val (.int p2), .val (.int v3_55), .val (.int v4_55), .val (.int v5_43), .val (.int v6_75), .unset, .unset, .unset] [(.int v5_43), (.int v6_75), (.int v4_55), (.int v3_55), (.ref b1), (.ref b1)])) rfl (by rw [hml]; rfl) (Steps.refl _) (a := b1) (argsL := [(.int v3_55), (.int v4_55), (.int v6_75), (.int v5_43)]) (rest := [(.ref b1)]) (lenOf pd1 rfl) rfl (by show 2 * 0 + _ ≤ _; exact Nat.le_of_eq rfl) (hb hby at_88) (fun _ _ => ⟨rfl, e1, (by decide : 1 + 0 ≤ _), (by decide : 4 + 0 ≤ _)⟩)
  dsimp only [Pt.U, Pt.locs, Pt.cells, Pt.slots] at X8 l8 y8 z8 st8 hQ8
  subst l8 y8 z8
  obtain ⟨rfl, N8q, K8q, E_9, F10, F11, F12, F13⟩ := hQ8
  have N14 := Fr.app N0 N8q
  have E_15 := A1.keep K8q
  have Z16 : n0 ≤ T8.heap.size := Nat.le_trans Z3 K8q.1
  refine Goes.step (S' := T8.setTop (mkF m 91 #[.val (.int p0), .val (.int p1), .val (.int p2), .val (.int v3_55), .val (.int v4_55), .val (.int v5_43), .val (.int v6_75), .unset, .unset, .unset] [(.ref b1)])) (fun _ k => st8.trans k) ?_
  refine Goes.step (S' := T8.setTop (mkF m 93 #[.val (.int p0), .val (.int p1), .val (.int p2), .val (.int v3_55), .val (.int v4_55), .val (.int v5_43), .val (.int v6_75), .val (.ref b1), .unset, .unset] [])) (fun _ k => XS.astore X8.here hx rfl (hb hby at_91) rfl rfl (l' := #[.val (.int p0), .val (.int p1), .val (.int p2), .val (.int v3_55), .val (.int v4_55), .val (.int v5_43), .val (.int v6_75), .val (.ref b1), .unset, .unset]) rfl k) ?_
  refine Goes.step (S' := T8.setTop (mkF m 95 #[.val (.int p0), .val (.int p1), .val (.int p2), .val (.int v3_55), .val (.int v4_55), .val (.int v5_43), .val (.int v6_75), .val (.ref b1), .unset, .unset] [(.ref b1)])) (fun _ k => XS.aload X8.here hx rfl (hb hby at_93) rfl rfl k) ?_
  obtain ⟨cq17, kq17, q17a, q17b, q17c⟩ := isOf hZ rfl E_9
  obtain ⟨_, _, ⟨T17, L17, k17, n17⟩, -, X17, ⟨Lc17, hQ17, l17, y17, z17⟩, st17⟩ := X8.virtualBack hx (y := (⟨"com/example/proofsheet/proofsheet/core/Rendition", "isOriginal", "()Z"⟩ : MethodName)) (z := (⟨"com/example/proofsheet/proofsheet/core/Rendition", "isOriginal", "()Z"⟩ : MethodName)) hown (mvT hZ (hw _ (List.mem_of_getElem? (i := 23) rfl))) (mvT hZ (hw _ (List.mem_of_getElem? (i := 24) rfl))) (notFace_of_selects (args := #[]) (mvT hZ (hw _ (List.mem_of_getElem? (i := 26) rfl)))) (mvT hZ (hw _ (List.mem_of_getElem? (i := 26) rfl))) (mvT hZ (hw _ (List.mem_of_getElem? (i := 25) rfl))) (by decide) (backOf (W := 0) (rm4 l Z a0 hw [] b1 v3_55 v4_55 ((nar .boolean v6_75)) ((nar .boolean v5_43)) T8.heap n0 Z16 E_9 F13 F11 F10 F12) hZ (hw _ (List.mem_of_getElem? (i := 27) rfl)) (hw _ (List.mem_of_getElem? (i := 3) rfl)) (by decide) (by decide)) q17a q17c (g := (mkF m 95 #[.val (.int p0), .val (.int p1), .val (.int p2), .val (.int v3_55), .val (.int v4_55), .val (.int v5_43), .val (.int v6_75), .val (.ref b1), .unset, .unset] [(.ref b1)])) rfl (by rw [hml]; rfl) (Steps.refl _) (argsL := []) (rest := []) (lenOf pd2 rfl) rfl (by show 2 * 0 + _ ≤ _; exact Nat.le_of_eq rfl) (hb hby at_95) (fun _ _ => ⟨rfl, rfl, (by decide : 1 + 0 ≤ _), (by decide : 4 + 0 ≤ _)⟩)
  dsimp only [Pt.U, Pt.locs, Pt.cells, Pt.slots] at X17 l17 y17 z17 st17 hQ17
  subst l17 y17 z17
  obtain ⟨rfl, N17q, e17⟩ := hQ17
  have N18 := Fr.app N14 N17q
  refine Goes.step (S' := T17.setTop (mkF m 98 #[.val (.int p0), .val (.int p1), .val (.int p2), .val (.int v3_55), .val (.int v4_55), .val (.int v5_43), .val (.int v6_75), .val (.ref b1), .unset, .unset] [(.int (f4 v3_55 v4_55 (nar .boolean v6_75) (nar .boolean v5_43)))])) (fun _ k => st17.trans k) ?_
  refine Goes.step (S' := T17.setTop (mkF m 100 #[.val (.int p0), .val (.int p1), .val (.int p2), .val (.int v3_55), .val (.int v4_55), .val (.int v5_43), .val (.int v6_75), .val (.ref b1), .val (.int (f4 v3_55 v4_55 (nar .boolean v6_75) (nar .boolean v5_43))), .unset] [])) (fun _ k => XS.istore X17.here hx rfl (hb hby at_98) rfl (l' := #[.val (.int p0), .val (.int p1), .val (.int p2), .val (.int v3_55), .val (.int v4_55), .val (.int v5_43), .val (.int v6_75), .val (.ref b1), .val (.int (f4 v3_55 v4_55 (nar .boolean v6_75) (nar .boolean v5_43))), .unset]) rfl k) ?_
  obtain ⟨v8_98, ev8_98⟩ : ∃ z : Int32, z = (f4 v3_55 v4_55 (nar .boolean v6_75) (nar .boolean v5_43)) := ⟨_, rfl⟩
  rw [← ev8_98]
  refine Goes.step (S' := T17.setTop (mkF m 101 #[.val (.int p0), .val (.int p1), .val (.int p2), .val (.int v3_55), .val (.int v4_55), .val (.int v5_43), .val (.int v6_75), .val (.ref b1), .val (.int v8_98), .unset] [(.int v3_55)])) (fun _ k => XS.iloadN X17.here hx rfl (hb hby at_100) rfl  k) ?_
  refine Goes.step (own_ite1 (T := T17) (c := (0 : Int32) < v3_55) (a0 := (0 : Int32)) (b0 := (if (0 : Int32) < v4_55 then (0 : Int32) else (1 : Int32))) (F := fun z9_0 => (mkF m 124 #[.val (.int p0), .val (.int p1), .val (.int p2), .val (.int v3_55), .val (.int v4_55), .val (.int v5_43), .val (.int v6_75), .val (.ref b1), .val (.int v8_98), .val (.int z9_0)] [])) ?_ ?_) ?_
  · intro hc101_8 t k
    refine XS.ifNo X17.here hx rfl (hb hby at_101) rfl ((if0 _ _).trans (tlt hc101_8).2.2.2) ?_
    show Steps p.tables e below (T17.setTop (mkF m 104 #[.val (.int p0), .val (.int p1), .val (.int p2), .val (.int v3_55), .val (.int v4_55), .val (.int v5_43), .val (.int v6_75), .val (.ref b1), .val (.int v8_98), .unset] [])) _
    refine XS.iconst X17.here hx rfl (hb hby at_104) ?_
    show Steps p.tables e below (T17.setTop (mkF m 105 #[.val (.int p0), .val (.int p1), .val (.int p2), .val (.int v3_55), .val (.int v4_55), .val (.int v5_43), .val (.int v6_75), .val (.ref b1), .val (.int v8_98), .unset] [(.int (0 : Int32))])) _
    refine XS.istore X17.here hx rfl (hb hby at_105) rfl (l' := #[.val (.int p0), .val (.int p1), .val (.int p2), .val (.int v3_55), .val (.int v4_55), .val (.int v5_43), .val (.int v6_75), .val (.ref b1), .val (.int v8_98), .val (.int (0 : Int32))]) rfl ?_
    show Steps p.tables e below (T17.setTop (mkF m 107 #[.val (.int p0), .val (.int p1), .val (.int p2), .val (.int v3_55), .val (.int v4_55), .val (.int v5_43), .val (.int v6_75), .val (.ref b1), .val (.int v8_98), .val (.int (0 : Int32))] [])) _
    refine XS.goto X17.here hx rfl (pc0 := 107) (pc' := 124) rfl (hb hby at_107) (by decide) (by decide) ?_
    show Steps p.tables e below (T17.setTop (mkF m 124 #[.val (.int p0), .val (.int p1), .val (.int p2), .val (.int v3_55), .val (.int v4_55), .val (.int v5_43), .val (.int v6_75), .val (.ref b1), .val (.int v8_98), .val (.int (0 : Int32))] [])) _
    exact k
  · intro hc101_8 t k
    refine XS.ifYes X17.here hx rfl (pc0 := 101) (pc' := 110) rfl (hb hby at_101) rfl ((if0 _ _).trans (flt hc101_8).2.2.2) (by decide) (by decide) ?_
    show Steps p.tables e below (T17.setTop (mkF m 110 #[.val (.int p0), .val (.int p1), .val (.int p2), .val (.int v3_55), .val (.int v4_55), .val (.int v5_43), .val (.int v6_75), .val (.ref b1), .val (.int v8_98), .unset] [])) _
    refine XS.iload X17.here hx rfl (hb hby at_110) rfl  ?_
    show Steps p.tables e below (T17.setTop (mkF m 112 #[.val (.int p0), .val (.int p1), .val (.int p2), .val (.int v3_55), .val (.int v4_55), .val (.int v5_43), .val (.int v6_75), .val (.ref b1), .val (.int v8_98), .unset] [(.int v4_55)])) _
    refine own_ite1 (T := T17) (c := (0 : Int32) < v4_55) (a0 := (0 : Int32)) (b0 := (1 : Int32)) (F := fun z9_0 => (mkF m 124 #[.val (.int p0), .val (.int p1), .val (.int p2), .val (.int v3_55), .val (.int v4_55), .val (.int v5_43), .val (.int v6_75), .val (.ref b1), .val (.int v8_98), .val (.int z9_0)] [])) ?_ ?_ _ ?_
    · intro hc112_9 t k
      refine XS.ifNo X17.here hx rfl (hb hby at_112) rfl ((if0 _ _).trans (tlt hc112_9).2.2.2) ?_
      show Steps p.tables e below (T17.setTop (mkF m 115 #[.val (.int p0), .val (.int p1), .val (.int p2), .val (.int v3_55), .val (.int v4_55), .val (.int v5_43), .val (.int v6_75), .val (.ref b1), .val (.int v8_98), .unset] [])) _
      refine XS.iconst X17.here hx rfl (hb hby at_115) ?_
      show Steps p.tables e below (T17.setTop (mkF m 116 #[.val (.int p0), .val (.int p1), .val (.int p2), .val (.int v3_55), .val (.int v4_55), .val (.int v5_43), .val (.int v6_75), .val (.ref b1), .val (.int v8_98), .unset] [(.int (0 : Int32))])) _
      refine XS.istore X17.here hx rfl (hb hby at_116) rfl (l' := #[.val (.int p0), .val (.int p1), .val (.int p2), .val (.int v3_55), .val (.int v4_55), .val (.int v5_43), .val (.int v6_75), .val (.ref b1), .val (.int v8_98), .val (.int (0 : Int32))]) rfl ?_
      show Steps p.tables e below (T17.setTop (mkF m 118 #[.val (.int p0), .val (.int p1), .val (.int p2), .val (.int v3_55), .val (.int v4_55), .val (.int v5_43), .val (.int v6_75), .val (.ref b1), .val (.int v8_98), .val (.int (0 : Int32))] [])) _
      refine XS.goto X17.here hx rfl (pc0 := 118) (pc' := 124) rfl (hb hby at_118) (by decide) (by decide) ?_
      show Steps p.tables e below (T17.setTop (mkF m 124 #[.val (.int p0), .val (.int p1), .val (.int p2), .val (.int v3_55), .val (.int v4_55), .val (.int v5_43), .val (.int v6_75), .val (.ref b1), .val (.int v8_98), .val (.int (0 : Int32))] [])) _
      exact k
    · intro hc112_9 t k
      refine XS.ifYes X17.here hx rfl (pc0 := 112) (pc' := 121) rfl (hb hby at_112) rfl ((if0 _ _).trans (flt hc112_9).2.2.2) (by decide) (by decide) ?_
      show Steps p.tables e below (T17.setTop (mkF m 121 #[.val (.int p0), .val (.int p1), .val (.int p2), .val (.int v3_55), .val (.int v4_55), .val (.int v5_43), .val (.int v6_75), .val (.ref b1), .val (.int v8_98), .unset] [])) _
      refine XS.iconst X17.here hx rfl (hb hby at_121) ?_
      show Steps p.tables e below (T17.setTop (mkF m 122 #[.val (.int p0), .val (.int p1), .val (.int p2), .val (.int v3_55), .val (.int v4_55), .val (.int v5_43), .val (.int v6_75), .val (.ref b1), .val (.int v8_98), .unset] [(.int (1 : Int32))])) _
      refine XS.istore X17.here hx rfl (hb hby at_122) rfl (l' := #[.val (.int p0), .val (.int p1), .val (.int p2), .val (.int v3_55), .val (.int v4_55), .val (.int v5_43), .val (.int v6_75), .val (.ref b1), .val (.int v8_98), .val (.int (1 : Int32))]) rfl ?_
      show Steps p.tables e below (T17.setTop (mkF m 124 #[.val (.int p0), .val (.int p1), .val (.int p2), .val (.int v3_55), .val (.int v4_55), .val (.int v5_43), .val (.int v6_75), .val (.ref b1), .val (.int v8_98), .val (.int (1 : Int32))] [])) _
      exact k
    show Steps p.tables e below (T17.setTop (mkF m 124 #[.val (.int p0), .val (.int p1), .val (.int p2), .val (.int v3_55), .val (.int v4_55), .val (.int v5_43), .val (.int v6_75), .val (.ref b1), .val (.int v8_98), .val (.int (if (0 : Int32) < v4_55 then (0 : Int32) else (1 : Int32)))] [])) _
    exact k
  show Goes p.tables e below _ (T17.setTop (mkF m 124 #[.val (.int p0), .val (.int p1), .val (.int p2), .val (.int v3_55), .val (.int v4_55), .val (.int v5_43), .val (.int v6_75), .val (.ref b1), .val (.int v8_98), .val (.int (if (0 : Int32) < v3_55 then (0 : Int32) else (if (0 : Int32) < v4_55 then (0 : Int32) else (1 : Int32))))] []))
  obtain ⟨v9_124, ev9_124⟩ : ∃ z : Int32, z = (if (0 : Int32) < v3_55 then (0 : Int32) else (if (0 : Int32) < v4_55 then (0 : Int32) else (1 : Int32))) := ⟨_, rfl⟩
  rw [← ev9_124]
  refine Goes.step (S' := T17.setTop (mkF m 126 #[.val (.int p0), .val (.int p1), .val (.int p2), .val (.int v3_55), .val (.int v4_55), .val (.int v5_43), .val (.int v6_75), .val (.ref b1), .val (.int v8_98), .val (.int v9_124)] [(.int v8_98)])) (fun _ k => XS.iload X17.here hx rfl (hb hby at_124) rfl  k) ?_
  refine Goes.step (S' := T17.setTop (mkF m 128 #[.val (.int p0), .val (.int p1), .val (.int p2), .val (.int v3_55), .val (.int v4_55), .val (.int v5_43), .val (.int v6_75), .val (.ref b1), .val (.int v8_98), .val (.int v9_124)] [(.int v9_124), (.int v8_98)])) (fun _ k => XS.iload X17.here hx rfl (hb hby at_126) rfl  k) ?_
  refine Goes.step (S' := T17.setTop (mkF m 131 #[.val (.int p0), .val (.int p1), .val (.int p2), .val (.int v3_55), .val (.int v4_55), .val (.int v5_43), .val (.int v6_75), .val (.ref b1), .val (.int v8_98), .val (.int v9_124)] [])) (fun _ k => XS.icmpNo X17.here hx rfl (hb hby at_128) rfl (teq (own_hc0_128 p0 p1 p2 v3_14 ev3_14 v4_30 ev4_30 v5_43 ev5_43 v3_55 ev3_55 v4_55 ev4_55 v6_75 ev6_75 v8_98 ev8_98 v9_124 ev9_124)).2 k) ?_
  refine Goes.step (S' := T17.setTop (mkF m 133 #[.val (.int p0), .val (.int p1), .val (.int p2), .val (.int v3_55), .val (.int v4_55), .val (.int v5_43), .val (.int v6_75), .val (.ref b1), .val (.int v8_98), .val (.int v9_124)] [(.int v5_43)])) (fun _ k => XS.iload X17.here hx rfl (hb hby at_131) rfl  k) ?_
  refine Goes.step (own_ite1 (T := T17) (c := v5_43 = (0 : Int32)) (a0 := (if v6_75 = (0 : Int32) then (1 : Int32) else (if v8_98 = (0 : Int32) then (1 : Int32) else (0 : Int32)))) (b0 := (if v8_98 = (0 : Int32) then (0 : Int32) else (if v6_75 = (0 : Int32) then (1 : Int32) else (0 : Int32)))) (F := fun z15_0 => (mkF m 156 #[.val (.int p0), .val (.int p1), .val (.int p2), .val (.int v3_55), .val (.int v4_55), .val (.int v5_43), .val (.int v6_75), .val (.ref b1), .val (.int v8_98), .val (.int v9_124)] [(.int z15_0)])) ?_ ?_) ?_
  · intro hc133_10 t k
    refine XS.ifYes X17.here hx rfl (pc0 := 133) (pc' := 141) rfl (hb hby at_133) rfl ((if0 _ _).trans (teq hc133_10).1) (by decide) (by decide) ?_
    show Steps p.tables e below (T17.setTop (mkF m 141 #[.val (.int p0), .val (.int p1), .val (.int p2), .val (.int v3_55), .val (.int v4_55), .val (.int v5_43), .val (.int v6_75), .val (.ref b1), .val (.int v8_98), .val (.int v9_124)] [])) _
    refine XS.iload X17.here hx rfl (hb hby at_141) rfl  ?_
    show Steps p.tables e below (T17.setTop (mkF m 143 #[.val (.int p0), .val (.int p1), .val (.int p2), .val (.int v3_55), .val (.int v4_55), .val (.int v5_43), .val (.int v6_75), .val (.ref b1), .val (.int v8_98), .val (.int v9_124)] [(.int v6_75)])) _
    refine own_ite1 (T := T17) (c := v6_75 = (0 : Int32)) (a0 := (1 : Int32)) (b0 := (if v8_98 = (0 : Int32) then (1 : Int32) else (0 : Int32))) (F := fun z12_0 => (mkF m 156 #[.val (.int p0), .val (.int p1), .val (.int p2), .val (.int v3_55), .val (.int v4_55), .val (.int v5_43), .val (.int v6_75), .val (.ref b1), .val (.int v8_98), .val (.int v9_124)] [(.int z12_0)])) ?_ ?_ _ ?_
    · intro hc143_11 t k
      refine XS.ifYes X17.here hx rfl (pc0 := 143) (pc' := 151) rfl (hb hby at_143) rfl ((if0 _ _).trans (teq hc143_11).1) (by decide) (by decide) ?_
      show Steps p.tables e below (T17.setTop (mkF m 151 #[.val (.int p0), .val (.int p1), .val (.int p2), .val (.int v3_55), .val (.int v4_55), .val (.int v5_43), .val (.int v6_75), .val (.ref b1), .val (.int v8_98), .val (.int v9_124)] [])) _
      refine XS.iconst X17.here hx rfl (hb hby at_151) ?_
      show Steps p.tables e below (T17.setTop (mkF m 152 #[.val (.int p0), .val (.int p1), .val (.int p2), .val (.int v3_55), .val (.int v4_55), .val (.int v5_43), .val (.int v6_75), .val (.ref b1), .val (.int v8_98), .val (.int v9_124)] [(.int (1 : Int32))])) _
      refine XS.goto X17.here hx rfl (pc0 := 152) (pc' := 156) rfl (hb hby at_152) (by decide) (by decide) ?_
      show Steps p.tables e below (T17.setTop (mkF m 156 #[.val (.int p0), .val (.int p1), .val (.int p2), .val (.int v3_55), .val (.int v4_55), .val (.int v5_43), .val (.int v6_75), .val (.ref b1), .val (.int v8_98), .val (.int v9_124)] [(.int (1 : Int32))])) _
      exact k
    · intro hc143_11 t k
      refine XS.ifNo X17.here hx rfl (hb hby at_143) rfl ((if0 _ _).trans (feq hc143_11).1) ?_
      show Steps p.tables e below (T17.setTop (mkF m 146 #[.val (.int p0), .val (.int p1), .val (.int p2), .val (.int v3_55), .val (.int v4_55), .val (.int v5_43), .val (.int v6_75), .val (.ref b1), .val (.int v8_98), .val (.int v9_124)] [])) _
      refine XS.iload X17.here hx rfl (hb hby at_146) rfl  ?_
      show Steps p.tables e below (T17.setTop (mkF m 148 #[.val (.int p0), .val (.int p1), .val (.int p2), .val (.int v3_55), .val (.int v4_55), .val (.int v5_43), .val (.int v6_75), .val (.ref b1), .val (.int v8_98), .val (.int v9_124)] [(.int v8_98)])) _
      refine own_ite1 (T := T17) (c := v8_98 = (0 : Int32)) (a0 := (1 : Int32)) (b0 := (0 : Int32)) (F := fun z12_0 => (mkF m 156 #[.val (.int p0), .val (.int p1), .val (.int p2), .val (.int v3_55), .val (.int v4_55), .val (.int v5_43), .val (.int v6_75), .val (.ref b1), .val (.int v8_98), .val (.int v9_124)] [(.int z12_0)])) ?_ ?_ _ ?_
      · intro hc148_12 t k
        refine XS.ifNo X17.here hx rfl (hb hby at_148) rfl ((if0 _ _).trans (teq hc148_12).2) ?_
        show Steps p.tables e below (T17.setTop (mkF m 151 #[.val (.int p0), .val (.int p1), .val (.int p2), .val (.int v3_55), .val (.int v4_55), .val (.int v5_43), .val (.int v6_75), .val (.ref b1), .val (.int v8_98), .val (.int v9_124)] [])) _
        refine XS.iconst X17.here hx rfl (hb hby at_151) ?_
        show Steps p.tables e below (T17.setTop (mkF m 152 #[.val (.int p0), .val (.int p1), .val (.int p2), .val (.int v3_55), .val (.int v4_55), .val (.int v5_43), .val (.int v6_75), .val (.ref b1), .val (.int v8_98), .val (.int v9_124)] [(.int (1 : Int32))])) _
        refine XS.goto X17.here hx rfl (pc0 := 152) (pc' := 156) rfl (hb hby at_152) (by decide) (by decide) ?_
        show Steps p.tables e below (T17.setTop (mkF m 156 #[.val (.int p0), .val (.int p1), .val (.int p2), .val (.int v3_55), .val (.int v4_55), .val (.int v5_43), .val (.int v6_75), .val (.ref b1), .val (.int v8_98), .val (.int v9_124)] [(.int (1 : Int32))])) _
        exact k
      · intro hc148_12 t k
        refine XS.ifYes X17.here hx rfl (pc0 := 148) (pc' := 155) rfl (hb hby at_148) rfl ((if0 _ _).trans (feq hc148_12).2) (by decide) (by decide) ?_
        show Steps p.tables e below (T17.setTop (mkF m 155 #[.val (.int p0), .val (.int p1), .val (.int p2), .val (.int v3_55), .val (.int v4_55), .val (.int v5_43), .val (.int v6_75), .val (.ref b1), .val (.int v8_98), .val (.int v9_124)] [])) _
        refine XS.iconst X17.here hx rfl (hb hby at_155) ?_
        show Steps p.tables e below (T17.setTop (mkF m 156 #[.val (.int p0), .val (.int p1), .val (.int p2), .val (.int v3_55), .val (.int v4_55), .val (.int v5_43), .val (.int v6_75), .val (.ref b1), .val (.int v8_98), .val (.int v9_124)] [(.int (0 : Int32))])) _
        exact k
      show Steps p.tables e below (T17.setTop (mkF m 156 #[.val (.int p0), .val (.int p1), .val (.int p2), .val (.int v3_55), .val (.int v4_55), .val (.int v5_43), .val (.int v6_75), .val (.ref b1), .val (.int v8_98), .val (.int v9_124)] [(.int (if v8_98 = (0 : Int32) then (1 : Int32) else (0 : Int32)))])) _
      exact k
    show Steps p.tables e below (T17.setTop (mkF m 156 #[.val (.int p0), .val (.int p1), .val (.int p2), .val (.int v3_55), .val (.int v4_55), .val (.int v5_43), .val (.int v6_75), .val (.ref b1), .val (.int v8_98), .val (.int v9_124)] [(.int (if v6_75 = (0 : Int32) then (1 : Int32) else (if v8_98 = (0 : Int32) then (1 : Int32) else (0 : Int32))))])) _
    exact k
  · intro hc133_10 t k
    refine XS.ifNo X17.here hx rfl (hb hby at_133) rfl ((if0 _ _).trans (feq hc133_10).1) ?_
    show Steps p.tables e below (T17.setTop (mkF m 136 #[.val (.int p0), .val (.int p1), .val (.int p2), .val (.int v3_55), .val (.int v4_55), .val (.int v5_43), .val (.int v6_75), .val (.ref b1), .val (.int v8_98), .val (.int v9_124)] [])) _
    refine XS.iload X17.here hx rfl (hb hby at_136) rfl  ?_
    show Steps p.tables e below (T17.setTop (mkF m 138 #[.val (.int p0), .val (.int p1), .val (.int p2), .val (.int v3_55), .val (.int v4_55), .val (.int v5_43), .val (.int v6_75), .val (.ref b1), .val (.int v8_98), .val (.int v9_124)] [(.int v8_98)])) _
    refine own_ite1 (T := T17) (c := v8_98 = (0 : Int32)) (a0 := (0 : Int32)) (b0 := (if v6_75 = (0 : Int32) then (1 : Int32) else (0 : Int32))) (F := fun z15_0 => (mkF m 156 #[.val (.int p0), .val (.int p1), .val (.int p2), .val (.int v3_55), .val (.int v4_55), .val (.int v5_43), .val (.int v6_75), .val (.ref b1), .val (.int v8_98), .val (.int v9_124)] [(.int z15_0)])) ?_ ?_ _ ?_
    · intro hc138_13 t k
      refine XS.ifYes X17.here hx rfl (pc0 := 138) (pc' := 155) rfl (hb hby at_138) rfl ((if0 _ _).trans (teq hc138_13).1) (by decide) (by decide) ?_
      show Steps p.tables e below (T17.setTop (mkF m 155 #[.val (.int p0), .val (.int p1), .val (.int p2), .val (.int v3_55), .val (.int v4_55), .val (.int v5_43), .val (.int v6_75), .val (.ref b1), .val (.int v8_98), .val (.int v9_124)] [])) _
      refine XS.iconst X17.here hx rfl (hb hby at_155) ?_
      show Steps p.tables e below (T17.setTop (mkF m 156 #[.val (.int p0), .val (.int p1), .val (.int p2), .val (.int v3_55), .val (.int v4_55), .val (.int v5_43), .val (.int v6_75), .val (.ref b1), .val (.int v8_98), .val (.int v9_124)] [(.int (0 : Int32))])) _
      exact k
    · intro hc138_13 t k
      refine XS.ifNo X17.here hx rfl (hb hby at_138) rfl ((if0 _ _).trans (feq hc138_13).1) ?_
      show Steps p.tables e below (T17.setTop (mkF m 141 #[.val (.int p0), .val (.int p1), .val (.int p2), .val (.int v3_55), .val (.int v4_55), .val (.int v5_43), .val (.int v6_75), .val (.ref b1), .val (.int v8_98), .val (.int v9_124)] [])) _
      refine XS.iload X17.here hx rfl (hb hby at_141) rfl  ?_
      show Steps p.tables e below (T17.setTop (mkF m 143 #[.val (.int p0), .val (.int p1), .val (.int p2), .val (.int v3_55), .val (.int v4_55), .val (.int v5_43), .val (.int v6_75), .val (.ref b1), .val (.int v8_98), .val (.int v9_124)] [(.int v6_75)])) _
      refine own_ite1 (T := T17) (c := v6_75 = (0 : Int32)) (a0 := (1 : Int32)) (b0 := (0 : Int32)) (F := fun z15_0 => (mkF m 156 #[.val (.int p0), .val (.int p1), .val (.int p2), .val (.int v3_55), .val (.int v4_55), .val (.int v5_43), .val (.int v6_75), .val (.ref b1), .val (.int v8_98), .val (.int v9_124)] [(.int z15_0)])) ?_ ?_ _ ?_
      · intro hc143_14 t k
        refine XS.ifYes X17.here hx rfl (pc0 := 143) (pc' := 151) rfl (hb hby at_143) rfl ((if0 _ _).trans (teq hc143_14).1) (by decide) (by decide) ?_
        show Steps p.tables e below (T17.setTop (mkF m 151 #[.val (.int p0), .val (.int p1), .val (.int p2), .val (.int v3_55), .val (.int v4_55), .val (.int v5_43), .val (.int v6_75), .val (.ref b1), .val (.int v8_98), .val (.int v9_124)] [])) _
        refine XS.iconst X17.here hx rfl (hb hby at_151) ?_
        show Steps p.tables e below (T17.setTop (mkF m 152 #[.val (.int p0), .val (.int p1), .val (.int p2), .val (.int v3_55), .val (.int v4_55), .val (.int v5_43), .val (.int v6_75), .val (.ref b1), .val (.int v8_98), .val (.int v9_124)] [(.int (1 : Int32))])) _
        refine XS.goto X17.here hx rfl (pc0 := 152) (pc' := 156) rfl (hb hby at_152) (by decide) (by decide) ?_
        show Steps p.tables e below (T17.setTop (mkF m 156 #[.val (.int p0), .val (.int p1), .val (.int p2), .val (.int v3_55), .val (.int v4_55), .val (.int v5_43), .val (.int v6_75), .val (.ref b1), .val (.int v8_98), .val (.int v9_124)] [(.int (1 : Int32))])) _
        exact k
      · intro hc143_14 t k
        refine XS.ifNo X17.here hx rfl (hb hby at_143) rfl ((if0 _ _).trans (feq hc143_14).1) ?_
        show Steps p.tables e below (T17.setTop (mkF m 146 #[.val (.int p0), .val (.int p1), .val (.int p2), .val (.int v3_55), .val (.int v4_55), .val (.int v5_43), .val (.int v6_75), .val (.ref b1), .val (.int v8_98), .val (.int v9_124)] [])) _
        refine XS.iload X17.here hx rfl (hb hby at_146) rfl  ?_
        show Steps p.tables e below (T17.setTop (mkF m 148 #[.val (.int p0), .val (.int p1), .val (.int p2), .val (.int v3_55), .val (.int v4_55), .val (.int v5_43), .val (.int v6_75), .val (.ref b1), .val (.int v8_98), .val (.int v9_124)] [(.int v8_98)])) _
        refine XS.ifYes X17.here hx rfl (pc0 := 148) (pc' := 155) rfl (hb hby at_148) rfl ((if0 _ _).trans (feq hc138_13).2) (by decide) (by decide) ?_
        show Steps p.tables e below (T17.setTop (mkF m 155 #[.val (.int p0), .val (.int p1), .val (.int p2), .val (.int v3_55), .val (.int v4_55), .val (.int v5_43), .val (.int v6_75), .val (.ref b1), .val (.int v8_98), .val (.int v9_124)] [])) _
        refine XS.iconst X17.here hx rfl (hb hby at_155) ?_
        show Steps p.tables e below (T17.setTop (mkF m 156 #[.val (.int p0), .val (.int p1), .val (.int p2), .val (.int v3_55), .val (.int v4_55), .val (.int v5_43), .val (.int v6_75), .val (.ref b1), .val (.int v8_98), .val (.int v9_124)] [(.int (0 : Int32))])) _
        exact k
      show Steps p.tables e below (T17.setTop (mkF m 156 #[.val (.int p0), .val (.int p1), .val (.int p2), .val (.int v3_55), .val (.int v4_55), .val (.int v5_43), .val (.int v6_75), .val (.ref b1), .val (.int v8_98), .val (.int v9_124)] [(.int (if v6_75 = (0 : Int32) then (1 : Int32) else (0 : Int32)))])) _
      exact k
    show Steps p.tables e below (T17.setTop (mkF m 156 #[.val (.int p0), .val (.int p1), .val (.int p2), .val (.int v3_55), .val (.int v4_55), .val (.int v5_43), .val (.int v6_75), .val (.ref b1), .val (.int v8_98), .val (.int v9_124)] [(.int (if v8_98 = (0 : Int32) then (0 : Int32) else (if v6_75 = (0 : Int32) then (1 : Int32) else (0 : Int32))))])) _
    exact k
  show Goes p.tables e below _ (T17.setTop (mkF m 156 #[.val (.int p0), .val (.int p1), .val (.int p2), .val (.int v3_55), .val (.int v4_55), .val (.int v5_43), .val (.int v6_75), .val (.ref b1), .val (.int v8_98), .val (.int v9_124)] [(.int (if v5_43 = (0 : Int32) then (if v6_75 = (0 : Int32) then (1 : Int32) else (if v8_98 = (0 : Int32) then (1 : Int32) else (0 : Int32))) else (if v8_98 = (0 : Int32) then (0 : Int32) else (if v6_75 = (0 : Int32) then (1 : Int32) else (0 : Int32)))))]))
  refine Goes.retN X17 hx Bd.notSynchronized (t := .boolean) Bd.returns (by simp) (hb hby at_156) (by decide) (by decide) ?_
  exact ⟨congrArg (fun z => some (Value.int z)) (own_ret0_156 p0 p1 p2 v3_14 ev3_14 v4_30 ev4_30 v5_43 ev5_43 v3_55 ev3_55 v4_55 ev4_55 v6_75 ev6_75 v8_98 ev8_98 v9_124 ev9_124), N18⟩
set_option maxRecDepth 65536 in
set_option maxHeartbeats 40000000 in
theorem comes_1 {Post : Tables → Env → Array Value → State → Outcome → State → Prop} (hpost : ∀ tb e args s v u, (limb_1_1.after args s (.returned v) u = true ∧ limb_1_2.after args s (.returned v) u = true ∧ True) → FrameEnd s (.returned v) u (Jvm.fieldLocs frame_1_writes args s ++ Jvm.arrayLocs frame_1_arrays args s ++ Jvm.staticLocs frame_1_statics s) 16 128 → Post tb e args s (.returned v) u) :
    ArmFor flags0 classFile x code maxLocals ret World_1 tables_1 room_1 Calls_1 rest_1 Pre_1 Post := by
  intro l hfl _ _ p e ha hc hk s m args below hf hA hF happ hP
  obtain ⟨hcalls, hrest, hpre⟩ := hP
  obtain ⟨-, -, -, hnamed, -, -, -, hat⟩ := (Spec.applies_iff hf).mp happ
  obtain ⟨hg, hn⟩ := and_e (Cond.before_iff.mp (show (Jvm.Cond.and given_1 narrow_1).before args s = true from hpre))
  obtain ⟨gg1, gg2⟩ := and_e hg
  obtain ⟨gg3, gg4⟩ := and_e gg2
  obtain ⟨gg5, gg6⟩ := and_e gg4
  obtain ⟨w0, w1, w2, rfl⟩ : ∃ w0 w1 w2 : Value, args = #[w0, w1, w2] := by
    have hs : args.size = 3 := by simpa [Cond.value, given_1] using gg1
    obtain ⟨L⟩ := args
    match L, hs with
    | [w0, w1, w2], _ => exact ⟨w0, w1, w2, rfl⟩
  have hw := fun d (hd : d ∈ tables_1) => atoms_spec (ws := Jvm.Cond.code x code maxLocals ret :: tables_1) hat d (List.mem_cons_of_mem _ hd)
  obtain ⟨i0, ei0⟩ := is_v gg3
  obtain rfl : w0 = (.int i0) := Option.some.inj ei0
  obtain ⟨i1, ei1⟩ := is_v gg5
  obtain rfl : w1 = (.int i1) := Option.some.inj ei1
  obtain ⟨i2, ei2⟩ := is_v gg6
  obtain rfl : w2 = (.int i2) := Option.some.inj ei2
  obtain ⟨n, o, h1, h2, h3, _, L, rfl, ⟨rfl, N⟩, hq⟩ := rm0 l s _ hw tables_1 i0 i1 i2 s.heap s.heap.size (Nat.le_refl _) p e ha hc hk s m _ below hf ((Spec.applies_iff_loose hf).mp happ).1 ⟨rfl, State.Warmed39.refl s, rfl⟩ trivial
  refine ⟨n, _, h1, h2, h3, hpost _ _ _ _ _ _ ⟨Cond.after_iff.mpr rfl, Cond.after_iff.mpr (eq_i res_at (Term.int_eval (1)) rfl), trivial⟩ ⟨hq.1, hq.2.1, (hq.2.2.sift fun y hy => Or.inr (N y hy)).mono (by decide) (by decide)⟩⟩
theorem main_1_1 : Claimed_1_1 := comes_1 fun _ _ _ _ _ _ h hF => ⟨h.1, hF⟩
theorem main_1_2 : Claimed_1_2 := comes_1 fun _ _ _ _ _ _ h hF => ⟨h.2.1, hF⟩
end Jvm.Pilot.@@N@@
namespace Jvm.Pilot.@@N@@
open Jvm Jvm.ClassFile Sem Op Lib Jvm.Free Jvm.Stand Jvm.Pilot.@@N@@.Jvm.D
/-! MADE BY PROGRAM (witnessworld.py) out of the Statement's table words and the real class files: 10 classes; the members and pool entries that the words name. The judged class is class 1, her method 1. -/
namespace start1
open Jvm.ClassFile
def u (s : String) : CpInfo := .utf8 (stringToUtf16 s)
/-- a pool by its gaps: so many unusable entries, then the entry; so many at the end -/
def gap : Nat → List CpInfo → List CpInfo
  | 0, r => r
  | n + 1, r => .unusable :: gap n r
def poolList (es : List (Nat × CpInfo)) (last : Nat) : List CpInfo := es.foldr (fun e r => gap e.1 (e.2 :: r)) (gap last [])
def pool (es : List (Nat × CpInfo)) (last : Nat) : Array CpInfo := ⟨poolList es last⟩
def fileOf (pool : Array CpInfo) (this : Nat) (attrs : Array Attribute := #[]) (ms : Array MethodInfo := #[]) (fl : Nat := 33) (sup : Nat := 0) (ifs : Array Nat := #[]) (fds : Array FieldInfo := #[]) : ClassFile where
  minorVersion := 0
  majorVersion := 65
  constantPool := pool
  accessFlags := fl
  thisClass := this
  superClass := sup
  interfaces := ifs
  fields := fds
  methods := ms
  attributes := attrs
def plain (name : String) (sup : Option ClassId) : Class where
  name := name
  kind := .ordinary
  loader := none
  accessFlags := 33
  super := sup
  interfaces := #[]
  cf := none
  fields := #[]
  methods := #[]
  instanceTypes := #[]
  staticTypes := #[]
  resolved := #[]
  callSites := []
  init := .initialized
  statics := none
  mirror := none

def pool0 : Array CpInfo := pool [(5, u "<init>"), (0, u "()V"), (1, .class_ 10), (1, u "java/lang/Object")] 113

def k0c0 : Code := { maxStack := 0, maxLocals := 1, code := object_method_1_code, exceptionTable := #[], attributes := #[] }
def k0m0 : Method := { name := "<init>", desc := "()V", sig := { parameters := [], returnType := none }, accessFlags := 1, code := some k0c0 }
/-- java/lang/Object -/
def k0 : Class := { plain "java/lang/Object" none with
  accessFlags := 33
  interfaces := #[]
  cf := some (fileOf pool0 8 #[] #[{ accessFlags := 1, nameIndex := 5, descriptorIndex := 6, attributes := #[] }] 33 0 #[] #[])
  fields := #[]
  methods := #[k0m0]
  instanceTypes := #[]
  staticTypes := #[]
  resolved := Array.replicate 124 none
  statics := none }

def pool1 : Array CpInfo := pool [(2, .class_ 4), (1, u "java/lang/Object"), (0, u "<init>"), (0, u "()V"), (0, .integer 2147483647), (0, .class_ 9), (0, u "com/example/proofsheet/proofsheet/core/Rendition"), (0, .methodref 8 11), (0, .nameAndType 5 12), (0, u "(IIZZ)V"), (0, .methodref 8 14), (0, .nameAndType 15 16), (0, u "isOriginal"), (0, u "()Z"), (0, .class_ 18), (0, u "com/example/proofsheet/proofsheet/core/RenditionIsOriginalPinLaw"), (2, u "law"), (0, u "(III)Z")] 3

def k1m0 : Method := { name := "<init>", desc := "()V", sig := { parameters := [], returnType := none }, accessFlags := 2, code := none }
def k1c1 : Code := { maxStack := 6, maxLocals := 10, code := code, exceptionTable := #[], attributes := #[] }
def k1m1 : Method := { name := "law", desc := "(III)Z", sig := { parameters := [.int, .int, .int], returnType := some .boolean }, accessFlags := 9, code := some k1c1 }
/-- com/example/proofsheet/proofsheet/core/RenditionIsOriginalPinLaw -/
def k1 : Class := { plain "com/example/proofsheet/proofsheet/core/RenditionIsOriginalPinLaw" (some 0) with
  accessFlags := 49
  interfaces := #[]
  cf := some (fileOf pool1 17 #[] #[{ accessFlags := 2, nameIndex := 5, descriptorIndex := 6, attributes := #[] }, { accessFlags := 9, nameIndex := 21, descriptorIndex := 22, attributes := #[] }] 49 2 #[] #[])
  fields := #[]
  methods := #[k1m0, k1m1]
  instanceTypes := #[]
  staticTypes := #[]
  resolved := Array.replicate 26 none
  statics := none }

def pool2 : Array CpInfo := pool [(1, .methodref 2 3), (0, .class_ 4), (0, .nameAndType 5 6), (0, u "java/lang/Object"), (0, u "<init>"), (0, u "()V"), (0, .class_ 8), (0, u "java/lang/Record")] 13

def k2c0 : Code := { maxStack := 1, maxLocals := 1, code := jdk_30_method_1_code, exceptionTable := #[], attributes := #[] }
def k2m0 : Method := { name := "<init>", desc := "()V", sig := { parameters := [], returnType := none }, accessFlags := 4, code := some k2c0 }
/-- java/lang/Record -/
def k2 : Class := { plain "java/lang/Record" (some 0) with
  accessFlags := 1057
  interfaces := #[]
  cf := some (fileOf pool2 7 #[] #[{ accessFlags := 4, nameIndex := 5, descriptorIndex := 6, attributes := #[] }] 1057 2 #[] #[])
  fields := #[]
  methods := #[k2m0]
  instanceTypes := #[]
  staticTypes := #[]
  resolved := Array.replicate 22 none
  statics := none }

def pool3 : Array CpInfo := pool [(1, .methodref 2 3), (0, .class_ 4), (0, .nameAndType 5 6), (0, u "java/lang/Record"), (0, u "<init>"), (0, u "()V"), (15, .fieldref 23 24), (0, .class_ 25), (0, .nameAndType 26 27), (0, u "com/example/proofsheet/proofsheet/core/Rendition"), (0, u "width"), (0, u "I"), (0, .fieldref 23 29), (0, .nameAndType 30 27), (0, u "height"), (0, .fieldref 23 32), (0, .nameAndType 33 34), (0, u "crop"), (0, u "Z"), (0, .fieldref 23 36), (0, .nameAndType 37 34), (0, u "video"), (10, u "ORIGINAL"), (0, u "Lcom/example/proofsheet/proofsheet/core/Rendition;"), (4, u "VIDEO"), (26, u "(IIZZ)V"), (2, u "isOriginal"), (0, u "()Z"), (29, u "PIXELS"), (0, u "Ljava/util/regex/Pattern;")] 90

def k3c0 : Code := { maxStack := 6, maxLocals := 5, code := prog_29_method_1_code, exceptionTable := #[], attributes := #[] }
def k3m0 : Method := { name := "<init>", desc := "(IIZZ)V", sig := { parameters := [.int, .int, .boolean, .boolean], returnType := none }, accessFlags := 1, code := some k3c0 }
def k3c1 : Code := { maxStack := 1, maxLocals := 1, code := prog_29_method_3_code, exceptionTable := #[], attributes := #[] }
def k3m1 : Method := { name := "isOriginal", desc := "()Z", sig := { parameters := [], returnType := some .boolean }, accessFlags := 1, code := some k3c1 }
/-- com/example/proofsheet/proofsheet/core/Rendition -/
def k3 : Class := { plain "com/example/proofsheet/proofsheet/core/Rendition" (some 2) with
  accessFlags := 49
  interfaces := #[]
  cf := some (fileOf pool3 23 #[] #[{ accessFlags := 1, nameIndex := 5, descriptorIndex := 81, attributes := #[] }, { accessFlags := 1, nameIndex := 84, descriptorIndex := 85, attributes := #[] }] 49 2 #[] #[{ accessFlags := 18, nameIndex := 26, descriptorIndex := 27, attributes := #[] }, { accessFlags := 18, nameIndex := 30, descriptorIndex := 27, attributes := #[] }, { accessFlags := 18, nameIndex := 33, descriptorIndex := 34, attributes := #[] }, { accessFlags := 18, nameIndex := 37, descriptorIndex := 34, attributes := #[] }, { accessFlags := 25, nameIndex := 48, descriptorIndex := 49, attributes := #[] }, { accessFlags := 25, nameIndex := 54, descriptorIndex := 49, attributes := #[] }, { accessFlags := 26, nameIndex := 115, descriptorIndex := 116, attributes := #[] }])
  fields := #[{ name := "width", type := .int, accessFlags := 18, slot := 0, constantValue := 0 }, { name := "height", type := .int, accessFlags := 18, slot := 1, constantValue := 0 }, { name := "crop", type := .boolean, accessFlags := 18, slot := 2, constantValue := 0 }, { name := "video", type := .boolean, accessFlags := 18, slot := 3, constantValue := 0 }, { name := "ORIGINAL", type := (.object "com/example/proofsheet/proofsheet/core/Rendition"), accessFlags := 25, slot := 0, constantValue := 0 }, { name := "VIDEO", type := (.object "com/example/proofsheet/proofsheet/core/Rendition"), accessFlags := 25, slot := 1, constantValue := 0 }, { name := "PIXELS", type := (.object "java/util/regex/Pattern"), accessFlags := 26, slot := 2, constantValue := 0 }]
  methods := #[k3m0, k3m1]
  instanceTypes := #[.int, .int, .boolean, .boolean]
  staticTypes := #[(.object "com/example/proofsheet/proofsheet/core/Rendition"), (.object "com/example/proofsheet/proofsheet/core/Rendition"), (.object "java/util/regex/Pattern")]
  resolved := Array.replicate 207 none
  statics := none }

def pool4 : Array CpInfo := pool [(1, u "java/lang/Cloneable"), (0, .class_ 1), (0, u "java/lang/Object"), (0, .class_ 3)] 3

/-- java/lang/Cloneable -/
def k4 : Class := { plain "java/lang/Cloneable" (some 0) with
  accessFlags := 1537
  interfaces := #[]
  cf := some (fileOf pool4 2 #[] #[] 1537 4 #[] #[])
  fields := #[]
  methods := #[]
  instanceTypes := #[]
  staticTypes := #[]
  resolved := Array.replicate 8 none
  statics := none }

def pool5 : Array CpInfo := pool [(1, u "java/io/Serializable"), (0, .class_ 1), (0, u "java/lang/Object"), (0, .class_ 3)] 3

/-- java/io/Serializable -/
def k5 : Class := { plain "java/io/Serializable" (some 0) with
  accessFlags := 1537
  interfaces := #[]
  cf := some (fileOf pool5 2 #[] #[] 1537 4 #[] #[])
  fields := #[]
  methods := #[]
  instanceTypes := #[]
  staticTypes := #[]
  resolved := Array.replicate 8 none
  statics := none }

/-- the primitive byte -/
def k6 : Class := { plain "byte" none with kind := .primitive 'B', accessFlags := 0x411 }
/-- [B -/
def k7 : Class := { plain "[B" (some 0) with kind := .array 6 .byte, interfaces := #[4, 5], accessFlags := 1041 }

/-- the primitive int -/
def k8 : Class := { plain "int" none with kind := .primitive 'I', accessFlags := 0x411 }
/-- [I -/
def k9 : Class := { plain "[I" (some 0) with kind := .array 8 .int, interfaces := #[4, 5], accessFlags := 1041 }

def heap : Heap := #[]
def classes : Array Class := #[k0, k1, k2, k3, k4, k5, k6, k7, k8, k9]
def interned : List (Array UInt16 × Addr) := []
def slotsUsed : Nat := 0
def theMethod : MethodId := ⟨1, 1⟩
def args0 : Array Value := #[.int 5, .int 5, .int 5]
def aboutOver (below : List Frame) : State where
  vm := { classes := classes, interned := interned.toArray }
  heap := heap
  slotsUsed := slotsUsed
  threads := #[{ frames := .invoking theMethod args0 :: below }]
def below0 : List Frame := [.native { method := ⟨0, 0⟩, args := #[] }]
def about1 : State := aboutOver below0
def p0 : Program := .bare "" "" ""
def e0 : Env := launch0.env 0 0 0
theorem w_frames : about1.frames = Frame.invoking theMethod args0 :: below0 := rfl
set_option maxRecDepth 65536 in
theorem w_args : argsFit about1.vm theMethod args0 = true := by decide +kernel
set_option maxRecDepth 65536 in
theorem w_heap : heapFits about1 = true := by decide +kernel
set_option maxRecDepth 65536 in
theorem w_runnable : about1.curStatus? = some .runnable := by decide +kernel
set_option maxRecDepth 65536 in
theorem w_alone : about1.alone = true := by decide +kernel
set_option maxRecDepth 65536 in
theorem w_named : about1.methodNamed? x = some theMethod := by decide +kernel
set_option maxRecDepth 65536 in
theorem w_hears : about1.hears theMethod below0 = true := by decide +kernel
set_option maxRecDepth 65536 in
theorem w_ripe : about1.ripe theMethod args0 below0 = true := by decide +kernel
theorem w_running : about1.status = .running := rfl
set_option maxRecDepth 65536 in
theorem w_room : about1.hasRoom e0.platform room_1 = true :=
  launch0.hasRoom_least _ room_1 (by decide +kernel) (by decide +kernel) (by decide +kernel) (by decide +kernel) (by decide +kernel) (by decide +kernel)
theorem allAtoms_all (ts : List Jvm.Cond) (a : Array Jvm.Value) (st : Jvm.State) : (allAtoms ts).before a st = ts.all (fun c => c.before a st) := by
  induction ts with
  | nil => rfl
  | cons c t ih =>
    show (Jvm.Cond.and c (allAtoms t)).before a st = _
    rw [Jvm.Cond.before_and, ih, List.all_cons]
def words1 : List Jvm.Cond := Jvm.Cond.code x code maxLocals ret :: tables_1
/-- a 'code' word, met by the world's own term for the bytes: nothing is compared byte by byte -/
theorem code_word {y : MethodName} {bytes : ByteArray} {mx : Nat} {rt : Option FieldType} {a : Array Value} {s : State} {m : MethodId} {meth : Method} {c : Code} (h1 : s.methodNamed? y = some m) (h2 : s.vm.method? m = some meth) (h3 : meth.code = some c) (h4 : c.code = bytes)
    (h5 : (c.maxLocals == mx && c.exceptionTable.isEmpty && decide (c.maxStack ≤ mostOperands) && decide (meth.sig.returnType = rt) && !meth.locks && decide (parseMethodDescriptor y.desc = some meth.sig)) = true) : (Jvm.Cond.code y bytes mx rt).before a s = true := by
  simp only [Bool.and_eq_true, beq_iff_eq, Bool.not_eq_true', decide_eq_true_eq] at h5
  obtain ⟨⟨⟨⟨⟨g1, g2⟩, g3⟩, g4⟩, g5⟩, g6⟩ := h5
  simp [Cond.before, Cond.holds, Cond.value, h1, h2, h3, h4, g1, g2, g3, g4, g5, g6]
def isCode : Jvm.Cond → Bool
  | .code _ _ _ _ => true
  | _ => false
theorem all_split {L : List Jvm.Cond} {P : Jvm.Cond → Bool} (h1 : L.all (fun c => isCode c || P c) = true) (h2 : ∀ c ∈ L.filter isCode, P c = true) : L.all P = true := by
  refine List.all_eq_true.mpr fun c hc => ?_
  have h := List.all_eq_true.mp h1 c hc
  rcases Bool.eq_false_or_eq_true (isCode c) with hi | hi
  · exact h2 c (List.mem_filter.mpr ⟨hc, hi⟩)
  · simpa [hi] using h
set_option maxRecDepth 65536 in
theorem w_c0 : (Jvm.Cond.code x code maxLocals ret).before args0 about1 = true := code_word (m := ⟨1, 1⟩) (meth := k1m1) (c := k1c1) (by decide +kernel) rfl rfl rfl (by decide +kernel)
set_option maxRecDepth 65536 in
theorem w_c1 : (Jvm.Cond.code ({ cls := "com/example/proofsheet/proofsheet/core/Rendition", name := "<init>", desc := "(IIZZ)V" } : Jvm.MethodName) prog_29_method_1_code (5 : Nat) (Option.none : Option Jvm.ClassFile.FieldType)).before args0 about1 = true := code_word (m := ⟨3, 0⟩) (meth := k3m0) (c := k3c0) (by decide +kernel) rfl rfl rfl (by decide +kernel)
set_option maxRecDepth 65536 in
theorem w_c2 : (Jvm.Cond.code ({ cls := "java/lang/Record", name := "<init>", desc := "()V" } : Jvm.MethodName) jdk_30_method_1_code (1 : Nat) (Option.none : Option Jvm.ClassFile.FieldType)).before args0 about1 = true := code_word (m := ⟨2, 0⟩) (meth := k2m0) (c := k2c0) (by decide +kernel) rfl rfl rfl (by decide +kernel)
set_option maxRecDepth 65536 in
theorem w_c3 : (Jvm.Cond.code ({ cls := "java/lang/Object", name := "<init>", desc := "()V" } : Jvm.MethodName) object_method_1_code (1 : Nat) (Option.none : Option Jvm.ClassFile.FieldType)).before args0 about1 = true := code_word (m := ⟨0, 0⟩) (meth := k0m0) (c := k0c0) (by decide +kernel) rfl rfl rfl (by decide +kernel)
set_option maxRecDepth 65536 in
theorem w_c4 : (Jvm.Cond.code ({ cls := "com/example/proofsheet/proofsheet/core/Rendition", name := "isOriginal", desc := "()Z" } : Jvm.MethodName) prog_29_method_3_code (1 : Nat) (Option.some Jvm.ClassFile.FieldType.boolean)).before args0 about1 = true := code_word (m := ⟨3, 1⟩) (meth := k3m1) (c := k3c1) (by decide +kernel) rfl rfl rfl (by decide +kernel)
def codes1 : List Jvm.Cond := [Jvm.Cond.code x code maxLocals ret, Jvm.Cond.code ({ cls := "com/example/proofsheet/proofsheet/core/Rendition", name := "<init>", desc := "(IIZZ)V" } : Jvm.MethodName) prog_29_method_1_code (5 : Nat) (Option.none : Option Jvm.ClassFile.FieldType), Jvm.Cond.code ({ cls := "java/lang/Record", name := "<init>", desc := "()V" } : Jvm.MethodName) jdk_30_method_1_code (1 : Nat) (Option.none : Option Jvm.ClassFile.FieldType), Jvm.Cond.code ({ cls := "java/lang/Object", name := "<init>", desc := "()V" } : Jvm.MethodName) object_method_1_code (1 : Nat) (Option.none : Option Jvm.ClassFile.FieldType), Jvm.Cond.code ({ cls := "com/example/proofsheet/proofsheet/core/Rendition", name := "isOriginal", desc := "()Z" } : Jvm.MethodName) prog_29_method_3_code (1 : Nat) (Option.some Jvm.ClassFile.FieldType.boolean)]
set_option maxRecDepth 65536 in
theorem codes_eq : words1.filter isCode = codes1 := rfl
theorem w_codes : ∀ c ∈ words1.filter isCode, c.before args0 about1 = true := by
  rw [codes_eq]
  intro c hc
  simp only [codes1, List.mem_cons, List.not_mem_nil, or_false] at hc
  rcases hc with rfl | rfl | rfl | rfl | rfl
  · exact w_c0
  · exact w_c1
  · exact w_c2
  · exact w_c3
  · exact w_c4
set_option maxRecDepth 65536 in
theorem w_t1 : (words1.take 24).all (fun c => isCode c || c.before args0 about1) = true := by decide +kernel
set_option maxRecDepth 65536 in
theorem w_t2 : (words1.drop 24).all (fun c => isCode c || c.before args0 about1) = true := by decide +kernel
theorem w_tables : (allAtoms (Jvm.Cond.code x code maxLocals ret :: tables_1)).before args0 about1 = true := by
  rw [allAtoms_all]
  show words1.all (fun c => c.before args0 about1) = true
  refine all_split ?_ w_codes
  rw [← List.take_append_drop 24 words1, List.all_append, w_t1, w_t2]
  rfl
set_option maxRecDepth 65536 in
theorem w_case : (Jvm.Cond.and given_1 narrow_1).before args0 about1 = true := by decide +kernel
theorem w_applies : (headSpec (Jvm.Cond.code x code maxLocals ret :: tables_1) room_1).applies x e0.platform about1 = true :=
  (Spec.applies_iff w_frames).mpr ⟨w_running, w_runnable, w_alone, w_named, w_hears, w_ripe, w_room, w_tables⟩
theorem atStart : AtStart classFile x code maxLocals ret World_1 tables_1 room_1 Calls_1 rest_1 Pre_1 launch0 p0 e0 about1 theMethod args0 below0 :=
  ⟨lists_1, trivial, launch0.admits_env _ _ _, launch0.least_env, fairChoices_fair.cas, fairChoices_fair.clock, w_frames, w_args, w_heap, w_applies, trivial, trivial, w_case⟩
end start1
theorem witness_1 : WitnessClaimed_1 := ⟨start1.p0, start1.e0, start1.about1, start1.theMethod, start1.args0, start1.below0, start1.atStart⟩
end Jvm.Pilot.@@N@@
