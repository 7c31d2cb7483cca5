import JvmDerived
import JvmDerived.Pilot.@@N@@Statement
import JvmDerived.Pilot.@@N@@Code
set_option linter.unusedVariables false
set_option linter.unusedSimpArgs false
namespace Jvm.RoadKit
open Sem ClassFile Op Lib Jvm.Stand Jvm.Free Jvm.LawKit
section New
variable {p : Program} {l : Launch} {e : Env} {R : Room} {s : State} {m : MethodId} {args : Array Value} {below : List Frame} {meth : Method} {c : Code} {T : State} {locs : List Loc} {cells slots : Nat}
theorem retI (X : Stand p l e R s m args below meth c T locs cells slots) (hx : p.tables.exec = Jvm.exec) {pc : Nat} {Ls : Array Slot} {z : Int32} {rest : List Value} (hret : meth.sig.returnType = some .int) (hd : decode c.code pc = .ok (.ireturn, 1)) {fs : List Frame}
    (hl : ∀ (f : JFrame) (acts : List Action), f.method = m → f.locked = none → f.entered = [] → (doReturn e (T.setTop f) acts (some (.int z))).1 = T.setFrames fs) : Steps p.tables e below (T.setTop (mkF m pc Ls (.int z :: rest))) (T.setFrames fs) := by
  have hm' : T.vm.method? m = some meth := X.method'
  have hn : narrow .int (.int z) = .int z := rfl
  show Steps p.tables e below (T.setTop { method := m, pc := pc, locals := Ls, stack := _ :: rest, locked := none }) _
  jvm_step X.here [X.here.top, hx, hd, hm', hret, hn]
  first | (intro acts; rw [hl _ acts rfl rfl rfl]) | rw [hl _ _ rfl rfl rfl]
  exact Steps.refl _
end New
end Jvm.RoadKit
namespace Jvm.Pilot.@@N@@
open Jvm Jvm.ClassFile Sem Op Lib Jvm.Free Jvm.Stand Jvm.LawKit Jvm.RoadKit Bundle Jvm.Pilot.@@N@@.Jvm.D
/-! MY OWN LAYER, 1: a walk in forward style -/
/-- from the state S the run ends, and Q holds of the end -/
def Goes (tb : Tables) (e : Env) (below : List Frame) (Q : Outcome → State → Prop) (S : State) : Prop :=
  ∃ s₂ o, Steps tb e below S s₂ ∧ s₂.status = .running ∧ Ended s₂ below o ∧ Q o s₂
theorem Goes.out {tb : Tables} {e : Env} {below : List Frame} {Q : Outcome → State → Prop} {S : State} (h : Goes tb e below Q S) :
    ∃ s₂ o, Steps tb e below S s₂ ∧ s₂.status = .running ∧ Ended s₂ below o ∧ Q o s₂ := h
theorem Goes.step {tb : Tables} {e : Env} {below : List Frame} {Q : Outcome → State → Prop} {S S' : State}
    (h : ∀ t, Steps tb e below S' t → Steps tb e below S t) (k : Goes tb e below Q S') : Goes tb e below Q S := by
  obtain ⟨s₂, o, h1, h2⟩ := k
  exact ⟨s₂, o, h _ h1, h2⟩
section Ites
variable {tb : Tables} {e : Env} {below : List Frame} {T S : State} {c : Prop} [Decidable c]
theorem own_ite0 {F : JFrame} (hy : c → ∀ t, Steps tb e below (T.setTop F) t → Steps tb e below S t) (hn : ¬ c → ∀ t, Steps tb e below (T.setTop F) t → Steps tb e below S t) :
    ∀ t, Steps tb e below (T.setTop F) t → Steps tb e below S t := fun t k => by
  by_cases h : c
  · exact hy h t k
  · exact hn h t k
theorem own_ite1 {A0 : Type} {a0 b0 : A0} {F : A0 → JFrame} (hy : c → ∀ t, Steps tb e below (T.setTop (F a0)) t → Steps tb e below S t) (hn : ¬ c → ∀ t, Steps tb e below (T.setTop (F b0)) t → Steps tb e below S t) :
    ∀ t, Steps tb e below (T.setTop (F (if c then a0 else b0))) t → Steps tb e below S t := fun t k => by
  by_cases h : c
  · rw [if_pos h] at k; exact hy h t k
  · rw [if_neg h] at k; exact hn h t k
theorem own_ite2 {A0 A1 : Type} {a0 b0 : A0} {a1 b1 : A1} {F : A0 → A1 → JFrame} (hy : c → ∀ t, Steps tb e below (T.setTop (F a0 a1)) t → Steps tb e below S t) (hn : ¬ c → ∀ t, Steps tb e below (T.setTop (F b0 b1)) t → Steps tb e below S t) :
    ∀ t, Steps tb e below (T.setTop (F (if c then a0 else b0) (if c then a1 else b1))) t → Steps tb e below S t := fun t k => by
  by_cases h : c
  · rw [if_pos h, if_pos h] at k; exact hy h t k
  · rw [if_neg h, if_neg h] at k; exact hn h t k
theorem own_ite3 {A0 A1 A2 : Type} {a0 b0 : A0} {a1 b1 : A1} {a2 b2 : A2} {F : A0 → A1 → A2 → JFrame} (hy : c → ∀ t, Steps tb e below (T.setTop (F a0 a1 a2)) t → Steps tb e below S t) (hn : ¬ c → ∀ t, Steps tb e below (T.setTop (F b0 b1 b2)) t → Steps tb e below S t) :
    ∀ t, Steps tb e below (T.setTop (F (if c then a0 else b0) (if c then a1 else b1) (if c then a2 else b2))) t → Steps tb e below S t := fun t k => by
  by_cases h : c
  · rw [if_pos h, if_pos h, if_pos h] at k; exact hy h t k
  · rw [if_neg h, if_neg h, if_neg h] at k; exact hn h t k
end Ites
section Rets
variable {p : Program} {l : Launch} {e : Env} {R : Room} {s : State} {m : MethodId} {args : Array Value} {below : List Frame} {meth : Method} {c : Code} {T : State} {locs : List Loc} {cells slots : Nat}
variable {QQ : Option Value → Heap → List Loc → Prop} {C0 S0 : Nat} {pc : Nat} {Ls : Array Slot} {rest : List Value}
theorem Goes.retN (X : Stand p l e R s m args below meth c T locs cells slots) (hx : p.tables.exec = Jvm.exec) (hlk : meth.locks = false) {t : FieldType} {z : Int32} (hret : meth.sig.returnType = some t) (ht : t = .boolean ∨ t = .byte ∨ t = .char ∨ t = .short)
    (hd : decode c.code pc = .ok (.ireturn, 1)) (hC : cells ≤ C0) (hS : slots ≤ S0) (hQ : QQ (some (.int (nar t z))) T.heap locs) :
    Goes p.tables e below (fun o U' => ∃ v L, o = .returned v ∧ QQ v U'.heap L ∧ FrameEnd s o U' L C0 S0) (T.setTop (mkF m pc Ls (.int z :: rest))) := by
  obtain ⟨fs, hr, hrun, hended, hW, hsame⟩ := X.leave (v := some (.int (nar t z))) (fun h => by rw [hret] at h; cases h) hlk
  exact ⟨_, _, Jvm.RoadKit.retN X hx hret ht hd hr, hrun, hended, _, _, rfl, hQ, ⟨_, rfl⟩, hW, hsame.mono hC hS⟩
theorem Goes.retI (X : Stand p l e R s m args below meth c T locs cells slots) (hx : p.tables.exec = Jvm.exec) (hlk : meth.locks = false) {z : Int32} (hret : meth.sig.returnType = some .int)
    (hd : decode c.code pc = .ok (.ireturn, 1)) (hC : cells ≤ C0) (hS : slots ≤ S0) (hQ : QQ (some (.int z)) T.heap locs) :
    Goes p.tables e below (fun o U' => ∃ v L, o = .returned v ∧ QQ v U'.heap L ∧ FrameEnd s o U' L C0 S0) (T.setTop (mkF m pc Ls (.int z :: rest))) := by
  obtain ⟨fs, hr, hrun, hended, hW, hsame⟩ := X.leave (v := some (.int z)) (fun h => by rw [hret] at h; cases h) hlk
  exact ⟨_, _, Jvm.RoadKit.retI X hx hret hd hr, hrun, hended, _, _, rfl, hQ, ⟨_, rfl⟩, hW, hsame.mono hC hS⟩
theorem Goes.retJ (X : Stand p l e R s m args below meth c T locs cells slots) (hx : p.tables.exec = Jvm.exec) (hlk : meth.locks = false) {z : Int64} (hret : meth.sig.returnType = some .long)
    (hd : decode c.code pc = .ok (.lreturn, 1)) (hC : cells ≤ C0) (hS : slots ≤ S0) (hQ : QQ (some (.long z)) T.heap locs) :
    Goes p.tables e below (fun o U' => ∃ v L, o = .returned v ∧ QQ v U'.heap L ∧ FrameEnd s o U' L C0 S0) (T.setTop (mkF m pc Ls (.long z :: rest))) := by
  obtain ⟨fs, hr, hrun, hended, hW, hsame⟩ := X.leave (v := some (.long z)) (fun h => by rw [hret] at h; cases h) hlk
  refine ⟨_, _, ?_, hrun, hended, _, _, rfl, hQ, ⟨_, rfl⟩, hW, hsame.mono hC hS⟩
  jvm_step X.here [X.here.top, hx, hd, X.method', hret, narrow]
  first | (intro acts; rw [hr _ acts rfl rfl rfl]) | rw [hr _ _ rfl rfl rfl]
  exact Steps.refl _
theorem Goes.retA (X : Stand p l e R s m args below meth c T locs cells slots) (hx : p.tables.exec = Jvm.exec) (hlk : meth.locks = false) {a : Addr} {t : FieldType} (hret : meth.sig.returnType = some t) (ht : t.isReference = true)
    (hd : decode c.code pc = .ok (.areturn, 1)) (hC : cells ≤ C0) (hS : slots ≤ S0) (hQ : QQ (some (.ref a)) T.heap locs) :
    Goes p.tables e below (fun o U' => ∃ v L, o = .returned v ∧ QQ v U'.heap L ∧ FrameEnd s o U' L C0 S0) (T.setTop (mkF m pc Ls (.ref a :: rest))) := by
  obtain ⟨fs, hr, hrun, hended, hW, hsame⟩ := X.leave (v := some (.ref a)) (fun h => by rw [hret] at h; cases h) hlk
  refine ⟨_, _, ?_, hrun, hended, _, _, rfl, hQ, ⟨_, rfl⟩, hW, hsame.mono hC hS⟩
  jvm_step X.here [X.here.top, hx, hd, X.method', hret, Value.isRef, ht]
  first | (intro acts; rw [hr _ acts rfl rfl rfl]) | rw [hr _ _ rfl rfl rfl]
  exact Steps.refl _
theorem Goes.retV (X : Stand p l e R s m args below meth c T locs cells slots) (hx : p.tables.exec = Jvm.exec) (hlk : meth.locks = false) (hret : meth.sig.returnType = none)
    (hd : decode c.code pc = .ok (.return_, 1)) (hC : cells ≤ C0) (hS : slots ≤ S0) (hQ : QQ none T.heap locs) :
    Goes p.tables e below (fun o U' => ∃ v L, o = .returned v ∧ QQ v U'.heap L ∧ FrameEnd s o U' L C0 S0) (T.setTop (mkF m pc Ls [])) := by
  obtain ⟨fs, hr, hrun, hended, hW, hsame⟩ := X.leave (v := none) (fun _ => rfl) hlk
  exact ⟨_, _, X.returnOut hx hret hd hr, hrun, hended, _, _, rfl, hQ, ⟨_, rfl⟩, hW, hsame.mono hC hS⟩
theorem own_lrem {g : JFrame} {target : State} (X : Stand p l e R s m args below meth c T locs cells slots) (hx : p.tables.exec = Jvm.exec) (hg : g.method = m) {x y : Int64} {rest : List Value} (hd : decode c.code g.pc = .ok (.lrem, 1)) (hs : g.stack = .long y :: .long x :: rest) (hy : y ≠ 0)
    (hr : Steps p.tables e below (T.setTop { g with pc := g.pc + 1, stack := .long (x % y) :: rest }) target) : Steps p.tables e below (T.setTop g) target :=
  XS.lrem X.here hx hg hd hs hy (by rw [lrem_mod]; exact hr)
end Rets
/-! MY OWN LAYER, 2: an array of ints (bytes, chars ..) by the list of its values, whole -/
def AI (Z : State) (h : Heap) (a : Addr) (k : ClassId) (ty : FieldType) (n : Int32) (vs : List Int32) : Prop :=
  Arv Z h a k ty n (vs.map Value.int) (.int 0) ∧ vs.length = n.toNatClampNeg
section Arrays
variable {p : Program} {l : Launch} {e : Env} {R : Room} {s : State} {m : MethodId} {args : Array Value} {below : List Frame} {meth : Method} {c : Code} {T : State} {locs : List Loc} {cells slots : Nat}
variable {Z : State} {h h' : Heap} {a b : Addr} {k : ClassId} {ty : FieldType} {n : Int32} {vs : List Int32} {sl : Nat} {v : Value} {ws : List Addr}
theorem AI.lt (F : AI Z h a k ty n vs) : a < h.size := F.1.lt
theorem AI.nn (F : AI Z h a k ty n vs) : ¬ n < 0 := by obtain ⟨⟨c, -, -, -, q, -⟩, -⟩ := F; exact q
theorem AI.ext (F : AI Z h a k ty n vs) (E : Ext h h') : AI Z h' a k ty n vs := ⟨F.1.ext E, F.2⟩
theorem AI.other (F : AI Z h b k ty n vs) (W : Wr h h' a sl v) (q : b ≠ a) : AI Z h' b k ty n vs := ⟨F.1.other W q, F.2⟩
theorem AI.keep (F : AI Z h a k ty n vs) (K : Keep h h' ws) (q : a ∉ ws) : AI Z h' a k ty n vs := ⟨F.1.keep K q, F.2⟩
theorem own_getD (vs : List Int32) (i : Nat) : (vs.map Value.int).getD i (.int 0) = .int (vs.getD i 0) := by
  simp only [List.getD_eq_getElem?_getD, List.getElem?_map]
  cases vs[i]? <;> rfl
theorem own_new {q : Int32} (A : Arr Z h a (newA k ty q) ty) (hq : ¬ q < 0) (hd : defaultValue ty = .int 0) {vs : List Int32} (hv : vs = List.replicate q.toNatClampNeg 0 := by rfl) : AI Z h a k ty q vs := by
  subst hv
  have V := Arv.new A hq
  rw [hd] at V
  refine ⟨?_, by simp⟩
  have q1 := V.pad (pad_rep [] (.int 0) q.toNatClampNeg)
  rw [List.nil_append] at q1
  rw [List.map_replicate]; exact q1
theorem own_inb {cl : Cell} {j : Int32} (S : cl.slots.size = n.toNatClampNeg) (q : ¬ j < 0 ∧ j < n) : ¬ (j < 0 ∨ cl.slots.size ≤ j.toNatClampNeg) := inb_of S q
theorem own_jlt {j : Int32} (q : ¬ j < 0 ∧ j < n) : j.toNatClampNeg < n.toNatClampNeg := by
  obtain ⟨q1, q2⟩ := q
  rw [Int32.lt_iff_toInt_lt] at q1 q2
  have e0 : (0 : Int32).toInt = 0 := rfl
  simp only [Int32.toNatClampNeg] at *; omega
theorem own_iaload {pc : Nat} {Ls : Array Slot} {rest : List Value} {j : Int32} (X : Stand p l e R s m args below meth c T locs cells slots) (hx : p.tables.exec = Jvm.exec) (hZ : Z.Warmed39 s.vm) (eT : T.heap = h) (F : AI Z h a k .int n vs) (hj : ¬ j < 0 ∧ j < n)
    (hd : decode c.code pc = .ok (.iaload, 1)) (t : State) (kk : Steps p.tables e below (T.setTop (mkF m (pc + 1) Ls (.int (vs.getD j.toNatClampNeg 0) :: rest))) t) : Steps p.tables e below (T.setTop (mkF m pc Ls (.int j :: .ref a :: rest))) t := by
  obtain ⟨⟨cl, A, -, S, -, H, -⟩, hl⟩ := F
  have hin := own_inb S hj
  exact X.iaload hx (j := j) (v := .int (vs.getD j.toNatClampNeg 0)) (by rw [eT]; exact A.1) (State.isArrayOf_alike hZ.alike A.2.1) A.2.2 hin (H.at hin (own_getD _ _)) (g := mkF m pc Ls (.int j :: .ref a :: rest)) rfl rfl hd _ kk
theorem own_baload {pc : Nat} {Ls : Array Slot} {rest : List Value} {j : Int32} (X : Stand p l e R s m args below meth c T locs cells slots) (hx : p.tables.exec = Jvm.exec) (hZ : Z.Warmed39 s.vm) (eT : T.heap = h) (F : AI Z h a k .byte n vs) (hj : ¬ j < 0 ∧ j < n)
    (hd : decode c.code pc = .ok (.baload, 1)) (t : State) (kk : Steps p.tables e below (T.setTop (mkF m (pc + 1) Ls (.int (vs.getD j.toNatClampNeg 0) :: rest))) t) : Steps p.tables e below (T.setTop (mkF m pc Ls (.int j :: .ref a :: rest))) t := by
  obtain ⟨⟨cl, A, -, S, -, H, -⟩, hl⟩ := F
  have hin := own_inb S hj
  exact X.baloadBytes hx (j := j) (v := .int (vs.getD j.toNatClampNeg 0)) (by rw [eT]; exact A.1) (State.isArrayOf_alike hZ.alike A.2.1) A.2.2 hin (H.at hin (own_getD _ _)) (g := mkF m pc Ls (.int j :: .ref a :: rest)) rfl rfl hd _ kk
theorem own_len {pc : Nat} {Ls : Array Slot} {rest : List Value} (X : Stand p l e R s m args below meth c T locs cells slots) (hx : p.tables.exec = Jvm.exec) (hZ : Z.Warmed39 s.vm) (eT : T.heap = h) (F : AI Z h a k ty n vs)
    (hd : decode c.code pc = .ok (.arraylength, 1)) (t : State) (kk : Steps p.tables e below (T.setTop (mkF m (pc + 1) Ls (.int n :: rest))) t) : Steps p.tables e below (T.setTop (mkF m pc Ls (.ref a :: rest))) t := by
  obtain ⟨⟨cl, A, -, S, N, H, -⟩, hl⟩ := F
  refine X.arraylength hx (by rw [eT]; exact A.1) (State.isArrayOf_alike hZ.alike A.2.1) (g := mkF m pc Ls (.ref a :: rest)) rfl rfl hd _ ?_
  rw [len_of S N]; exact kk
theorem own_iastore {j x : Int32} (X : Stand p l e R s m args below meth c T locs cells slots) (hx : p.tables.exec = Jvm.exec) (hZ : Z.Warmed39 s.vm) (eT : T.heap = h) (F : AI Z h a k .int n vs) (hj : ¬ j < 0 ∧ j < n) {g : JFrame} (hg : g.method = m) {rest : List Value} (hs : g.stack = .int x :: .int j :: .ref a :: rest) (hd : decode c.code g.pc = .ok (.iastore, 1)) :
    ∃ T' h', Stand p l e R s m args below meth c T' (locs ++ [⟨a, j.toNatClampNeg⟩]) cells slots ∧ T'.heap = h' ∧ Wr h h' a j.toNatClampNeg (.int x) ∧ AI Z h' a k .int n (vs.set j.toNatClampNeg x) ∧ ∀ target, Steps p.tables e below (T'.setTop { g with pc := g.pc + 1, stack := rest }) target → Steps p.tables e below (T.setTop g) target := by
  obtain ⟨⟨cl, A, q1, S, N, H, G⟩, hl⟩ := F
  obtain ⟨T', h', X', e', W, st⟩ := stI X hx hZ eT A (own_inb S hj) hg hs hd
  refine ⟨T', h', X', e', W, ⟨?_, by simpa using hl⟩, st⟩
  rw [List.map_set]
  exact Arv.set A q1 S N H G rfl W _ rfl (by rw [List.length_map, hl]; exact own_jlt hj)
theorem own_bastore {j x : Int32} (X : Stand p l e R s m args below meth c T locs cells slots) (hx : p.tables.exec = Jvm.exec) (hZ : Z.Warmed39 s.vm) (eT : T.heap = h) (F : AI Z h a k .byte n vs) (hj : ¬ j < 0 ∧ j < n) {g : JFrame} (hg : g.method = m) {rest : List Value} (hs : g.stack = .int x :: .int j :: .ref a :: rest) (hd : decode c.code g.pc = .ok (.bastore, 1)) :
    ∃ T' h', Stand p l e R s m args below meth c T' (locs ++ [⟨a, j.toNatClampNeg⟩]) cells slots ∧ T'.heap = h' ∧ Wr h h' a j.toNatClampNeg (.int (nar .byte x)) ∧ AI Z h' a k .byte n (vs.set j.toNatClampNeg (nar .byte x)) ∧ ∀ target, Steps p.tables e below (T'.setTop { g with pc := g.pc + 1, stack := rest }) target → Steps p.tables e below (T.setTop g) target := by
  obtain ⟨⟨cl, A, q1, S, N, H, G⟩, hl⟩ := F
  obtain ⟨T', h', X', e', W, st⟩ := stB X hx hZ eT A (own_inb S hj) hg hs hd
  refine ⟨T', h', X', e', W, ⟨?_, by simpa using hl⟩, st⟩
  rw [List.map_set]
  exact Arv.set A q1 S N H G (fits_nar_byte _) W _ rfl (by rw [List.length_map, hl]; exact own_jlt hj)
end Arrays
/-! MY OWN LAYER, 3: numbers -/
theorem own_b255 (x : Int32) : (nar .byte (x.toInt8.toInt32)) &&& 255 = x &&& 255 := by
  have a := c_i2b x
  have b := c_i2b x.toInt8.toInt32
  have m1 : ((x.toInt8.toInt32.toInt8.toInt32) &&& 255).toInt = (x.toInt8.toInt32.toInt8.toInt32).toInt % 256 := c_mask _ 255 8 (by decide) (by decide)
  have m2 : (x &&& 255).toInt = x.toInt % 256 := c_mask _ 255 8 (by decide) (by decide)
  apply Int32.toInt_inj.mp
  show ((x.toInt8.toInt32.toInt8.toInt32) &&& 255).toInt = _
  omega
theorem own_m255 (x : Int32) : (x &&& 255).toInt = x.toInt % 256 := c_mask _ 255 8 (by decide) (by decide)
theorem own_or8 (a b : Int32) (h1 : 0 ≤ a.toInt) (h2 : a.toInt < 256) (h3 : 0 ≤ b.toInt) (h4 : b.toInt < 256) : ((a <<< ((8 : Int32) &&& 31)) ||| b).toInt = a.toInt * 256 + b.toInt := by
  have s : ((a <<< ((8 : Int32) &&& 31)).toInt - a.toInt * 256) % 4294967296 = 0 := c_ishl a 8 8 (by decide)
  have r := rng32 (a <<< ((8 : Int32) &&& 31))
  have e : (a <<< ((8 : Int32) &&& 31)).toInt = a.toInt * 256 := by omega
  have o := c_or (a <<< ((8 : Int32) &&& 31)) b 8 (by decide) 256 (by decide) (by omega) h3 h4
  have r2 := rng32 ((a <<< ((8 : Int32) &&& 31)) ||| b)
  omega
theorem own_nar0 : nar .boolean 0 = 0 := by decide
theorem own_nar1 : nar .boolean 1 = 1 := by decide
theorem d1_0 : decode method_2_code 0 = .ok (.iload_n 0, 1) := by decide +kernel
theorem d1_1 : decode method_2_code 1 = .ok (.i2b, 1) := by decide +kernel
theorem d1_2 : decode method_2_code 2 = .ok (.istore_n 1, 1) := by decide +kernel
theorem d1_3 : decode method_2_code 3 = .ok (.iload_n 1, 1) := by decide +kernel
theorem d1_4 : decode method_2_code 4 = .ok (.ifCond .ge 9, 3) := by decide +kernel
theorem d1_7 : decode method_2_code 7 = .ok (.iload_n 1, 1) := by decide +kernel
theorem d1_8 : decode method_2_code 8 = .ok (.sipush 256, 3) := by decide +kernel
theorem d1_11 : decode method_2_code 11 = .ok (.iadd, 1) := by decide +kernel
theorem d1_12 : decode method_2_code 12 = .ok (.istore_n 1, 1) := by decide +kernel
theorem d1_13 : decode method_2_code 13 = .ok (.iload_n 1, 1) := by decide +kernel
theorem d1_14 : decode method_2_code 14 = .ok (.ireturn, 1) := by decide +kernel
theorem pn0 : plainName "com/example/marginalia/marginalia/classfile/ClassBytesU2PinLaw" = true := by first | (simp [plainName, overriddenIn]; done) | decide +kernel
theorem ef1 (m : MethodId) (p0 : Int32) : entryFrame m #[(.int p0)] 2 = mkF m 0 #[.val (.int p0), .unset] [] := by first | (simp [entryFrame, mkF, argsToLocals, Value.category]; done) | rfl
def f1 (p0 : Int32) : Int32 := (if (p0.toInt8.toInt32) < (0 : Int32) then ((p0.toInt8.toInt32) + (256 : Int32)) else (p0.toInt8.toInt32))
def Q1 (Z : State) (p0 : Int32) (h0 : Heap) (n0 : Nat) (v : Option Value) (h : Heap) (L : List Loc) : Prop := v = some (.int (f1 p0)) ∧ Fr n0 L ∧ h = h0
set_option maxRecDepth 65536 in
set_option maxHeartbeats 40000000 in
theorem rm1 (l : Launch) (Z : State) (a0 : Array Value) (hw : ∀ d ∈ tables_1, d.before a0 Z = true) (ws : List Jvm.Cond) (p0 : Int32) (h0 : Heap) (n0 : Nat) (Z0 : n0 ≤ h0.size) :
    MetFree l (⟨"com/example/marginalia/marginalia/classfile/ClassBytesU2PinLaw", "unsignedByte", "(I)I"⟩ : MethodName) (head1 (Jvm.Cond.code (⟨"com/example/marginalia/marginalia/classfile/ClassBytesU2PinLaw", "unsignedByte", "(I)I"⟩ : MethodName) method_2_code 2 (some .int) :: ws) ({ frames := 0, cells := 0, slots := 0, locals := 0 } : Room)) (fun a U => a = #[(.int p0)] ∧ Z.Warmed39 U.vm ∧ U.heap = h0) (fun _ _ _ _ _ => True) (fun _ U o U' => ∃ v L, o = .returned v ∧ Q1 Z p0 h0 n0 v U'.heap L ∧ FrameEnd U o U' L ({ frames := 0, cells := 0, slots := 0, locals := 0 } : Room).cells ({ frames := 0, cells := 0, slots := 0, locals := 0 } : Room).slots) := by
  refine MetFree.of_bodySF (plainFor_of_name pn0) hisR ?_
  intro p e s m args below meth c s₁ Bd hml0 hP hK
  obtain ⟨rfl, hZ, hh⟩ := hP
  have hx := Bd.exec
  have hby := Bd.bytes
  have hml : c.maxLocals = 2 := hml0
  have hown : s.vm.findClass "com/example/marginalia/marginalia/classfile/ClassBytesU2PinLaw" = some m.cls := findClass_of_methodNamed Bd.named
  have hnm := (name_of_methodNamed Bd.named Bd.method).1
  have X0 : Stand p l e ({ frames := 0, cells := 0, slots := 0, locals := 0 } : Room) s m #[(.int p0)] below meth c s₁ [] 0 0 := Stand.of_body Bd
  have e0 : s₁.heap = h0 := by rw [← hh, Bd.state]; rfl
  have N0 := Fr.nil n0
  refine Goes.out (Q := fun o U' => ∃ v L, o = .returned v ∧ Q1 Z p0 h0 n0 v U'.heap L ∧ FrameEnd s o U' L ({ frames := 0, cells := 0, slots := 0, locals := 0 } : Room).cells ({ frames := 0, cells := 0, slots := 0, locals := 0 } : Room).slots) ?_
  refine Goes.step (S' := s₁.setTop (mkF m 0 #[.val (.int p0), .unset] [])) (fun _ k => castTop (ef1 m p0) k) ?_
  refine Goes.step (S' := s₁.setTop (mkF m 1 #[.val (.int p0), .unset] [(.int p0)])) (fun _ k => XS.iloadN X0.here hx rfl (hb hby d1_0) rfl  k) ?_
  refine Goes.step (S' := s₁.setTop (mkF m 2 #[.val (.int p0), .unset] [(.int (p0.toInt8.toInt32))])) (fun _ k => XS.i2b X0.here hx rfl (hb hby d1_1) rfl k) ?_
  refine Goes.step (S' := s₁.setTop (mkF m 3 #[.val (.int p0), .val (.int (p0.toInt8.toInt32))] [])) (fun _ k => XS.istoreN X0.here hx rfl (hb hby d1_2) rfl (l' := #[.val (.int p0), .val (.int (p0.toInt8.toInt32))]) rfl k) ?_
  refine Goes.step (S' := s₁.setTop (mkF m 4 #[.val (.int p0), .val (.int (p0.toInt8.toInt32))] [(.int (p0.toInt8.toInt32))])) (fun _ k => XS.iloadN X0.here hx rfl (hb hby d1_3) rfl  k) ?_
  refine Goes.step (own_ite1 (T := s₁) (c := (p0.toInt8.toInt32) < (0 : Int32)) (a0 := ((p0.toInt8.toInt32) + (256 : Int32))) (b0 := (p0.toInt8.toInt32)) (F := fun z1_0 => (mkF m 13 #[.val (.int p0), .val (.int z1_0)] [])) ?_ ?_) ?_
  · intro hc4_1 t k
    refine XS.ifNo X0.here hx rfl (hb hby d1_4) rfl ((if0 _ _).trans (tlt hc4_1).2.1) ?_
    show Steps p.tables e below (s₁.setTop (mkF m 7 #[.val (.int p0), .val (.int (p0.toInt8.toInt32))] [])) _
    refine XS.iloadN X0.here hx rfl (hb hby d1_7) rfl  ?_
    show Steps p.tables e below (s₁.setTop (mkF m 8 #[.val (.int p0), .val (.int (p0.toInt8.toInt32))] [(.int (p0.toInt8.toInt32))])) _
    refine XS.sipush X0.here hx rfl (hb hby d1_8) ?_
    show Steps p.tables e below (s₁.setTop (mkF m 11 #[.val (.int p0), .val (.int (p0.toInt8.toInt32))] [(.int (256 : Int32)), (.int (p0.toInt8.toInt32))])) _
    refine XS.iadd X0.here hx rfl (hb hby d1_11) rfl ?_
    show Steps p.tables e below (s₁.setTop (mkF m 12 #[.val (.int p0), .val (.int (p0.toInt8.toInt32))] [(.int ((p0.toInt8.toInt32) + (256 : Int32)))])) _
    refine XS.istoreN X0.here hx rfl (hb hby d1_12) rfl (l' := #[.val (.int p0), .val (.int ((p0.toInt8.toInt32) + (256 : Int32)))]) rfl ?_
    show Steps p.tables e below (s₁.setTop (mkF m 13 #[.val (.int p0), .val (.int ((p0.toInt8.toInt32) + (256 : Int32)))] [])) _
    exact k
  · intro hc4_1 t k
    refine XS.ifYes X0.here hx rfl (pc0 := 4) (pc' := 13) rfl (hb hby d1_4) rfl ((if0 _ _).trans (flt hc4_1).2.1) (by decide) (by decide) ?_
    show Steps p.tables e below (s₁.setTop (mkF m 13 #[.val (.int p0), .val (.int (p0.toInt8.toInt32))] [])) _
    exact k
  show Goes p.tables e below _ (s₁.setTop (mkF m 13 #[.val (.int p0), .val (.int (if (p0.toInt8.toInt32) < (0 : Int32) then ((p0.toInt8.toInt32) + (256 : Int32)) else (p0.toInt8.toInt32)))] []))
  refine Goes.step (S' := s₁.setTop (mkF m 14 #[.val (.int p0), .val (.int (if (p0.toInt8.toInt32) < (0 : Int32) then ((p0.toInt8.toInt32) + (256 : Int32)) else (p0.toInt8.toInt32)))] [(.int (if (p0.toInt8.toInt32) < (0 : Int32) then ((p0.toInt8.toInt32) + (256 : Int32)) else (p0.toInt8.toInt32)))])) (fun _ k => XS.iloadN X0.here hx rfl (hb hby d1_13) rfl  k) ?_
  refine Goes.retI X0 hx Bd.notSynchronized Bd.returns (hb hby d1_14) (by decide) (by decide) ?_
  exact ⟨rfl, N0, e0⟩
theorem own_f1 (p0 : Int32) : f1 p0 = p0 &&& 255 := by
  have a := c_i2b p0
  have b := own_m255 p0
  have d := c_iadd (p0.toInt8.toInt32) 256
  have r := rng32 (p0.toInt8.toInt32 + 256)
  simp only [Int32.reduceToInt] at d
  apply Int32.toInt_inj.mp
  unfold f1
  simp only [Int32.lt_iff_toInt_lt, Int32.reduceToInt]
  split <;> omega
theorem d2_0 : decode prog_15_method_7_code 0 = .ok (.aload_n 0, 1) := by decide +kernel
theorem d2_1 : decode prog_15_method_7_code 1 = .ok (.iload_n 1, 1) := by decide +kernel
theorem d2_2 : decode prog_15_method_7_code 2 = .ok (.baload, 1) := by decide +kernel
theorem d2_3 : decode prog_15_method_7_code 3 = .ok (.sipush 255, 3) := by decide +kernel
theorem d2_6 : decode prog_15_method_7_code 6 = .ok (.iand, 1) := by decide +kernel
theorem d2_7 : decode prog_15_method_7_code 7 = .ok (.bipush 8, 2) := by decide +kernel
theorem d2_9 : decode prog_15_method_7_code 9 = .ok (.ishl, 1) := by decide +kernel
theorem d2_10 : decode prog_15_method_7_code 10 = .ok (.aload_n 0, 1) := by decide +kernel
theorem d2_11 : decode prog_15_method_7_code 11 = .ok (.iload_n 1, 1) := by decide +kernel
theorem d2_12 : decode prog_15_method_7_code 12 = .ok (.iconst 1, 1) := by decide +kernel
theorem d2_13 : decode prog_15_method_7_code 13 = .ok (.iadd, 1) := by decide +kernel
theorem d2_14 : decode prog_15_method_7_code 14 = .ok (.baload, 1) := by decide +kernel
theorem d2_15 : decode prog_15_method_7_code 15 = .ok (.sipush 255, 3) := by decide +kernel
theorem d2_18 : decode prog_15_method_7_code 18 = .ok (.iand, 1) := by decide +kernel
theorem d2_19 : decode prog_15_method_7_code 19 = .ok (.ior, 1) := by decide +kernel
theorem d2_20 : decode prog_15_method_7_code 20 = .ok (.ireturn, 1) := by decide +kernel
theorem pn1 : plainName "com/example/marginalia/marginalia/classfile/ClassBytes" = true := by first | (simp [plainName, overriddenIn]; done) | decide +kernel
theorem ef2 (m : MethodId) (u0 : Addr) (p1 : Int32) : entryFrame m #[(.ref u0), (.int p1)] 2 = mkF m 0 #[.val (.ref u0), .val (.int p1)] [] := by first | (simp [entryFrame, mkF, argsToLocals, Value.category]; done) | rfl
def f2 (n_u0 : Int32) (vs_u0 : List Int32) (p1 : Int32) : Int32 := ((((vs_u0.getD (p1).toNatClampNeg 0) &&& (255 : Int32)) <<< ((8 : Int32) &&& 31)) ||| ((vs_u0.getD ((p1 + (1 : Int32))).toNatClampNeg 0) &&& (255 : Int32)))
theorem own_ix2_2 (n_u0 : Int32) (vs_u0 : List Int32) (hl_u0 : vs_u0.length = n_u0.toNatClampNeg) (hn_u0 : ¬ n_u0 < 0) (p1 : Int32) (hB : ¬ p1 < 0 ∧ p1 < n_u0) (hb2 : ¬ (p1 + (1 : Int32)) < 0 ∧ (p1 + (1 : Int32)) < n_u0) : ¬ p1 < 0 ∧ p1 < n_u0 := by
  exact hB
theorem own_ix2_14 (n_u0 : Int32) (vs_u0 : List Int32) (hl_u0 : vs_u0.length = n_u0.toNatClampNeg) (hn_u0 : ¬ n_u0 < 0) (p1 : Int32) (hB : ¬ p1 < 0 ∧ p1 < n_u0) (hb2 : ¬ (p1 + (1 : Int32)) < 0 ∧ (p1 + (1 : Int32)) < n_u0) : ¬ (p1 + (1 : Int32)) < 0 ∧ (p1 + (1 : Int32)) < n_u0 := by
  exact hb2
def Q2 (Z : State) (u0 : Addr) (p1 : Int32) (k_u0 : ClassId) (n_u0 : Int32) (vs_u0 : List Int32) (h0 : Heap) (n0 : Nat) (v : Option Value) (h : Heap) (L : List Loc) : Prop := v = some (.int (f2 n_u0 vs_u0 p1)) ∧ Fr n0 L ∧ h = h0
set_option maxRecDepth 65536 in
set_option maxHeartbeats 40000000 in
theorem rm2 (l : Launch) (Z : State) (a0 : Array Value) (hw : ∀ d ∈ tables_1, d.before a0 Z = true) (ws : List Jvm.Cond) (u0 : Addr) (p1 : Int32) (k_u0 : ClassId) (n_u0 : Int32) (vs_u0 : List Int32) (h0 : Heap) (n0 : Nat) (Z0 : n0 ≤ h0.size) (V_u0 : AI Z h0 u0 k_u0 .byte n_u0 vs_u0) (hB : ¬ p1 < 0 ∧ p1 < n_u0) (hb2 : ¬ (p1 + (1 : Int32)) < 0 ∧ (p1 + (1 : Int32)) < n_u0) :
    MetFree l (⟨"com/example/marginalia/marginalia/classfile/ClassBytes", "u2", "([BI)I"⟩ : MethodName) (head1 (Jvm.Cond.code (⟨"com/example/marginalia/marginalia/classfile/ClassBytes", "u2", "([BI)I"⟩ : MethodName) prog_15_method_7_code 2 (some .int) :: ws) ({ frames := 0, cells := 0, slots := 0, locals := 0 } : Room)) (fun a U => a = #[(.ref u0), (.int p1)] ∧ Z.Warmed39 U.vm ∧ U.heap = h0) (fun _ _ _ _ _ => True) (fun _ U o U' => ∃ v L, o = .returned v ∧ Q2 Z u0 p1 k_u0 n_u0 vs_u0 h0 n0 v U'.heap L ∧ FrameEnd U o U' L ({ frames := 0, cells := 0, slots := 0, locals := 0 } : Room).cells ({ frames := 0, cells := 0, slots := 0, locals := 0 } : Room).slots) := by
  refine MetFree.of_bodySF (plainFor_of_name pn1) hisR ?_
  intro p e s m args below meth c s₁ Bd hml0 hP hK
  obtain ⟨rfl, hZ, hh⟩ := hP
  have hx := Bd.exec
  have hby := Bd.bytes
  have hml : c.maxLocals = 2 := hml0
  have hown : s.vm.findClass "com/example/marginalia/marginalia/classfile/ClassBytes" = some m.cls := findClass_of_methodNamed Bd.named
  have hnm := (name_of_methodNamed Bd.named Bd.method).1
  have X0 : Stand p l e ({ frames := 0, cells := 0, slots := 0, locals := 0 } : Room) s m #[(.ref u0), (.int p1)] below meth c s₁ [] 0 0 := Stand.of_body Bd
  have e0 : s₁.heap = h0 := by rw [← hh, Bd.state]; rfl
  have N0 := Fr.nil n0
  have hl_u0 : vs_u0.length = n_u0.toNatClampNeg := V_u0.2
  have hn_u0 : ¬ n_u0 < 0 := V_u0.nn
  refine Goes.out (Q := fun o U' => ∃ v L, o = .returned v ∧ Q2 Z u0 p1 k_u0 n_u0 vs_u0 h0 n0 v U'.heap L ∧ FrameEnd s o U' L ({ frames := 0, cells := 0, slots := 0, locals := 0 } : Room).cells ({ frames := 0, cells := 0, slots := 0, locals := 0 } : Room).slots) ?_
  refine Goes.step (S' := s₁.setTop (mkF m 0 #[.val (.ref u0), .val (.int p1)] [])) (fun _ k => castTop (ef2 m u0 p1) k) ?_
  refine Goes.step (S' := s₁.setTop (mkF m 1 #[.val (.ref u0), .val (.int p1)] [(.ref u0)])) (fun _ k => XS.aloadN X0.here hx rfl (hb hby d2_0) rfl rfl k) ?_
  refine Goes.step (S' := s₁.setTop (mkF m 2 #[.val (.ref u0), .val (.int p1)] [(.int p1), (.ref u0)])) (fun _ k => XS.iloadN X0.here hx rfl (hb hby d2_1) rfl  k) ?_
  refine Goes.step (S' := s₁.setTop (mkF m 3 #[.val (.ref u0), .val (.int p1)] [(.int (vs_u0.getD (p1).toNatClampNeg 0))])) (fun _ k => own_baload X0 hx hZ e0 V_u0 (own_ix2_2 n_u0 vs_u0 hl_u0 hn_u0 p1 hB hb2) (hb hby d2_2) _ k) ?_
  refine Goes.step (S' := s₁.setTop (mkF m 6 #[.val (.ref u0), .val (.int p1)] [(.int (255 : Int32)), (.int (vs_u0.getD (p1).toNatClampNeg 0))])) (fun _ k => XS.sipush X0.here hx rfl (hb hby d2_3) k) ?_
  refine Goes.step (S' := s₁.setTop (mkF m 7 #[.val (.ref u0), .val (.int p1)] [(.int ((vs_u0.getD (p1).toNatClampNeg 0) &&& (255 : Int32)))])) (fun _ k => XS.iand X0.here hx rfl (hb hby d2_6) rfl k) ?_
  refine Goes.step (S' := s₁.setTop (mkF m 9 #[.val (.ref u0), .val (.int p1)] [(.int (8 : Int32)), (.int ((vs_u0.getD (p1).toNatClampNeg 0) &&& (255 : Int32)))])) (fun _ k => XS.bipush X0.here hx rfl (hb hby d2_7) k) ?_
  refine Goes.step (S' := s₁.setTop (mkF m 10 #[.val (.ref u0), .val (.int p1)] [(.int (((vs_u0.getD (p1).toNatClampNeg 0) &&& (255 : Int32)) <<< ((8 : Int32) &&& 31)))])) (fun _ k => XS.ishl X0.here hx rfl (hb hby d2_9) rfl k) ?_
  refine Goes.step (S' := s₁.setTop (mkF m 11 #[.val (.ref u0), .val (.int p1)] [(.ref u0), (.int (((vs_u0.getD (p1).toNatClampNeg 0) &&& (255 : Int32)) <<< ((8 : Int32) &&& 31)))])) (fun _ k => XS.aloadN X0.here hx rfl (hb hby d2_10) rfl rfl k) ?_
  refine Goes.step (S' := s₁.setTop (mkF m 12 #[.val (.ref u0), .val (.int p1)] [(.int p1), (.ref u0), (.int (((vs_u0.getD (p1).toNatClampNeg 0) &&& (255 : Int32)) <<< ((8 : Int32) &&& 31)))])) (fun _ k => XS.iloadN X0.here hx rfl (hb hby d2_11) rfl  k) ?_
  refine Goes.step (S' := s₁.setTop (mkF m 13 #[.val (.ref u0), .val (.int p1)] [(.int (1 : Int32)), (.int p1), (.ref u0), (.int (((vs_u0.getD (p1).toNatClampNeg 0) &&& (255 : Int32)) <<< ((8 : Int32) &&& 31)))])) (fun _ k => XS.iconst X0.here hx rfl (hb hby d2_12) k) ?_
  refine Goes.step (S' := s₁.setTop (mkF m 14 #[.val (.ref u0), .val (.int p1)] [(.int (p1 + (1 : Int32))), (.ref u0), (.int (((vs_u0.getD (p1).toNatClampNeg 0) &&& (255 : Int32)) <<< ((8 : Int32) &&& 31)))])) (fun _ k => XS.iadd X0.here hx rfl (hb hby d2_13) rfl k) ?_
  refine Goes.step (S' := s₁.setTop (mkF m 15 #[.val (.ref u0), .val (.int p1)] [(.int (vs_u0.getD ((p1 + (1 : Int32))).toNatClampNeg 0)), (.int (((vs_u0.getD (p1).toNatClampNeg 0) &&& (255 : Int32)) <<< ((8 : Int32) &&& 31)))])) (fun _ k => own_baload X0 hx hZ e0 V_u0 (own_ix2_14 n_u0 vs_u0 hl_u0 hn_u0 p1 hB hb2) (hb hby d2_14) _ k) ?_
  refine Goes.step (S' := s₁.setTop (mkF m 18 #[.val (.ref u0), .val (.int p1)] [(.int (255 : Int32)), (.int (vs_u0.getD ((p1 + (1 : Int32))).toNatClampNeg 0)), (.int (((vs_u0.getD (p1).toNatClampNeg 0) &&& (255 : Int32)) <<< ((8 : Int32) &&& 31)))])) (fun _ k => XS.sipush X0.here hx rfl (hb hby d2_15) k) ?_
  refine Goes.step (S' := s₁.setTop (mkF m 19 #[.val (.ref u0), .val (.int p1)] [(.int ((vs_u0.getD ((p1 + (1 : Int32))).toNatClampNeg 0) &&& (255 : Int32))), (.int (((vs_u0.getD (p1).toNatClampNeg 0) &&& (255 : Int32)) <<< ((8 : Int32) &&& 31)))])) (fun _ k => XS.iand X0.here hx rfl (hb hby d2_18) rfl k) ?_
  refine Goes.step (S' := s₁.setTop (mkF m 20 #[.val (.ref u0), .val (.int p1)] [(.int ((((vs_u0.getD (p1).toNatClampNeg 0) &&& (255 : Int32)) <<< ((8 : Int32) &&& 31)) ||| ((vs_u0.getD ((p1 + (1 : Int32))).toNatClampNeg 0) &&& (255 : Int32))))])) (fun _ k => XS.ior X0.here hx rfl (hb hby d2_19) rfl k) ?_
  refine Goes.retI X0 hx Bd.notSynchronized Bd.returns (hb hby d2_20) (by decide) (by decide) ?_
  exact ⟨rfl, N0, e0⟩
theorem pd0 : parseMethodDescriptor "(I)I" = some ⟨[.int], some .int⟩ := by decide +kernel
theorem pd1 : parseMethodDescriptor "([BI)I" = some ⟨[(.array .byte), .int], some .int⟩ := by decide +kernel
theorem ef0 (m : MethodId) (p0 : Int32) (p1 : Int32) (p2 : Int32) (p3 : Int32) : entryFrame m #[(.int p0), (.int p1), (.int p2), (.int p3)] maxLocals = mkF m 0 #[.val (.int p0), .val (.int p1), .val (.int p2), .val (.int p3), .unset, .unset, .unset, .unset] [] := by first | (simp [entryFrame, mkF, argsToLocals, Value.category, maxLocals]; done) | rfl
theorem own_case0_8 (p0 : Int32) (p1 : Int32) (p2 : Int32) (p3 : Int32) (v4_6 : Int32) (ev4_6 : v4_6 = ((p3 &&& (2147483647 : Int32)) % (3 : Int32))) : v4_6 = (0 : Int32) ∨ v4_6 = (1 : Int32) ∨ v4_6 = (2 : Int32) := by
  have a : (p3 &&& 2147483647).toInt = p3.toInt % 2147483648 := c_mask p3 2147483647 31 (by decide) (by decide)
  have b := c_irem (p3 &&& 2147483647) 3 3 (by decide)
  rw [← ev4_6] at b
  simp only [← Int32.toInt_inj, Int32.reduceToInt]
  omega
theorem own_pr0_81_hB (p0 : Int32) (p1 : Int32) (p2 : Int32) (p3 : Int32) (ev4_6 : (0 : Int32) = ((p3 &&& (2147483647 : Int32)) % (3 : Int32))) (v6_75 : Int32) (ev6_75 : v6_75 = (((f1 p0) * (256 : Int32)) + (f1 p1))) : ¬ (0 : Int32) < 0 ∧ (0 : Int32) < (4 : Int32) := by
  first | decide | exact ⟨by decide, by decide⟩
theorem own_pr0_81_hb2 (p0 : Int32) (p1 : Int32) (p2 : Int32) (p3 : Int32) (ev4_6 : (0 : Int32) = ((p3 &&& (2147483647 : Int32)) % (3 : Int32))) (v6_75 : Int32) (ev6_75 : v6_75 = (((f1 p0) * (256 : Int32)) + (f1 p1))) : ¬ ((0 : Int32) + (1 : Int32)) < 0 ∧ ((0 : Int32) + (1 : Int32)) < (4 : Int32) := by
  first | decide | exact ⟨by decide, by decide⟩
theorem own_hc0_90 (p0 : Int32) (p1 : Int32) (p2 : Int32) (p3 : Int32) (ev4_6 : (0 : Int32) = ((p3 &&& (2147483647 : Int32)) % (3 : Int32))) (v6_75 : Int32) (ev6_75 : v6_75 = (((f1 p0) * (256 : Int32)) + (f1 p1))) (v7_84 : Int32) (ev7_84 : v7_84 = (f2 (4 : Int32) [(nar .byte (p0.toInt8.toInt32)), (nar .byte (p1.toInt8.toInt32)), (nar .byte ((p2 >>> ((16 : Int32) &&& 31)).toInt8.toInt32)), (nar .byte ((p2 >>> ((24 : Int32) &&& 31)).toInt8.toInt32))] (0 : Int32))) : v7_84 = v6_75 := by
  rw [ev7_84, ev6_75]
  clear ev7_84 ev6_75
  show (((nar .byte (p0.toInt8.toInt32)) &&& 255) <<< ((8 : Int32) &&& 31)) ||| ((nar .byte (p1.toInt8.toInt32)) &&& 255) = _
  rw [own_b255, own_b255]
  have a0 := own_m255 p0
  have a1 := own_m255 p1
  have o := own_or8 (p0 &&& 255) (p1 &&& 255) (by omega) (by omega) (by omega) (by omega)
  have e0 := own_f1 p0
  have e1 := own_f1 p1
  rw [e0, e1]
  have m := c_imul (p0 &&& 255) 256
  have d := c_iadd ((p0 &&& 255) * 256) (p1 &&& 255)
  have r := rng32 ((p0 &&& 255) * 256 + (p1 &&& 255))
  have r1 := rng32 ((p0 &&& 255) * 256)
  simp only [Int32.reduceToInt] at m
  apply Int32.toInt_inj.mp
  omega
theorem own_pr0_81_hB_2 (p0 : Int32) (p1 : Int32) (p2 : Int32) (p3 : Int32) (ev4_6 : (1 : Int32) = ((p3 &&& (2147483647 : Int32)) % (3 : Int32))) (v6_75 : Int32) (ev6_75 : v6_75 = (((f1 p0) * (256 : Int32)) + (f1 p1))) : ¬ (1 : Int32) < 0 ∧ (1 : Int32) < (4 : Int32) := by
  first | decide | exact ⟨by decide, by decide⟩
theorem own_pr0_81_hb2_2 (p0 : Int32) (p1 : Int32) (p2 : Int32) (p3 : Int32) (ev4_6 : (1 : Int32) = ((p3 &&& (2147483647 : Int32)) % (3 : Int32))) (v6_75 : Int32) (ev6_75 : v6_75 = (((f1 p0) * (256 : Int32)) + (f1 p1))) : ¬ ((1 : Int32) + (1 : Int32)) < 0 ∧ ((1 : Int32) + (1 : Int32)) < (4 : Int32) := by
  first | decide | exact ⟨by decide, by decide⟩
theorem own_hc0_90_2 (p0 : Int32) (p1 : Int32) (p2 : Int32) (p3 : Int32) (ev4_6 : (1 : Int32) = ((p3 &&& (2147483647 : Int32)) % (3 : Int32))) (v6_75 : Int32) (ev6_75 : v6_75 = (((f1 p0) * (256 : Int32)) + (f1 p1))) (v7_84 : Int32) (ev7_84 : v7_84 = (f2 (4 : Int32) [(nar .byte (p2.toInt8.toInt32)), (nar .byte (p0.toInt8.toInt32)), (nar .byte (p1.toInt8.toInt32)), (nar .byte ((p2 >>> ((24 : Int32) &&& 31)).toInt8.toInt32))] (1 : Int32))) : v7_84 = v6_75 := by
  rw [ev7_84, ev6_75]
  clear ev7_84 ev6_75
  show (((nar .byte (p0.toInt8.toInt32)) &&& 255) <<< ((8 : Int32) &&& 31)) ||| ((nar .byte (p1.toInt8.toInt32)) &&& 255) = _
  rw [own_b255, own_b255]
  have a0 := own_m255 p0
  have a1 := own_m255 p1
  have o := own_or8 (p0 &&& 255) (p1 &&& 255) (by omega) (by omega) (by omega) (by omega)
  have e0 := own_f1 p0
  have e1 := own_f1 p1
  rw [e0, e1]
  have m := c_imul (p0 &&& 255) 256
  have d := c_iadd ((p0 &&& 255) * 256) (p1 &&& 255)
  have r := rng32 ((p0 &&& 255) * 256 + (p1 &&& 255))
  have r1 := rng32 ((p0 &&& 255) * 256)
  simp only [Int32.reduceToInt] at m
  apply Int32.toInt_inj.mp
  omega
theorem own_pr0_81_hB_3 (p0 : Int32) (p1 : Int32) (p2 : Int32) (p3 : Int32) (ev4_6 : (2 : Int32) = ((p3 &&& (2147483647 : Int32)) % (3 : Int32))) (v6_75 : Int32) (ev6_75 : v6_75 = (((f1 p0) * (256 : Int32)) + (f1 p1))) : ¬ (2 : Int32) < 0 ∧ (2 : Int32) < (4 : Int32) := by
  first | decide | exact ⟨by decide, by decide⟩
theorem own_pr0_81_hb2_3 (p0 : Int32) (p1 : Int32) (p2 : Int32) (p3 : Int32) (ev4_6 : (2 : Int32) = ((p3 &&& (2147483647 : Int32)) % (3 : Int32))) (v6_75 : Int32) (ev6_75 : v6_75 = (((f1 p0) * (256 : Int32)) + (f1 p1))) : ¬ ((2 : Int32) + (1 : Int32)) < 0 ∧ ((2 : Int32) + (1 : Int32)) < (4 : Int32) := by
  first | decide | exact ⟨by decide, by decide⟩
theorem own_hc0_90_3 (p0 : Int32) (p1 : Int32) (p2 : Int32) (p3 : Int32) (ev4_6 : (2 : Int32) = ((p3 &&& (2147483647 : Int32)) % (3 : Int32))) (v6_75 : Int32) (ev6_75 : v6_75 = (((f1 p0) * (256 : Int32)) + (f1 p1))) (v7_84 : Int32) (ev7_84 : v7_84 = (f2 (4 : Int32) [(nar .byte (p2.toInt8.toInt32)), (nar .byte ((p2 >>> ((8 : Int32) &&& 31)).toInt8.toInt32)), (nar .byte (p0.toInt8.toInt32)), (nar .byte (p1.toInt8.toInt32))] (2 : Int32))) : v7_84 = v6_75 := by
  rw [ev7_84, ev6_75]
  clear ev7_84 ev6_75
  show (((nar .byte (p0.toInt8.toInt32)) &&& 255) <<< ((8 : Int32) &&& 31)) ||| ((nar .byte (p1.toInt8.toInt32)) &&& 255) = _
  rw [own_b255, own_b255]
  have a0 := own_m255 p0
  have a1 := own_m255 p1
  have o := own_or8 (p0 &&& 255) (p1 &&& 255) (by omega) (by omega) (by omega) (by omega)
  have e0 := own_f1 p0
  have e1 := own_f1 p1
  rw [e0, e1]
  have m := c_imul (p0 &&& 255) 256
  have d := c_iadd ((p0 &&& 255) * 256) (p1 &&& 255)
  have r := rng32 ((p0 &&& 255) * 256 + (p1 &&& 255))
  have r1 := rng32 ((p0 &&& 255) * 256)
  simp only [Int32.reduceToInt] at m
  apply Int32.toInt_inj.mp
  omega
def Q0 (Z : State) (p0 : Int32) (p1 : Int32) (p2 : Int32) (p3 : Int32) (h0 : Heap) (n0 : Nat) (v : Option Value) (h : Heap) (L : List Loc) : Prop := v = some (.int 1) ∧ Fr n0 L
set_option maxRecDepth 65536 in
set_option maxHeartbeats 40000000 in
theorem rm0 (l : Launch) (Z : State) (a0 : Array Value) (hw : ∀ d ∈ tables_1, d.before a0 Z = true) (ws : List Jvm.Cond) (p0 : Int32) (p1 : Int32) (p2 : Int32) (p3 : Int32) (h0 : Heap) (n0 : Nat) (Z0 : n0 ≤ h0.size) :
    MetFree l x (head1 (Jvm.Cond.code x code maxLocals ret :: ws) room_1) (fun a U => a = #[(.int p0), (.int p1), (.int p2), (.int p3)] ∧ Z.Warmed39 U.vm ∧ U.heap = h0) (fun _ _ _ _ _ => True) (fun _ U o U' => ∃ v L, o = .returned v ∧ Q0 Z p0 p1 p2 p3 h0 n0 v U'.heap L ∧ FrameEnd U o U' L room_1.cells room_1.slots) := by
  refine MetFree.of_bodySF (plainFor_of_name pn0) hisR ?_
  intro p e s m args below meth c s₁ Bd hml0 hP hK
  obtain ⟨rfl, hZ, hh⟩ := hP
  have hx := Bd.exec
  have hby := Bd.bytes
  have hml : c.maxLocals = 8 := hml0
  have hown : s.vm.findClass "com/example/marginalia/marginalia/classfile/ClassBytesU2PinLaw" = some m.cls := findClass_of_methodNamed Bd.named
  have hnm := (name_of_methodNamed Bd.named Bd.method).1
  have X0 : Stand p l e room_1 s m #[(.int p0), (.int p1), (.int p2), (.int p3)] below meth c s₁ [] 0 0 := Stand.of_body Bd
  have e0 : s₁.heap = h0 := by rw [← hh, Bd.state]; rfl
  have N0 := Fr.nil n0
  refine Goes.out (Q := fun o U' => ∃ v L, o = .returned v ∧ Q0 Z p0 p1 p2 p3 h0 n0 v U'.heap L ∧ FrameEnd s o U' L room_1.cells room_1.slots) ?_
  refine Goes.step (S' := s₁.setTop (mkF m 0 #[.val (.int p0), .val (.int p1), .val (.int p2), .val (.int p3), .unset, .unset, .unset, .unset] [])) (fun _ k => castTop (ef0 m p0 p1 p2 p3) k) ?_
  refine Goes.step (S' := s₁.setTop (mkF m 1 #[.val (.int p0), .val (.int p1), .val (.int p2), .val (.int p3), .unset, .unset, .unset, .unset] [(.int p3)])) (fun _ k => XS.iloadN X0.here hx rfl (hb hby at_0) rfl  k) ?_
  refine Goes.step (S' := s₁.setTop (mkF m 3 #[.val (.int p0), .val (.int p1), .val (.int p2), .val (.int p3), .unset, .unset, .unset, .unset] [(.int (2147483647 : Int32)), (.int p3)])) (fun _ k => X0.ldcInt hx hown (mvT hZ (hw _ (List.mem_of_getElem? (i := 0) rfl))) (g := (mkF m 1 #[.val (.int p0), .val (.int p1), .val (.int p2), .val (.int p3), .unset, .unset, .unset, .unset] [(.int p3)])) rfl (hb hby at_1) _ k) ?_
  refine Goes.step (S' := s₁.setTop (mkF m 4 #[.val (.int p0), .val (.int p1), .val (.int p2), .val (.int p3), .unset, .unset, .unset, .unset] [(.int (p3 &&& (2147483647 : Int32)))])) (fun _ k => XS.iand X0.here hx rfl (hb hby at_3) rfl k) ?_
  refine Goes.step (S' := s₁.setTop (mkF m 5 #[.val (.int p0), .val (.int p1), .val (.int p2), .val (.int p3), .unset, .unset, .unset, .unset] [(.int (3 : Int32)), (.int (p3 &&& (2147483647 : Int32)))])) (fun _ k => XS.iconst X0.here hx rfl (hb hby at_4) k) ?_
  refine Goes.step (S' := s₁.setTop (mkF m 6 #[.val (.int p0), .val (.int p1), .val (.int p2), .val (.int p3), .unset, .unset, .unset, .unset] [(.int ((p3 &&& (2147483647 : Int32)) % (3 : Int32)))])) (fun _ k => iremM X0 hx rfl (hb hby at_5) rfl (by decide) k) ?_
  refine Goes.step (S' := s₁.setTop (mkF m 8 #[.val (.int p0), .val (.int p1), .val (.int p2), .val (.int p3), .val (.int ((p3 &&& (2147483647 : Int32)) % (3 : Int32))), .unset, .unset, .unset] [])) (fun _ k => XS.istore X0.here hx rfl (hb hby at_6) rfl (l' := #[.val (.int p0), .val (.int p1), .val (.int p2), .val (.int p3), .val (.int ((p3 &&& (2147483647 : Int32)) % (3 : Int32))), .unset, .unset, .unset]) rfl k) ?_
  obtain ⟨v4_6, ev4_6⟩ : ∃ z : Int32, z = ((p3 &&& (2147483647 : Int32)) % (3 : Int32)) := ⟨_, rfl⟩
  rw [← ev4_6]
  have hcase := (own_case0_8 p0 p1 p2 p3 v4_6 ev4_6)
  rcases hcase with rfl | rfl | rfl
  · refine Goes.step (S' := s₁.setTop (mkF m 9 #[.val (.int p0), .val (.int p1), .val (.int p2), .val (.int p3), .val (.int (0 : Int32)), .unset, .unset, .unset] [(.int (4 : Int32))])) (fun _ k => XS.iconst X0.here hx rfl (hb hby at_8) k) ?_
    obtain ⟨T1, h1, k1, X1, e1, E1, A1, st1⟩ := newP X0 hx hZ (hw _ (List.mem_of_getElem? (i := 1) rfl)) e0 (g := (mkF m 9 #[.val (.int p0), .val (.int p1), .val (.int p2), .val (.int p3), .val (.int (0 : Int32)), .unset, .unset, .unset] [(.int (4 : Int32))])) rfl (hb hby at_9) rfl (by decide) (cap := 4) (by decide) (by decide) (by decide) (by decide)
    obtain ⟨b1, g1⟩ : ∃ z, z = h0.size := ⟨_, rfl⟩
    rw [← g1] at A1 st1
    have g2 : n0 ≤ b1 := Nat.le_trans Z0 (Nat.le_of_eq g1.symm)
    have Z3 : n0 ≤ h1.size := Nat.le_trans Z0 E1.1
    have V4 : AI Z h1 b1 k1 .byte (4 : Int32) [(0 : Int32), (0 : Int32), (0 : Int32), (0 : Int32)] := own_new A1 (by decide) rfl
    refine Goes.step (S' := T1.setTop (mkF m 11 #[.val (.int p0), .val (.int p1), .val (.int p2), .val (.int p3), .val (.int (0 : Int32)), .unset, .unset, .unset] [(.ref b1)])) st1 ?_
    refine Goes.step (S' := T1.setTop (mkF m 13 #[.val (.int p0), .val (.int p1), .val (.int p2), .val (.int p3), .val (.int (0 : Int32)), .val (.ref b1), .unset, .unset] [])) (fun _ k => XS.astore X1.here hx rfl (hb hby at_11) rfl rfl (l' := #[.val (.int p0), .val (.int p1), .val (.int p2), .val (.int p3), .val (.int (0 : Int32)), .val (.ref b1), .unset, .unset]) rfl k) ?_
    refine Goes.step (S' := T1.setTop (mkF m 15 #[.val (.int p0), .val (.int p1), .val (.int p2), .val (.int p3), .val (.int (0 : Int32)), .val (.ref b1), .unset, .unset] [(.ref b1)])) (fun _ k => XS.aload X1.here hx rfl (hb hby at_13) rfl rfl k) ?_
    refine Goes.step (S' := T1.setTop (mkF m 16 #[.val (.int p0), .val (.int p1), .val (.int p2), .val (.int p3), .val (.int (0 : Int32)), .val (.ref b1), .unset, .unset] [(.int (0 : Int32)), (.ref b1)])) (fun _ k => XS.iconst X1.here hx rfl (hb hby at_15) k) ?_
    refine Goes.step (S' := T1.setTop (mkF m 17 #[.val (.int p0), .val (.int p1), .val (.int p2), .val (.int p3), .val (.int (0 : Int32)), .val (.ref b1), .unset, .unset] [(.int p2), (.int (0 : Int32)), (.ref b1)])) (fun _ k => XS.iloadN X1.here hx rfl (hb hby at_16) rfl  k) ?_
    refine Goes.step (S' := T1.setTop (mkF m 18 #[.val (.int p0), .val (.int p1), .val (.int p2), .val (.int p3), .val (.int (0 : Int32)), .val (.ref b1), .unset, .unset] [(.int (p2.toInt8.toInt32)), (.int (0 : Int32)), (.ref b1)])) (fun _ k => XS.i2b X1.here hx rfl (hb hby at_17) rfl k) ?_
    obtain ⟨T5, h5, X5, e5, W5, V_5, st5⟩ := own_bastore X1 hx hZ e1 V4 ⟨by decide, by decide⟩ (g := (mkF m 18 #[.val (.int p0), .val (.int p1), .val (.int p2), .val (.int p3), .val (.int (0 : Int32)), .val (.ref b1), .unset, .unset] [(.int (p2.toInt8.toInt32)), (.int (0 : Int32)), (.ref b1)])) rfl rfl (hb hby at_18)
    replace V_5 : AI Z h5 b1 k1 .byte (4 : Int32) [(nar .byte (p2.toInt8.toInt32)), (0 : Int32), (0 : Int32), (0 : Int32)] := V_5
    have N6 := Fr.snoc X5 N0 g2
    have Z7 : n0 ≤ h5.size := Nat.le_trans Z3 (Nat.le_of_eq W5.size.symm)
    refine Goes.step (S' := T5.setTop (mkF m 19 #[.val (.int p0), .val (.int p1), .val (.int p2), .val (.int p3), .val (.int (0 : Int32)), .val (.ref b1), .unset, .unset] [])) st5 ?_
    refine Goes.step (S' := T5.setTop (mkF m 21 #[.val (.int p0), .val (.int p1), .val (.int p2), .val (.int p3), .val (.int (0 : Int32)), .val (.ref b1), .unset, .unset] [(.ref b1)])) (fun _ k => XS.aload X5.here hx rfl (hb hby at_19) rfl rfl k) ?_
    refine Goes.step (S' := T5.setTop (mkF m 22 #[.val (.int p0), .val (.int p1), .val (.int p2), .val (.int p3), .val (.int (0 : Int32)), .val (.ref b1), .unset, .unset] [(.int (1 : Int32)), (.ref b1)])) (fun _ k => XS.iconst X5.here hx rfl (hb hby at_21) k) ?_
    refine Goes.step (S' := T5.setTop (mkF m 23 #[.val (.int p0), .val (.int p1), .val (.int p2), .val (.int p3), .val (.int (0 : Int32)), .val (.ref b1), .unset, .unset] [(.int p2), (.int (1 : Int32)), (.ref b1)])) (fun _ k => XS.iloadN X5.here hx rfl (hb hby at_22) rfl  k) ?_
    refine Goes.step (S' := T5.setTop (mkF m 25 #[.val (.int p0), .val (.int p1), .val (.int p2), .val (.int p3), .val (.int (0 : Int32)), .val (.ref b1), .unset, .unset] [(.int (8 : Int32)), (.int p2), (.int (1 : Int32)), (.ref b1)])) (fun _ k => XS.bipush X5.here hx rfl (hb hby at_23) k) ?_
    refine Goes.step (S' := T5.setTop (mkF m 26 #[.val (.int p0), .val (.int p1), .val (.int p2), .val (.int p3), .val (.int (0 : Int32)), .val (.ref b1), .unset, .unset] [(.int (p2 >>> ((8 : Int32) &&& 31))), (.int (1 : Int32)), (.ref b1)])) (fun _ k => XS.ishr X5.here hx rfl (hb hby at_25) rfl k) ?_
    refine Goes.step (S' := T5.setTop (mkF m 27 #[.val (.int p0), .val (.int p1), .val (.int p2), .val (.int p3), .val (.int (0 : Int32)), .val (.ref b1), .unset, .unset] [(.int ((p2 >>> ((8 : Int32) &&& 31)).toInt8.toInt32)), (.int (1 : Int32)), (.ref b1)])) (fun _ k => XS.i2b X5.here hx rfl (hb hby at_26) rfl k) ?_
    obtain ⟨T8, h8, X8, e8, W8, V_8, st8⟩ := own_bastore X5 hx hZ e5 V_5 ⟨by decide, by decide⟩ (g := (mkF m 27 #[.val (.int p0), .val (.int p1), .val (.int p2), .val (.int p3), .val (.int (0 : Int32)), .val (.ref b1), .unset, .unset] [(.int ((p2 >>> ((8 : Int32) &&& 31)).toInt8.toInt32)), (.int (1 : Int32)), (.ref b1)])) rfl rfl (hb hby at_27)
    replace V_8 : AI Z h8 b1 k1 .byte (4 : Int32) [(nar .byte (p2.toInt8.toInt32)), (nar .byte ((p2 >>> ((8 : Int32) &&& 31)).toInt8.toInt32)), (0 : Int32), (0 : Int32)] := V_8
    have N9 := Fr.snoc X8 N6 g2
    have Z10 : n0 ≤ h8.size := Nat.le_trans Z7 (Nat.le_of_eq W8.size.symm)
    refine Goes.step (S' := T8.setTop (mkF m 28 #[.val (.int p0), .val (.int p1), .val (.int p2), .val (.int p3), .val (.int (0 : Int32)), .val (.ref b1), .unset, .unset] [])) st8 ?_
    refine Goes.step (S' := T8.setTop (mkF m 30 #[.val (.int p0), .val (.int p1), .val (.int p2), .val (.int p3), .val (.int (0 : Int32)), .val (.ref b1), .unset, .unset] [(.ref b1)])) (fun _ k => XS.aload X8.here hx rfl (hb hby at_28) rfl rfl k) ?_
    refine Goes.step (S' := T8.setTop (mkF m 31 #[.val (.int p0), .val (.int p1), .val (.int p2), .val (.int p3), .val (.int (0 : Int32)), .val (.ref b1), .unset, .unset] [(.int (2 : Int32)), (.ref b1)])) (fun _ k => XS.iconst X8.here hx rfl (hb hby at_30) k) ?_
    refine Goes.step (S' := T8.setTop (mkF m 32 #[.val (.int p0), .val (.int p1), .val (.int p2), .val (.int p3), .val (.int (0 : Int32)), .val (.ref b1), .unset, .unset] [(.int p2), (.int (2 : Int32)), (.ref b1)])) (fun _ k => XS.iloadN X8.here hx rfl (hb hby at_31) rfl  k) ?_
    refine Goes.step (S' := T8.setTop (mkF m 34 #[.val (.int p0), .val (.int p1), .val (.int p2), .val (.int p3), .val (.int (0 : Int32)), .val (.ref b1), .unset, .unset] [(.int (16 : Int32)), (.int p2), (.int (2 : Int32)), (.ref b1)])) (fun _ k => XS.bipush X8.here hx rfl (hb hby at_32) k) ?_
    refine Goes.step (S' := T8.setTop (mkF m 35 #[.val (.int p0), .val (.int p1), .val (.int p2), .val (.int p3), .val (.int (0 : Int32)), .val (.ref b1), .unset, .unset] [(.int (p2 >>> ((16 : Int32) &&& 31))), (.int (2 : Int32)), (.ref b1)])) (fun _ k => XS.ishr X8.here hx rfl (hb hby at_34) rfl k) ?_
    refine Goes.step (S' := T8.setTop (mkF m 36 #[.val (.int p0), .val (.int p1), .val (.int p2), .val (.int p3), .val (.int (0 : Int32)), .val (.ref b1), .unset, .unset] [(.int ((p2 >>> ((16 : Int32) &&& 31)).toInt8.toInt32)), (.int (2 : Int32)), (.ref b1)])) (fun _ k => XS.i2b X8.here hx rfl (hb hby at_35) rfl k) ?_
    obtain ⟨T11, h11, X11, e11, W11, V_11, st11⟩ := own_bastore X8 hx hZ e8 V_8 ⟨by decide, by decide⟩ (g := (mkF m 36 #[.val (.int p0), .val (.int p1), .val (.int p2), .val (.int p3), .val (.int (0 : Int32)), .val (.ref b1), .unset, .unset] [(.int ((p2 >>> ((16 : Int32) &&& 31)).toInt8.toInt32)), (.int (2 : Int32)), (.ref b1)])) rfl rfl (hb hby at_36)
    replace V_11 : AI Z h11 b1 k1 .byte (4 : Int32) [(nar .byte (p2.toInt8.toInt32)), (nar .byte ((p2 >>> ((8 : Int32) &&& 31)).toInt8.toInt32)), (nar .byte ((p2 >>> ((16 : Int32) &&& 31)).toInt8.toInt32)), (0 : Int32)] := V_11
    have N12 := Fr.snoc X11 N9 g2
    have Z13 : n0 ≤ h11.size := Nat.le_trans Z10 (Nat.le_of_eq W11.size.symm)
    refine Goes.step (S' := T11.setTop (mkF m 37 #[.val (.int p0), .val (.int p1), .val (.int p2), .val (.int p3), .val (.int (0 : Int32)), .val (.ref b1), .unset, .unset] [])) st11 ?_
    refine Goes.step (S' := T11.setTop (mkF m 39 #[.val (.int p0), .val (.int p1), .val (.int p2), .val (.int p3), .val (.int (0 : Int32)), .val (.ref b1), .unset, .unset] [(.ref b1)])) (fun _ k => XS.aload X11.here hx rfl (hb hby at_37) rfl rfl k) ?_
    refine Goes.step (S' := T11.setTop (mkF m 40 #[.val (.int p0), .val (.int p1), .val (.int p2), .val (.int p3), .val (.int (0 : Int32)), .val (.ref b1), .unset, .unset] [(.int (3 : Int32)), (.ref b1)])) (fun _ k => XS.iconst X11.here hx rfl (hb hby at_39) k) ?_
    refine Goes.step (S' := T11.setTop (mkF m 41 #[.val (.int p0), .val (.int p1), .val (.int p2), .val (.int p3), .val (.int (0 : Int32)), .val (.ref b1), .unset, .unset] [(.int p2), (.int (3 : Int32)), (.ref b1)])) (fun _ k => XS.iloadN X11.here hx rfl (hb hby at_40) rfl  k) ?_
    refine Goes.step (S' := T11.setTop (mkF m 43 #[.val (.int p0), .val (.int p1), .val (.int p2), .val (.int p3), .val (.int (0 : Int32)), .val (.ref b1), .unset, .unset] [(.int (24 : Int32)), (.int p2), (.int (3 : Int32)), (.ref b1)])) (fun _ k => XS.bipush X11.here hx rfl (hb hby at_41) k) ?_
    refine Goes.step (S' := T11.setTop (mkF m 44 #[.val (.int p0), .val (.int p1), .val (.int p2), .val (.int p3), .val (.int (0 : Int32)), .val (.ref b1), .unset, .unset] [(.int (p2 >>> ((24 : Int32) &&& 31))), (.int (3 : Int32)), (.ref b1)])) (fun _ k => XS.ishr X11.here hx rfl (hb hby at_43) rfl k) ?_
    refine Goes.step (S' := T11.setTop (mkF m 45 #[.val (.int p0), .val (.int p1), .val (.int p2), .val (.int p3), .val (.int (0 : Int32)), .val (.ref b1), .unset, .unset] [(.int ((p2 >>> ((24 : Int32) &&& 31)).toInt8.toInt32)), (.int (3 : Int32)), (.ref b1)])) (fun _ k => XS.i2b X11.here hx rfl (hb hby at_44) rfl k) ?_
    obtain ⟨T14, h14, X14, e14, W14, V_14, st14⟩ := own_bastore X11 hx hZ e11 V_11 ⟨by decide, by decide⟩ (g := (mkF m 45 #[.val (.int p0), .val (.int p1), .val (.int p2), .val (.int p3), .val (.int (0 : Int32)), .val (.ref b1), .unset, .unset] [(.int ((p2 >>> ((24 : Int32) &&& 31)).toInt8.toInt32)), (.int (3 : Int32)), (.ref b1)])) rfl rfl (hb hby at_45)
    replace V_14 : AI Z h14 b1 k1 .byte (4 : Int32) [(nar .byte (p2.toInt8.toInt32)), (nar .byte ((p2 >>> ((8 : Int32) &&& 31)).toInt8.toInt32)), (nar .byte ((p2 >>> ((16 : Int32) &&& 31)).toInt8.toInt32)), (nar .byte ((p2 >>> ((24 : Int32) &&& 31)).toInt8.toInt32))] := V_14
    have N15 := Fr.snoc X14 N12 g2
    have Z16 : n0 ≤ h14.size := Nat.le_trans Z13 (Nat.le_of_eq W14.size.symm)
    refine Goes.step (S' := T14.setTop (mkF m 46 #[.val (.int p0), .val (.int p1), .val (.int p2), .val (.int p3), .val (.int (0 : Int32)), .val (.ref b1), .unset, .unset] [])) st14 ?_
    refine Goes.step (S' := T14.setTop (mkF m 48 #[.val (.int p0), .val (.int p1), .val (.int p2), .val (.int p3), .val (.int (0 : Int32)), .val (.ref b1), .unset, .unset] [(.ref b1)])) (fun _ k => XS.aload X14.here hx rfl (hb hby at_46) rfl rfl k) ?_
    refine Goes.step (S' := T14.setTop (mkF m 50 #[.val (.int p0), .val (.int p1), .val (.int p2), .val (.int p3), .val (.int (0 : Int32)), .val (.ref b1), .unset, .unset] [(.int (0 : Int32)), (.ref b1)])) (fun _ k => XS.iload X14.here hx rfl (hb hby at_48) rfl  k) ?_
    refine Goes.step (S' := T14.setTop (mkF m 51 #[.val (.int p0), .val (.int p1), .val (.int p2), .val (.int p3), .val (.int (0 : Int32)), .val (.ref b1), .unset, .unset] [(.int p0), (.int (0 : Int32)), (.ref b1)])) (fun _ k => XS.iloadN X14.here hx rfl (hb hby at_50) rfl  k) ?_
    refine Goes.step (S' := T14.setTop (mkF m 52 #[.val (.int p0), .val (.int p1), .val (.int p2), .val (.int p3), .val (.int (0 : Int32)), .val (.ref b1), .unset, .unset] [(.int (p0.toInt8.toInt32)), (.int (0 : Int32)), (.ref b1)])) (fun _ k => XS.i2b X14.here hx rfl (hb hby at_51) rfl k) ?_
    obtain ⟨T17, h17, X17, e17, W17, V_17, st17⟩ := own_bastore X14 hx hZ e14 V_14 ⟨by decide, by decide⟩ (g := (mkF m 52 #[.val (.int p0), .val (.int p1), .val (.int p2), .val (.int p3), .val (.int (0 : Int32)), .val (.ref b1), .unset, .unset] [(.int (p0.toInt8.toInt32)), (.int (0 : Int32)), (.ref b1)])) rfl rfl (hb hby at_52)
    replace V_17 : AI Z h17 b1 k1 .byte (4 : Int32) [(nar .byte (p0.toInt8.toInt32)), (nar .byte ((p2 >>> ((8 : Int32) &&& 31)).toInt8.toInt32)), (nar .byte ((p2 >>> ((16 : Int32) &&& 31)).toInt8.toInt32)), (nar .byte ((p2 >>> ((24 : Int32) &&& 31)).toInt8.toInt32))] := V_17
    have N18 := Fr.snoc X17 N15 g2
    have Z19 : n0 ≤ h17.size := Nat.le_trans Z16 (Nat.le_of_eq W17.size.symm)
    refine Goes.step (S' := T17.setTop (mkF m 53 #[.val (.int p0), .val (.int p1), .val (.int p2), .val (.int p3), .val (.int (0 : Int32)), .val (.ref b1), .unset, .unset] [])) st17 ?_
    refine Goes.step (S' := T17.setTop (mkF m 55 #[.val (.int p0), .val (.int p1), .val (.int p2), .val (.int p3), .val (.int (0 : Int32)), .val (.ref b1), .unset, .unset] [(.ref b1)])) (fun _ k => XS.aload X17.here hx rfl (hb hby at_53) rfl rfl k) ?_
    refine Goes.step (S' := T17.setTop (mkF m 57 #[.val (.int p0), .val (.int p1), .val (.int p2), .val (.int p3), .val (.int (0 : Int32)), .val (.ref b1), .unset, .unset] [(.int (0 : Int32)), (.ref b1)])) (fun _ k => XS.iload X17.here hx rfl (hb hby at_55) rfl  k) ?_
    refine Goes.step (S' := T17.setTop (mkF m 58 #[.val (.int p0), .val (.int p1), .val (.int p2), .val (.int p3), .val (.int (0 : Int32)), .val (.ref b1), .unset, .unset] [(.int (1 : Int32)), (.int (0 : Int32)), (.ref b1)])) (fun _ k => XS.iconst X17.here hx rfl (hb hby at_57) k) ?_
    refine Goes.step (S' := T17.setTop (mkF m 59 #[.val (.int p0), .val (.int p1), .val (.int p2), .val (.int p3), .val (.int (0 : Int32)), .val (.ref b1), .unset, .unset] [(.int (1 : Int32)), (.ref b1)])) (fun _ k => XS.iadd X17.here hx rfl (hb hby at_58) rfl k) ?_
    refine Goes.step (S' := T17.setTop (mkF m 60 #[.val (.int p0), .val (.int p1), .val (.int p2), .val (.int p3), .val (.int (0 : Int32)), .val (.ref b1), .unset, .unset] [(.int p1), (.int (1 : Int32)), (.ref b1)])) (fun _ k => XS.iloadN X17.here hx rfl (hb hby at_59) rfl  k) ?_
    refine Goes.step (S' := T17.setTop (mkF m 61 #[.val (.int p0), .val (.int p1), .val (.int p2), .val (.int p3), .val (.int (0 : Int32)), .val (.ref b1), .unset, .unset] [(.int (p1.toInt8.toInt32)), (.int (1 : Int32)), (.ref b1)])) (fun _ k => XS.i2b X17.here hx rfl (hb hby at_60) rfl k) ?_
    obtain ⟨T20, h20, X20, e20, W20, V_20, st20⟩ := own_bastore X17 hx hZ e17 V_17 ⟨by decide, by decide⟩ (g := (mkF m 61 #[.val (.int p0), .val (.int p1), .val (.int p2), .val (.int p3), .val (.int (0 : Int32)), .val (.ref b1), .unset, .unset] [(.int (p1.toInt8.toInt32)), (.int (1 : Int32)), (.ref b1)])) rfl rfl (hb hby at_61)
    replace V_20 : AI Z h20 b1 k1 .byte (4 : Int32) [(nar .byte (p0.toInt8.toInt32)), (nar .byte (p1.toInt8.toInt32)), (nar .byte ((p2 >>> ((16 : Int32) &&& 31)).toInt8.toInt32)), (nar .byte ((p2 >>> ((24 : Int32) &&& 31)).toInt8.toInt32))] := V_20
    have N21 := Fr.snoc X20 N18 g2
    have Z22 : n0 ≤ h20.size := Nat.le_trans Z19 (Nat.le_of_eq W20.size.symm)
    refine Goes.step (S' := T20.setTop (mkF m 62 #[.val (.int p0), .val (.int p1), .val (.int p2), .val (.int p3), .val (.int (0 : Int32)), .val (.ref b1), .unset, .unset] [])) st20 ?_
    refine Goes.step (S' := T20.setTop (mkF m 63 #[.val (.int p0), .val (.int p1), .val (.int p2), .val (.int p3), .val (.int (0 : Int32)), .val (.ref b1), .unset, .unset] [(.int p0)])) (fun _ k => XS.iloadN X20.here hx rfl (hb hby at_62) rfl  k) ?_
    obtain ⟨_, _, ⟨T23, L23, k23, n23⟩, -, X23, ⟨Lc23, hQ23, l23, y23, z23⟩, st23⟩ := Jvm.LawKit.callS X20 hx (y := (⟨"com/example/marginalia/marginalia/classfile/ClassBytesU2PinLaw", "unsignedByte", "(I)I"⟩ : MethodName)) hown (mvT hZ (hw _ (List.mem_of_getElem? (i := 2) rfl))) (mvT hZ (hw _ (List.mem_of_getElem? (i := 3) rfl))) (mvT hZ (hw _ (List.mem_of_getElem? (i := 4) rfl))) (mvT hZ (hw _ (List.mem_of_getElem? (i := 5) rfl))) (by decide) (backOf (W := 0) (rm1 l Z a0 hw [] p0 h20 n0 Z22) hZ (hw _ (List.mem_of_getElem? (i := 5) rfl)) (hw _ (List.mem_of_getElem? (i := 4) rfl)) (by decide) (by decide)) (g := (mkF m 63 #[.val (.int p0), .val (.int p1), .val (.int p2), .val (.int p3), .val (.int (0 : Int32)), .val (.ref b1), .unset, .unset] [(.int p0)])) rfl (by rw [hml]; rfl) (argsL := [(.int p0)]) (rest := []) (lenOf pd0 rfl) rfl (by show 2 * 0 + _ ≤ _; exact Nat.le_of_eq rfl) (hb hby at_63) (fun _ _ => ⟨rfl, e20, (by decide : 1 + 0 ≤ _), (by decide : 4 + 0 ≤ _)⟩)
    dsimp only [Pt.U, Pt.locs, Pt.cells, Pt.slots] at X23 l23 y23 z23 st23 hQ23
    subst l23 y23 z23
    obtain ⟨rfl, N23q, e23⟩ := hQ23
    have N24 := Fr.app N21 N23q
    refine Goes.step (S' := T23.setTop (mkF m 66 #[.val (.int p0), .val (.int p1), .val (.int p2), .val (.int p3), .val (.int (0 : Int32)), .val (.ref b1), .unset, .unset] [(.int (f1 p0))])) st23 ?_
    refine Goes.step (S' := T23.setTop (mkF m 69 #[.val (.int p0), .val (.int p1), .val (.int p2), .val (.int p3), .val (.int (0 : Int32)), .val (.ref b1), .unset, .unset] [(.int (256 : Int32)), (.int (f1 p0))])) (fun _ k => XS.sipush X23.here hx rfl (hb hby at_66) k) ?_
    refine Goes.step (S' := T23.setTop (mkF m 70 #[.val (.int p0), .val (.int p1), .val (.int p2), .val (.int p3), .val (.int (0 : Int32)), .val (.ref b1), .unset, .unset] [(.int ((f1 p0) * (256 : Int32)))])) (fun _ k => XS.imul X23.here hx rfl (hb hby at_69) rfl k) ?_
    refine Goes.step (S' := T23.setTop (mkF m 71 #[.val (.int p0), .val (.int p1), .val (.int p2), .val (.int p3), .val (.int (0 : Int32)), .val (.ref b1), .unset, .unset] [(.int p1), (.int ((f1 p0) * (256 : Int32)))])) (fun _ k => XS.iloadN X23.here hx rfl (hb hby at_70) rfl  k) ?_
    obtain ⟨_, _, ⟨T25, L25, k25, n25⟩, -, X25, ⟨Lc25, hQ25, l25, y25, z25⟩, st25⟩ := Jvm.LawKit.callS X23 hx (y := (⟨"com/example/marginalia/marginalia/classfile/ClassBytesU2PinLaw", "unsignedByte", "(I)I"⟩ : MethodName)) hown (mvT hZ (hw _ (List.mem_of_getElem? (i := 2) rfl))) (mvT hZ (hw _ (List.mem_of_getElem? (i := 3) rfl))) (mvT hZ (hw _ (List.mem_of_getElem? (i := 4) rfl))) (mvT hZ (hw _ (List.mem_of_getElem? (i := 5) rfl))) (by decide) (backOf (W := 1) (rm1 l Z a0 hw [] p1 h20 n0 Z22) hZ (hw _ (List.mem_of_getElem? (i := 5) rfl)) (hw _ (List.mem_of_getElem? (i := 4) rfl)) (by decide) (by decide)) (g := (mkF m 71 #[.val (.int p0), .val (.int p1), .val (.int p2), .val (.int p3), .val (.int (0 : Int32)), .val (.ref b1), .unset, .unset] [(.int p1), (.int ((f1 p0) * (256 : Int32)))])) rfl (by rw [hml]; rfl) (argsL := [(.int p1)]) (rest := [(.int ((f1 p0) * (256 : Int32)))]) (lenOf pd0 rfl) rfl (by show 2 * 0 + _ ≤ _; exact Nat.le_of_eq rfl) (hb hby at_71) (fun _ _ => ⟨rfl, e23, (by decide : 1 + 0 ≤ _), (by decide : 4 + 0 ≤ _)⟩)
    dsimp only [Pt.U, Pt.locs, Pt.cells, Pt.slots] at X25 l25 y25 z25 st25 hQ25
    subst l25 y25 z25
    obtain ⟨rfl, N25q, e25⟩ := hQ25
    have N26 := Fr.app N24 N25q
    refine Goes.step (S' := T25.setTop (mkF m 74 #[.val (.int p0), .val (.int p1), .val (.int p2), .val (.int p3), .val (.int (0 : Int32)), .val (.ref b1), .unset, .unset] [(.int (f1 p1)), (.int ((f1 p0) * (256 : Int32)))])) st25 ?_
    refine Goes.step (S' := T25.setTop (mkF m 75 #[.val (.int p0), .val (.int p1), .val (.int p2), .val (.int p3), .val (.int (0 : Int32)), .val (.ref b1), .unset, .unset] [(.int (((f1 p0) * (256 : Int32)) + (f1 p1)))])) (fun _ k => XS.iadd X25.here hx rfl (hb hby at_74) rfl k) ?_
    refine Goes.step (S' := T25.setTop (mkF m 77 #[.val (.int p0), .val (.int p1), .val (.int p2), .val (.int p3), .val (.int (0 : Int32)), .val (.ref b1), .val (.int (((f1 p0) * (256 : Int32)) + (f1 p1))), .unset] [])) (fun _ k => XS.istore X25.here hx rfl (hb hby at_75) rfl (l' := #[.val (.int p0), .val (.int p1), .val (.int p2), .val (.int p3), .val (.int (0 : Int32)), .val (.ref b1), .val (.int (((f1 p0) * (256 : Int32)) + (f1 p1))), .unset]) rfl k) ?_
    obtain ⟨v6_75, ev6_75⟩ : ∃ z : Int32, z = (((f1 p0) * (256 : Int32)) + (f1 p1)) := ⟨_, rfl⟩
    rw [← ev6_75]
    refine Goes.step (S' := T25.setTop (mkF m 79 #[.val (.int p0), .val (.int p1), .val (.int p2), .val (.int p3), .val (.int (0 : Int32)), .val (.ref b1), .val (.int v6_75), .unset] [(.ref b1)])) (fun _ k => XS.aload X25.here hx rfl (hb hby at_77) rfl rfl k) ?_
    refine Goes.step (S' := T25.setTop (mkF m 81 #[.val (.int p0), .val (.int p1), .val (.int p2), .val (.int p3), .val (.int (0 : Int32)), .val (.ref b1), .val (.int v6_75), .unset] [(.int (0 : Int32)), (.ref b1)])) (fun _ k => XS.iload X25.here hx rfl (hb hby at_79) rfl  k) ?_
    obtain ⟨_, _, ⟨T27, L27, k27, n27⟩, -, X27, ⟨Lc27, hQ27, l27, y27, z27⟩, st27⟩ := Jvm.LawKit.callS X25 hx (y := (⟨"com/example/marginalia/marginalia/classfile/ClassBytes", "u2", "([BI)I"⟩ : MethodName)) hown (mvT hZ (hw _ (List.mem_of_getElem? (i := 6) rfl))) (mvT hZ (hw _ (List.mem_of_getElem? (i := 7) rfl))) (mvT hZ (hw _ (List.mem_of_getElem? (i := 8) rfl))) (mvT hZ (hw _ (List.mem_of_getElem? (i := 9) rfl))) (by decide) (backOf (W := 0) (rm2 l Z a0 hw [] b1 (0 : Int32) k1 ((4 : Int32)) ([(nar .byte (p0.toInt8.toInt32)), (nar .byte (p1.toInt8.toInt32)), (nar .byte ((p2 >>> ((16 : Int32) &&& 31)).toInt8.toInt32)), (nar .byte ((p2 >>> ((24 : Int32) &&& 31)).toInt8.toInt32))]) h20 n0 Z22 V_20 (own_pr0_81_hB p0 p1 p2 p3 ev4_6 v6_75 ev6_75) (own_pr0_81_hb2 p0 p1 p2 p3 ev4_6 v6_75 ev6_75)) hZ (hw _ (List.mem_of_getElem? (i := 9) rfl)) (hw _ (List.mem_of_getElem? (i := 8) rfl)) (by decide) (by decide)) (g := (mkF m 81 #[.val (.int p0), .val (.int p1), .val (.int p2), .val (.int p3), .val (.int (0 : Int32)), .val (.ref b1), .val (.int v6_75), .unset] [(.int (0 : Int32)), (.ref b1)])) rfl (by rw [hml]; rfl) (argsL := [(.ref b1), (.int (0 : Int32))]) (rest := []) (lenOf pd1 rfl) rfl (by show 2 * 0 + _ ≤ _; exact Nat.le_of_eq rfl) (hb hby at_81) (fun _ _ => ⟨rfl, e25, (by decide : 1 + 0 ≤ _), (by decide : 4 + 0 ≤ _)⟩)
    dsimp only [Pt.U, Pt.locs, Pt.cells, Pt.slots] at X27 l27 y27 z27 st27 hQ27
    subst l27 y27 z27
    obtain ⟨rfl, N27q, e27⟩ := hQ27
    have N28 := Fr.app N26 N27q
    refine Goes.step (S' := T27.setTop (mkF m 84 #[.val (.int p0), .val (.int p1), .val (.int p2), .val (.int p3), .val (.int (0 : Int32)), .val (.ref b1), .val (.int v6_75), .unset] [(.int (f2 (4 : Int32) [(nar .byte (p0.toInt8.toInt32)), (nar .byte (p1.toInt8.toInt32)), (nar .byte ((p2 >>> ((16 : Int32) &&& 31)).toInt8.toInt32)), (nar .byte ((p2 >>> ((24 : Int32) &&& 31)).toInt8.toInt32))] (0 : Int32)))])) st27 ?_
    refine Goes.step (S' := T27.setTop (mkF m 86 #[.val (.int p0), .val (.int p1), .val (.int p2), .val (.int p3), .val (.int (0 : Int32)), .val (.ref b1), .val (.int v6_75), .val (.int (f2 (4 : Int32) [(nar .byte (p0.toInt8.toInt32)), (nar .byte (p1.toInt8.toInt32)), (nar .byte ((p2 >>> ((16 : Int32) &&& 31)).toInt8.toInt32)), (nar .byte ((p2 >>> ((24 : Int32) &&& 31)).toInt8.toInt32))] (0 : Int32)))] [])) (fun _ k => XS.istore X27.here hx rfl (hb hby at_84) rfl (l' := #[.val (.int p0), .val (.int p1), .val (.int p2), .val (.int p3), .val (.int (0 : Int32)), .val (.ref b1), .val (.int v6_75), .val (.int (f2 (4 : Int32) [(nar .byte (p0.toInt8.toInt32)), (nar .byte (p1.toInt8.toInt32)), (nar .byte ((p2 >>> ((16 : Int32) &&& 31)).toInt8.toInt32)), (nar .byte ((p2 >>> ((24 : Int32) &&& 31)).toInt8.toInt32))] (0 : Int32)))]) rfl k) ?_
    obtain ⟨v7_84, ev7_84⟩ : ∃ z : Int32, z = (f2 (4 : Int32) [(nar .byte (p0.toInt8.toInt32)), (nar .byte (p1.toInt8.toInt32)), (nar .byte ((p2 >>> ((16 : Int32) &&& 31)).toInt8.toInt32)), (nar .byte ((p2 >>> ((24 : Int32) &&& 31)).toInt8.toInt32))] (0 : Int32)) := ⟨_, rfl⟩
    rw [← ev7_84]
    refine Goes.step (S' := T27.setTop (mkF m 88 #[.val (.int p0), .val (.int p1), .val (.int p2), .val (.int p3), .val (.int (0 : Int32)), .val (.ref b1), .val (.int v6_75), .val (.int v7_84)] [(.int v7_84)])) (fun _ k => XS.iload X27.here hx rfl (hb hby at_86) rfl  k) ?_
    refine Goes.step (S' := T27.setTop (mkF m 90 #[.val (.int p0), .val (.int p1), .val (.int p2), .val (.int p3), .val (.int (0 : Int32)), .val (.ref b1), .val (.int v6_75), .val (.int v7_84)] [(.int v6_75), (.int v7_84)])) (fun _ k => XS.iload X27.here hx rfl (hb hby at_88) rfl  k) ?_
    refine Goes.step (S' := T27.setTop (mkF m 93 #[.val (.int p0), .val (.int p1), .val (.int p2), .val (.int p3), .val (.int (0 : Int32)), .val (.ref b1), .val (.int v6_75), .val (.int v7_84)] [])) (fun _ k => XS.icmpNo X27.here hx rfl (hb hby at_90) rfl (teq (own_hc0_90 p0 p1 p2 p3 ev4_6 v6_75 ev6_75 v7_84 ev7_84)).2 k) ?_
    refine Goes.step (S' := T27.setTop (mkF m 94 #[.val (.int p0), .val (.int p1), .val (.int p2), .val (.int p3), .val (.int (0 : Int32)), .val (.ref b1), .val (.int v6_75), .val (.int v7_84)] [(.int (1 : Int32))])) (fun _ k => XS.iconst X27.here hx rfl (hb hby at_93) k) ?_
    refine Goes.step (S' := T27.setTop (mkF m 98 #[.val (.int p0), .val (.int p1), .val (.int p2), .val (.int p3), .val (.int (0 : Int32)), .val (.ref b1), .val (.int v6_75), .val (.int v7_84)] [(.int (1 : Int32))])) (fun _ k => XS.goto X27.here hx rfl (pc0 := 94) (pc' := 98) rfl (hb hby at_94) (by decide) (by decide) k) ?_
    refine Goes.retN X27 hx Bd.notSynchronized (t := .boolean) Bd.returns (by simp) (hb hby at_98) (by decide) (by decide) ?_
    exact ⟨rfl, N28⟩
  · refine Goes.step (S' := s₁.setTop (mkF m 9 #[.val (.int p0), .val (.int p1), .val (.int p2), .val (.int p3), .val (.int (1 : Int32)), .unset, .unset, .unset] [(.int (4 : Int32))])) (fun _ k => XS.iconst X0.here hx rfl (hb hby at_8) k) ?_
    obtain ⟨T29, h29, k29, X29, e29, E29, A29, st29⟩ := newP X0 hx hZ (hw _ (List.mem_of_getElem? (i := 1) rfl)) e0 (g := (mkF m 9 #[.val (.int p0), .val (.int p1), .val (.int p2), .val (.int p3), .val (.int (1 : Int32)), .unset, .unset, .unset] [(.int (4 : Int32))])) rfl (hb hby at_9) rfl (by decide) (cap := 4) (by decide) (by decide) (by decide) (by decide)
    obtain ⟨b29, g29⟩ : ∃ z, z = h0.size := ⟨_, rfl⟩
    rw [← g29] at A29 st29
    have g30 : n0 ≤ b29 := Nat.le_trans Z0 (Nat.le_of_eq g29.symm)
    have Z31 : n0 ≤ h29.size := Nat.le_trans Z0 E29.1
    have V32 : AI Z h29 b29 k29 .byte (4 : Int32) [(0 : Int32), (0 : Int32), (0 : Int32), (0 : Int32)] := own_new A29 (by decide) rfl
    refine Goes.step (S' := T29.setTop (mkF m 11 #[.val (.int p0), .val (.int p1), .val (.int p2), .val (.int p3), .val (.int (1 : Int32)), .unset, .unset, .unset] [(.ref b29)])) st29 ?_
    refine Goes.step (S' := T29.setTop (mkF m 13 #[.val (.int p0), .val (.int p1), .val (.int p2), .val (.int p3), .val (.int (1 : Int32)), .val (.ref b29), .unset, .unset] [])) (fun _ k => XS.astore X29.here hx rfl (hb hby at_11) rfl rfl (l' := #[.val (.int p0), .val (.int p1), .val (.int p2), .val (.int p3), .val (.int (1 : Int32)), .val (.ref b29), .unset, .unset]) rfl k) ?_
    refine Goes.step (S' := T29.setTop (mkF m 15 #[.val (.int p0), .val (.int p1), .val (.int p2), .val (.int p3), .val (.int (1 : Int32)), .val (.ref b29), .unset, .unset] [(.ref b29)])) (fun _ k => XS.aload X29.here hx rfl (hb hby at_13) rfl rfl k) ?_
    refine Goes.step (S' := T29.setTop (mkF m 16 #[.val (.int p0), .val (.int p1), .val (.int p2), .val (.int p3), .val (.int (1 : Int32)), .val (.ref b29), .unset, .unset] [(.int (0 : Int32)), (.ref b29)])) (fun _ k => XS.iconst X29.here hx rfl (hb hby at_15) k) ?_
    refine Goes.step (S' := T29.setTop (mkF m 17 #[.val (.int p0), .val (.int p1), .val (.int p2), .val (.int p3), .val (.int (1 : Int32)), .val (.ref b29), .unset, .unset] [(.int p2), (.int (0 : Int32)), (.ref b29)])) (fun _ k => XS.iloadN X29.here hx rfl (hb hby at_16) rfl  k) ?_
    refine Goes.step (S' := T29.setTop (mkF m 18 #[.val (.int p0), .val (.int p1), .val (.int p2), .val (.int p3), .val (.int (1 : Int32)), .val (.ref b29), .unset, .unset] [(.int (p2.toInt8.toInt32)), (.int (0 : Int32)), (.ref b29)])) (fun _ k => XS.i2b X29.here hx rfl (hb hby at_17) rfl k) ?_
    obtain ⟨T33, h33, X33, e33, W33, V_33, st33⟩ := own_bastore X29 hx hZ e29 V32 ⟨by decide, by decide⟩ (g := (mkF m 18 #[.val (.int p0), .val (.int p1), .val (.int p2), .val (.int p3), .val (.int (1 : Int32)), .val (.ref b29), .unset, .unset] [(.int (p2.toInt8.toInt32)), (.int (0 : Int32)), (.ref b29)])) rfl rfl (hb hby at_18)
    replace V_33 : AI Z h33 b29 k29 .byte (4 : Int32) [(nar .byte (p2.toInt8.toInt32)), (0 : Int32), (0 : Int32), (0 : Int32)] := V_33
    have N34 := Fr.snoc X33 N0 g30
    have Z35 : n0 ≤ h33.size := Nat.le_trans Z31 (Nat.le_of_eq W33.size.symm)
    refine Goes.step (S' := T33.setTop (mkF m 19 #[.val (.int p0), .val (.int p1), .val (.int p2), .val (.int p3), .val (.int (1 : Int32)), .val (.ref b29), .unset, .unset] [])) st33 ?_
    refine Goes.step (S' := T33.setTop (mkF m 21 #[.val (.int p0), .val (.int p1), .val (.int p2), .val (.int p3), .val (.int (1 : Int32)), .val (.ref b29), .unset, .unset] [(.ref b29)])) (fun _ k => XS.aload X33.here hx rfl (hb hby at_19) rfl rfl k) ?_
    refine Goes.step (S' := T33.setTop (mkF m 22 #[.val (.int p0), .val (.int p1), .val (.int p2), .val (.int p3), .val (.int (1 : Int32)), .val (.ref b29), .unset, .unset] [(.int (1 : Int32)), (.ref b29)])) (fun _ k => XS.iconst X33.here hx rfl (hb hby at_21) k) ?_
    refine Goes.step (S' := T33.setTop (mkF m 23 #[.val (.int p0), .val (.int p1), .val (.int p2), .val (.int p3), .val (.int (1 : Int32)), .val (.ref b29), .unset, .unset] [(.int p2), (.int (1 : Int32)), (.ref b29)])) (fun _ k => XS.iloadN X33.here hx rfl (hb hby at_22) rfl  k) ?_
    refine Goes.step (S' := T33.setTop (mkF m 25 #[.val (.int p0), .val (.int p1), .val (.int p2), .val (.int p3), .val (.int (1 : Int32)), .val (.ref b29), .unset, .unset] [(.int (8 : Int32)), (.int p2), (.int (1 : Int32)), (.ref b29)])) (fun _ k => XS.bipush X33.here hx rfl (hb hby at_23) k) ?_
    refine Goes.step (S' := T33.setTop (mkF m 26 #[.val (.int p0), .val (.int p1), .val (.int p2), .val (.int p3), .val (.int (1 : Int32)), .val (.ref b29), .unset, .unset] [(.int (p2 >>> ((8 : Int32) &&& 31))), (.int (1 : Int32)), (.ref b29)])) (fun _ k => XS.ishr X33.here hx rfl (hb hby at_25) rfl k) ?_
    refine Goes.step (S' := T33.setTop (mkF m 27 #[.val (.int p0), .val (.int p1), .val (.int p2), .val (.int p3), .val (.int (1 : Int32)), .val (.ref b29), .unset, .unset] [(.int ((p2 >>> ((8 : Int32) &&& 31)).toInt8.toInt32)), (.int (1 : Int32)), (.ref b29)])) (fun _ k => XS.i2b X33.here hx rfl (hb hby at_26) rfl k) ?_
    obtain ⟨T36, h36, X36, e36, W36, V_36, st36⟩ := own_bastore X33 hx hZ e33 V_33 ⟨by decide, by decide⟩ (g := (mkF m 27 #[.val (.int p0), .val (.int p1), .val (.int p2), .val (.int p3), .val (.int (1 : Int32)), .val (.ref b29), .unset, .unset] [(.int ((p2 >>> ((8 : Int32) &&& 31)).toInt8.toInt32)), (.int (1 : Int32)), (.ref b29)])) rfl rfl (hb hby at_27)
    replace V_36 : AI Z h36 b29 k29 .byte (4 : Int32) [(nar .byte (p2.toInt8.toInt32)), (nar .byte ((p2 >>> ((8 : Int32) &&& 31)).toInt8.toInt32)), (0 : Int32), (0 : Int32)] := V_36
    have N37 := Fr.snoc X36 N34 g30
    have Z38 : n0 ≤ h36.size := Nat.le_trans Z35 (Nat.le_of_eq W36.size.symm)
    refine Goes.step (S' := T36.setTop (mkF m 28 #[.val (.int p0), .val (.int p1), .val (.int p2), .val (.int p3), .val (.int (1 : Int32)), .val (.ref b29), .unset, .unset] [])) st36 ?_
    refine Goes.step (S' := T36.setTop (mkF m 30 #[.val (.int p0), .val (.int p1), .val (.int p2), .val (.int p3), .val (.int (1 : Int32)), .val (.ref b29), .unset, .unset] [(.ref b29)])) (fun _ k => XS.aload X36.here hx rfl (hb hby at_28) rfl rfl k) ?_
    refine Goes.step (S' := T36.setTop (mkF m 31 #[.val (.int p0), .val (.int p1), .val (.int p2), .val (.int p3), .val (.int (1 : Int32)), .val (.ref b29), .unset, .unset] [(.int (2 : Int32)), (.ref b29)])) (fun _ k => XS.iconst X36.here hx rfl (hb hby at_30) k) ?_
    refine Goes.step (S' := T36.setTop (mkF m 32 #[.val (.int p0), .val (.int p1), .val (.int p2), .val (.int p3), .val (.int (1 : Int32)), .val (.ref b29), .unset, .unset] [(.int p2), (.int (2 : Int32)), (.ref b29)])) (fun _ k => XS.iloadN X36.here hx rfl (hb hby at_31) rfl  k) ?_
    refine Goes.step (S' := T36.setTop (mkF m 34 #[.val (.int p0), .val (.int p1), .val (.int p2), .val (.int p3), .val (.int (1 : Int32)), .val (.ref b29), .unset, .unset] [(.int (16 : Int32)), (.int p2), (.int (2 : Int32)), (.ref b29)])) (fun _ k => XS.bipush X36.here hx rfl (hb hby at_32) k) ?_
    refine Goes.step (S' := T36.setTop (mkF m 35 #[.val (.int p0), .val (.int p1), .val (.int p2), .val (.int p3), .val (.int (1 : Int32)), .val (.ref b29), .unset, .unset] [(.int (p2 >>> ((16 : Int32) &&& 31))), (.int (2 : Int32)), (.ref b29)])) (fun _ k => XS.ishr X36.here hx rfl (hb hby at_34) rfl k) ?_
    refine Goes.step (S' := T36.setTop (mkF m 36 #[.val (.int p0), .val (.int p1), .val (.int p2), .val (.int p3), .val (.int (1 : Int32)), .val (.ref b29), .unset, .unset] [(.int ((p2 >>> ((16 : Int32) &&& 31)).toInt8.toInt32)), (.int (2 : Int32)), (.ref b29)])) (fun _ k => XS.i2b X36.here hx rfl (hb hby at_35) rfl k) ?_
    obtain ⟨T39, h39, X39, e39, W39, V_39, st39⟩ := own_bastore X36 hx hZ e36 V_36 ⟨by decide, by decide⟩ (g := (mkF m 36 #[.val (.int p0), .val (.int p1), .val (.int p2), .val (.int p3), .val (.int (1 : Int32)), .val (.ref b29), .unset, .unset] [(.int ((p2 >>> ((16 : Int32) &&& 31)).toInt8.toInt32)), (.int (2 : Int32)), (.ref b29)])) rfl rfl (hb hby at_36)
    replace V_39 : AI Z h39 b29 k29 .byte (4 : Int32) [(nar .byte (p2.toInt8.toInt32)), (nar .byte ((p2 >>> ((8 : Int32) &&& 31)).toInt8.toInt32)), (nar .byte ((p2 >>> ((16 : Int32) &&& 31)).toInt8.toInt32)), (0 : Int32)] := V_39
    have N40 := Fr.snoc X39 N37 g30
    have Z41 : n0 ≤ h39.size := Nat.le_trans Z38 (Nat.le_of_eq W39.size.symm)
    refine Goes.step (S' := T39.setTop (mkF m 37 #[.val (.int p0), .val (.int p1), .val (.int p2), .val (.int p3), .val (.int (1 : Int32)), .val (.ref b29), .unset, .unset] [])) st39 ?_
    refine Goes.step (S' := T39.setTop (mkF m 39 #[.val (.int p0), .val (.int p1), .val (.int p2), .val (.int p3), .val (.int (1 : Int32)), .val (.ref b29), .unset, .unset] [(.ref b29)])) (fun _ k => XS.aload X39.here hx rfl (hb hby at_37) rfl rfl k) ?_
    refine Goes.step (S' := T39.setTop (mkF m 40 #[.val (.int p0), .val (.int p1), .val (.int p2), .val (.int p3), .val (.int (1 : Int32)), .val (.ref b29), .unset, .unset] [(.int (3 : Int32)), (.ref b29)])) (fun _ k => XS.iconst X39.here hx rfl (hb hby at_39) k) ?_
    refine Goes.step (S' := T39.setTop (mkF m 41 #[.val (.int p0), .val (.int p1), .val (.int p2), .val (.int p3), .val (.int (1 : Int32)), .val (.ref b29), .unset, .unset] [(.int p2), (.int (3 : Int32)), (.ref b29)])) (fun _ k => XS.iloadN X39.here hx rfl (hb hby at_40) rfl  k) ?_
    refine Goes.step (S' := T39.setTop (mkF m 43 #[.val (.int p0), .val (.int p1), .val (.int p2), .val (.int p3), .val (.int (1 : Int32)), .val (.ref b29), .unset, .unset] [(.int (24 : Int32)), (.int p2), (.int (3 : Int32)), (.ref b29)])) (fun _ k => XS.bipush X39.here hx rfl (hb hby at_41) k) ?_
    refine Goes.step (S' := T39.setTop (mkF m 44 #[.val (.int p0), .val (.int p1), .val (.int p2), .val (.int p3), .val (.int (1 : Int32)), .val (.ref b29), .unset, .unset] [(.int (p2 >>> ((24 : Int32) &&& 31))), (.int (3 : Int32)), (.ref b29)])) (fun _ k => XS.ishr X39.here hx rfl (hb hby at_43) rfl k) ?_
    refine Goes.step (S' := T39.setTop (mkF m 45 #[.val (.int p0), .val (.int p1), .val (.int p2), .val (.int p3), .val (.int (1 : Int32)), .val (.ref b29), .unset, .unset] [(.int ((p2 >>> ((24 : Int32) &&& 31)).toInt8.toInt32)), (.int (3 : Int32)), (.ref b29)])) (fun _ k => XS.i2b X39.here hx rfl (hb hby at_44) rfl k) ?_
    obtain ⟨T42, h42, X42, e42, W42, V_42, st42⟩ := own_bastore X39 hx hZ e39 V_39 ⟨by decide, by decide⟩ (g := (mkF m 45 #[.val (.int p0), .val (.int p1), .val (.int p2), .val (.int p3), .val (.int (1 : Int32)), .val (.ref b29), .unset, .unset] [(.int ((p2 >>> ((24 : Int32) &&& 31)).toInt8.toInt32)), (.int (3 : Int32)), (.ref b29)])) rfl rfl (hb hby at_45)
    replace V_42 : AI Z h42 b29 k29 .byte (4 : Int32) [(nar .byte (p2.toInt8.toInt32)), (nar .byte ((p2 >>> ((8 : Int32) &&& 31)).toInt8.toInt32)), (nar .byte ((p2 >>> ((16 : Int32) &&& 31)).toInt8.toInt32)), (nar .byte ((p2 >>> ((24 : Int32) &&& 31)).toInt8.toInt32))] := V_42
    have N43 := Fr.snoc X42 N40 g30
    have Z44 : n0 ≤ h42.size := Nat.le_trans Z41 (Nat.le_of_eq W42.size.symm)
    refine Goes.step (S' := T42.setTop (mkF m 46 #[.val (.int p0), .val (.int p1), .val (.int p2), .val (.int p3), .val (.int (1 : Int32)), .val (.ref b29), .unset, .unset] [])) st42 ?_
    refine Goes.step (S' := T42.setTop (mkF m 48 #[.val (.int p0), .val (.int p1), .val (.int p2), .val (.int p3), .val (.int (1 : Int32)), .val (.ref b29), .unset, .unset] [(.ref b29)])) (fun _ k => XS.aload X42.here hx rfl (hb hby at_46) rfl rfl k) ?_
    refine Goes.step (S' := T42.setTop (mkF m 50 #[.val (.int p0), .val (.int p1), .val (.int p2), .val (.int p3), .val (.int (1 : Int32)), .val (.ref b29), .unset, .unset] [(.int (1 : Int32)), (.ref b29)])) (fun _ k => XS.iload X42.here hx rfl (hb hby at_48) rfl  k) ?_
    refine Goes.step (S' := T42.setTop (mkF m 51 #[.val (.int p0), .val (.int p1), .val (.int p2), .val (.int p3), .val (.int (1 : Int32)), .val (.ref b29), .unset, .unset] [(.int p0), (.int (1 : Int32)), (.ref b29)])) (fun _ k => XS.iloadN X42.here hx rfl (hb hby at_50) rfl  k) ?_
    refine Goes.step (S' := T42.setTop (mkF m 52 #[.val (.int p0), .val (.int p1), .val (.int p2), .val (.int p3), .val (.int (1 : Int32)), .val (.ref b29), .unset, .unset] [(.int (p0.toInt8.toInt32)), (.int (1 : Int32)), (.ref b29)])) (fun _ k => XS.i2b X42.here hx rfl (hb hby at_51) rfl k) ?_
    obtain ⟨T45, h45, X45, e45, W45, V_45, st45⟩ := own_bastore X42 hx hZ e42 V_42 ⟨by decide, by decide⟩ (g := (mkF m 52 #[.val (.int p0), .val (.int p1), .val (.int p2), .val (.int p3), .val (.int (1 : Int32)), .val (.ref b29), .unset, .unset] [(.int (p0.toInt8.toInt32)), (.int (1 : Int32)), (.ref b29)])) rfl rfl (hb hby at_52)
    replace V_45 : AI Z h45 b29 k29 .byte (4 : Int32) [(nar .byte (p2.toInt8.toInt32)), (nar .byte (p0.toInt8.toInt32)), (nar .byte ((p2 >>> ((16 : Int32) &&& 31)).toInt8.toInt32)), (nar .byte ((p2 >>> ((24 : Int32) &&& 31)).toInt8.toInt32))] := V_45
    have N46 := Fr.snoc X45 N43 g30
    have Z47 : n0 ≤ h45.size := Nat.le_trans Z44 (Nat.le_of_eq W45.size.symm)
    refine Goes.step (S' := T45.setTop (mkF m 53 #[.val (.int p0), .val (.int p1), .val (.int p2), .val (.int p3), .val (.int (1 : Int32)), .val (.ref b29), .unset, .unset] [])) st45 ?_
    refine Goes.step (S' := T45.setTop (mkF m 55 #[.val (.int p0), .val (.int p1), .val (.int p2), .val (.int p3), .val (.int (1 : Int32)), .val (.ref b29), .unset, .unset] [(.ref b29)])) (fun _ k => XS.aload X45.here hx rfl (hb hby at_53) rfl rfl k) ?_
    refine Goes.step (S' := T45.setTop (mkF m 57 #[.val (.int p0), .val (.int p1), .val (.int p2), .val (.int p3), .val (.int (1 : Int32)), .val (.ref b29), .unset, .unset] [(.int (1 : Int32)), (.ref b29)])) (fun _ k => XS.iload X45.here hx rfl (hb hby at_55) rfl  k) ?_
    refine Goes.step (S' := T45.setTop (mkF m 58 #[.val (.int p0), .val (.int p1), .val (.int p2), .val (.int p3), .val (.int (1 : Int32)), .val (.ref b29), .unset, .unset] [(.int (1 : Int32)), (.int (1 : Int32)), (.ref b29)])) (fun _ k => XS.iconst X45.here hx rfl (hb hby at_57) k) ?_
    refine Goes.step (S' := T45.setTop (mkF m 59 #[.val (.int p0), .val (.int p1), .val (.int p2), .val (.int p3), .val (.int (1 : Int32)), .val (.ref b29), .unset, .unset] [(.int (2 : Int32)), (.ref b29)])) (fun _ k => XS.iadd X45.here hx rfl (hb hby at_58) rfl k) ?_
    refine Goes.step (S' := T45.setTop (mkF m 60 #[.val (.int p0), .val (.int p1), .val (.int p2), .val (.int p3), .val (.int (1 : Int32)), .val (.ref b29), .unset, .unset] [(.int p1), (.int (2 : Int32)), (.ref b29)])) (fun _ k => XS.iloadN X45.here hx rfl (hb hby at_59) rfl  k) ?_
    refine Goes.step (S' := T45.setTop (mkF m 61 #[.val (.int p0), .val (.int p1), .val (.int p2), .val (.int p3), .val (.int (1 : Int32)), .val (.ref b29), .unset, .unset] [(.int (p1.toInt8.toInt32)), (.int (2 : Int32)), (.ref b29)])) (fun _ k => XS.i2b X45.here hx rfl (hb hby at_60) rfl k) ?_
    obtain ⟨T48, h48, X48, e48, W48, V_48, st48⟩ := own_bastore X45 hx hZ e45 V_45 ⟨by decide, by decide⟩ (g := (mkF m 61 #[.val (.int p0), .val (.int p1), .val (.int p2), .val (.int p3), .val (.int (1 : Int32)), .val (.ref b29), .unset, .unset] [(.int (p1.toInt8.toInt32)), (.int (2 : Int32)), (.ref b29)])) rfl rfl (hb hby at_61)
    replace V_48 : AI Z h48 b29 k29 .byte (4 : Int32) [(nar .byte (p2.toInt8.toInt32)), (nar .byte (p0.toInt8.toInt32)), (nar .byte (p1.toInt8.toInt32)), (nar .byte ((p2 >>> ((24 : Int32) &&& 31)).toInt8.toInt32))] := V_48
    have N49 := Fr.snoc X48 N46 g30
    have Z50 : n0 ≤ h48.size := Nat.le_trans Z47 (Nat.le_of_eq W48.size.symm)
    refine Goes.step (S' := T48.setTop (mkF m 62 #[.val (.int p0), .val (.int p1), .val (.int p2), .val (.int p3), .val (.int (1 : Int32)), .val (.ref b29), .unset, .unset] [])) st48 ?_
    refine Goes.step (S' := T48.setTop (mkF m 63 #[.val (.int p0), .val (.int p1), .val (.int p2), .val (.int p3), .val (.int (1 : Int32)), .val (.ref b29), .unset, .unset] [(.int p0)])) (fun _ k => XS.iloadN X48.here hx rfl (hb hby at_62) rfl  k) ?_
    obtain ⟨_, _, ⟨T51, L51, k51, n51⟩, -, X51, ⟨Lc51, hQ51, l51, y51, z51⟩, st51⟩ := Jvm.LawKit.callS X48 hx (y := (⟨"com/example/marginalia/marginalia/classfile/ClassBytesU2PinLaw", "unsignedByte", "(I)I"⟩ : MethodName)) hown (mvT hZ (hw _ (List.mem_of_getElem? (i := 2) rfl))) (mvT hZ (hw _ (List.mem_of_getElem? (i := 3) rfl))) (mvT hZ (hw _ (List.mem_of_getElem? (i := 4) rfl))) (mvT hZ (hw _ (List.mem_of_getElem? (i := 5) rfl))) (by decide) (backOf (W := 0) (rm1 l Z a0 hw [] p0 h48 n0 Z50) hZ (hw _ (List.mem_of_getElem? (i := 5) rfl)) (hw _ (List.mem_of_getElem? (i := 4) rfl)) (by decide) (by decide)) (g := (mkF m 63 #[.val (.int p0), .val (.int p1), .val (.int p2), .val (.int p3), .val (.int (1 : Int32)), .val (.ref b29), .unset, .unset] [(.int p0)])) rfl (by rw [hml]; rfl) (argsL := [(.int p0)]) (rest := []) (lenOf pd0 rfl) rfl (by show 2 * 0 + _ ≤ _; exact Nat.le_of_eq rfl) (hb hby at_63) (fun _ _ => ⟨rfl, e48, (by decide : 1 + 0 ≤ _), (by decide : 4 + 0 ≤ _)⟩)
    dsimp only [Pt.U, Pt.locs, Pt.cells, Pt.slots] at X51 l51 y51 z51 st51 hQ51
    subst l51 y51 z51
    obtain ⟨rfl, N51q, e51⟩ := hQ51
    have N52 := Fr.app N49 N51q
    refine Goes.step (S' := T51.setTop (mkF m 66 #[.val (.int p0), .val (.int p1), .val (.int p2), .val (.int p3), .val (.int (1 : Int32)), .val (.ref b29), .unset, .unset] [(.int (f1 p0))])) st51 ?_
    refine Goes.step (S' := T51.setTop (mkF m 69 #[.val (.int p0), .val (.int p1), .val (.int p2), .val (.int p3), .val (.int (1 : Int32)), .val (.ref b29), .unset, .unset] [(.int (256 : Int32)), (.int (f1 p0))])) (fun _ k => XS.sipush X51.here hx rfl (hb hby at_66) k) ?_
    refine Goes.step (S' := T51.setTop (mkF m 70 #[.val (.int p0), .val (.int p1), .val (.int p2), .val (.int p3), .val (.int (1 : Int32)), .val (.ref b29), .unset, .unset] [(.int ((f1 p0) * (256 : Int32)))])) (fun _ k => XS.imul X51.here hx rfl (hb hby at_69) rfl k) ?_
    refine Goes.step (S' := T51.setTop (mkF m 71 #[.val (.int p0), .val (.int p1), .val (.int p2), .val (.int p3), .val (.int (1 : Int32)), .val (.ref b29), .unset, .unset] [(.int p1), (.int ((f1 p0) * (256 : Int32)))])) (fun _ k => XS.iloadN X51.here hx rfl (hb hby at_70) rfl  k) ?_
    obtain ⟨_, _, ⟨T53, L53, k53, n53⟩, -, X53, ⟨Lc53, hQ53, l53, y53, z53⟩, st53⟩ := Jvm.LawKit.callS X51 hx (y := (⟨"com/example/marginalia/marginalia/classfile/ClassBytesU2PinLaw", "unsignedByte", "(I)I"⟩ : MethodName)) hown (mvT hZ (hw _ (List.mem_of_getElem? (i := 2) rfl))) (mvT hZ (hw _ (List.mem_of_getElem? (i := 3) rfl))) (mvT hZ (hw _ (List.mem_of_getElem? (i := 4) rfl))) (mvT hZ (hw _ (List.mem_of_getElem? (i := 5) rfl))) (by decide) (backOf (W := 1) (rm1 l Z a0 hw [] p1 h48 n0 Z50) hZ (hw _ (List.mem_of_getElem? (i := 5) rfl)) (hw _ (List.mem_of_getElem? (i := 4) rfl)) (by decide) (by decide)) (g := (mkF m 71 #[.val (.int p0), .val (.int p1), .val (.int p2), .val (.int p3), .val (.int (1 : Int32)), .val (.ref b29), .unset, .unset] [(.int p1), (.int ((f1 p0) * (256 : Int32)))])) rfl (by rw [hml]; rfl) (argsL := [(.int p1)]) (rest := [(.int ((f1 p0) * (256 : Int32)))]) (lenOf pd0 rfl) rfl (by show 2 * 0 + _ ≤ _; exact Nat.le_of_eq rfl) (hb hby at_71) (fun _ _ => ⟨rfl, e51, (by decide : 1 + 0 ≤ _), (by decide : 4 + 0 ≤ _)⟩)
    dsimp only [Pt.U, Pt.locs, Pt.cells, Pt.slots] at X53 l53 y53 z53 st53 hQ53
    subst l53 y53 z53
    obtain ⟨rfl, N53q, e53⟩ := hQ53
    have N54 := Fr.app N52 N53q
    refine Goes.step (S' := T53.setTop (mkF m 74 #[.val (.int p0), .val (.int p1), .val (.int p2), .val (.int p3), .val (.int (1 : Int32)), .val (.ref b29), .unset, .unset] [(.int (f1 p1)), (.int ((f1 p0) * (256 : Int32)))])) st53 ?_
    refine Goes.step (S' := T53.setTop (mkF m 75 #[.val (.int p0), .val (.int p1), .val (.int p2), .val (.int p3), .val (.int (1 : Int32)), .val (.ref b29), .unset, .unset] [(.int (((f1 p0) * (256 : Int32)) + (f1 p1)))])) (fun _ k => XS.iadd X53.here hx rfl (hb hby at_74) rfl k) ?_
    refine Goes.step (S' := T53.setTop (mkF m 77 #[.val (.int p0), .val (.int p1), .val (.int p2), .val (.int p3), .val (.int (1 : Int32)), .val (.ref b29), .val (.int (((f1 p0) * (256 : Int32)) + (f1 p1))), .unset] [])) (fun _ k => XS.istore X53.here hx rfl (hb hby at_75) rfl (l' := #[.val (.int p0), .val (.int p1), .val (.int p2), .val (.int p3), .val (.int (1 : Int32)), .val (.ref b29), .val (.int (((f1 p0) * (256 : Int32)) + (f1 p1))), .unset]) rfl k) ?_
    obtain ⟨v6_75, ev6_75⟩ : ∃ z : Int32, z = (((f1 p0) * (256 : Int32)) + (f1 p1)) := ⟨_, rfl⟩
    rw [← ev6_75]
    refine Goes.step (S' := T53.setTop (mkF m 79 #[.val (.int p0), .val (.int p1), .val (.int p2), .val (.int p3), .val (.int (1 : Int32)), .val (.ref b29), .val (.int v6_75), .unset] [(.ref b29)])) (fun _ k => XS.aload X53.here hx rfl (hb hby at_77) rfl rfl k) ?_
    refine Goes.step (S' := T53.setTop (mkF m 81 #[.val (.int p0), .val (.int p1), .val (.int p2), .val (.int p3), .val (.int (1 : Int32)), .val (.ref b29), .val (.int v6_75), .unset] [(.int (1 : Int32)), (.ref b29)])) (fun _ k => XS.iload X53.here hx rfl (hb hby at_79) rfl  k) ?_
    obtain ⟨_, _, ⟨T55, L55, k55, n55⟩, -, X55, ⟨Lc55, hQ55, l55, y55, z55⟩, st55⟩ := Jvm.LawKit.callS X53 hx (y := (⟨"com/example/marginalia/marginalia/classfile/ClassBytes", "u2", "([BI)I"⟩ : MethodName)) hown (mvT hZ (hw _ (List.mem_of_getElem? (i := 6) rfl))) (mvT hZ (hw _ (List.mem_of_getElem? (i := 7) rfl))) (mvT hZ (hw _ (List.mem_of_getElem? (i := 8) rfl))) (mvT hZ (hw _ (List.mem_of_getElem? (i := 9) rfl))) (by decide) (backOf (W := 0) (rm2 l Z a0 hw [] b29 (1 : Int32) k29 ((4 : Int32)) ([(nar .byte (p2.toInt8.toInt32)), (nar .byte (p0.toInt8.toInt32)), (nar .byte (p1.toInt8.toInt32)), (nar .byte ((p2 >>> ((24 : Int32) &&& 31)).toInt8.toInt32))]) h48 n0 Z50 V_48 (own_pr0_81_hB_2 p0 p1 p2 p3 ev4_6 v6_75 ev6_75) (own_pr0_81_hb2_2 p0 p1 p2 p3 ev4_6 v6_75 ev6_75)) hZ (hw _ (List.mem_of_getElem? (i := 9) rfl)) (hw _ (List.mem_of_getElem? (i := 8) rfl)) (by decide) (by decide)) (g := (mkF m 81 #[.val (.int p0), .val (.int p1), .val (.int p2), .val (.int p3), .val (.int (1 : Int32)), .val (.ref b29), .val (.int v6_75), .unset] [(.int (1 : Int32)), (.ref b29)])) rfl (by rw [hml]; rfl) (argsL := [(.ref b29), (.int (1 : Int32))]) (rest := []) (lenOf pd1 rfl) rfl (by show 2 * 0 + _ ≤ _; exact Nat.le_of_eq rfl) (hb hby at_81) (fun _ _ => ⟨rfl, e53, (by decide : 1 + 0 ≤ _), (by decide : 4 + 0 ≤ _)⟩)
    dsimp only [Pt.U, Pt.locs, Pt.cells, Pt.slots] at X55 l55 y55 z55 st55 hQ55
    subst l55 y55 z55
    obtain ⟨rfl, N55q, e55⟩ := hQ55
    have N56 := Fr.app N54 N55q
    refine Goes.step (S' := T55.setTop (mkF m 84 #[.val (.int p0), .val (.int p1), .val (.int p2), .val (.int p3), .val (.int (1 : Int32)), .val (.ref b29), .val (.int v6_75), .unset] [(.int (f2 (4 : Int32) [(nar .byte (p2.toInt8.toInt32)), (nar .byte (p0.toInt8.toInt32)), (nar .byte (p1.toInt8.toInt32)), (nar .byte ((p2 >>> ((24 : Int32) &&& 31)).toInt8.toInt32))] (1 : Int32)))])) st55 ?_
    refine Goes.step (S' := T55.setTop (mkF m 86 #[.val (.int p0), .val (.int p1), .val (.int p2), .val (.int p3), .val (.int (1 : Int32)), .val (.ref b29), .val (.int v6_75), .val (.int (f2 (4 : Int32) [(nar .byte (p2.toInt8.toInt32)), (nar .byte (p0.toInt8.toInt32)), (nar .byte (p1.toInt8.toInt32)), (nar .byte ((p2 >>> ((24 : Int32) &&& 31)).toInt8.toInt32))] (1 : Int32)))] [])) (fun _ k => XS.istore X55.here hx rfl (hb hby at_84) rfl (l' := #[.val (.int p0), .val (.int p1), .val (.int p2), .val (.int p3), .val (.int (1 : Int32)), .val (.ref b29), .val (.int v6_75), .val (.int (f2 (4 : Int32) [(nar .byte (p2.toInt8.toInt32)), (nar .byte (p0.toInt8.toInt32)), (nar .byte (p1.toInt8.toInt32)), (nar .byte ((p2 >>> ((24 : Int32) &&& 31)).toInt8.toInt32))] (1 : Int32)))]) rfl k) ?_
    obtain ⟨v7_84, ev7_84⟩ : ∃ z : Int32, z = (f2 (4 : Int32) [(nar .byte (p2.toInt8.toInt32)), (nar .byte (p0.toInt8.toInt32)), (nar .byte (p1.toInt8.toInt32)), (nar .byte ((p2 >>> ((24 : Int32) &&& 31)).toInt8.toInt32))] (1 : Int32)) := ⟨_, rfl⟩
    rw [← ev7_84]
    refine Goes.step (S' := T55.setTop (mkF m 88 #[.val (.int p0), .val (.int p1), .val (.int p2), .val (.int p3), .val (.int (1 : Int32)), .val (.ref b29), .val (.int v6_75), .val (.int v7_84)] [(.int v7_84)])) (fun _ k => XS.iload X55.here hx rfl (hb hby at_86) rfl  k) ?_
    refine Goes.step (S' := T55.setTop (mkF m 90 #[.val (.int p0), .val (.int p1), .val (.int p2), .val (.int p3), .val (.int (1 : Int32)), .val (.ref b29), .val (.int v6_75), .val (.int v7_84)] [(.int v6_75), (.int v7_84)])) (fun _ k => XS.iload X55.here hx rfl (hb hby at_88) rfl  k) ?_
    refine Goes.step (S' := T55.setTop (mkF m 93 #[.val (.int p0), .val (.int p1), .val (.int p2), .val (.int p3), .val (.int (1 : Int32)), .val (.ref b29), .val (.int v6_75), .val (.int v7_84)] [])) (fun _ k => XS.icmpNo X55.here hx rfl (hb hby at_90) rfl (teq (own_hc0_90_2 p0 p1 p2 p3 ev4_6 v6_75 ev6_75 v7_84 ev7_84)).2 k) ?_
    refine Goes.step (S' := T55.setTop (mkF m 94 #[.val (.int p0), .val (.int p1), .val (.int p2), .val (.int p3), .val (.int (1 : Int32)), .val (.ref b29), .val (.int v6_75), .val (.int v7_84)] [(.int (1 : Int32))])) (fun _ k => XS.iconst X55.here hx rfl (hb hby at_93) k) ?_
    refine Goes.step (S' := T55.setTop (mkF m 98 #[.val (.int p0), .val (.int p1), .val (.int p2), .val (.int p3), .val (.int (1 : Int32)), .val (.ref b29), .val (.int v6_75), .val (.int v7_84)] [(.int (1 : Int32))])) (fun _ k => XS.goto X55.here hx rfl (pc0 := 94) (pc' := 98) rfl (hb hby at_94) (by decide) (by decide) k) ?_
    refine Goes.retN X55 hx Bd.notSynchronized (t := .boolean) Bd.returns (by simp) (hb hby at_98) (by decide) (by decide) ?_
    exact ⟨rfl, N56⟩
  · refine Goes.step (S' := s₁.setTop (mkF m 9 #[.val (.int p0), .val (.int p1), .val (.int p2), .val (.int p3), .val (.int (2 : Int32)), .unset, .unset, .unset] [(.int (4 : Int32))])) (fun _ k => XS.iconst X0.here hx rfl (hb hby at_8) k) ?_
    obtain ⟨T57, h57, k57, X57, e57, E57, A57, st57⟩ := newP X0 hx hZ (hw _ (List.mem_of_getElem? (i := 1) rfl)) e0 (g := (mkF m 9 #[.val (.int p0), .val (.int p1), .val (.int p2), .val (.int p3), .val (.int (2 : Int32)), .unset, .unset, .unset] [(.int (4 : Int32))])) rfl (hb hby at_9) rfl (by decide) (cap := 4) (by decide) (by decide) (by decide) (by decide)
    obtain ⟨b57, g57⟩ : ∃ z, z = h0.size := ⟨_, rfl⟩
    rw [← g57] at A57 st57
    have g58 : n0 ≤ b57 := Nat.le_trans Z0 (Nat.le_of_eq g57.symm)
    have Z59 : n0 ≤ h57.size := Nat.le_trans Z0 E57.1
    have V60 : AI Z h57 b57 k57 .byte (4 : Int32) [(0 : Int32), (0 : Int32), (0 : Int32), (0 : Int32)] := own_new A57 (by decide) rfl
    refine Goes.step (S' := T57.setTop (mkF m 11 #[.val (.int p0), .val (.int p1), .val (.int p2), .val (.int p3), .val (.int (2 : Int32)), .unset, .unset, .unset] [(.ref b57)])) st57 ?_
    refine Goes.step (S' := T57.setTop (mkF m 13 #[.val (.int p0), .val (.int p1), .val (.int p2), .val (.int p3), .val (.int (2 : Int32)), .val (.ref b57), .unset, .unset] [])) (fun _ k => XS.astore X57.here hx rfl (hb hby at_11) rfl rfl (l' := #[.val (.int p0), .val (.int p1), .val (.int p2), .val (.int p3), .val (.int (2 : Int32)), .val (.ref b57), .unset, .unset]) rfl k) ?_
    refine Goes.step (S' := T57.setTop (mkF m 15 #[.val (.int p0), .val (.int p1), .val (.int p2), .val (.int p3), .val (.int (2 : Int32)), .val (.ref b57), .unset, .unset] [(.ref b57)])) (fun _ k => XS.aload X57.here hx rfl (hb hby at_13) rfl rfl k) ?_
    refine Goes.step (S' := T57.setTop (mkF m 16 #[.val (.int p0), .val (.int p1), .val (.int p2), .val (.int p3), .val (.int (2 : Int32)), .val (.ref b57), .unset, .unset] [(.int (0 : Int32)), (.ref b57)])) (fun _ k => XS.iconst X57.here hx rfl (hb hby at_15) k) ?_
    refine Goes.step (S' := T57.setTop (mkF m 17 #[.val (.int p0), .val (.int p1), .val (.int p2), .val (.int p3), .val (.int (2 : Int32)), .val (.ref b57), .unset, .unset] [(.int p2), (.int (0 : Int32)), (.ref b57)])) (fun _ k => XS.iloadN X57.here hx rfl (hb hby at_16) rfl  k) ?_
    refine Goes.step (S' := T57.setTop (mkF m 18 #[.val (.int p0), .val (.int p1), .val (.int p2), .val (.int p3), .val (.int (2 : Int32)), .val (.ref b57), .unset, .unset] [(.int (p2.toInt8.toInt32)), (.int (0 : Int32)), (.ref b57)])) (fun _ k => XS.i2b X57.here hx rfl (hb hby at_17) rfl k) ?_
    obtain ⟨T61, h61, X61, e61, W61, V_61, st61⟩ := own_bastore X57 hx hZ e57 V60 ⟨by decide, by decide⟩ (g := (mkF m 18 #[.val (.int p0), .val (.int p1), .val (.int p2), .val (.int p3), .val (.int (2 : Int32)), .val (.ref b57), .unset, .unset] [(.int (p2.toInt8.toInt32)), (.int (0 : Int32)), (.ref b57)])) rfl rfl (hb hby at_18)
    replace V_61 : AI Z h61 b57 k57 .byte (4 : Int32) [(nar .byte (p2.toInt8.toInt32)), (0 : Int32), (0 : Int32), (0 : Int32)] := V_61
    have N62 := Fr.snoc X61 N0 g58
    have Z63 : n0 ≤ h61.size := Nat.le_trans Z59 (Nat.le_of_eq W61.size.symm)
    refine Goes.step (S' := T61.setTop (mkF m 19 #[.val (.int p0), .val (.int p1), .val (.int p2), .val (.int p3), .val (.int (2 : Int32)), .val (.ref b57), .unset, .unset] [])) st61 ?_
    refine Goes.step (S' := T61.setTop (mkF m 21 #[.val (.int p0), .val (.int p1), .val (.int p2), .val (.int p3), .val (.int (2 : Int32)), .val (.ref b57), .unset, .unset] [(.ref b57)])) (fun _ k => XS.aload X61.here hx rfl (hb hby at_19) rfl rfl k) ?_
    refine Goes.step (S' := T61.setTop (mkF m 22 #[.val (.int p0), .val (.int p1), .val (.int p2), .val (.int p3), .val (.int (2 : Int32)), .val (.ref b57), .unset, .unset] [(.int (1 : Int32)), (.ref b57)])) (fun _ k => XS.iconst X61.here hx rfl (hb hby at_21) k) ?_
    refine Goes.step (S' := T61.setTop (mkF m 23 #[.val (.int p0), .val (.int p1), .val (.int p2), .val (.int p3), .val (.int (2 : Int32)), .val (.ref b57), .unset, .unset] [(.int p2), (.int (1 : Int32)), (.ref b57)])) (fun _ k => XS.iloadN X61.here hx rfl (hb hby at_22) rfl  k) ?_
    refine Goes.step (S' := T61.setTop (mkF m 25 #[.val (.int p0), .val (.int p1), .val (.int p2), .val (.int p3), .val (.int (2 : Int32)), .val (.ref b57), .unset, .unset] [(.int (8 : Int32)), (.int p2), (.int (1 : Int32)), (.ref b57)])) (fun _ k => XS.bipush X61.here hx rfl (hb hby at_23) k) ?_
    refine Goes.step (S' := T61.setTop (mkF m 26 #[.val (.int p0), .val (.int p1), .val (.int p2), .val (.int p3), .val (.int (2 : Int32)), .val (.ref b57), .unset, .unset] [(.int (p2 >>> ((8 : Int32) &&& 31))), (.int (1 : Int32)), (.ref b57)])) (fun _ k => XS.ishr X61.here hx rfl (hb hby at_25) rfl k) ?_
    refine Goes.step (S' := T61.setTop (mkF m 27 #[.val (.int p0), .val (.int p1), .val (.int p2), .val (.int p3), .val (.int (2 : Int32)), .val (.ref b57), .unset, .unset] [(.int ((p2 >>> ((8 : Int32) &&& 31)).toInt8.toInt32)), (.int (1 : Int32)), (.ref b57)])) (fun _ k => XS.i2b X61.here hx rfl (hb hby at_26) rfl k) ?_
    obtain ⟨T64, h64, X64, e64, W64, V_64, st64⟩ := own_bastore X61 hx hZ e61 V_61 ⟨by decide, by decide⟩ (g := (mkF m 27 #[.val (.int p0), .val (.int p1), .val (.int p2), .val (.int p3), .val (.int (2 : Int32)), .val (.ref b57), .unset, .unset] [(.int ((p2 >>> ((8 : Int32) &&& 31)).toInt8.toInt32)), (.int (1 : Int32)), (.ref b57)])) rfl rfl (hb hby at_27)
    replace V_64 : AI Z h64 b57 k57 .byte (4 : Int32) [(nar .byte (p2.toInt8.toInt32)), (nar .byte ((p2 >>> ((8 : Int32) &&& 31)).toInt8.toInt32)), (0 : Int32), (0 : Int32)] := V_64
    have N65 := Fr.snoc X64 N62 g58
    have Z66 : n0 ≤ h64.size := Nat.le_trans Z63 (Nat.le_of_eq W64.size.symm)
    refine Goes.step (S' := T64.setTop (mkF m 28 #[.val (.int p0), .val (.int p1), .val (.int p2), .val (.int p3), .val (.int (2 : Int32)), .val (.ref b57), .unset, .unset] [])) st64 ?_
    refine Goes.step (S' := T64.setTop (mkF m 30 #[.val (.int p0), .val (.int p1), .val (.int p2), .val (.int p3), .val (.int (2 : Int32)), .val (.ref b57), .unset, .unset] [(.ref b57)])) (fun _ k => XS.aload X64.here hx rfl (hb hby at_28) rfl rfl k) ?_
    refine Goes.step (S' := T64.setTop (mkF m 31 #[.val (.int p0), .val (.int p1), .val (.int p2), .val (.int p3), .val (.int (2 : Int32)), .val (.ref b57), .unset, .unset] [(.int (2 : Int32)), (.ref b57)])) (fun _ k => XS.iconst X64.here hx rfl (hb hby at_30) k) ?_
    refine Goes.step (S' := T64.setTop (mkF m 32 #[.val (.int p0), .val (.int p1), .val (.int p2), .val (.int p3), .val (.int (2 : Int32)), .val (.ref b57), .unset, .unset] [(.int p2), (.int (2 : Int32)), (.ref b57)])) (fun _ k => XS.iloadN X64.here hx rfl (hb hby at_31) rfl  k) ?_
    refine Goes.step (S' := T64.setTop (mkF m 34 #[.val (.int p0), .val (.int p1), .val (.int p2), .val (.int p3), .val (.int (2 : Int32)), .val (.ref b57), .unset, .unset] [(.int (16 : Int32)), (.int p2), (.int (2 : Int32)), (.ref b57)])) (fun _ k => XS.bipush X64.here hx rfl (hb hby at_32) k) ?_
    refine Goes.step (S' := T64.setTop (mkF m 35 #[.val (.int p0), .val (.int p1), .val (.int p2), .val (.int p3), .val (.int (2 : Int32)), .val (.ref b57), .unset, .unset] [(.int (p2 >>> ((16 : Int32) &&& 31))), (.int (2 : Int32)), (.ref b57)])) (fun _ k => XS.ishr X64.here hx rfl (hb hby at_34) rfl k) ?_
    refine Goes.step (S' := T64.setTop (mkF m 36 #[.val (.int p0), .val (.int p1), .val (.int p2), .val (.int p3), .val (.int (2 : Int32)), .val (.ref b57), .unset, .unset] [(.int ((p2 >>> ((16 : Int32) &&& 31)).toInt8.toInt32)), (.int (2 : Int32)), (.ref b57)])) (fun _ k => XS.i2b X64.here hx rfl (hb hby at_35) rfl k) ?_
    obtain ⟨T67, h67, X67, e67, W67, V_67, st67⟩ := own_bastore X64 hx hZ e64 V_64 ⟨by decide, by decide⟩ (g := (mkF m 36 #[.val (.int p0), .val (.int p1), .val (.int p2), .val (.int p3), .val (.int (2 : Int32)), .val (.ref b57), .unset, .unset] [(.int ((p2 >>> ((16 : Int32) &&& 31)).toInt8.toInt32)), (.int (2 : Int32)), (.ref b57)])) rfl rfl (hb hby at_36)
    replace V_67 : AI Z h67 b57 k57 .byte (4 : Int32) [(nar .byte (p2.toInt8.toInt32)), (nar .byte ((p2 >>> ((8 : Int32) &&& 31)).toInt8.toInt32)), (nar .byte ((p2 >>> ((16 : Int32) &&& 31)).toInt8.toInt32)), (0 : Int32)] := V_67
    have N68 := Fr.snoc X67 N65 g58
    have Z69 : n0 ≤ h67.size := Nat.le_trans Z66 (Nat.le_of_eq W67.size.symm)
    refine Goes.step (S' := T67.setTop (mkF m 37 #[.val (.int p0), .val (.int p1), .val (.int p2), .val (.int p3), .val (.int (2 : Int32)), .val (.ref b57), .unset, .unset] [])) st67 ?_
    refine Goes.step (S' := T67.setTop (mkF m 39 #[.val (.int p0), .val (.int p1), .val (.int p2), .val (.int p3), .val (.int (2 : Int32)), .val (.ref b57), .unset, .unset] [(.ref b57)])) (fun _ k => XS.aload X67.here hx rfl (hb hby at_37) rfl rfl k) ?_
    refine Goes.step (S' := T67.setTop (mkF m 40 #[.val (.int p0), .val (.int p1), .val (.int p2), .val (.int p3), .val (.int (2 : Int32)), .val (.ref b57), .unset, .unset] [(.int (3 : Int32)), (.ref b57)])) (fun _ k => XS.iconst X67.here hx rfl (hb hby at_39) k) ?_
    refine Goes.step (S' := T67.setTop (mkF m 41 #[.val (.int p0), .val (.int p1), .val (.int p2), .val (.int p3), .val (.int (2 : Int32)), .val (.ref b57), .unset, .unset] [(.int p2), (.int (3 : Int32)), (.ref b57)])) (fun _ k => XS.iloadN X67.here hx rfl (hb hby at_40) rfl  k) ?_
    refine Goes.step (S' := T67.setTop (mkF m 43 #[.val (.int p0), .val (.int p1), .val (.int p2), .val (.int p3), .val (.int (2 : Int32)), .val (.ref b57), .unset, .unset] [(.int (24 : Int32)), (.int p2), (.int (3 : Int32)), (.ref b57)])) (fun _ k => XS.bipush X67.here hx rfl (hb hby at_41) k) ?_
    refine Goes.step (S' := T67.setTop (mkF m 44 #[.val (.int p0), .val (.int p1), .val (.int p2), .val (.int p3), .val (.int (2 : Int32)), .val (.ref b57), .unset, .unset] [(.int (p2 >>> ((24 : Int32) &&& 31))), (.int (3 : Int32)), (.ref b57)])) (fun _ k => XS.ishr X67.here hx rfl (hb hby at_43) rfl k) ?_
    refine Goes.step (S' := T67.setTop (mkF m 45 #[.val (.int p0), .val (.int p1), .val (.int p2), .val (.int p3), .val (.int (2 : Int32)), .val (.ref b57), .unset, .unset] [(.int ((p2 >>> ((24 : Int32) &&& 31)).toInt8.toInt32)), (.int (3 : Int32)), (.ref b57)])) (fun _ k => XS.i2b X67.here hx rfl (hb hby at_44) rfl k) ?_
    obtain ⟨T70, h70, X70, e70, W70, V_70, st70⟩ := own_bastore X67 hx hZ e67 V_67 ⟨by decide, by decide⟩ (g := (mkF m 45 #[.val (.int p0), .val (.int p1), .val (.int p2), .val (.int p3), .val (.int (2 : Int32)), .val (.ref b57), .unset, .unset] [(.int ((p2 >>> ((24 : Int32) &&& 31)).toInt8.toInt32)), (.int (3 : Int32)), (.ref b57)])) rfl rfl (hb hby at_45)
    replace V_70 : AI Z h70 b57 k57 .byte (4 : Int32) [(nar .byte (p2.toInt8.toInt32)), (nar .byte ((p2 >>> ((8 : Int32) &&& 31)).toInt8.toInt32)), (nar .byte ((p2 >>> ((16 : Int32) &&& 31)).toInt8.toInt32)), (nar .byte ((p2 >>> ((24 : Int32) &&& 31)).toInt8.toInt32))] := V_70
    have N71 := Fr.snoc X70 N68 g58
    have Z72 : n0 ≤ h70.size := Nat.le_trans Z69 (Nat.le_of_eq W70.size.symm)
    refine Goes.step (S' := T70.setTop (mkF m 46 #[.val (.int p0), .val (.int p1), .val (.int p2), .val (.int p3), .val (.int (2 : Int32)), .val (.ref b57), .unset, .unset] [])) st70 ?_
    refine Goes.step (S' := T70.setTop (mkF m 48 #[.val (.int p0), .val (.int p1), .val (.int p2), .val (.int p3), .val (.int (2 : Int32)), .val (.ref b57), .unset, .unset] [(.ref b57)])) (fun _ k => XS.aload X70.here hx rfl (hb hby at_46) rfl rfl k) ?_
    refine Goes.step (S' := T70.setTop (mkF m 50 #[.val (.int p0), .val (.int p1), .val (.int p2), .val (.int p3), .val (.int (2 : Int32)), .val (.ref b57), .unset, .unset] [(.int (2 : Int32)), (.ref b57)])) (fun _ k => XS.iload X70.here hx rfl (hb hby at_48) rfl  k) ?_
    refine Goes.step (S' := T70.setTop (mkF m 51 #[.val (.int p0), .val (.int p1), .val (.int p2), .val (.int p3), .val (.int (2 : Int32)), .val (.ref b57), .unset, .unset] [(.int p0), (.int (2 : Int32)), (.ref b57)])) (fun _ k => XS.iloadN X70.here hx rfl (hb hby at_50) rfl  k) ?_
    refine Goes.step (S' := T70.setTop (mkF m 52 #[.val (.int p0), .val (.int p1), .val (.int p2), .val (.int p3), .val (.int (2 : Int32)), .val (.ref b57), .unset, .unset] [(.int (p0.toInt8.toInt32)), (.int (2 : Int32)), (.ref b57)])) (fun _ k => XS.i2b X70.here hx rfl (hb hby at_51) rfl k) ?_
    obtain ⟨T73, h73, X73, e73, W73, V_73, st73⟩ := own_bastore X70 hx hZ e70 V_70 ⟨by decide, by decide⟩ (g := (mkF m 52 #[.val (.int p0), .val (.int p1), .val (.int p2), .val (.int p3), .val (.int (2 : Int32)), .val (.ref b57), .unset, .unset] [(.int (p0.toInt8.toInt32)), (.int (2 : Int32)), (.ref b57)])) rfl rfl (hb hby at_52)
    replace V_73 : AI Z h73 b57 k57 .byte (4 : Int32) [(nar .byte (p2.toInt8.toInt32)), (nar .byte ((p2 >>> ((8 : Int32) &&& 31)).toInt8.toInt32)), (nar .byte (p0.toInt8.toInt32)), (nar .byte ((p2 >>> ((24 : Int32) &&& 31)).toInt8.toInt32))] := V_73
    have N74 := Fr.snoc X73 N71 g58
    have Z75 : n0 ≤ h73.size := Nat.le_trans Z72 (Nat.le_of_eq W73.size.symm)
    refine Goes.step (S' := T73.setTop (mkF m 53 #[.val (.int p0), .val (.int p1), .val (.int p2), .val (.int p3), .val (.int (2 : Int32)), .val (.ref b57), .unset, .unset] [])) st73 ?_
    refine Goes.step (S' := T73.setTop (mkF m 55 #[.val (.int p0), .val (.int p1), .val (.int p2), .val (.int p3), .val (.int (2 : Int32)), .val (.ref b57), .unset, .unset] [(.ref b57)])) (fun _ k => XS.aload X73.here hx rfl (hb hby at_53) rfl rfl k) ?_
    refine Goes.step (S' := T73.setTop (mkF m 57 #[.val (.int p0), .val (.int p1), .val (.int p2), .val (.int p3), .val (.int (2 : Int32)), .val (.ref b57), .unset, .unset] [(.int (2 : Int32)), (.ref b57)])) (fun _ k => XS.iload X73.here hx rfl (hb hby at_55) rfl  k) ?_
    refine Goes.step (S' := T73.setTop (mkF m 58 #[.val (.int p0), .val (.int p1), .val (.int p2), .val (.int p3), .val (.int (2 : Int32)), .val (.ref b57), .unset, .unset] [(.int (1 : Int32)), (.int (2 : Int32)), (.ref b57)])) (fun _ k => XS.iconst X73.here hx rfl (hb hby at_57) k) ?_
    refine Goes.step (S' := T73.setTop (mkF m 59 #[.val (.int p0), .val (.int p1), .val (.int p2), .val (.int p3), .val (.int (2 : Int32)), .val (.ref b57), .unset, .unset] [(.int (3 : Int32)), (.ref b57)])) (fun _ k => XS.iadd X73.here hx rfl (hb hby at_58) rfl k) ?_
    refine Goes.step (S' := T73.setTop (mkF m 60 #[.val (.int p0), .val (.int p1), .val (.int p2), .val (.int p3), .val (.int (2 : Int32)), .val (.ref b57), .unset, .unset] [(.int p1), (.int (3 : Int32)), (.ref b57)])) (fun _ k => XS.iloadN X73.here hx rfl (hb hby at_59) rfl  k) ?_
    refine Goes.step (S' := T73.setTop (mkF m 61 #[.val (.int p0), .val (.int p1), .val (.int p2), .val (.int p3), .val (.int (2 : Int32)), .val (.ref b57), .unset, .unset] [(.int (p1.toInt8.toInt32)), (.int (3 : Int32)), (.ref b57)])) (fun _ k => XS.i2b X73.here hx rfl (hb hby at_60) rfl k) ?_
    obtain ⟨T76, h76, X76, e76, W76, V_76, st76⟩ := own_bastore X73 hx hZ e73 V_73 ⟨by decide, by decide⟩ (g := (mkF m 61 #[.val (.int p0), .val (.int p1), .val (.int p2), .val (.int p3), .val (.int (2 : Int32)), .val (.ref b57), .unset, .unset] [(.int (p1.toInt8.toInt32)), (.int (3 : Int32)), (.ref b57)])) rfl rfl (hb hby at_61)
    replace V_76 : AI Z h76 b57 k57 .byte (4 : Int32) [(nar .byte (p2.toInt8.toInt32)), (nar .byte ((p2 >>> ((8 : Int32) &&& 31)).toInt8.toInt32)), (nar .byte (p0.toInt8.toInt32)), (nar .byte (p1.toInt8.toInt32))] := V_76
    have N77 := Fr.snoc X76 N74 g58
    have Z78 : n0 ≤ h76.size := Nat.le_trans Z75 (Nat.le_of_eq W76.size.symm)
    refine Goes.step (S' := T76.setTop (mkF m 62 #[.val (.int p0), .val (.int p1), .val (.int p2), .val (.int p3), .val (.int (2 : Int32)), .val (.ref b57), .unset, .unset] [])) st76 ?_
    refine Goes.step (S' := T76.setTop (mkF m 63 #[.val (.int p0), .val (.int p1), .val (.int p2), .val (.int p3), .val (.int (2 : Int32)), .val (.ref b57), .unset, .unset] [(.int p0)])) (fun _ k => XS.iloadN X76.here hx rfl (hb hby at_62) rfl  k) ?_
    obtain ⟨_, _, ⟨T79, L79, k79, n79⟩, -, X79, ⟨Lc79, hQ79, l79, y79, z79⟩, st79⟩ := Jvm.LawKit.callS X76 hx (y := (⟨"com/example/marginalia/marginalia/classfile/ClassBytesU2PinLaw", "unsignedByte", "(I)I"⟩ : MethodName)) hown (mvT hZ (hw _ (List.mem_of_getElem? (i := 2) rfl))) (mvT hZ (hw _ (List.mem_of_getElem? (i := 3) rfl))) (mvT hZ (hw _ (List.mem_of_getElem? (i := 4) rfl))) (mvT hZ (hw _ (List.mem_of_getElem? (i := 5) rfl))) (by decide) (backOf (W := 0) (rm1 l Z a0 hw [] p0 h76 n0 Z78) hZ (hw _ (List.mem_of_getElem? (i := 5) rfl)) (hw _ (List.mem_of_getElem? (i := 4) rfl)) (by decide) (by decide)) (g := (mkF m 63 #[.val (.int p0), .val (.int p1), .val (.int p2), .val (.int p3), .val (.int (2 : Int32)), .val (.ref b57), .unset, .unset] [(.int p0)])) rfl (by rw [hml]; rfl) (argsL := [(.int p0)]) (rest := []) (lenOf pd0 rfl) rfl (by show 2 * 0 + _ ≤ _; exact Nat.le_of_eq rfl) (hb hby at_63) (fun _ _ => ⟨rfl, e76, (by decide : 1 + 0 ≤ _), (by decide : 4 + 0 ≤ _)⟩)
    dsimp only [Pt.U, Pt.locs, Pt.cells, Pt.slots] at X79 l79 y79 z79 st79 hQ79
    subst l79 y79 z79
    obtain ⟨rfl, N79q, e79⟩ := hQ79
    have N80 := Fr.app N77 N79q
    refine Goes.step (S' := T79.setTop (mkF m 66 #[.val (.int p0), .val (.int p1), .val (.int p2), .val (.int p3), .val (.int (2 : Int32)), .val (.ref b57), .unset, .unset] [(.int (f1 p0))])) st79 ?_
    refine Goes.step (S' := T79.setTop (mkF m 69 #[.val (.int p0), .val (.int p1), .val (.int p2), .val (.int p3), .val (.int (2 : Int32)), .val (.ref b57), .unset, .unset] [(.int (256 : Int32)), (.int (f1 p0))])) (fun _ k => XS.sipush X79.here hx rfl (hb hby at_66) k) ?_
    refine Goes.step (S' := T79.setTop (mkF m 70 #[.val (.int p0), .val (.int p1), .val (.int p2), .val (.int p3), .val (.int (2 : Int32)), .val (.ref b57), .unset, .unset] [(.int ((f1 p0) * (256 : Int32)))])) (fun _ k => XS.imul X79.here hx rfl (hb hby at_69) rfl k) ?_
    refine Goes.step (S' := T79.setTop (mkF m 71 #[.val (.int p0), .val (.int p1), .val (.int p2), .val (.int p3), .val (.int (2 : Int32)), .val (.ref b57), .unset, .unset] [(.int p1), (.int ((f1 p0) * (256 : Int32)))])) (fun _ k => XS.iloadN X79.here hx rfl (hb hby at_70) rfl  k) ?_
    obtain ⟨_, _, ⟨T81, L81, k81, n81⟩, -, X81, ⟨Lc81, hQ81, l81, y81, z81⟩, st81⟩ := Jvm.LawKit.callS X79 hx (y := (⟨"com/example/marginalia/marginalia/classfile/ClassBytesU2PinLaw", "unsignedByte", "(I)I"⟩ : MethodName)) hown (mvT hZ (hw _ (List.mem_of_getElem? (i := 2) rfl))) (mvT hZ (hw _ (List.mem_of_getElem? (i := 3) rfl))) (mvT hZ (hw _ (List.mem_of_getElem? (i := 4) rfl))) (mvT hZ (hw _ (List.mem_of_getElem? (i := 5) rfl))) (by decide) (backOf (W := 1) (rm1 l Z a0 hw [] p1 h76 n0 Z78) hZ (hw _ (List.mem_of_getElem? (i := 5) rfl)) (hw _ (List.mem_of_getElem? (i := 4) rfl)) (by decide) (by decide)) (g := (mkF m 71 #[.val (.int p0), .val (.int p1), .val (.int p2), .val (.int p3), .val (.int (2 : Int32)), .val (.ref b57), .unset, .unset] [(.int p1), (.int ((f1 p0) * (256 : Int32)))])) rfl (by rw [hml]; rfl) (argsL := [(.int p1)]) (rest := [(.int ((f1 p0) * (256 : Int32)))]) (lenOf pd0 rfl) rfl (by show 2 * 0 + _ ≤ _; exact Nat.le_of_eq rfl) (hb hby at_71) (fun _ _ => ⟨rfl, e79, (by decide : 1 + 0 ≤ _), (by decide : 4 + 0 ≤ _)⟩)
    dsimp only [Pt.U, Pt.locs, Pt.cells, Pt.slots] at X81 l81 y81 z81 st81 hQ81
    subst l81 y81 z81
    obtain ⟨rfl, N81q, e81⟩ := hQ81
    have N82 := Fr.app N80 N81q
    refine Goes.step (S' := T81.setTop (mkF m 74 #[.val (.int p0), .val (.int p1), .val (.int p2), .val (.int p3), .val (.int (2 : Int32)), .val (.ref b57), .unset, .unset] [(.int (f1 p1)), (.int ((f1 p0) * (256 : Int32)))])) st81 ?_
    refine Goes.step (S' := T81.setTop (mkF m 75 #[.val (.int p0), .val (.int p1), .val (.int p2), .val (.int p3), .val (.int (2 : Int32)), .val (.ref b57), .unset, .unset] [(.int (((f1 p0) * (256 : Int32)) + (f1 p1)))])) (fun _ k => XS.iadd X81.here hx rfl (hb hby at_74) rfl k) ?_
    refine Goes.step (S' := T81.setTop (mkF m 77 #[.val (.int p0), .val (.int p1), .val (.int p2), .val (.int p3), .val (.int (2 : Int32)), .val (.ref b57), .val (.int (((f1 p0) * (256 : Int32)) + (f1 p1))), .unset] [])) (fun _ k => XS.istore X81.here hx rfl (hb hby at_75) rfl (l' := #[.val (.int p0), .val (.int p1), .val (.int p2), .val (.int p3), .val (.int (2 : Int32)), .val (.ref b57), .val (.int (((f1 p0) * (256 : Int32)) + (f1 p1))), .unset]) rfl k) ?_
    obtain ⟨v6_75, ev6_75⟩ : ∃ z : Int32, z = (((f1 p0) * (256 : Int32)) + (f1 p1)) := ⟨_, rfl⟩
    rw [← ev6_75]
    refine Goes.step (S' := T81.setTop (mkF m 79 #[.val (.int p0), .val (.int p1), .val (.int p2), .val (.int p3), .val (.int (2 : Int32)), .val (.ref b57), .val (.int v6_75), .unset] [(.ref b57)])) (fun _ k => XS.aload X81.here hx rfl (hb hby at_77) rfl rfl k) ?_
    refine Goes.step (S' := T81.setTop (mkF m 81 #[.val (.int p0), .val (.int p1), .val (.int p2), .val (.int p3), .val (.int (2 : Int32)), .val (.ref b57), .val (.int v6_75), .unset] [(.int (2 : Int32)), (.ref b57)])) (fun _ k => XS.iload X81.here hx rfl (hb hby at_79) rfl  k) ?_
    obtain ⟨_, _, ⟨T83, L83, k83, n83⟩, -, X83, ⟨Lc83, hQ83, l83, y83, z83⟩, st83⟩ := Jvm.LawKit.callS X81 hx (y := (⟨"com/example/marginalia/marginalia/classfile/ClassBytes", "u2", "([BI)I"⟩ : MethodName)) hown (mvT hZ (hw _ (List.mem_of_getElem? (i := 6) rfl))) (mvT hZ (hw _ (List.mem_of_getElem? (i := 7) rfl))) (mvT hZ (hw _ (List.mem_of_getElem? (i := 8) rfl))) (mvT hZ (hw _ (List.mem_of_getElem? (i := 9) rfl))) (by decide) (backOf (W := 0) (rm2 l Z a0 hw [] b57 (2 : Int32) k57 ((4 : Int32)) ([(nar .byte (p2.toInt8.toInt32)), (nar .byte ((p2 >>> ((8 : Int32) &&& 31)).toInt8.toInt32)), (nar .byte (p0.toInt8.toInt32)), (nar .byte (p1.toInt8.toInt32))]) h76 n0 Z78 V_76 (own_pr0_81_hB_3 p0 p1 p2 p3 ev4_6 v6_75 ev6_75) (own_pr0_81_hb2_3 p0 p1 p2 p3 ev4_6 v6_75 ev6_75)) hZ (hw _ (List.mem_of_getElem? (i := 9) rfl)) (hw _ (List.mem_of_getElem? (i := 8) rfl)) (by decide) (by decide)) (g := (mkF m 81 #[.val (.int p0), .val (.int p1), .val (.int p2), .val (.int p3), .val (.int (2 : Int32)), .val (.ref b57), .val (.int v6_75), .unset] [(.int (2 : Int32)), (.ref b57)])) rfl (by rw [hml]; rfl) (argsL := [(.ref b57), (.int (2 : Int32))]) (rest := []) (lenOf pd1 rfl) rfl (by show 2 * 0 + _ ≤ _; exact Nat.le_of_eq rfl) (hb hby at_81) (fun _ _ => ⟨rfl, e81, (by decide : 1 + 0 ≤ _), (by decide : 4 + 0 ≤ _)⟩)
    dsimp only [Pt.U, Pt.locs, Pt.cells, Pt.slots] at X83 l83 y83 z83 st83 hQ83
    subst l83 y83 z83
    obtain ⟨rfl, N83q, e83⟩ := hQ83
    have N84 := Fr.app N82 N83q
    refine Goes.step (S' := T83.setTop (mkF m 84 #[.val (.int p0), .val (.int p1), .val (.int p2), .val (.int p3), .val (.int (2 : Int32)), .val (.ref b57), .val (.int v6_75), .unset] [(.int (f2 (4 : Int32) [(nar .byte (p2.toInt8.toInt32)), (nar .byte ((p2 >>> ((8 : Int32) &&& 31)).toInt8.toInt32)), (nar .byte (p0.toInt8.toInt32)), (nar .byte (p1.toInt8.toInt32))] (2 : Int32)))])) st83 ?_
    refine Goes.step (S' := T83.setTop (mkF m 86 #[.val (.int p0), .val (.int p1), .val (.int p2), .val (.int p3), .val (.int (2 : Int32)), .val (.ref b57), .val (.int v6_75), .val (.int (f2 (4 : Int32) [(nar .byte (p2.toInt8.toInt32)), (nar .byte ((p2 >>> ((8 : Int32) &&& 31)).toInt8.toInt32)), (nar .byte (p0.toInt8.toInt32)), (nar .byte (p1.toInt8.toInt32))] (2 : Int32)))] [])) (fun _ k => XS.istore X83.here hx rfl (hb hby at_84) rfl (l' := #[.val (.int p0), .val (.int p1), .val (.int p2), .val (.int p3), .val (.int (2 : Int32)), .val (.ref b57), .val (.int v6_75), .val (.int (f2 (4 : Int32) [(nar .byte (p2.toInt8.toInt32)), (nar .byte ((p2 >>> ((8 : Int32) &&& 31)).toInt8.toInt32)), (nar .byte (p0.toInt8.toInt32)), (nar .byte (p1.toInt8.toInt32))] (2 : Int32)))]) rfl k) ?_
    obtain ⟨v7_84, ev7_84⟩ : ∃ z : Int32, z = (f2 (4 : Int32) [(nar .byte (p2.toInt8.toInt32)), (nar .byte ((p2 >>> ((8 : Int32) &&& 31)).toInt8.toInt32)), (nar .byte (p0.toInt8.toInt32)), (nar .byte (p1.toInt8.toInt32))] (2 : Int32)) := ⟨_, rfl⟩
    rw [← ev7_84]
    refine Goes.step (S' := T83.setTop (mkF m 88 #[.val (.int p0), .val (.int p1), .val (.int p2), .val (.int p3), .val (.int (2 : Int32)), .val (.ref b57), .val (.int v6_75), .val (.int v7_84)] [(.int v7_84)])) (fun _ k => XS.iload X83.here hx rfl (hb hby at_86) rfl  k) ?_
    refine Goes.step (S' := T83.setTop (mkF m 90 #[.val (.int p0), .val (.int p1), .val (.int p2), .val (.int p3), .val (.int (2 : Int32)), .val (.ref b57), .val (.int v6_75), .val (.int v7_84)] [(.int v6_75), (.int v7_84)])) (fun _ k => XS.iload X83.here hx rfl (hb hby at_88) rfl  k) ?_
    refine Goes.step (S' := T83.setTop (mkF m 93 #[.val (.int p0), .val (.int p1), .val (.int p2), .val (.int p3), .val (.int (2 : Int32)), .val (.ref b57), .val (.int v6_75), .val (.int v7_84)] [])) (fun _ k => XS.icmpNo X83.here hx rfl (hb hby at_90) rfl (teq (own_hc0_90_3 p0 p1 p2 p3 ev4_6 v6_75 ev6_75 v7_84 ev7_84)).2 k) ?_
    refine Goes.step (S' := T83.setTop (mkF m 94 #[.val (.int p0), .val (.int p1), .val (.int p2), .val (.int p3), .val (.int (2 : Int32)), .val (.ref b57), .val (.int v6_75), .val (.int v7_84)] [(.int (1 : Int32))])) (fun _ k => XS.iconst X83.here hx rfl (hb hby at_93) k) ?_
    refine Goes.step (S' := T83.setTop (mkF m 98 #[.val (.int p0), .val (.int p1), .val (.int p2), .val (.int p3), .val (.int (2 : Int32)), .val (.ref b57), .val (.int v6_75), .val (.int v7_84)] [(.int (1 : Int32))])) (fun _ k => XS.goto X83.here hx rfl (pc0 := 94) (pc' := 98) rfl (hb hby at_94) (by decide) (by decide) k) ?_
    refine Goes.retN X83 hx Bd.notSynchronized (t := .boolean) Bd.returns (by simp) (hb hby at_98) (by decide) (by decide) ?_
    exact ⟨rfl, N84⟩
set_option maxRecDepth 65536 in
set_option maxHeartbeats 40000000 in
theorem comes_1 {Post : Tables → Env → Array Value → State → Outcome → State → Prop} (hpost : ∀ tb e args s v u, (limb_1_1.after args s (.returned v) u = true ∧ limb_1_2.after args s (.returned v) u = true ∧ True) → FrameEnd s (.returned v) u (Jvm.fieldLocs frame_1_writes args s ++ Jvm.arrayLocs frame_1_arrays args s ++ Jvm.staticLocs frame_1_statics s) 16 128 → Post tb e args s (.returned v) u) :
    ArmFor flags0 classFile x code maxLocals ret World_1 tables_1 room_1 Calls_1 rest_1 Pre_1 Post := by
  intro l hfl _ _ p e ha hc hk s m args below hf hA hF happ hP
  obtain ⟨hcalls, hrest, hpre⟩ := hP
  obtain ⟨-, -, -, hnamed, -, -, -, hat⟩ := (Spec.applies_iff hf).mp happ
  obtain ⟨hg, hn⟩ := and_e (Cond.before_iff.mp (show (Jvm.Cond.and given_1 narrow_1).before args s = true from hpre))
  obtain ⟨gg1, gg2⟩ := and_e hg
  obtain ⟨gg3, gg4⟩ := and_e gg2
  obtain ⟨gg5, gg6⟩ := and_e gg4
  obtain ⟨gg7, gg8⟩ := and_e gg6
  obtain ⟨w0, w1, w2, w3, rfl⟩ : ∃ w0 w1 w2 w3 : Value, args = #[w0, w1, w2, w3] := by
    have hs : args.size = 4 := by simpa [Cond.value, given_1] using gg1
    obtain ⟨L⟩ := args
    match L, hs with
    | [w0, w1, w2, w3], _ => exact ⟨w0, w1, w2, w3, rfl⟩
  have hw := fun d (hd : d ∈ tables_1) => atoms_spec (ws := Jvm.Cond.code x code maxLocals ret :: tables_1) hat d (List.mem_cons_of_mem _ hd)
  obtain ⟨i0, ei0⟩ := is_v gg3
  obtain rfl : w0 = (.int i0) := Option.some.inj ei0
  obtain ⟨i1, ei1⟩ := is_v gg5
  obtain rfl : w1 = (.int i1) := Option.some.inj ei1
  obtain ⟨i2, ei2⟩ := is_v gg7
  obtain rfl : w2 = (.int i2) := Option.some.inj ei2
  obtain ⟨i3, ei3⟩ := is_v gg8
  obtain rfl : w3 = (.int i3) := Option.some.inj ei3
  obtain ⟨n, o, h1, h2, h3, _, L, rfl, ⟨rfl, N⟩, hq⟩ := rm0 l s _ hw tables_1 i0 i1 i2 i3 s.heap s.heap.size (Nat.le_refl _) p e ha hc hk s m _ below hf ((Spec.applies_iff_loose hf).mp happ).1 ⟨rfl, State.Warmed39.refl s, rfl⟩ trivial
  refine ⟨n, _, h1, h2, h3, hpost _ _ _ _ _ _ ⟨Cond.after_iff.mpr rfl, Cond.after_iff.mpr (eq_i res_at (Term.int_eval (1)) rfl), trivial⟩ ⟨hq.1, hq.2.1, (hq.2.2.sift fun y hy => Or.inr (N y hy)).mono (by decide) (by decide)⟩⟩
theorem main_1_1 : Claimed_1_1 := comes_1 fun _ _ _ _ _ _ h hF => ⟨h.1, hF⟩
theorem main_1_2 : Claimed_1_2 := comes_1 fun _ _ _ _ _ _ h hF => ⟨h.2.1, hF⟩
end Jvm.Pilot.@@N@@
namespace Jvm.Pilot.@@N@@
open Jvm Jvm.ClassFile Sem Op Lib Jvm.Free Jvm.Stand Jvm.Pilot.@@N@@.Jvm.D
/-! MADE BY PROGRAM (witnessworld.py) out of the Statement's table words and the real class files: 9 classes; the members and pool entries that the words name. The judged class is class 1, her method 2. -/
namespace start1
open Jvm.ClassFile
def u (s : String) : CpInfo := .utf8 (stringToUtf16 s)
/-- a pool by its gaps: so many unusable entries, then the entry; so many at the end -/
def gap : Nat → List CpInfo → List CpInfo
  | 0, r => r
  | n + 1, r => .unusable :: gap n r
def poolList (es : List (Nat × CpInfo)) (last : Nat) : List CpInfo := es.foldr (fun e r => gap e.1 (e.2 :: r)) (gap last [])
def pool (es : List (Nat × CpInfo)) (last : Nat) : Array CpInfo := ⟨poolList es last⟩
def fileOf (pool : Array CpInfo) (this : Nat) (attrs : Array Attribute := #[]) (ms : Array MethodInfo := #[]) (fl : Nat := 33) (sup : Nat := 0) (ifs : Array Nat := #[]) (fds : Array FieldInfo := #[]) : ClassFile where
  minorVersion := 0
  majorVersion := 65
  constantPool := pool
  accessFlags := fl
  thisClass := this
  superClass := sup
  interfaces := ifs
  fields := fds
  methods := ms
  attributes := attrs
def plain (name : String) (sup : Option ClassId) : Class where
  name := name
  kind := .ordinary
  loader := none
  accessFlags := 33
  super := sup
  interfaces := #[]
  cf := none
  fields := #[]
  methods := #[]
  instanceTypes := #[]
  staticTypes := #[]
  resolved := #[]
  callSites := []
  init := .initialized
  statics := none
  mirror := none

def pool0 : Array CpInfo := pool [(5, u "<init>"), (0, u "()V"), (1, .class_ 10), (1, u "java/lang/Object")] 113

def k0m0 : Method := { name := "<init>", desc := "()V", sig := { parameters := [], returnType := none }, accessFlags := 1, code := none }
/-- java/lang/Object -/
def k0 : Class := { plain "java/lang/Object" none with
  accessFlags := 33
  interfaces := #[]
  cf := some (fileOf pool0 8 #[] #[{ accessFlags := 1, nameIndex := 5, descriptorIndex := 6, attributes := #[] }] 33 0 #[] #[])
  fields := #[]
  methods := #[k0m0]
  instanceTypes := #[]
  staticTypes := #[]
  resolved := Array.replicate 124 none
  statics := none }

def pool1 : Array CpInfo := pool [(2, .class_ 4), (1, u "java/lang/Object"), (0, u "<init>"), (0, u "()V"), (0, .integer 2147483647), (0, .methodref 9 10), (0, .class_ 11), (0, .nameAndType 12 13), (0, u "com/example/marginalia/marginalia/classfile/ClassBytesU2PinLaw"), (0, u "unsignedByte"), (0, u "(I)I"), (0, .methodref 15 16), (0, .class_ 17), (0, .nameAndType 18 19), (0, u "com/example/marginalia/marginalia/classfile/ClassBytes"), (0, u "u2"), (0, u "([BI)I"), (3, u "law"), (0, u "(IIII)Z")] 4

def k1m0 : Method := { name := "<init>", desc := "()V", sig := { parameters := [], returnType := none }, accessFlags := 1, code := none }
def k1c1 : Code := { maxStack := 2, maxLocals := 2, code := method_2_code, exceptionTable := #[], attributes := #[] }
def k1m1 : Method := { name := "unsignedByte", desc := "(I)I", sig := { parameters := [.int], returnType := some .int }, accessFlags := 10, code := some k1c1 }
def k1c2 : Code := { maxStack := 4, maxLocals := 8, code := code, exceptionTable := #[], attributes := #[] }
def k1m2 : Method := { name := "law", desc := "(IIII)Z", sig := { parameters := [.int, .int, .int, .int], returnType := some .boolean }, accessFlags := 9, code := some k1c2 }
/-- com/example/marginalia/marginalia/classfile/ClassBytesU2PinLaw -/
def k1 : Class := { plain "com/example/marginalia/marginalia/classfile/ClassBytesU2PinLaw" (some 0) with
  accessFlags := 49
  interfaces := #[]
  cf := some (fileOf pool1 9 #[] #[{ accessFlags := 1, nameIndex := 5, descriptorIndex := 6, attributes := #[] }, { accessFlags := 10, nameIndex := 12, descriptorIndex := 13, attributes := #[] }, { accessFlags := 9, nameIndex := 23, descriptorIndex := 24, attributes := #[] }] 49 2 #[] #[])
  fields := #[]
  methods := #[k1m0, k1m1, k1m2]
  instanceTypes := #[]
  staticTypes := #[]
  resolved := Array.replicate 29 none
  statics := none }

def pool2 : Array CpInfo := pool [(2, .class_ 4), (1, u "com/example/marginalia/marginalia/classfile/ClassBytes"), (3, .class_ 10), (1, u "java/lang/Object"), (3, u "m_bytes"), (0, u "[B"), (2, u "m_position"), (0, u "I"), (2, u "m_end"), (3, u "Ljava/lang/String;"), (8, u "u2"), (0, u "([BI)I")] 52

def k2c0 : Code := { maxStack := 4, maxLocals := 2, code := prog_15_method_7_code, exceptionTable := #[], attributes := #[] }
def k2m0 : Method := { name := "u2", desc := "([BI)I", sig := { parameters := [(.array .byte), .int], returnType := some .int }, accessFlags := 8, code := some k2c0 }
/-- com/example/marginalia/marginalia/classfile/ClassBytes -/
def k2 : Class := { plain "com/example/marginalia/marginalia/classfile/ClassBytes" (some 0) with
  accessFlags := 48
  interfaces := #[]
  cf := some (fileOf pool2 2 #[] #[{ accessFlags := 8, nameIndex := 35, descriptorIndex := 36, attributes := #[] }] 48 8 #[] #[])
  fields := #[]
  methods := #[k2m0]
  instanceTypes := #[]
  staticTypes := #[]
  resolved := Array.replicate 89 none
  statics := none }

def pool3 : Array CpInfo := pool [(1, u "java/lang/Cloneable"), (0, .class_ 1), (0, u "java/lang/Object"), (0, .class_ 3)] 3

/-- java/lang/Cloneable -/
def k3 : Class := { plain "java/lang/Cloneable" (some 0) with
  accessFlags := 1537
  interfaces := #[]
  cf := some (fileOf pool3 2 #[] #[] 1537 4 #[] #[])
  fields := #[]
  methods := #[]
  instanceTypes := #[]
  staticTypes := #[]
  resolved := Array.replicate 8 none
  statics := none }

def pool4 : Array CpInfo := pool [(1, u "java/io/Serializable"), (0, .class_ 1), (0, u "java/lang/Object"), (0, .class_ 3)] 3

/-- java/io/Serializable -/
def k4 : Class := { plain "java/io/Serializable" (some 0) with
  accessFlags := 1537
  interfaces := #[]
  cf := some (fileOf pool4 2 #[] #[] 1537 4 #[] #[])
  fields := #[]
  methods := #[]
  instanceTypes := #[]
  staticTypes := #[]
  resolved := Array.replicate 8 none
  statics := none }

/-- the primitive byte -/
def k5 : Class := { plain "byte" none with kind := .primitive 'B', accessFlags := 0x411 }
/-- [B -/
def k6 : Class := { plain "[B" (some 0) with kind := .array 5 .byte, interfaces := #[3, 4], accessFlags := 1041 }

/-- the primitive int -/
def k7 : Class := { plain "int" none with kind := .primitive 'I', accessFlags := 0x411 }
/-- [I -/
def k8 : Class := { plain "[I" (some 0) with kind := .array 7 .int, interfaces := #[3, 4], accessFlags := 1041 }

def heap : Heap := #[]
def classes : Array Class := #[k0, k1, k2, k3, k4, k5, k6, k7, k8]
def interned : List (Array UInt16 × Addr) := []
def slotsUsed : Nat := 0
def theMethod : MethodId := ⟨1, 2⟩
def args0 : Array Value := #[.int 5, .int 5, .int 5, .int 5]
def aboutOver (below : List Frame) : State where
  vm := { classes := classes, interned := interned.toArray }
  heap := heap
  slotsUsed := slotsUsed
  threads := #[{ frames := .invoking theMethod args0 :: below }]
def below0 : List Frame := [.native { method := ⟨0, 0⟩, args := #[] }]
def about1 : State := aboutOver below0
def p0 : Program := .bare "" "" ""
def e0 : Env := launch0.env 0 0 0
theorem w_frames : about1.frames = Frame.invoking theMethod args0 :: below0 := rfl
set_option maxRecDepth 65536 in
theorem w_args : argsFit about1.vm theMethod args0 = true := by decide +kernel
set_option maxRecDepth 65536 in
theorem w_heap : heapFits about1 = true := by decide +kernel
set_option maxRecDepth 65536 in
theorem w_runnable : about1.curStatus? = some .runnable := by decide +kernel
set_option maxRecDepth 65536 in
theorem w_alone : about1.alone = true := by decide +kernel
set_option maxRecDepth 65536 in
theorem w_named : about1.methodNamed? x = some theMethod := by decide +kernel
set_option maxRecDepth 65536 in
theorem w_hears : about1.hears theMethod below0 = true := by decide +kernel
set_option maxRecDepth 65536 in
theorem w_ripe : about1.ripe theMethod args0 below0 = true := by decide +kernel
theorem w_running : about1.status = .running := rfl
set_option maxRecDepth 65536 in
theorem w_room : about1.hasRoom e0.platform room_1 = true :=
  launch0.hasRoom_least _ room_1 (by decide +kernel) (by decide +kernel) (by decide +kernel) (by decide +kernel) (by decide +kernel) (by decide +kernel)
theorem allAtoms_all (ts : List Jvm.Cond) (a : Array Jvm.Value) (st : Jvm.State) : (allAtoms ts).before a st = ts.all (fun c => c.before a st) := by
  induction ts with
  | nil => rfl
  | cons c t ih =>
    show (Jvm.Cond.and c (allAtoms t)).before a st = _
    rw [Jvm.Cond.before_and, ih, List.all_cons]
def words1 : List Jvm.Cond := Jvm.Cond.code x code maxLocals ret :: tables_1
/-- a 'code' word, met by the world's own term for the bytes: nothing is compared byte by byte -/
theorem code_word {y : MethodName} {bytes : ByteArray} {mx : Nat} {rt : Option FieldType} {a : Array Value} {s : State} {m : MethodId} {meth : Method} {c : Code} (h1 : s.methodNamed? y = some m) (h2 : s.vm.method? m = some meth) (h3 : meth.code = some c) (h4 : c.code = bytes)
    (h5 : (c.maxLocals == mx && c.exceptionTable.isEmpty && decide (c.maxStack ≤ mostOperands) && decide (meth.sig.returnType = rt) && !meth.locks && decide (parseMethodDescriptor y.desc = some meth.sig)) = true) : (Jvm.Cond.code y bytes mx rt).before a s = true := by
  simp only [Bool.and_eq_true, beq_iff_eq, Bool.not_eq_true', decide_eq_true_eq] at h5
  obtain ⟨⟨⟨⟨⟨g1, g2⟩, g3⟩, g4⟩, g5⟩, g6⟩ := h5
  simp [Cond.before, Cond.holds, Cond.value, h1, h2, h3, h4, g1, g2, g3, g4, g5, g6]
def isCode : Jvm.Cond → Bool
  | .code _ _ _ _ => true
  | _ => false
theorem all_split {L : List Jvm.Cond} {P : Jvm.Cond → Bool} (h1 : L.all (fun c => isCode c || P c) = true) (h2 : ∀ c ∈ L.filter isCode, P c = true) : L.all P = true := by
  refine List.all_eq_true.mpr fun c hc => ?_
  have h := List.all_eq_true.mp h1 c hc
  rcases Bool.eq_false_or_eq_true (isCode c) with hi | hi
  · exact h2 c (List.mem_filter.mpr ⟨hc, hi⟩)
  · simpa [hi] using h
set_option maxRecDepth 65536 in
theorem w_c0 : (Jvm.Cond.code x code maxLocals ret).before args0 about1 = true := code_word (m := ⟨1, 2⟩) (meth := k1m2) (c := k1c2) (by decide +kernel) rfl rfl rfl (by decide +kernel)
set_option maxRecDepth 65536 in
theorem w_c1 : (Jvm.Cond.code ({ cls := "com/example/marginalia/marginalia/classfile/ClassBytesU2PinLaw", name := "unsignedByte", desc := "(I)I" } : Jvm.MethodName) method_2_code (2 : Nat) (Option.some Jvm.ClassFile.FieldType.int)).before args0 about1 = true := code_word (m := ⟨1, 1⟩) (meth := k1m1) (c := k1c1) (by decide +kernel) rfl rfl rfl (by decide +kernel)
set_option maxRecDepth 65536 in
theorem w_c2 : (Jvm.Cond.code ({ cls := "com/example/marginalia/marginalia/classfile/ClassBytes", name := "u2", desc := "([BI)I" } : Jvm.MethodName) prog_15_method_7_code (2 : Nat) (Option.some Jvm.ClassFile.FieldType.int)).before args0 about1 = true := code_word (m := ⟨2, 0⟩) (meth := k2m0) (c := k2c0) (by decide +kernel) rfl rfl rfl (by decide +kernel)
def codes1 : List Jvm.Cond := [Jvm.Cond.code x code maxLocals ret, Jvm.Cond.code ({ cls := "com/example/marginalia/marginalia/classfile/ClassBytesU2PinLaw", name := "unsignedByte", desc := "(I)I" } : Jvm.MethodName) method_2_code (2 : Nat) (Option.some Jvm.ClassFile.FieldType.int), Jvm.Cond.code ({ cls := "com/example/marginalia/marginalia/classfile/ClassBytes", name := "u2", desc := "([BI)I" } : Jvm.MethodName) prog_15_method_7_code (2 : Nat) (Option.some Jvm.ClassFile.FieldType.int)]
set_option maxRecDepth 65536 in
theorem codes_eq : words1.filter isCode = codes1 := rfl
theorem w_codes : ∀ c ∈ words1.filter isCode, c.before args0 about1 = true := by
  rw [codes_eq]
  intro c hc
  simp only [codes1, List.mem_cons, List.not_mem_nil, or_false] at hc
  rcases hc with rfl | rfl | rfl
  · exact w_c0
  · exact w_c1
  · exact w_c2
set_option maxRecDepth 65536 in
theorem w_t1 : words1.all (fun c => isCode c || c.before args0 about1) = true := by decide +kernel
theorem w_tables : (allAtoms (Jvm.Cond.code x code maxLocals ret :: tables_1)).before args0 about1 = true := by
  rw [allAtoms_all]
  show words1.all (fun c => c.before args0 about1) = true
  refine all_split ?_ w_codes
  rw [w_t1]
set_option maxRecDepth 65536 in
theorem w_case : (Jvm.Cond.and given_1 narrow_1).before args0 about1 = true := by decide +kernel
theorem w_applies : (headSpec (Jvm.Cond.code x code maxLocals ret :: tables_1) room_1).applies x e0.platform about1 = true :=
  (Spec.applies_iff w_frames).mpr ⟨w_running, w_runnable, w_alone, w_named, w_hears, w_ripe, w_room, w_tables⟩
theorem atStart : AtStart classFile x code maxLocals ret World_1 tables_1 room_1 Calls_1 rest_1 Pre_1 launch0 p0 e0 about1 theMethod args0 below0 :=
  ⟨lists_1, trivial, launch0.admits_env _ _ _, launch0.least_env, fairChoices_fair.cas, fairChoices_fair.clock, w_frames, w_args, w_heap, w_applies, trivial, trivial, w_case⟩
end start1
theorem witness_1 : WitnessClaimed_1 := ⟨start1.p0, start1.e0, start1.about1, start1.theMethod, start1.args0, start1.below0, start1.atStart⟩
end Jvm.Pilot.@@N@@
