import JvmDerived
import JvmDerived.Pilot.@@N@@Statement
import JvmDerived.Pilot.@@N@@Code
set_option linter.unusedVariables false
set_option linter.unusedSimpArgs false
namespace Jvm.RoadKit
open Sem ClassFile Op Lib Jvm.Stand Jvm.Free Jvm.LawKit
section New
variable {p : Program} {l : Launch} {e : Env} {R : Room} {s : State} {m : MethodId} {args : Array Value} {below : List Frame} {meth : Method} {c : Code} {T : State} {locs : List Loc} {cells slots : Nat}
theorem retI (X : Stand p l e R s m args below meth c T locs cells slots) (hx : p.tables.exec = Jvm.exec) {pc : Nat} {Ls : Array Slot} {z : Int32} {rest : List Value} (hret : meth.sig.returnType = some .int) (hd : decode c.code pc = .ok (.ireturn, 1)) {fs : List Frame}
    (hl : ∀ (f : JFrame) (acts : List Action), f.method = m → f.locked = none → f.entered = [] → (doReturn e (T.setTop f) acts (some (.int z))).1 = T.setFrames fs) : Steps p.tables e below (T.setTop (mkF m pc Ls (.int z :: rest))) (T.setFrames fs) := by
  have hm' : T.vm.method? m = some meth := X.method'
  have hn : narrow .int (.int z) = .int z := rfl
  show Steps p.tables e below (T.setTop { method := m, pc := pc, locals := Ls, stack := _ :: rest, locked := none }) _
  jvm_step X.here [X.here.top, hx, hd, hm', hret, hn]
  first | (intro acts; rw [hl _ acts rfl rfl rfl]) | rw [hl _ _ rfl rfl rfl]
  exact Steps.refl _
end New
end Jvm.RoadKit
namespace Jvm.Pilot.@@N@@
open Jvm Jvm.ClassFile Sem Op Lib Jvm.Free Jvm.Stand Jvm.LawKit Jvm.RoadKit Bundle Jvm.Pilot.@@N@@.Jvm.D
/-! MY OWN LAYER, 1: a walk in forward style -/
/-- from the state S the run ends, and Q holds of the end -/
def Goes (tb : Tables) (e : Env) (below : List Frame) (Q : Outcome → State → Prop) (S : State) : Prop :=
  ∃ s₂ o, Steps tb e below S s₂ ∧ s₂.status = .running ∧ Ended s₂ below o ∧ Q o s₂
theorem Goes.out {tb : Tables} {e : Env} {below : List Frame} {Q : Outcome → State → Prop} {S : State} (h : Goes tb e below Q S) :
    ∃ s₂ o, Steps tb e below S s₂ ∧ s₂.status = .running ∧ Ended s₂ below o ∧ Q o s₂ := h
theorem Goes.step {tb : Tables} {e : Env} {below : List Frame} {Q : Outcome → State → Prop} {S S' : State}
    (h : ∀ t, Steps tb e below S' t → Steps tb e below S t) (k : Goes tb e below Q S') : Goes tb e below Q S := by
  obtain ⟨s₂, o, h1, h2⟩ := k
  exact ⟨s₂, o, h _ h1, h2⟩
section Ites
variable {tb : Tables} {e : Env} {below : List Frame} {T S : State} {c : Prop} [Decidable c]
theorem own_ite0 {F : JFrame} (hy : c → ∀ t, Steps tb e below (T.setTop F) t → Steps tb e below S t) (hn : ¬ c → ∀ t, Steps tb e below (T.setTop F) t → Steps tb e below S t) :
    ∀ t, Steps tb e below (T.setTop F) t → Steps tb e below S t := fun t k => by
  by_cases h : c
  · exact hy h t k
  · exact hn h t k
theorem own_ite1 {A0 : Type} {a0 b0 : A0} {F : A0 → JFrame} (hy : c → ∀ t, Steps tb e below (T.setTop (F a0)) t → Steps tb e below S t) (hn : ¬ c → ∀ t, Steps tb e below (T.setTop (F b0)) t → Steps tb e below S t) :
    ∀ t, Steps tb e below (T.setTop (F (if c then a0 else b0))) t → Steps tb e below S t := fun t k => by
  by_cases h : c
  · rw [if_pos h] at k; exact hy h t k
  · rw [if_neg h] at k; exact hn h t k
theorem own_ite2 {A0 A1 : Type} {a0 b0 : A0} {a1 b1 : A1} {F : A0 → A1 → JFrame} (hy : c → ∀ t, Steps tb e below (T.setTop (F a0 a1)) t → Steps tb e below S t) (hn : ¬ c → ∀ t, Steps tb e below (T.setTop (F b0 b1)) t → Steps tb e below S t) :
    ∀ t, Steps tb e below (T.setTop (F (if c then a0 else b0) (if c then a1 else b1))) t → Steps tb e below S t := fun t k => by
  by_cases h : c
  · rw [if_pos h, if_pos h] at k; exact hy h t k
  · rw [if_neg h, if_neg h] at k; exact hn h t k
theorem own_ite3 {A0 A1 A2 : Type} {a0 b0 : A0} {a1 b1 : A1} {a2 b2 : A2} {F : A0 → A1 → A2 → JFrame} (hy : c → ∀ t, Steps tb e below (T.setTop (F a0 a1 a2)) t → Steps tb e below S t) (hn : ¬ c → ∀ t, Steps tb e below (T.setTop (F b0 b1 b2)) t → Steps tb e below S t) :
    ∀ t, Steps tb e below (T.setTop (F (if c then a0 else b0) (if c then a1 else b1) (if c then a2 else b2))) t → Steps tb e below S t := fun t k => by
  by_cases h : c
  · rw [if_pos h, if_pos h, if_pos h] at k; exact hy h t k
  · rw [if_neg h, if_neg h, if_neg h] at k; exact hn h t k
end Ites
section Rets
variable {p : Program} {l : Launch} {e : Env} {R : Room} {s : State} {m : MethodId} {args : Array Value} {below : List Frame} {meth : Method} {c : Code} {T : State} {locs : List Loc} {cells slots : Nat}
variable {QQ : Option Value → Heap → List Loc → Prop} {C0 S0 : Nat} {pc : Nat} {Ls : Array Slot} {rest : List Value}
theorem Goes.retN (X : Stand p l e R s m args below meth c T locs cells slots) (hx : p.tables.exec = Jvm.exec) (hlk : meth.locks = false) {t : FieldType} {z : Int32} (hret : meth.sig.returnType = some t) (ht : t = .boolean ∨ t = .byte ∨ t = .char ∨ t = .short)
    (hd : decode c.code pc = .ok (.ireturn, 1)) (hC : cells ≤ C0) (hS : slots ≤ S0) (hQ : QQ (some (.int (nar t z))) T.heap locs) :
    Goes p.tables e below (fun o U' => ∃ v L, o = .returned v ∧ QQ v U'.heap L ∧ FrameEnd s o U' L C0 S0) (T.setTop (mkF m pc Ls (.int z :: rest))) := by
  obtain ⟨fs, hr, hrun, hended, hW, hsame⟩ := X.leave (v := some (.int (nar t z))) (fun h => by rw [hret] at h; cases h) hlk
  exact ⟨_, _, Jvm.RoadKit.retN X hx hret ht hd hr, hrun, hended, _, _, rfl, hQ, ⟨_, rfl⟩, hW, hsame.mono hC hS⟩
theorem Goes.retI (X : Stand p l e R s m args below meth c T locs cells slots) (hx : p.tables.exec = Jvm.exec) (hlk : meth.locks = false) {z : Int32} (hret : meth.sig.returnType = some .int)
    (hd : decode c.code pc = .ok (.ireturn, 1)) (hC : cells ≤ C0) (hS : slots ≤ S0) (hQ : QQ (some (.int z)) T.heap locs) :
    Goes p.tables e below (fun o U' => ∃ v L, o = .returned v ∧ QQ v U'.heap L ∧ FrameEnd s o U' L C0 S0) (T.setTop (mkF m pc Ls (.int z :: rest))) := by
  obtain ⟨fs, hr, hrun, hended, hW, hsame⟩ := X.leave (v := some (.int z)) (fun h => by rw [hret] at h; cases h) hlk
  exact ⟨_, _, Jvm.RoadKit.retI X hx hret hd hr, hrun, hended, _, _, rfl, hQ, ⟨_, rfl⟩, hW, hsame.mono hC hS⟩
theorem Goes.retJ (X : Stand p l e R s m args below meth c T locs cells slots) (hx : p.tables.exec = Jvm.exec) (hlk : meth.locks = false) {z : Int64} (hret : meth.sig.returnType = some .long)
    (hd : decode c.code pc = .ok (.lreturn, 1)) (hC : cells ≤ C0) (hS : slots ≤ S0) (hQ : QQ (some (.long z)) T.heap locs) :
    Goes p.tables e below (fun o U' => ∃ v L, o = .returned v ∧ QQ v U'.heap L ∧ FrameEnd s o U' L C0 S0) (T.setTop (mkF m pc Ls (.long z :: rest))) := by
  obtain ⟨fs, hr, hrun, hended, hW, hsame⟩ := X.leave (v := some (.long z)) (fun h => by rw [hret] at h; cases h) hlk
  refine ⟨_, _, ?_, hrun, hended, _, _, rfl, hQ, ⟨_, rfl⟩, hW, hsame.mono hC hS⟩
  jvm_step X.here [X.here.top, hx, hd, X.method', hret, narrow]
  first | (intro acts; rw [hr _ acts rfl rfl rfl]) | rw [hr _ _ rfl rfl rfl]
  exact Steps.refl _
theorem Goes.retA (X : Stand p l e R s m args below meth c T locs cells slots) (hx : p.tables.exec = Jvm.exec) (hlk : meth.locks = false) {a : Addr} {t : FieldType} (hret : meth.sig.returnType = some t) (ht : t.isReference = true)
    (hd : decode c.code pc = .ok (.areturn, 1)) (hC : cells ≤ C0) (hS : slots ≤ S0) (hQ : QQ (some (.ref a)) T.heap locs) :
    Goes p.tables e below (fun o U' => ∃ v L, o = .returned v ∧ QQ v U'.heap L ∧ FrameEnd s o U' L C0 S0) (T.setTop (mkF m pc Ls (.ref a :: rest))) := by
  obtain ⟨fs, hr, hrun, hended, hW, hsame⟩ := X.leave (v := some (.ref a)) (fun h => by rw [hret] at h; cases h) hlk
  refine ⟨_, _, ?_, hrun, hended, _, _, rfl, hQ, ⟨_, rfl⟩, hW, hsame.mono hC hS⟩
  jvm_step X.here [X.here.top, hx, hd, X.method', hret, Value.isRef, ht]
  first | (intro acts; rw [hr _ acts rfl rfl rfl]) | rw [hr _ _ rfl rfl rfl]
  exact Steps.refl _
theorem Goes.retV (X : Stand p l e R s m args below meth c T locs cells slots) (hx : p.tables.exec = Jvm.exec) (hlk : meth.locks = false) (hret : meth.sig.returnType = none)
    (hd : decode c.code pc = .ok (.return_, 1)) (hC : cells ≤ C0) (hS : slots ≤ S0) (hQ : QQ none T.heap locs) :
    Goes p.tables e below (fun o U' => ∃ v L, o = .returned v ∧ QQ v U'.heap L ∧ FrameEnd s o U' L C0 S0) (T.setTop (mkF m pc Ls [])) := by
  obtain ⟨fs, hr, hrun, hended, hW, hsame⟩ := X.leave (v := none) (fun _ => rfl) hlk
  exact ⟨_, _, X.returnOut hx hret hd hr, hrun, hended, _, _, rfl, hQ, ⟨_, rfl⟩, hW, hsame.mono hC hS⟩
theorem own_lrem {g : JFrame} {target : State} (X : Stand p l e R s m args below meth c T locs cells slots) (hx : p.tables.exec = Jvm.exec) (hg : g.method = m) {x y : Int64} {rest : List Value} (hd : decode c.code g.pc = .ok (.lrem, 1)) (hs : g.stack = .long y :: .long x :: rest) (hy : y ≠ 0)
    (hr : Steps p.tables e below (T.setTop { g with pc := g.pc + 1, stack := .long (x % y) :: rest }) target) : Steps p.tables e below (T.setTop g) target :=
  XS.lrem X.here hx hg hd hs hy (by rw [lrem_mod]; exact hr)
end Rets
/-! MY OWN LAYER, 2: an array of ints (bytes, chars ..) by the list of its values, whole -/
def AI (Z : State) (h : Heap) (a : Addr) (k : ClassId) (ty : FieldType) (n : Int32) (vs : List Int32) : Prop :=
  Arv Z h a k ty n (vs.map Value.int) (.int 0) ∧ vs.length = n.toNatClampNeg
section Arrays
variable {p : Program} {l : Launch} {e : Env} {R : Room} {s : State} {m : MethodId} {args : Array Value} {below : List Frame} {meth : Method} {c : Code} {T : State} {locs : List Loc} {cells slots : Nat}
variable {Z : State} {h h' : Heap} {a b : Addr} {k : ClassId} {ty : FieldType} {n : Int32} {vs : List Int32} {sl : Nat} {v : Value} {ws : List Addr}
theorem AI.lt (F : AI Z h a k ty n vs) : a < h.size := F.1.lt
theorem AI.nn (F : AI Z h a k ty n vs) : ¬ n < 0 := by obtain ⟨⟨c, -, -, -, q, -⟩, -⟩ := F; exact q
theorem AI.ext (F : AI Z h a k ty n vs) (E : Ext h h') : AI Z h' a k ty n vs := ⟨F.1.ext E, F.2⟩
theorem AI.other (F : AI Z h b k ty n vs) (W : Wr h h' a sl v) (q : b ≠ a) : AI Z h' b k ty n vs := ⟨F.1.other W q, F.2⟩
theorem AI.keep (F : AI Z h a k ty n vs) (K : Keep h h' ws) (q : a ∉ ws) : AI Z h' a k ty n vs := ⟨F.1.keep K q, F.2⟩
theorem own_getD (vs : List Int32) (i : Nat) : (vs.map Value.int).getD i (.int 0) = .int (vs.getD i 0) := by
  simp only [List.getD_eq_getElem?_getD, List.getElem?_map]
  cases vs[i]? <;> rfl
theorem own_new {q : Int32} (A : Arr Z h a (newA k ty q) ty) (hq : ¬ q < 0) (hd : defaultValue ty = .int 0) {vs : List Int32} (hv : vs = List.replicate q.toNatClampNeg 0 := by rfl) : AI Z h a k ty q vs := by
  subst hv
  have V := Arv.new A hq
  rw [hd] at V
  refine ⟨?_, by simp⟩
  have q1 := V.pad (pad_rep [] (.int 0) q.toNatClampNeg)
  rw [List.nil_append] at q1
  rw [List.map_replicate]; exact q1
theorem own_inb {cl : Cell} {j : Int32} (S : cl.slots.size = n.toNatClampNeg) (q : ¬ j < 0 ∧ j < n) : ¬ (j < 0 ∨ cl.slots.size ≤ j.toNatClampNeg) := inb_of S q
theorem own_jlt {j : Int32} (q : ¬ j < 0 ∧ j < n) : j.toNatClampNeg < n.toNatClampNeg := by
  obtain ⟨q1, q2⟩ := q
  rw [Int32.lt_iff_toInt_lt] at q1 q2
  have e0 : (0 : Int32).toInt = 0 := rfl
  simp only [Int32.toNatClampNeg] at *; omega
theorem own_iaload {pc : Nat} {Ls : Array Slot} {rest : List Value} {j : Int32} (X : Stand p l e R s m args below meth c T locs cells slots) (hx : p.tables.exec = Jvm.exec) (hZ : Z.Warmed39 s.vm) (eT : T.heap = h) (F : AI Z h a k .int n vs) (hj : ¬ j < 0 ∧ j < n)
    (hd : decode c.code pc = .ok (.iaload, 1)) (t : State) (kk : Steps p.tables e below (T.setTop (mkF m (pc + 1) Ls (.int (vs.getD j.toNatClampNeg 0) :: rest))) t) : Steps p.tables e below (T.setTop (mkF m pc Ls (.int j :: .ref a :: rest))) t := by
  obtain ⟨⟨cl, A, -, S, -, H, -⟩, hl⟩ := F
  have hin := own_inb S hj
  exact X.iaload hx (j := j) (v := .int (vs.getD j.toNatClampNeg 0)) (by rw [eT]; exact A.1) (State.isArrayOf_alike hZ.alike A.2.1) A.2.2 hin (H.at hin (own_getD _ _)) (g := mkF m pc Ls (.int j :: .ref a :: rest)) rfl rfl hd _ kk
theorem own_baload {pc : Nat} {Ls : Array Slot} {rest : List Value} {j : Int32} (X : Stand p l e R s m args below meth c T locs cells slots) (hx : p.tables.exec = Jvm.exec) (hZ : Z.Warmed39 s.vm) (eT : T.heap = h) (F : AI Z h a k .byte n vs) (hj : ¬ j < 0 ∧ j < n)
    (hd : decode c.code pc = .ok (.baload, 1)) (t : State) (kk : Steps p.tables e below (T.setTop (mkF m (pc + 1) Ls (.int (vs.getD j.toNatClampNeg 0) :: rest))) t) : Steps p.tables e below (T.setTop (mkF m pc Ls (.int j :: .ref a :: rest))) t := by
  obtain ⟨⟨cl, A, -, S, -, H, -⟩, hl⟩ := F
  have hin := own_inb S hj
  exact X.baloadBytes hx (j := j) (v := .int (vs.getD j.toNatClampNeg 0)) (by rw [eT]; exact A.1) (State.isArrayOf_alike hZ.alike A.2.1) A.2.2 hin (H.at hin (own_getD _ _)) (g := mkF m pc Ls (.int j :: .ref a :: rest)) rfl rfl hd _ kk
theorem own_len {pc : Nat} {Ls : Array Slot} {rest : List Value} (X : Stand p l e R s m args below meth c T locs cells slots) (hx : p.tables.exec = Jvm.exec) (hZ : Z.Warmed39 s.vm) (eT : T.heap = h) (F : AI Z h a k ty n vs)
    (hd : decode c.code pc = .ok (.arraylength, 1)) (t : State) (kk : Steps p.tables e below (T.setTop (mkF m (pc + 1) Ls (.int n :: rest))) t) : Steps p.tables e below (T.setTop (mkF m pc Ls (.ref a :: rest))) t := by
  obtain ⟨⟨cl, A, -, S, N, H, -⟩, hl⟩ := F
  refine X.arraylength hx (by rw [eT]; exact A.1) (State.isArrayOf_alike hZ.alike A.2.1) (g := mkF m pc Ls (.ref a :: rest)) rfl rfl hd _ ?_
  rw [len_of S N]; exact kk
theorem own_iastore {j x : Int32} (X : Stand p l e R s m args below meth c T locs cells slots) (hx : p.tables.exec = Jvm.exec) (hZ : Z.Warmed39 s.vm) (eT : T.heap = h) (F : AI Z h a k .int n vs) (hj : ¬ j < 0 ∧ j < n) {g : JFrame} (hg : g.method = m) {rest : List Value} (hs : g.stack = .int x :: .int j :: .ref a :: rest) (hd : decode c.code g.pc = .ok (.iastore, 1)) :
    ∃ T' h', Stand p l e R s m args below meth c T' (locs ++ [⟨a, j.toNatClampNeg⟩]) cells slots ∧ T'.heap = h' ∧ Wr h h' a j.toNatClampNeg (.int x) ∧ AI Z h' a k .int n (vs.set j.toNatClampNeg x) ∧ ∀ target, Steps p.tables e below (T'.setTop { g with pc := g.pc + 1, stack := rest }) target → Steps p.tables e below (T.setTop g) target := by
  obtain ⟨⟨cl, A, q1, S, N, H, G⟩, hl⟩ := F
  obtain ⟨T', h', X', e', W, st⟩ := stI X hx hZ eT A (own_inb S hj) hg hs hd
  refine ⟨T', h', X', e', W, ⟨?_, by simpa using hl⟩, st⟩
  rw [List.map_set]
  exact Arv.set A q1 S N H G rfl W _ rfl (by rw [List.length_map, hl]; exact own_jlt hj)
theorem own_bastore {j x : Int32} (X : Stand p l e R s m args below meth c T locs cells slots) (hx : p.tables.exec = Jvm.exec) (hZ : Z.Warmed39 s.vm) (eT : T.heap = h) (F : AI Z h a k .byte n vs) (hj : ¬ j < 0 ∧ j < n) {g : JFrame} (hg : g.method = m) {rest : List Value} (hs : g.stack = .int x :: .int j :: .ref a :: rest) (hd : decode c.code g.pc = .ok (.bastore, 1)) :
    ∃ T' h', Stand p l e R s m args below meth c T' (locs ++ [⟨a, j.toNatClampNeg⟩]) cells slots ∧ T'.heap = h' ∧ Wr h h' a j.toNatClampNeg (.int (nar .byte x)) ∧ AI Z h' a k .byte n (vs.set j.toNatClampNeg (nar .byte x)) ∧ ∀ target, Steps p.tables e below (T'.setTop { g with pc := g.pc + 1, stack := rest }) target → Steps p.tables e below (T.setTop g) target := by
  obtain ⟨⟨cl, A, q1, S, N, H, G⟩, hl⟩ := F
  obtain ⟨T', h', X', e', W, st⟩ := stB X hx hZ eT A (own_inb S hj) hg hs hd
  refine ⟨T', h', X', e', W, ⟨?_, by simpa using hl⟩, st⟩
  rw [List.map_set]
  exact Arv.set A q1 S N H G (fits_nar_byte _) W _ rfl (by rw [List.length_map, hl]; exact own_jlt hj)
end Arrays
/-! MY OWN LAYER, 3: numbers -/
theorem own_b255 (x : Int32) : (nar .byte (x.toInt8.toInt32)) &&& 255 = x &&& 255 := by
  have a := c_i2b x
  have b := c_i2b x.toInt8.toInt32
  have m1 : ((x.toInt8.toInt32.toInt8.toInt32) &&& 255).toInt = (x.toInt8.toInt32.toInt8.toInt32).toInt % 256 := c_mask _ 255 8 (by decide) (by decide)
  have m2 : (x &&& 255).toInt = x.toInt % 256 := c_mask _ 255 8 (by decide) (by decide)
  apply Int32.toInt_inj.mp
  show ((x.toInt8.toInt32.toInt8.toInt32) &&& 255).toInt = _
  omega
theorem own_m255 (x : Int32) : (x &&& 255).toInt = x.toInt % 256 := c_mask _ 255 8 (by decide) (by decide)
theorem own_or8 (a b : Int32) (h1 : 0 ≤ a.toInt) (h2 : a.toInt < 256) (h3 : 0 ≤ b.toInt) (h4 : b.toInt < 256) : ((a <<< ((8 : Int32) &&& 31)) ||| b).toInt = a.toInt * 256 + b.toInt := by
  have s : ((a <<< ((8 : Int32) &&& 31)).toInt - a.toInt * 256) % 4294967296 = 0 := c_ishl a 8 8 (by decide)
  have r := rng32 (a <<< ((8 : Int32) &&& 31))
  have e : (a <<< ((8 : Int32) &&& 31)).toInt = a.toInt * 256 := by omega
  have o := c_or (a <<< ((8 : Int32) &&& 31)) b 8 (by decide) 256 (by decide) (by omega) h3 h4
  have r2 := rng32 ((a <<< ((8 : Int32) &&& 31)) ||| b)
  omega
theorem own_nar0 : nar .boolean 0 = 0 := by decide
theorem own_nar1 : nar .boolean 1 = 1 := by decide
theorem d1_0 : decode method_2_code 0 = .ok (.iload_n 0, 1) := by decide +kernel
theorem d1_1 : decode method_2_code 1 = .ok (.iconst 3, 1) := by decide +kernel
theorem d1_2 : decode method_2_code 2 = .ok (.iand, 1) := by decide +kernel
theorem d1_3 : decode method_2_code 3 = .ok (.istore_n 1, 1) := by decide +kernel
theorem d1_4 : decode method_2_code 4 = .ok (.iload_n 1, 1) := by decide +kernel
theorem d1_5 : decode method_2_code 5 = .ok (.ifCond .ne 6, 3) := by decide +kernel
theorem d1_8 : decode method_2_code 8 = .ok (.bipush 29, 2) := by decide +kernel
theorem d1_10 : decode method_2_code 10 = .ok (.ireturn, 1) := by decide +kernel
theorem d1_11 : decode method_2_code 11 = .ok (.iload_n 1, 1) := by decide +kernel
theorem d1_12 : decode method_2_code 12 = .ok (.iconst 1, 1) := by decide +kernel
theorem d1_13 : decode method_2_code 13 = .ok (.if_icmp .ne 6, 3) := by decide +kernel
theorem d1_16 : decode method_2_code 16 = .ok (.bipush 30, 2) := by decide +kernel
theorem d1_18 : decode method_2_code 18 = .ok (.ireturn, 1) := by decide +kernel
theorem d1_19 : decode method_2_code 19 = .ok (.iload_n 1, 1) := by decide +kernel
theorem d1_20 : decode method_2_code 20 = .ok (.iconst 2, 1) := by decide +kernel
theorem d1_21 : decode method_2_code 21 = .ok (.if_icmp .ne 6, 3) := by decide +kernel
theorem d1_24 : decode method_2_code 24 = .ok (.bipush 31, 2) := by decide +kernel
theorem d1_26 : decode method_2_code 26 = .ok (.ireturn, 1) := by decide +kernel
theorem d1_27 : decode method_2_code 27 = .ok (.iload_n 0, 1) := by decide +kernel
theorem d1_28 : decode method_2_code 28 = .ok (.iconst 2, 1) := by decide +kernel
theorem d1_29 : decode method_2_code 29 = .ok (.ishr, 1) := by decide +kernel
theorem d1_30 : decode method_2_code 30 = .ok (.i2b, 1) := by decide +kernel
theorem d1_31 : decode method_2_code 31 = .ok (.ireturn, 1) := by decide +kernel
theorem pn0 : plainName "com/example/leaderline/leaderline/Iso2709RecordIndexOfSeparatorPinLaw" = true := by first | (simp [plainName, overriddenIn]; done) | decide +kernel
theorem ef1 (m : MethodId) (p0 : Int32) : entryFrame m #[(.int p0)] 2 = mkF m 0 #[.val (.int p0), .unset] [] := by first | (simp [entryFrame, mkF, argsToLocals, Value.category]; done) | rfl
def f1 (p0 : Int32) : Int32 := (if (p0 &&& (3 : Int32)) = (0 : Int32) then (nar .byte (29 : Int32)) else (if (p0 &&& (3 : Int32)) = (1 : Int32) then (nar .byte (30 : Int32)) else (if (p0 &&& (3 : Int32)) = (2 : Int32) then (nar .byte (31 : Int32)) else (nar .byte ((p0 >>> ((2 : Int32) &&& 31)).toInt8.toInt32)))))
def Q1 (Z : State) (p0 : Int32) (h0 : Heap) (n0 : Nat) (v : Option Value) (h : Heap) (L : List Loc) : Prop := v = some (.int (f1 p0)) ∧ Fr n0 L ∧ h = h0
set_option maxRecDepth 65536 in
set_option maxHeartbeats 40000000 in
theorem rm1 (l : Launch) (Z : State) (a0 : Array Value) (hw : ∀ d ∈ tables_1, d.before a0 Z = true) (ws : List Jvm.Cond) (p0 : Int32) (h0 : Heap) (n0 : Nat) (Z0 : n0 ≤ h0.size) :
    MetFree l (⟨"com/example/leaderline/leaderline/Iso2709RecordIndexOfSeparatorPinLaw", "draw", "(I)B"⟩ : MethodName) (head1 (Jvm.Cond.code (⟨"com/example/leaderline/leaderline/Iso2709RecordIndexOfSeparatorPinLaw", "draw", "(I)B"⟩ : MethodName) method_2_code 2 (some .byte) :: ws) ({ frames := 0, cells := 0, slots := 0, locals := 0 } : Room)) (fun a U => a = #[(.int p0)] ∧ Z.Warmed39 U.vm ∧ U.heap = h0) (fun _ _ _ _ _ => True) (fun _ U o U' => ∃ v L, o = .returned v ∧ Q1 Z p0 h0 n0 v U'.heap L ∧ FrameEnd U o U' L ({ frames := 0, cells := 0, slots := 0, locals := 0 } : Room).cells ({ frames := 0, cells := 0, slots := 0, locals := 0 } : Room).slots) := by
  refine MetFree.of_bodySF (plainFor_of_name pn0) hisR ?_
  intro p e s m args below meth c s₁ Bd hml0 hP hK
  obtain ⟨rfl, hZ, hh⟩ := hP
  have hx := Bd.exec
  have hby := Bd.bytes
  have hml : c.maxLocals = 2 := hml0
  have hown : s.vm.findClass "com/example/leaderline/leaderline/Iso2709RecordIndexOfSeparatorPinLaw" = some m.cls := findClass_of_methodNamed Bd.named
  have hnm := (name_of_methodNamed Bd.named Bd.method).1
  have X0 : Stand p l e ({ frames := 0, cells := 0, slots := 0, locals := 0 } : Room) s m #[(.int p0)] below meth c s₁ [] 0 0 := Stand.of_body Bd
  have e0 : s₁.heap = h0 := by rw [← hh, Bd.state]; rfl
  have N0 := Fr.nil n0
  refine Goes.out (Q := fun o U' => ∃ v L, o = .returned v ∧ Q1 Z p0 h0 n0 v U'.heap L ∧ FrameEnd s o U' L ({ frames := 0, cells := 0, slots := 0, locals := 0 } : Room).cells ({ frames := 0, cells := 0, slots := 0, locals := 0 } : Room).slots) ?_
  refine Goes.step (S' := s₁.setTop (mkF m 0 #[.val (.int p0), .unset] [])) (fun _ k => castTop (ef1 m p0) k) ?_
  refine Goes.step (S' := s₁.setTop (mkF m 1 #[.val (.int p0), .unset] [(.int p0)])) (fun _ k => XS.iloadN X0.here hx rfl (hb hby d1_0) rfl  k) ?_
  refine Goes.step (S' := s₁.setTop (mkF m 2 #[.val (.int p0), .unset] [(.int (3 : Int32)), (.int p0)])) (fun _ k => XS.iconst X0.here hx rfl (hb hby d1_1) k) ?_
  refine Goes.step (S' := s₁.setTop (mkF m 3 #[.val (.int p0), .unset] [(.int (p0 &&& (3 : Int32)))])) (fun _ k => XS.iand X0.here hx rfl (hb hby d1_2) rfl k) ?_
  refine Goes.step (S' := s₁.setTop (mkF m 4 #[.val (.int p0), .val (.int (p0 &&& (3 : Int32)))] [])) (fun _ k => XS.istoreN X0.here hx rfl (hb hby d1_3) rfl (l' := #[.val (.int p0), .val (.int (p0 &&& (3 : Int32)))]) rfl k) ?_
  refine Goes.step (S' := s₁.setTop (mkF m 5 #[.val (.int p0), .val (.int (p0 &&& (3 : Int32)))] [(.int (p0 &&& (3 : Int32)))])) (fun _ k => XS.iloadN X0.here hx rfl (hb hby d1_4) rfl  k) ?_
  by_cases hc5_1 : (p0 &&& (3 : Int32)) = (0 : Int32)
  · refine Goes.step (S' := s₁.setTop (mkF m 8 #[.val (.int p0), .val (.int (p0 &&& (3 : Int32)))] [])) (fun _ k => XS.ifNo X0.here hx rfl (hb hby d1_5) rfl ((if0 _ _).trans (teq hc5_1).2) k) ?_
    refine Goes.step (S' := s₁.setTop (mkF m 10 #[.val (.int p0), .val (.int (p0 &&& (3 : Int32)))] [(.int (29 : Int32))])) (fun _ k => XS.bipush X0.here hx rfl (hb hby d1_8) k) ?_
    refine Goes.retN X0 hx Bd.notSynchronized (t := .byte) Bd.returns (by simp) (hb hby d1_10) (by decide) (by decide) ?_
    refine ⟨congrArg (fun z => some (Value.int z)) ?_, N0, e0⟩
    rw [f1, if_pos hc5_1]
    try rfl
  · refine Goes.step (S' := s₁.setTop (mkF m 11 #[.val (.int p0), .val (.int (p0 &&& (3 : Int32)))] [])) (fun _ k => XS.ifYes X0.here hx rfl (pc0 := 5) (pc' := 11) rfl (hb hby d1_5) rfl ((if0 _ _).trans (feq hc5_1).2) (by decide) (by decide) k) ?_
    refine Goes.step (S' := s₁.setTop (mkF m 12 #[.val (.int p0), .val (.int (p0 &&& (3 : Int32)))] [(.int (p0 &&& (3 : Int32)))])) (fun _ k => XS.iloadN X0.here hx rfl (hb hby d1_11) rfl  k) ?_
    refine Goes.step (S' := s₁.setTop (mkF m 13 #[.val (.int p0), .val (.int (p0 &&& (3 : Int32)))] [(.int (1 : Int32)), (.int (p0 &&& (3 : Int32)))])) (fun _ k => XS.iconst X0.here hx rfl (hb hby d1_12) k) ?_
    by_cases hc13_2 : (p0 &&& (3 : Int32)) = (1 : Int32)
    · refine Goes.step (S' := s₁.setTop (mkF m 16 #[.val (.int p0), .val (.int (p0 &&& (3 : Int32)))] [])) (fun _ k => XS.icmpNo X0.here hx rfl (hb hby d1_13) rfl (teq hc13_2).2 k) ?_
      refine Goes.step (S' := s₁.setTop (mkF m 18 #[.val (.int p0), .val (.int (p0 &&& (3 : Int32)))] [(.int (30 : Int32))])) (fun _ k => XS.bipush X0.here hx rfl (hb hby d1_16) k) ?_
      refine Goes.retN X0 hx Bd.notSynchronized (t := .byte) Bd.returns (by simp) (hb hby d1_18) (by decide) (by decide) ?_
      refine ⟨congrArg (fun z => some (Value.int z)) ?_, N0, e0⟩
      rw [f1, if_neg hc5_1, if_pos hc13_2]
      try rfl
    · refine Goes.step (S' := s₁.setTop (mkF m 19 #[.val (.int p0), .val (.int (p0 &&& (3 : Int32)))] [])) (fun _ k => XS.icmpYes X0.here hx rfl (pc0 := 13) (pc' := 19) rfl (hb hby d1_13) rfl (feq hc13_2).2 (by decide) (by decide) k) ?_
      refine Goes.step (S' := s₁.setTop (mkF m 20 #[.val (.int p0), .val (.int (p0 &&& (3 : Int32)))] [(.int (p0 &&& (3 : Int32)))])) (fun _ k => XS.iloadN X0.here hx rfl (hb hby d1_19) rfl  k) ?_
      refine Goes.step (S' := s₁.setTop (mkF m 21 #[.val (.int p0), .val (.int (p0 &&& (3 : Int32)))] [(.int (2 : Int32)), (.int (p0 &&& (3 : Int32)))])) (fun _ k => XS.iconst X0.here hx rfl (hb hby d1_20) k) ?_
      by_cases hc21_3 : (p0 &&& (3 : Int32)) = (2 : Int32)
      · refine Goes.step (S' := s₁.setTop (mkF m 24 #[.val (.int p0), .val (.int (p0 &&& (3 : Int32)))] [])) (fun _ k => XS.icmpNo X0.here hx rfl (hb hby d1_21) rfl (teq hc21_3).2 k) ?_
        refine Goes.step (S' := s₁.setTop (mkF m 26 #[.val (.int p0), .val (.int (p0 &&& (3 : Int32)))] [(.int (31 : Int32))])) (fun _ k => XS.bipush X0.here hx rfl (hb hby d1_24) k) ?_
        refine Goes.retN X0 hx Bd.notSynchronized (t := .byte) Bd.returns (by simp) (hb hby d1_26) (by decide) (by decide) ?_
        refine ⟨congrArg (fun z => some (Value.int z)) ?_, N0, e0⟩
        rw [f1, if_neg hc5_1, if_neg hc13_2, if_pos hc21_3]
        try rfl
      · refine Goes.step (S' := s₁.setTop (mkF m 27 #[.val (.int p0), .val (.int (p0 &&& (3 : Int32)))] [])) (fun _ k => XS.icmpYes X0.here hx rfl (pc0 := 21) (pc' := 27) rfl (hb hby d1_21) rfl (feq hc21_3).2 (by decide) (by decide) k) ?_
        refine Goes.step (S' := s₁.setTop (mkF m 28 #[.val (.int p0), .val (.int (p0 &&& (3 : Int32)))] [(.int p0)])) (fun _ k => XS.iloadN X0.here hx rfl (hb hby d1_27) rfl  k) ?_
        refine Goes.step (S' := s₁.setTop (mkF m 29 #[.val (.int p0), .val (.int (p0 &&& (3 : Int32)))] [(.int (2 : Int32)), (.int p0)])) (fun _ k => XS.iconst X0.here hx rfl (hb hby d1_28) k) ?_
        refine Goes.step (S' := s₁.setTop (mkF m 30 #[.val (.int p0), .val (.int (p0 &&& (3 : Int32)))] [(.int (p0 >>> ((2 : Int32) &&& 31)))])) (fun _ k => XS.ishr X0.here hx rfl (hb hby d1_29) rfl k) ?_
        refine Goes.step (S' := s₁.setTop (mkF m 31 #[.val (.int p0), .val (.int (p0 &&& (3 : Int32)))] [(.int ((p0 >>> ((2 : Int32) &&& 31)).toInt8.toInt32))])) (fun _ k => XS.i2b X0.here hx rfl (hb hby d1_30) rfl k) ?_
        refine Goes.retN X0 hx Bd.notSynchronized (t := .byte) Bd.returns (by simp) (hb hby d1_31) (by decide) (by decide) ?_
        refine ⟨congrArg (fun z => some (Value.int z)) ?_, N0, e0⟩
        rw [f1, if_neg hc5_1, if_neg hc13_2, if_neg hc21_3]
        try rfl
theorem d4_0 : decode method_3_code 0 = .ok (.iload_n 0, 1) := by decide +kernel
theorem d4_1 : decode method_3_code 1 = .ok (.sipush 255, 3) := by decide +kernel
theorem d4_4 : decode method_3_code 4 = .ok (.iand, 1) := by decide +kernel
theorem d4_5 : decode method_3_code 5 = .ok (.istore_n 2, 1) := by decide +kernel
theorem d4_6 : decode method_3_code 6 = .ok (.iload_n 2, 1) := by decide +kernel
theorem d4_7 : decode method_3_code 7 = .ok (.bipush 29, 2) := by decide +kernel
theorem d4_9 : decode method_3_code 9 = .ok (.if_icmp .lt 9, 3) := by decide +kernel
theorem d4_12 : decode method_3_code 12 = .ok (.iload_n 2, 1) := by decide +kernel
theorem d4_13 : decode method_3_code 13 = .ok (.bipush 31, 2) := by decide +kernel
theorem d4_15 : decode method_3_code 15 = .ok (.if_icmp .le 5, 3) := by decide +kernel
theorem d4_18 : decode method_3_code 18 = .ok (.iconst 0, 1) := by decide +kernel
theorem d4_19 : decode method_3_code 19 = .ok (.ireturn, 1) := by decide +kernel
theorem d4_20 : decode method_3_code 20 = .ok (.iload_n 1, 1) := by decide +kernel
theorem d4_21 : decode method_3_code 21 = .ok (.ifCond .ne 9, 3) := by decide +kernel
theorem d4_24 : decode method_3_code 24 = .ok (.iload_n 2, 1) := by decide +kernel
theorem d4_25 : decode method_3_code 25 = .ok (.bipush 31, 2) := by decide +kernel
theorem d4_27 : decode method_3_code 27 = .ok (.if_icmp .eq 7, 3) := by decide +kernel
theorem d4_30 : decode method_3_code 30 = .ok (.iconst 1, 1) := by decide +kernel
theorem d4_31 : decode method_3_code 31 = .ok (.goto 4, 3) := by decide +kernel
theorem d4_34 : decode method_3_code 34 = .ok (.iconst 0, 1) := by decide +kernel
theorem d4_35 : decode method_3_code 35 = .ok (.ireturn, 1) := by decide +kernel
theorem ef4 (m : MethodId) (p0 : Int32) (p1 : Int32) : entryFrame m #[(.int p0), (.int p1)] 3 = mkF m 0 #[.val (.int p0), .val (.int p1), .unset] [] := by first | (simp [entryFrame, mkF, argsToLocals, Value.category]; done) | rfl
def f4 (p0 : Int32) (p1 : Int32) : Int32 := (if (p0 &&& (255 : Int32)) < (29 : Int32) then (0 : Int32) else (if (31 : Int32) < (p0 &&& (255 : Int32)) then (0 : Int32) else (nar .boolean (if p1 = (0 : Int32) then (if (p0 &&& (255 : Int32)) = (31 : Int32) then (0 : Int32) else (1 : Int32)) else (1 : Int32)))))
def Q4 (Z : State) (p0 : Int32) (p1 : Int32) (h0 : Heap) (n0 : Nat) (v : Option Value) (h : Heap) (L : List Loc) : Prop := v = some (.int (f4 p0 p1)) ∧ Fr n0 L ∧ h = h0
set_option maxRecDepth 65536 in
set_option maxHeartbeats 40000000 in
theorem rm4 (l : Launch) (Z : State) (a0 : Array Value) (hw : ∀ d ∈ tables_1, d.before a0 Z = true) (ws : List Jvm.Cond) (p0 : Int32) (p1 : Int32) (h0 : Heap) (n0 : Nat) (Z0 : n0 ≤ h0.size) :
    MetFree l (⟨"com/example/leaderline/leaderline/Iso2709RecordIndexOfSeparatorPinLaw", "isSep", "(BZ)Z"⟩ : MethodName) (head1 (Jvm.Cond.code (⟨"com/example/leaderline/leaderline/Iso2709RecordIndexOfSeparatorPinLaw", "isSep", "(BZ)Z"⟩ : MethodName) method_3_code 3 (some .boolean) :: ws) ({ frames := 0, cells := 0, slots := 0, locals := 0 } : Room)) (fun a U => a = #[(.int p0), (.int p1)] ∧ Z.Warmed39 U.vm ∧ U.heap = h0) (fun _ _ _ _ _ => True) (fun _ U o U' => ∃ v L, o = .returned v ∧ Q4 Z p0 p1 h0 n0 v U'.heap L ∧ FrameEnd U o U' L ({ frames := 0, cells := 0, slots := 0, locals := 0 } : Room).cells ({ frames := 0, cells := 0, slots := 0, locals := 0 } : Room).slots) := by
  refine MetFree.of_bodySF (plainFor_of_name pn0) hisR ?_
  intro p e s m args below meth c s₁ Bd hml0 hP hK
  obtain ⟨rfl, hZ, hh⟩ := hP
  have hx := Bd.exec
  have hby := Bd.bytes
  have hml : c.maxLocals = 3 := hml0
  have hown : s.vm.findClass "com/example/leaderline/leaderline/Iso2709RecordIndexOfSeparatorPinLaw" = some m.cls := findClass_of_methodNamed Bd.named
  have hnm := (name_of_methodNamed Bd.named Bd.method).1
  have X0 : Stand p l e ({ frames := 0, cells := 0, slots := 0, locals := 0 } : Room) s m #[(.int p0), (.int p1)] below meth c s₁ [] 0 0 := Stand.of_body Bd
  have e0 : s₁.heap = h0 := by rw [← hh, Bd.state]; rfl
  have N0 := Fr.nil n0
  refine Goes.out (Q := fun o U' => ∃ v L, o = .returned v ∧ Q4 Z p0 p1 h0 n0 v U'.heap L ∧ FrameEnd s o U' L ({ frames := 0, cells := 0, slots := 0, locals := 0 } : Room).cells ({ frames := 0, cells := 0, slots := 0, locals := 0 } : Room).slots) ?_
  refine Goes.step (S' := s₁.setTop (mkF m 0 #[.val (.int p0), .val (.int p1), .unset] [])) (fun _ k => castTop (ef4 m p0 p1) k) ?_
  refine Goes.step (S' := s₁.setTop (mkF m 1 #[.val (.int p0), .val (.int p1), .unset] [(.int p0)])) (fun _ k => XS.iloadN X0.here hx rfl (hb hby d4_0) rfl  k) ?_
  refine Goes.step (S' := s₁.setTop (mkF m 4 #[.val (.int p0), .val (.int p1), .unset] [(.int (255 : Int32)), (.int p0)])) (fun _ k => XS.sipush X0.here hx rfl (hb hby d4_1) k) ?_
  refine Goes.step (S' := s₁.setTop (mkF m 5 #[.val (.int p0), .val (.int p1), .unset] [(.int (p0 &&& (255 : Int32)))])) (fun _ k => XS.iand X0.here hx rfl (hb hby d4_4) rfl k) ?_
  refine Goes.step (S' := s₁.setTop (mkF m 6 #[.val (.int p0), .val (.int p1), .val (.int (p0 &&& (255 : Int32)))] [])) (fun _ k => XS.istoreN X0.here hx rfl (hb hby d4_5) rfl (l' := #[.val (.int p0), .val (.int p1), .val (.int (p0 &&& (255 : Int32)))]) rfl k) ?_
  refine Goes.step (S' := s₁.setTop (mkF m 7 #[.val (.int p0), .val (.int p1), .val (.int (p0 &&& (255 : Int32)))] [(.int (p0 &&& (255 : Int32)))])) (fun _ k => XS.iloadN X0.here hx rfl (hb hby d4_6) rfl  k) ?_
  refine Goes.step (S' := s₁.setTop (mkF m 9 #[.val (.int p0), .val (.int p1), .val (.int (p0 &&& (255 : Int32)))] [(.int (29 : Int32)), (.int (p0 &&& (255 : Int32)))])) (fun _ k => XS.bipush X0.here hx rfl (hb hby d4_7) k) ?_
  by_cases hc9_1 : (p0 &&& (255 : Int32)) < (29 : Int32)
  · refine Goes.step (S' := s₁.setTop (mkF m 18 #[.val (.int p0), .val (.int p1), .val (.int (p0 &&& (255 : Int32)))] [])) (fun _ k => XS.icmpYes X0.here hx rfl (pc0 := 9) (pc' := 18) rfl (hb hby d4_9) rfl (tlt hc9_1).1 (by decide) (by decide) k) ?_
    refine Goes.step (S' := s₁.setTop (mkF m 19 #[.val (.int p0), .val (.int p1), .val (.int (p0 &&& (255 : Int32)))] [(.int (0 : Int32))])) (fun _ k => XS.iconst X0.here hx rfl (hb hby d4_18) k) ?_
    refine Goes.retN X0 hx Bd.notSynchronized (t := .boolean) Bd.returns (by simp) (hb hby d4_19) (by decide) (by decide) ?_
    refine ⟨congrArg (fun z => some (Value.int z)) ?_, N0, e0⟩
    rw [f4, if_pos hc9_1]
    try rfl
  · refine Goes.step (S' := s₁.setTop (mkF m 12 #[.val (.int p0), .val (.int p1), .val (.int (p0 &&& (255 : Int32)))] [])) (fun _ k => XS.icmpNo X0.here hx rfl (hb hby d4_9) rfl (flt hc9_1).1 k) ?_
    refine Goes.step (S' := s₁.setTop (mkF m 13 #[.val (.int p0), .val (.int p1), .val (.int (p0 &&& (255 : Int32)))] [(.int (p0 &&& (255 : Int32)))])) (fun _ k => XS.iloadN X0.here hx rfl (hb hby d4_12) rfl  k) ?_
    refine Goes.step (S' := s₁.setTop (mkF m 15 #[.val (.int p0), .val (.int p1), .val (.int (p0 &&& (255 : Int32)))] [(.int (31 : Int32)), (.int (p0 &&& (255 : Int32)))])) (fun _ k => XS.bipush X0.here hx rfl (hb hby d4_13) k) ?_
    by_cases hc15_2 : (31 : Int32) < (p0 &&& (255 : Int32))
    · refine Goes.step (S' := s₁.setTop (mkF m 18 #[.val (.int p0), .val (.int p1), .val (.int (p0 &&& (255 : Int32)))] [])) (fun _ k => XS.icmpNo X0.here hx rfl (hb hby d4_15) rfl (tlt hc15_2).2.2.2 k) ?_
      refine Goes.step (S' := s₁.setTop (mkF m 19 #[.val (.int p0), .val (.int p1), .val (.int (p0 &&& (255 : Int32)))] [(.int (0 : Int32))])) (fun _ k => XS.iconst X0.here hx rfl (hb hby d4_18) k) ?_
      refine Goes.retN X0 hx Bd.notSynchronized (t := .boolean) Bd.returns (by simp) (hb hby d4_19) (by decide) (by decide) ?_
      refine ⟨congrArg (fun z => some (Value.int z)) ?_, N0, e0⟩
      rw [f4, if_neg hc9_1, if_pos hc15_2]
      try rfl
    · refine Goes.step (S' := s₁.setTop (mkF m 20 #[.val (.int p0), .val (.int p1), .val (.int (p0 &&& (255 : Int32)))] [])) (fun _ k => XS.icmpYes X0.here hx rfl (pc0 := 15) (pc' := 20) rfl (hb hby d4_15) rfl (flt hc15_2).2.2.2 (by decide) (by decide) k) ?_
      refine Goes.step (S' := s₁.setTop (mkF m 21 #[.val (.int p0), .val (.int p1), .val (.int (p0 &&& (255 : Int32)))] [(.int p1)])) (fun _ k => XS.iloadN X0.here hx rfl (hb hby d4_20) rfl  k) ?_
      refine Goes.step (own_ite1 (T := s₁) (c := p1 = (0 : Int32)) (a0 := (if (p0 &&& (255 : Int32)) = (31 : Int32) then (0 : Int32) else (1 : Int32))) (b0 := (1 : Int32)) (F := fun z4_0 => (mkF m 35 #[.val (.int p0), .val (.int p1), .val (.int (p0 &&& (255 : Int32)))] [(.int z4_0)])) ?_ ?_) ?_
      · intro hc21_3 t k
        refine XS.ifNo X0.here hx rfl (hb hby d4_21) rfl ((if0 _ _).trans (teq hc21_3).2) ?_
        show Steps p.tables e below (s₁.setTop (mkF m 24 #[.val (.int p0), .val (.int p1), .val (.int (p0 &&& (255 : Int32)))] [])) _
        refine XS.iloadN X0.here hx rfl (hb hby d4_24) rfl  ?_
        show Steps p.tables e below (s₁.setTop (mkF m 25 #[.val (.int p0), .val (.int p1), .val (.int (p0 &&& (255 : Int32)))] [(.int (p0 &&& (255 : Int32)))])) _
        refine XS.bipush X0.here hx rfl (hb hby d4_25) ?_
        show Steps p.tables e below (s₁.setTop (mkF m 27 #[.val (.int p0), .val (.int p1), .val (.int (p0 &&& (255 : Int32)))] [(.int (31 : Int32)), (.int (p0 &&& (255 : Int32)))])) _
        refine own_ite1 (T := s₁) (c := (p0 &&& (255 : Int32)) = (31 : Int32)) (a0 := (0 : Int32)) (b0 := (1 : Int32)) (F := fun z4_0 => (mkF m 35 #[.val (.int p0), .val (.int p1), .val (.int (p0 &&& (255 : Int32)))] [(.int z4_0)])) ?_ ?_ _ ?_
        · intro hc27_4 t k
          refine XS.icmpYes X0.here hx rfl (pc0 := 27) (pc' := 34) rfl (hb hby d4_27) rfl (teq hc27_4).1 (by decide) (by decide) ?_
          show Steps p.tables e below (s₁.setTop (mkF m 34 #[.val (.int p0), .val (.int p1), .val (.int (p0 &&& (255 : Int32)))] [])) _
          refine XS.iconst X0.here hx rfl (hb hby d4_34) ?_
          show Steps p.tables e below (s₁.setTop (mkF m 35 #[.val (.int p0), .val (.int p1), .val (.int (p0 &&& (255 : Int32)))] [(.int (0 : Int32))])) _
          exact k
        · intro hc27_4 t k
          refine XS.icmpNo X0.here hx rfl (hb hby d4_27) rfl (feq hc27_4).1 ?_
          show Steps p.tables e below (s₁.setTop (mkF m 30 #[.val (.int p0), .val (.int p1), .val (.int (p0 &&& (255 : Int32)))] [])) _
          refine XS.iconst X0.here hx rfl (hb hby d4_30) ?_
          show Steps p.tables e below (s₁.setTop (mkF m 31 #[.val (.int p0), .val (.int p1), .val (.int (p0 &&& (255 : Int32)))] [(.int (1 : Int32))])) _
          refine XS.goto X0.here hx rfl (pc0 := 31) (pc' := 35) rfl (hb hby d4_31) (by decide) (by decide) ?_
          show Steps p.tables e below (s₁.setTop (mkF m 35 #[.val (.int p0), .val (.int p1), .val (.int (p0 &&& (255 : Int32)))] [(.int (1 : Int32))])) _
          exact k
        show Steps p.tables e below (s₁.setTop (mkF m 35 #[.val (.int p0), .val (.int p1), .val (.int (p0 &&& (255 : Int32)))] [(.int (if (p0 &&& (255 : Int32)) = (31 : Int32) then (0 : Int32) else (1 : Int32)))])) _
        exact k
      · intro hc21_3 t k
        refine XS.ifYes X0.here hx rfl (pc0 := 21) (pc' := 30) rfl (hb hby d4_21) rfl ((if0 _ _).trans (feq hc21_3).2) (by decide) (by decide) ?_
        show Steps p.tables e below (s₁.setTop (mkF m 30 #[.val (.int p0), .val (.int p1), .val (.int (p0 &&& (255 : Int32)))] [])) _
        refine XS.iconst X0.here hx rfl (hb hby d4_30) ?_
        show Steps p.tables e below (s₁.setTop (mkF m 31 #[.val (.int p0), .val (.int p1), .val (.int (p0 &&& (255 : Int32)))] [(.int (1 : Int32))])) _
        refine XS.goto X0.here hx rfl (pc0 := 31) (pc' := 35) rfl (hb hby d4_31) (by decide) (by decide) ?_
        show Steps p.tables e below (s₁.setTop (mkF m 35 #[.val (.int p0), .val (.int p1), .val (.int (p0 &&& (255 : Int32)))] [(.int (1 : Int32))])) _
        exact k
      show Goes p.tables e below _ (s₁.setTop (mkF m 35 #[.val (.int p0), .val (.int p1), .val (.int (p0 &&& (255 : Int32)))] [(.int (if p1 = (0 : Int32) then (if (p0 &&& (255 : Int32)) = (31 : Int32) then (0 : Int32) else (1 : Int32)) else (1 : Int32)))]))
      refine Goes.retN X0 hx Bd.notSynchronized (t := .boolean) Bd.returns (by simp) (hb hby d4_35) (by decide) (by decide) ?_
      refine ⟨congrArg (fun z => some (Value.int z)) ?_, N0, e0⟩
      rw [f4, if_neg hc9_1, if_neg hc15_2]
      try rfl
theorem pd0 : parseMethodDescriptor "(BZ)Z" = some ⟨[.byte, .boolean], some .boolean⟩ := by decide +kernel
theorem d2_0 : decode method_4_code 0 = .ok (.iload_n 2, 1) := by decide +kernel
theorem d2_1 : decode method_4_code 1 = .ok (.iload_n 1, 1) := by decide +kernel
theorem d2_2 : decode method_4_code 2 = .ok (.if_icmp .gt 23, 3) := by decide +kernel
theorem d2_5 : decode method_4_code 5 = .ok (.iload_n 1, 1) := by decide +kernel
theorem d2_6 : decode method_4_code 6 = .ok (.iload_n 3, 1) := by decide +kernel
theorem d2_7 : decode method_4_code 7 = .ok (.if_icmp .ge 18, 3) := by decide +kernel
theorem d2_10 : decode method_4_code 10 = .ok (.aload_n 0, 1) := by decide +kernel
theorem d2_11 : decode method_4_code 11 = .ok (.iload_n 1, 1) := by decide +kernel
theorem d2_12 : decode method_4_code 12 = .ok (.baload, 1) := by decide +kernel
theorem d2_13 : decode method_4_code 13 = .ok (.iload 4, 2) := by decide +kernel
theorem d2_15 : decode method_4_code 15 = .ok (.invokestatic 7, 3) := by decide +kernel
theorem d2_18 : decode method_4_code 18 = .ok (.ifCond .eq 7, 3) := by decide +kernel
theorem d2_21 : decode method_4_code 21 = .ok (.iconst 1, 1) := by decide +kernel
theorem d2_22 : decode method_4_code 22 = .ok (.goto 4, 3) := by decide +kernel
theorem d2_25 : decode method_4_code 25 = .ok (.iconst 0, 1) := by decide +kernel
theorem d2_26 : decode method_4_code 26 = .ok (.ireturn, 1) := by decide +kernel
theorem ef2 (m : MethodId) (u0 : Addr) (p1 : Int32) (p2 : Int32) (p3 : Int32) (p4 : Int32) : entryFrame m #[(.ref u0), (.int p1), (.int p2), (.int p3), (.int p4)] 5 = mkF m 0 #[.val (.ref u0), .val (.int p1), .val (.int p2), .val (.int p3), .val (.int p4)] [] := by first | (simp [entryFrame, mkF, argsToLocals, Value.category]; done) | rfl
def f2 (n_u0 : Int32) (vs_u0 : List Int32) (p1 : Int32) (p2 : Int32) (p3 : Int32) (p4 : Int32) : Int32 := (if p1 < p2 then (0 : Int32) else (if p1 < p3 then (nar .boolean (if (f4 (vs_u0.getD (p1).toNatClampNeg 0) p4) = (0 : Int32) then (0 : Int32) else (1 : Int32))) else (0 : Int32)))
theorem own_ix2_12 (n_u0 : Int32) (vs_u0 : List Int32) (hl_u0 : vs_u0.length = n_u0.toNatClampNeg) (hn_u0 : ¬ n_u0 < 0) (p1 : Int32) (p2 : Int32) (p3 : Int32) (p4 : Int32) (hB : ¬ p1 < 0 ∧ p1 < n_u0) (hc2_1 : ¬ (p1 < p2)) (hc7_2 : p1 < p3) : ¬ p1 < 0 ∧ p1 < n_u0 := by
  exact hB
def Q2 (Z : State) (u0 : Addr) (p1 : Int32) (p2 : Int32) (p3 : Int32) (p4 : Int32) (k_u0 : ClassId) (n_u0 : Int32) (vs_u0 : List Int32) (h0 : Heap) (n0 : Nat) (v : Option Value) (h : Heap) (L : List Loc) : Prop := v = some (.int (f2 n_u0 vs_u0 p1 p2 p3 p4)) ∧ Fr n0 L ∧ h = h0
set_option maxRecDepth 65536 in
set_option maxHeartbeats 40000000 in
theorem rm2 (l : Launch) (Z : State) (a0 : Array Value) (hw : ∀ d ∈ tables_1, d.before a0 Z = true) (ws : List Jvm.Cond) (u0 : Addr) (p1 : Int32) (p2 : Int32) (p3 : Int32) (p4 : Int32) (k_u0 : ClassId) (n_u0 : Int32) (vs_u0 : List Int32) (h0 : Heap) (n0 : Nat) (Z0 : n0 ≤ h0.size) (V_u0 : AI Z h0 u0 k_u0 .byte n_u0 vs_u0) (hB : ¬ p1 < 0 ∧ p1 < n_u0) :
    MetFree l (⟨"com/example/leaderline/leaderline/Iso2709RecordIndexOfSeparatorPinLaw", "hit", "([BIIIZ)Z"⟩ : MethodName) (head1 (Jvm.Cond.code (⟨"com/example/leaderline/leaderline/Iso2709RecordIndexOfSeparatorPinLaw", "hit", "([BIIIZ)Z"⟩ : MethodName) method_4_code 5 (some .boolean) :: ws) ({ frames := 1, cells := 0, slots := 0, locals := 14 } : Room)) (fun a U => a = #[(.ref u0), (.int p1), (.int p2), (.int p3), (.int p4)] ∧ Z.Warmed39 U.vm ∧ U.heap = h0) (fun _ _ _ _ _ => True) (fun _ U o U' => ∃ v L, o = .returned v ∧ Q2 Z u0 p1 p2 p3 p4 k_u0 n_u0 vs_u0 h0 n0 v U'.heap L ∧ FrameEnd U o U' L ({ frames := 1, cells := 0, slots := 0, locals := 14 } : Room).cells ({ frames := 1, cells := 0, slots := 0, locals := 14 } : Room).slots) := by
  refine MetFree.of_bodySF (plainFor_of_name pn0) hisR ?_
  intro p e s m args below meth c s₁ Bd hml0 hP hK
  obtain ⟨rfl, hZ, hh⟩ := hP
  have hx := Bd.exec
  have hby := Bd.bytes
  have hml : c.maxLocals = 5 := hml0
  have hown : s.vm.findClass "com/example/leaderline/leaderline/Iso2709RecordIndexOfSeparatorPinLaw" = some m.cls := findClass_of_methodNamed Bd.named
  have hnm := (name_of_methodNamed Bd.named Bd.method).1
  have X0 : Stand p l e ({ frames := 1, cells := 0, slots := 0, locals := 14 } : Room) s m #[(.ref u0), (.int p1), (.int p2), (.int p3), (.int p4)] below meth c s₁ [] 0 0 := Stand.of_body Bd
  have e0 : s₁.heap = h0 := by rw [← hh, Bd.state]; rfl
  have N0 := Fr.nil n0
  have hl_u0 : vs_u0.length = n_u0.toNatClampNeg := V_u0.2
  have hn_u0 : ¬ n_u0 < 0 := V_u0.nn
  refine Goes.out (Q := fun o U' => ∃ v L, o = .returned v ∧ Q2 Z u0 p1 p2 p3 p4 k_u0 n_u0 vs_u0 h0 n0 v U'.heap L ∧ FrameEnd s o U' L ({ frames := 1, cells := 0, slots := 0, locals := 14 } : Room).cells ({ frames := 1, cells := 0, slots := 0, locals := 14 } : Room).slots) ?_
  refine Goes.step (S' := s₁.setTop (mkF m 0 #[.val (.ref u0), .val (.int p1), .val (.int p2), .val (.int p3), .val (.int p4)] [])) (fun _ k => castTop (ef2 m u0 p1 p2 p3 p4) k) ?_
  refine Goes.step (S' := s₁.setTop (mkF m 1 #[.val (.ref u0), .val (.int p1), .val (.int p2), .val (.int p3), .val (.int p4)] [(.int p2)])) (fun _ k => XS.iloadN X0.here hx rfl (hb hby d2_0) rfl  k) ?_
  refine Goes.step (S' := s₁.setTop (mkF m 2 #[.val (.ref u0), .val (.int p1), .val (.int p2), .val (.int p3), .val (.int p4)] [(.int p1), (.int p2)])) (fun _ k => XS.iloadN X0.here hx rfl (hb hby d2_1) rfl  k) ?_
  by_cases hc2_1 : p1 < p2
  · refine Goes.step (S' := s₁.setTop (mkF m 25 #[.val (.ref u0), .val (.int p1), .val (.int p2), .val (.int p3), .val (.int p4)] [])) (fun _ k => XS.icmpYes X0.here hx rfl (pc0 := 2) (pc' := 25) rfl (hb hby d2_2) rfl (tlt hc2_1).2.2.1 (by decide) (by decide) k) ?_
    refine Goes.step (S' := s₁.setTop (mkF m 26 #[.val (.ref u0), .val (.int p1), .val (.int p2), .val (.int p3), .val (.int p4)] [(.int (0 : Int32))])) (fun _ k => XS.iconst X0.here hx rfl (hb hby d2_25) k) ?_
    refine Goes.retN X0 hx Bd.notSynchronized (t := .boolean) Bd.returns (by simp) (hb hby d2_26) (by decide) (by decide) ?_
    refine ⟨congrArg (fun z => some (Value.int z)) ?_, N0, e0⟩
    rw [f2, if_pos hc2_1]
    try rfl
  · refine Goes.step (S' := s₁.setTop (mkF m 5 #[.val (.ref u0), .val (.int p1), .val (.int p2), .val (.int p3), .val (.int p4)] [])) (fun _ k => XS.icmpNo X0.here hx rfl (hb hby d2_2) rfl (flt hc2_1).2.2.1 k) ?_
    refine Goes.step (S' := s₁.setTop (mkF m 6 #[.val (.ref u0), .val (.int p1), .val (.int p2), .val (.int p3), .val (.int p4)] [(.int p1)])) (fun _ k => XS.iloadN X0.here hx rfl (hb hby d2_5) rfl  k) ?_
    refine Goes.step (S' := s₁.setTop (mkF m 7 #[.val (.ref u0), .val (.int p1), .val (.int p2), .val (.int p3), .val (.int p4)] [(.int p3), (.int p1)])) (fun _ k => XS.iloadN X0.here hx rfl (hb hby d2_6) rfl  k) ?_
    by_cases hc7_2 : p1 < p3
    · refine Goes.step (S' := s₁.setTop (mkF m 10 #[.val (.ref u0), .val (.int p1), .val (.int p2), .val (.int p3), .val (.int p4)] [])) (fun _ k => XS.icmpNo X0.here hx rfl (hb hby d2_7) rfl (tlt hc7_2).2.1 k) ?_
      refine Goes.step (S' := s₁.setTop (mkF m 11 #[.val (.ref u0), .val (.int p1), .val (.int p2), .val (.int p3), .val (.int p4)] [(.ref u0)])) (fun _ k => XS.aloadN X0.here hx rfl (hb hby d2_10) rfl rfl k) ?_
      refine Goes.step (S' := s₁.setTop (mkF m 12 #[.val (.ref u0), .val (.int p1), .val (.int p2), .val (.int p3), .val (.int p4)] [(.int p1), (.ref u0)])) (fun _ k => XS.iloadN X0.here hx rfl (hb hby d2_11) rfl  k) ?_
      refine Goes.step (S' := s₁.setTop (mkF m 13 #[.val (.ref u0), .val (.int p1), .val (.int p2), .val (.int p3), .val (.int p4)] [(.int (vs_u0.getD (p1).toNatClampNeg 0))])) (fun _ k => own_baload X0 hx hZ e0 V_u0 (own_ix2_12 n_u0 vs_u0 hl_u0 hn_u0 p1 p2 p3 p4 hB hc2_1 hc7_2) (hb hby d2_12) _ k) ?_
      refine Goes.step (S' := s₁.setTop (mkF m 15 #[.val (.ref u0), .val (.int p1), .val (.int p2), .val (.int p3), .val (.int p4)] [(.int p4), (.int (vs_u0.getD (p1).toNatClampNeg 0))])) (fun _ k => XS.iload X0.here hx rfl (hb hby d2_13) rfl  k) ?_
      obtain ⟨_, _, ⟨T1, L1, k1, n1⟩, -, X1, ⟨Lc1, hQ1, l1, y1, z1⟩, st1⟩ := Jvm.LawKit.callS X0 hx (y := (⟨"com/example/leaderline/leaderline/Iso2709RecordIndexOfSeparatorPinLaw", "isSep", "(BZ)Z"⟩ : MethodName)) hown (mvT hZ (hw _ (List.mem_of_getElem? (i := 12) rfl))) (mvT hZ (hw _ (List.mem_of_getElem? (i := 13) rfl))) (mvT hZ (hw _ (List.mem_of_getElem? (i := 3) rfl))) (mvT hZ (hw _ (List.mem_of_getElem? (i := 14) rfl))) (by decide) (backOf (W := 0) (rm4 l Z a0 hw [] (vs_u0.getD (p1).toNatClampNeg 0) p4 h0 n0 Z0) hZ (hw _ (List.mem_of_getElem? (i := 14) rfl)) (hw _ (List.mem_of_getElem? (i := 3) rfl)) (by decide) (by decide)) (g := (mkF m 15 #[.val (.ref u0), .val (.int p1), .val (.int p2), .val (.int p3), .val (.int p4)] [(.int p4), (.int (vs_u0.getD (p1).toNatClampNeg 0))])) rfl (by rw [hml]; rfl) (argsL := [(.int (vs_u0.getD (p1).toNatClampNeg 0)), (.int p4)]) (rest := []) (lenOf pd0 rfl) rfl (by show 2 * 0 + _ ≤ _; exact Nat.le_of_eq rfl) (hb hby d2_15) (fun _ _ => ⟨rfl, e0, (by decide : 0 + 0 ≤ _), (by decide : 0 + 0 ≤ _)⟩)
      dsimp only [Pt.U, Pt.locs, Pt.cells, Pt.slots] at X1 l1 y1 z1 st1 hQ1
      subst l1 y1 z1
      obtain ⟨rfl, N1q, e1⟩ := hQ1
      have N2 := Fr.app N0 N1q
      refine Goes.step (S' := T1.setTop (mkF m 18 #[.val (.ref u0), .val (.int p1), .val (.int p2), .val (.int p3), .val (.int p4)] [(.int (f4 (vs_u0.getD (p1).toNatClampNeg 0) p4))])) st1 ?_
      refine Goes.step (own_ite1 (T := T1) (c := (f4 (vs_u0.getD (p1).toNatClampNeg 0) p4) = (0 : Int32)) (a0 := (0 : Int32)) (b0 := (1 : Int32)) (F := fun z3_0 => (mkF m 26 #[.val (.ref u0), .val (.int p1), .val (.int p2), .val (.int p3), .val (.int p4)] [(.int z3_0)])) ?_ ?_) ?_
      · intro hc18_3 t k
        refine XS.ifYes X1.here hx rfl (pc0 := 18) (pc' := 25) rfl (hb hby d2_18) rfl ((if0 _ _).trans (teq hc18_3).1) (by decide) (by decide) ?_
        show Steps p.tables e below (T1.setTop (mkF m 25 #[.val (.ref u0), .val (.int p1), .val (.int p2), .val (.int p3), .val (.int p4)] [])) _
        refine XS.iconst X1.here hx rfl (hb hby d2_25) ?_
        show Steps p.tables e below (T1.setTop (mkF m 26 #[.val (.ref u0), .val (.int p1), .val (.int p2), .val (.int p3), .val (.int p4)] [(.int (0 : Int32))])) _
        exact k
      · intro hc18_3 t k
        refine XS.ifNo X1.here hx rfl (hb hby d2_18) rfl ((if0 _ _).trans (feq hc18_3).1) ?_
        show Steps p.tables e below (T1.setTop (mkF m 21 #[.val (.ref u0), .val (.int p1), .val (.int p2), .val (.int p3), .val (.int p4)] [])) _
        refine XS.iconst X1.here hx rfl (hb hby d2_21) ?_
        show Steps p.tables e below (T1.setTop (mkF m 22 #[.val (.ref u0), .val (.int p1), .val (.int p2), .val (.int p3), .val (.int p4)] [(.int (1 : Int32))])) _
        refine XS.goto X1.here hx rfl (pc0 := 22) (pc' := 26) rfl (hb hby d2_22) (by decide) (by decide) ?_
        show Steps p.tables e below (T1.setTop (mkF m 26 #[.val (.ref u0), .val (.int p1), .val (.int p2), .val (.int p3), .val (.int p4)] [(.int (1 : Int32))])) _
        exact k
      show Goes p.tables e below _ (T1.setTop (mkF m 26 #[.val (.ref u0), .val (.int p1), .val (.int p2), .val (.int p3), .val (.int p4)] [(.int (if (f4 (vs_u0.getD (p1).toNatClampNeg 0) p4) = (0 : Int32) then (0 : Int32) else (1 : Int32)))]))
      refine Goes.retN X1 hx Bd.notSynchronized (t := .boolean) Bd.returns (by simp) (hb hby d2_26) (by decide) (by decide) ?_
      refine ⟨congrArg (fun z => some (Value.int z)) ?_, N2, e1⟩
      rw [f2, if_neg hc2_1, if_pos hc7_2]
      try rfl
    · refine Goes.step (S' := s₁.setTop (mkF m 25 #[.val (.ref u0), .val (.int p1), .val (.int p2), .val (.int p3), .val (.int p4)] [])) (fun _ k => XS.icmpYes X0.here hx rfl (pc0 := 7) (pc' := 25) rfl (hb hby d2_7) rfl (flt hc7_2).2.1 (by decide) (by decide) k) ?_
      refine Goes.step (S' := s₁.setTop (mkF m 26 #[.val (.ref u0), .val (.int p1), .val (.int p2), .val (.int p3), .val (.int p4)] [(.int (0 : Int32))])) (fun _ k => XS.iconst X0.here hx rfl (hb hby d2_25) k) ?_
      refine Goes.retN X0 hx Bd.notSynchronized (t := .boolean) Bd.returns (by simp) (hb hby d2_26) (by decide) (by decide) ?_
      refine ⟨congrArg (fun z => some (Value.int z)) ?_, N0, e0⟩
      rw [f2, if_neg hc2_1, if_neg hc7_2]
      try rfl
theorem d3_0 : decode prog_5_method_21_code 0 = .ok (.iload_n 1, 1) := by decide +kernel
theorem d3_1 : decode prog_5_method_21_code 1 = .ok (.istore 4, 2) := by decide +kernel
theorem d3_3 : decode prog_5_method_21_code 3 = .ok (.iload 4, 2) := by decide +kernel
theorem d3_5 : decode prog_5_method_21_code 5 = .ok (.iload_n 2, 1) := by decide +kernel
theorem d3_6 : decode prog_5_method_21_code 6 = .ok (.if_icmp .ge 43, 3) := by decide +kernel
theorem d3_9 : decode prog_5_method_21_code 9 = .ok (.aload_n 0, 1) := by decide +kernel
theorem d3_10 : decode prog_5_method_21_code 10 = .ok (.iload 4, 2) := by decide +kernel
theorem d3_12 : decode prog_5_method_21_code 12 = .ok (.baload, 1) := by decide +kernel
theorem d3_13 : decode prog_5_method_21_code 13 = .ok (.istore 5, 2) := by decide +kernel
theorem d3_15 : decode prog_5_method_21_code 15 = .ok (.iload 5, 2) := by decide +kernel
theorem d3_17 : decode prog_5_method_21_code 17 = .ok (.bipush 29, 2) := by decide +kernel
theorem d3_19 : decode prog_5_method_21_code 19 = .ok (.if_icmp .eq 21, 3) := by decide +kernel
theorem d3_22 : decode prog_5_method_21_code 22 = .ok (.iload 5, 2) := by decide +kernel
theorem d3_24 : decode prog_5_method_21_code 24 = .ok (.bipush 30, 2) := by decide +kernel
theorem d3_26 : decode prog_5_method_21_code 26 = .ok (.if_icmp .eq 14, 3) := by decide +kernel
theorem d3_29 : decode prog_5_method_21_code 29 = .ok (.iload_n 3, 1) := by decide +kernel
theorem d3_30 : decode prog_5_method_21_code 30 = .ok (.ifCond .eq 13, 3) := by decide +kernel
theorem d3_33 : decode prog_5_method_21_code 33 = .ok (.iload 5, 2) := by decide +kernel
theorem d3_35 : decode prog_5_method_21_code 35 = .ok (.bipush 31, 2) := by decide +kernel
theorem d3_37 : decode prog_5_method_21_code 37 = .ok (.if_icmp .ne 6, 3) := by decide +kernel
theorem d3_40 : decode prog_5_method_21_code 40 = .ok (.iload 4, 2) := by decide +kernel
theorem d3_42 : decode prog_5_method_21_code 42 = .ok (.ireturn, 1) := by decide +kernel
theorem d3_43 : decode prog_5_method_21_code 43 = .ok (.iinc 4 1, 3) := by decide +kernel
theorem d3_46 : decode prog_5_method_21_code 46 = .ok (.goto (-43), 3) := by decide +kernel
theorem d3_49 : decode prog_5_method_21_code 49 = .ok (.iconst (-1), 1) := by decide +kernel
theorem d3_50 : decode prog_5_method_21_code 50 = .ok (.ireturn, 1) := by decide +kernel
theorem pn1 : plainName "com/example/leaderline/leaderline/Iso2709Record" = true := by first | (simp [plainName, overriddenIn]; done) | decide +kernel
theorem ef3 (m : MethodId) (u0 : Addr) (p1 : Int32) (p2 : Int32) (p3 : Int32) : entryFrame m #[(.ref u0), (.int p1), (.int p2), (.int p3)] 6 = mkF m 0 #[.val (.ref u0), .val (.int p1), .val (.int p2), .val (.int p3), .unset, .unset] [] := by first | (simp [entryFrame, mkF, argsToLocals, Value.category]; done) | rfl
def f3 (n_u0 : Int32) (vs_u0 : List Int32) (p1 : Int32) (p2 : Int32) (p3 : Int32) : Int32 := (if p1 < p2 then (if (vs_u0.getD (p1).toNatClampNeg 0) = (29 : Int32) then p1 else (if (vs_u0.getD (p1).toNatClampNeg 0) = (30 : Int32) then p1 else (if p3 = (0 : Int32) then (if (p1 + (1 : Int32)) < p2 then (if (vs_u0.getD ((p1 + (1 : Int32))).toNatClampNeg 0) = (29 : Int32) then (p1 + (1 : Int32)) else (if (vs_u0.getD ((p1 + (1 : Int32))).toNatClampNeg 0) = (30 : Int32) then (p1 + (1 : Int32)) else (if ((p1 + (1 : Int32)) + (1 : Int32)) < p2 then (if (vs_u0.getD (((p1 + (1 : Int32)) + (1 : Int32))).toNatClampNeg 0) = (29 : Int32) then ((p1 + (1 : Int32)) + (1 : Int32)) else (if (vs_u0.getD (((p1 + (1 : Int32)) + (1 : Int32))).toNatClampNeg 0) = (30 : Int32) then ((p1 + (1 : Int32)) + (1 : Int32)) else (if (((p1 + (1 : Int32)) + (1 : Int32)) + (1 : Int32)) < p2 then (if (vs_u0.getD ((((p1 + (1 : Int32)) + (1 : Int32)) + (1 : Int32))).toNatClampNeg 0) = (29 : Int32) then (((p1 + (1 : Int32)) + (1 : Int32)) + (1 : Int32)) else (if (vs_u0.getD ((((p1 + (1 : Int32)) + (1 : Int32)) + (1 : Int32))).toNatClampNeg 0) = (30 : Int32) then (((p1 + (1 : Int32)) + (1 : Int32)) + (1 : Int32)) else (-1 : Int32))) else (-1 : Int32)))) else (-1 : Int32)))) else (-1 : Int32)) else (if (vs_u0.getD (p1).toNatClampNeg 0) = (31 : Int32) then p1 else (if (p1 + (1 : Int32)) < p2 then (if (vs_u0.getD ((p1 + (1 : Int32))).toNatClampNeg 0) = (29 : Int32) then (p1 + (1 : Int32)) else (if (vs_u0.getD ((p1 + (1 : Int32))).toNatClampNeg 0) = (30 : Int32) then (p1 + (1 : Int32)) else (if (vs_u0.getD ((p1 + (1 : Int32))).toNatClampNeg 0) = (31 : Int32) then (p1 + (1 : Int32)) else (if ((p1 + (1 : Int32)) + (1 : Int32)) < p2 then (if (vs_u0.getD (((p1 + (1 : Int32)) + (1 : Int32))).toNatClampNeg 0) = (29 : Int32) then ((p1 + (1 : Int32)) + (1 : Int32)) else (if (vs_u0.getD (((p1 + (1 : Int32)) + (1 : Int32))).toNatClampNeg 0) = (30 : Int32) then ((p1 + (1 : Int32)) + (1 : Int32)) else (if (vs_u0.getD (((p1 + (1 : Int32)) + (1 : Int32))).toNatClampNeg 0) = (31 : Int32) then ((p1 + (1 : Int32)) + (1 : Int32)) else (if (((p1 + (1 : Int32)) + (1 : Int32)) + (1 : Int32)) < p2 then (if (vs_u0.getD ((((p1 + (1 : Int32)) + (1 : Int32)) + (1 : Int32))).toNatClampNeg 0) = (29 : Int32) then (((p1 + (1 : Int32)) + (1 : Int32)) + (1 : Int32)) else (if (vs_u0.getD ((((p1 + (1 : Int32)) + (1 : Int32)) + (1 : Int32))).toNatClampNeg 0) = (30 : Int32) then (((p1 + (1 : Int32)) + (1 : Int32)) + (1 : Int32)) else (if (vs_u0.getD ((((p1 + (1 : Int32)) + (1 : Int32)) + (1 : Int32))).toNatClampNeg 0) = (31 : Int32) then (((p1 + (1 : Int32)) + (1 : Int32)) + (1 : Int32)) else (-1 : Int32)))) else (-1 : Int32))))) else (-1 : Int32))))) else (-1 : Int32)))))) else (-1 : Int32))
theorem own_ix3_12 (n_u0 : Int32) (vs_u0 : List Int32) (hl_u0 : vs_u0.length = n_u0.toNatClampNeg) (hn_u0 : ¬ n_u0 < 0) (p1 : Int32) (p2 : Int32) (p3 : Int32) (hB : ¬ p1 < 0) (hb2 : ¬ n_u0 < p2) (hb3 : n_u0 = (4 : Int32)) (hc6_1 : p1 < p2) : ¬ p1 < 0 ∧ p1 < n_u0 := by
  have a1 := c_iadd p1 1
  have a2 := c_iadd (p1 + 1) 1
  have a3 := c_iadd (p1 + 1 + 1) 1
  have a4 := c_iadd (p1 + 1 + 1 + 1) 1
  have r1 := rng32 (p1 + 1)
  have r2 := rng32 (p1 + 1 + 1)
  have r3 := rng32 (p1 + 1 + 1 + 1)
  have r4 := rng32 (p1 + 1 + 1 + 1 + 1)
  subst hb3
  simp only [Int32.lt_iff_toInt_lt, Int32.reduceToInt] at *
  omega
theorem own_ix3_12_2 (n_u0 : Int32) (vs_u0 : List Int32) (hl_u0 : vs_u0.length = n_u0.toNatClampNeg) (hn_u0 : ¬ n_u0 < 0) (p1 : Int32) (p2 : Int32) (p3 : Int32) (hB : ¬ p1 < 0) (hb2 : ¬ n_u0 < p2) (hb3 : n_u0 = (4 : Int32)) (hc6_1 : p1 < p2) (hc19_2 : ¬ ((vs_u0.getD (p1).toNatClampNeg 0) = (29 : Int32))) (hc26_3 : ¬ ((vs_u0.getD (p1).toNatClampNeg 0) = (30 : Int32))) (hc30_4 : p3 = (0 : Int32)) (hc6_5 : (p1 + (1 : Int32)) < p2) : ¬ (p1 + (1 : Int32)) < 0 ∧ (p1 + (1 : Int32)) < n_u0 := by
  have a1 := c_iadd p1 1
  have a2 := c_iadd (p1 + 1) 1
  have a3 := c_iadd (p1 + 1 + 1) 1
  have a4 := c_iadd (p1 + 1 + 1 + 1) 1
  have r1 := rng32 (p1 + 1)
  have r2 := rng32 (p1 + 1 + 1)
  have r3 := rng32 (p1 + 1 + 1 + 1)
  have r4 := rng32 (p1 + 1 + 1 + 1 + 1)
  subst hb3
  simp only [Int32.lt_iff_toInt_lt, Int32.reduceToInt] at *
  omega
theorem own_ix3_12_3 (n_u0 : Int32) (vs_u0 : List Int32) (hl_u0 : vs_u0.length = n_u0.toNatClampNeg) (hn_u0 : ¬ n_u0 < 0) (p1 : Int32) (p2 : Int32) (p3 : Int32) (hB : ¬ p1 < 0) (hb2 : ¬ n_u0 < p2) (hb3 : n_u0 = (4 : Int32)) (hc6_1 : p1 < p2) (hc19_2 : ¬ ((vs_u0.getD (p1).toNatClampNeg 0) = (29 : Int32))) (hc26_3 : ¬ ((vs_u0.getD (p1).toNatClampNeg 0) = (30 : Int32))) (hc30_4 : p3 = (0 : Int32)) (hc6_5 : (p1 + (1 : Int32)) < p2) (hc19_6 : ¬ ((vs_u0.getD ((p1 + (1 : Int32))).toNatClampNeg 0) = (29 : Int32))) (hc26_7 : ¬ ((vs_u0.getD ((p1 + (1 : Int32))).toNatClampNeg 0) = (30 : Int32))) (hc6_8 : ((p1 + (1 : Int32)) + (1 : Int32)) < p2) : ¬ ((p1 + (1 : Int32)) + (1 : Int32)) < 0 ∧ ((p1 + (1 : Int32)) + (1 : Int32)) < n_u0 := by
  have a1 := c_iadd p1 1
  have a2 := c_iadd (p1 + 1) 1
  have a3 := c_iadd (p1 + 1 + 1) 1
  have a4 := c_iadd (p1 + 1 + 1 + 1) 1
  have r1 := rng32 (p1 + 1)
  have r2 := rng32 (p1 + 1 + 1)
  have r3 := rng32 (p1 + 1 + 1 + 1)
  have r4 := rng32 (p1 + 1 + 1 + 1 + 1)
  subst hb3
  simp only [Int32.lt_iff_toInt_lt, Int32.reduceToInt] at *
  omega
theorem own_ix3_12_4 (n_u0 : Int32) (vs_u0 : List Int32) (hl_u0 : vs_u0.length = n_u0.toNatClampNeg) (hn_u0 : ¬ n_u0 < 0) (p1 : Int32) (p2 : Int32) (p3 : Int32) (hB : ¬ p1 < 0) (hb2 : ¬ n_u0 < p2) (hb3 : n_u0 = (4 : Int32)) (hc6_1 : p1 < p2) (hc19_2 : ¬ ((vs_u0.getD (p1).toNatClampNeg 0) = (29 : Int32))) (hc26_3 : ¬ ((vs_u0.getD (p1).toNatClampNeg 0) = (30 : Int32))) (hc30_4 : p3 = (0 : Int32)) (hc6_5 : (p1 + (1 : Int32)) < p2) (hc19_6 : ¬ ((vs_u0.getD ((p1 + (1 : Int32))).toNatClampNeg 0) = (29 : Int32))) (hc26_7 : ¬ ((vs_u0.getD ((p1 + (1 : Int32))).toNatClampNeg 0) = (30 : Int32))) (hc6_8 : ((p1 + (1 : Int32)) + (1 : Int32)) < p2) (hc19_9 : ¬ ((vs_u0.getD (((p1 + (1 : Int32)) + (1 : Int32))).toNatClampNeg 0) = (29 : Int32))) (hc26_10 : ¬ ((vs_u0.getD (((p1 + (1 : Int32)) + (1 : Int32))).toNatClampNeg 0) = (30 : Int32))) (hc6_11 : (((p1 + (1 : Int32)) + (1 : Int32)) + (1 : Int32)) < p2) : ¬ (((p1 + (1 : Int32)) + (1 : Int32)) + (1 : Int32)) < 0 ∧ (((p1 + (1 : Int32)) + (1 : Int32)) + (1 : Int32)) < n_u0 := by
  have a1 := c_iadd p1 1
  have a2 := c_iadd (p1 + 1) 1
  have a3 := c_iadd (p1 + 1 + 1) 1
  have a4 := c_iadd (p1 + 1 + 1 + 1) 1
  have r1 := rng32 (p1 + 1)
  have r2 := rng32 (p1 + 1 + 1)
  have r3 := rng32 (p1 + 1 + 1 + 1)
  have r4 := rng32 (p1 + 1 + 1 + 1 + 1)
  subst hb3
  simp only [Int32.lt_iff_toInt_lt, Int32.reduceToInt] at *
  omega
theorem own_hc3_6 (n_u0 : Int32) (vs_u0 : List Int32) (hl_u0 : vs_u0.length = n_u0.toNatClampNeg) (hn_u0 : ¬ n_u0 < 0) (p1 : Int32) (p2 : Int32) (p3 : Int32) (hB : ¬ p1 < 0) (hb2 : ¬ n_u0 < p2) (hb3 : n_u0 = (4 : Int32)) (hc6_1 : p1 < p2) (hc19_2 : ¬ ((vs_u0.getD (p1).toNatClampNeg 0) = (29 : Int32))) (hc26_3 : ¬ ((vs_u0.getD (p1).toNatClampNeg 0) = (30 : Int32))) (hc30_4 : p3 = (0 : Int32)) (hc6_5 : (p1 + (1 : Int32)) < p2) (hc19_6 : ¬ ((vs_u0.getD ((p1 + (1 : Int32))).toNatClampNeg 0) = (29 : Int32))) (hc26_7 : ¬ ((vs_u0.getD ((p1 + (1 : Int32))).toNatClampNeg 0) = (30 : Int32))) (hc6_8 : ((p1 + (1 : Int32)) + (1 : Int32)) < p2) (hc19_9 : ¬ ((vs_u0.getD (((p1 + (1 : Int32)) + (1 : Int32))).toNatClampNeg 0) = (29 : Int32))) (hc26_10 : ¬ ((vs_u0.getD (((p1 + (1 : Int32)) + (1 : Int32))).toNatClampNeg 0) = (30 : Int32))) (hc6_11 : (((p1 + (1 : Int32)) + (1 : Int32)) + (1 : Int32)) < p2) (hc19_12 : ¬ ((vs_u0.getD ((((p1 + (1 : Int32)) + (1 : Int32)) + (1 : Int32))).toNatClampNeg 0) = (29 : Int32))) (hc26_13 : ¬ ((vs_u0.getD ((((p1 + (1 : Int32)) + (1 : Int32)) + (1 : Int32))).toNatClampNeg 0) = (30 : Int32))) : ¬ (((((p1 + (1 : Int32)) + (1 : Int32)) + (1 : Int32)) + (1 : Int32)) < p2) := by
  have a1 := c_iadd p1 1
  have a2 := c_iadd (p1 + 1) 1
  have a3 := c_iadd (p1 + 1 + 1) 1
  have a4 := c_iadd (p1 + 1 + 1 + 1) 1
  have r1 := rng32 (p1 + 1)
  have r2 := rng32 (p1 + 1 + 1)
  have r3 := rng32 (p1 + 1 + 1 + 1)
  have r4 := rng32 (p1 + 1 + 1 + 1 + 1)
  subst hb3
  simp only [Int32.lt_iff_toInt_lt, Int32.reduceToInt] at *
  omega
theorem own_ix3_12_5 (n_u0 : Int32) (vs_u0 : List Int32) (hl_u0 : vs_u0.length = n_u0.toNatClampNeg) (hn_u0 : ¬ n_u0 < 0) (p1 : Int32) (p2 : Int32) (p3 : Int32) (hB : ¬ p1 < 0) (hb2 : ¬ n_u0 < p2) (hb3 : n_u0 = (4 : Int32)) (hc6_1 : p1 < p2) (hc19_2 : ¬ ((vs_u0.getD (p1).toNatClampNeg 0) = (29 : Int32))) (hc26_3 : ¬ ((vs_u0.getD (p1).toNatClampNeg 0) = (30 : Int32))) (hc30_4 : ¬ (p3 = (0 : Int32))) (hc37_14 : ¬ ((vs_u0.getD (p1).toNatClampNeg 0) = (31 : Int32))) (hc6_15 : (p1 + (1 : Int32)) < p2) : ¬ (p1 + (1 : Int32)) < 0 ∧ (p1 + (1 : Int32)) < n_u0 := by
  have a1 := c_iadd p1 1
  have a2 := c_iadd (p1 + 1) 1
  have a3 := c_iadd (p1 + 1 + 1) 1
  have a4 := c_iadd (p1 + 1 + 1 + 1) 1
  have r1 := rng32 (p1 + 1)
  have r2 := rng32 (p1 + 1 + 1)
  have r3 := rng32 (p1 + 1 + 1 + 1)
  have r4 := rng32 (p1 + 1 + 1 + 1 + 1)
  subst hb3
  simp only [Int32.lt_iff_toInt_lt, Int32.reduceToInt] at *
  omega
theorem own_ix3_12_6 (n_u0 : Int32) (vs_u0 : List Int32) (hl_u0 : vs_u0.length = n_u0.toNatClampNeg) (hn_u0 : ¬ n_u0 < 0) (p1 : Int32) (p2 : Int32) (p3 : Int32) (hB : ¬ p1 < 0) (hb2 : ¬ n_u0 < p2) (hb3 : n_u0 = (4 : Int32)) (hc6_1 : p1 < p2) (hc19_2 : ¬ ((vs_u0.getD (p1).toNatClampNeg 0) = (29 : Int32))) (hc26_3 : ¬ ((vs_u0.getD (p1).toNatClampNeg 0) = (30 : Int32))) (hc30_4 : ¬ (p3 = (0 : Int32))) (hc37_14 : ¬ ((vs_u0.getD (p1).toNatClampNeg 0) = (31 : Int32))) (hc6_15 : (p1 + (1 : Int32)) < p2) (hc19_16 : ¬ ((vs_u0.getD ((p1 + (1 : Int32))).toNatClampNeg 0) = (29 : Int32))) (hc26_17 : ¬ ((vs_u0.getD ((p1 + (1 : Int32))).toNatClampNeg 0) = (30 : Int32))) (hc37_18 : ¬ ((vs_u0.getD ((p1 + (1 : Int32))).toNatClampNeg 0) = (31 : Int32))) (hc6_19 : ((p1 + (1 : Int32)) + (1 : Int32)) < p2) : ¬ ((p1 + (1 : Int32)) + (1 : Int32)) < 0 ∧ ((p1 + (1 : Int32)) + (1 : Int32)) < n_u0 := by
  have a1 := c_iadd p1 1
  have a2 := c_iadd (p1 + 1) 1
  have a3 := c_iadd (p1 + 1 + 1) 1
  have a4 := c_iadd (p1 + 1 + 1 + 1) 1
  have r1 := rng32 (p1 + 1)
  have r2 := rng32 (p1 + 1 + 1)
  have r3 := rng32 (p1 + 1 + 1 + 1)
  have r4 := rng32 (p1 + 1 + 1 + 1 + 1)
  subst hb3
  simp only [Int32.lt_iff_toInt_lt, Int32.reduceToInt] at *
  omega
theorem own_ix3_12_7 (n_u0 : Int32) (vs_u0 : List Int32) (hl_u0 : vs_u0.length = n_u0.toNatClampNeg) (hn_u0 : ¬ n_u0 < 0) (p1 : Int32) (p2 : Int32) (p3 : Int32) (hB : ¬ p1 < 0) (hb2 : ¬ n_u0 < p2) (hb3 : n_u0 = (4 : Int32)) (hc6_1 : p1 < p2) (hc19_2 : ¬ ((vs_u0.getD (p1).toNatClampNeg 0) = (29 : Int32))) (hc26_3 : ¬ ((vs_u0.getD (p1).toNatClampNeg 0) = (30 : Int32))) (hc30_4 : ¬ (p3 = (0 : Int32))) (hc37_14 : ¬ ((vs_u0.getD (p1).toNatClampNeg 0) = (31 : Int32))) (hc6_15 : (p1 + (1 : Int32)) < p2) (hc19_16 : ¬ ((vs_u0.getD ((p1 + (1 : Int32))).toNatClampNeg 0) = (29 : Int32))) (hc26_17 : ¬ ((vs_u0.getD ((p1 + (1 : Int32))).toNatClampNeg 0) = (30 : Int32))) (hc37_18 : ¬ ((vs_u0.getD ((p1 + (1 : Int32))).toNatClampNeg 0) = (31 : Int32))) (hc6_19 : ((p1 + (1 : Int32)) + (1 : Int32)) < p2) (hc19_20 : ¬ ((vs_u0.getD (((p1 + (1 : Int32)) + (1 : Int32))).toNatClampNeg 0) = (29 : Int32))) (hc26_21 : ¬ ((vs_u0.getD (((p1 + (1 : Int32)) + (1 : Int32))).toNatClampNeg 0) = (30 : Int32))) (hc37_22 : ¬ ((vs_u0.getD (((p1 + (1 : Int32)) + (1 : Int32))).toNatClampNeg 0) = (31 : Int32))) (hc6_23 : (((p1 + (1 : Int32)) + (1 : Int32)) + (1 : Int32)) < p2) : ¬ (((p1 + (1 : Int32)) + (1 : Int32)) + (1 : Int32)) < 0 ∧ (((p1 + (1 : Int32)) + (1 : Int32)) + (1 : Int32)) < n_u0 := by
  have a1 := c_iadd p1 1
  have a2 := c_iadd (p1 + 1) 1
  have a3 := c_iadd (p1 + 1 + 1) 1
  have a4 := c_iadd (p1 + 1 + 1 + 1) 1
  have r1 := rng32 (p1 + 1)
  have r2 := rng32 (p1 + 1 + 1)
  have r3 := rng32 (p1 + 1 + 1 + 1)
  have r4 := rng32 (p1 + 1 + 1 + 1 + 1)
  subst hb3
  simp only [Int32.lt_iff_toInt_lt, Int32.reduceToInt] at *
  omega
theorem own_hc3_6_2 (n_u0 : Int32) (vs_u0 : List Int32) (hl_u0 : vs_u0.length = n_u0.toNatClampNeg) (hn_u0 : ¬ n_u0 < 0) (p1 : Int32) (p2 : Int32) (p3 : Int32) (hB : ¬ p1 < 0) (hb2 : ¬ n_u0 < p2) (hb3 : n_u0 = (4 : Int32)) (hc6_1 : p1 < p2) (hc19_2 : ¬ ((vs_u0.getD (p1).toNatClampNeg 0) = (29 : Int32))) (hc26_3 : ¬ ((vs_u0.getD (p1).toNatClampNeg 0) = (30 : Int32))) (hc30_4 : ¬ (p3 = (0 : Int32))) (hc37_14 : ¬ ((vs_u0.getD (p1).toNatClampNeg 0) = (31 : Int32))) (hc6_15 : (p1 + (1 : Int32)) < p2) (hc19_16 : ¬ ((vs_u0.getD ((p1 + (1 : Int32))).toNatClampNeg 0) = (29 : Int32))) (hc26_17 : ¬ ((vs_u0.getD ((p1 + (1 : Int32))).toNatClampNeg 0) = (30 : Int32))) (hc37_18 : ¬ ((vs_u0.getD ((p1 + (1 : Int32))).toNatClampNeg 0) = (31 : Int32))) (hc6_19 : ((p1 + (1 : Int32)) + (1 : Int32)) < p2) (hc19_20 : ¬ ((vs_u0.getD (((p1 + (1 : Int32)) + (1 : Int32))).toNatClampNeg 0) = (29 : Int32))) (hc26_21 : ¬ ((vs_u0.getD (((p1 + (1 : Int32)) + (1 : Int32))).toNatClampNeg 0) = (30 : Int32))) (hc37_22 : ¬ ((vs_u0.getD (((p1 + (1 : Int32)) + (1 : Int32))).toNatClampNeg 0) = (31 : Int32))) (hc6_23 : (((p1 + (1 : Int32)) + (1 : Int32)) + (1 : Int32)) < p2) (hc19_24 : ¬ ((vs_u0.getD ((((p1 + (1 : Int32)) + (1 : Int32)) + (1 : Int32))).toNatClampNeg 0) = (29 : Int32))) (hc26_25 : ¬ ((vs_u0.getD ((((p1 + (1 : Int32)) + (1 : Int32)) + (1 : Int32))).toNatClampNeg 0) = (30 : Int32))) (hc37_26 : ¬ ((vs_u0.getD ((((p1 + (1 : Int32)) + (1 : Int32)) + (1 : Int32))).toNatClampNeg 0) = (31 : Int32))) : ¬ (((((p1 + (1 : Int32)) + (1 : Int32)) + (1 : Int32)) + (1 : Int32)) < p2) := by
  have a1 := c_iadd p1 1
  have a2 := c_iadd (p1 + 1) 1
  have a3 := c_iadd (p1 + 1 + 1) 1
  have a4 := c_iadd (p1 + 1 + 1 + 1) 1
  have r1 := rng32 (p1 + 1)
  have r2 := rng32 (p1 + 1 + 1)
  have r3 := rng32 (p1 + 1 + 1 + 1)
  have r4 := rng32 (p1 + 1 + 1 + 1 + 1)
  subst hb3
  simp only [Int32.lt_iff_toInt_lt, Int32.reduceToInt] at *
  omega
def Q3 (Z : State) (u0 : Addr) (p1 : Int32) (p2 : Int32) (p3 : Int32) (k_u0 : ClassId) (n_u0 : Int32) (vs_u0 : List Int32) (h0 : Heap) (n0 : Nat) (v : Option Value) (h : Heap) (L : List Loc) : Prop := v = some (.int (f3 n_u0 vs_u0 p1 p2 p3)) ∧ Fr n0 L ∧ h = h0
set_option maxRecDepth 65536 in
set_option maxHeartbeats 40000000 in
theorem rm3 (l : Launch) (Z : State) (a0 : Array Value) (hw : ∀ d ∈ tables_1, d.before a0 Z = true) (ws : List Jvm.Cond) (u0 : Addr) (p1 : Int32) (p2 : Int32) (p3 : Int32) (k_u0 : ClassId) (n_u0 : Int32) (vs_u0 : List Int32) (h0 : Heap) (n0 : Nat) (Z0 : n0 ≤ h0.size) (V_u0 : AI Z h0 u0 k_u0 .byte n_u0 vs_u0) (hB : ¬ p1 < 0) (hb2 : ¬ n_u0 < p2) (hb3 : n_u0 = (4 : Int32)) :
    MetFree l (⟨"com/example/leaderline/leaderline/Iso2709Record", "indexOfSeparator", "([BIIZ)I"⟩ : MethodName) (head1 (Jvm.Cond.code (⟨"com/example/leaderline/leaderline/Iso2709Record", "indexOfSeparator", "([BIIZ)I"⟩ : MethodName) prog_5_method_21_code 6 (some .int) :: ws) ({ frames := 0, cells := 0, slots := 0, locals := 0 } : Room)) (fun a U => a = #[(.ref u0), (.int p1), (.int p2), (.int p3)] ∧ Z.Warmed39 U.vm ∧ U.heap = h0) (fun _ _ _ _ _ => True) (fun _ U o U' => ∃ v L, o = .returned v ∧ Q3 Z u0 p1 p2 p3 k_u0 n_u0 vs_u0 h0 n0 v U'.heap L ∧ FrameEnd U o U' L ({ frames := 0, cells := 0, slots := 0, locals := 0 } : Room).cells ({ frames := 0, cells := 0, slots := 0, locals := 0 } : Room).slots) := by
  refine MetFree.of_bodySF (plainFor_of_name pn1) hisR ?_
  intro p e s m args below meth c s₁ Bd hml0 hP hK
  obtain ⟨rfl, hZ, hh⟩ := hP
  have hx := Bd.exec
  have hby := Bd.bytes
  have hml : c.maxLocals = 6 := hml0
  have hown : s.vm.findClass "com/example/leaderline/leaderline/Iso2709Record" = some m.cls := findClass_of_methodNamed Bd.named
  have hnm := (name_of_methodNamed Bd.named Bd.method).1
  have X0 : Stand p l e ({ frames := 0, cells := 0, slots := 0, locals := 0 } : Room) s m #[(.ref u0), (.int p1), (.int p2), (.int p3)] below meth c s₁ [] 0 0 := Stand.of_body Bd
  have e0 : s₁.heap = h0 := by rw [← hh, Bd.state]; rfl
  have N0 := Fr.nil n0
  have hl_u0 : vs_u0.length = n_u0.toNatClampNeg := V_u0.2
  have hn_u0 : ¬ n_u0 < 0 := V_u0.nn
  refine Goes.out (Q := fun o U' => ∃ v L, o = .returned v ∧ Q3 Z u0 p1 p2 p3 k_u0 n_u0 vs_u0 h0 n0 v U'.heap L ∧ FrameEnd s o U' L ({ frames := 0, cells := 0, slots := 0, locals := 0 } : Room).cells ({ frames := 0, cells := 0, slots := 0, locals := 0 } : Room).slots) ?_
  refine Goes.step (S' := s₁.setTop (mkF m 0 #[.val (.ref u0), .val (.int p1), .val (.int p2), .val (.int p3), .unset, .unset] [])) (fun _ k => castTop (ef3 m u0 p1 p2 p3) k) ?_
  refine Goes.step (S' := s₁.setTop (mkF m 1 #[.val (.ref u0), .val (.int p1), .val (.int p2), .val (.int p3), .unset, .unset] [(.int p1)])) (fun _ k => XS.iloadN X0.here hx rfl (hb hby d3_0) rfl  k) ?_
  refine Goes.step (S' := s₁.setTop (mkF m 3 #[.val (.ref u0), .val (.int p1), .val (.int p2), .val (.int p3), .val (.int p1), .unset] [])) (fun _ k => XS.istore X0.here hx rfl (hb hby d3_1) rfl (l' := #[.val (.ref u0), .val (.int p1), .val (.int p2), .val (.int p3), .val (.int p1), .unset]) rfl k) ?_
  refine Goes.step (S' := s₁.setTop (mkF m 5 #[.val (.ref u0), .val (.int p1), .val (.int p2), .val (.int p3), .val (.int p1), .unset] [(.int p1)])) (fun _ k => XS.iload X0.here hx rfl (hb hby d3_3) rfl  k) ?_
  refine Goes.step (S' := s₁.setTop (mkF m 6 #[.val (.ref u0), .val (.int p1), .val (.int p2), .val (.int p3), .val (.int p1), .unset] [(.int p2), (.int p1)])) (fun _ k => XS.iloadN X0.here hx rfl (hb hby d3_5) rfl  k) ?_
  by_cases hc6_1 : p1 < p2
  · refine Goes.step (S' := s₁.setTop (mkF m 9 #[.val (.ref u0), .val (.int p1), .val (.int p2), .val (.int p3), .val (.int p1), .unset] [])) (fun _ k => XS.icmpNo X0.here hx rfl (hb hby d3_6) rfl (tlt hc6_1).2.1 k) ?_
    refine Goes.step (S' := s₁.setTop (mkF m 10 #[.val (.ref u0), .val (.int p1), .val (.int p2), .val (.int p3), .val (.int p1), .unset] [(.ref u0)])) (fun _ k => XS.aloadN X0.here hx rfl (hb hby d3_9) rfl rfl k) ?_
    refine Goes.step (S' := s₁.setTop (mkF m 12 #[.val (.ref u0), .val (.int p1), .val (.int p2), .val (.int p3), .val (.int p1), .unset] [(.int p1), (.ref u0)])) (fun _ k => XS.iload X0.here hx rfl (hb hby d3_10) rfl  k) ?_
    refine Goes.step (S' := s₁.setTop (mkF m 13 #[.val (.ref u0), .val (.int p1), .val (.int p2), .val (.int p3), .val (.int p1), .unset] [(.int (vs_u0.getD (p1).toNatClampNeg 0))])) (fun _ k => own_baload X0 hx hZ e0 V_u0 (own_ix3_12 n_u0 vs_u0 hl_u0 hn_u0 p1 p2 p3 hB hb2 hb3 hc6_1) (hb hby d3_12) _ k) ?_
    refine Goes.step (S' := s₁.setTop (mkF m 15 #[.val (.ref u0), .val (.int p1), .val (.int p2), .val (.int p3), .val (.int p1), .val (.int (vs_u0.getD (p1).toNatClampNeg 0))] [])) (fun _ k => XS.istore X0.here hx rfl (hb hby d3_13) rfl (l' := #[.val (.ref u0), .val (.int p1), .val (.int p2), .val (.int p3), .val (.int p1), .val (.int (vs_u0.getD (p1).toNatClampNeg 0))]) rfl k) ?_
    refine Goes.step (S' := s₁.setTop (mkF m 17 #[.val (.ref u0), .val (.int p1), .val (.int p2), .val (.int p3), .val (.int p1), .val (.int (vs_u0.getD (p1).toNatClampNeg 0))] [(.int (vs_u0.getD (p1).toNatClampNeg 0))])) (fun _ k => XS.iload X0.here hx rfl (hb hby d3_15) rfl  k) ?_
    refine Goes.step (S' := s₁.setTop (mkF m 19 #[.val (.ref u0), .val (.int p1), .val (.int p2), .val (.int p3), .val (.int p1), .val (.int (vs_u0.getD (p1).toNatClampNeg 0))] [(.int (29 : Int32)), (.int (vs_u0.getD (p1).toNatClampNeg 0))])) (fun _ k => XS.bipush X0.here hx rfl (hb hby d3_17) k) ?_
    by_cases hc19_2 : (vs_u0.getD (p1).toNatClampNeg 0) = (29 : Int32)
    · refine Goes.step (S' := s₁.setTop (mkF m 40 #[.val (.ref u0), .val (.int p1), .val (.int p2), .val (.int p3), .val (.int p1), .val (.int (vs_u0.getD (p1).toNatClampNeg 0))] [])) (fun _ k => XS.icmpYes X0.here hx rfl (pc0 := 19) (pc' := 40) rfl (hb hby d3_19) rfl (teq hc19_2).1 (by decide) (by decide) k) ?_
      refine Goes.step (S' := s₁.setTop (mkF m 42 #[.val (.ref u0), .val (.int p1), .val (.int p2), .val (.int p3), .val (.int p1), .val (.int (vs_u0.getD (p1).toNatClampNeg 0))] [(.int p1)])) (fun _ k => XS.iload X0.here hx rfl (hb hby d3_40) rfl  k) ?_
      refine Goes.retI X0 hx Bd.notSynchronized Bd.returns (hb hby d3_42) (by decide) (by decide) ?_
      refine ⟨congrArg (fun z => some (Value.int z)) ?_, N0, e0⟩
      rw [f3, if_pos hc6_1, if_pos hc19_2]
      try rfl
    · refine Goes.step (S' := s₁.setTop (mkF m 22 #[.val (.ref u0), .val (.int p1), .val (.int p2), .val (.int p3), .val (.int p1), .val (.int (vs_u0.getD (p1).toNatClampNeg 0))] [])) (fun _ k => XS.icmpNo X0.here hx rfl (hb hby d3_19) rfl (feq hc19_2).1 k) ?_
      refine Goes.step (S' := s₁.setTop (mkF m 24 #[.val (.ref u0), .val (.int p1), .val (.int p2), .val (.int p3), .val (.int p1), .val (.int (vs_u0.getD (p1).toNatClampNeg 0))] [(.int (vs_u0.getD (p1).toNatClampNeg 0))])) (fun _ k => XS.iload X0.here hx rfl (hb hby d3_22) rfl  k) ?_
      refine Goes.step (S' := s₁.setTop (mkF m 26 #[.val (.ref u0), .val (.int p1), .val (.int p2), .val (.int p3), .val (.int p1), .val (.int (vs_u0.getD (p1).toNatClampNeg 0))] [(.int (30 : Int32)), (.int (vs_u0.getD (p1).toNatClampNeg 0))])) (fun _ k => XS.bipush X0.here hx rfl (hb hby d3_24) k) ?_
      by_cases hc26_3 : (vs_u0.getD (p1).toNatClampNeg 0) = (30 : Int32)
      · refine Goes.step (S' := s₁.setTop (mkF m 40 #[.val (.ref u0), .val (.int p1), .val (.int p2), .val (.int p3), .val (.int p1), .val (.int (vs_u0.getD (p1).toNatClampNeg 0))] [])) (fun _ k => XS.icmpYes X0.here hx rfl (pc0 := 26) (pc' := 40) rfl (hb hby d3_26) rfl (teq hc26_3).1 (by decide) (by decide) k) ?_
        refine Goes.step (S' := s₁.setTop (mkF m 42 #[.val (.ref u0), .val (.int p1), .val (.int p2), .val (.int p3), .val (.int p1), .val (.int (vs_u0.getD (p1).toNatClampNeg 0))] [(.int p1)])) (fun _ k => XS.iload X0.here hx rfl (hb hby d3_40) rfl  k) ?_
        refine Goes.retI X0 hx Bd.notSynchronized Bd.returns (hb hby d3_42) (by decide) (by decide) ?_
        refine ⟨congrArg (fun z => some (Value.int z)) ?_, N0, e0⟩
        rw [f3, if_pos hc6_1, if_neg hc19_2, if_pos hc26_3]
        try rfl
      · refine Goes.step (S' := s₁.setTop (mkF m 29 #[.val (.ref u0), .val (.int p1), .val (.int p2), .val (.int p3), .val (.int p1), .val (.int (vs_u0.getD (p1).toNatClampNeg 0))] [])) (fun _ k => XS.icmpNo X0.here hx rfl (hb hby d3_26) rfl (feq hc26_3).1 k) ?_
        refine Goes.step (S' := s₁.setTop (mkF m 30 #[.val (.ref u0), .val (.int p1), .val (.int p2), .val (.int p3), .val (.int p1), .val (.int (vs_u0.getD (p1).toNatClampNeg 0))] [(.int p3)])) (fun _ k => XS.iloadN X0.here hx rfl (hb hby d3_29) rfl  k) ?_
        by_cases hc30_4 : p3 = (0 : Int32)
        · refine Goes.step (S' := s₁.setTop (mkF m 43 #[.val (.ref u0), .val (.int p1), .val (.int p2), .val (.int p3), .val (.int p1), .val (.int (vs_u0.getD (p1).toNatClampNeg 0))] [])) (fun _ k => XS.ifYes X0.here hx rfl (pc0 := 30) (pc' := 43) rfl (hb hby d3_30) rfl ((if0 _ _).trans (teq hc30_4).1) (by decide) (by decide) k) ?_
          refine Goes.step (S' := s₁.setTop (mkF m 46 #[.val (.ref u0), .val (.int p1), .val (.int p2), .val (.int p3), .val (.int (p1 + (1 : Int32))), .val (.int (vs_u0.getD (p1).toNatClampNeg 0))] [])) (fun _ k => XS.iinc X0.here hx rfl (hb hby d3_43) rfl (l' := #[.val (.ref u0), .val (.int p1), .val (.int p2), .val (.int p3), .val (.int (p1 + (1 : Int32))), .val (.int (vs_u0.getD (p1).toNatClampNeg 0))]) rfl k) ?_
          refine Goes.step (S' := s₁.setTop (mkF m 3 #[.val (.ref u0), .val (.int p1), .val (.int p2), .val (.int p3), .val (.int (p1 + (1 : Int32))), .val (.int (vs_u0.getD (p1).toNatClampNeg 0))] [])) (fun _ k => XS.goto X0.here hx rfl (pc0 := 46) (pc' := 3) rfl (hb hby d3_46) (by decide) (by decide) k) ?_
          refine Goes.step (S' := s₁.setTop (mkF m 5 #[.val (.ref u0), .val (.int p1), .val (.int p2), .val (.int p3), .val (.int (p1 + (1 : Int32))), .val (.int (vs_u0.getD (p1).toNatClampNeg 0))] [(.int (p1 + (1 : Int32)))])) (fun _ k => XS.iload X0.here hx rfl (hb hby d3_3) rfl  k) ?_
          refine Goes.step (S' := s₁.setTop (mkF m 6 #[.val (.ref u0), .val (.int p1), .val (.int p2), .val (.int p3), .val (.int (p1 + (1 : Int32))), .val (.int (vs_u0.getD (p1).toNatClampNeg 0))] [(.int p2), (.int (p1 + (1 : Int32)))])) (fun _ k => XS.iloadN X0.here hx rfl (hb hby d3_5) rfl  k) ?_
          by_cases hc6_5 : (p1 + (1 : Int32)) < p2
          · refine Goes.step (S' := s₁.setTop (mkF m 9 #[.val (.ref u0), .val (.int p1), .val (.int p2), .val (.int p3), .val (.int (p1 + (1 : Int32))), .val (.int (vs_u0.getD (p1).toNatClampNeg 0))] [])) (fun _ k => XS.icmpNo X0.here hx rfl (hb hby d3_6) rfl (tlt hc6_5).2.1 k) ?_
            refine Goes.step (S' := s₁.setTop (mkF m 10 #[.val (.ref u0), .val (.int p1), .val (.int p2), .val (.int p3), .val (.int (p1 + (1 : Int32))), .val (.int (vs_u0.getD (p1).toNatClampNeg 0))] [(.ref u0)])) (fun _ k => XS.aloadN X0.here hx rfl (hb hby d3_9) rfl rfl k) ?_
            refine Goes.step (S' := s₁.setTop (mkF m 12 #[.val (.ref u0), .val (.int p1), .val (.int p2), .val (.int p3), .val (.int (p1 + (1 : Int32))), .val (.int (vs_u0.getD (p1).toNatClampNeg 0))] [(.int (p1 + (1 : Int32))), (.ref u0)])) (fun _ k => XS.iload X0.here hx rfl (hb hby d3_10) rfl  k) ?_
            refine Goes.step (S' := s₁.setTop (mkF m 13 #[.val (.ref u0), .val (.int p1), .val (.int p2), .val (.int p3), .val (.int (p1 + (1 : Int32))), .val (.int (vs_u0.getD (p1).toNatClampNeg 0))] [(.int (vs_u0.getD ((p1 + (1 : Int32))).toNatClampNeg 0))])) (fun _ k => own_baload X0 hx hZ e0 V_u0 (own_ix3_12_2 n_u0 vs_u0 hl_u0 hn_u0 p1 p2 p3 hB hb2 hb3 hc6_1 hc19_2 hc26_3 hc30_4 hc6_5) (hb hby d3_12) _ k) ?_
            refine Goes.step (S' := s₁.setTop (mkF m 15 #[.val (.ref u0), .val (.int p1), .val (.int p2), .val (.int p3), .val (.int (p1 + (1 : Int32))), .val (.int (vs_u0.getD ((p1 + (1 : Int32))).toNatClampNeg 0))] [])) (fun _ k => XS.istore X0.here hx rfl (hb hby d3_13) rfl (l' := #[.val (.ref u0), .val (.int p1), .val (.int p2), .val (.int p3), .val (.int (p1 + (1 : Int32))), .val (.int (vs_u0.getD ((p1 + (1 : Int32))).toNatClampNeg 0))]) rfl k) ?_
            refine Goes.step (S' := s₁.setTop (mkF m 17 #[.val (.ref u0), .val (.int p1), .val (.int p2), .val (.int p3), .val (.int (p1 + (1 : Int32))), .val (.int (vs_u0.getD ((p1 + (1 : Int32))).toNatClampNeg 0))] [(.int (vs_u0.getD ((p1 + (1 : Int32))).toNatClampNeg 0))])) (fun _ k => XS.iload X0.here hx rfl (hb hby d3_15) rfl  k) ?_
            refine Goes.step (S' := s₁.setTop (mkF m 19 #[.val (.ref u0), .val (.int p1), .val (.int p2), .val (.int p3), .val (.int (p1 + (1 : Int32))), .val (.int (vs_u0.getD ((p1 + (1 : Int32))).toNatClampNeg 0))] [(.int (29 : Int32)), (.int (vs_u0.getD ((p1 + (1 : Int32))).toNatClampNeg 0))])) (fun _ k => XS.bipush X0.here hx rfl (hb hby d3_17) k) ?_
            by_cases hc19_6 : (vs_u0.getD ((p1 + (1 : Int32))).toNatClampNeg 0) = (29 : Int32)
            · refine Goes.step (S' := s₁.setTop (mkF m 40 #[.val (.ref u0), .val (.int p1), .val (.int p2), .val (.int p3), .val (.int (p1 + (1 : Int32))), .val (.int (vs_u0.getD ((p1 + (1 : Int32))).toNatClampNeg 0))] [])) (fun _ k => XS.icmpYes X0.here hx rfl (pc0 := 19) (pc' := 40) rfl (hb hby d3_19) rfl (teq hc19_6).1 (by decide) (by decide) k) ?_
              refine Goes.step (S' := s₁.setTop (mkF m 42 #[.val (.ref u0), .val (.int p1), .val (.int p2), .val (.int p3), .val (.int (p1 + (1 : Int32))), .val (.int (vs_u0.getD ((p1 + (1 : Int32))).toNatClampNeg 0))] [(.int (p1 + (1 : Int32)))])) (fun _ k => XS.iload X0.here hx rfl (hb hby d3_40) rfl  k) ?_
              refine Goes.retI X0 hx Bd.notSynchronized Bd.returns (hb hby d3_42) (by decide) (by decide) ?_
              refine ⟨congrArg (fun z => some (Value.int z)) ?_, N0, e0⟩
              rw [f3, if_pos hc6_1, if_neg hc19_2, if_neg hc26_3, if_pos hc30_4, if_pos hc6_5, if_pos hc19_6]
              try rfl
            · refine Goes.step (S' := s₁.setTop (mkF m 22 #[.val (.ref u0), .val (.int p1), .val (.int p2), .val (.int p3), .val (.int (p1 + (1 : Int32))), .val (.int (vs_u0.getD ((p1 + (1 : Int32))).toNatClampNeg 0))] [])) (fun _ k => XS.icmpNo X0.here hx rfl (hb hby d3_19) rfl (feq hc19_6).1 k) ?_
              refine Goes.step (S' := s₁.setTop (mkF m 24 #[.val (.ref u0), .val (.int p1), .val (.int p2), .val (.int p3), .val (.int (p1 + (1 : Int32))), .val (.int (vs_u0.getD ((p1 + (1 : Int32))).toNatClampNeg 0))] [(.int (vs_u0.getD ((p1 + (1 : Int32))).toNatClampNeg 0))])) (fun _ k => XS.iload X0.here hx rfl (hb hby d3_22) rfl  k) ?_
              refine Goes.step (S' := s₁.setTop (mkF m 26 #[.val (.ref u0), .val (.int p1), .val (.int p2), .val (.int p3), .val (.int (p1 + (1 : Int32))), .val (.int (vs_u0.getD ((p1 + (1 : Int32))).toNatClampNeg 0))] [(.int (30 : Int32)), (.int (vs_u0.getD ((p1 + (1 : Int32))).toNatClampNeg 0))])) (fun _ k => XS.bipush X0.here hx rfl (hb hby d3_24) k) ?_
              by_cases hc26_7 : (vs_u0.getD ((p1 + (1 : Int32))).toNatClampNeg 0) = (30 : Int32)
              · refine Goes.step (S' := s₁.setTop (mkF m 40 #[.val (.ref u0), .val (.int p1), .val (.int p2), .val (.int p3), .val (.int (p1 + (1 : Int32))), .val (.int (vs_u0.getD ((p1 + (1 : Int32))).toNatClampNeg 0))] [])) (fun _ k => XS.icmpYes X0.here hx rfl (pc0 := 26) (pc' := 40) rfl (hb hby d3_26) rfl (teq hc26_7).1 (by decide) (by decide) k) ?_
                refine Goes.step (S' := s₁.setTop (mkF m 42 #[.val (.ref u0), .val (.int p1), .val (.int p2), .val (.int p3), .val (.int (p1 + (1 : Int32))), .val (.int (vs_u0.getD ((p1 + (1 : Int32))).toNatClampNeg 0))] [(.int (p1 + (1 : Int32)))])) (fun _ k => XS.iload X0.here hx rfl (hb hby d3_40) rfl  k) ?_
                refine Goes.retI X0 hx Bd.notSynchronized Bd.returns (hb hby d3_42) (by decide) (by decide) ?_
                refine ⟨congrArg (fun z => some (Value.int z)) ?_, N0, e0⟩
                rw [f3, if_pos hc6_1, if_neg hc19_2, if_neg hc26_3, if_pos hc30_4, if_pos hc6_5, if_neg hc19_6, if_pos hc26_7]
                try rfl
              · refine Goes.step (S' := s₁.setTop (mkF m 29 #[.val (.ref u0), .val (.int p1), .val (.int p2), .val (.int p3), .val (.int (p1 + (1 : Int32))), .val (.int (vs_u0.getD ((p1 + (1 : Int32))).toNatClampNeg 0))] [])) (fun _ k => XS.icmpNo X0.here hx rfl (hb hby d3_26) rfl (feq hc26_7).1 k) ?_
                refine Goes.step (S' := s₁.setTop (mkF m 30 #[.val (.ref u0), .val (.int p1), .val (.int p2), .val (.int p3), .val (.int (p1 + (1 : Int32))), .val (.int (vs_u0.getD ((p1 + (1 : Int32))).toNatClampNeg 0))] [(.int p3)])) (fun _ k => XS.iloadN X0.here hx rfl (hb hby d3_29) rfl  k) ?_
                refine Goes.step (S' := s₁.setTop (mkF m 43 #[.val (.ref u0), .val (.int p1), .val (.int p2), .val (.int p3), .val (.int (p1 + (1 : Int32))), .val (.int (vs_u0.getD ((p1 + (1 : Int32))).toNatClampNeg 0))] [])) (fun _ k => XS.ifYes X0.here hx rfl (pc0 := 30) (pc' := 43) rfl (hb hby d3_30) rfl ((if0 _ _).trans (teq hc30_4).1) (by decide) (by decide) k) ?_
                refine Goes.step (S' := s₁.setTop (mkF m 46 #[.val (.ref u0), .val (.int p1), .val (.int p2), .val (.int p3), .val (.int ((p1 + (1 : Int32)) + (1 : Int32))), .val (.int (vs_u0.getD ((p1 + (1 : Int32))).toNatClampNeg 0))] [])) (fun _ k => XS.iinc X0.here hx rfl (hb hby d3_43) rfl (l' := #[.val (.ref u0), .val (.int p1), .val (.int p2), .val (.int p3), .val (.int ((p1 + (1 : Int32)) + (1 : Int32))), .val (.int (vs_u0.getD ((p1 + (1 : Int32))).toNatClampNeg 0))]) rfl k) ?_
                refine Goes.step (S' := s₁.setTop (mkF m 3 #[.val (.ref u0), .val (.int p1), .val (.int p2), .val (.int p3), .val (.int ((p1 + (1 : Int32)) + (1 : Int32))), .val (.int (vs_u0.getD ((p1 + (1 : Int32))).toNatClampNeg 0))] [])) (fun _ k => XS.goto X0.here hx rfl (pc0 := 46) (pc' := 3) rfl (hb hby d3_46) (by decide) (by decide) k) ?_
                refine Goes.step (S' := s₁.setTop (mkF m 5 #[.val (.ref u0), .val (.int p1), .val (.int p2), .val (.int p3), .val (.int ((p1 + (1 : Int32)) + (1 : Int32))), .val (.int (vs_u0.getD ((p1 + (1 : Int32))).toNatClampNeg 0))] [(.int ((p1 + (1 : Int32)) + (1 : Int32)))])) (fun _ k => XS.iload X0.here hx rfl (hb hby d3_3) rfl  k) ?_
                refine Goes.step (S' := s₁.setTop (mkF m 6 #[.val (.ref u0), .val (.int p1), .val (.int p2), .val (.int p3), .val (.int ((p1 + (1 : Int32)) + (1 : Int32))), .val (.int (vs_u0.getD ((p1 + (1 : Int32))).toNatClampNeg 0))] [(.int p2), (.int ((p1 + (1 : Int32)) + (1 : Int32)))])) (fun _ k => XS.iloadN X0.here hx rfl (hb hby d3_5) rfl  k) ?_
                by_cases hc6_8 : ((p1 + (1 : Int32)) + (1 : Int32)) < p2
                · refine Goes.step (S' := s₁.setTop (mkF m 9 #[.val (.ref u0), .val (.int p1), .val (.int p2), .val (.int p3), .val (.int ((p1 + (1 : Int32)) + (1 : Int32))), .val (.int (vs_u0.getD ((p1 + (1 : Int32))).toNatClampNeg 0))] [])) (fun _ k => XS.icmpNo X0.here hx rfl (hb hby d3_6) rfl (tlt hc6_8).2.1 k) ?_
                  refine Goes.step (S' := s₁.setTop (mkF m 10 #[.val (.ref u0), .val (.int p1), .val (.int p2), .val (.int p3), .val (.int ((p1 + (1 : Int32)) + (1 : Int32))), .val (.int (vs_u0.getD ((p1 + (1 : Int32))).toNatClampNeg 0))] [(.ref u0)])) (fun _ k => XS.aloadN X0.here hx rfl (hb hby d3_9) rfl rfl k) ?_
                  refine Goes.step (S' := s₁.setTop (mkF m 12 #[.val (.ref u0), .val (.int p1), .val (.int p2), .val (.int p3), .val (.int ((p1 + (1 : Int32)) + (1 : Int32))), .val (.int (vs_u0.getD ((p1 + (1 : Int32))).toNatClampNeg 0))] [(.int ((p1 + (1 : Int32)) + (1 : Int32))), (.ref u0)])) (fun _ k => XS.iload X0.here hx rfl (hb hby d3_10) rfl  k) ?_
                  refine Goes.step (S' := s₁.setTop (mkF m 13 #[.val (.ref u0), .val (.int p1), .val (.int p2), .val (.int p3), .val (.int ((p1 + (1 : Int32)) + (1 : Int32))), .val (.int (vs_u0.getD ((p1 + (1 : Int32))).toNatClampNeg 0))] [(.int (vs_u0.getD (((p1 + (1 : Int32)) + (1 : Int32))).toNatClampNeg 0))])) (fun _ k => own_baload X0 hx hZ e0 V_u0 (own_ix3_12_3 n_u0 vs_u0 hl_u0 hn_u0 p1 p2 p3 hB hb2 hb3 hc6_1 hc19_2 hc26_3 hc30_4 hc6_5 hc19_6 hc26_7 hc6_8) (hb hby d3_12) _ k) ?_
                  refine Goes.step (S' := s₁.setTop (mkF m 15 #[.val (.ref u0), .val (.int p1), .val (.int p2), .val (.int p3), .val (.int ((p1 + (1 : Int32)) + (1 : Int32))), .val (.int (vs_u0.getD (((p1 + (1 : Int32)) + (1 : Int32))).toNatClampNeg 0))] [])) (fun _ k => XS.istore X0.here hx rfl (hb hby d3_13) rfl (l' := #[.val (.ref u0), .val (.int p1), .val (.int p2), .val (.int p3), .val (.int ((p1 + (1 : Int32)) + (1 : Int32))), .val (.int (vs_u0.getD (((p1 + (1 : Int32)) + (1 : Int32))).toNatClampNeg 0))]) rfl k) ?_
                  refine Goes.step (S' := s₁.setTop (mkF m 17 #[.val (.ref u0), .val (.int p1), .val (.int p2), .val (.int p3), .val (.int ((p1 + (1 : Int32)) + (1 : Int32))), .val (.int (vs_u0.getD (((p1 + (1 : Int32)) + (1 : Int32))).toNatClampNeg 0))] [(.int (vs_u0.getD (((p1 + (1 : Int32)) + (1 : Int32))).toNatClampNeg 0))])) (fun _ k => XS.iload X0.here hx rfl (hb hby d3_15) rfl  k) ?_
                  refine Goes.step (S' := s₁.setTop (mkF m 19 #[.val (.ref u0), .val (.int p1), .val (.int p2), .val (.int p3), .val (.int ((p1 + (1 : Int32)) + (1 : Int32))), .val (.int (vs_u0.getD (((p1 + (1 : Int32)) + (1 : Int32))).toNatClampNeg 0))] [(.int (29 : Int32)), (.int (vs_u0.getD (((p1 + (1 : Int32)) + (1 : Int32))).toNatClampNeg 0))])) (fun _ k => XS.bipush X0.here hx rfl (hb hby d3_17) k) ?_
                  by_cases hc19_9 : (vs_u0.getD (((p1 + (1 : Int32)) + (1 : Int32))).toNatClampNeg 0) = (29 : Int32)
                  · refine Goes.step (S' := s₁.setTop (mkF m 40 #[.val (.ref u0), .val (.int p1), .val (.int p2), .val (.int p3), .val (.int ((p1 + (1 : Int32)) + (1 : Int32))), .val (.int (vs_u0.getD (((p1 + (1 : Int32)) + (1 : Int32))).toNatClampNeg 0))] [])) (fun _ k => XS.icmpYes X0.here hx rfl (pc0 := 19) (pc' := 40) rfl (hb hby d3_19) rfl (teq hc19_9).1 (by decide) (by decide) k) ?_
                    refine Goes.step (S' := s₁.setTop (mkF m 42 #[.val (.ref u0), .val (.int p1), .val (.int p2), .val (.int p3), .val (.int ((p1 + (1 : Int32)) + (1 : Int32))), .val (.int (vs_u0.getD (((p1 + (1 : Int32)) + (1 : Int32))).toNatClampNeg 0))] [(.int ((p1 + (1 : Int32)) + (1 : Int32)))])) (fun _ k => XS.iload X0.here hx rfl (hb hby d3_40) rfl  k) ?_
                    refine Goes.retI X0 hx Bd.notSynchronized Bd.returns (hb hby d3_42) (by decide) (by decide) ?_
                    refine ⟨congrArg (fun z => some (Value.int z)) ?_, N0, e0⟩
                    rw [f3, if_pos hc6_1, if_neg hc19_2, if_neg hc26_3, if_pos hc30_4, if_pos hc6_5, if_neg hc19_6, if_neg hc26_7, if_pos hc6_8, if_pos hc19_9]
                    try rfl
                  · refine Goes.step (S' := s₁.setTop (mkF m 22 #[.val (.ref u0), .val (.int p1), .val (.int p2), .val (.int p3), .val (.int ((p1 + (1 : Int32)) + (1 : Int32))), .val (.int (vs_u0.getD (((p1 + (1 : Int32)) + (1 : Int32))).toNatClampNeg 0))] [])) (fun _ k => XS.icmpNo X0.here hx rfl (hb hby d3_19) rfl (feq hc19_9).1 k) ?_
                    refine Goes.step (S' := s₁.setTop (mkF m 24 #[.val (.ref u0), .val (.int p1), .val (.int p2), .val (.int p3), .val (.int ((p1 + (1 : Int32)) + (1 : Int32))), .val (.int (vs_u0.getD (((p1 + (1 : Int32)) + (1 : Int32))).toNatClampNeg 0))] [(.int (vs_u0.getD (((p1 + (1 : Int32)) + (1 : Int32))).toNatClampNeg 0))])) (fun _ k => XS.iload X0.here hx rfl (hb hby d3_22) rfl  k) ?_
                    refine Goes.step (S' := s₁.setTop (mkF m 26 #[.val (.ref u0), .val (.int p1), .val (.int p2), .val (.int p3), .val (.int ((p1 + (1 : Int32)) + (1 : Int32))), .val (.int (vs_u0.getD (((p1 + (1 : Int32)) + (1 : Int32))).toNatClampNeg 0))] [(.int (30 : Int32)), (.int (vs_u0.getD (((p1 + (1 : Int32)) + (1 : Int32))).toNatClampNeg 0))])) (fun _ k => XS.bipush X0.here hx rfl (hb hby d3_24) k) ?_
                    by_cases hc26_10 : (vs_u0.getD (((p1 + (1 : Int32)) + (1 : Int32))).toNatClampNeg 0) = (30 : Int32)
                    · refine Goes.step (S' := s₁.setTop (mkF m 40 #[.val (.ref u0), .val (.int p1), .val (.int p2), .val (.int p3), .val (.int ((p1 + (1 : Int32)) + (1 : Int32))), .val (.int (vs_u0.getD (((p1 + (1 : Int32)) + (1 : Int32))).toNatClampNeg 0))] [])) (fun _ k => XS.icmpYes X0.here hx rfl (pc0 := 26) (pc' := 40) rfl (hb hby d3_26) rfl (teq hc26_10).1 (by decide) (by decide) k) ?_
                      refine Goes.step (S' := s₁.setTop (mkF m 42 #[.val (.ref u0), .val (.int p1), .val (.int p2), .val (.int p3), .val (.int ((p1 + (1 : Int32)) + (1 : Int32))), .val (.int (vs_u0.getD (((p1 + (1 : Int32)) + (1 : Int32))).toNatClampNeg 0))] [(.int ((p1 + (1 : Int32)) + (1 : Int32)))])) (fun _ k => XS.iload X0.here hx rfl (hb hby d3_40) rfl  k) ?_
                      refine Goes.retI X0 hx Bd.notSynchronized Bd.returns (hb hby d3_42) (by decide) (by decide) ?_
                      refine ⟨congrArg (fun z => some (Value.int z)) ?_, N0, e0⟩
                      rw [f3, if_pos hc6_1, if_neg hc19_2, if_neg hc26_3, if_pos hc30_4, if_pos hc6_5, if_neg hc19_6, if_neg hc26_7, if_pos hc6_8, if_neg hc19_9, if_pos hc26_10]
                      try rfl
                    · refine Goes.step (S' := s₁.setTop (mkF m 29 #[.val (.ref u0), .val (.int p1), .val (.int p2), .val (.int p3), .val (.int ((p1 + (1 : Int32)) + (1 : Int32))), .val (.int (vs_u0.getD (((p1 + (1 : Int32)) + (1 : Int32))).toNatClampNeg 0))] [])) (fun _ k => XS.icmpNo X0.here hx rfl (hb hby d3_26) rfl (feq hc26_10).1 k) ?_
                      refine Goes.step (S' := s₁.setTop (mkF m 30 #[.val (.ref u0), .val (.int p1), .val (.int p2), .val (.int p3), .val (.int ((p1 + (1 : Int32)) + (1 : Int32))), .val (.int (vs_u0.getD (((p1 + (1 : Int32)) + (1 : Int32))).toNatClampNeg 0))] [(.int p3)])) (fun _ k => XS.iloadN X0.here hx rfl (hb hby d3_29) rfl  k) ?_
                      refine Goes.step (S' := s₁.setTop (mkF m 43 #[.val (.ref u0), .val (.int p1), .val (.int p2), .val (.int p3), .val (.int ((p1 + (1 : Int32)) + (1 : Int32))), .val (.int (vs_u0.getD (((p1 + (1 : Int32)) + (1 : Int32))).toNatClampNeg 0))] [])) (fun _ k => XS.ifYes X0.here hx rfl (pc0 := 30) (pc' := 43) rfl (hb hby d3_30) rfl ((if0 _ _).trans (teq hc30_4).1) (by decide) (by decide) k) ?_
                      refine Goes.step (S' := s₁.setTop (mkF m 46 #[.val (.ref u0), .val (.int p1), .val (.int p2), .val (.int p3), .val (.int (((p1 + (1 : Int32)) + (1 : Int32)) + (1 : Int32))), .val (.int (vs_u0.getD (((p1 + (1 : Int32)) + (1 : Int32))).toNatClampNeg 0))] [])) (fun _ k => XS.iinc X0.here hx rfl (hb hby d3_43) rfl (l' := #[.val (.ref u0), .val (.int p1), .val (.int p2), .val (.int p3), .val (.int (((p1 + (1 : Int32)) + (1 : Int32)) + (1 : Int32))), .val (.int (vs_u0.getD (((p1 + (1 : Int32)) + (1 : Int32))).toNatClampNeg 0))]) rfl k) ?_
                      refine Goes.step (S' := s₁.setTop (mkF m 3 #[.val (.ref u0), .val (.int p1), .val (.int p2), .val (.int p3), .val (.int (((p1 + (1 : Int32)) + (1 : Int32)) + (1 : Int32))), .val (.int (vs_u0.getD (((p1 + (1 : Int32)) + (1 : Int32))).toNatClampNeg 0))] [])) (fun _ k => XS.goto X0.here hx rfl (pc0 := 46) (pc' := 3) rfl (hb hby d3_46) (by decide) (by decide) k) ?_
                      refine Goes.step (S' := s₁.setTop (mkF m 5 #[.val (.ref u0), .val (.int p1), .val (.int p2), .val (.int p3), .val (.int (((p1 + (1 : Int32)) + (1 : Int32)) + (1 : Int32))), .val (.int (vs_u0.getD (((p1 + (1 : Int32)) + (1 : Int32))).toNatClampNeg 0))] [(.int (((p1 + (1 : Int32)) + (1 : Int32)) + (1 : Int32)))])) (fun _ k => XS.iload X0.here hx rfl (hb hby d3_3) rfl  k) ?_
                      refine Goes.step (S' := s₁.setTop (mkF m 6 #[.val (.ref u0), .val (.int p1), .val (.int p2), .val (.int p3), .val (.int (((p1 + (1 : Int32)) + (1 : Int32)) + (1 : Int32))), .val (.int (vs_u0.getD (((p1 + (1 : Int32)) + (1 : Int32))).toNatClampNeg 0))] [(.int p2), (.int (((p1 + (1 : Int32)) + (1 : Int32)) + (1 : Int32)))])) (fun _ k => XS.iloadN X0.here hx rfl (hb hby d3_5) rfl  k) ?_
                      by_cases hc6_11 : (((p1 + (1 : Int32)) + (1 : Int32)) + (1 : Int32)) < p2
                      · refine Goes.step (S' := s₁.setTop (mkF m 9 #[.val (.ref u0), .val (.int p1), .val (.int p2), .val (.int p3), .val (.int (((p1 + (1 : Int32)) + (1 : Int32)) + (1 : Int32))), .val (.int (vs_u0.getD (((p1 + (1 : Int32)) + (1 : Int32))).toNatClampNeg 0))] [])) (fun _ k => XS.icmpNo X0.here hx rfl (hb hby d3_6) rfl (tlt hc6_11).2.1 k) ?_
                        refine Goes.step (S' := s₁.setTop (mkF m 10 #[.val (.ref u0), .val (.int p1), .val (.int p2), .val (.int p3), .val (.int (((p1 + (1 : Int32)) + (1 : Int32)) + (1 : Int32))), .val (.int (vs_u0.getD (((p1 + (1 : Int32)) + (1 : Int32))).toNatClampNeg 0))] [(.ref u0)])) (fun _ k => XS.aloadN X0.here hx rfl (hb hby d3_9) rfl rfl k) ?_
                        refine Goes.step (S' := s₁.setTop (mkF m 12 #[.val (.ref u0), .val (.int p1), .val (.int p2), .val (.int p3), .val (.int (((p1 + (1 : Int32)) + (1 : Int32)) + (1 : Int32))), .val (.int (vs_u0.getD (((p1 + (1 : Int32)) + (1 : Int32))).toNatClampNeg 0))] [(.int (((p1 + (1 : Int32)) + (1 : Int32)) + (1 : Int32))), (.ref u0)])) (fun _ k => XS.iload X0.here hx rfl (hb hby d3_10) rfl  k) ?_
                        refine Goes.step (S' := s₁.setTop (mkF m 13 #[.val (.ref u0), .val (.int p1), .val (.int p2), .val (.int p3), .val (.int (((p1 + (1 : Int32)) + (1 : Int32)) + (1 : Int32))), .val (.int (vs_u0.getD (((p1 + (1 : Int32)) + (1 : Int32))).toNatClampNeg 0))] [(.int (vs_u0.getD ((((p1 + (1 : Int32)) + (1 : Int32)) + (1 : Int32))).toNatClampNeg 0))])) (fun _ k => own_baload X0 hx hZ e0 V_u0 (own_ix3_12_4 n_u0 vs_u0 hl_u0 hn_u0 p1 p2 p3 hB hb2 hb3 hc6_1 hc19_2 hc26_3 hc30_4 hc6_5 hc19_6 hc26_7 hc6_8 hc19_9 hc26_10 hc6_11) (hb hby d3_12) _ k) ?_
                        refine Goes.step (S' := s₁.setTop (mkF m 15 #[.val (.ref u0), .val (.int p1), .val (.int p2), .val (.int p3), .val (.int (((p1 + (1 : Int32)) + (1 : Int32)) + (1 : Int32))), .val (.int (vs_u0.getD ((((p1 + (1 : Int32)) + (1 : Int32)) + (1 : Int32))).toNatClampNeg 0))] [])) (fun _ k => XS.istore X0.here hx rfl (hb hby d3_13) rfl (l' := #[.val (.ref u0), .val (.int p1), .val (.int p2), .val (.int p3), .val (.int (((p1 + (1 : Int32)) + (1 : Int32)) + (1 : Int32))), .val (.int (vs_u0.getD ((((p1 + (1 : Int32)) + (1 : Int32)) + (1 : Int32))).toNatClampNeg 0))]) rfl k) ?_
                        refine Goes.step (S' := s₁.setTop (mkF m 17 #[.val (.ref u0), .val (.int p1), .val (.int p2), .val (.int p3), .val (.int (((p1 + (1 : Int32)) + (1 : Int32)) + (1 : Int32))), .val (.int (vs_u0.getD ((((p1 + (1 : Int32)) + (1 : Int32)) + (1 : Int32))).toNatClampNeg 0))] [(.int (vs_u0.getD ((((p1 + (1 : Int32)) + (1 : Int32)) + (1 : Int32))).toNatClampNeg 0))])) (fun _ k => XS.iload X0.here hx rfl (hb hby d3_15) rfl  k) ?_
                        refine Goes.step (S' := s₁.setTop (mkF m 19 #[.val (.ref u0), .val (.int p1), .val (.int p2), .val (.int p3), .val (.int (((p1 + (1 : Int32)) + (1 : Int32)) + (1 : Int32))), .val (.int (vs_u0.getD ((((p1 + (1 : Int32)) + (1 : Int32)) + (1 : Int32))).toNatClampNeg 0))] [(.int (29 : Int32)), (.int (vs_u0.getD ((((p1 + (1 : Int32)) + (1 : Int32)) + (1 : Int32))).toNatClampNeg 0))])) (fun _ k => XS.bipush X0.here hx rfl (hb hby d3_17) k) ?_
                        by_cases hc19_12 : (vs_u0.getD ((((p1 + (1 : Int32)) + (1 : Int32)) + (1 : Int32))).toNatClampNeg 0) = (29 : Int32)
                        · refine Goes.step (S' := s₁.setTop (mkF m 40 #[.val (.ref u0), .val (.int p1), .val (.int p2), .val (.int p3), .val (.int (((p1 + (1 : Int32)) + (1 : Int32)) + (1 : Int32))), .val (.int (vs_u0.getD ((((p1 + (1 : Int32)) + (1 : Int32)) + (1 : Int32))).toNatClampNeg 0))] [])) (fun _ k => XS.icmpYes X0.here hx rfl (pc0 := 19) (pc' := 40) rfl (hb hby d3_19) rfl (teq hc19_12).1 (by decide) (by decide) k) ?_
                          refine Goes.step (S' := s₁.setTop (mkF m 42 #[.val (.ref u0), .val (.int p1), .val (.int p2), .val (.int p3), .val (.int (((p1 + (1 : Int32)) + (1 : Int32)) + (1 : Int32))), .val (.int (vs_u0.getD ((((p1 + (1 : Int32)) + (1 : Int32)) + (1 : Int32))).toNatClampNeg 0))] [(.int (((p1 + (1 : Int32)) + (1 : Int32)) + (1 : Int32)))])) (fun _ k => XS.iload X0.here hx rfl (hb hby d3_40) rfl  k) ?_
                          refine Goes.retI X0 hx Bd.notSynchronized Bd.returns (hb hby d3_42) (by decide) (by decide) ?_
                          refine ⟨congrArg (fun z => some (Value.int z)) ?_, N0, e0⟩
                          rw [f3, if_pos hc6_1, if_neg hc19_2, if_neg hc26_3, if_pos hc30_4, if_pos hc6_5, if_neg hc19_6, if_neg hc26_7, if_pos hc6_8, if_neg hc19_9, if_neg hc26_10, if_pos hc6_11, if_pos hc19_12]
                          try rfl
                        · refine Goes.step (S' := s₁.setTop (mkF m 22 #[.val (.ref u0), .val (.int p1), .val (.int p2), .val (.int p3), .val (.int (((p1 + (1 : Int32)) + (1 : Int32)) + (1 : Int32))), .val (.int (vs_u0.getD ((((p1 + (1 : Int32)) + (1 : Int32)) + (1 : Int32))).toNatClampNeg 0))] [])) (fun _ k => XS.icmpNo X0.here hx rfl (hb hby d3_19) rfl (feq hc19_12).1 k) ?_
                          refine Goes.step (S' := s₁.setTop (mkF m 24 #[.val (.ref u0), .val (.int p1), .val (.int p2), .val (.int p3), .val (.int (((p1 + (1 : Int32)) + (1 : Int32)) + (1 : Int32))), .val (.int (vs_u0.getD ((((p1 + (1 : Int32)) + (1 : Int32)) + (1 : Int32))).toNatClampNeg 0))] [(.int (vs_u0.getD ((((p1 + (1 : Int32)) + (1 : Int32)) + (1 : Int32))).toNatClampNeg 0))])) (fun _ k => XS.iload X0.here hx rfl (hb hby d3_22) rfl  k) ?_
                          refine Goes.step (S' := s₁.setTop (mkF m 26 #[.val (.ref u0), .val (.int p1), .val (.int p2), .val (.int p3), .val (.int (((p1 + (1 : Int32)) + (1 : Int32)) + (1 : Int32))), .val (.int (vs_u0.getD ((((p1 + (1 : Int32)) + (1 : Int32)) + (1 : Int32))).toNatClampNeg 0))] [(.int (30 : Int32)), (.int (vs_u0.getD ((((p1 + (1 : Int32)) + (1 : Int32)) + (1 : Int32))).toNatClampNeg 0))])) (fun _ k => XS.bipush X0.here hx rfl (hb hby d3_24) k) ?_
                          by_cases hc26_13 : (vs_u0.getD ((((p1 + (1 : Int32)) + (1 : Int32)) + (1 : Int32))).toNatClampNeg 0) = (30 : Int32)
                          · refine Goes.step (S' := s₁.setTop (mkF m 40 #[.val (.ref u0), .val (.int p1), .val (.int p2), .val (.int p3), .val (.int (((p1 + (1 : Int32)) + (1 : Int32)) + (1 : Int32))), .val (.int (vs_u0.getD ((((p1 + (1 : Int32)) + (1 : Int32)) + (1 : Int32))).toNatClampNeg 0))] [])) (fun _ k => XS.icmpYes X0.here hx rfl (pc0 := 26) (pc' := 40) rfl (hb hby d3_26) rfl (teq hc26_13).1 (by decide) (by decide) k) ?_
                            refine Goes.step (S' := s₁.setTop (mkF m 42 #[.val (.ref u0), .val (.int p1), .val (.int p2), .val (.int p3), .val (.int (((p1 + (1 : Int32)) + (1 : Int32)) + (1 : Int32))), .val (.int (vs_u0.getD ((((p1 + (1 : Int32)) + (1 : Int32)) + (1 : Int32))).toNatClampNeg 0))] [(.int (((p1 + (1 : Int32)) + (1 : Int32)) + (1 : Int32)))])) (fun _ k => XS.iload X0.here hx rfl (hb hby d3_40) rfl  k) ?_
                            refine Goes.retI X0 hx Bd.notSynchronized Bd.returns (hb hby d3_42) (by decide) (by decide) ?_
                            refine ⟨congrArg (fun z => some (Value.int z)) ?_, N0, e0⟩
                            rw [f3, if_pos hc6_1, if_neg hc19_2, if_neg hc26_3, if_pos hc30_4, if_pos hc6_5, if_neg hc19_6, if_neg hc26_7, if_pos hc6_8, if_neg hc19_9, if_neg hc26_10, if_pos hc6_11, if_neg hc19_12, if_pos hc26_13]
                            try rfl
                          · refine Goes.step (S' := s₁.setTop (mkF m 29 #[.val (.ref u0), .val (.int p1), .val (.int p2), .val (.int p3), .val (.int (((p1 + (1 : Int32)) + (1 : Int32)) + (1 : Int32))), .val (.int (vs_u0.getD ((((p1 + (1 : Int32)) + (1 : Int32)) + (1 : Int32))).toNatClampNeg 0))] [])) (fun _ k => XS.icmpNo X0.here hx rfl (hb hby d3_26) rfl (feq hc26_13).1 k) ?_
                            refine Goes.step (S' := s₁.setTop (mkF m 30 #[.val (.ref u0), .val (.int p1), .val (.int p2), .val (.int p3), .val (.int (((p1 + (1 : Int32)) + (1 : Int32)) + (1 : Int32))), .val (.int (vs_u0.getD ((((p1 + (1 : Int32)) + (1 : Int32)) + (1 : Int32))).toNatClampNeg 0))] [(.int p3)])) (fun _ k => XS.iloadN X0.here hx rfl (hb hby d3_29) rfl  k) ?_
                            refine Goes.step (S' := s₁.setTop (mkF m 43 #[.val (.ref u0), .val (.int p1), .val (.int p2), .val (.int p3), .val (.int (((p1 + (1 : Int32)) + (1 : Int32)) + (1 : Int32))), .val (.int (vs_u0.getD ((((p1 + (1 : Int32)) + (1 : Int32)) + (1 : Int32))).toNatClampNeg 0))] [])) (fun _ k => XS.ifYes X0.here hx rfl (pc0 := 30) (pc' := 43) rfl (hb hby d3_30) rfl ((if0 _ _).trans (teq hc30_4).1) (by decide) (by decide) k) ?_
                            refine Goes.step (S' := s₁.setTop (mkF m 46 #[.val (.ref u0), .val (.int p1), .val (.int p2), .val (.int p3), .val (.int ((((p1 + (1 : Int32)) + (1 : Int32)) + (1 : Int32)) + (1 : Int32))), .val (.int (vs_u0.getD ((((p1 + (1 : Int32)) + (1 : Int32)) + (1 : Int32))).toNatClampNeg 0))] [])) (fun _ k => XS.iinc X0.here hx rfl (hb hby d3_43) rfl (l' := #[.val (.ref u0), .val (.int p1), .val (.int p2), .val (.int p3), .val (.int ((((p1 + (1 : Int32)) + (1 : Int32)) + (1 : Int32)) + (1 : Int32))), .val (.int (vs_u0.getD ((((p1 + (1 : Int32)) + (1 : Int32)) + (1 : Int32))).toNatClampNeg 0))]) rfl k) ?_
                            refine Goes.step (S' := s₁.setTop (mkF m 3 #[.val (.ref u0), .val (.int p1), .val (.int p2), .val (.int p3), .val (.int ((((p1 + (1 : Int32)) + (1 : Int32)) + (1 : Int32)) + (1 : Int32))), .val (.int (vs_u0.getD ((((p1 + (1 : Int32)) + (1 : Int32)) + (1 : Int32))).toNatClampNeg 0))] [])) (fun _ k => XS.goto X0.here hx rfl (pc0 := 46) (pc' := 3) rfl (hb hby d3_46) (by decide) (by decide) k) ?_
                            refine Goes.step (S' := s₁.setTop (mkF m 5 #[.val (.ref u0), .val (.int p1), .val (.int p2), .val (.int p3), .val (.int ((((p1 + (1 : Int32)) + (1 : Int32)) + (1 : Int32)) + (1 : Int32))), .val (.int (vs_u0.getD ((((p1 + (1 : Int32)) + (1 : Int32)) + (1 : Int32))).toNatClampNeg 0))] [(.int ((((p1 + (1 : Int32)) + (1 : Int32)) + (1 : Int32)) + (1 : Int32)))])) (fun _ k => XS.iload X0.here hx rfl (hb hby d3_3) rfl  k) ?_
                            refine Goes.step (S' := s₁.setTop (mkF m 6 #[.val (.ref u0), .val (.int p1), .val (.int p2), .val (.int p3), .val (.int ((((p1 + (1 : Int32)) + (1 : Int32)) + (1 : Int32)) + (1 : Int32))), .val (.int (vs_u0.getD ((((p1 + (1 : Int32)) + (1 : Int32)) + (1 : Int32))).toNatClampNeg 0))] [(.int p2), (.int ((((p1 + (1 : Int32)) + (1 : Int32)) + (1 : Int32)) + (1 : Int32)))])) (fun _ k => XS.iloadN X0.here hx rfl (hb hby d3_5) rfl  k) ?_
                            refine Goes.step (S' := s₁.setTop (mkF m 49 #[.val (.ref u0), .val (.int p1), .val (.int p2), .val (.int p3), .val (.int ((((p1 + (1 : Int32)) + (1 : Int32)) + (1 : Int32)) + (1 : Int32))), .val (.int (vs_u0.getD ((((p1 + (1 : Int32)) + (1 : Int32)) + (1 : Int32))).toNatClampNeg 0))] [])) (fun _ k => XS.icmpYes X0.here hx rfl (pc0 := 6) (pc' := 49) rfl (hb hby d3_6) rfl (flt (own_hc3_6 n_u0 vs_u0 hl_u0 hn_u0 p1 p2 p3 hB hb2 hb3 hc6_1 hc19_2 hc26_3 hc30_4 hc6_5 hc19_6 hc26_7 hc6_8 hc19_9 hc26_10 hc6_11 hc19_12 hc26_13)).2.1 (by decide) (by decide) k) ?_
                            refine Goes.step (S' := s₁.setTop (mkF m 50 #[.val (.ref u0), .val (.int p1), .val (.int p2), .val (.int p3), .val (.int ((((p1 + (1 : Int32)) + (1 : Int32)) + (1 : Int32)) + (1 : Int32))), .val (.int (vs_u0.getD ((((p1 + (1 : Int32)) + (1 : Int32)) + (1 : Int32))).toNatClampNeg 0))] [(.int (-1 : Int32))])) (fun _ k => XS.iconst X0.here hx rfl (hb hby d3_49) k) ?_
                            refine Goes.retI X0 hx Bd.notSynchronized Bd.returns (hb hby d3_50) (by decide) (by decide) ?_
                            refine ⟨congrArg (fun z => some (Value.int z)) ?_, N0, e0⟩
                            rw [f3, if_pos hc6_1, if_neg hc19_2, if_neg hc26_3, if_pos hc30_4, if_pos hc6_5, if_neg hc19_6, if_neg hc26_7, if_pos hc6_8, if_neg hc19_9, if_neg hc26_10, if_pos hc6_11, if_neg hc19_12, if_neg hc26_13]
                            try rfl
                      · refine Goes.step (S' := s₁.setTop (mkF m 49 #[.val (.ref u0), .val (.int p1), .val (.int p2), .val (.int p3), .val (.int (((p1 + (1 : Int32)) + (1 : Int32)) + (1 : Int32))), .val (.int (vs_u0.getD (((p1 + (1 : Int32)) + (1 : Int32))).toNatClampNeg 0))] [])) (fun _ k => XS.icmpYes X0.here hx rfl (pc0 := 6) (pc' := 49) rfl (hb hby d3_6) rfl (flt hc6_11).2.1 (by decide) (by decide) k) ?_
                        refine Goes.step (S' := s₁.setTop (mkF m 50 #[.val (.ref u0), .val (.int p1), .val (.int p2), .val (.int p3), .val (.int (((p1 + (1 : Int32)) + (1 : Int32)) + (1 : Int32))), .val (.int (vs_u0.getD (((p1 + (1 : Int32)) + (1 : Int32))).toNatClampNeg 0))] [(.int (-1 : Int32))])) (fun _ k => XS.iconst X0.here hx rfl (hb hby d3_49) k) ?_
                        refine Goes.retI X0 hx Bd.notSynchronized Bd.returns (hb hby d3_50) (by decide) (by decide) ?_
                        refine ⟨congrArg (fun z => some (Value.int z)) ?_, N0, e0⟩
                        rw [f3, if_pos hc6_1, if_neg hc19_2, if_neg hc26_3, if_pos hc30_4, if_pos hc6_5, if_neg hc19_6, if_neg hc26_7, if_pos hc6_8, if_neg hc19_9, if_neg hc26_10, if_neg hc6_11]
                        try rfl
                · refine Goes.step (S' := s₁.setTop (mkF m 49 #[.val (.ref u0), .val (.int p1), .val (.int p2), .val (.int p3), .val (.int ((p1 + (1 : Int32)) + (1 : Int32))), .val (.int (vs_u0.getD ((p1 + (1 : Int32))).toNatClampNeg 0))] [])) (fun _ k => XS.icmpYes X0.here hx rfl (pc0 := 6) (pc' := 49) rfl (hb hby d3_6) rfl (flt hc6_8).2.1 (by decide) (by decide) k) ?_
                  refine Goes.step (S' := s₁.setTop (mkF m 50 #[.val (.ref u0), .val (.int p1), .val (.int p2), .val (.int p3), .val (.int ((p1 + (1 : Int32)) + (1 : Int32))), .val (.int (vs_u0.getD ((p1 + (1 : Int32))).toNatClampNeg 0))] [(.int (-1 : Int32))])) (fun _ k => XS.iconst X0.here hx rfl (hb hby d3_49) k) ?_
                  refine Goes.retI X0 hx Bd.notSynchronized Bd.returns (hb hby d3_50) (by decide) (by decide) ?_
                  refine ⟨congrArg (fun z => some (Value.int z)) ?_, N0, e0⟩
                  rw [f3, if_pos hc6_1, if_neg hc19_2, if_neg hc26_3, if_pos hc30_4, if_pos hc6_5, if_neg hc19_6, if_neg hc26_7, if_neg hc6_8]
                  try rfl
          · refine Goes.step (S' := s₁.setTop (mkF m 49 #[.val (.ref u0), .val (.int p1), .val (.int p2), .val (.int p3), .val (.int (p1 + (1 : Int32))), .val (.int (vs_u0.getD (p1).toNatClampNeg 0))] [])) (fun _ k => XS.icmpYes X0.here hx rfl (pc0 := 6) (pc' := 49) rfl (hb hby d3_6) rfl (flt hc6_5).2.1 (by decide) (by decide) k) ?_
            refine Goes.step (S' := s₁.setTop (mkF m 50 #[.val (.ref u0), .val (.int p1), .val (.int p2), .val (.int p3), .val (.int (p1 + (1 : Int32))), .val (.int (vs_u0.getD (p1).toNatClampNeg 0))] [(.int (-1 : Int32))])) (fun _ k => XS.iconst X0.here hx rfl (hb hby d3_49) k) ?_
            refine Goes.retI X0 hx Bd.notSynchronized Bd.returns (hb hby d3_50) (by decide) (by decide) ?_
            refine ⟨congrArg (fun z => some (Value.int z)) ?_, N0, e0⟩
            rw [f3, if_pos hc6_1, if_neg hc19_2, if_neg hc26_3, if_pos hc30_4, if_neg hc6_5]
            try rfl
        · refine Goes.step (S' := s₁.setTop (mkF m 33 #[.val (.ref u0), .val (.int p1), .val (.int p2), .val (.int p3), .val (.int p1), .val (.int (vs_u0.getD (p1).toNatClampNeg 0))] [])) (fun _ k => XS.ifNo X0.here hx rfl (hb hby d3_30) rfl ((if0 _ _).trans (feq hc30_4).1) k) ?_
          refine Goes.step (S' := s₁.setTop (mkF m 35 #[.val (.ref u0), .val (.int p1), .val (.int p2), .val (.int p3), .val (.int p1), .val (.int (vs_u0.getD (p1).toNatClampNeg 0))] [(.int (vs_u0.getD (p1).toNatClampNeg 0))])) (fun _ k => XS.iload X0.here hx rfl (hb hby d3_33) rfl  k) ?_
          refine Goes.step (S' := s₁.setTop (mkF m 37 #[.val (.ref u0), .val (.int p1), .val (.int p2), .val (.int p3), .val (.int p1), .val (.int (vs_u0.getD (p1).toNatClampNeg 0))] [(.int (31 : Int32)), (.int (vs_u0.getD (p1).toNatClampNeg 0))])) (fun _ k => XS.bipush X0.here hx rfl (hb hby d3_35) k) ?_
          by_cases hc37_14 : (vs_u0.getD (p1).toNatClampNeg 0) = (31 : Int32)
          · refine Goes.step (S' := s₁.setTop (mkF m 40 #[.val (.ref u0), .val (.int p1), .val (.int p2), .val (.int p3), .val (.int p1), .val (.int (vs_u0.getD (p1).toNatClampNeg 0))] [])) (fun _ k => XS.icmpNo X0.here hx rfl (hb hby d3_37) rfl (teq hc37_14).2 k) ?_
            refine Goes.step (S' := s₁.setTop (mkF m 42 #[.val (.ref u0), .val (.int p1), .val (.int p2), .val (.int p3), .val (.int p1), .val (.int (vs_u0.getD (p1).toNatClampNeg 0))] [(.int p1)])) (fun _ k => XS.iload X0.here hx rfl (hb hby d3_40) rfl  k) ?_
            refine Goes.retI X0 hx Bd.notSynchronized Bd.returns (hb hby d3_42) (by decide) (by decide) ?_
            refine ⟨congrArg (fun z => some (Value.int z)) ?_, N0, e0⟩
            rw [f3, if_pos hc6_1, if_neg hc19_2, if_neg hc26_3, if_neg hc30_4, if_pos hc37_14]
            try rfl
          · refine Goes.step (S' := s₁.setTop (mkF m 43 #[.val (.ref u0), .val (.int p1), .val (.int p2), .val (.int p3), .val (.int p1), .val (.int (vs_u0.getD (p1).toNatClampNeg 0))] [])) (fun _ k => XS.icmpYes X0.here hx rfl (pc0 := 37) (pc' := 43) rfl (hb hby d3_37) rfl (feq hc37_14).2 (by decide) (by decide) k) ?_
            refine Goes.step (S' := s₁.setTop (mkF m 46 #[.val (.ref u0), .val (.int p1), .val (.int p2), .val (.int p3), .val (.int (p1 + (1 : Int32))), .val (.int (vs_u0.getD (p1).toNatClampNeg 0))] [])) (fun _ k => XS.iinc X0.here hx rfl (hb hby d3_43) rfl (l' := #[.val (.ref u0), .val (.int p1), .val (.int p2), .val (.int p3), .val (.int (p1 + (1 : Int32))), .val (.int (vs_u0.getD (p1).toNatClampNeg 0))]) rfl k) ?_
            refine Goes.step (S' := s₁.setTop (mkF m 3 #[.val (.ref u0), .val (.int p1), .val (.int p2), .val (.int p3), .val (.int (p1 + (1 : Int32))), .val (.int (vs_u0.getD (p1).toNatClampNeg 0))] [])) (fun _ k => XS.goto X0.here hx rfl (pc0 := 46) (pc' := 3) rfl (hb hby d3_46) (by decide) (by decide) k) ?_
            refine Goes.step (S' := s₁.setTop (mkF m 5 #[.val (.ref u0), .val (.int p1), .val (.int p2), .val (.int p3), .val (.int (p1 + (1 : Int32))), .val (.int (vs_u0.getD (p1).toNatClampNeg 0))] [(.int (p1 + (1 : Int32)))])) (fun _ k => XS.iload X0.here hx rfl (hb hby d3_3) rfl  k) ?_
            refine Goes.step (S' := s₁.setTop (mkF m 6 #[.val (.ref u0), .val (.int p1), .val (.int p2), .val (.int p3), .val (.int (p1 + (1 : Int32))), .val (.int (vs_u0.getD (p1).toNatClampNeg 0))] [(.int p2), (.int (p1 + (1 : Int32)))])) (fun _ k => XS.iloadN X0.here hx rfl (hb hby d3_5) rfl  k) ?_
            by_cases hc6_15 : (p1 + (1 : Int32)) < p2
            · refine Goes.step (S' := s₁.setTop (mkF m 9 #[.val (.ref u0), .val (.int p1), .val (.int p2), .val (.int p3), .val (.int (p1 + (1 : Int32))), .val (.int (vs_u0.getD (p1).toNatClampNeg 0))] [])) (fun _ k => XS.icmpNo X0.here hx rfl (hb hby d3_6) rfl (tlt hc6_15).2.1 k) ?_
              refine Goes.step (S' := s₁.setTop (mkF m 10 #[.val (.ref u0), .val (.int p1), .val (.int p2), .val (.int p3), .val (.int (p1 + (1 : Int32))), .val (.int (vs_u0.getD (p1).toNatClampNeg 0))] [(.ref u0)])) (fun _ k => XS.aloadN X0.here hx rfl (hb hby d3_9) rfl rfl k) ?_
              refine Goes.step (S' := s₁.setTop (mkF m 12 #[.val (.ref u0), .val (.int p1), .val (.int p2), .val (.int p3), .val (.int (p1 + (1 : Int32))), .val (.int (vs_u0.getD (p1).toNatClampNeg 0))] [(.int (p1 + (1 : Int32))), (.ref u0)])) (fun _ k => XS.iload X0.here hx rfl (hb hby d3_10) rfl  k) ?_
              refine Goes.step (S' := s₁.setTop (mkF m 13 #[.val (.ref u0), .val (.int p1), .val (.int p2), .val (.int p3), .val (.int (p1 + (1 : Int32))), .val (.int (vs_u0.getD (p1).toNatClampNeg 0))] [(.int (vs_u0.getD ((p1 + (1 : Int32))).toNatClampNeg 0))])) (fun _ k => own_baload X0 hx hZ e0 V_u0 (own_ix3_12_5 n_u0 vs_u0 hl_u0 hn_u0 p1 p2 p3 hB hb2 hb3 hc6_1 hc19_2 hc26_3 hc30_4 hc37_14 hc6_15) (hb hby d3_12) _ k) ?_
              refine Goes.step (S' := s₁.setTop (mkF m 15 #[.val (.ref u0), .val (.int p1), .val (.int p2), .val (.int p3), .val (.int (p1 + (1 : Int32))), .val (.int (vs_u0.getD ((p1 + (1 : Int32))).toNatClampNeg 0))] [])) (fun _ k => XS.istore X0.here hx rfl (hb hby d3_13) rfl (l' := #[.val (.ref u0), .val (.int p1), .val (.int p2), .val (.int p3), .val (.int (p1 + (1 : Int32))), .val (.int (vs_u0.getD ((p1 + (1 : Int32))).toNatClampNeg 0))]) rfl k) ?_
              refine Goes.step (S' := s₁.setTop (mkF m 17 #[.val (.ref u0), .val (.int p1), .val (.int p2), .val (.int p3), .val (.int (p1 + (1 : Int32))), .val (.int (vs_u0.getD ((p1 + (1 : Int32))).toNatClampNeg 0))] [(.int (vs_u0.getD ((p1 + (1 : Int32))).toNatClampNeg 0))])) (fun _ k => XS.iload X0.here hx rfl (hb hby d3_15) rfl  k) ?_
              refine Goes.step (S' := s₁.setTop (mkF m 19 #[.val (.ref u0), .val (.int p1), .val (.int p2), .val (.int p3), .val (.int (p1 + (1 : Int32))), .val (.int (vs_u0.getD ((p1 + (1 : Int32))).toNatClampNeg 0))] [(.int (29 : Int32)), (.int (vs_u0.getD ((p1 + (1 : Int32))).toNatClampNeg 0))])) (fun _ k => XS.bipush X0.here hx rfl (hb hby d3_17) k) ?_
              by_cases hc19_16 : (vs_u0.getD ((p1 + (1 : Int32))).toNatClampNeg 0) = (29 : Int32)
              · refine Goes.step (S' := s₁.setTop (mkF m 40 #[.val (.ref u0), .val (.int p1), .val (.int p2), .val (.int p3), .val (.int (p1 + (1 : Int32))), .val (.int (vs_u0.getD ((p1 + (1 : Int32))).toNatClampNeg 0))] [])) (fun _ k => XS.icmpYes X0.here hx rfl (pc0 := 19) (pc' := 40) rfl (hb hby d3_19) rfl (teq hc19_16).1 (by decide) (by decide) k) ?_
                refine Goes.step (S' := s₁.setTop (mkF m 42 #[.val (.ref u0), .val (.int p1), .val (.int p2), .val (.int p3), .val (.int (p1 + (1 : Int32))), .val (.int (vs_u0.getD ((p1 + (1 : Int32))).toNatClampNeg 0))] [(.int (p1 + (1 : Int32)))])) (fun _ k => XS.iload X0.here hx rfl (hb hby d3_40) rfl  k) ?_
                refine Goes.retI X0 hx Bd.notSynchronized Bd.returns (hb hby d3_42) (by decide) (by decide) ?_
                refine ⟨congrArg (fun z => some (Value.int z)) ?_, N0, e0⟩
                rw [f3, if_pos hc6_1, if_neg hc19_2, if_neg hc26_3, if_neg hc30_4, if_neg hc37_14, if_pos hc6_15, if_pos hc19_16]
                try rfl
              · refine Goes.step (S' := s₁.setTop (mkF m 22 #[.val (.ref u0), .val (.int p1), .val (.int p2), .val (.int p3), .val (.int (p1 + (1 : Int32))), .val (.int (vs_u0.getD ((p1 + (1 : Int32))).toNatClampNeg 0))] [])) (fun _ k => XS.icmpNo X0.here hx rfl (hb hby d3_19) rfl (feq hc19_16).1 k) ?_
                refine Goes.step (S' := s₁.setTop (mkF m 24 #[.val (.ref u0), .val (.int p1), .val (.int p2), .val (.int p3), .val (.int (p1 + (1 : Int32))), .val (.int (vs_u0.getD ((p1 + (1 : Int32))).toNatClampNeg 0))] [(.int (vs_u0.getD ((p1 + (1 : Int32))).toNatClampNeg 0))])) (fun _ k => XS.iload X0.here hx rfl (hb hby d3_22) rfl  k) ?_
                refine Goes.step (S' := s₁.setTop (mkF m 26 #[.val (.ref u0), .val (.int p1), .val (.int p2), .val (.int p3), .val (.int (p1 + (1 : Int32))), .val (.int (vs_u0.getD ((p1 + (1 : Int32))).toNatClampNeg 0))] [(.int (30 : Int32)), (.int (vs_u0.getD ((p1 + (1 : Int32))).toNatClampNeg 0))])) (fun _ k => XS.bipush X0.here hx rfl (hb hby d3_24) k) ?_
                by_cases hc26_17 : (vs_u0.getD ((p1 + (1 : Int32))).toNatClampNeg 0) = (30 : Int32)
                · refine Goes.step (S' := s₁.setTop (mkF m 40 #[.val (.ref u0), .val (.int p1), .val (.int p2), .val (.int p3), .val (.int (p1 + (1 : Int32))), .val (.int (vs_u0.getD ((p1 + (1 : Int32))).toNatClampNeg 0))] [])) (fun _ k => XS.icmpYes X0.here hx rfl (pc0 := 26) (pc' := 40) rfl (hb hby d3_26) rfl (teq hc26_17).1 (by decide) (by decide) k) ?_
                  refine Goes.step (S' := s₁.setTop (mkF m 42 #[.val (.ref u0), .val (.int p1), .val (.int p2), .val (.int p3), .val (.int (p1 + (1 : Int32))), .val (.int (vs_u0.getD ((p1 + (1 : Int32))).toNatClampNeg 0))] [(.int (p1 + (1 : Int32)))])) (fun _ k => XS.iload X0.here hx rfl (hb hby d3_40) rfl  k) ?_
                  refine Goes.retI X0 hx Bd.notSynchronized Bd.returns (hb hby d3_42) (by decide) (by decide) ?_
                  refine ⟨congrArg (fun z => some (Value.int z)) ?_, N0, e0⟩
                  rw [f3, if_pos hc6_1, if_neg hc19_2, if_neg hc26_3, if_neg hc30_4, if_neg hc37_14, if_pos hc6_15, if_neg hc19_16, if_pos hc26_17]
                  try rfl
                · refine Goes.step (S' := s₁.setTop (mkF m 29 #[.val (.ref u0), .val (.int p1), .val (.int p2), .val (.int p3), .val (.int (p1 + (1 : Int32))), .val (.int (vs_u0.getD ((p1 + (1 : Int32))).toNatClampNeg 0))] [])) (fun _ k => XS.icmpNo X0.here hx rfl (hb hby d3_26) rfl (feq hc26_17).1 k) ?_
                  refine Goes.step (S' := s₁.setTop (mkF m 30 #[.val (.ref u0), .val (.int p1), .val (.int p2), .val (.int p3), .val (.int (p1 + (1 : Int32))), .val (.int (vs_u0.getD ((p1 + (1 : Int32))).toNatClampNeg 0))] [(.int p3)])) (fun _ k => XS.iloadN X0.here hx rfl (hb hby d3_29) rfl  k) ?_
                  refine Goes.step (S' := s₁.setTop (mkF m 33 #[.val (.ref u0), .val (.int p1), .val (.int p2), .val (.int p3), .val (.int (p1 + (1 : Int32))), .val (.int (vs_u0.getD ((p1 + (1 : Int32))).toNatClampNeg 0))] [])) (fun _ k => XS.ifNo X0.here hx rfl (hb hby d3_30) rfl ((if0 _ _).trans (feq hc30_4).1) k) ?_
                  refine Goes.step (S' := s₁.setTop (mkF m 35 #[.val (.ref u0), .val (.int p1), .val (.int p2), .val (.int p3), .val (.int (p1 + (1 : Int32))), .val (.int (vs_u0.getD ((p1 + (1 : Int32))).toNatClampNeg 0))] [(.int (vs_u0.getD ((p1 + (1 : Int32))).toNatClampNeg 0))])) (fun _ k => XS.iload X0.here hx rfl (hb hby d3_33) rfl  k) ?_
                  refine Goes.step (S' := s₁.setTop (mkF m 37 #[.val (.ref u0), .val (.int p1), .val (.int p2), .val (.int p3), .val (.int (p1 + (1 : Int32))), .val (.int (vs_u0.getD ((p1 + (1 : Int32))).toNatClampNeg 0))] [(.int (31 : Int32)), (.int (vs_u0.getD ((p1 + (1 : Int32))).toNatClampNeg 0))])) (fun _ k => XS.bipush X0.here hx rfl (hb hby d3_35) k) ?_
                  by_cases hc37_18 : (vs_u0.getD ((p1 + (1 : Int32))).toNatClampNeg 0) = (31 : Int32)
                  · refine Goes.step (S' := s₁.setTop (mkF m 40 #[.val (.ref u0), .val (.int p1), .val (.int p2), .val (.int p3), .val (.int (p1 + (1 : Int32))), .val (.int (vs_u0.getD ((p1 + (1 : Int32))).toNatClampNeg 0))] [])) (fun _ k => XS.icmpNo X0.here hx rfl (hb hby d3_37) rfl (teq hc37_18).2 k) ?_
                    refine Goes.step (S' := s₁.setTop (mkF m 42 #[.val (.ref u0), .val (.int p1), .val (.int p2), .val (.int p3), .val (.int (p1 + (1 : Int32))), .val (.int (vs_u0.getD ((p1 + (1 : Int32))).toNatClampNeg 0))] [(.int (p1 + (1 : Int32)))])) (fun _ k => XS.iload X0.here hx rfl (hb hby d3_40) rfl  k) ?_
                    refine Goes.retI X0 hx Bd.notSynchronized Bd.returns (hb hby d3_42) (by decide) (by decide) ?_
                    refine ⟨congrArg (fun z => some (Value.int z)) ?_, N0, e0⟩
                    rw [f3, if_pos hc6_1, if_neg hc19_2, if_neg hc26_3, if_neg hc30_4, if_neg hc37_14, if_pos hc6_15, if_neg hc19_16, if_neg hc26_17, if_pos hc37_18]
                    try rfl
                  · refine Goes.step (S' := s₁.setTop (mkF m 43 #[.val (.ref u0), .val (.int p1), .val (.int p2), .val (.int p3), .val (.int (p1 + (1 : Int32))), .val (.int (vs_u0.getD ((p1 + (1 : Int32))).toNatClampNeg 0))] [])) (fun _ k => XS.icmpYes X0.here hx rfl (pc0 := 37) (pc' := 43) rfl (hb hby d3_37) rfl (feq hc37_18).2 (by decide) (by decide) k) ?_
                    refine Goes.step (S' := s₁.setTop (mkF m 46 #[.val (.ref u0), .val (.int p1), .val (.int p2), .val (.int p3), .val (.int ((p1 + (1 : Int32)) + (1 : Int32))), .val (.int (vs_u0.getD ((p1 + (1 : Int32))).toNatClampNeg 0))] [])) (fun _ k => XS.iinc X0.here hx rfl (hb hby d3_43) rfl (l' := #[.val (.ref u0), .val (.int p1), .val (.int p2), .val (.int p3), .val (.int ((p1 + (1 : Int32)) + (1 : Int32))), .val (.int (vs_u0.getD ((p1 + (1 : Int32))).toNatClampNeg 0))]) rfl k) ?_
                    refine Goes.step (S' := s₁.setTop (mkF m 3 #[.val (.ref u0), .val (.int p1), .val (.int p2), .val (.int p3), .val (.int ((p1 + (1 : Int32)) + (1 : Int32))), .val (.int (vs_u0.getD ((p1 + (1 : Int32))).toNatClampNeg 0))] [])) (fun _ k => XS.goto X0.here hx rfl (pc0 := 46) (pc' := 3) rfl (hb hby d3_46) (by decide) (by decide) k) ?_
                    refine Goes.step (S' := s₁.setTop (mkF m 5 #[.val (.ref u0), .val (.int p1), .val (.int p2), .val (.int p3), .val (.int ((p1 + (1 : Int32)) + (1 : Int32))), .val (.int (vs_u0.getD ((p1 + (1 : Int32))).toNatClampNeg 0))] [(.int ((p1 + (1 : Int32)) + (1 : Int32)))])) (fun _ k => XS.iload X0.here hx rfl (hb hby d3_3) rfl  k) ?_
                    refine Goes.step (S' := s₁.setTop (mkF m 6 #[.val (.ref u0), .val (.int p1), .val (.int p2), .val (.int p3), .val (.int ((p1 + (1 : Int32)) + (1 : Int32))), .val (.int (vs_u0.getD ((p1 + (1 : Int32))).toNatClampNeg 0))] [(.int p2), (.int ((p1 + (1 : Int32)) + (1 : Int32)))])) (fun _ k => XS.iloadN X0.here hx rfl (hb hby d3_5) rfl  k) ?_
                    by_cases hc6_19 : ((p1 + (1 : Int32)) + (1 : Int32)) < p2
                    · refine Goes.step (S' := s₁.setTop (mkF m 9 #[.val (.ref u0), .val (.int p1), .val (.int p2), .val (.int p3), .val (.int ((p1 + (1 : Int32)) + (1 : Int32))), .val (.int (vs_u0.getD ((p1 + (1 : Int32))).toNatClampNeg 0))] [])) (fun _ k => XS.icmpNo X0.here hx rfl (hb hby d3_6) rfl (tlt hc6_19).2.1 k) ?_
                      refine Goes.step (S' := s₁.setTop (mkF m 10 #[.val (.ref u0), .val (.int p1), .val (.int p2), .val (.int p3), .val (.int ((p1 + (1 : Int32)) + (1 : Int32))), .val (.int (vs_u0.getD ((p1 + (1 : Int32))).toNatClampNeg 0))] [(.ref u0)])) (fun _ k => XS.aloadN X0.here hx rfl (hb hby d3_9) rfl rfl k) ?_
                      refine Goes.step (S' := s₁.setTop (mkF m 12 #[.val (.ref u0), .val (.int p1), .val (.int p2), .val (.int p3), .val (.int ((p1 + (1 : Int32)) + (1 : Int32))), .val (.int (vs_u0.getD ((p1 + (1 : Int32))).toNatClampNeg 0))] [(.int ((p1 + (1 : Int32)) + (1 : Int32))), (.ref u0)])) (fun _ k => XS.iload X0.here hx rfl (hb hby d3_10) rfl  k) ?_
                      refine Goes.step (S' := s₁.setTop (mkF m 13 #[.val (.ref u0), .val (.int p1), .val (.int p2), .val (.int p3), .val (.int ((p1 + (1 : Int32)) + (1 : Int32))), .val (.int (vs_u0.getD ((p1 + (1 : Int32))).toNatClampNeg 0))] [(.int (vs_u0.getD (((p1 + (1 : Int32)) + (1 : Int32))).toNatClampNeg 0))])) (fun _ k => own_baload X0 hx hZ e0 V_u0 (own_ix3_12_6 n_u0 vs_u0 hl_u0 hn_u0 p1 p2 p3 hB hb2 hb3 hc6_1 hc19_2 hc26_3 hc30_4 hc37_14 hc6_15 hc19_16 hc26_17 hc37_18 hc6_19) (hb hby d3_12) _ k) ?_
                      refine Goes.step (S' := s₁.setTop (mkF m 15 #[.val (.ref u0), .val (.int p1), .val (.int p2), .val (.int p3), .val (.int ((p1 + (1 : Int32)) + (1 : Int32))), .val (.int (vs_u0.getD (((p1 + (1 : Int32)) + (1 : Int32))).toNatClampNeg 0))] [])) (fun _ k => XS.istore X0.here hx rfl (hb hby d3_13) rfl (l' := #[.val (.ref u0), .val (.int p1), .val (.int p2), .val (.int p3), .val (.int ((p1 + (1 : Int32)) + (1 : Int32))), .val (.int (vs_u0.getD (((p1 + (1 : Int32)) + (1 : Int32))).toNatClampNeg 0))]) rfl k) ?_
                      refine Goes.step (S' := s₁.setTop (mkF m 17 #[.val (.ref u0), .val (.int p1), .val (.int p2), .val (.int p3), .val (.int ((p1 + (1 : Int32)) + (1 : Int32))), .val (.int (vs_u0.getD (((p1 + (1 : Int32)) + (1 : Int32))).toNatClampNeg 0))] [(.int (vs_u0.getD (((p1 + (1 : Int32)) + (1 : Int32))).toNatClampNeg 0))])) (fun _ k => XS.iload X0.here hx rfl (hb hby d3_15) rfl  k) ?_
                      refine Goes.step (S' := s₁.setTop (mkF m 19 #[.val (.ref u0), .val (.int p1), .val (.int p2), .val (.int p3), .val (.int ((p1 + (1 : Int32)) + (1 : Int32))), .val (.int (vs_u0.getD (((p1 + (1 : Int32)) + (1 : Int32))).toNatClampNeg 0))] [(.int (29 : Int32)), (.int (vs_u0.getD (((p1 + (1 : Int32)) + (1 : Int32))).toNatClampNeg 0))])) (fun _ k => XS.bipush X0.here hx rfl (hb hby d3_17) k) ?_
                      by_cases hc19_20 : (vs_u0.getD (((p1 + (1 : Int32)) + (1 : Int32))).toNatClampNeg 0) = (29 : Int32)
                      · refine Goes.step (S' := s₁.setTop (mkF m 40 #[.val (.ref u0), .val (.int p1), .val (.int p2), .val (.int p3), .val (.int ((p1 + (1 : Int32)) + (1 : Int32))), .val (.int (vs_u0.getD (((p1 + (1 : Int32)) + (1 : Int32))).toNatClampNeg 0))] [])) (fun _ k => XS.icmpYes X0.here hx rfl (pc0 := 19) (pc' := 40) rfl (hb hby d3_19) rfl (teq hc19_20).1 (by decide) (by decide) k) ?_
                        refine Goes.step (S' := s₁.setTop (mkF m 42 #[.val (.ref u0), .val (.int p1), .val (.int p2), .val (.int p3), .val (.int ((p1 + (1 : Int32)) + (1 : Int32))), .val (.int (vs_u0.getD (((p1 + (1 : Int32)) + (1 : Int32))).toNatClampNeg 0))] [(.int ((p1 + (1 : Int32)) + (1 : Int32)))])) (fun _ k => XS.iload X0.here hx rfl (hb hby d3_40) rfl  k) ?_
                        refine Goes.retI X0 hx Bd.notSynchronized Bd.returns (hb hby d3_42) (by decide) (by decide) ?_
                        refine ⟨congrArg (fun z => some (Value.int z)) ?_, N0, e0⟩
                        rw [f3, if_pos hc6_1, if_neg hc19_2, if_neg hc26_3, if_neg hc30_4, if_neg hc37_14, if_pos hc6_15, if_neg hc19_16, if_neg hc26_17, if_neg hc37_18, if_pos hc6_19, if_pos hc19_20]
                        try rfl
                      · refine Goes.step (S' := s₁.setTop (mkF m 22 #[.val (.ref u0), .val (.int p1), .val (.int p2), .val (.int p3), .val (.int ((p1 + (1 : Int32)) + (1 : Int32))), .val (.int (vs_u0.getD (((p1 + (1 : Int32)) + (1 : Int32))).toNatClampNeg 0))] [])) (fun _ k => XS.icmpNo X0.here hx rfl (hb hby d3_19) rfl (feq hc19_20).1 k) ?_
                        refine Goes.step (S' := s₁.setTop (mkF m 24 #[.val (.ref u0), .val (.int p1), .val (.int p2), .val (.int p3), .val (.int ((p1 + (1 : Int32)) + (1 : Int32))), .val (.int (vs_u0.getD (((p1 + (1 : Int32)) + (1 : Int32))).toNatClampNeg 0))] [(.int (vs_u0.getD (((p1 + (1 : Int32)) + (1 : Int32))).toNatClampNeg 0))])) (fun _ k => XS.iload X0.here hx rfl (hb hby d3_22) rfl  k) ?_
                        refine Goes.step (S' := s₁.setTop (mkF m 26 #[.val (.ref u0), .val (.int p1), .val (.int p2), .val (.int p3), .val (.int ((p1 + (1 : Int32)) + (1 : Int32))), .val (.int (vs_u0.getD (((p1 + (1 : Int32)) + (1 : Int32))).toNatClampNeg 0))] [(.int (30 : Int32)), (.int (vs_u0.getD (((p1 + (1 : Int32)) + (1 : Int32))).toNatClampNeg 0))])) (fun _ k => XS.bipush X0.here hx rfl (hb hby d3_24) k) ?_
                        by_cases hc26_21 : (vs_u0.getD (((p1 + (1 : Int32)) + (1 : Int32))).toNatClampNeg 0) = (30 : Int32)
                        · refine Goes.step (S' := s₁.setTop (mkF m 40 #[.val (.ref u0), .val (.int p1), .val (.int p2), .val (.int p3), .val (.int ((p1 + (1 : Int32)) + (1 : Int32))), .val (.int (vs_u0.getD (((p1 + (1 : Int32)) + (1 : Int32))).toNatClampNeg 0))] [])) (fun _ k => XS.icmpYes X0.here hx rfl (pc0 := 26) (pc' := 40) rfl (hb hby d3_26) rfl (teq hc26_21).1 (by decide) (by decide) k) ?_
                          refine Goes.step (S' := s₁.setTop (mkF m 42 #[.val (.ref u0), .val (.int p1), .val (.int p2), .val (.int p3), .val (.int ((p1 + (1 : Int32)) + (1 : Int32))), .val (.int (vs_u0.getD (((p1 + (1 : Int32)) + (1 : Int32))).toNatClampNeg 0))] [(.int ((p1 + (1 : Int32)) + (1 : Int32)))])) (fun _ k => XS.iload X0.here hx rfl (hb hby d3_40) rfl  k) ?_
                          refine Goes.retI X0 hx Bd.notSynchronized Bd.returns (hb hby d3_42) (by decide) (by decide) ?_
                          refine ⟨congrArg (fun z => some (Value.int z)) ?_, N0, e0⟩
                          rw [f3, if_pos hc6_1, if_neg hc19_2, if_neg hc26_3, if_neg hc30_4, if_neg hc37_14, if_pos hc6_15, if_neg hc19_16, if_neg hc26_17, if_neg hc37_18, if_pos hc6_19, if_neg hc19_20, if_pos hc26_21]
                          try rfl
                        · refine Goes.step (S' := s₁.setTop (mkF m 29 #[.val (.ref u0), .val (.int p1), .val (.int p2), .val (.int p3), .val (.int ((p1 + (1 : Int32)) + (1 : Int32))), .val (.int (vs_u0.getD (((p1 + (1 : Int32)) + (1 : Int32))).toNatClampNeg 0))] [])) (fun _ k => XS.icmpNo X0.here hx rfl (hb hby d3_26) rfl (feq hc26_21).1 k) ?_
                          refine Goes.step (S' := s₁.setTop (mkF m 30 #[.val (.ref u0), .val (.int p1), .val (.int p2), .val (.int p3), .val (.int ((p1 + (1 : Int32)) + (1 : Int32))), .val (.int (vs_u0.getD (((p1 + (1 : Int32)) + (1 : Int32))).toNatClampNeg 0))] [(.int p3)])) (fun _ k => XS.iloadN X0.here hx rfl (hb hby d3_29) rfl  k) ?_
                          refine Goes.step (S' := s₁.setTop (mkF m 33 #[.val (.ref u0), .val (.int p1), .val (.int p2), .val (.int p3), .val (.int ((p1 + (1 : Int32)) + (1 : Int32))), .val (.int (vs_u0.getD (((p1 + (1 : Int32)) + (1 : Int32))).toNatClampNeg 0))] [])) (fun _ k => XS.ifNo X0.here hx rfl (hb hby d3_30) rfl ((if0 _ _).trans (feq hc30_4).1) k) ?_
                          refine Goes.step (S' := s₁.setTop (mkF m 35 #[.val (.ref u0), .val (.int p1), .val (.int p2), .val (.int p3), .val (.int ((p1 + (1 : Int32)) + (1 : Int32))), .val (.int (vs_u0.getD (((p1 + (1 : Int32)) + (1 : Int32))).toNatClampNeg 0))] [(.int (vs_u0.getD (((p1 + (1 : Int32)) + (1 : Int32))).toNatClampNeg 0))])) (fun _ k => XS.iload X0.here hx rfl (hb hby d3_33) rfl  k) ?_
                          refine Goes.step (S' := s₁.setTop (mkF m 37 #[.val (.ref u0), .val (.int p1), .val (.int p2), .val (.int p3), .val (.int ((p1 + (1 : Int32)) + (1 : Int32))), .val (.int (vs_u0.getD (((p1 + (1 : Int32)) + (1 : Int32))).toNatClampNeg 0))] [(.int (31 : Int32)), (.int (vs_u0.getD (((p1 + (1 : Int32)) + (1 : Int32))).toNatClampNeg 0))])) (fun _ k => XS.bipush X0.here hx rfl (hb hby d3_35) k) ?_
                          by_cases hc37_22 : (vs_u0.getD (((p1 + (1 : Int32)) + (1 : Int32))).toNatClampNeg 0) = (31 : Int32)
                          · refine Goes.step (S' := s₁.setTop (mkF m 40 #[.val (.ref u0), .val (.int p1), .val (.int p2), .val (.int p3), .val (.int ((p1 + (1 : Int32)) + (1 : Int32))), .val (.int (vs_u0.getD (((p1 + (1 : Int32)) + (1 : Int32))).toNatClampNeg 0))] [])) (fun _ k => XS.icmpNo X0.here hx rfl (hb hby d3_37) rfl (teq hc37_22).2 k) ?_
                            refine Goes.step (S' := s₁.setTop (mkF m 42 #[.val (.ref u0), .val (.int p1), .val (.int p2), .val (.int p3), .val (.int ((p1 + (1 : Int32)) + (1 : Int32))), .val (.int (vs_u0.getD (((p1 + (1 : Int32)) + (1 : Int32))).toNatClampNeg 0))] [(.int ((p1 + (1 : Int32)) + (1 : Int32)))])) (fun _ k => XS.iload X0.here hx rfl (hb hby d3_40) rfl  k) ?_
                            refine Goes.retI X0 hx Bd.notSynchronized Bd.returns (hb hby d3_42) (by decide) (by decide) ?_
                            refine ⟨congrArg (fun z => some (Value.int z)) ?_, N0, e0⟩
                            rw [f3, if_pos hc6_1, if_neg hc19_2, if_neg hc26_3, if_neg hc30_4, if_neg hc37_14, if_pos hc6_15, if_neg hc19_16, if_neg hc26_17, if_neg hc37_18, if_pos hc6_19, if_neg hc19_20, if_neg hc26_21, if_pos hc37_22]
                            try rfl
                          · refine Goes.step (S' := s₁.setTop (mkF m 43 #[.val (.ref u0), .val (.int p1), .val (.int p2), .val (.int p3), .val (.int ((p1 + (1 : Int32)) + (1 : Int32))), .val (.int (vs_u0.getD (((p1 + (1 : Int32)) + (1 : Int32))).toNatClampNeg 0))] [])) (fun _ k => XS.icmpYes X0.here hx rfl (pc0 := 37) (pc' := 43) rfl (hb hby d3_37) rfl (feq hc37_22).2 (by decide) (by decide) k) ?_
                            refine Goes.step (S' := s₁.setTop (mkF m 46 #[.val (.ref u0), .val (.int p1), .val (.int p2), .val (.int p3), .val (.int (((p1 + (1 : Int32)) + (1 : Int32)) + (1 : Int32))), .val (.int (vs_u0.getD (((p1 + (1 : Int32)) + (1 : Int32))).toNatClampNeg 0))] [])) (fun _ k => XS.iinc X0.here hx rfl (hb hby d3_43) rfl (l' := #[.val (.ref u0), .val (.int p1), .val (.int p2), .val (.int p3), .val (.int (((p1 + (1 : Int32)) + (1 : Int32)) + (1 : Int32))), .val (.int (vs_u0.getD (((p1 + (1 : Int32)) + (1 : Int32))).toNatClampNeg 0))]) rfl k) ?_
                            refine Goes.step (S' := s₁.setTop (mkF m 3 #[.val (.ref u0), .val (.int p1), .val (.int p2), .val (.int p3), .val (.int (((p1 + (1 : Int32)) + (1 : Int32)) + (1 : Int32))), .val (.int (vs_u0.getD (((p1 + (1 : Int32)) + (1 : Int32))).toNatClampNeg 0))] [])) (fun _ k => XS.goto X0.here hx rfl (pc0 := 46) (pc' := 3) rfl (hb hby d3_46) (by decide) (by decide) k) ?_
                            refine Goes.step (S' := s₁.setTop (mkF m 5 #[.val (.ref u0), .val (.int p1), .val (.int p2), .val (.int p3), .val (.int (((p1 + (1 : Int32)) + (1 : Int32)) + (1 : Int32))), .val (.int (vs_u0.getD (((p1 + (1 : Int32)) + (1 : Int32))).toNatClampNeg 0))] [(.int (((p1 + (1 : Int32)) + (1 : Int32)) + (1 : Int32)))])) (fun _ k => XS.iload X0.here hx rfl (hb hby d3_3) rfl  k) ?_
                            refine Goes.step (S' := s₁.setTop (mkF m 6 #[.val (.ref u0), .val (.int p1), .val (.int p2), .val (.int p3), .val (.int (((p1 + (1 : Int32)) + (1 : Int32)) + (1 : Int32))), .val (.int (vs_u0.getD (((p1 + (1 : Int32)) + (1 : Int32))).toNatClampNeg 0))] [(.int p2), (.int (((p1 + (1 : Int32)) + (1 : Int32)) + (1 : Int32)))])) (fun _ k => XS.iloadN X0.here hx rfl (hb hby d3_5) rfl  k) ?_
                            by_cases hc6_23 : (((p1 + (1 : Int32)) + (1 : Int32)) + (1 : Int32)) < p2
                            · refine Goes.step (S' := s₁.setTop (mkF m 9 #[.val (.ref u0), .val (.int p1), .val (.int p2), .val (.int p3), .val (.int (((p1 + (1 : Int32)) + (1 : Int32)) + (1 : Int32))), .val (.int (vs_u0.getD (((p1 + (1 : Int32)) + (1 : Int32))).toNatClampNeg 0))] [])) (fun _ k => XS.icmpNo X0.here hx rfl (hb hby d3_6) rfl (tlt hc6_23).2.1 k) ?_
                              refine Goes.step (S' := s₁.setTop (mkF m 10 #[.val (.ref u0), .val (.int p1), .val (.int p2), .val (.int p3), .val (.int (((p1 + (1 : Int32)) + (1 : Int32)) + (1 : Int32))), .val (.int (vs_u0.getD (((p1 + (1 : Int32)) + (1 : Int32))).toNatClampNeg 0))] [(.ref u0)])) (fun _ k => XS.aloadN X0.here hx rfl (hb hby d3_9) rfl rfl k) ?_
                              refine Goes.step (S' := s₁.setTop (mkF m 12 #[.val (.ref u0), .val (.int p1), .val (.int p2), .val (.int p3), .val (.int (((p1 + (1 : Int32)) + (1 : Int32)) + (1 : Int32))), .val (.int (vs_u0.getD (((p1 + (1 : Int32)) + (1 : Int32))).toNatClampNeg 0))] [(.int (((p1 + (1 : Int32)) + (1 : Int32)) + (1 : Int32))), (.ref u0)])) (fun _ k => XS.iload X0.here hx rfl (hb hby d3_10) rfl  k) ?_
                              refine Goes.step (S' := s₁.setTop (mkF m 13 #[.val (.ref u0), .val (.int p1), .val (.int p2), .val (.int p3), .val (.int (((p1 + (1 : Int32)) + (1 : Int32)) + (1 : Int32))), .val (.int (vs_u0.getD (((p1 + (1 : Int32)) + (1 : Int32))).toNatClampNeg 0))] [(.int (vs_u0.getD ((((p1 + (1 : Int32)) + (1 : Int32)) + (1 : Int32))).toNatClampNeg 0))])) (fun _ k => own_baload X0 hx hZ e0 V_u0 (own_ix3_12_7 n_u0 vs_u0 hl_u0 hn_u0 p1 p2 p3 hB hb2 hb3 hc6_1 hc19_2 hc26_3 hc30_4 hc37_14 hc6_15 hc19_16 hc26_17 hc37_18 hc6_19 hc19_20 hc26_21 hc37_22 hc6_23) (hb hby d3_12) _ k) ?_
                              refine Goes.step (S' := s₁.setTop (mkF m 15 #[.val (.ref u0), .val (.int p1), .val (.int p2), .val (.int p3), .val (.int (((p1 + (1 : Int32)) + (1 : Int32)) + (1 : Int32))), .val (.int (vs_u0.getD ((((p1 + (1 : Int32)) + (1 : Int32)) + (1 : Int32))).toNatClampNeg 0))] [])) (fun _ k => XS.istore X0.here hx rfl (hb hby d3_13) rfl (l' := #[.val (.ref u0), .val (.int p1), .val (.int p2), .val (.int p3), .val (.int (((p1 + (1 : Int32)) + (1 : Int32)) + (1 : Int32))), .val (.int (vs_u0.getD ((((p1 + (1 : Int32)) + (1 : Int32)) + (1 : Int32))).toNatClampNeg 0))]) rfl k) ?_
                              refine Goes.step (S' := s₁.setTop (mkF m 17 #[.val (.ref u0), .val (.int p1), .val (.int p2), .val (.int p3), .val (.int (((p1 + (1 : Int32)) + (1 : Int32)) + (1 : Int32))), .val (.int (vs_u0.getD ((((p1 + (1 : Int32)) + (1 : Int32)) + (1 : Int32))).toNatClampNeg 0))] [(.int (vs_u0.getD ((((p1 + (1 : Int32)) + (1 : Int32)) + (1 : Int32))).toNatClampNeg 0))])) (fun _ k => XS.iload X0.here hx rfl (hb hby d3_15) rfl  k) ?_
                              refine Goes.step (S' := s₁.setTop (mkF m 19 #[.val (.ref u0), .val (.int p1), .val (.int p2), .val (.int p3), .val (.int (((p1 + (1 : Int32)) + (1 : Int32)) + (1 : Int32))), .val (.int (vs_u0.getD ((((p1 + (1 : Int32)) + (1 : Int32)) + (1 : Int32))).toNatClampNeg 0))] [(.int (29 : Int32)), (.int (vs_u0.getD ((((p1 + (1 : Int32)) + (1 : Int32)) + (1 : Int32))).toNatClampNeg 0))])) (fun _ k => XS.bipush X0.here hx rfl (hb hby d3_17) k) ?_
                              by_cases hc19_24 : (vs_u0.getD ((((p1 + (1 : Int32)) + (1 : Int32)) + (1 : Int32))).toNatClampNeg 0) = (29 : Int32)
                              · refine Goes.step (S' := s₁.setTop (mkF m 40 #[.val (.ref u0), .val (.int p1), .val (.int p2), .val (.int p3), .val (.int (((p1 + (1 : Int32)) + (1 : Int32)) + (1 : Int32))), .val (.int (vs_u0.getD ((((p1 + (1 : Int32)) + (1 : Int32)) + (1 : Int32))).toNatClampNeg 0))] [])) (fun _ k => XS.icmpYes X0.here hx rfl (pc0 := 19) (pc' := 40) rfl (hb hby d3_19) rfl (teq hc19_24).1 (by decide) (by decide) k) ?_
                                refine Goes.step (S' := s₁.setTop (mkF m 42 #[.val (.ref u0), .val (.int p1), .val (.int p2), .val (.int p3), .val (.int (((p1 + (1 : Int32)) + (1 : Int32)) + (1 : Int32))), .val (.int (vs_u0.getD ((((p1 + (1 : Int32)) + (1 : Int32)) + (1 : Int32))).toNatClampNeg 0))] [(.int (((p1 + (1 : Int32)) + (1 : Int32)) + (1 : Int32)))])) (fun _ k => XS.iload X0.here hx rfl (hb hby d3_40) rfl  k) ?_
                                refine Goes.retI X0 hx Bd.notSynchronized Bd.returns (hb hby d3_42) (by decide) (by decide) ?_
                                refine ⟨congrArg (fun z => some (Value.int z)) ?_, N0, e0⟩
                                rw [f3, if_pos hc6_1, if_neg hc19_2, if_neg hc26_3, if_neg hc30_4, if_neg hc37_14, if_pos hc6_15, if_neg hc19_16, if_neg hc26_17, if_neg hc37_18, if_pos hc6_19, if_neg hc19_20, if_neg hc26_21, if_neg hc37_22, if_pos hc6_23, if_pos hc19_24]
                                try rfl
                              · refine Goes.step (S' := s₁.setTop (mkF m 22 #[.val (.ref u0), .val (.int p1), .val (.int p2), .val (.int p3), .val (.int (((p1 + (1 : Int32)) + (1 : Int32)) + (1 : Int32))), .val (.int (vs_u0.getD ((((p1 + (1 : Int32)) + (1 : Int32)) + (1 : Int32))).toNatClampNeg 0))] [])) (fun _ k => XS.icmpNo X0.here hx rfl (hb hby d3_19) rfl (feq hc19_24).1 k) ?_
                                refine Goes.step (S' := s₁.setTop (mkF m 24 #[.val (.ref u0), .val (.int p1), .val (.int p2), .val (.int p3), .val (.int (((p1 + (1 : Int32)) + (1 : Int32)) + (1 : Int32))), .val (.int (vs_u0.getD ((((p1 + (1 : Int32)) + (1 : Int32)) + (1 : Int32))).toNatClampNeg 0))] [(.int (vs_u0.getD ((((p1 + (1 : Int32)) + (1 : Int32)) + (1 : Int32))).toNatClampNeg 0))])) (fun _ k => XS.iload X0.here hx rfl (hb hby d3_22) rfl  k) ?_
                                refine Goes.step (S' := s₁.setTop (mkF m 26 #[.val (.ref u0), .val (.int p1), .val (.int p2), .val (.int p3), .val (.int (((p1 + (1 : Int32)) + (1 : Int32)) + (1 : Int32))), .val (.int (vs_u0.getD ((((p1 + (1 : Int32)) + (1 : Int32)) + (1 : Int32))).toNatClampNeg 0))] [(.int (30 : Int32)), (.int (vs_u0.getD ((((p1 + (1 : Int32)) + (1 : Int32)) + (1 : Int32))).toNatClampNeg 0))])) (fun _ k => XS.bipush X0.here hx rfl (hb hby d3_24) k) ?_
                                by_cases hc26_25 : (vs_u0.getD ((((p1 + (1 : Int32)) + (1 : Int32)) + (1 : Int32))).toNatClampNeg 0) = (30 : Int32)
                                · refine Goes.step (S' := s₁.setTop (mkF m 40 #[.val (.ref u0), .val (.int p1), .val (.int p2), .val (.int p3), .val (.int (((p1 + (1 : Int32)) + (1 : Int32)) + (1 : Int32))), .val (.int (vs_u0.getD ((((p1 + (1 : Int32)) + (1 : Int32)) + (1 : Int32))).toNatClampNeg 0))] [])) (fun _ k => XS.icmpYes X0.here hx rfl (pc0 := 26) (pc' := 40) rfl (hb hby d3_26) rfl (teq hc26_25).1 (by decide) (by decide) k) ?_
                                  refine Goes.step (S' := s₁.setTop (mkF m 42 #[.val (.ref u0), .val (.int p1), .val (.int p2), .val (.int p3), .val (.int (((p1 + (1 : Int32)) + (1 : Int32)) + (1 : Int32))), .val (.int (vs_u0.getD ((((p1 + (1 : Int32)) + (1 : Int32)) + (1 : Int32))).toNatClampNeg 0))] [(.int (((p1 + (1 : Int32)) + (1 : Int32)) + (1 : Int32)))])) (fun _ k => XS.iload X0.here hx rfl (hb hby d3_40) rfl  k) ?_
                                  refine Goes.retI X0 hx Bd.notSynchronized Bd.returns (hb hby d3_42) (by decide) (by decide) ?_
                                  refine ⟨congrArg (fun z => some (Value.int z)) ?_, N0, e0⟩
                                  rw [f3, if_pos hc6_1, if_neg hc19_2, if_neg hc26_3, if_neg hc30_4, if_neg hc37_14, if_pos hc6_15, if_neg hc19_16, if_neg hc26_17, if_neg hc37_18, if_pos hc6_19, if_neg hc19_20, if_neg hc26_21, if_neg hc37_22, if_pos hc6_23, if_neg hc19_24, if_pos hc26_25]
                                  try rfl
                                · refine Goes.step (S' := s₁.setTop (mkF m 29 #[.val (.ref u0), .val (.int p1), .val (.int p2), .val (.int p3), .val (.int (((p1 + (1 : Int32)) + (1 : Int32)) + (1 : Int32))), .val (.int (vs_u0.getD ((((p1 + (1 : Int32)) + (1 : Int32)) + (1 : Int32))).toNatClampNeg 0))] [])) (fun _ k => XS.icmpNo X0.here hx rfl (hb hby d3_26) rfl (feq hc26_25).1 k) ?_
                                  refine Goes.step (S' := s₁.setTop (mkF m 30 #[.val (.ref u0), .val (.int p1), .val (.int p2), .val (.int p3), .val (.int (((p1 + (1 : Int32)) + (1 : Int32)) + (1 : Int32))), .val (.int (vs_u0.getD ((((p1 + (1 : Int32)) + (1 : Int32)) + (1 : Int32))).toNatClampNeg 0))] [(.int p3)])) (fun _ k => XS.iloadN X0.here hx rfl (hb hby d3_29) rfl  k) ?_
                                  refine Goes.step (S' := s₁.setTop (mkF m 33 #[.val (.ref u0), .val (.int p1), .val (.int p2), .val (.int p3), .val (.int (((p1 + (1 : Int32)) + (1 : Int32)) + (1 : Int32))), .val (.int (vs_u0.getD ((((p1 + (1 : Int32)) + (1 : Int32)) + (1 : Int32))).toNatClampNeg 0))] [])) (fun _ k => XS.ifNo X0.here hx rfl (hb hby d3_30) rfl ((if0 _ _).trans (feq hc30_4).1) k) ?_
                                  refine Goes.step (S' := s₁.setTop (mkF m 35 #[.val (.ref u0), .val (.int p1), .val (.int p2), .val (.int p3), .val (.int (((p1 + (1 : Int32)) + (1 : Int32)) + (1 : Int32))), .val (.int (vs_u0.getD ((((p1 + (1 : Int32)) + (1 : Int32)) + (1 : Int32))).toNatClampNeg 0))] [(.int (vs_u0.getD ((((p1 + (1 : Int32)) + (1 : Int32)) + (1 : Int32))).toNatClampNeg 0))])) (fun _ k => XS.iload X0.here hx rfl (hb hby d3_33) rfl  k) ?_
                                  refine Goes.step (S' := s₁.setTop (mkF m 37 #[.val (.ref u0), .val (.int p1), .val (.int p2), .val (.int p3), .val (.int (((p1 + (1 : Int32)) + (1 : Int32)) + (1 : Int32))), .val (.int (vs_u0.getD ((((p1 + (1 : Int32)) + (1 : Int32)) + (1 : Int32))).toNatClampNeg 0))] [(.int (31 : Int32)), (.int (vs_u0.getD ((((p1 + (1 : Int32)) + (1 : Int32)) + (1 : Int32))).toNatClampNeg 0))])) (fun _ k => XS.bipush X0.here hx rfl (hb hby d3_35) k) ?_
                                  by_cases hc37_26 : (vs_u0.getD ((((p1 + (1 : Int32)) + (1 : Int32)) + (1 : Int32))).toNatClampNeg 0) = (31 : Int32)
                                  · refine Goes.step (S' := s₁.setTop (mkF m 40 #[.val (.ref u0), .val (.int p1), .val (.int p2), .val (.int p3), .val (.int (((p1 + (1 : Int32)) + (1 : Int32)) + (1 : Int32))), .val (.int (vs_u0.getD ((((p1 + (1 : Int32)) + (1 : Int32)) + (1 : Int32))).toNatClampNeg 0))] [])) (fun _ k => XS.icmpNo X0.here hx rfl (hb hby d3_37) rfl (teq hc37_26).2 k) ?_
                                    refine Goes.step (S' := s₁.setTop (mkF m 42 #[.val (.ref u0), .val (.int p1), .val (.int p2), .val (.int p3), .val (.int (((p1 + (1 : Int32)) + (1 : Int32)) + (1 : Int32))), .val (.int (vs_u0.getD ((((p1 + (1 : Int32)) + (1 : Int32)) + (1 : Int32))).toNatClampNeg 0))] [(.int (((p1 + (1 : Int32)) + (1 : Int32)) + (1 : Int32)))])) (fun _ k => XS.iload X0.here hx rfl (hb hby d3_40) rfl  k) ?_
                                    refine Goes.retI X0 hx Bd.notSynchronized Bd.returns (hb hby d3_42) (by decide) (by decide) ?_
                                    refine ⟨congrArg (fun z => some (Value.int z)) ?_, N0, e0⟩
                                    rw [f3, if_pos hc6_1, if_neg hc19_2, if_neg hc26_3, if_neg hc30_4, if_neg hc37_14, if_pos hc6_15, if_neg hc19_16, if_neg hc26_17, if_neg hc37_18, if_pos hc6_19, if_neg hc19_20, if_neg hc26_21, if_neg hc37_22, if_pos hc6_23, if_neg hc19_24, if_neg hc26_25, if_pos hc37_26]
                                    try rfl
                                  · refine Goes.step (S' := s₁.setTop (mkF m 43 #[.val (.ref u0), .val (.int p1), .val (.int p2), .val (.int p3), .val (.int (((p1 + (1 : Int32)) + (1 : Int32)) + (1 : Int32))), .val (.int (vs_u0.getD ((((p1 + (1 : Int32)) + (1 : Int32)) + (1 : Int32))).toNatClampNeg 0))] [])) (fun _ k => XS.icmpYes X0.here hx rfl (pc0 := 37) (pc' := 43) rfl (hb hby d3_37) rfl (feq hc37_26).2 (by decide) (by decide) k) ?_
                                    refine Goes.step (S' := s₁.setTop (mkF m 46 #[.val (.ref u0), .val (.int p1), .val (.int p2), .val (.int p3), .val (.int ((((p1 + (1 : Int32)) + (1 : Int32)) + (1 : Int32)) + (1 : Int32))), .val (.int (vs_u0.getD ((((p1 + (1 : Int32)) + (1 : Int32)) + (1 : Int32))).toNatClampNeg 0))] [])) (fun _ k => XS.iinc X0.here hx rfl (hb hby d3_43) rfl (l' := #[.val (.ref u0), .val (.int p1), .val (.int p2), .val (.int p3), .val (.int ((((p1 + (1 : Int32)) + (1 : Int32)) + (1 : Int32)) + (1 : Int32))), .val (.int (vs_u0.getD ((((p1 + (1 : Int32)) + (1 : Int32)) + (1 : Int32))).toNatClampNeg 0))]) rfl k) ?_
                                    refine Goes.step (S' := s₁.setTop (mkF m 3 #[.val (.ref u0), .val (.int p1), .val (.int p2), .val (.int p3), .val (.int ((((p1 + (1 : Int32)) + (1 : Int32)) + (1 : Int32)) + (1 : Int32))), .val (.int (vs_u0.getD ((((p1 + (1 : Int32)) + (1 : Int32)) + (1 : Int32))).toNatClampNeg 0))] [])) (fun _ k => XS.goto X0.here hx rfl (pc0 := 46) (pc' := 3) rfl (hb hby d3_46) (by decide) (by decide) k) ?_
                                    refine Goes.step (S' := s₁.setTop (mkF m 5 #[.val (.ref u0), .val (.int p1), .val (.int p2), .val (.int p3), .val (.int ((((p1 + (1 : Int32)) + (1 : Int32)) + (1 : Int32)) + (1 : Int32))), .val (.int (vs_u0.getD ((((p1 + (1 : Int32)) + (1 : Int32)) + (1 : Int32))).toNatClampNeg 0))] [(.int ((((p1 + (1 : Int32)) + (1 : Int32)) + (1 : Int32)) + (1 : Int32)))])) (fun _ k => XS.iload X0.here hx rfl (hb hby d3_3) rfl  k) ?_
                                    refine Goes.step (S' := s₁.setTop (mkF m 6 #[.val (.ref u0), .val (.int p1), .val (.int p2), .val (.int p3), .val (.int ((((p1 + (1 : Int32)) + (1 : Int32)) + (1 : Int32)) + (1 : Int32))), .val (.int (vs_u0.getD ((((p1 + (1 : Int32)) + (1 : Int32)) + (1 : Int32))).toNatClampNeg 0))] [(.int p2), (.int ((((p1 + (1 : Int32)) + (1 : Int32)) + (1 : Int32)) + (1 : Int32)))])) (fun _ k => XS.iloadN X0.here hx rfl (hb hby d3_5) rfl  k) ?_
                                    refine Goes.step (S' := s₁.setTop (mkF m 49 #[.val (.ref u0), .val (.int p1), .val (.int p2), .val (.int p3), .val (.int ((((p1 + (1 : Int32)) + (1 : Int32)) + (1 : Int32)) + (1 : Int32))), .val (.int (vs_u0.getD ((((p1 + (1 : Int32)) + (1 : Int32)) + (1 : Int32))).toNatClampNeg 0))] [])) (fun _ k => XS.icmpYes X0.here hx rfl (pc0 := 6) (pc' := 49) rfl (hb hby d3_6) rfl (flt (own_hc3_6_2 n_u0 vs_u0 hl_u0 hn_u0 p1 p2 p3 hB hb2 hb3 hc6_1 hc19_2 hc26_3 hc30_4 hc37_14 hc6_15 hc19_16 hc26_17 hc37_18 hc6_19 hc19_20 hc26_21 hc37_22 hc6_23 hc19_24 hc26_25 hc37_26)).2.1 (by decide) (by decide) k) ?_
                                    refine Goes.step (S' := s₁.setTop (mkF m 50 #[.val (.ref u0), .val (.int p1), .val (.int p2), .val (.int p3), .val (.int ((((p1 + (1 : Int32)) + (1 : Int32)) + (1 : Int32)) + (1 : Int32))), .val (.int (vs_u0.getD ((((p1 + (1 : Int32)) + (1 : Int32)) + (1 : Int32))).toNatClampNeg 0))] [(.int (-1 : Int32))])) (fun _ k => XS.iconst X0.here hx rfl (hb hby d3_49) k) ?_
                                    refine Goes.retI X0 hx Bd.notSynchronized Bd.returns (hb hby d3_50) (by decide) (by decide) ?_
                                    refine ⟨congrArg (fun z => some (Value.int z)) ?_, N0, e0⟩
                                    rw [f3, if_pos hc6_1, if_neg hc19_2, if_neg hc26_3, if_neg hc30_4, if_neg hc37_14, if_pos hc6_15, if_neg hc19_16, if_neg hc26_17, if_neg hc37_18, if_pos hc6_19, if_neg hc19_20, if_neg hc26_21, if_neg hc37_22, if_pos hc6_23, if_neg hc19_24, if_neg hc26_25, if_neg hc37_26]
                                    try rfl
                            · refine Goes.step (S' := s₁.setTop (mkF m 49 #[.val (.ref u0), .val (.int p1), .val (.int p2), .val (.int p3), .val (.int (((p1 + (1 : Int32)) + (1 : Int32)) + (1 : Int32))), .val (.int (vs_u0.getD (((p1 + (1 : Int32)) + (1 : Int32))).toNatClampNeg 0))] [])) (fun _ k => XS.icmpYes X0.here hx rfl (pc0 := 6) (pc' := 49) rfl (hb hby d3_6) rfl (flt hc6_23).2.1 (by decide) (by decide) k) ?_
                              refine Goes.step (S' := s₁.setTop (mkF m 50 #[.val (.ref u0), .val (.int p1), .val (.int p2), .val (.int p3), .val (.int (((p1 + (1 : Int32)) + (1 : Int32)) + (1 : Int32))), .val (.int (vs_u0.getD (((p1 + (1 : Int32)) + (1 : Int32))).toNatClampNeg 0))] [(.int (-1 : Int32))])) (fun _ k => XS.iconst X0.here hx rfl (hb hby d3_49) k) ?_
                              refine Goes.retI X0 hx Bd.notSynchronized Bd.returns (hb hby d3_50) (by decide) (by decide) ?_
                              refine ⟨congrArg (fun z => some (Value.int z)) ?_, N0, e0⟩
                              rw [f3, if_pos hc6_1, if_neg hc19_2, if_neg hc26_3, if_neg hc30_4, if_neg hc37_14, if_pos hc6_15, if_neg hc19_16, if_neg hc26_17, if_neg hc37_18, if_pos hc6_19, if_neg hc19_20, if_neg hc26_21, if_neg hc37_22, if_neg hc6_23]
                              try rfl
                    · refine Goes.step (S' := s₁.setTop (mkF m 49 #[.val (.ref u0), .val (.int p1), .val (.int p2), .val (.int p3), .val (.int ((p1 + (1 : Int32)) + (1 : Int32))), .val (.int (vs_u0.getD ((p1 + (1 : Int32))).toNatClampNeg 0))] [])) (fun _ k => XS.icmpYes X0.here hx rfl (pc0 := 6) (pc' := 49) rfl (hb hby d3_6) rfl (flt hc6_19).2.1 (by decide) (by decide) k) ?_
                      refine Goes.step (S' := s₁.setTop (mkF m 50 #[.val (.ref u0), .val (.int p1), .val (.int p2), .val (.int p3), .val (.int ((p1 + (1 : Int32)) + (1 : Int32))), .val (.int (vs_u0.getD ((p1 + (1 : Int32))).toNatClampNeg 0))] [(.int (-1 : Int32))])) (fun _ k => XS.iconst X0.here hx rfl (hb hby d3_49) k) ?_
                      refine Goes.retI X0 hx Bd.notSynchronized Bd.returns (hb hby d3_50) (by decide) (by decide) ?_
                      refine ⟨congrArg (fun z => some (Value.int z)) ?_, N0, e0⟩
                      rw [f3, if_pos hc6_1, if_neg hc19_2, if_neg hc26_3, if_neg hc30_4, if_neg hc37_14, if_pos hc6_15, if_neg hc19_16, if_neg hc26_17, if_neg hc37_18, if_neg hc6_19]
                      try rfl
            · refine Goes.step (S' := s₁.setTop (mkF m 49 #[.val (.ref u0), .val (.int p1), .val (.int p2), .val (.int p3), .val (.int (p1 + (1 : Int32))), .val (.int (vs_u0.getD (p1).toNatClampNeg 0))] [])) (fun _ k => XS.icmpYes X0.here hx rfl (pc0 := 6) (pc' := 49) rfl (hb hby d3_6) rfl (flt hc6_15).2.1 (by decide) (by decide) k) ?_
              refine Goes.step (S' := s₁.setTop (mkF m 50 #[.val (.ref u0), .val (.int p1), .val (.int p2), .val (.int p3), .val (.int (p1 + (1 : Int32))), .val (.int (vs_u0.getD (p1).toNatClampNeg 0))] [(.int (-1 : Int32))])) (fun _ k => XS.iconst X0.here hx rfl (hb hby d3_49) k) ?_
              refine Goes.retI X0 hx Bd.notSynchronized Bd.returns (hb hby d3_50) (by decide) (by decide) ?_
              refine ⟨congrArg (fun z => some (Value.int z)) ?_, N0, e0⟩
              rw [f3, if_pos hc6_1, if_neg hc19_2, if_neg hc26_3, if_neg hc30_4, if_neg hc37_14, if_neg hc6_15]
              try rfl
  · refine Goes.step (S' := s₁.setTop (mkF m 49 #[.val (.ref u0), .val (.int p1), .val (.int p2), .val (.int p3), .val (.int p1), .unset] [])) (fun _ k => XS.icmpYes X0.here hx rfl (pc0 := 6) (pc' := 49) rfl (hb hby d3_6) rfl (flt hc6_1).2.1 (by decide) (by decide) k) ?_
    refine Goes.step (S' := s₁.setTop (mkF m 50 #[.val (.ref u0), .val (.int p1), .val (.int p2), .val (.int p3), .val (.int p1), .unset] [(.int (-1 : Int32))])) (fun _ k => XS.iconst X0.here hx rfl (hb hby d3_49) k) ?_
    refine Goes.retI X0 hx Bd.notSynchronized Bd.returns (hb hby d3_50) (by decide) (by decide) ?_
    refine ⟨congrArg (fun z => some (Value.int z)) ?_, N0, e0⟩
    rw [f3, if_neg hc6_1]
    try rfl
def own_S (x d : Int32) : Prop := x.toInt = 29 ∨ x.toInt = 30 ∨ (d.toInt ≠ 0 ∧ x.toInt = 31)
theorem own_sep (x d : Int32) (hx : -128 ≤ x.toInt ∧ x.toInt < 128) : f4 x d = 0 ↔ ¬ own_S x d := by
  have m := own_m255 x
  simp only [f4, own_S, Int32.lt_iff_toInt_lt, ← Int32.toInt_inj, Int32.reduceToInt, m]
  repeat' split
  all_goals first | (refine ⟨fun _ => ?_, fun _ => by decide⟩; omega) | (refine ⟨fun q => absurd q (by decide), fun q => absurd ?_ q⟩; omega)
theorem own_hit0 (x0 x1 x2 x3 fr to d : Int32) (hx : -128 ≤ x0.toInt ∧ x0.toInt < 128) : f2 (4 : Int32) [x0, x1, x2, x3] (0 : Int32) fr to d = 0 ↔ ¬ (fr.toInt ≤ 0 ∧ 0 < to.toInt ∧ own_S x0 d) := by
  have k := own_sep x0 d hx
  have e : ([x0, x1, x2, x3].getD ((0 : Int32)).toNatClampNeg 0) = x0 := rfl
  unfold f2
  rw [e]
  by_cases h1 : (0 : Int32) < fr
  · rw [if_pos h1]
    simp only [Int32.lt_iff_toInt_lt, Int32.reduceToInt] at h1
    exact ⟨fun _ q => by omega, fun _ => rfl⟩
  rw [if_neg h1]
  by_cases h2 : (0 : Int32) < to
  · rw [if_pos h2]
    simp only [Int32.lt_iff_toInt_lt, Int32.reduceToInt] at h1 h2
    by_cases h3 : f4 x0 d = 0
    · rw [if_pos h3]
      exact ⟨fun _ q => (k.mp h3) q.2.2, fun _ => rfl⟩
    · rw [if_neg h3]
      refine ⟨fun q => absurd q (by decide), fun q => absurd ⟨by omega, by omega, ?_⟩ q⟩
      exact Classical.not_not.mp (fun z => h3 (k.mpr z))
  · rw [if_neg h2]
    simp only [Int32.lt_iff_toInt_lt, Int32.reduceToInt] at h2
    exact ⟨fun _ q => by omega, fun _ => rfl⟩
theorem own_hit1 (x0 x1 x2 x3 fr to d : Int32) (hx : -128 ≤ x1.toInt ∧ x1.toInt < 128) : f2 (4 : Int32) [x0, x1, x2, x3] (1 : Int32) fr to d = 0 ↔ ¬ (fr.toInt ≤ 1 ∧ 1 < to.toInt ∧ own_S x1 d) := by
  have k := own_sep x1 d hx
  have e : ([x0, x1, x2, x3].getD ((1 : Int32)).toNatClampNeg 0) = x1 := rfl
  unfold f2
  rw [e]
  by_cases h1 : (1 : Int32) < fr
  · rw [if_pos h1]
    simp only [Int32.lt_iff_toInt_lt, Int32.reduceToInt] at h1
    exact ⟨fun _ q => by omega, fun _ => rfl⟩
  rw [if_neg h1]
  by_cases h2 : (1 : Int32) < to
  · rw [if_pos h2]
    simp only [Int32.lt_iff_toInt_lt, Int32.reduceToInt] at h1 h2
    by_cases h3 : f4 x1 d = 0
    · rw [if_pos h3]
      exact ⟨fun _ q => (k.mp h3) q.2.2, fun _ => rfl⟩
    · rw [if_neg h3]
      refine ⟨fun q => absurd q (by decide), fun q => absurd ⟨by omega, by omega, ?_⟩ q⟩
      exact Classical.not_not.mp (fun z => h3 (k.mpr z))
  · rw [if_neg h2]
    simp only [Int32.lt_iff_toInt_lt, Int32.reduceToInt] at h2
    exact ⟨fun _ q => by omega, fun _ => rfl⟩
theorem own_hit2 (x0 x1 x2 x3 fr to d : Int32) (hx : -128 ≤ x2.toInt ∧ x2.toInt < 128) : f2 (4 : Int32) [x0, x1, x2, x3] (2 : Int32) fr to d = 0 ↔ ¬ (fr.toInt ≤ 2 ∧ 2 < to.toInt ∧ own_S x2 d) := by
  have k := own_sep x2 d hx
  have e : ([x0, x1, x2, x3].getD ((2 : Int32)).toNatClampNeg 0) = x2 := rfl
  unfold f2
  rw [e]
  by_cases h1 : (2 : Int32) < fr
  · rw [if_pos h1]
    simp only [Int32.lt_iff_toInt_lt, Int32.reduceToInt] at h1
    exact ⟨fun _ q => by omega, fun _ => rfl⟩
  rw [if_neg h1]
  by_cases h2 : (2 : Int32) < to
  · rw [if_pos h2]
    simp only [Int32.lt_iff_toInt_lt, Int32.reduceToInt] at h1 h2
    by_cases h3 : f4 x2 d = 0
    · rw [if_pos h3]
      exact ⟨fun _ q => (k.mp h3) q.2.2, fun _ => rfl⟩
    · rw [if_neg h3]
      refine ⟨fun q => absurd q (by decide), fun q => absurd ⟨by omega, by omega, ?_⟩ q⟩
      exact Classical.not_not.mp (fun z => h3 (k.mpr z))
  · rw [if_neg h2]
    simp only [Int32.lt_iff_toInt_lt, Int32.reduceToInt] at h2
    exact ⟨fun _ q => by omega, fun _ => rfl⟩
theorem own_hit3 (x0 x1 x2 x3 fr to d : Int32) (hx : -128 ≤ x3.toInt ∧ x3.toInt < 128) : f2 (4 : Int32) [x0, x1, x2, x3] (3 : Int32) fr to d = 0 ↔ ¬ (fr.toInt ≤ 3 ∧ 3 < to.toInt ∧ own_S x3 d) := by
  have k := own_sep x3 d hx
  have e : ([x0, x1, x2, x3].getD ((3 : Int32)).toNatClampNeg 0) = x3 := rfl
  unfold f2
  rw [e]
  by_cases h1 : (3 : Int32) < fr
  · rw [if_pos h1]
    simp only [Int32.lt_iff_toInt_lt, Int32.reduceToInt] at h1
    exact ⟨fun _ q => by omega, fun _ => rfl⟩
  rw [if_neg h1]
  by_cases h2 : (3 : Int32) < to
  · rw [if_pos h2]
    simp only [Int32.lt_iff_toInt_lt, Int32.reduceToInt] at h1 h2
    by_cases h3 : f4 x3 d = 0
    · rw [if_pos h3]
      exact ⟨fun _ q => (k.mp h3) q.2.2, fun _ => rfl⟩
    · rw [if_neg h3]
      refine ⟨fun q => absurd q (by decide), fun q => absurd ⟨by omega, by omega, ?_⟩ q⟩
      exact Classical.not_not.mp (fun z => h3 (k.mpr z))
  · rw [if_neg h2]
    simp only [Int32.lt_iff_toInt_lt, Int32.reduceToInt] at h2
    exact ⟨fun _ q => by omega, fun _ => rfl⟩
set_option maxHeartbeats 40000000 in
theorem own_idx0 (x0 x1 x2 x3 to d : Int32) (ht : 0 ≤ to.toInt ∧ to.toInt ≤ 4) : (((0 : Int32).toInt ≤ 0 ∧ 0 < to.toInt ∧ own_S x0 d) → (f3 (4 : Int32) [x0, x1, x2, x3] (0 : Int32) to d).toInt = 0) ∧ (¬ ((0 : Int32).toInt ≤ 0 ∧ 0 < to.toInt ∧ own_S x0 d) → ((0 : Int32).toInt ≤ 1 ∧ 1 < to.toInt ∧ own_S x1 d) → (f3 (4 : Int32) [x0, x1, x2, x3] (0 : Int32) to d).toInt = 1) ∧ (¬ ((0 : Int32).toInt ≤ 0 ∧ 0 < to.toInt ∧ own_S x0 d) → ¬ ((0 : Int32).toInt ≤ 1 ∧ 1 < to.toInt ∧ own_S x1 d) → ((0 : Int32).toInt ≤ 2 ∧ 2 < to.toInt ∧ own_S x2 d) → (f3 (4 : Int32) [x0, x1, x2, x3] (0 : Int32) to d).toInt = 2) ∧ (¬ ((0 : Int32).toInt ≤ 0 ∧ 0 < to.toInt ∧ own_S x0 d) → ¬ ((0 : Int32).toInt ≤ 1 ∧ 1 < to.toInt ∧ own_S x1 d) → ¬ ((0 : Int32).toInt ≤ 2 ∧ 2 < to.toInt ∧ own_S x2 d) → ((0 : Int32).toInt ≤ 3 ∧ 3 < to.toInt ∧ own_S x3 d) → (f3 (4 : Int32) [x0, x1, x2, x3] (0 : Int32) to d).toInt = 3) ∧ (¬ ((0 : Int32).toInt ≤ 0 ∧ 0 < to.toInt ∧ own_S x0 d) → ¬ ((0 : Int32).toInt ≤ 1 ∧ 1 < to.toInt ∧ own_S x1 d) → ¬ ((0 : Int32).toInt ≤ 2 ∧ 2 < to.toInt ∧ own_S x2 d) → ¬ ((0 : Int32).toInt ≤ 3 ∧ 3 < to.toInt ∧ own_S x3 d) → (f3 (4 : Int32) [x0, x1, x2, x3] (0 : Int32) to d).toInt = -1) := by
  have g0 : ([x0, x1, x2, x3].getD ((0 : Int32)).toNatClampNeg 0) = x0 := rfl
  have g1 : ([x0, x1, x2, x3].getD (((0 : Int32) + (1 : Int32))).toNatClampNeg 0) = x1 := rfl
  have g2 : ([x0, x1, x2, x3].getD ((((0 : Int32) + (1 : Int32)) + (1 : Int32))).toNatClampNeg 0) = x2 := rfl
  have g3 : ([x0, x1, x2, x3].getD (((((0 : Int32) + (1 : Int32)) + (1 : Int32)) + (1 : Int32))).toNatClampNeg 0) = x3 := rfl
  simp only [f3, own_S, g0, g1, g2, g3]
  simp only [Int32.reduceAdd, Int32.lt_iff_toInt_lt, ← Int32.toInt_inj, apply_ite Int32.toInt, Int32.reduceToInt]
  generalize x0.toInt = y0
  generalize x1.toInt = y1
  generalize x2.toInt = y2
  generalize x3.toInt = y3
  generalize to.toInt = t at *
  generalize d.toInt = z
  refine ⟨fun _ => ?_, fun _ _ => ?_, fun _ _ _ => ?_, fun _ _ _ _ => ?_, fun _ _ _ _ => ?_⟩
  all_goals repeat' (first | omega | split)
set_option maxHeartbeats 40000000 in
theorem own_idx1 (x0 x1 x2 x3 to d : Int32) (ht : 0 ≤ to.toInt ∧ to.toInt ≤ 4) : (((1 : Int32).toInt ≤ 0 ∧ 0 < to.toInt ∧ own_S x0 d) → (f3 (4 : Int32) [x0, x1, x2, x3] (1 : Int32) to d).toInt = 0) ∧ (¬ ((1 : Int32).toInt ≤ 0 ∧ 0 < to.toInt ∧ own_S x0 d) → ((1 : Int32).toInt ≤ 1 ∧ 1 < to.toInt ∧ own_S x1 d) → (f3 (4 : Int32) [x0, x1, x2, x3] (1 : Int32) to d).toInt = 1) ∧ (¬ ((1 : Int32).toInt ≤ 0 ∧ 0 < to.toInt ∧ own_S x0 d) → ¬ ((1 : Int32).toInt ≤ 1 ∧ 1 < to.toInt ∧ own_S x1 d) → ((1 : Int32).toInt ≤ 2 ∧ 2 < to.toInt ∧ own_S x2 d) → (f3 (4 : Int32) [x0, x1, x2, x3] (1 : Int32) to d).toInt = 2) ∧ (¬ ((1 : Int32).toInt ≤ 0 ∧ 0 < to.toInt ∧ own_S x0 d) → ¬ ((1 : Int32).toInt ≤ 1 ∧ 1 < to.toInt ∧ own_S x1 d) → ¬ ((1 : Int32).toInt ≤ 2 ∧ 2 < to.toInt ∧ own_S x2 d) → ((1 : Int32).toInt ≤ 3 ∧ 3 < to.toInt ∧ own_S x3 d) → (f3 (4 : Int32) [x0, x1, x2, x3] (1 : Int32) to d).toInt = 3) ∧ (¬ ((1 : Int32).toInt ≤ 0 ∧ 0 < to.toInt ∧ own_S x0 d) → ¬ ((1 : Int32).toInt ≤ 1 ∧ 1 < to.toInt ∧ own_S x1 d) → ¬ ((1 : Int32).toInt ≤ 2 ∧ 2 < to.toInt ∧ own_S x2 d) → ¬ ((1 : Int32).toInt ≤ 3 ∧ 3 < to.toInt ∧ own_S x3 d) → (f3 (4 : Int32) [x0, x1, x2, x3] (1 : Int32) to d).toInt = -1) := by
  have g0 : ([x0, x1, x2, x3].getD ((1 : Int32)).toNatClampNeg 0) = x1 := rfl
  have g1 : ([x0, x1, x2, x3].getD (((1 : Int32) + (1 : Int32))).toNatClampNeg 0) = x2 := rfl
  have g2 : ([x0, x1, x2, x3].getD ((((1 : Int32) + (1 : Int32)) + (1 : Int32))).toNatClampNeg 0) = x3 := rfl
  have g3 : ([x0, x1, x2, x3].getD (((((1 : Int32) + (1 : Int32)) + (1 : Int32)) + (1 : Int32))).toNatClampNeg 0) = 0 := rfl
  simp only [f3, own_S, g0, g1, g2, g3]
  simp only [Int32.reduceAdd, Int32.lt_iff_toInt_lt, ← Int32.toInt_inj, apply_ite Int32.toInt, Int32.reduceToInt]
  generalize x0.toInt = y0
  generalize x1.toInt = y1
  generalize x2.toInt = y2
  generalize x3.toInt = y3
  generalize to.toInt = t at *
  generalize d.toInt = z
  refine ⟨fun _ => ?_, fun _ _ => ?_, fun _ _ _ => ?_, fun _ _ _ _ => ?_, fun _ _ _ _ => ?_⟩
  all_goals repeat' (first | omega | split)
set_option maxHeartbeats 40000000 in
theorem own_idx2 (x0 x1 x2 x3 to d : Int32) (ht : 0 ≤ to.toInt ∧ to.toInt ≤ 4) : (((2 : Int32).toInt ≤ 0 ∧ 0 < to.toInt ∧ own_S x0 d) → (f3 (4 : Int32) [x0, x1, x2, x3] (2 : Int32) to d).toInt = 0) ∧ (¬ ((2 : Int32).toInt ≤ 0 ∧ 0 < to.toInt ∧ own_S x0 d) → ((2 : Int32).toInt ≤ 1 ∧ 1 < to.toInt ∧ own_S x1 d) → (f3 (4 : Int32) [x0, x1, x2, x3] (2 : Int32) to d).toInt = 1) ∧ (¬ ((2 : Int32).toInt ≤ 0 ∧ 0 < to.toInt ∧ own_S x0 d) → ¬ ((2 : Int32).toInt ≤ 1 ∧ 1 < to.toInt ∧ own_S x1 d) → ((2 : Int32).toInt ≤ 2 ∧ 2 < to.toInt ∧ own_S x2 d) → (f3 (4 : Int32) [x0, x1, x2, x3] (2 : Int32) to d).toInt = 2) ∧ (¬ ((2 : Int32).toInt ≤ 0 ∧ 0 < to.toInt ∧ own_S x0 d) → ¬ ((2 : Int32).toInt ≤ 1 ∧ 1 < to.toInt ∧ own_S x1 d) → ¬ ((2 : Int32).toInt ≤ 2 ∧ 2 < to.toInt ∧ own_S x2 d) → ((2 : Int32).toInt ≤ 3 ∧ 3 < to.toInt ∧ own_S x3 d) → (f3 (4 : Int32) [x0, x1, x2, x3] (2 : Int32) to d).toInt = 3) ∧ (¬ ((2 : Int32).toInt ≤ 0 ∧ 0 < to.toInt ∧ own_S x0 d) → ¬ ((2 : Int32).toInt ≤ 1 ∧ 1 < to.toInt ∧ own_S x1 d) → ¬ ((2 : Int32).toInt ≤ 2 ∧ 2 < to.toInt ∧ own_S x2 d) → ¬ ((2 : Int32).toInt ≤ 3 ∧ 3 < to.toInt ∧ own_S x3 d) → (f3 (4 : Int32) [x0, x1, x2, x3] (2 : Int32) to d).toInt = -1) := by
  have g0 : ([x0, x1, x2, x3].getD ((2 : Int32)).toNatClampNeg 0) = x2 := rfl
  have g1 : ([x0, x1, x2, x3].getD (((2 : Int32) + (1 : Int32))).toNatClampNeg 0) = x3 := rfl
  have g2 : ([x0, x1, x2, x3].getD ((((2 : Int32) + (1 : Int32)) + (1 : Int32))).toNatClampNeg 0) = 0 := rfl
  have g3 : ([x0, x1, x2, x3].getD (((((2 : Int32) + (1 : Int32)) + (1 : Int32)) + (1 : Int32))).toNatClampNeg 0) = 0 := rfl
  simp only [f3, own_S, g0, g1, g2, g3]
  simp only [Int32.reduceAdd, Int32.lt_iff_toInt_lt, ← Int32.toInt_inj, apply_ite Int32.toInt, Int32.reduceToInt]
  generalize x0.toInt = y0
  generalize x1.toInt = y1
  generalize x2.toInt = y2
  generalize x3.toInt = y3
  generalize to.toInt = t at *
  generalize d.toInt = z
  refine ⟨fun _ => ?_, fun _ _ => ?_, fun _ _ _ => ?_, fun _ _ _ _ => ?_, fun _ _ _ _ => ?_⟩
  all_goals repeat' (first | omega | split)
set_option maxHeartbeats 40000000 in
theorem own_idx3 (x0 x1 x2 x3 to d : Int32) (ht : 0 ≤ to.toInt ∧ to.toInt ≤ 4) : (((3 : Int32).toInt ≤ 0 ∧ 0 < to.toInt ∧ own_S x0 d) → (f3 (4 : Int32) [x0, x1, x2, x3] (3 : Int32) to d).toInt = 0) ∧ (¬ ((3 : Int32).toInt ≤ 0 ∧ 0 < to.toInt ∧ own_S x0 d) → ((3 : Int32).toInt ≤ 1 ∧ 1 < to.toInt ∧ own_S x1 d) → (f3 (4 : Int32) [x0, x1, x2, x3] (3 : Int32) to d).toInt = 1) ∧ (¬ ((3 : Int32).toInt ≤ 0 ∧ 0 < to.toInt ∧ own_S x0 d) → ¬ ((3 : Int32).toInt ≤ 1 ∧ 1 < to.toInt ∧ own_S x1 d) → ((3 : Int32).toInt ≤ 2 ∧ 2 < to.toInt ∧ own_S x2 d) → (f3 (4 : Int32) [x0, x1, x2, x3] (3 : Int32) to d).toInt = 2) ∧ (¬ ((3 : Int32).toInt ≤ 0 ∧ 0 < to.toInt ∧ own_S x0 d) → ¬ ((3 : Int32).toInt ≤ 1 ∧ 1 < to.toInt ∧ own_S x1 d) → ¬ ((3 : Int32).toInt ≤ 2 ∧ 2 < to.toInt ∧ own_S x2 d) → ((3 : Int32).toInt ≤ 3 ∧ 3 < to.toInt ∧ own_S x3 d) → (f3 (4 : Int32) [x0, x1, x2, x3] (3 : Int32) to d).toInt = 3) ∧ (¬ ((3 : Int32).toInt ≤ 0 ∧ 0 < to.toInt ∧ own_S x0 d) → ¬ ((3 : Int32).toInt ≤ 1 ∧ 1 < to.toInt ∧ own_S x1 d) → ¬ ((3 : Int32).toInt ≤ 2 ∧ 2 < to.toInt ∧ own_S x2 d) → ¬ ((3 : Int32).toInt ≤ 3 ∧ 3 < to.toInt ∧ own_S x3 d) → (f3 (4 : Int32) [x0, x1, x2, x3] (3 : Int32) to d).toInt = -1) := by
  have g0 : ([x0, x1, x2, x3].getD ((3 : Int32)).toNatClampNeg 0) = x3 := rfl
  have g1 : ([x0, x1, x2, x3].getD (((3 : Int32) + (1 : Int32))).toNatClampNeg 0) = 0 := rfl
  have g2 : ([x0, x1, x2, x3].getD ((((3 : Int32) + (1 : Int32)) + (1 : Int32))).toNatClampNeg 0) = 0 := rfl
  have g3 : ([x0, x1, x2, x3].getD (((((3 : Int32) + (1 : Int32)) + (1 : Int32)) + (1 : Int32))).toNatClampNeg 0) = 0 := rfl
  simp only [f3, own_S, g0, g1, g2, g3]
  simp only [Int32.reduceAdd, Int32.lt_iff_toInt_lt, ← Int32.toInt_inj, apply_ite Int32.toInt, Int32.reduceToInt]
  generalize x0.toInt = y0
  generalize x1.toInt = y1
  generalize x2.toInt = y2
  generalize x3.toInt = y3
  generalize to.toInt = t at *
  generalize d.toInt = z
  refine ⟨fun _ => ?_, fun _ _ => ?_, fun _ _ _ => ?_, fun _ _ _ _ => ?_, fun _ _ _ _ => ?_⟩
  all_goals repeat' (first | omega | split)
set_option maxHeartbeats 40000000 in
theorem own_idx4 (x0 x1 x2 x3 to d : Int32) (ht : 0 ≤ to.toInt ∧ to.toInt ≤ 4) : (((4 : Int32).toInt ≤ 0 ∧ 0 < to.toInt ∧ own_S x0 d) → (f3 (4 : Int32) [x0, x1, x2, x3] (4 : Int32) to d).toInt = 0) ∧ (¬ ((4 : Int32).toInt ≤ 0 ∧ 0 < to.toInt ∧ own_S x0 d) → ((4 : Int32).toInt ≤ 1 ∧ 1 < to.toInt ∧ own_S x1 d) → (f3 (4 : Int32) [x0, x1, x2, x3] (4 : Int32) to d).toInt = 1) ∧ (¬ ((4 : Int32).toInt ≤ 0 ∧ 0 < to.toInt ∧ own_S x0 d) → ¬ ((4 : Int32).toInt ≤ 1 ∧ 1 < to.toInt ∧ own_S x1 d) → ((4 : Int32).toInt ≤ 2 ∧ 2 < to.toInt ∧ own_S x2 d) → (f3 (4 : Int32) [x0, x1, x2, x3] (4 : Int32) to d).toInt = 2) ∧ (¬ ((4 : Int32).toInt ≤ 0 ∧ 0 < to.toInt ∧ own_S x0 d) → ¬ ((4 : Int32).toInt ≤ 1 ∧ 1 < to.toInt ∧ own_S x1 d) → ¬ ((4 : Int32).toInt ≤ 2 ∧ 2 < to.toInt ∧ own_S x2 d) → ((4 : Int32).toInt ≤ 3 ∧ 3 < to.toInt ∧ own_S x3 d) → (f3 (4 : Int32) [x0, x1, x2, x3] (4 : Int32) to d).toInt = 3) ∧ (¬ ((4 : Int32).toInt ≤ 0 ∧ 0 < to.toInt ∧ own_S x0 d) → ¬ ((4 : Int32).toInt ≤ 1 ∧ 1 < to.toInt ∧ own_S x1 d) → ¬ ((4 : Int32).toInt ≤ 2 ∧ 2 < to.toInt ∧ own_S x2 d) → ¬ ((4 : Int32).toInt ≤ 3 ∧ 3 < to.toInt ∧ own_S x3 d) → (f3 (4 : Int32) [x0, x1, x2, x3] (4 : Int32) to d).toInt = -1) := by
  have g0 : ([x0, x1, x2, x3].getD ((4 : Int32)).toNatClampNeg 0) = 0 := rfl
  have g1 : ([x0, x1, x2, x3].getD (((4 : Int32) + (1 : Int32))).toNatClampNeg 0) = 0 := rfl
  have g2 : ([x0, x1, x2, x3].getD ((((4 : Int32) + (1 : Int32)) + (1 : Int32))).toNatClampNeg 0) = 0 := rfl
  have g3 : ([x0, x1, x2, x3].getD (((((4 : Int32) + (1 : Int32)) + (1 : Int32)) + (1 : Int32))).toNatClampNeg 0) = 0 := rfl
  simp only [f3, own_S, g0, g1, g2, g3]
  simp only [Int32.reduceAdd, Int32.lt_iff_toInt_lt, ← Int32.toInt_inj, apply_ite Int32.toInt, Int32.reduceToInt]
  generalize x0.toInt = y0
  generalize x1.toInt = y1
  generalize x2.toInt = y2
  generalize x3.toInt = y3
  generalize to.toInt = t at *
  generalize d.toInt = z
  refine ⟨fun _ => ?_, fun _ _ => ?_, fun _ _ _ => ?_, fun _ _ _ _ => ?_, fun _ _ _ _ => ?_⟩
  all_goals repeat' (first | omega | split)
theorem pd1 : parseMethodDescriptor "(I)B" = some ⟨[.int], some .byte⟩ := by decide +kernel
theorem pd2 : parseMethodDescriptor "([BIIIZ)Z" = some ⟨[(.array .byte), .int, .int, .int, .boolean], some .boolean⟩ := by decide +kernel
theorem pd3 : parseMethodDescriptor "([BIIZ)I" = some ⟨[(.array .byte), .int, .int, .boolean], some .int⟩ := by decide +kernel
theorem ef0 (m : MethodId) (p0 : Int32) (p1 : Int32) (p2 : Int32) (p3 : Int32) (p4 : Int32) (p5 : Int32) : entryFrame m #[(.int p0), (.int p1), (.int p2), (.int p3), (.int p4), (.int p5)] maxLocals = mkF m 0 #[.val (.int p0), .val (.int p1), .val (.int p2), .val (.int p3), .val (.int p4), .val (.int p5), .unset, .unset, .unset, .unset, .unset, .unset] [] := by first | (simp [entryFrame, mkF, argsToLocals, Value.category, maxLocals]; done) | rfl
theorem own_pr0_80_hB (p0 : Int32) (p1 : Int32) (p2 : Int32) (p3 : Int32) (p4 : Int32) (p5 : Int32) (v7_44 : Int32) (ev7_44 : v7_44 = ((p4 &&& (15 : Int32)) % (5 : Int32))) (v8_55 : Int32) (ev8_55 : v8_55 = ((((p4.toUInt32 >>> ((4 : Int32) &&& 31).toUInt32).toInt32) &&& (15 : Int32)) % (5 : Int32))) (v9_69 : Int32) (ev9_69 : v9_69 = (if (p5 &&& (1 : Int32)) = (0 : Int32) then (0 : Int32) else (1 : Int32))) : ¬ (0 : Int32) < 0 ∧ (0 : Int32) < (4 : Int32) := by
  first | decide | exact ⟨by decide, by decide⟩
theorem own_pr0_101_hB (p0 : Int32) (p1 : Int32) (p2 : Int32) (p3 : Int32) (p4 : Int32) (p5 : Int32) (v7_44 : Int32) (ev7_44 : v7_44 = ((p4 &&& (15 : Int32)) % (5 : Int32))) (v8_55 : Int32) (ev8_55 : v8_55 = ((((p4.toUInt32 >>> ((4 : Int32) &&& 31).toUInt32).toInt32) &&& (15 : Int32)) % (5 : Int32))) (v9_69 : Int32) (ev9_69 : v9_69 = (if (p5 &&& (1 : Int32)) = (0 : Int32) then (0 : Int32) else (1 : Int32))) (hc83_2 : (f2 (4 : Int32) [(nar .byte (f1 p0)), (nar .byte (f1 p1)), (nar .byte (f1 p2)), (nar .byte (f1 p3))] (0 : Int32) v7_44 v8_55 v9_69) = (0 : Int32)) : ¬ (1 : Int32) < 0 ∧ (1 : Int32) < (4 : Int32) := by
  first | decide | exact ⟨by decide, by decide⟩
theorem own_pr0_122_hB (p0 : Int32) (p1 : Int32) (p2 : Int32) (p3 : Int32) (p4 : Int32) (p5 : Int32) (v7_44 : Int32) (ev7_44 : v7_44 = ((p4 &&& (15 : Int32)) % (5 : Int32))) (v8_55 : Int32) (ev8_55 : v8_55 = ((((p4.toUInt32 >>> ((4 : Int32) &&& 31).toUInt32).toInt32) &&& (15 : Int32)) % (5 : Int32))) (v9_69 : Int32) (ev9_69 : v9_69 = (if (p5 &&& (1 : Int32)) = (0 : Int32) then (0 : Int32) else (1 : Int32))) (hc83_2 : (f2 (4 : Int32) [(nar .byte (f1 p0)), (nar .byte (f1 p1)), (nar .byte (f1 p2)), (nar .byte (f1 p3))] (0 : Int32) v7_44 v8_55 v9_69) = (0 : Int32)) (hc104_3 : (f2 (4 : Int32) [(nar .byte (f1 p0)), (nar .byte (f1 p1)), (nar .byte (f1 p2)), (nar .byte (f1 p3))] (1 : Int32) v7_44 v8_55 v9_69) = (0 : Int32)) : ¬ (2 : Int32) < 0 ∧ (2 : Int32) < (4 : Int32) := by
  first | decide | exact ⟨by decide, by decide⟩
theorem own_pr0_143_hB (p0 : Int32) (p1 : Int32) (p2 : Int32) (p3 : Int32) (p4 : Int32) (p5 : Int32) (v7_44 : Int32) (ev7_44 : v7_44 = ((p4 &&& (15 : Int32)) % (5 : Int32))) (v8_55 : Int32) (ev8_55 : v8_55 = ((((p4.toUInt32 >>> ((4 : Int32) &&& 31).toUInt32).toInt32) &&& (15 : Int32)) % (5 : Int32))) (v9_69 : Int32) (ev9_69 : v9_69 = (if (p5 &&& (1 : Int32)) = (0 : Int32) then (0 : Int32) else (1 : Int32))) (hc83_2 : (f2 (4 : Int32) [(nar .byte (f1 p0)), (nar .byte (f1 p1)), (nar .byte (f1 p2)), (nar .byte (f1 p3))] (0 : Int32) v7_44 v8_55 v9_69) = (0 : Int32)) (hc104_3 : (f2 (4 : Int32) [(nar .byte (f1 p0)), (nar .byte (f1 p1)), (nar .byte (f1 p2)), (nar .byte (f1 p3))] (1 : Int32) v7_44 v8_55 v9_69) = (0 : Int32)) (hc125_4 : (f2 (4 : Int32) [(nar .byte (f1 p0)), (nar .byte (f1 p1)), (nar .byte (f1 p2)), (nar .byte (f1 p3))] (2 : Int32) v7_44 v8_55 v9_69) = (0 : Int32)) : ¬ (3 : Int32) < 0 ∧ (3 : Int32) < (4 : Int32) := by
  first | decide | exact ⟨by decide, by decide⟩
theorem own_pr0_166_hB (p0 : Int32) (p1 : Int32) (p2 : Int32) (p3 : Int32) (p4 : Int32) (p5 : Int32) (v7_44 : Int32) (ev7_44 : v7_44 = ((p4 &&& (15 : Int32)) % (5 : Int32))) (v8_55 : Int32) (ev8_55 : v8_55 = ((((p4.toUInt32 >>> ((4 : Int32) &&& 31).toUInt32).toInt32) &&& (15 : Int32)) % (5 : Int32))) (v9_69 : Int32) (ev9_69 : v9_69 = (if (p5 &&& (1 : Int32)) = (0 : Int32) then (0 : Int32) else (1 : Int32))) (hc83_2 : (f2 (4 : Int32) [(nar .byte (f1 p0)), (nar .byte (f1 p1)), (nar .byte (f1 p2)), (nar .byte (f1 p3))] (0 : Int32) v7_44 v8_55 v9_69) = (0 : Int32)) (hc104_3 : (f2 (4 : Int32) [(nar .byte (f1 p0)), (nar .byte (f1 p1)), (nar .byte (f1 p2)), (nar .byte (f1 p3))] (1 : Int32) v7_44 v8_55 v9_69) = (0 : Int32)) (hc125_4 : (f2 (4 : Int32) [(nar .byte (f1 p0)), (nar .byte (f1 p1)), (nar .byte (f1 p2)), (nar .byte (f1 p3))] (2 : Int32) v7_44 v8_55 v9_69) = (0 : Int32)) (v10_158 : Int32) (ev10_158 : v10_158 = (if (f2 (4 : Int32) [(nar .byte (f1 p0)), (nar .byte (f1 p1)), (nar .byte (f1 p2)), (nar .byte (f1 p3))] (3 : Int32) v7_44 v8_55 v9_69) = (0 : Int32) then (-1 : Int32) else (3 : Int32))) : ¬ v7_44 < 0 := by
  have hf : v7_44 = 0 ∨ v7_44 = 1 ∨ v7_44 = 2 ∨ v7_44 = 3 ∨ v7_44 = 4 := by
    have a : (p4 &&& 15).toInt = p4.toInt % 16 := c_mask p4 15 4 (by decide) (by decide)
    have b := c_irem (p4 &&& 15) 5 5 (by decide)
    rw [← ev7_44] at b
    simp only [← Int32.toInt_inj, Int32.reduceToInt]
    omega
  have ht : 0 ≤ v8_55.toInt ∧ v8_55.toInt ≤ 4 := by
    have a : (((p4.toUInt32 >>> ((4 : Int32) &&& 31).toUInt32).toInt32) &&& 15).toInt = (((p4.toUInt32 >>> ((4 : Int32) &&& 31).toUInt32).toInt32)).toInt % 16 := c_mask _ 15 4 (by decide) (by decide)
    have b := c_irem (((p4.toUInt32 >>> ((4 : Int32) &&& 31).toUInt32).toInt32) &&& 15) 5 5 (by decide)
    rw [← ev8_55] at b
    omega
  rcases hf with h | h | h | h | h <;> rw [h] <;> decide
theorem own_pr0_166_hb2 (p0 : Int32) (p1 : Int32) (p2 : Int32) (p3 : Int32) (p4 : Int32) (p5 : Int32) (v7_44 : Int32) (ev7_44 : v7_44 = ((p4 &&& (15 : Int32)) % (5 : Int32))) (v8_55 : Int32) (ev8_55 : v8_55 = ((((p4.toUInt32 >>> ((4 : Int32) &&& 31).toUInt32).toInt32) &&& (15 : Int32)) % (5 : Int32))) (v9_69 : Int32) (ev9_69 : v9_69 = (if (p5 &&& (1 : Int32)) = (0 : Int32) then (0 : Int32) else (1 : Int32))) (hc83_2 : (f2 (4 : Int32) [(nar .byte (f1 p0)), (nar .byte (f1 p1)), (nar .byte (f1 p2)), (nar .byte (f1 p3))] (0 : Int32) v7_44 v8_55 v9_69) = (0 : Int32)) (hc104_3 : (f2 (4 : Int32) [(nar .byte (f1 p0)), (nar .byte (f1 p1)), (nar .byte (f1 p2)), (nar .byte (f1 p3))] (1 : Int32) v7_44 v8_55 v9_69) = (0 : Int32)) (hc125_4 : (f2 (4 : Int32) [(nar .byte (f1 p0)), (nar .byte (f1 p1)), (nar .byte (f1 p2)), (nar .byte (f1 p3))] (2 : Int32) v7_44 v8_55 v9_69) = (0 : Int32)) (v10_158 : Int32) (ev10_158 : v10_158 = (if (f2 (4 : Int32) [(nar .byte (f1 p0)), (nar .byte (f1 p1)), (nar .byte (f1 p2)), (nar .byte (f1 p3))] (3 : Int32) v7_44 v8_55 v9_69) = (0 : Int32) then (-1 : Int32) else (3 : Int32))) : ¬ (4 : Int32) < v8_55 := by
  have hf : v7_44 = 0 ∨ v7_44 = 1 ∨ v7_44 = 2 ∨ v7_44 = 3 ∨ v7_44 = 4 := by
    have a : (p4 &&& 15).toInt = p4.toInt % 16 := c_mask p4 15 4 (by decide) (by decide)
    have b := c_irem (p4 &&& 15) 5 5 (by decide)
    rw [← ev7_44] at b
    simp only [← Int32.toInt_inj, Int32.reduceToInt]
    omega
  have ht : 0 ≤ v8_55.toInt ∧ v8_55.toInt ≤ 4 := by
    have a : (((p4.toUInt32 >>> ((4 : Int32) &&& 31).toUInt32).toInt32) &&& 15).toInt = (((p4.toUInt32 >>> ((4 : Int32) &&& 31).toUInt32).toInt32)).toInt % 16 := c_mask _ 15 4 (by decide) (by decide)
    have b := c_irem (((p4.toUInt32 >>> ((4 : Int32) &&& 31).toUInt32).toInt32) &&& 15) 5 5 (by decide)
    rw [← ev8_55] at b
    omega
  simp only [Int32.lt_iff_toInt_lt, Int32.reduceToInt]
  omega
theorem own_pr0_166_hb3 (p0 : Int32) (p1 : Int32) (p2 : Int32) (p3 : Int32) (p4 : Int32) (p5 : Int32) (v7_44 : Int32) (ev7_44 : v7_44 = ((p4 &&& (15 : Int32)) % (5 : Int32))) (v8_55 : Int32) (ev8_55 : v8_55 = ((((p4.toUInt32 >>> ((4 : Int32) &&& 31).toUInt32).toInt32) &&& (15 : Int32)) % (5 : Int32))) (v9_69 : Int32) (ev9_69 : v9_69 = (if (p5 &&& (1 : Int32)) = (0 : Int32) then (0 : Int32) else (1 : Int32))) (hc83_2 : (f2 (4 : Int32) [(nar .byte (f1 p0)), (nar .byte (f1 p1)), (nar .byte (f1 p2)), (nar .byte (f1 p3))] (0 : Int32) v7_44 v8_55 v9_69) = (0 : Int32)) (hc104_3 : (f2 (4 : Int32) [(nar .byte (f1 p0)), (nar .byte (f1 p1)), (nar .byte (f1 p2)), (nar .byte (f1 p3))] (1 : Int32) v7_44 v8_55 v9_69) = (0 : Int32)) (hc125_4 : (f2 (4 : Int32) [(nar .byte (f1 p0)), (nar .byte (f1 p1)), (nar .byte (f1 p2)), (nar .byte (f1 p3))] (2 : Int32) v7_44 v8_55 v9_69) = (0 : Int32)) (v10_158 : Int32) (ev10_158 : v10_158 = (if (f2 (4 : Int32) [(nar .byte (f1 p0)), (nar .byte (f1 p1)), (nar .byte (f1 p2)), (nar .byte (f1 p3))] (3 : Int32) v7_44 v8_55 v9_69) = (0 : Int32) then (-1 : Int32) else (3 : Int32))) : (4 : Int32) = (4 : Int32) := by
  rfl
theorem own_hc0_175 (p0 : Int32) (p1 : Int32) (p2 : Int32) (p3 : Int32) (p4 : Int32) (p5 : Int32) (v7_44 : Int32) (ev7_44 : v7_44 = ((p4 &&& (15 : Int32)) % (5 : Int32))) (v8_55 : Int32) (ev8_55 : v8_55 = ((((p4.toUInt32 >>> ((4 : Int32) &&& 31).toUInt32).toInt32) &&& (15 : Int32)) % (5 : Int32))) (v9_69 : Int32) (ev9_69 : v9_69 = (if (p5 &&& (1 : Int32)) = (0 : Int32) then (0 : Int32) else (1 : Int32))) (hc83_2 : (f2 (4 : Int32) [(nar .byte (f1 p0)), (nar .byte (f1 p1)), (nar .byte (f1 p2)), (nar .byte (f1 p3))] (0 : Int32) v7_44 v8_55 v9_69) = (0 : Int32)) (hc104_3 : (f2 (4 : Int32) [(nar .byte (f1 p0)), (nar .byte (f1 p1)), (nar .byte (f1 p2)), (nar .byte (f1 p3))] (1 : Int32) v7_44 v8_55 v9_69) = (0 : Int32)) (hc125_4 : (f2 (4 : Int32) [(nar .byte (f1 p0)), (nar .byte (f1 p1)), (nar .byte (f1 p2)), (nar .byte (f1 p3))] (2 : Int32) v7_44 v8_55 v9_69) = (0 : Int32)) (v10_158 : Int32) (ev10_158 : v10_158 = (if (f2 (4 : Int32) [(nar .byte (f1 p0)), (nar .byte (f1 p1)), (nar .byte (f1 p2)), (nar .byte (f1 p3))] (3 : Int32) v7_44 v8_55 v9_69) = (0 : Int32) then (-1 : Int32) else (3 : Int32))) (v11_169 : Int32) (ev11_169 : v11_169 = (f3 (4 : Int32) [(nar .byte (f1 p0)), (nar .byte (f1 p1)), (nar .byte (f1 p2)), (nar .byte (f1 p3))] v7_44 v8_55 v9_69)) : v11_169 = v10_158 := by
  have hf : v7_44 = 0 ∨ v7_44 = 1 ∨ v7_44 = 2 ∨ v7_44 = 3 ∨ v7_44 = 4 := by
    have a : (p4 &&& 15).toInt = p4.toInt % 16 := c_mask p4 15 4 (by decide) (by decide)
    have b := c_irem (p4 &&& 15) 5 5 (by decide)
    rw [← ev7_44] at b
    simp only [← Int32.toInt_inj, Int32.reduceToInt]
    omega
  have ht : 0 ≤ v8_55.toInt ∧ v8_55.toInt ≤ 4 := by
    have a : (((p4.toUInt32 >>> ((4 : Int32) &&& 31).toUInt32).toInt32) &&& 15).toInt = (((p4.toUInt32 >>> ((4 : Int32) &&& 31).toUInt32).toInt32)).toInt % 16 := c_mask _ 15 4 (by decide) (by decide)
    have b := c_irem (((p4.toUInt32 >>> ((4 : Int32) &&& 31).toUInt32).toInt32) &&& 15) 5 5 (by decide)
    rw [← ev8_55] at b
    omega
  have b0 : -128 ≤ (nar .byte (f1 p0)).toInt ∧ (nar .byte (f1 p0)).toInt < 128 := (c_i2b (f1 p0)).2
  have b1 : -128 ≤ (nar .byte (f1 p1)).toInt ∧ (nar .byte (f1 p1)).toInt < 128 := (c_i2b (f1 p1)).2
  have b2 : -128 ≤ (nar .byte (f1 p2)).toInt ∧ (nar .byte (f1 p2)).toInt < 128 := (c_i2b (f1 p2)).2
  have b3 : -128 ≤ (nar .byte (f1 p3)).toInt ∧ (nar .byte (f1 p3)).toInt < 128 := (c_i2b (f1 p3)).2
  rw [ev11_169]
  rw [ev10_158]
  clear ev10_158
  clear ev11_169 ev7_44 ev8_55 ev9_69
  generalize nar .byte (f1 p0) = x0 at *
  generalize nar .byte (f1 p1) = x1 at *
  generalize nar .byte (f1 p2) = x2 at *
  generalize nar .byte (f1 p3) = x3 at *
  have H0 := (own_hit0 x0 x1 x2 x3 v7_44 v8_55 v9_69 b0).mp hc83_2
  have H1 := (own_hit1 x0 x1 x2 x3 v7_44 v8_55 v9_69 b1).mp hc104_3
  have H2 := (own_hit2 x0 x1 x2 x3 v7_44 v8_55 v9_69 b2).mp hc125_4
  by_cases q : f2 (4 : Int32) [x0, x1, x2, x3] (3 : Int32) v7_44 v8_55 v9_69 = 0
  · rw [if_pos q]
    have H3 := (own_hit3 x0 x1 x2 x3 v7_44 v8_55 v9_69 b3).mp q
    apply Int32.toInt_inj.mp
    rcases hf with h | h | h | h | h <;> subst h
    · have k := own_idx0 x0 x1 x2 x3 v8_55 v9_69 ht
      exact k.2.2.2.2 H0 H1 H2 H3
    · have k := own_idx1 x0 x1 x2 x3 v8_55 v9_69 ht
      exact k.2.2.2.2 H0 H1 H2 H3
    · have k := own_idx2 x0 x1 x2 x3 v8_55 v9_69 ht
      exact k.2.2.2.2 H0 H1 H2 H3
    · have k := own_idx3 x0 x1 x2 x3 v8_55 v9_69 ht
      exact k.2.2.2.2 H0 H1 H2 H3
    · have k := own_idx4 x0 x1 x2 x3 v8_55 v9_69 ht
      exact k.2.2.2.2 H0 H1 H2 H3
  · rw [if_neg q]
    have P := Classical.not_not.mp (fun z => q ((own_hit3 x0 x1 x2 x3 v7_44 v8_55 v9_69 b3).mpr z))
    apply Int32.toInt_inj.mp
    rcases hf with h | h | h | h | h <;> subst h
    · have k := own_idx0 x0 x1 x2 x3 v8_55 v9_69 ht
      exact k.2.2.2.1 H0 H1 H2 P
    · have k := own_idx1 x0 x1 x2 x3 v8_55 v9_69 ht
      exact k.2.2.2.1 H0 H1 H2 P
    · have k := own_idx2 x0 x1 x2 x3 v8_55 v9_69 ht
      exact k.2.2.2.1 H0 H1 H2 P
    · have k := own_idx3 x0 x1 x2 x3 v8_55 v9_69 ht
      exact k.2.2.2.1 H0 H1 H2 P
    · have k := own_idx4 x0 x1 x2 x3 v8_55 v9_69 ht
      exact k.2.2.2.1 H0 H1 H2 P
theorem own_pr0_166_hB_2 (p0 : Int32) (p1 : Int32) (p2 : Int32) (p3 : Int32) (p4 : Int32) (p5 : Int32) (v7_44 : Int32) (ev7_44 : v7_44 = ((p4 &&& (15 : Int32)) % (5 : Int32))) (v8_55 : Int32) (ev8_55 : v8_55 = ((((p4.toUInt32 >>> ((4 : Int32) &&& 31).toUInt32).toInt32) &&& (15 : Int32)) % (5 : Int32))) (v9_69 : Int32) (ev9_69 : v9_69 = (if (p5 &&& (1 : Int32)) = (0 : Int32) then (0 : Int32) else (1 : Int32))) (hc83_2 : (f2 (4 : Int32) [(nar .byte (f1 p0)), (nar .byte (f1 p1)), (nar .byte (f1 p2)), (nar .byte (f1 p3))] (0 : Int32) v7_44 v8_55 v9_69) = (0 : Int32)) (hc104_3 : (f2 (4 : Int32) [(nar .byte (f1 p0)), (nar .byte (f1 p1)), (nar .byte (f1 p2)), (nar .byte (f1 p3))] (1 : Int32) v7_44 v8_55 v9_69) = (0 : Int32)) (hc125_4 : ¬ ((f2 (4 : Int32) [(nar .byte (f1 p0)), (nar .byte (f1 p1)), (nar .byte (f1 p2)), (nar .byte (f1 p3))] (2 : Int32) v7_44 v8_55 v9_69) = (0 : Int32))) : ¬ v7_44 < 0 := by
  have hf : v7_44 = 0 ∨ v7_44 = 1 ∨ v7_44 = 2 ∨ v7_44 = 3 ∨ v7_44 = 4 := by
    have a : (p4 &&& 15).toInt = p4.toInt % 16 := c_mask p4 15 4 (by decide) (by decide)
    have b := c_irem (p4 &&& 15) 5 5 (by decide)
    rw [← ev7_44] at b
    simp only [← Int32.toInt_inj, Int32.reduceToInt]
    omega
  have ht : 0 ≤ v8_55.toInt ∧ v8_55.toInt ≤ 4 := by
    have a : (((p4.toUInt32 >>> ((4 : Int32) &&& 31).toUInt32).toInt32) &&& 15).toInt = (((p4.toUInt32 >>> ((4 : Int32) &&& 31).toUInt32).toInt32)).toInt % 16 := c_mask _ 15 4 (by decide) (by decide)
    have b := c_irem (((p4.toUInt32 >>> ((4 : Int32) &&& 31).toUInt32).toInt32) &&& 15) 5 5 (by decide)
    rw [← ev8_55] at b
    omega
  rcases hf with h | h | h | h | h <;> rw [h] <;> decide
theorem own_pr0_166_hb2_2 (p0 : Int32) (p1 : Int32) (p2 : Int32) (p3 : Int32) (p4 : Int32) (p5 : Int32) (v7_44 : Int32) (ev7_44 : v7_44 = ((p4 &&& (15 : Int32)) % (5 : Int32))) (v8_55 : Int32) (ev8_55 : v8_55 = ((((p4.toUInt32 >>> ((4 : Int32) &&& 31).toUInt32).toInt32) &&& (15 : Int32)) % (5 : Int32))) (v9_69 : Int32) (ev9_69 : v9_69 = (if (p5 &&& (1 : Int32)) = (0 : Int32) then (0 : Int32) else (1 : Int32))) (hc83_2 : (f2 (4 : Int32) [(nar .byte (f1 p0)), (nar .byte (f1 p1)), (nar .byte (f1 p2)), (nar .byte (f1 p3))] (0 : Int32) v7_44 v8_55 v9_69) = (0 : Int32)) (hc104_3 : (f2 (4 : Int32) [(nar .byte (f1 p0)), (nar .byte (f1 p1)), (nar .byte (f1 p2)), (nar .byte (f1 p3))] (1 : Int32) v7_44 v8_55 v9_69) = (0 : Int32)) (hc125_4 : ¬ ((f2 (4 : Int32) [(nar .byte (f1 p0)), (nar .byte (f1 p1)), (nar .byte (f1 p2)), (nar .byte (f1 p3))] (2 : Int32) v7_44 v8_55 v9_69) = (0 : Int32))) : ¬ (4 : Int32) < v8_55 := by
  have hf : v7_44 = 0 ∨ v7_44 = 1 ∨ v7_44 = 2 ∨ v7_44 = 3 ∨ v7_44 = 4 := by
    have a : (p4 &&& 15).toInt = p4.toInt % 16 := c_mask p4 15 4 (by decide) (by decide)
    have b := c_irem (p4 &&& 15) 5 5 (by decide)
    rw [← ev7_44] at b
    simp only [← Int32.toInt_inj, Int32.reduceToInt]
    omega
  have ht : 0 ≤ v8_55.toInt ∧ v8_55.toInt ≤ 4 := by
    have a : (((p4.toUInt32 >>> ((4 : Int32) &&& 31).toUInt32).toInt32) &&& 15).toInt = (((p4.toUInt32 >>> ((4 : Int32) &&& 31).toUInt32).toInt32)).toInt % 16 := c_mask _ 15 4 (by decide) (by decide)
    have b := c_irem (((p4.toUInt32 >>> ((4 : Int32) &&& 31).toUInt32).toInt32) &&& 15) 5 5 (by decide)
    rw [← ev8_55] at b
    omega
  simp only [Int32.lt_iff_toInt_lt, Int32.reduceToInt]
  omega
theorem own_pr0_166_hb3_2 (p0 : Int32) (p1 : Int32) (p2 : Int32) (p3 : Int32) (p4 : Int32) (p5 : Int32) (v7_44 : Int32) (ev7_44 : v7_44 = ((p4 &&& (15 : Int32)) % (5 : Int32))) (v8_55 : Int32) (ev8_55 : v8_55 = ((((p4.toUInt32 >>> ((4 : Int32) &&& 31).toUInt32).toInt32) &&& (15 : Int32)) % (5 : Int32))) (v9_69 : Int32) (ev9_69 : v9_69 = (if (p5 &&& (1 : Int32)) = (0 : Int32) then (0 : Int32) else (1 : Int32))) (hc83_2 : (f2 (4 : Int32) [(nar .byte (f1 p0)), (nar .byte (f1 p1)), (nar .byte (f1 p2)), (nar .byte (f1 p3))] (0 : Int32) v7_44 v8_55 v9_69) = (0 : Int32)) (hc104_3 : (f2 (4 : Int32) [(nar .byte (f1 p0)), (nar .byte (f1 p1)), (nar .byte (f1 p2)), (nar .byte (f1 p3))] (1 : Int32) v7_44 v8_55 v9_69) = (0 : Int32)) (hc125_4 : ¬ ((f2 (4 : Int32) [(nar .byte (f1 p0)), (nar .byte (f1 p1)), (nar .byte (f1 p2)), (nar .byte (f1 p3))] (2 : Int32) v7_44 v8_55 v9_69) = (0 : Int32))) : (4 : Int32) = (4 : Int32) := by
  rfl
theorem own_hc0_175_2 (p0 : Int32) (p1 : Int32) (p2 : Int32) (p3 : Int32) (p4 : Int32) (p5 : Int32) (v7_44 : Int32) (ev7_44 : v7_44 = ((p4 &&& (15 : Int32)) % (5 : Int32))) (v8_55 : Int32) (ev8_55 : v8_55 = ((((p4.toUInt32 >>> ((4 : Int32) &&& 31).toUInt32).toInt32) &&& (15 : Int32)) % (5 : Int32))) (v9_69 : Int32) (ev9_69 : v9_69 = (if (p5 &&& (1 : Int32)) = (0 : Int32) then (0 : Int32) else (1 : Int32))) (hc83_2 : (f2 (4 : Int32) [(nar .byte (f1 p0)), (nar .byte (f1 p1)), (nar .byte (f1 p2)), (nar .byte (f1 p3))] (0 : Int32) v7_44 v8_55 v9_69) = (0 : Int32)) (hc104_3 : (f2 (4 : Int32) [(nar .byte (f1 p0)), (nar .byte (f1 p1)), (nar .byte (f1 p2)), (nar .byte (f1 p3))] (1 : Int32) v7_44 v8_55 v9_69) = (0 : Int32)) (hc125_4 : ¬ ((f2 (4 : Int32) [(nar .byte (f1 p0)), (nar .byte (f1 p1)), (nar .byte (f1 p2)), (nar .byte (f1 p3))] (2 : Int32) v7_44 v8_55 v9_69) = (0 : Int32))) (v11_169 : Int32) (ev11_169 : v11_169 = (f3 (4 : Int32) [(nar .byte (f1 p0)), (nar .byte (f1 p1)), (nar .byte (f1 p2)), (nar .byte (f1 p3))] v7_44 v8_55 v9_69)) : v11_169 = (2 : Int32) := by
  have hf : v7_44 = 0 ∨ v7_44 = 1 ∨ v7_44 = 2 ∨ v7_44 = 3 ∨ v7_44 = 4 := by
    have a : (p4 &&& 15).toInt = p4.toInt % 16 := c_mask p4 15 4 (by decide) (by decide)
    have b := c_irem (p4 &&& 15) 5 5 (by decide)
    rw [← ev7_44] at b
    simp only [← Int32.toInt_inj, Int32.reduceToInt]
    omega
  have ht : 0 ≤ v8_55.toInt ∧ v8_55.toInt ≤ 4 := by
    have a : (((p4.toUInt32 >>> ((4 : Int32) &&& 31).toUInt32).toInt32) &&& 15).toInt = (((p4.toUInt32 >>> ((4 : Int32) &&& 31).toUInt32).toInt32)).toInt % 16 := c_mask _ 15 4 (by decide) (by decide)
    have b := c_irem (((p4.toUInt32 >>> ((4 : Int32) &&& 31).toUInt32).toInt32) &&& 15) 5 5 (by decide)
    rw [← ev8_55] at b
    omega
  have b0 : -128 ≤ (nar .byte (f1 p0)).toInt ∧ (nar .byte (f1 p0)).toInt < 128 := (c_i2b (f1 p0)).2
  have b1 : -128 ≤ (nar .byte (f1 p1)).toInt ∧ (nar .byte (f1 p1)).toInt < 128 := (c_i2b (f1 p1)).2
  have b2 : -128 ≤ (nar .byte (f1 p2)).toInt ∧ (nar .byte (f1 p2)).toInt < 128 := (c_i2b (f1 p2)).2
  have b3 : -128 ≤ (nar .byte (f1 p3)).toInt ∧ (nar .byte (f1 p3)).toInt < 128 := (c_i2b (f1 p3)).2
  rw [ev11_169]
  clear ev11_169 ev7_44 ev8_55 ev9_69
  generalize nar .byte (f1 p0) = x0 at *
  generalize nar .byte (f1 p1) = x1 at *
  generalize nar .byte (f1 p2) = x2 at *
  generalize nar .byte (f1 p3) = x3 at *
  have H0 := (own_hit0 x0 x1 x2 x3 v7_44 v8_55 v9_69 b0).mp hc83_2
  have H1 := (own_hit1 x0 x1 x2 x3 v7_44 v8_55 v9_69 b1).mp hc104_3
  have P := Classical.not_not.mp (fun z => hc125_4 ((own_hit2 x0 x1 x2 x3 v7_44 v8_55 v9_69 b2).mpr z))
  apply Int32.toInt_inj.mp
  rcases hf with h | h | h | h | h <;> subst h
  · have k := own_idx0 x0 x1 x2 x3 v8_55 v9_69 ht
    exact k.2.2.1 H0 H1 P
  · have k := own_idx1 x0 x1 x2 x3 v8_55 v9_69 ht
    exact k.2.2.1 H0 H1 P
  · have k := own_idx2 x0 x1 x2 x3 v8_55 v9_69 ht
    exact k.2.2.1 H0 H1 P
  · have k := own_idx3 x0 x1 x2 x3 v8_55 v9_69 ht
    exact k.2.2.1 H0 H1 P
  · have k := own_idx4 x0 x1 x2 x3 v8_55 v9_69 ht
    exact k.2.2.1 H0 H1 P
theorem own_pr0_166_hB_3 (p0 : Int32) (p1 : Int32) (p2 : Int32) (p3 : Int32) (p4 : Int32) (p5 : Int32) (v7_44 : Int32) (ev7_44 : v7_44 = ((p4 &&& (15 : Int32)) % (5 : Int32))) (v8_55 : Int32) (ev8_55 : v8_55 = ((((p4.toUInt32 >>> ((4 : Int32) &&& 31).toUInt32).toInt32) &&& (15 : Int32)) % (5 : Int32))) (v9_69 : Int32) (ev9_69 : v9_69 = (if (p5 &&& (1 : Int32)) = (0 : Int32) then (0 : Int32) else (1 : Int32))) (hc83_2 : (f2 (4 : Int32) [(nar .byte (f1 p0)), (nar .byte (f1 p1)), (nar .byte (f1 p2)), (nar .byte (f1 p3))] (0 : Int32) v7_44 v8_55 v9_69) = (0 : Int32)) (hc104_3 : ¬ ((f2 (4 : Int32) [(nar .byte (f1 p0)), (nar .byte (f1 p1)), (nar .byte (f1 p2)), (nar .byte (f1 p3))] (1 : Int32) v7_44 v8_55 v9_69) = (0 : Int32))) : ¬ v7_44 < 0 := by
  have hf : v7_44 = 0 ∨ v7_44 = 1 ∨ v7_44 = 2 ∨ v7_44 = 3 ∨ v7_44 = 4 := by
    have a : (p4 &&& 15).toInt = p4.toInt % 16 := c_mask p4 15 4 (by decide) (by decide)
    have b := c_irem (p4 &&& 15) 5 5 (by decide)
    rw [← ev7_44] at b
    simp only [← Int32.toInt_inj, Int32.reduceToInt]
    omega
  have ht : 0 ≤ v8_55.toInt ∧ v8_55.toInt ≤ 4 := by
    have a : (((p4.toUInt32 >>> ((4 : Int32) &&& 31).toUInt32).toInt32) &&& 15).toInt = (((p4.toUInt32 >>> ((4 : Int32) &&& 31).toUInt32).toInt32)).toInt % 16 := c_mask _ 15 4 (by decide) (by decide)
    have b := c_irem (((p4.toUInt32 >>> ((4 : Int32) &&& 31).toUInt32).toInt32) &&& 15) 5 5 (by decide)
    rw [← ev8_55] at b
    omega
  rcases hf with h | h | h | h | h <;> rw [h] <;> decide
theorem own_pr0_166_hb2_3 (p0 : Int32) (p1 : Int32) (p2 : Int32) (p3 : Int32) (p4 : Int32) (p5 : Int32) (v7_44 : Int32) (ev7_44 : v7_44 = ((p4 &&& (15 : Int32)) % (5 : Int32))) (v8_55 : Int32) (ev8_55 : v8_55 = ((((p4.toUInt32 >>> ((4 : Int32) &&& 31).toUInt32).toInt32) &&& (15 : Int32)) % (5 : Int32))) (v9_69 : Int32) (ev9_69 : v9_69 = (if (p5 &&& (1 : Int32)) = (0 : Int32) then (0 : Int32) else (1 : Int32))) (hc83_2 : (f2 (4 : Int32) [(nar .byte (f1 p0)), (nar .byte (f1 p1)), (nar .byte (f1 p2)), (nar .byte (f1 p3))] (0 : Int32) v7_44 v8_55 v9_69) = (0 : Int32)) (hc104_3 : ¬ ((f2 (4 : Int32) [(nar .byte (f1 p0)), (nar .byte (f1 p1)), (nar .byte (f1 p2)), (nar .byte (f1 p3))] (1 : Int32) v7_44 v8_55 v9_69) = (0 : Int32))) : ¬ (4 : Int32) < v8_55 := by
  have hf : v7_44 = 0 ∨ v7_44 = 1 ∨ v7_44 = 2 ∨ v7_44 = 3 ∨ v7_44 = 4 := by
    have a : (p4 &&& 15).toInt = p4.toInt % 16 := c_mask p4 15 4 (by decide) (by decide)
    have b := c_irem (p4 &&& 15) 5 5 (by decide)
    rw [← ev7_44] at b
    simp only [← Int32.toInt_inj, Int32.reduceToInt]
    omega
  have ht : 0 ≤ v8_55.toInt ∧ v8_55.toInt ≤ 4 := by
    have a : (((p4.toUInt32 >>> ((4 : Int32) &&& 31).toUInt32).toInt32) &&& 15).toInt = (((p4.toUInt32 >>> ((4 : Int32) &&& 31).toUInt32).toInt32)).toInt % 16 := c_mask _ 15 4 (by decide) (by decide)
    have b := c_irem (((p4.toUInt32 >>> ((4 : Int32) &&& 31).toUInt32).toInt32) &&& 15) 5 5 (by decide)
    rw [← ev8_55] at b
    omega
  simp only [Int32.lt_iff_toInt_lt, Int32.reduceToInt]
  omega
theorem own_pr0_166_hb3_3 (p0 : Int32) (p1 : Int32) (p2 : Int32) (p3 : Int32) (p4 : Int32) (p5 : Int32) (v7_44 : Int32) (ev7_44 : v7_44 = ((p4 &&& (15 : Int32)) % (5 : Int32))) (v8_55 : Int32) (ev8_55 : v8_55 = ((((p4.toUInt32 >>> ((4 : Int32) &&& 31).toUInt32).toInt32) &&& (15 : Int32)) % (5 : Int32))) (v9_69 : Int32) (ev9_69 : v9_69 = (if (p5 &&& (1 : Int32)) = (0 : Int32) then (0 : Int32) else (1 : Int32))) (hc83_2 : (f2 (4 : Int32) [(nar .byte (f1 p0)), (nar .byte (f1 p1)), (nar .byte (f1 p2)), (nar .byte (f1 p3))] (0 : Int32) v7_44 v8_55 v9_69) = (0 : Int32)) (hc104_3 : ¬ ((f2 (4 : Int32) [(nar .byte (f1 p0)), (nar .byte (f1 p1)), (nar .byte (f1 p2)), (nar .byte (f1 p3))] (1 : Int32) v7_44 v8_55 v9_69) = (0 : Int32))) : (4 : Int32) = (4 : Int32) := by
  rfl
theorem own_hc0_175_3 (p0 : Int32) (p1 : Int32) (p2 : Int32) (p3 : Int32) (p4 : Int32) (p5 : Int32) (v7_44 : Int32) (ev7_44 : v7_44 = ((p4 &&& (15 : Int32)) % (5 : Int32))) (v8_55 : Int32) (ev8_55 : v8_55 = ((((p4.toUInt32 >>> ((4 : Int32) &&& 31).toUInt32).toInt32) &&& (15 : Int32)) % (5 : Int32))) (v9_69 : Int32) (ev9_69 : v9_69 = (if (p5 &&& (1 : Int32)) = (0 : Int32) then (0 : Int32) else (1 : Int32))) (hc83_2 : (f2 (4 : Int32) [(nar .byte (f1 p0)), (nar .byte (f1 p1)), (nar .byte (f1 p2)), (nar .byte (f1 p3))] (0 : Int32) v7_44 v8_55 v9_69) = (0 : Int32)) (hc104_3 : ¬ ((f2 (4 : Int32) [(nar .byte (f1 p0)), (nar .byte (f1 p1)), (nar .byte (f1 p2)), (nar .byte (f1 p3))] (1 : Int32) v7_44 v8_55 v9_69) = (0 : Int32))) (v11_169 : Int32) (ev11_169 : v11_169 = (f3 (4 : Int32) [(nar .byte (f1 p0)), (nar .byte (f1 p1)), (nar .byte (f1 p2)), (nar .byte (f1 p3))] v7_44 v8_55 v9_69)) : v11_169 = (1 : Int32) := by
  have hf : v7_44 = 0 ∨ v7_44 = 1 ∨ v7_44 = 2 ∨ v7_44 = 3 ∨ v7_44 = 4 := by
    have a : (p4 &&& 15).toInt = p4.toInt % 16 := c_mask p4 15 4 (by decide) (by decide)
    have b := c_irem (p4 &&& 15) 5 5 (by decide)
    rw [← ev7_44] at b
    simp only [← Int32.toInt_inj, Int32.reduceToInt]
    omega
  have ht : 0 ≤ v8_55.toInt ∧ v8_55.toInt ≤ 4 := by
    have a : (((p4.toUInt32 >>> ((4 : Int32) &&& 31).toUInt32).toInt32) &&& 15).toInt = (((p4.toUInt32 >>> ((4 : Int32) &&& 31).toUInt32).toInt32)).toInt % 16 := c_mask _ 15 4 (by decide) (by decide)
    have b := c_irem (((p4.toUInt32 >>> ((4 : Int32) &&& 31).toUInt32).toInt32) &&& 15) 5 5 (by decide)
    rw [← ev8_55] at b
    omega
  have b0 : -128 ≤ (nar .byte (f1 p0)).toInt ∧ (nar .byte (f1 p0)).toInt < 128 := (c_i2b (f1 p0)).2
  have b1 : -128 ≤ (nar .byte (f1 p1)).toInt ∧ (nar .byte (f1 p1)).toInt < 128 := (c_i2b (f1 p1)).2
  have b2 : -128 ≤ (nar .byte (f1 p2)).toInt ∧ (nar .byte (f1 p2)).toInt < 128 := (c_i2b (f1 p2)).2
  have b3 : -128 ≤ (nar .byte (f1 p3)).toInt ∧ (nar .byte (f1 p3)).toInt < 128 := (c_i2b (f1 p3)).2
  rw [ev11_169]
  clear ev11_169 ev7_44 ev8_55 ev9_69
  generalize nar .byte (f1 p0) = x0 at *
  generalize nar .byte (f1 p1) = x1 at *
  generalize nar .byte (f1 p2) = x2 at *
  generalize nar .byte (f1 p3) = x3 at *
  have H0 := (own_hit0 x0 x1 x2 x3 v7_44 v8_55 v9_69 b0).mp hc83_2
  have P := Classical.not_not.mp (fun z => hc104_3 ((own_hit1 x0 x1 x2 x3 v7_44 v8_55 v9_69 b1).mpr z))
  apply Int32.toInt_inj.mp
  rcases hf with h | h | h | h | h <;> subst h
  · have k := own_idx0 x0 x1 x2 x3 v8_55 v9_69 ht
    exact k.2.1 H0 P
  · have k := own_idx1 x0 x1 x2 x3 v8_55 v9_69 ht
    exact k.2.1 H0 P
  · have k := own_idx2 x0 x1 x2 x3 v8_55 v9_69 ht
    exact k.2.1 H0 P
  · have k := own_idx3 x0 x1 x2 x3 v8_55 v9_69 ht
    exact k.2.1 H0 P
  · have k := own_idx4 x0 x1 x2 x3 v8_55 v9_69 ht
    exact k.2.1 H0 P
theorem own_pr0_166_hB_4 (p0 : Int32) (p1 : Int32) (p2 : Int32) (p3 : Int32) (p4 : Int32) (p5 : Int32) (v7_44 : Int32) (ev7_44 : v7_44 = ((p4 &&& (15 : Int32)) % (5 : Int32))) (v8_55 : Int32) (ev8_55 : v8_55 = ((((p4.toUInt32 >>> ((4 : Int32) &&& 31).toUInt32).toInt32) &&& (15 : Int32)) % (5 : Int32))) (v9_69 : Int32) (ev9_69 : v9_69 = (if (p5 &&& (1 : Int32)) = (0 : Int32) then (0 : Int32) else (1 : Int32))) (hc83_2 : ¬ ((f2 (4 : Int32) [(nar .byte (f1 p0)), (nar .byte (f1 p1)), (nar .byte (f1 p2)), (nar .byte (f1 p3))] (0 : Int32) v7_44 v8_55 v9_69) = (0 : Int32))) : ¬ v7_44 < 0 := by
  have hf : v7_44 = 0 ∨ v7_44 = 1 ∨ v7_44 = 2 ∨ v7_44 = 3 ∨ v7_44 = 4 := by
    have a : (p4 &&& 15).toInt = p4.toInt % 16 := c_mask p4 15 4 (by decide) (by decide)
    have b := c_irem (p4 &&& 15) 5 5 (by decide)
    rw [← ev7_44] at b
    simp only [← Int32.toInt_inj, Int32.reduceToInt]
    omega
  have ht : 0 ≤ v8_55.toInt ∧ v8_55.toInt ≤ 4 := by
    have a : (((p4.toUInt32 >>> ((4 : Int32) &&& 31).toUInt32).toInt32) &&& 15).toInt = (((p4.toUInt32 >>> ((4 : Int32) &&& 31).toUInt32).toInt32)).toInt % 16 := c_mask _ 15 4 (by decide) (by decide)
    have b := c_irem (((p4.toUInt32 >>> ((4 : Int32) &&& 31).toUInt32).toInt32) &&& 15) 5 5 (by decide)
    rw [← ev8_55] at b
    omega
  rcases hf with h | h | h | h | h <;> rw [h] <;> decide
theorem own_pr0_166_hb2_4 (p0 : Int32) (p1 : Int32) (p2 : Int32) (p3 : Int32) (p4 : Int32) (p5 : Int32) (v7_44 : Int32) (ev7_44 : v7_44 = ((p4 &&& (15 : Int32)) % (5 : Int32))) (v8_55 : Int32) (ev8_55 : v8_55 = ((((p4.toUInt32 >>> ((4 : Int32) &&& 31).toUInt32).toInt32) &&& (15 : Int32)) % (5 : Int32))) (v9_69 : Int32) (ev9_69 : v9_69 = (if (p5 &&& (1 : Int32)) = (0 : Int32) then (0 : Int32) else (1 : Int32))) (hc83_2 : ¬ ((f2 (4 : Int32) [(nar .byte (f1 p0)), (nar .byte (f1 p1)), (nar .byte (f1 p2)), (nar .byte (f1 p3))] (0 : Int32) v7_44 v8_55 v9_69) = (0 : Int32))) : ¬ (4 : Int32) < v8_55 := by
  have hf : v7_44 = 0 ∨ v7_44 = 1 ∨ v7_44 = 2 ∨ v7_44 = 3 ∨ v7_44 = 4 := by
    have a : (p4 &&& 15).toInt = p4.toInt % 16 := c_mask p4 15 4 (by decide) (by decide)
    have b := c_irem (p4 &&& 15) 5 5 (by decide)
    rw [← ev7_44] at b
    simp only [← Int32.toInt_inj, Int32.reduceToInt]
    omega
  have ht : 0 ≤ v8_55.toInt ∧ v8_55.toInt ≤ 4 := by
    have a : (((p4.toUInt32 >>> ((4 : Int32) &&& 31).toUInt32).toInt32) &&& 15).toInt = (((p4.toUInt32 >>> ((4 : Int32) &&& 31).toUInt32).toInt32)).toInt % 16 := c_mask _ 15 4 (by decide) (by decide)
    have b := c_irem (((p4.toUInt32 >>> ((4 : Int32) &&& 31).toUInt32).toInt32) &&& 15) 5 5 (by decide)
    rw [← ev8_55] at b
    omega
  simp only [Int32.lt_iff_toInt_lt, Int32.reduceToInt]
  omega
theorem own_pr0_166_hb3_4 (p0 : Int32) (p1 : Int32) (p2 : Int32) (p3 : Int32) (p4 : Int32) (p5 : Int32) (v7_44 : Int32) (ev7_44 : v7_44 = ((p4 &&& (15 : Int32)) % (5 : Int32))) (v8_55 : Int32) (ev8_55 : v8_55 = ((((p4.toUInt32 >>> ((4 : Int32) &&& 31).toUInt32).toInt32) &&& (15 : Int32)) % (5 : Int32))) (v9_69 : Int32) (ev9_69 : v9_69 = (if (p5 &&& (1 : Int32)) = (0 : Int32) then (0 : Int32) else (1 : Int32))) (hc83_2 : ¬ ((f2 (4 : Int32) [(nar .byte (f1 p0)), (nar .byte (f1 p1)), (nar .byte (f1 p2)), (nar .byte (f1 p3))] (0 : Int32) v7_44 v8_55 v9_69) = (0 : Int32))) : (4 : Int32) = (4 : Int32) := by
  rfl
theorem own_hc0_175_4 (p0 : Int32) (p1 : Int32) (p2 : Int32) (p3 : Int32) (p4 : Int32) (p5 : Int32) (v7_44 : Int32) (ev7_44 : v7_44 = ((p4 &&& (15 : Int32)) % (5 : Int32))) (v8_55 : Int32) (ev8_55 : v8_55 = ((((p4.toUInt32 >>> ((4 : Int32) &&& 31).toUInt32).toInt32) &&& (15 : Int32)) % (5 : Int32))) (v9_69 : Int32) (ev9_69 : v9_69 = (if (p5 &&& (1 : Int32)) = (0 : Int32) then (0 : Int32) else (1 : Int32))) (hc83_2 : ¬ ((f2 (4 : Int32) [(nar .byte (f1 p0)), (nar .byte (f1 p1)), (nar .byte (f1 p2)), (nar .byte (f1 p3))] (0 : Int32) v7_44 v8_55 v9_69) = (0 : Int32))) (v11_169 : Int32) (ev11_169 : v11_169 = (f3 (4 : Int32) [(nar .byte (f1 p0)), (nar .byte (f1 p1)), (nar .byte (f1 p2)), (nar .byte (f1 p3))] v7_44 v8_55 v9_69)) : v11_169 = (0 : Int32) := by
  have hf : v7_44 = 0 ∨ v7_44 = 1 ∨ v7_44 = 2 ∨ v7_44 = 3 ∨ v7_44 = 4 := by
    have a : (p4 &&& 15).toInt = p4.toInt % 16 := c_mask p4 15 4 (by decide) (by decide)
    have b := c_irem (p4 &&& 15) 5 5 (by decide)
    rw [← ev7_44] at b
    simp only [← Int32.toInt_inj, Int32.reduceToInt]
    omega
  have ht : 0 ≤ v8_55.toInt ∧ v8_55.toInt ≤ 4 := by
    have a : (((p4.toUInt32 >>> ((4 : Int32) &&& 31).toUInt32).toInt32) &&& 15).toInt = (((p4.toUInt32 >>> ((4 : Int32) &&& 31).toUInt32).toInt32)).toInt % 16 := c_mask _ 15 4 (by decide) (by decide)
    have b := c_irem (((p4.toUInt32 >>> ((4 : Int32) &&& 31).toUInt32).toInt32) &&& 15) 5 5 (by decide)
    rw [← ev8_55] at b
    omega
  have b0 : -128 ≤ (nar .byte (f1 p0)).toInt ∧ (nar .byte (f1 p0)).toInt < 128 := (c_i2b (f1 p0)).2
  have b1 : -128 ≤ (nar .byte (f1 p1)).toInt ∧ (nar .byte (f1 p1)).toInt < 128 := (c_i2b (f1 p1)).2
  have b2 : -128 ≤ (nar .byte (f1 p2)).toInt ∧ (nar .byte (f1 p2)).toInt < 128 := (c_i2b (f1 p2)).2
  have b3 : -128 ≤ (nar .byte (f1 p3)).toInt ∧ (nar .byte (f1 p3)).toInt < 128 := (c_i2b (f1 p3)).2
  rw [ev11_169]
  clear ev11_169 ev7_44 ev8_55 ev9_69
  generalize nar .byte (f1 p0) = x0 at *
  generalize nar .byte (f1 p1) = x1 at *
  generalize nar .byte (f1 p2) = x2 at *
  generalize nar .byte (f1 p3) = x3 at *
  have P := Classical.not_not.mp (fun z => hc83_2 ((own_hit0 x0 x1 x2 x3 v7_44 v8_55 v9_69 b0).mpr z))
  apply Int32.toInt_inj.mp
  rcases hf with h | h | h | h | h <;> subst h
  · have k := own_idx0 x0 x1 x2 x3 v8_55 v9_69 ht
    exact k.1  P
  · have k := own_idx1 x0 x1 x2 x3 v8_55 v9_69 ht
    exact k.1  P
  · have k := own_idx2 x0 x1 x2 x3 v8_55 v9_69 ht
    exact k.1  P
  · have k := own_idx3 x0 x1 x2 x3 v8_55 v9_69 ht
    exact k.1  P
  · have k := own_idx4 x0 x1 x2 x3 v8_55 v9_69 ht
    exact k.1  P
def Q0 (Z : State) (p0 : Int32) (p1 : Int32) (p2 : Int32) (p3 : Int32) (p4 : Int32) (p5 : Int32) (h0 : Heap) (n0 : Nat) (v : Option Value) (h : Heap) (L : List Loc) : Prop := v = some (.int 1) ∧ Fr n0 L
set_option maxRecDepth 65536 in
set_option maxHeartbeats 40000000 in
theorem rm0 (l : Launch) (Z : State) (a0 : Array Value) (hw : ∀ d ∈ tables_1, d.before a0 Z = true) (ws : List Jvm.Cond) (p0 : Int32) (p1 : Int32) (p2 : Int32) (p3 : Int32) (p4 : Int32) (p5 : Int32) (h0 : Heap) (n0 : Nat) (Z0 : n0 ≤ h0.size) :
    MetFree l x (head1 (Jvm.Cond.code x code maxLocals ret :: ws) room_1) (fun a U => a = #[(.int p0), (.int p1), (.int p2), (.int p3), (.int p4), (.int p5)] ∧ Z.Warmed39 U.vm ∧ U.heap = h0) (fun _ _ _ _ _ => True) (fun _ U o U' => ∃ v L, o = .returned v ∧ Q0 Z p0 p1 p2 p3 p4 p5 h0 n0 v U'.heap L ∧ FrameEnd U o U' L room_1.cells room_1.slots) := by
  refine MetFree.of_bodySF (plainFor_of_name pn0) hisR ?_
  intro p e s m args below meth c s₁ Bd hml0 hP hK
  obtain ⟨rfl, hZ, hh⟩ := hP
  have hx := Bd.exec
  have hby := Bd.bytes
  have hml : c.maxLocals = 12 := hml0
  have hown : s.vm.findClass "com/example/leaderline/leaderline/Iso2709RecordIndexOfSeparatorPinLaw" = some m.cls := findClass_of_methodNamed Bd.named
  have hnm := (name_of_methodNamed Bd.named Bd.method).1
  have X0 : Stand p l e room_1 s m #[(.int p0), (.int p1), (.int p2), (.int p3), (.int p4), (.int p5)] below meth c s₁ [] 0 0 := Stand.of_body Bd
  have e0 : s₁.heap = h0 := by rw [← hh, Bd.state]; rfl
  have N0 := Fr.nil n0
  refine Goes.out (Q := fun o U' => ∃ v L, o = .returned v ∧ Q0 Z p0 p1 p2 p3 p4 p5 h0 n0 v U'.heap L ∧ FrameEnd s o U' L room_1.cells room_1.slots) ?_
  refine Goes.step (S' := s₁.setTop (mkF m 0 #[.val (.int p0), .val (.int p1), .val (.int p2), .val (.int p3), .val (.int p4), .val (.int p5), .unset, .unset, .unset, .unset, .unset, .unset] [])) (fun _ k => castTop (ef0 m p0 p1 p2 p3 p4 p5) k) ?_
  refine Goes.step (S' := s₁.setTop (mkF m 1 #[.val (.int p0), .val (.int p1), .val (.int p2), .val (.int p3), .val (.int p4), .val (.int p5), .unset, .unset, .unset, .unset, .unset, .unset] [(.int (4 : Int32))])) (fun _ k => XS.iconst X0.here hx rfl (hb hby at_0) k) ?_
  obtain ⟨T1, h1, k1, X1, e1, E1, A1, st1⟩ := newP X0 hx hZ (hw _ (List.mem_of_getElem? (i := 0) rfl)) e0 (g := (mkF m 1 #[.val (.int p0), .val (.int p1), .val (.int p2), .val (.int p3), .val (.int p4), .val (.int p5), .unset, .unset, .unset, .unset, .unset, .unset] [(.int (4 : Int32))])) rfl (hb hby at_1) rfl (by decide) (cap := 4) (by decide) (by decide) (by decide) (by decide)
  obtain ⟨b1, g1⟩ : ∃ z, z = h0.size := ⟨_, rfl⟩
  rw [← g1] at A1 st1
  have g2 : n0 ≤ b1 := Nat.le_trans Z0 (Nat.le_of_eq g1.symm)
  have Z3 : n0 ≤ h1.size := Nat.le_trans Z0 E1.1
  have V4 : AI Z h1 b1 k1 .byte (4 : Int32) [(0 : Int32), (0 : Int32), (0 : Int32), (0 : Int32)] := own_new A1 (by decide) rfl
  refine Goes.step (S' := T1.setTop (mkF m 3 #[.val (.int p0), .val (.int p1), .val (.int p2), .val (.int p3), .val (.int p4), .val (.int p5), .unset, .unset, .unset, .unset, .unset, .unset] [(.ref b1)])) st1 ?_
  refine Goes.step (S' := T1.setTop (mkF m 5 #[.val (.int p0), .val (.int p1), .val (.int p2), .val (.int p3), .val (.int p4), .val (.int p5), .val (.ref b1), .unset, .unset, .unset, .unset, .unset] [])) (fun _ k => XS.astore X1.here hx rfl (hb hby at_3) rfl rfl (l' := #[.val (.int p0), .val (.int p1), .val (.int p2), .val (.int p3), .val (.int p4), .val (.int p5), .val (.ref b1), .unset, .unset, .unset, .unset, .unset]) rfl k) ?_
  refine Goes.step (S' := T1.setTop (mkF m 7 #[.val (.int p0), .val (.int p1), .val (.int p2), .val (.int p3), .val (.int p4), .val (.int p5), .val (.ref b1), .unset, .unset, .unset, .unset, .unset] [(.ref b1)])) (fun _ k => XS.aload X1.here hx rfl (hb hby at_5) rfl rfl k) ?_
  refine Goes.step (S' := T1.setTop (mkF m 8 #[.val (.int p0), .val (.int p1), .val (.int p2), .val (.int p3), .val (.int p4), .val (.int p5), .val (.ref b1), .unset, .unset, .unset, .unset, .unset] [(.int (0 : Int32)), (.ref b1)])) (fun _ k => XS.iconst X1.here hx rfl (hb hby at_7) k) ?_
  refine Goes.step (S' := T1.setTop (mkF m 9 #[.val (.int p0), .val (.int p1), .val (.int p2), .val (.int p3), .val (.int p4), .val (.int p5), .val (.ref b1), .unset, .unset, .unset, .unset, .unset] [(.int p0), (.int (0 : Int32)), (.ref b1)])) (fun _ k => XS.iloadN X1.here hx rfl (hb hby at_8) rfl  k) ?_
  obtain ⟨_, _, ⟨T5, L5, k5, n5⟩, -, X5, ⟨Lc5, hQ5, l5, y5, z5⟩, st5⟩ := Jvm.LawKit.callS X1 hx (y := (⟨"com/example/leaderline/leaderline/Iso2709RecordIndexOfSeparatorPinLaw", "draw", "(I)B"⟩ : MethodName)) hown (mvT hZ (hw _ (List.mem_of_getElem? (i := 1) rfl))) (mvT hZ (hw _ (List.mem_of_getElem? (i := 2) rfl))) (mvT hZ (hw _ (List.mem_of_getElem? (i := 3) rfl))) (mvT hZ (hw _ (List.mem_of_getElem? (i := 4) rfl))) (by decide) (backOf (W := 2) (rm1 l Z a0 hw [] p0 h1 n0 Z3) hZ (hw _ (List.mem_of_getElem? (i := 4) rfl)) (hw _ (List.mem_of_getElem? (i := 3) rfl)) (by decide) (by decide)) (g := (mkF m 9 #[.val (.int p0), .val (.int p1), .val (.int p2), .val (.int p3), .val (.int p4), .val (.int p5), .val (.ref b1), .unset, .unset, .unset, .unset, .unset] [(.int p0), (.int (0 : Int32)), (.ref b1)])) rfl (by rw [hml]; rfl) (argsL := [(.int p0)]) (rest := [(.int (0 : Int32)), (.ref b1)]) (lenOf pd1 rfl) rfl (by show 2 * 0 + _ ≤ _; exact Nat.le_of_eq rfl) (hb hby at_9) (fun _ _ => ⟨rfl, e1, (by decide : 1 + 0 ≤ _), (by decide : 4 + 0 ≤ _)⟩)
  dsimp only [Pt.U, Pt.locs, Pt.cells, Pt.slots] at X5 l5 y5 z5 st5 hQ5
  subst l5 y5 z5
  obtain ⟨rfl, N5q, e5⟩ := hQ5
  have N6 := Fr.app N0 N5q
  refine Goes.step (S' := T5.setTop (mkF m 12 #[.val (.int p0), .val (.int p1), .val (.int p2), .val (.int p3), .val (.int p4), .val (.int p5), .val (.ref b1), .unset, .unset, .unset, .unset, .unset] [(.int (f1 p0)), (.int (0 : Int32)), (.ref b1)])) st5 ?_
  obtain ⟨T7, h7, X7, e7, W7, V_7, st7⟩ := own_bastore X5 hx hZ e5 V4 ⟨by decide, by decide⟩ (g := (mkF m 12 #[.val (.int p0), .val (.int p1), .val (.int p2), .val (.int p3), .val (.int p4), .val (.int p5), .val (.ref b1), .unset, .unset, .unset, .unset, .unset] [(.int (f1 p0)), (.int (0 : Int32)), (.ref b1)])) rfl rfl (hb hby at_12)
  replace V_7 : AI Z h7 b1 k1 .byte (4 : Int32) [(nar .byte (f1 p0)), (0 : Int32), (0 : Int32), (0 : Int32)] := V_7
  have N8 := Fr.snoc X7 N6 g2
  have Z9 : n0 ≤ h7.size := Nat.le_trans Z3 (Nat.le_of_eq W7.size.symm)
  refine Goes.step (S' := T7.setTop (mkF m 13 #[.val (.int p0), .val (.int p1), .val (.int p2), .val (.int p3), .val (.int p4), .val (.int p5), .val (.ref b1), .unset, .unset, .unset, .unset, .unset] [])) st7 ?_
  refine Goes.step (S' := T7.setTop (mkF m 15 #[.val (.int p0), .val (.int p1), .val (.int p2), .val (.int p3), .val (.int p4), .val (.int p5), .val (.ref b1), .unset, .unset, .unset, .unset, .unset] [(.ref b1)])) (fun _ k => XS.aload X7.here hx rfl (hb hby at_13) rfl rfl k) ?_
  refine Goes.step (S' := T7.setTop (mkF m 16 #[.val (.int p0), .val (.int p1), .val (.int p2), .val (.int p3), .val (.int p4), .val (.int p5), .val (.ref b1), .unset, .unset, .unset, .unset, .unset] [(.int (1 : Int32)), (.ref b1)])) (fun _ k => XS.iconst X7.here hx rfl (hb hby at_15) k) ?_
  refine Goes.step (S' := T7.setTop (mkF m 17 #[.val (.int p0), .val (.int p1), .val (.int p2), .val (.int p3), .val (.int p4), .val (.int p5), .val (.ref b1), .unset, .unset, .unset, .unset, .unset] [(.int p1), (.int (1 : Int32)), (.ref b1)])) (fun _ k => XS.iloadN X7.here hx rfl (hb hby at_16) rfl  k) ?_
  obtain ⟨_, _, ⟨T10, L10, k10, n10⟩, -, X10, ⟨Lc10, hQ10, l10, y10, z10⟩, st10⟩ := Jvm.LawKit.callS X7 hx (y := (⟨"com/example/leaderline/leaderline/Iso2709RecordIndexOfSeparatorPinLaw", "draw", "(I)B"⟩ : MethodName)) hown (mvT hZ (hw _ (List.mem_of_getElem? (i := 1) rfl))) (mvT hZ (hw _ (List.mem_of_getElem? (i := 2) rfl))) (mvT hZ (hw _ (List.mem_of_getElem? (i := 3) rfl))) (mvT hZ (hw _ (List.mem_of_getElem? (i := 4) rfl))) (by decide) (backOf (W := 2) (rm1 l Z a0 hw [] p1 h7 n0 Z9) hZ (hw _ (List.mem_of_getElem? (i := 4) rfl)) (hw _ (List.mem_of_getElem? (i := 3) rfl)) (by decide) (by decide)) (g := (mkF m 17 #[.val (.int p0), .val (.int p1), .val (.int p2), .val (.int p3), .val (.int p4), .val (.int p5), .val (.ref b1), .unset, .unset, .unset, .unset, .unset] [(.int p1), (.int (1 : Int32)), (.ref b1)])) rfl (by rw [hml]; rfl) (argsL := [(.int p1)]) (rest := [(.int (1 : Int32)), (.ref b1)]) (lenOf pd1 rfl) rfl (by show 2 * 0 + _ ≤ _; exact Nat.le_of_eq rfl) (hb hby at_17) (fun _ _ => ⟨rfl, e7, (by decide : 1 + 0 ≤ _), (by decide : 4 + 0 ≤ _)⟩)
  dsimp only [Pt.U, Pt.locs, Pt.cells, Pt.slots] at X10 l10 y10 z10 st10 hQ10
  subst l10 y10 z10
  obtain ⟨rfl, N10q, e10⟩ := hQ10
  have N11 := Fr.app N8 N10q
  refine Goes.step (S' := T10.setTop (mkF m 20 #[.val (.int p0), .val (.int p1), .val (.int p2), .val (.int p3), .val (.int p4), .val (.int p5), .val (.ref b1), .unset, .unset, .unset, .unset, .unset] [(.int (f1 p1)), (.int (1 : Int32)), (.ref b1)])) st10 ?_
  obtain ⟨T12, h12, X12, e12, W12, V_12, st12⟩ := own_bastore X10 hx hZ e10 V_7 ⟨by decide, by decide⟩ (g := (mkF m 20 #[.val (.int p0), .val (.int p1), .val (.int p2), .val (.int p3), .val (.int p4), .val (.int p5), .val (.ref b1), .unset, .unset, .unset, .unset, .unset] [(.int (f1 p1)), (.int (1 : Int32)), (.ref b1)])) rfl rfl (hb hby at_20)
  replace V_12 : AI Z h12 b1 k1 .byte (4 : Int32) [(nar .byte (f1 p0)), (nar .byte (f1 p1)), (0 : Int32), (0 : Int32)] := V_12
  have N13 := Fr.snoc X12 N11 g2
  have Z14 : n0 ≤ h12.size := Nat.le_trans Z9 (Nat.le_of_eq W12.size.symm)
  refine Goes.step (S' := T12.setTop (mkF m 21 #[.val (.int p0), .val (.int p1), .val (.int p2), .val (.int p3), .val (.int p4), .val (.int p5), .val (.ref b1), .unset, .unset, .unset, .unset, .unset] [])) st12 ?_
  refine Goes.step (S' := T12.setTop (mkF m 23 #[.val (.int p0), .val (.int p1), .val (.int p2), .val (.int p3), .val (.int p4), .val (.int p5), .val (.ref b1), .unset, .unset, .unset, .unset, .unset] [(.ref b1)])) (fun _ k => XS.aload X12.here hx rfl (hb hby at_21) rfl rfl k) ?_
  refine Goes.step (S' := T12.setTop (mkF m 24 #[.val (.int p0), .val (.int p1), .val (.int p2), .val (.int p3), .val (.int p4), .val (.int p5), .val (.ref b1), .unset, .unset, .unset, .unset, .unset] [(.int (2 : Int32)), (.ref b1)])) (fun _ k => XS.iconst X12.here hx rfl (hb hby at_23) k) ?_
  refine Goes.step (S' := T12.setTop (mkF m 25 #[.val (.int p0), .val (.int p1), .val (.int p2), .val (.int p3), .val (.int p4), .val (.int p5), .val (.ref b1), .unset, .unset, .unset, .unset, .unset] [(.int p2), (.int (2 : Int32)), (.ref b1)])) (fun _ k => XS.iloadN X12.here hx rfl (hb hby at_24) rfl  k) ?_
  obtain ⟨_, _, ⟨T15, L15, k15, n15⟩, -, X15, ⟨Lc15, hQ15, l15, y15, z15⟩, st15⟩ := Jvm.LawKit.callS X12 hx (y := (⟨"com/example/leaderline/leaderline/Iso2709RecordIndexOfSeparatorPinLaw", "draw", "(I)B"⟩ : MethodName)) hown (mvT hZ (hw _ (List.mem_of_getElem? (i := 1) rfl))) (mvT hZ (hw _ (List.mem_of_getElem? (i := 2) rfl))) (mvT hZ (hw _ (List.mem_of_getElem? (i := 3) rfl))) (mvT hZ (hw _ (List.mem_of_getElem? (i := 4) rfl))) (by decide) (backOf (W := 2) (rm1 l Z a0 hw [] p2 h12 n0 Z14) hZ (hw _ (List.mem_of_getElem? (i := 4) rfl)) (hw _ (List.mem_of_getElem? (i := 3) rfl)) (by decide) (by decide)) (g := (mkF m 25 #[.val (.int p0), .val (.int p1), .val (.int p2), .val (.int p3), .val (.int p4), .val (.int p5), .val (.ref b1), .unset, .unset, .unset, .unset, .unset] [(.int p2), (.int (2 : Int32)), (.ref b1)])) rfl (by rw [hml]; rfl) (argsL := [(.int p2)]) (rest := [(.int (2 : Int32)), (.ref b1)]) (lenOf pd1 rfl) rfl (by show 2 * 0 + _ ≤ _; exact Nat.le_of_eq rfl) (hb hby at_25) (fun _ _ => ⟨rfl, e12, (by decide : 1 + 0 ≤ _), (by decide : 4 + 0 ≤ _)⟩)
  dsimp only [Pt.U, Pt.locs, Pt.cells, Pt.slots] at X15 l15 y15 z15 st15 hQ15
  subst l15 y15 z15
  obtain ⟨rfl, N15q, e15⟩ := hQ15
  have N16 := Fr.app N13 N15q
  refine Goes.step (S' := T15.setTop (mkF m 28 #[.val (.int p0), .val (.int p1), .val (.int p2), .val (.int p3), .val (.int p4), .val (.int p5), .val (.ref b1), .unset, .unset, .unset, .unset, .unset] [(.int (f1 p2)), (.int (2 : Int32)), (.ref b1)])) st15 ?_
  obtain ⟨T17, h17, X17, e17, W17, V_17, st17⟩ := own_bastore X15 hx hZ e15 V_12 ⟨by decide, by decide⟩ (g := (mkF m 28 #[.val (.int p0), .val (.int p1), .val (.int p2), .val (.int p3), .val (.int p4), .val (.int p5), .val (.ref b1), .unset, .unset, .unset, .unset, .unset] [(.int (f1 p2)), (.int (2 : Int32)), (.ref b1)])) rfl rfl (hb hby at_28)
  replace V_17 : AI Z h17 b1 k1 .byte (4 : Int32) [(nar .byte (f1 p0)), (nar .byte (f1 p1)), (nar .byte (f1 p2)), (0 : Int32)] := V_17
  have N18 := Fr.snoc X17 N16 g2
  have Z19 : n0 ≤ h17.size := Nat.le_trans Z14 (Nat.le_of_eq W17.size.symm)
  refine Goes.step (S' := T17.setTop (mkF m 29 #[.val (.int p0), .val (.int p1), .val (.int p2), .val (.int p3), .val (.int p4), .val (.int p5), .val (.ref b1), .unset, .unset, .unset, .unset, .unset] [])) st17 ?_
  refine Goes.step (S' := T17.setTop (mkF m 31 #[.val (.int p0), .val (.int p1), .val (.int p2), .val (.int p3), .val (.int p4), .val (.int p5), .val (.ref b1), .unset, .unset, .unset, .unset, .unset] [(.ref b1)])) (fun _ k => XS.aload X17.here hx rfl (hb hby at_29) rfl rfl k) ?_
  refine Goes.step (S' := T17.setTop (mkF m 32 #[.val (.int p0), .val (.int p1), .val (.int p2), .val (.int p3), .val (.int p4), .val (.int p5), .val (.ref b1), .unset, .unset, .unset, .unset, .unset] [(.int (3 : Int32)), (.ref b1)])) (fun _ k => XS.iconst X17.here hx rfl (hb hby at_31) k) ?_
  refine Goes.step (S' := T17.setTop (mkF m 33 #[.val (.int p0), .val (.int p1), .val (.int p2), .val (.int p3), .val (.int p4), .val (.int p5), .val (.ref b1), .unset, .unset, .unset, .unset, .unset] [(.int p3), (.int (3 : Int32)), (.ref b1)])) (fun _ k => XS.iloadN X17.here hx rfl (hb hby at_32) rfl  k) ?_
  obtain ⟨_, _, ⟨T20, L20, k20, n20⟩, -, X20, ⟨Lc20, hQ20, l20, y20, z20⟩, st20⟩ := Jvm.LawKit.callS X17 hx (y := (⟨"com/example/leaderline/leaderline/Iso2709RecordIndexOfSeparatorPinLaw", "draw", "(I)B"⟩ : MethodName)) hown (mvT hZ (hw _ (List.mem_of_getElem? (i := 1) rfl))) (mvT hZ (hw _ (List.mem_of_getElem? (i := 2) rfl))) (mvT hZ (hw _ (List.mem_of_getElem? (i := 3) rfl))) (mvT hZ (hw _ (List.mem_of_getElem? (i := 4) rfl))) (by decide) (backOf (W := 2) (rm1 l Z a0 hw [] p3 h17 n0 Z19) hZ (hw _ (List.mem_of_getElem? (i := 4) rfl)) (hw _ (List.mem_of_getElem? (i := 3) rfl)) (by decide) (by decide)) (g := (mkF m 33 #[.val (.int p0), .val (.int p1), .val (.int p2), .val (.int p3), .val (.int p4), .val (.int p5), .val (.ref b1), .unset, .unset, .unset, .unset, .unset] [(.int p3), (.int (3 : Int32)), (.ref b1)])) rfl (by rw [hml]; rfl) (argsL := [(.int p3)]) (rest := [(.int (3 : Int32)), (.ref b1)]) (lenOf pd1 rfl) rfl (by show 2 * 0 + _ ≤ _; exact Nat.le_of_eq rfl) (hb hby at_33) (fun _ _ => ⟨rfl, e17, (by decide : 1 + 0 ≤ _), (by decide : 4 + 0 ≤ _)⟩)
  dsimp only [Pt.U, Pt.locs, Pt.cells, Pt.slots] at X20 l20 y20 z20 st20 hQ20
  subst l20 y20 z20
  obtain ⟨rfl, N20q, e20⟩ := hQ20
  have N21 := Fr.app N18 N20q
  refine Goes.step (S' := T20.setTop (mkF m 36 #[.val (.int p0), .val (.int p1), .val (.int p2), .val (.int p3), .val (.int p4), .val (.int p5), .val (.ref b1), .unset, .unset, .unset, .unset, .unset] [(.int (f1 p3)), (.int (3 : Int32)), (.ref b1)])) st20 ?_
  obtain ⟨T22, h22, X22, e22, W22, V_22, st22⟩ := own_bastore X20 hx hZ e20 V_17 ⟨by decide, by decide⟩ (g := (mkF m 36 #[.val (.int p0), .val (.int p1), .val (.int p2), .val (.int p3), .val (.int p4), .val (.int p5), .val (.ref b1), .unset, .unset, .unset, .unset, .unset] [(.int (f1 p3)), (.int (3 : Int32)), (.ref b1)])) rfl rfl (hb hby at_36)
  replace V_22 : AI Z h22 b1 k1 .byte (4 : Int32) [(nar .byte (f1 p0)), (nar .byte (f1 p1)), (nar .byte (f1 p2)), (nar .byte (f1 p3))] := V_22
  have N23 := Fr.snoc X22 N21 g2
  have Z24 : n0 ≤ h22.size := Nat.le_trans Z19 (Nat.le_of_eq W22.size.symm)
  refine Goes.step (S' := T22.setTop (mkF m 37 #[.val (.int p0), .val (.int p1), .val (.int p2), .val (.int p3), .val (.int p4), .val (.int p5), .val (.ref b1), .unset, .unset, .unset, .unset, .unset] [])) st22 ?_
  refine Goes.step (S' := T22.setTop (mkF m 39 #[.val (.int p0), .val (.int p1), .val (.int p2), .val (.int p3), .val (.int p4), .val (.int p5), .val (.ref b1), .unset, .unset, .unset, .unset, .unset] [(.int p4)])) (fun _ k => XS.iload X22.here hx rfl (hb hby at_37) rfl  k) ?_
  refine Goes.step (S' := T22.setTop (mkF m 41 #[.val (.int p0), .val (.int p1), .val (.int p2), .val (.int p3), .val (.int p4), .val (.int p5), .val (.ref b1), .unset, .unset, .unset, .unset, .unset] [(.int (15 : Int32)), (.int p4)])) (fun _ k => XS.bipush X22.here hx rfl (hb hby at_39) k) ?_
  refine Goes.step (S' := T22.setTop (mkF m 42 #[.val (.int p0), .val (.int p1), .val (.int p2), .val (.int p3), .val (.int p4), .val (.int p5), .val (.ref b1), .unset, .unset, .unset, .unset, .unset] [(.int (p4 &&& (15 : Int32)))])) (fun _ k => XS.iand X22.here hx rfl (hb hby at_41) rfl k) ?_
  refine Goes.step (S' := T22.setTop (mkF m 43 #[.val (.int p0), .val (.int p1), .val (.int p2), .val (.int p3), .val (.int p4), .val (.int p5), .val (.ref b1), .unset, .unset, .unset, .unset, .unset] [(.int (5 : Int32)), (.int (p4 &&& (15 : Int32)))])) (fun _ k => XS.iconst X22.here hx rfl (hb hby at_42) k) ?_
  refine Goes.step (S' := T22.setTop (mkF m 44 #[.val (.int p0), .val (.int p1), .val (.int p2), .val (.int p3), .val (.int p4), .val (.int p5), .val (.ref b1), .unset, .unset, .unset, .unset, .unset] [(.int ((p4 &&& (15 : Int32)) % (5 : Int32)))])) (fun _ k => iremM X22 hx rfl (hb hby at_43) rfl (by decide) k) ?_
  refine Goes.step (S' := T22.setTop (mkF m 46 #[.val (.int p0), .val (.int p1), .val (.int p2), .val (.int p3), .val (.int p4), .val (.int p5), .val (.ref b1), .val (.int ((p4 &&& (15 : Int32)) % (5 : Int32))), .unset, .unset, .unset, .unset] [])) (fun _ k => XS.istore X22.here hx rfl (hb hby at_44) rfl (l' := #[.val (.int p0), .val (.int p1), .val (.int p2), .val (.int p3), .val (.int p4), .val (.int p5), .val (.ref b1), .val (.int ((p4 &&& (15 : Int32)) % (5 : Int32))), .unset, .unset, .unset, .unset]) rfl k) ?_
  obtain ⟨v7_44, ev7_44⟩ : ∃ z : Int32, z = ((p4 &&& (15 : Int32)) % (5 : Int32)) := ⟨_, rfl⟩
  rw [← ev7_44]
  refine Goes.step (S' := T22.setTop (mkF m 48 #[.val (.int p0), .val (.int p1), .val (.int p2), .val (.int p3), .val (.int p4), .val (.int p5), .val (.ref b1), .val (.int v7_44), .unset, .unset, .unset, .unset] [(.int p4)])) (fun _ k => XS.iload X22.here hx rfl (hb hby at_46) rfl  k) ?_
  refine Goes.step (S' := T22.setTop (mkF m 49 #[.val (.int p0), .val (.int p1), .val (.int p2), .val (.int p3), .val (.int p4), .val (.int p5), .val (.ref b1), .val (.int v7_44), .unset, .unset, .unset, .unset] [(.int (4 : Int32)), (.int p4)])) (fun _ k => XS.iconst X22.here hx rfl (hb hby at_48) k) ?_
  refine Goes.step (S' := T22.setTop (mkF m 50 #[.val (.int p0), .val (.int p1), .val (.int p2), .val (.int p3), .val (.int p4), .val (.int p5), .val (.ref b1), .val (.int v7_44), .unset, .unset, .unset, .unset] [(.int ((p4.toUInt32 >>> ((4 : Int32) &&& 31).toUInt32).toInt32))])) (fun _ k => XS.iushr X22.here hx rfl (hb hby at_49) rfl k) ?_
  refine Goes.step (S' := T22.setTop (mkF m 52 #[.val (.int p0), .val (.int p1), .val (.int p2), .val (.int p3), .val (.int p4), .val (.int p5), .val (.ref b1), .val (.int v7_44), .unset, .unset, .unset, .unset] [(.int (15 : Int32)), (.int ((p4.toUInt32 >>> ((4 : Int32) &&& 31).toUInt32).toInt32))])) (fun _ k => XS.bipush X22.here hx rfl (hb hby at_50) k) ?_
  refine Goes.step (S' := T22.setTop (mkF m 53 #[.val (.int p0), .val (.int p1), .val (.int p2), .val (.int p3), .val (.int p4), .val (.int p5), .val (.ref b1), .val (.int v7_44), .unset, .unset, .unset, .unset] [(.int (((p4.toUInt32 >>> ((4 : Int32) &&& 31).toUInt32).toInt32) &&& (15 : Int32)))])) (fun _ k => XS.iand X22.here hx rfl (hb hby at_52) rfl k) ?_
  refine Goes.step (S' := T22.setTop (mkF m 54 #[.val (.int p0), .val (.int p1), .val (.int p2), .val (.int p3), .val (.int p4), .val (.int p5), .val (.ref b1), .val (.int v7_44), .unset, .unset, .unset, .unset] [(.int (5 : Int32)), (.int (((p4.toUInt32 >>> ((4 : Int32) &&& 31).toUInt32).toInt32) &&& (15 : Int32)))])) (fun _ k => XS.iconst X22.here hx rfl (hb hby at_53) k) ?_
  refine Goes.step (S' := T22.setTop (mkF m 55 #[.val (.int p0), .val (.int p1), .val (.int p2), .val (.int p3), .val (.int p4), .val (.int p5), .val (.ref b1), .val (.int v7_44), .unset, .unset, .unset, .unset] [(.int ((((p4.toUInt32 >>> ((4 : Int32) &&& 31).toUInt32).toInt32) &&& (15 : Int32)) % (5 : Int32)))])) (fun _ k => iremM X22 hx rfl (hb hby at_54) rfl (by decide) k) ?_
  refine Goes.step (S' := T22.setTop (mkF m 57 #[.val (.int p0), .val (.int p1), .val (.int p2), .val (.int p3), .val (.int p4), .val (.int p5), .val (.ref b1), .val (.int v7_44), .val (.int ((((p4.toUInt32 >>> ((4 : Int32) &&& 31).toUInt32).toInt32) &&& (15 : Int32)) % (5 : Int32))), .unset, .unset, .unset] [])) (fun _ k => XS.istore X22.here hx rfl (hb hby at_55) rfl (l' := #[.val (.int p0), .val (.int p1), .val (.int p2), .val (.int p3), .val (.int p4), .val (.int p5), .val (.ref b1), .val (.int v7_44), .val (.int ((((p4.toUInt32 >>> ((4 : Int32) &&& 31).toUInt32).toInt32) &&& (15 : Int32)) % (5 : Int32))), .unset, .unset, .unset]) rfl k) ?_
  obtain ⟨v8_55, ev8_55⟩ : ∃ z : Int32, z = ((((p4.toUInt32 >>> ((4 : Int32) &&& 31).toUInt32).toInt32) &&& (15 : Int32)) % (5 : Int32)) := ⟨_, rfl⟩
  rw [← ev8_55]
  refine Goes.step (S' := T22.setTop (mkF m 59 #[.val (.int p0), .val (.int p1), .val (.int p2), .val (.int p3), .val (.int p4), .val (.int p5), .val (.ref b1), .val (.int v7_44), .val (.int v8_55), .unset, .unset, .unset] [(.int p5)])) (fun _ k => XS.iload X22.here hx rfl (hb hby at_57) rfl  k) ?_
  refine Goes.step (S' := T22.setTop (mkF m 60 #[.val (.int p0), .val (.int p1), .val (.int p2), .val (.int p3), .val (.int p4), .val (.int p5), .val (.ref b1), .val (.int v7_44), .val (.int v8_55), .unset, .unset, .unset] [(.int (1 : Int32)), (.int p5)])) (fun _ k => XS.iconst X22.here hx rfl (hb hby at_59) k) ?_
  refine Goes.step (S' := T22.setTop (mkF m 61 #[.val (.int p0), .val (.int p1), .val (.int p2), .val (.int p3), .val (.int p4), .val (.int p5), .val (.ref b1), .val (.int v7_44), .val (.int v8_55), .unset, .unset, .unset] [(.int (p5 &&& (1 : Int32)))])) (fun _ k => XS.iand X22.here hx rfl (hb hby at_60) rfl k) ?_
  refine Goes.step (own_ite1 (T := T22) (c := (p5 &&& (1 : Int32)) = (0 : Int32)) (a0 := (0 : Int32)) (b0 := (1 : Int32)) (F := fun z1_0 => (mkF m 69 #[.val (.int p0), .val (.int p1), .val (.int p2), .val (.int p3), .val (.int p4), .val (.int p5), .val (.ref b1), .val (.int v7_44), .val (.int v8_55), .unset, .unset, .unset] [(.int z1_0)])) ?_ ?_) ?_
  · intro hc61_1 t k
    refine XS.ifYes X22.here hx rfl (pc0 := 61) (pc' := 68) rfl (hb hby at_61) rfl ((if0 _ _).trans (teq hc61_1).1) (by decide) (by decide) ?_
    show Steps p.tables e below (T22.setTop (mkF m 68 #[.val (.int p0), .val (.int p1), .val (.int p2), .val (.int p3), .val (.int p4), .val (.int p5), .val (.ref b1), .val (.int v7_44), .val (.int v8_55), .unset, .unset, .unset] [])) _
    refine XS.iconst X22.here hx rfl (hb hby at_68) ?_
    show Steps p.tables e below (T22.setTop (mkF m 69 #[.val (.int p0), .val (.int p1), .val (.int p2), .val (.int p3), .val (.int p4), .val (.int p5), .val (.ref b1), .val (.int v7_44), .val (.int v8_55), .unset, .unset, .unset] [(.int (0 : Int32))])) _
    exact k
  · intro hc61_1 t k
    refine XS.ifNo X22.here hx rfl (hb hby at_61) rfl ((if0 _ _).trans (feq hc61_1).1) ?_
    show Steps p.tables e below (T22.setTop (mkF m 64 #[.val (.int p0), .val (.int p1), .val (.int p2), .val (.int p3), .val (.int p4), .val (.int p5), .val (.ref b1), .val (.int v7_44), .val (.int v8_55), .unset, .unset, .unset] [])) _
    refine XS.iconst X22.here hx rfl (hb hby at_64) ?_
    show Steps p.tables e below (T22.setTop (mkF m 65 #[.val (.int p0), .val (.int p1), .val (.int p2), .val (.int p3), .val (.int p4), .val (.int p5), .val (.ref b1), .val (.int v7_44), .val (.int v8_55), .unset, .unset, .unset] [(.int (1 : Int32))])) _
    refine XS.goto X22.here hx rfl (pc0 := 65) (pc' := 69) rfl (hb hby at_65) (by decide) (by decide) ?_
    show Steps p.tables e below (T22.setTop (mkF m 69 #[.val (.int p0), .val (.int p1), .val (.int p2), .val (.int p3), .val (.int p4), .val (.int p5), .val (.ref b1), .val (.int v7_44), .val (.int v8_55), .unset, .unset, .unset] [(.int (1 : Int32))])) _
    exact k
  show Goes p.tables e below _ (T22.setTop (mkF m 69 #[.val (.int p0), .val (.int p1), .val (.int p2), .val (.int p3), .val (.int p4), .val (.int p5), .val (.ref b1), .val (.int v7_44), .val (.int v8_55), .unset, .unset, .unset] [(.int (if (p5 &&& (1 : Int32)) = (0 : Int32) then (0 : Int32) else (1 : Int32)))]))
  refine Goes.step (S' := T22.setTop (mkF m 71 #[.val (.int p0), .val (.int p1), .val (.int p2), .val (.int p3), .val (.int p4), .val (.int p5), .val (.ref b1), .val (.int v7_44), .val (.int v8_55), .val (.int (if (p5 &&& (1 : Int32)) = (0 : Int32) then (0 : Int32) else (1 : Int32))), .unset, .unset] [])) (fun _ k => XS.istore X22.here hx rfl (hb hby at_69) rfl (l' := #[.val (.int p0), .val (.int p1), .val (.int p2), .val (.int p3), .val (.int p4), .val (.int p5), .val (.ref b1), .val (.int v7_44), .val (.int v8_55), .val (.int (if (p5 &&& (1 : Int32)) = (0 : Int32) then (0 : Int32) else (1 : Int32))), .unset, .unset]) rfl k) ?_
  obtain ⟨v9_69, ev9_69⟩ : ∃ z : Int32, z = (if (p5 &&& (1 : Int32)) = (0 : Int32) then (0 : Int32) else (1 : Int32)) := ⟨_, rfl⟩
  rw [← ev9_69]
  refine Goes.step (S' := T22.setTop (mkF m 73 #[.val (.int p0), .val (.int p1), .val (.int p2), .val (.int p3), .val (.int p4), .val (.int p5), .val (.ref b1), .val (.int v7_44), .val (.int v8_55), .val (.int v9_69), .unset, .unset] [(.ref b1)])) (fun _ k => XS.aload X22.here hx rfl (hb hby at_71) rfl rfl k) ?_
  refine Goes.step (S' := T22.setTop (mkF m 74 #[.val (.int p0), .val (.int p1), .val (.int p2), .val (.int p3), .val (.int p4), .val (.int p5), .val (.ref b1), .val (.int v7_44), .val (.int v8_55), .val (.int v9_69), .unset, .unset] [(.int (0 : Int32)), (.ref b1)])) (fun _ k => XS.iconst X22.here hx rfl (hb hby at_73) k) ?_
  refine Goes.step (S' := T22.setTop (mkF m 76 #[.val (.int p0), .val (.int p1), .val (.int p2), .val (.int p3), .val (.int p4), .val (.int p5), .val (.ref b1), .val (.int v7_44), .val (.int v8_55), .val (.int v9_69), .unset, .unset] [(.int v7_44), (.int (0 : Int32)), (.ref b1)])) (fun _ k => XS.iload X22.here hx rfl (hb hby at_74) rfl  k) ?_
  refine Goes.step (S' := T22.setTop (mkF m 78 #[.val (.int p0), .val (.int p1), .val (.int p2), .val (.int p3), .val (.int p4), .val (.int p5), .val (.ref b1), .val (.int v7_44), .val (.int v8_55), .val (.int v9_69), .unset, .unset] [(.int v8_55), (.int v7_44), (.int (0 : Int32)), (.ref b1)])) (fun _ k => XS.iload X22.here hx rfl (hb hby at_76) rfl  k) ?_
  refine Goes.step (S' := T22.setTop (mkF m 80 #[.val (.int p0), .val (.int p1), .val (.int p2), .val (.int p3), .val (.int p4), .val (.int p5), .val (.ref b1), .val (.int v7_44), .val (.int v8_55), .val (.int v9_69), .unset, .unset] [(.int v9_69), (.int v8_55), (.int v7_44), (.int (0 : Int32)), (.ref b1)])) (fun _ k => XS.iload X22.here hx rfl (hb hby at_78) rfl  k) ?_
  obtain ⟨_, _, ⟨T25, L25, k25, n25⟩, -, X25, ⟨Lc25, hQ25, l25, y25, z25⟩, st25⟩ := Jvm.LawKit.callS X22 hx (y := (⟨"com/example/leaderline/leaderline/Iso2709RecordIndexOfSeparatorPinLaw", "hit", "([BIIIZ)Z"⟩ : MethodName)) hown (mvT hZ (hw _ (List.mem_of_getElem? (i := 5) rfl))) (mvT hZ (hw _ (List.mem_of_getElem? (i := 6) rfl))) (mvT hZ (hw _ (List.mem_of_getElem? (i := 3) rfl))) (mvT hZ (hw _ (List.mem_of_getElem? (i := 7) rfl))) (by decide) (backOf (W := 0) (rm2 l Z a0 hw [] b1 (0 : Int32) v7_44 v8_55 v9_69 k1 ((4 : Int32)) ([(nar .byte (f1 p0)), (nar .byte (f1 p1)), (nar .byte (f1 p2)), (nar .byte (f1 p3))]) h22 n0 Z24 V_22 (own_pr0_80_hB p0 p1 p2 p3 p4 p5 v7_44 ev7_44 v8_55 ev8_55 v9_69 ev9_69)) hZ (hw _ (List.mem_of_getElem? (i := 7) rfl)) (hw _ (List.mem_of_getElem? (i := 3) rfl)) (by decide) (by decide)) (g := (mkF m 80 #[.val (.int p0), .val (.int p1), .val (.int p2), .val (.int p3), .val (.int p4), .val (.int p5), .val (.ref b1), .val (.int v7_44), .val (.int v8_55), .val (.int v9_69), .unset, .unset] [(.int v9_69), (.int v8_55), (.int v7_44), (.int (0 : Int32)), (.ref b1)])) rfl (by rw [hml]; rfl) (argsL := [(.ref b1), (.int (0 : Int32)), (.int v7_44), (.int v8_55), (.int v9_69)]) (rest := []) (lenOf pd2 rfl) rfl (by show 2 * 0 + _ ≤ _; exact Nat.le_of_eq rfl) (hb hby at_80) (fun _ _ => ⟨rfl, e22, (by decide : 1 + 0 ≤ _), (by decide : 4 + 0 ≤ _)⟩)
  dsimp only [Pt.U, Pt.locs, Pt.cells, Pt.slots] at X25 l25 y25 z25 st25 hQ25
  subst l25 y25 z25
  obtain ⟨rfl, N25q, e25⟩ := hQ25
  have N26 := Fr.app N23 N25q
  refine Goes.step (S' := T25.setTop (mkF m 83 #[.val (.int p0), .val (.int p1), .val (.int p2), .val (.int p3), .val (.int p4), .val (.int p5), .val (.ref b1), .val (.int v7_44), .val (.int v8_55), .val (.int v9_69), .unset, .unset] [(.int (f2 (4 : Int32) [(nar .byte (f1 p0)), (nar .byte (f1 p1)), (nar .byte (f1 p2)), (nar .byte (f1 p3))] (0 : Int32) v7_44 v8_55 v9_69))])) st25 ?_
  by_cases hc83_2 : (f2 (4 : Int32) [(nar .byte (f1 p0)), (nar .byte (f1 p1)), (nar .byte (f1 p2)), (nar .byte (f1 p3))] (0 : Int32) v7_44 v8_55 v9_69) = (0 : Int32)
  · refine Goes.step (S' := T25.setTop (mkF m 92 #[.val (.int p0), .val (.int p1), .val (.int p2), .val (.int p3), .val (.int p4), .val (.int p5), .val (.ref b1), .val (.int v7_44), .val (.int v8_55), .val (.int v9_69), .unset, .unset] [])) (fun _ k => XS.ifYes X25.here hx rfl (pc0 := 83) (pc' := 92) rfl (hb hby at_83) rfl ((if0 _ _).trans (teq hc83_2).1) (by decide) (by decide) k) ?_
    refine Goes.step (S' := T25.setTop (mkF m 94 #[.val (.int p0), .val (.int p1), .val (.int p2), .val (.int p3), .val (.int p4), .val (.int p5), .val (.ref b1), .val (.int v7_44), .val (.int v8_55), .val (.int v9_69), .unset, .unset] [(.ref b1)])) (fun _ k => XS.aload X25.here hx rfl (hb hby at_92) rfl rfl k) ?_
    refine Goes.step (S' := T25.setTop (mkF m 95 #[.val (.int p0), .val (.int p1), .val (.int p2), .val (.int p3), .val (.int p4), .val (.int p5), .val (.ref b1), .val (.int v7_44), .val (.int v8_55), .val (.int v9_69), .unset, .unset] [(.int (1 : Int32)), (.ref b1)])) (fun _ k => XS.iconst X25.here hx rfl (hb hby at_94) k) ?_
    refine Goes.step (S' := T25.setTop (mkF m 97 #[.val (.int p0), .val (.int p1), .val (.int p2), .val (.int p3), .val (.int p4), .val (.int p5), .val (.ref b1), .val (.int v7_44), .val (.int v8_55), .val (.int v9_69), .unset, .unset] [(.int v7_44), (.int (1 : Int32)), (.ref b1)])) (fun _ k => XS.iload X25.here hx rfl (hb hby at_95) rfl  k) ?_
    refine Goes.step (S' := T25.setTop (mkF m 99 #[.val (.int p0), .val (.int p1), .val (.int p2), .val (.int p3), .val (.int p4), .val (.int p5), .val (.ref b1), .val (.int v7_44), .val (.int v8_55), .val (.int v9_69), .unset, .unset] [(.int v8_55), (.int v7_44), (.int (1 : Int32)), (.ref b1)])) (fun _ k => XS.iload X25.here hx rfl (hb hby at_97) rfl  k) ?_
    refine Goes.step (S' := T25.setTop (mkF m 101 #[.val (.int p0), .val (.int p1), .val (.int p2), .val (.int p3), .val (.int p4), .val (.int p5), .val (.ref b1), .val (.int v7_44), .val (.int v8_55), .val (.int v9_69), .unset, .unset] [(.int v9_69), (.int v8_55), (.int v7_44), (.int (1 : Int32)), (.ref b1)])) (fun _ k => XS.iload X25.here hx rfl (hb hby at_99) rfl  k) ?_
    obtain ⟨_, _, ⟨T27, L27, k27, n27⟩, -, X27, ⟨Lc27, hQ27, l27, y27, z27⟩, st27⟩ := Jvm.LawKit.callS X25 hx (y := (⟨"com/example/leaderline/leaderline/Iso2709RecordIndexOfSeparatorPinLaw", "hit", "([BIIIZ)Z"⟩ : MethodName)) hown (mvT hZ (hw _ (List.mem_of_getElem? (i := 5) rfl))) (mvT hZ (hw _ (List.mem_of_getElem? (i := 6) rfl))) (mvT hZ (hw _ (List.mem_of_getElem? (i := 3) rfl))) (mvT hZ (hw _ (List.mem_of_getElem? (i := 7) rfl))) (by decide) (backOf (W := 0) (rm2 l Z a0 hw [] b1 (1 : Int32) v7_44 v8_55 v9_69 k1 ((4 : Int32)) ([(nar .byte (f1 p0)), (nar .byte (f1 p1)), (nar .byte (f1 p2)), (nar .byte (f1 p3))]) h22 n0 Z24 V_22 (own_pr0_101_hB p0 p1 p2 p3 p4 p5 v7_44 ev7_44 v8_55 ev8_55 v9_69 ev9_69 hc83_2)) hZ (hw _ (List.mem_of_getElem? (i := 7) rfl)) (hw _ (List.mem_of_getElem? (i := 3) rfl)) (by decide) (by decide)) (g := (mkF m 101 #[.val (.int p0), .val (.int p1), .val (.int p2), .val (.int p3), .val (.int p4), .val (.int p5), .val (.ref b1), .val (.int v7_44), .val (.int v8_55), .val (.int v9_69), .unset, .unset] [(.int v9_69), (.int v8_55), (.int v7_44), (.int (1 : Int32)), (.ref b1)])) rfl (by rw [hml]; rfl) (argsL := [(.ref b1), (.int (1 : Int32)), (.int v7_44), (.int v8_55), (.int v9_69)]) (rest := []) (lenOf pd2 rfl) rfl (by show 2 * 0 + _ ≤ _; exact Nat.le_of_eq rfl) (hb hby at_101) (fun _ _ => ⟨rfl, e25, (by decide : 1 + 0 ≤ _), (by decide : 4 + 0 ≤ _)⟩)
    dsimp only [Pt.U, Pt.locs, Pt.cells, Pt.slots] at X27 l27 y27 z27 st27 hQ27
    subst l27 y27 z27
    obtain ⟨rfl, N27q, e27⟩ := hQ27
    have N28 := Fr.app N26 N27q
    refine Goes.step (S' := T27.setTop (mkF m 104 #[.val (.int p0), .val (.int p1), .val (.int p2), .val (.int p3), .val (.int p4), .val (.int p5), .val (.ref b1), .val (.int v7_44), .val (.int v8_55), .val (.int v9_69), .unset, .unset] [(.int (f2 (4 : Int32) [(nar .byte (f1 p0)), (nar .byte (f1 p1)), (nar .byte (f1 p2)), (nar .byte (f1 p3))] (1 : Int32) v7_44 v8_55 v9_69))])) st27 ?_
    by_cases hc104_3 : (f2 (4 : Int32) [(nar .byte (f1 p0)), (nar .byte (f1 p1)), (nar .byte (f1 p2)), (nar .byte (f1 p3))] (1 : Int32) v7_44 v8_55 v9_69) = (0 : Int32)
    · refine Goes.step (S' := T27.setTop (mkF m 113 #[.val (.int p0), .val (.int p1), .val (.int p2), .val (.int p3), .val (.int p4), .val (.int p5), .val (.ref b1), .val (.int v7_44), .val (.int v8_55), .val (.int v9_69), .unset, .unset] [])) (fun _ k => XS.ifYes X27.here hx rfl (pc0 := 104) (pc' := 113) rfl (hb hby at_104) rfl ((if0 _ _).trans (teq hc104_3).1) (by decide) (by decide) k) ?_
      refine Goes.step (S' := T27.setTop (mkF m 115 #[.val (.int p0), .val (.int p1), .val (.int p2), .val (.int p3), .val (.int p4), .val (.int p5), .val (.ref b1), .val (.int v7_44), .val (.int v8_55), .val (.int v9_69), .unset, .unset] [(.ref b1)])) (fun _ k => XS.aload X27.here hx rfl (hb hby at_113) rfl rfl k) ?_
      refine Goes.step (S' := T27.setTop (mkF m 116 #[.val (.int p0), .val (.int p1), .val (.int p2), .val (.int p3), .val (.int p4), .val (.int p5), .val (.ref b1), .val (.int v7_44), .val (.int v8_55), .val (.int v9_69), .unset, .unset] [(.int (2 : Int32)), (.ref b1)])) (fun _ k => XS.iconst X27.here hx rfl (hb hby at_115) k) ?_
      refine Goes.step (S' := T27.setTop (mkF m 118 #[.val (.int p0), .val (.int p1), .val (.int p2), .val (.int p3), .val (.int p4), .val (.int p5), .val (.ref b1), .val (.int v7_44), .val (.int v8_55), .val (.int v9_69), .unset, .unset] [(.int v7_44), (.int (2 : Int32)), (.ref b1)])) (fun _ k => XS.iload X27.here hx rfl (hb hby at_116) rfl  k) ?_
      refine Goes.step (S' := T27.setTop (mkF m 120 #[.val (.int p0), .val (.int p1), .val (.int p2), .val (.int p3), .val (.int p4), .val (.int p5), .val (.ref b1), .val (.int v7_44), .val (.int v8_55), .val (.int v9_69), .unset, .unset] [(.int v8_55), (.int v7_44), (.int (2 : Int32)), (.ref b1)])) (fun _ k => XS.iload X27.here hx rfl (hb hby at_118) rfl  k) ?_
      refine Goes.step (S' := T27.setTop (mkF m 122 #[.val (.int p0), .val (.int p1), .val (.int p2), .val (.int p3), .val (.int p4), .val (.int p5), .val (.ref b1), .val (.int v7_44), .val (.int v8_55), .val (.int v9_69), .unset, .unset] [(.int v9_69), (.int v8_55), (.int v7_44), (.int (2 : Int32)), (.ref b1)])) (fun _ k => XS.iload X27.here hx rfl (hb hby at_120) rfl  k) ?_
      obtain ⟨_, _, ⟨T29, L29, k29, n29⟩, -, X29, ⟨Lc29, hQ29, l29, y29, z29⟩, st29⟩ := Jvm.LawKit.callS X27 hx (y := (⟨"com/example/leaderline/leaderline/Iso2709RecordIndexOfSeparatorPinLaw", "hit", "([BIIIZ)Z"⟩ : MethodName)) hown (mvT hZ (hw _ (List.mem_of_getElem? (i := 5) rfl))) (mvT hZ (hw _ (List.mem_of_getElem? (i := 6) rfl))) (mvT hZ (hw _ (List.mem_of_getElem? (i := 3) rfl))) (mvT hZ (hw _ (List.mem_of_getElem? (i := 7) rfl))) (by decide) (backOf (W := 0) (rm2 l Z a0 hw [] b1 (2 : Int32) v7_44 v8_55 v9_69 k1 ((4 : Int32)) ([(nar .byte (f1 p0)), (nar .byte (f1 p1)), (nar .byte (f1 p2)), (nar .byte (f1 p3))]) h22 n0 Z24 V_22 (own_pr0_122_hB p0 p1 p2 p3 p4 p5 v7_44 ev7_44 v8_55 ev8_55 v9_69 ev9_69 hc83_2 hc104_3)) hZ (hw _ (List.mem_of_getElem? (i := 7) rfl)) (hw _ (List.mem_of_getElem? (i := 3) rfl)) (by decide) (by decide)) (g := (mkF m 122 #[.val (.int p0), .val (.int p1), .val (.int p2), .val (.int p3), .val (.int p4), .val (.int p5), .val (.ref b1), .val (.int v7_44), .val (.int v8_55), .val (.int v9_69), .unset, .unset] [(.int v9_69), (.int v8_55), (.int v7_44), (.int (2 : Int32)), (.ref b1)])) rfl (by rw [hml]; rfl) (argsL := [(.ref b1), (.int (2 : Int32)), (.int v7_44), (.int v8_55), (.int v9_69)]) (rest := []) (lenOf pd2 rfl) rfl (by show 2 * 0 + _ ≤ _; exact Nat.le_of_eq rfl) (hb hby at_122) (fun _ _ => ⟨rfl, e27, (by decide : 1 + 0 ≤ _), (by decide : 4 + 0 ≤ _)⟩)
      dsimp only [Pt.U, Pt.locs, Pt.cells, Pt.slots] at X29 l29 y29 z29 st29 hQ29
      subst l29 y29 z29
      obtain ⟨rfl, N29q, e29⟩ := hQ29
      have N30 := Fr.app N28 N29q
      refine Goes.step (S' := T29.setTop (mkF m 125 #[.val (.int p0), .val (.int p1), .val (.int p2), .val (.int p3), .val (.int p4), .val (.int p5), .val (.ref b1), .val (.int v7_44), .val (.int v8_55), .val (.int v9_69), .unset, .unset] [(.int (f2 (4 : Int32) [(nar .byte (f1 p0)), (nar .byte (f1 p1)), (nar .byte (f1 p2)), (nar .byte (f1 p3))] (2 : Int32) v7_44 v8_55 v9_69))])) st29 ?_
      by_cases hc125_4 : (f2 (4 : Int32) [(nar .byte (f1 p0)), (nar .byte (f1 p1)), (nar .byte (f1 p2)), (nar .byte (f1 p3))] (2 : Int32) v7_44 v8_55 v9_69) = (0 : Int32)
      · refine Goes.step (S' := T29.setTop (mkF m 134 #[.val (.int p0), .val (.int p1), .val (.int p2), .val (.int p3), .val (.int p4), .val (.int p5), .val (.ref b1), .val (.int v7_44), .val (.int v8_55), .val (.int v9_69), .unset, .unset] [])) (fun _ k => XS.ifYes X29.here hx rfl (pc0 := 125) (pc' := 134) rfl (hb hby at_125) rfl ((if0 _ _).trans (teq hc125_4).1) (by decide) (by decide) k) ?_
        refine Goes.step (S' := T29.setTop (mkF m 136 #[.val (.int p0), .val (.int p1), .val (.int p2), .val (.int p3), .val (.int p4), .val (.int p5), .val (.ref b1), .val (.int v7_44), .val (.int v8_55), .val (.int v9_69), .unset, .unset] [(.ref b1)])) (fun _ k => XS.aload X29.here hx rfl (hb hby at_134) rfl rfl k) ?_
        refine Goes.step (S' := T29.setTop (mkF m 137 #[.val (.int p0), .val (.int p1), .val (.int p2), .val (.int p3), .val (.int p4), .val (.int p5), .val (.ref b1), .val (.int v7_44), .val (.int v8_55), .val (.int v9_69), .unset, .unset] [(.int (3 : Int32)), (.ref b1)])) (fun _ k => XS.iconst X29.here hx rfl (hb hby at_136) k) ?_
        refine Goes.step (S' := T29.setTop (mkF m 139 #[.val (.int p0), .val (.int p1), .val (.int p2), .val (.int p3), .val (.int p4), .val (.int p5), .val (.ref b1), .val (.int v7_44), .val (.int v8_55), .val (.int v9_69), .unset, .unset] [(.int v7_44), (.int (3 : Int32)), (.ref b1)])) (fun _ k => XS.iload X29.here hx rfl (hb hby at_137) rfl  k) ?_
        refine Goes.step (S' := T29.setTop (mkF m 141 #[.val (.int p0), .val (.int p1), .val (.int p2), .val (.int p3), .val (.int p4), .val (.int p5), .val (.ref b1), .val (.int v7_44), .val (.int v8_55), .val (.int v9_69), .unset, .unset] [(.int v8_55), (.int v7_44), (.int (3 : Int32)), (.ref b1)])) (fun _ k => XS.iload X29.here hx rfl (hb hby at_139) rfl  k) ?_
        refine Goes.step (S' := T29.setTop (mkF m 143 #[.val (.int p0), .val (.int p1), .val (.int p2), .val (.int p3), .val (.int p4), .val (.int p5), .val (.ref b1), .val (.int v7_44), .val (.int v8_55), .val (.int v9_69), .unset, .unset] [(.int v9_69), (.int v8_55), (.int v7_44), (.int (3 : Int32)), (.ref b1)])) (fun _ k => XS.iload X29.here hx rfl (hb hby at_141) rfl  k) ?_
        obtain ⟨_, _, ⟨T31, L31, k31, n31⟩, -, X31, ⟨Lc31, hQ31, l31, y31, z31⟩, st31⟩ := Jvm.LawKit.callS X29 hx (y := (⟨"com/example/leaderline/leaderline/Iso2709RecordIndexOfSeparatorPinLaw", "hit", "([BIIIZ)Z"⟩ : MethodName)) hown (mvT hZ (hw _ (List.mem_of_getElem? (i := 5) rfl))) (mvT hZ (hw _ (List.mem_of_getElem? (i := 6) rfl))) (mvT hZ (hw _ (List.mem_of_getElem? (i := 3) rfl))) (mvT hZ (hw _ (List.mem_of_getElem? (i := 7) rfl))) (by decide) (backOf (W := 0) (rm2 l Z a0 hw [] b1 (3 : Int32) v7_44 v8_55 v9_69 k1 ((4 : Int32)) ([(nar .byte (f1 p0)), (nar .byte (f1 p1)), (nar .byte (f1 p2)), (nar .byte (f1 p3))]) h22 n0 Z24 V_22 (own_pr0_143_hB p0 p1 p2 p3 p4 p5 v7_44 ev7_44 v8_55 ev8_55 v9_69 ev9_69 hc83_2 hc104_3 hc125_4)) hZ (hw _ (List.mem_of_getElem? (i := 7) rfl)) (hw _ (List.mem_of_getElem? (i := 3) rfl)) (by decide) (by decide)) (g := (mkF m 143 #[.val (.int p0), .val (.int p1), .val (.int p2), .val (.int p3), .val (.int p4), .val (.int p5), .val (.ref b1), .val (.int v7_44), .val (.int v8_55), .val (.int v9_69), .unset, .unset] [(.int v9_69), (.int v8_55), (.int v7_44), (.int (3 : Int32)), (.ref b1)])) rfl (by rw [hml]; rfl) (argsL := [(.ref b1), (.int (3 : Int32)), (.int v7_44), (.int v8_55), (.int v9_69)]) (rest := []) (lenOf pd2 rfl) rfl (by show 2 * 0 + _ ≤ _; exact Nat.le_of_eq rfl) (hb hby at_143) (fun _ _ => ⟨rfl, e29, (by decide : 1 + 0 ≤ _), (by decide : 4 + 0 ≤ _)⟩)
        dsimp only [Pt.U, Pt.locs, Pt.cells, Pt.slots] at X31 l31 y31 z31 st31 hQ31
        subst l31 y31 z31
        obtain ⟨rfl, N31q, e31⟩ := hQ31
        have N32 := Fr.app N30 N31q
        refine Goes.step (S' := T31.setTop (mkF m 146 #[.val (.int p0), .val (.int p1), .val (.int p2), .val (.int p3), .val (.int p4), .val (.int p5), .val (.ref b1), .val (.int v7_44), .val (.int v8_55), .val (.int v9_69), .unset, .unset] [(.int (f2 (4 : Int32) [(nar .byte (f1 p0)), (nar .byte (f1 p1)), (nar .byte (f1 p2)), (nar .byte (f1 p3))] (3 : Int32) v7_44 v8_55 v9_69))])) st31 ?_
        refine Goes.step (own_ite1 (T := T31) (c := (f2 (4 : Int32) [(nar .byte (f1 p0)), (nar .byte (f1 p1)), (nar .byte (f1 p2)), (nar .byte (f1 p3))] (3 : Int32) v7_44 v8_55 v9_69) = (0 : Int32)) (a0 := (-1 : Int32)) (b0 := (3 : Int32)) (F := fun z5_0 => (mkF m 158 #[.val (.int p0), .val (.int p1), .val (.int p2), .val (.int p3), .val (.int p4), .val (.int p5), .val (.ref b1), .val (.int v7_44), .val (.int v8_55), .val (.int v9_69), .val (.int z5_0), .unset] [])) ?_ ?_) ?_
        · intro hc146_5 t k
          refine XS.ifYes X31.here hx rfl (pc0 := 146) (pc' := 155) rfl (hb hby at_146) rfl ((if0 _ _).trans (teq hc146_5).1) (by decide) (by decide) ?_
          show Steps p.tables e below (T31.setTop (mkF m 155 #[.val (.int p0), .val (.int p1), .val (.int p2), .val (.int p3), .val (.int p4), .val (.int p5), .val (.ref b1), .val (.int v7_44), .val (.int v8_55), .val (.int v9_69), .unset, .unset] [])) _
          refine XS.iconst X31.here hx rfl (hb hby at_155) ?_
          show Steps p.tables e below (T31.setTop (mkF m 156 #[.val (.int p0), .val (.int p1), .val (.int p2), .val (.int p3), .val (.int p4), .val (.int p5), .val (.ref b1), .val (.int v7_44), .val (.int v8_55), .val (.int v9_69), .unset, .unset] [(.int (-1 : Int32))])) _
          refine XS.istore X31.here hx rfl (hb hby at_156) rfl (l' := #[.val (.int p0), .val (.int p1), .val (.int p2), .val (.int p3), .val (.int p4), .val (.int p5), .val (.ref b1), .val (.int v7_44), .val (.int v8_55), .val (.int v9_69), .val (.int (-1 : Int32)), .unset]) rfl ?_
          show Steps p.tables e below (T31.setTop (mkF m 158 #[.val (.int p0), .val (.int p1), .val (.int p2), .val (.int p3), .val (.int p4), .val (.int p5), .val (.ref b1), .val (.int v7_44), .val (.int v8_55), .val (.int v9_69), .val (.int (-1 : Int32)), .unset] [])) _
          exact k
        · intro hc146_5 t k
          refine XS.ifNo X31.here hx rfl (hb hby at_146) rfl ((if0 _ _).trans (feq hc146_5).1) ?_
          show Steps p.tables e below (T31.setTop (mkF m 149 #[.val (.int p0), .val (.int p1), .val (.int p2), .val (.int p3), .val (.int p4), .val (.int p5), .val (.ref b1), .val (.int v7_44), .val (.int v8_55), .val (.int v9_69), .unset, .unset] [])) _
          refine XS.iconst X31.here hx rfl (hb hby at_149) ?_
          show Steps p.tables e below (T31.setTop (mkF m 150 #[.val (.int p0), .val (.int p1), .val (.int p2), .val (.int p3), .val (.int p4), .val (.int p5), .val (.ref b1), .val (.int v7_44), .val (.int v8_55), .val (.int v9_69), .unset, .unset] [(.int (3 : Int32))])) _
          refine XS.istore X31.here hx rfl (hb hby at_150) rfl (l' := #[.val (.int p0), .val (.int p1), .val (.int p2), .val (.int p3), .val (.int p4), .val (.int p5), .val (.ref b1), .val (.int v7_44), .val (.int v8_55), .val (.int v9_69), .val (.int (3 : Int32)), .unset]) rfl ?_
          show Steps p.tables e below (T31.setTop (mkF m 152 #[.val (.int p0), .val (.int p1), .val (.int p2), .val (.int p3), .val (.int p4), .val (.int p5), .val (.ref b1), .val (.int v7_44), .val (.int v8_55), .val (.int v9_69), .val (.int (3 : Int32)), .unset] [])) _
          refine XS.goto X31.here hx rfl (pc0 := 152) (pc' := 158) rfl (hb hby at_152) (by decide) (by decide) ?_
          show Steps p.tables e below (T31.setTop (mkF m 158 #[.val (.int p0), .val (.int p1), .val (.int p2), .val (.int p3), .val (.int p4), .val (.int p5), .val (.ref b1), .val (.int v7_44), .val (.int v8_55), .val (.int v9_69), .val (.int (3 : Int32)), .unset] [])) _
          exact k
        show Goes p.tables e below _ (T31.setTop (mkF m 158 #[.val (.int p0), .val (.int p1), .val (.int p2), .val (.int p3), .val (.int p4), .val (.int p5), .val (.ref b1), .val (.int v7_44), .val (.int v8_55), .val (.int v9_69), .val (.int (if (f2 (4 : Int32) [(nar .byte (f1 p0)), (nar .byte (f1 p1)), (nar .byte (f1 p2)), (nar .byte (f1 p3))] (3 : Int32) v7_44 v8_55 v9_69) = (0 : Int32) then (-1 : Int32) else (3 : Int32))), .unset] []))
        obtain ⟨v10_158, ev10_158⟩ : ∃ z : Int32, z = (if (f2 (4 : Int32) [(nar .byte (f1 p0)), (nar .byte (f1 p1)), (nar .byte (f1 p2)), (nar .byte (f1 p3))] (3 : Int32) v7_44 v8_55 v9_69) = (0 : Int32) then (-1 : Int32) else (3 : Int32)) := ⟨_, rfl⟩
        rw [← ev10_158]
        refine Goes.step (S' := T31.setTop (mkF m 160 #[.val (.int p0), .val (.int p1), .val (.int p2), .val (.int p3), .val (.int p4), .val (.int p5), .val (.ref b1), .val (.int v7_44), .val (.int v8_55), .val (.int v9_69), .val (.int v10_158), .unset] [(.ref b1)])) (fun _ k => XS.aload X31.here hx rfl (hb hby at_158) rfl rfl k) ?_
        refine Goes.step (S' := T31.setTop (mkF m 162 #[.val (.int p0), .val (.int p1), .val (.int p2), .val (.int p3), .val (.int p4), .val (.int p5), .val (.ref b1), .val (.int v7_44), .val (.int v8_55), .val (.int v9_69), .val (.int v10_158), .unset] [(.int v7_44), (.ref b1)])) (fun _ k => XS.iload X31.here hx rfl (hb hby at_160) rfl  k) ?_
        refine Goes.step (S' := T31.setTop (mkF m 164 #[.val (.int p0), .val (.int p1), .val (.int p2), .val (.int p3), .val (.int p4), .val (.int p5), .val (.ref b1), .val (.int v7_44), .val (.int v8_55), .val (.int v9_69), .val (.int v10_158), .unset] [(.int v8_55), (.int v7_44), (.ref b1)])) (fun _ k => XS.iload X31.here hx rfl (hb hby at_162) rfl  k) ?_
        refine Goes.step (S' := T31.setTop (mkF m 166 #[.val (.int p0), .val (.int p1), .val (.int p2), .val (.int p3), .val (.int p4), .val (.int p5), .val (.ref b1), .val (.int v7_44), .val (.int v8_55), .val (.int v9_69), .val (.int v10_158), .unset] [(.int v9_69), (.int v8_55), (.int v7_44), (.ref b1)])) (fun _ k => XS.iload X31.here hx rfl (hb hby at_164) rfl  k) ?_
        obtain ⟨_, _, ⟨T33, L33, k33, n33⟩, -, X33, ⟨Lc33, hQ33, l33, y33, z33⟩, st33⟩ := Jvm.LawKit.callS X31 hx (y := (⟨"com/example/leaderline/leaderline/Iso2709Record", "indexOfSeparator", "([BIIZ)I"⟩ : MethodName)) hown (mvT hZ (hw _ (List.mem_of_getElem? (i := 8) rfl))) (mvT hZ (hw _ (List.mem_of_getElem? (i := 9) rfl))) (mvT hZ (hw _ (List.mem_of_getElem? (i := 10) rfl))) (mvT hZ (hw _ (List.mem_of_getElem? (i := 11) rfl))) (by decide) (backOf (W := 0) (rm3 l Z a0 hw [] b1 v7_44 v8_55 v9_69 k1 ((4 : Int32)) ([(nar .byte (f1 p0)), (nar .byte (f1 p1)), (nar .byte (f1 p2)), (nar .byte (f1 p3))]) h22 n0 Z24 V_22 (own_pr0_166_hB p0 p1 p2 p3 p4 p5 v7_44 ev7_44 v8_55 ev8_55 v9_69 ev9_69 hc83_2 hc104_3 hc125_4 v10_158 ev10_158) (own_pr0_166_hb2 p0 p1 p2 p3 p4 p5 v7_44 ev7_44 v8_55 ev8_55 v9_69 ev9_69 hc83_2 hc104_3 hc125_4 v10_158 ev10_158) (own_pr0_166_hb3 p0 p1 p2 p3 p4 p5 v7_44 ev7_44 v8_55 ev8_55 v9_69 ev9_69 hc83_2 hc104_3 hc125_4 v10_158 ev10_158)) hZ (hw _ (List.mem_of_getElem? (i := 11) rfl)) (hw _ (List.mem_of_getElem? (i := 10) rfl)) (by decide) (by decide)) (g := (mkF m 166 #[.val (.int p0), .val (.int p1), .val (.int p2), .val (.int p3), .val (.int p4), .val (.int p5), .val (.ref b1), .val (.int v7_44), .val (.int v8_55), .val (.int v9_69), .val (.int v10_158), .unset] [(.int v9_69), (.int v8_55), (.int v7_44), (.ref b1)])) rfl (by rw [hml]; rfl) (argsL := [(.ref b1), (.int v7_44), (.int v8_55), (.int v9_69)]) (rest := []) (lenOf pd3 rfl) rfl (by show 2 * 0 + _ ≤ _; exact Nat.le_of_eq rfl) (hb hby at_166) (fun _ _ => ⟨rfl, e31, (by decide : 1 + 0 ≤ _), (by decide : 4 + 0 ≤ _)⟩)
        dsimp only [Pt.U, Pt.locs, Pt.cells, Pt.slots] at X33 l33 y33 z33 st33 hQ33
        subst l33 y33 z33
        obtain ⟨rfl, N33q, e33⟩ := hQ33
        have N34 := Fr.app N32 N33q
        refine Goes.step (S' := T33.setTop (mkF m 169 #[.val (.int p0), .val (.int p1), .val (.int p2), .val (.int p3), .val (.int p4), .val (.int p5), .val (.ref b1), .val (.int v7_44), .val (.int v8_55), .val (.int v9_69), .val (.int v10_158), .unset] [(.int (f3 (4 : Int32) [(nar .byte (f1 p0)), (nar .byte (f1 p1)), (nar .byte (f1 p2)), (nar .byte (f1 p3))] v7_44 v8_55 v9_69))])) st33 ?_
        refine Goes.step (S' := T33.setTop (mkF m 171 #[.val (.int p0), .val (.int p1), .val (.int p2), .val (.int p3), .val (.int p4), .val (.int p5), .val (.ref b1), .val (.int v7_44), .val (.int v8_55), .val (.int v9_69), .val (.int v10_158), .val (.int (f3 (4 : Int32) [(nar .byte (f1 p0)), (nar .byte (f1 p1)), (nar .byte (f1 p2)), (nar .byte (f1 p3))] v7_44 v8_55 v9_69))] [])) (fun _ k => XS.istore X33.here hx rfl (hb hby at_169) rfl (l' := #[.val (.int p0), .val (.int p1), .val (.int p2), .val (.int p3), .val (.int p4), .val (.int p5), .val (.ref b1), .val (.int v7_44), .val (.int v8_55), .val (.int v9_69), .val (.int v10_158), .val (.int (f3 (4 : Int32) [(nar .byte (f1 p0)), (nar .byte (f1 p1)), (nar .byte (f1 p2)), (nar .byte (f1 p3))] v7_44 v8_55 v9_69))]) rfl k) ?_
        obtain ⟨v11_169, ev11_169⟩ : ∃ z : Int32, z = (f3 (4 : Int32) [(nar .byte (f1 p0)), (nar .byte (f1 p1)), (nar .byte (f1 p2)), (nar .byte (f1 p3))] v7_44 v8_55 v9_69) := ⟨_, rfl⟩
        rw [← ev11_169]
        refine Goes.step (S' := T33.setTop (mkF m 173 #[.val (.int p0), .val (.int p1), .val (.int p2), .val (.int p3), .val (.int p4), .val (.int p5), .val (.ref b1), .val (.int v7_44), .val (.int v8_55), .val (.int v9_69), .val (.int v10_158), .val (.int v11_169)] [(.int v11_169)])) (fun _ k => XS.iload X33.here hx rfl (hb hby at_171) rfl  k) ?_
        refine Goes.step (S' := T33.setTop (mkF m 175 #[.val (.int p0), .val (.int p1), .val (.int p2), .val (.int p3), .val (.int p4), .val (.int p5), .val (.ref b1), .val (.int v7_44), .val (.int v8_55), .val (.int v9_69), .val (.int v10_158), .val (.int v11_169)] [(.int v10_158), (.int v11_169)])) (fun _ k => XS.iload X33.here hx rfl (hb hby at_173) rfl  k) ?_
        refine Goes.step (S' := T33.setTop (mkF m 178 #[.val (.int p0), .val (.int p1), .val (.int p2), .val (.int p3), .val (.int p4), .val (.int p5), .val (.ref b1), .val (.int v7_44), .val (.int v8_55), .val (.int v9_69), .val (.int v10_158), .val (.int v11_169)] [])) (fun _ k => XS.icmpNo X33.here hx rfl (hb hby at_175) rfl (teq (own_hc0_175 p0 p1 p2 p3 p4 p5 v7_44 ev7_44 v8_55 ev8_55 v9_69 ev9_69 hc83_2 hc104_3 hc125_4 v10_158 ev10_158 v11_169 ev11_169)).2 k) ?_
        refine Goes.step (S' := T33.setTop (mkF m 179 #[.val (.int p0), .val (.int p1), .val (.int p2), .val (.int p3), .val (.int p4), .val (.int p5), .val (.ref b1), .val (.int v7_44), .val (.int v8_55), .val (.int v9_69), .val (.int v10_158), .val (.int v11_169)] [(.int (1 : Int32))])) (fun _ k => XS.iconst X33.here hx rfl (hb hby at_178) k) ?_
        refine Goes.step (S' := T33.setTop (mkF m 183 #[.val (.int p0), .val (.int p1), .val (.int p2), .val (.int p3), .val (.int p4), .val (.int p5), .val (.ref b1), .val (.int v7_44), .val (.int v8_55), .val (.int v9_69), .val (.int v10_158), .val (.int v11_169)] [(.int (1 : Int32))])) (fun _ k => XS.goto X33.here hx rfl (pc0 := 179) (pc' := 183) rfl (hb hby at_179) (by decide) (by decide) k) ?_
        refine Goes.retN X33 hx Bd.notSynchronized (t := .boolean) Bd.returns (by simp) (hb hby at_183) (by decide) (by decide) ?_
        exact ⟨rfl, N34⟩
      · refine Goes.step (S' := T29.setTop (mkF m 128 #[.val (.int p0), .val (.int p1), .val (.int p2), .val (.int p3), .val (.int p4), .val (.int p5), .val (.ref b1), .val (.int v7_44), .val (.int v8_55), .val (.int v9_69), .unset, .unset] [])) (fun _ k => XS.ifNo X29.here hx rfl (hb hby at_125) rfl ((if0 _ _).trans (feq hc125_4).1) k) ?_
        refine Goes.step (S' := T29.setTop (mkF m 129 #[.val (.int p0), .val (.int p1), .val (.int p2), .val (.int p3), .val (.int p4), .val (.int p5), .val (.ref b1), .val (.int v7_44), .val (.int v8_55), .val (.int v9_69), .unset, .unset] [(.int (2 : Int32))])) (fun _ k => XS.iconst X29.here hx rfl (hb hby at_128) k) ?_
        refine Goes.step (S' := T29.setTop (mkF m 131 #[.val (.int p0), .val (.int p1), .val (.int p2), .val (.int p3), .val (.int p4), .val (.int p5), .val (.ref b1), .val (.int v7_44), .val (.int v8_55), .val (.int v9_69), .val (.int (2 : Int32)), .unset] [])) (fun _ k => XS.istore X29.here hx rfl (hb hby at_129) rfl (l' := #[.val (.int p0), .val (.int p1), .val (.int p2), .val (.int p3), .val (.int p4), .val (.int p5), .val (.ref b1), .val (.int v7_44), .val (.int v8_55), .val (.int v9_69), .val (.int (2 : Int32)), .unset]) rfl k) ?_
        refine Goes.step (S' := T29.setTop (mkF m 158 #[.val (.int p0), .val (.int p1), .val (.int p2), .val (.int p3), .val (.int p4), .val (.int p5), .val (.ref b1), .val (.int v7_44), .val (.int v8_55), .val (.int v9_69), .val (.int (2 : Int32)), .unset] [])) (fun _ k => XS.goto X29.here hx rfl (pc0 := 131) (pc' := 158) rfl (hb hby at_131) (by decide) (by decide) k) ?_
        refine Goes.step (S' := T29.setTop (mkF m 160 #[.val (.int p0), .val (.int p1), .val (.int p2), .val (.int p3), .val (.int p4), .val (.int p5), .val (.ref b1), .val (.int v7_44), .val (.int v8_55), .val (.int v9_69), .val (.int (2 : Int32)), .unset] [(.ref b1)])) (fun _ k => XS.aload X29.here hx rfl (hb hby at_158) rfl rfl k) ?_
        refine Goes.step (S' := T29.setTop (mkF m 162 #[.val (.int p0), .val (.int p1), .val (.int p2), .val (.int p3), .val (.int p4), .val (.int p5), .val (.ref b1), .val (.int v7_44), .val (.int v8_55), .val (.int v9_69), .val (.int (2 : Int32)), .unset] [(.int v7_44), (.ref b1)])) (fun _ k => XS.iload X29.here hx rfl (hb hby at_160) rfl  k) ?_
        refine Goes.step (S' := T29.setTop (mkF m 164 #[.val (.int p0), .val (.int p1), .val (.int p2), .val (.int p3), .val (.int p4), .val (.int p5), .val (.ref b1), .val (.int v7_44), .val (.int v8_55), .val (.int v9_69), .val (.int (2 : Int32)), .unset] [(.int v8_55), (.int v7_44), (.ref b1)])) (fun _ k => XS.iload X29.here hx rfl (hb hby at_162) rfl  k) ?_
        refine Goes.step (S' := T29.setTop (mkF m 166 #[.val (.int p0), .val (.int p1), .val (.int p2), .val (.int p3), .val (.int p4), .val (.int p5), .val (.ref b1), .val (.int v7_44), .val (.int v8_55), .val (.int v9_69), .val (.int (2 : Int32)), .unset] [(.int v9_69), (.int v8_55), (.int v7_44), (.ref b1)])) (fun _ k => XS.iload X29.here hx rfl (hb hby at_164) rfl  k) ?_
        obtain ⟨_, _, ⟨T35, L35, k35, n35⟩, -, X35, ⟨Lc35, hQ35, l35, y35, z35⟩, st35⟩ := Jvm.LawKit.callS X29 hx (y := (⟨"com/example/leaderline/leaderline/Iso2709Record", "indexOfSeparator", "([BIIZ)I"⟩ : MethodName)) hown (mvT hZ (hw _ (List.mem_of_getElem? (i := 8) rfl))) (mvT hZ (hw _ (List.mem_of_getElem? (i := 9) rfl))) (mvT hZ (hw _ (List.mem_of_getElem? (i := 10) rfl))) (mvT hZ (hw _ (List.mem_of_getElem? (i := 11) rfl))) (by decide) (backOf (W := 0) (rm3 l Z a0 hw [] b1 v7_44 v8_55 v9_69 k1 ((4 : Int32)) ([(nar .byte (f1 p0)), (nar .byte (f1 p1)), (nar .byte (f1 p2)), (nar .byte (f1 p3))]) h22 n0 Z24 V_22 (own_pr0_166_hB_2 p0 p1 p2 p3 p4 p5 v7_44 ev7_44 v8_55 ev8_55 v9_69 ev9_69 hc83_2 hc104_3 hc125_4) (own_pr0_166_hb2_2 p0 p1 p2 p3 p4 p5 v7_44 ev7_44 v8_55 ev8_55 v9_69 ev9_69 hc83_2 hc104_3 hc125_4) (own_pr0_166_hb3_2 p0 p1 p2 p3 p4 p5 v7_44 ev7_44 v8_55 ev8_55 v9_69 ev9_69 hc83_2 hc104_3 hc125_4)) hZ (hw _ (List.mem_of_getElem? (i := 11) rfl)) (hw _ (List.mem_of_getElem? (i := 10) rfl)) (by decide) (by decide)) (g := (mkF m 166 #[.val (.int p0), .val (.int p1), .val (.int p2), .val (.int p3), .val (.int p4), .val (.int p5), .val (.ref b1), .val (.int v7_44), .val (.int v8_55), .val (.int v9_69), .val (.int (2 : Int32)), .unset] [(.int v9_69), (.int v8_55), (.int v7_44), (.ref b1)])) rfl (by rw [hml]; rfl) (argsL := [(.ref b1), (.int v7_44), (.int v8_55), (.int v9_69)]) (rest := []) (lenOf pd3 rfl) rfl (by show 2 * 0 + _ ≤ _; exact Nat.le_of_eq rfl) (hb hby at_166) (fun _ _ => ⟨rfl, e29, (by decide : 1 + 0 ≤ _), (by decide : 4 + 0 ≤ _)⟩)
        dsimp only [Pt.U, Pt.locs, Pt.cells, Pt.slots] at X35 l35 y35 z35 st35 hQ35
        subst l35 y35 z35
        obtain ⟨rfl, N35q, e35⟩ := hQ35
        have N36 := Fr.app N30 N35q
        refine Goes.step (S' := T35.setTop (mkF m 169 #[.val (.int p0), .val (.int p1), .val (.int p2), .val (.int p3), .val (.int p4), .val (.int p5), .val (.ref b1), .val (.int v7_44), .val (.int v8_55), .val (.int v9_69), .val (.int (2 : Int32)), .unset] [(.int (f3 (4 : Int32) [(nar .byte (f1 p0)), (nar .byte (f1 p1)), (nar .byte (f1 p2)), (nar .byte (f1 p3))] v7_44 v8_55 v9_69))])) st35 ?_
        refine Goes.step (S' := T35.setTop (mkF m 171 #[.val (.int p0), .val (.int p1), .val (.int p2), .val (.int p3), .val (.int p4), .val (.int p5), .val (.ref b1), .val (.int v7_44), .val (.int v8_55), .val (.int v9_69), .val (.int (2 : Int32)), .val (.int (f3 (4 : Int32) [(nar .byte (f1 p0)), (nar .byte (f1 p1)), (nar .byte (f1 p2)), (nar .byte (f1 p3))] v7_44 v8_55 v9_69))] [])) (fun _ k => XS.istore X35.here hx rfl (hb hby at_169) rfl (l' := #[.val (.int p0), .val (.int p1), .val (.int p2), .val (.int p3), .val (.int p4), .val (.int p5), .val (.ref b1), .val (.int v7_44), .val (.int v8_55), .val (.int v9_69), .val (.int (2 : Int32)), .val (.int (f3 (4 : Int32) [(nar .byte (f1 p0)), (nar .byte (f1 p1)), (nar .byte (f1 p2)), (nar .byte (f1 p3))] v7_44 v8_55 v9_69))]) rfl k) ?_
        obtain ⟨v11_169, ev11_169⟩ : ∃ z : Int32, z = (f3 (4 : Int32) [(nar .byte (f1 p0)), (nar .byte (f1 p1)), (nar .byte (f1 p2)), (nar .byte (f1 p3))] v7_44 v8_55 v9_69) := ⟨_, rfl⟩
        rw [← ev11_169]
        refine Goes.step (S' := T35.setTop (mkF m 173 #[.val (.int p0), .val (.int p1), .val (.int p2), .val (.int p3), .val (.int p4), .val (.int p5), .val (.ref b1), .val (.int v7_44), .val (.int v8_55), .val (.int v9_69), .val (.int (2 : Int32)), .val (.int v11_169)] [(.int v11_169)])) (fun _ k => XS.iload X35.here hx rfl (hb hby at_171) rfl  k) ?_
        refine Goes.step (S' := T35.setTop (mkF m 175 #[.val (.int p0), .val (.int p1), .val (.int p2), .val (.int p3), .val (.int p4), .val (.int p5), .val (.ref b1), .val (.int v7_44), .val (.int v8_55), .val (.int v9_69), .val (.int (2 : Int32)), .val (.int v11_169)] [(.int (2 : Int32)), (.int v11_169)])) (fun _ k => XS.iload X35.here hx rfl (hb hby at_173) rfl  k) ?_
        refine Goes.step (S' := T35.setTop (mkF m 178 #[.val (.int p0), .val (.int p1), .val (.int p2), .val (.int p3), .val (.int p4), .val (.int p5), .val (.ref b1), .val (.int v7_44), .val (.int v8_55), .val (.int v9_69), .val (.int (2 : Int32)), .val (.int v11_169)] [])) (fun _ k => XS.icmpNo X35.here hx rfl (hb hby at_175) rfl (teq (own_hc0_175_2 p0 p1 p2 p3 p4 p5 v7_44 ev7_44 v8_55 ev8_55 v9_69 ev9_69 hc83_2 hc104_3 hc125_4 v11_169 ev11_169)).2 k) ?_
        refine Goes.step (S' := T35.setTop (mkF m 179 #[.val (.int p0), .val (.int p1), .val (.int p2), .val (.int p3), .val (.int p4), .val (.int p5), .val (.ref b1), .val (.int v7_44), .val (.int v8_55), .val (.int v9_69), .val (.int (2 : Int32)), .val (.int v11_169)] [(.int (1 : Int32))])) (fun _ k => XS.iconst X35.here hx rfl (hb hby at_178) k) ?_
        refine Goes.step (S' := T35.setTop (mkF m 183 #[.val (.int p0), .val (.int p1), .val (.int p2), .val (.int p3), .val (.int p4), .val (.int p5), .val (.ref b1), .val (.int v7_44), .val (.int v8_55), .val (.int v9_69), .val (.int (2 : Int32)), .val (.int v11_169)] [(.int (1 : Int32))])) (fun _ k => XS.goto X35.here hx rfl (pc0 := 179) (pc' := 183) rfl (hb hby at_179) (by decide) (by decide) k) ?_
        refine Goes.retN X35 hx Bd.notSynchronized (t := .boolean) Bd.returns (by simp) (hb hby at_183) (by decide) (by decide) ?_
        exact ⟨rfl, N36⟩
    · refine Goes.step (S' := T27.setTop (mkF m 107 #[.val (.int p0), .val (.int p1), .val (.int p2), .val (.int p3), .val (.int p4), .val (.int p5), .val (.ref b1), .val (.int v7_44), .val (.int v8_55), .val (.int v9_69), .unset, .unset] [])) (fun _ k => XS.ifNo X27.here hx rfl (hb hby at_104) rfl ((if0 _ _).trans (feq hc104_3).1) k) ?_
      refine Goes.step (S' := T27.setTop (mkF m 108 #[.val (.int p0), .val (.int p1), .val (.int p2), .val (.int p3), .val (.int p4), .val (.int p5), .val (.ref b1), .val (.int v7_44), .val (.int v8_55), .val (.int v9_69), .unset, .unset] [(.int (1 : Int32))])) (fun _ k => XS.iconst X27.here hx rfl (hb hby at_107) k) ?_
      refine Goes.step (S' := T27.setTop (mkF m 110 #[.val (.int p0), .val (.int p1), .val (.int p2), .val (.int p3), .val (.int p4), .val (.int p5), .val (.ref b1), .val (.int v7_44), .val (.int v8_55), .val (.int v9_69), .val (.int (1 : Int32)), .unset] [])) (fun _ k => XS.istore X27.here hx rfl (hb hby at_108) rfl (l' := #[.val (.int p0), .val (.int p1), .val (.int p2), .val (.int p3), .val (.int p4), .val (.int p5), .val (.ref b1), .val (.int v7_44), .val (.int v8_55), .val (.int v9_69), .val (.int (1 : Int32)), .unset]) rfl k) ?_
      refine Goes.step (S' := T27.setTop (mkF m 158 #[.val (.int p0), .val (.int p1), .val (.int p2), .val (.int p3), .val (.int p4), .val (.int p5), .val (.ref b1), .val (.int v7_44), .val (.int v8_55), .val (.int v9_69), .val (.int (1 : Int32)), .unset] [])) (fun _ k => XS.goto X27.here hx rfl (pc0 := 110) (pc' := 158) rfl (hb hby at_110) (by decide) (by decide) k) ?_
      refine Goes.step (S' := T27.setTop (mkF m 160 #[.val (.int p0), .val (.int p1), .val (.int p2), .val (.int p3), .val (.int p4), .val (.int p5), .val (.ref b1), .val (.int v7_44), .val (.int v8_55), .val (.int v9_69), .val (.int (1 : Int32)), .unset] [(.ref b1)])) (fun _ k => XS.aload X27.here hx rfl (hb hby at_158) rfl rfl k) ?_
      refine Goes.step (S' := T27.setTop (mkF m 162 #[.val (.int p0), .val (.int p1), .val (.int p2), .val (.int p3), .val (.int p4), .val (.int p5), .val (.ref b1), .val (.int v7_44), .val (.int v8_55), .val (.int v9_69), .val (.int (1 : Int32)), .unset] [(.int v7_44), (.ref b1)])) (fun _ k => XS.iload X27.here hx rfl (hb hby at_160) rfl  k) ?_
      refine Goes.step (S' := T27.setTop (mkF m 164 #[.val (.int p0), .val (.int p1), .val (.int p2), .val (.int p3), .val (.int p4), .val (.int p5), .val (.ref b1), .val (.int v7_44), .val (.int v8_55), .val (.int v9_69), .val (.int (1 : Int32)), .unset] [(.int v8_55), (.int v7_44), (.ref b1)])) (fun _ k => XS.iload X27.here hx rfl (hb hby at_162) rfl  k) ?_
      refine Goes.step (S' := T27.setTop (mkF m 166 #[.val (.int p0), .val (.int p1), .val (.int p2), .val (.int p3), .val (.int p4), .val (.int p5), .val (.ref b1), .val (.int v7_44), .val (.int v8_55), .val (.int v9_69), .val (.int (1 : Int32)), .unset] [(.int v9_69), (.int v8_55), (.int v7_44), (.ref b1)])) (fun _ k => XS.iload X27.here hx rfl (hb hby at_164) rfl  k) ?_
      obtain ⟨_, _, ⟨T37, L37, k37, n37⟩, -, X37, ⟨Lc37, hQ37, l37, y37, z37⟩, st37⟩ := Jvm.LawKit.callS X27 hx (y := (⟨"com/example/leaderline/leaderline/Iso2709Record", "indexOfSeparator", "([BIIZ)I"⟩ : MethodName)) hown (mvT hZ (hw _ (List.mem_of_getElem? (i := 8) rfl))) (mvT hZ (hw _ (List.mem_of_getElem? (i := 9) rfl))) (mvT hZ (hw _ (List.mem_of_getElem? (i := 10) rfl))) (mvT hZ (hw _ (List.mem_of_getElem? (i := 11) rfl))) (by decide) (backOf (W := 0) (rm3 l Z a0 hw [] b1 v7_44 v8_55 v9_69 k1 ((4 : Int32)) ([(nar .byte (f1 p0)), (nar .byte (f1 p1)), (nar .byte (f1 p2)), (nar .byte (f1 p3))]) h22 n0 Z24 V_22 (own_pr0_166_hB_3 p0 p1 p2 p3 p4 p5 v7_44 ev7_44 v8_55 ev8_55 v9_69 ev9_69 hc83_2 hc104_3) (own_pr0_166_hb2_3 p0 p1 p2 p3 p4 p5 v7_44 ev7_44 v8_55 ev8_55 v9_69 ev9_69 hc83_2 hc104_3) (own_pr0_166_hb3_3 p0 p1 p2 p3 p4 p5 v7_44 ev7_44 v8_55 ev8_55 v9_69 ev9_69 hc83_2 hc104_3)) hZ (hw _ (List.mem_of_getElem? (i := 11) rfl)) (hw _ (List.mem_of_getElem? (i := 10) rfl)) (by decide) (by decide)) (g := (mkF m 166 #[.val (.int p0), .val (.int p1), .val (.int p2), .val (.int p3), .val (.int p4), .val (.int p5), .val (.ref b1), .val (.int v7_44), .val (.int v8_55), .val (.int v9_69), .val (.int (1 : Int32)), .unset] [(.int v9_69), (.int v8_55), (.int v7_44), (.ref b1)])) rfl (by rw [hml]; rfl) (argsL := [(.ref b1), (.int v7_44), (.int v8_55), (.int v9_69)]) (rest := []) (lenOf pd3 rfl) rfl (by show 2 * 0 + _ ≤ _; exact Nat.le_of_eq rfl) (hb hby at_166) (fun _ _ => ⟨rfl, e27, (by decide : 1 + 0 ≤ _), (by decide : 4 + 0 ≤ _)⟩)
      dsimp only [Pt.U, Pt.locs, Pt.cells, Pt.slots] at X37 l37 y37 z37 st37 hQ37
      subst l37 y37 z37
      obtain ⟨rfl, N37q, e37⟩ := hQ37
      have N38 := Fr.app N28 N37q
      refine Goes.step (S' := T37.setTop (mkF m 169 #[.val (.int p0), .val (.int p1), .val (.int p2), .val (.int p3), .val (.int p4), .val (.int p5), .val (.ref b1), .val (.int v7_44), .val (.int v8_55), .val (.int v9_69), .val (.int (1 : Int32)), .unset] [(.int (f3 (4 : Int32) [(nar .byte (f1 p0)), (nar .byte (f1 p1)), (nar .byte (f1 p2)), (nar .byte (f1 p3))] v7_44 v8_55 v9_69))])) st37 ?_
      refine Goes.step (S' := T37.setTop (mkF m 171 #[.val (.int p0), .val (.int p1), .val (.int p2), .val (.int p3), .val (.int p4), .val (.int p5), .val (.ref b1), .val (.int v7_44), .val (.int v8_55), .val (.int v9_69), .val (.int (1 : Int32)), .val (.int (f3 (4 : Int32) [(nar .byte (f1 p0)), (nar .byte (f1 p1)), (nar .byte (f1 p2)), (nar .byte (f1 p3))] v7_44 v8_55 v9_69))] [])) (fun _ k => XS.istore X37.here hx rfl (hb hby at_169) rfl (l' := #[.val (.int p0), .val (.int p1), .val (.int p2), .val (.int p3), .val (.int p4), .val (.int p5), .val (.ref b1), .val (.int v7_44), .val (.int v8_55), .val (.int v9_69), .val (.int (1 : Int32)), .val (.int (f3 (4 : Int32) [(nar .byte (f1 p0)), (nar .byte (f1 p1)), (nar .byte (f1 p2)), (nar .byte (f1 p3))] v7_44 v8_55 v9_69))]) rfl k) ?_
      obtain ⟨v11_169, ev11_169⟩ : ∃ z : Int32, z = (f3 (4 : Int32) [(nar .byte (f1 p0)), (nar .byte (f1 p1)), (nar .byte (f1 p2)), (nar .byte (f1 p3))] v7_44 v8_55 v9_69) := ⟨_, rfl⟩
      rw [← ev11_169]
      refine Goes.step (S' := T37.setTop (mkF m 173 #[.val (.int p0), .val (.int p1), .val (.int p2), .val (.int p3), .val (.int p4), .val (.int p5), .val (.ref b1), .val (.int v7_44), .val (.int v8_55), .val (.int v9_69), .val (.int (1 : Int32)), .val (.int v11_169)] [(.int v11_169)])) (fun _ k => XS.iload X37.here hx rfl (hb hby at_171) rfl  k) ?_
      refine Goes.step (S' := T37.setTop (mkF m 175 #[.val (.int p0), .val (.int p1), .val (.int p2), .val (.int p3), .val (.int p4), .val (.int p5), .val (.ref b1), .val (.int v7_44), .val (.int v8_55), .val (.int v9_69), .val (.int (1 : Int32)), .val (.int v11_169)] [(.int (1 : Int32)), (.int v11_169)])) (fun _ k => XS.iload X37.here hx rfl (hb hby at_173) rfl  k) ?_
      refine Goes.step (S' := T37.setTop (mkF m 178 #[.val (.int p0), .val (.int p1), .val (.int p2), .val (.int p3), .val (.int p4), .val (.int p5), .val (.ref b1), .val (.int v7_44), .val (.int v8_55), .val (.int v9_69), .val (.int (1 : Int32)), .val (.int v11_169)] [])) (fun _ k => XS.icmpNo X37.here hx rfl (hb hby at_175) rfl (teq (own_hc0_175_3 p0 p1 p2 p3 p4 p5 v7_44 ev7_44 v8_55 ev8_55 v9_69 ev9_69 hc83_2 hc104_3 v11_169 ev11_169)).2 k) ?_
      refine Goes.step (S' := T37.setTop (mkF m 179 #[.val (.int p0), .val (.int p1), .val (.int p2), .val (.int p3), .val (.int p4), .val (.int p5), .val (.ref b1), .val (.int v7_44), .val (.int v8_55), .val (.int v9_69), .val (.int (1 : Int32)), .val (.int v11_169)] [(.int (1 : Int32))])) (fun _ k => XS.iconst X37.here hx rfl (hb hby at_178) k) ?_
      refine Goes.step (S' := T37.setTop (mkF m 183 #[.val (.int p0), .val (.int p1), .val (.int p2), .val (.int p3), .val (.int p4), .val (.int p5), .val (.ref b1), .val (.int v7_44), .val (.int v8_55), .val (.int v9_69), .val (.int (1 : Int32)), .val (.int v11_169)] [(.int (1 : Int32))])) (fun _ k => XS.goto X37.here hx rfl (pc0 := 179) (pc' := 183) rfl (hb hby at_179) (by decide) (by decide) k) ?_
      refine Goes.retN X37 hx Bd.notSynchronized (t := .boolean) Bd.returns (by simp) (hb hby at_183) (by decide) (by decide) ?_
      exact ⟨rfl, N38⟩
  · refine Goes.step (S' := T25.setTop (mkF m 86 #[.val (.int p0), .val (.int p1), .val (.int p2), .val (.int p3), .val (.int p4), .val (.int p5), .val (.ref b1), .val (.int v7_44), .val (.int v8_55), .val (.int v9_69), .unset, .unset] [])) (fun _ k => XS.ifNo X25.here hx rfl (hb hby at_83) rfl ((if0 _ _).trans (feq hc83_2).1) k) ?_
    refine Goes.step (S' := T25.setTop (mkF m 87 #[.val (.int p0), .val (.int p1), .val (.int p2), .val (.int p3), .val (.int p4), .val (.int p5), .val (.ref b1), .val (.int v7_44), .val (.int v8_55), .val (.int v9_69), .unset, .unset] [(.int (0 : Int32))])) (fun _ k => XS.iconst X25.here hx rfl (hb hby at_86) k) ?_
    refine Goes.step (S' := T25.setTop (mkF m 89 #[.val (.int p0), .val (.int p1), .val (.int p2), .val (.int p3), .val (.int p4), .val (.int p5), .val (.ref b1), .val (.int v7_44), .val (.int v8_55), .val (.int v9_69), .val (.int (0 : Int32)), .unset] [])) (fun _ k => XS.istore X25.here hx rfl (hb hby at_87) rfl (l' := #[.val (.int p0), .val (.int p1), .val (.int p2), .val (.int p3), .val (.int p4), .val (.int p5), .val (.ref b1), .val (.int v7_44), .val (.int v8_55), .val (.int v9_69), .val (.int (0 : Int32)), .unset]) rfl k) ?_
    refine Goes.step (S' := T25.setTop (mkF m 158 #[.val (.int p0), .val (.int p1), .val (.int p2), .val (.int p3), .val (.int p4), .val (.int p5), .val (.ref b1), .val (.int v7_44), .val (.int v8_55), .val (.int v9_69), .val (.int (0 : Int32)), .unset] [])) (fun _ k => XS.goto X25.here hx rfl (pc0 := 89) (pc' := 158) rfl (hb hby at_89) (by decide) (by decide) k) ?_
    refine Goes.step (S' := T25.setTop (mkF m 160 #[.val (.int p0), .val (.int p1), .val (.int p2), .val (.int p3), .val (.int p4), .val (.int p5), .val (.ref b1), .val (.int v7_44), .val (.int v8_55), .val (.int v9_69), .val (.int (0 : Int32)), .unset] [(.ref b1)])) (fun _ k => XS.aload X25.here hx rfl (hb hby at_158) rfl rfl k) ?_
    refine Goes.step (S' := T25.setTop (mkF m 162 #[.val (.int p0), .val (.int p1), .val (.int p2), .val (.int p3), .val (.int p4), .val (.int p5), .val (.ref b1), .val (.int v7_44), .val (.int v8_55), .val (.int v9_69), .val (.int (0 : Int32)), .unset] [(.int v7_44), (.ref b1)])) (fun _ k => XS.iload X25.here hx rfl (hb hby at_160) rfl  k) ?_
    refine Goes.step (S' := T25.setTop (mkF m 164 #[.val (.int p0), .val (.int p1), .val (.int p2), .val (.int p3), .val (.int p4), .val (.int p5), .val (.ref b1), .val (.int v7_44), .val (.int v8_55), .val (.int v9_69), .val (.int (0 : Int32)), .unset] [(.int v8_55), (.int v7_44), (.ref b1)])) (fun _ k => XS.iload X25.here hx rfl (hb hby at_162) rfl  k) ?_
    refine Goes.step (S' := T25.setTop (mkF m 166 #[.val (.int p0), .val (.int p1), .val (.int p2), .val (.int p3), .val (.int p4), .val (.int p5), .val (.ref b1), .val (.int v7_44), .val (.int v8_55), .val (.int v9_69), .val (.int (0 : Int32)), .unset] [(.int v9_69), (.int v8_55), (.int v7_44), (.ref b1)])) (fun _ k => XS.iload X25.here hx rfl (hb hby at_164) rfl  k) ?_
    obtain ⟨_, _, ⟨T39, L39, k39, n39⟩, -, X39, ⟨Lc39, hQ39, l39, y39, z39⟩, st39⟩ := Jvm.LawKit.callS X25 hx (y := (⟨"com/example/leaderline/leaderline/Iso2709Record", "indexOfSeparator", "([BIIZ)I"⟩ : MethodName)) hown (mvT hZ (hw _ (List.mem_of_getElem? (i := 8) rfl))) (mvT hZ (hw _ (List.mem_of_getElem? (i := 9) rfl))) (mvT hZ (hw _ (List.mem_of_getElem? (i := 10) rfl))) (mvT hZ (hw _ (List.mem_of_getElem? (i := 11) rfl))) (by decide) (backOf (W := 0) (rm3 l Z a0 hw [] b1 v7_44 v8_55 v9_69 k1 ((4 : Int32)) ([(nar .byte (f1 p0)), (nar .byte (f1 p1)), (nar .byte (f1 p2)), (nar .byte (f1 p3))]) h22 n0 Z24 V_22 (own_pr0_166_hB_4 p0 p1 p2 p3 p4 p5 v7_44 ev7_44 v8_55 ev8_55 v9_69 ev9_69 hc83_2) (own_pr0_166_hb2_4 p0 p1 p2 p3 p4 p5 v7_44 ev7_44 v8_55 ev8_55 v9_69 ev9_69 hc83_2) (own_pr0_166_hb3_4 p0 p1 p2 p3 p4 p5 v7_44 ev7_44 v8_55 ev8_55 v9_69 ev9_69 hc83_2)) hZ (hw _ (List.mem_of_getElem? (i := 11) rfl)) (hw _ (List.mem_of_getElem? (i := 10) rfl)) (by decide) (by decide)) (g := (mkF m 166 #[.val (.int p0), .val (.int p1), .val (.int p2), .val (.int p3), .val (.int p4), .val (.int p5), .val (.ref b1), .val (.int v7_44), .val (.int v8_55), .val (.int v9_69), .val (.int (0 : Int32)), .unset] [(.int v9_69), (.int v8_55), (.int v7_44), (.ref b1)])) rfl (by rw [hml]; rfl) (argsL := [(.ref b1), (.int v7_44), (.int v8_55), (.int v9_69)]) (rest := []) (lenOf pd3 rfl) rfl (by show 2 * 0 + _ ≤ _; exact Nat.le_of_eq rfl) (hb hby at_166) (fun _ _ => ⟨rfl, e25, (by decide : 1 + 0 ≤ _), (by decide : 4 + 0 ≤ _)⟩)
    dsimp only [Pt.U, Pt.locs, Pt.cells, Pt.slots] at X39 l39 y39 z39 st39 hQ39
    subst l39 y39 z39
    obtain ⟨rfl, N39q, e39⟩ := hQ39
    have N40 := Fr.app N26 N39q
    refine Goes.step (S' := T39.setTop (mkF m 169 #[.val (.int p0), .val (.int p1), .val (.int p2), .val (.int p3), .val (.int p4), .val (.int p5), .val (.ref b1), .val (.int v7_44), .val (.int v8_55), .val (.int v9_69), .val (.int (0 : Int32)), .unset] [(.int (f3 (4 : Int32) [(nar .byte (f1 p0)), (nar .byte (f1 p1)), (nar .byte (f1 p2)), (nar .byte (f1 p3))] v7_44 v8_55 v9_69))])) st39 ?_
    refine Goes.step (S' := T39.setTop (mkF m 171 #[.val (.int p0), .val (.int p1), .val (.int p2), .val (.int p3), .val (.int p4), .val (.int p5), .val (.ref b1), .val (.int v7_44), .val (.int v8_55), .val (.int v9_69), .val (.int (0 : Int32)), .val (.int (f3 (4 : Int32) [(nar .byte (f1 p0)), (nar .byte (f1 p1)), (nar .byte (f1 p2)), (nar .byte (f1 p3))] v7_44 v8_55 v9_69))] [])) (fun _ k => XS.istore X39.here hx rfl (hb hby at_169) rfl (l' := #[.val (.int p0), .val (.int p1), .val (.int p2), .val (.int p3), .val (.int p4), .val (.int p5), .val (.ref b1), .val (.int v7_44), .val (.int v8_55), .val (.int v9_69), .val (.int (0 : Int32)), .val (.int (f3 (4 : Int32) [(nar .byte (f1 p0)), (nar .byte (f1 p1)), (nar .byte (f1 p2)), (nar .byte (f1 p3))] v7_44 v8_55 v9_69))]) rfl k) ?_
    obtain ⟨v11_169, ev11_169⟩ : ∃ z : Int32, z = (f3 (4 : Int32) [(nar .byte (f1 p0)), (nar .byte (f1 p1)), (nar .byte (f1 p2)), (nar .byte (f1 p3))] v7_44 v8_55 v9_69) := ⟨_, rfl⟩
    rw [← ev11_169]
    refine Goes.step (S' := T39.setTop (mkF m 173 #[.val (.int p0), .val (.int p1), .val (.int p2), .val (.int p3), .val (.int p4), .val (.int p5), .val (.ref b1), .val (.int v7_44), .val (.int v8_55), .val (.int v9_69), .val (.int (0 : Int32)), .val (.int v11_169)] [(.int v11_169)])) (fun _ k => XS.iload X39.here hx rfl (hb hby at_171) rfl  k) ?_
    refine Goes.step (S' := T39.setTop (mkF m 175 #[.val (.int p0), .val (.int p1), .val (.int p2), .val (.int p3), .val (.int p4), .val (.int p5), .val (.ref b1), .val (.int v7_44), .val (.int v8_55), .val (.int v9_69), .val (.int (0 : Int32)), .val (.int v11_169)] [(.int (0 : Int32)), (.int v11_169)])) (fun _ k => XS.iload X39.here hx rfl (hb hby at_173) rfl  k) ?_
    refine Goes.step (S' := T39.setTop (mkF m 178 #[.val (.int p0), .val (.int p1), .val (.int p2), .val (.int p3), .val (.int p4), .val (.int p5), .val (.ref b1), .val (.int v7_44), .val (.int v8_55), .val (.int v9_69), .val (.int (0 : Int32)), .val (.int v11_169)] [])) (fun _ k => XS.icmpNo X39.here hx rfl (hb hby at_175) rfl (teq (own_hc0_175_4 p0 p1 p2 p3 p4 p5 v7_44 ev7_44 v8_55 ev8_55 v9_69 ev9_69 hc83_2 v11_169 ev11_169)).2 k) ?_
    refine Goes.step (S' := T39.setTop (mkF m 179 #[.val (.int p0), .val (.int p1), .val (.int p2), .val (.int p3), .val (.int p4), .val (.int p5), .val (.ref b1), .val (.int v7_44), .val (.int v8_55), .val (.int v9_69), .val (.int (0 : Int32)), .val (.int v11_169)] [(.int (1 : Int32))])) (fun _ k => XS.iconst X39.here hx rfl (hb hby at_178) k) ?_
    refine Goes.step (S' := T39.setTop (mkF m 183 #[.val (.int p0), .val (.int p1), .val (.int p2), .val (.int p3), .val (.int p4), .val (.int p5), .val (.ref b1), .val (.int v7_44), .val (.int v8_55), .val (.int v9_69), .val (.int (0 : Int32)), .val (.int v11_169)] [(.int (1 : Int32))])) (fun _ k => XS.goto X39.here hx rfl (pc0 := 179) (pc' := 183) rfl (hb hby at_179) (by decide) (by decide) k) ?_
    refine Goes.retN X39 hx Bd.notSynchronized (t := .boolean) Bd.returns (by simp) (hb hby at_183) (by decide) (by decide) ?_
    exact ⟨rfl, N40⟩
set_option maxRecDepth 65536 in
set_option maxHeartbeats 40000000 in
theorem comes_1 {Post : Tables → Env → Array Value → State → Outcome → State → Prop} (hpost : ∀ tb e args s v u, (limb_1_1.after args s (.returned v) u = true ∧ limb_1_2.after args s (.returned v) u = true ∧ True) → FrameEnd s (.returned v) u (Jvm.fieldLocs frame_1_writes args s ++ Jvm.arrayLocs frame_1_arrays args s ++ Jvm.staticLocs frame_1_statics s) 16 128 → Post tb e args s (.returned v) u) :
    ArmFor flags0 classFile x code maxLocals ret World_1 tables_1 room_1 Calls_1 rest_1 Pre_1 Post := by
  intro l hfl _ _ p e ha hc hk s m args below hf hA hF happ hP
  obtain ⟨hcalls, hrest, hpre⟩ := hP
  obtain ⟨-, -, -, hnamed, -, -, -, hat⟩ := (Spec.applies_iff hf).mp happ
  obtain ⟨hg, hn⟩ := and_e (Cond.before_iff.mp (show (Jvm.Cond.and given_1 narrow_1).before args s = true from hpre))
  obtain ⟨gg1, gg2⟩ := and_e hg
  obtain ⟨gg3, gg4⟩ := and_e gg2
  obtain ⟨gg5, gg6⟩ := and_e gg4
  obtain ⟨gg7, gg8⟩ := and_e gg6
  obtain ⟨gg9, gg10⟩ := and_e gg8
  obtain ⟨gg11, gg12⟩ := and_e gg10
  obtain ⟨w0, w1, w2, w3, w4, w5, rfl⟩ : ∃ w0 w1 w2 w3 w4 w5 : Value, args = #[w0, w1, w2, w3, w4, w5] := by
    have hs : args.size = 6 := by simpa [Cond.value, given_1] using gg1
    obtain ⟨L⟩ := args
    match L, hs with
    | [w0, w1, w2, w3, w4, w5], _ => exact ⟨w0, w1, w2, w3, w4, w5, rfl⟩
  have hw := fun d (hd : d ∈ tables_1) => atoms_spec (ws := Jvm.Cond.code x code maxLocals ret :: tables_1) hat d (List.mem_cons_of_mem _ hd)
  obtain ⟨i0, ei0⟩ := is_v gg3
  obtain rfl : w0 = (.int i0) := Option.some.inj ei0
  obtain ⟨i1, ei1⟩ := is_v gg5
  obtain rfl : w1 = (.int i1) := Option.some.inj ei1
  obtain ⟨i2, ei2⟩ := is_v gg7
  obtain rfl : w2 = (.int i2) := Option.some.inj ei2
  obtain ⟨i3, ei3⟩ := is_v gg9
  obtain rfl : w3 = (.int i3) := Option.some.inj ei3
  obtain ⟨i4, ei4⟩ := is_v gg11
  obtain rfl : w4 = (.int i4) := Option.some.inj ei4
  obtain ⟨i5, ei5⟩ := is_v gg12
  obtain rfl : w5 = (.int i5) := Option.some.inj ei5
  obtain ⟨n, o, h1, h2, h3, _, L, rfl, ⟨rfl, N⟩, hq⟩ := rm0 l s _ hw tables_1 i0 i1 i2 i3 i4 i5 s.heap s.heap.size (Nat.le_refl _) p e ha hc hk s m _ below hf ((Spec.applies_iff_loose hf).mp happ).1 ⟨rfl, State.Warmed39.refl s, rfl⟩ trivial
  refine ⟨n, _, h1, h2, h3, hpost _ _ _ _ _ _ ⟨Cond.after_iff.mpr rfl, Cond.after_iff.mpr (eq_i res_at (Term.int_eval (1)) rfl), trivial⟩ ⟨hq.1, hq.2.1, (hq.2.2.sift fun y hy => Or.inr (N y hy)).mono (by decide) (by decide)⟩⟩
theorem main_1_1 : Claimed_1_1 := comes_1 fun _ _ _ _ _ _ h hF => ⟨h.1, hF⟩
theorem main_1_2 : Claimed_1_2 := comes_1 fun _ _ _ _ _ _ h hF => ⟨h.2.1, hF⟩
end Jvm.Pilot.@@N@@
namespace Jvm.Pilot.@@N@@
open Jvm Jvm.ClassFile Sem Op Lib Jvm.Free Jvm.Stand Jvm.Pilot.@@N@@.Jvm.D
/-! MADE BY PROGRAM (witnessworld.py) out of the Statement's table words and the real class files: 10 classes; the members and pool entries that the words name. The judged class is class 1, her method 4. -/
namespace start1
open Jvm.ClassFile
def u (s : String) : CpInfo := .utf8 (stringToUtf16 s)
/-- a pool by its gaps: so many unusable entries, then the entry; so many at the end -/
def gap : Nat → List CpInfo → List CpInfo
  | 0, r => r
  | n + 1, r => .unusable :: gap n r
def poolList (es : List (Nat × CpInfo)) (last : Nat) : List CpInfo := es.foldr (fun e r => gap e.1 (e.2 :: r)) (gap last [])
def pool (es : List (Nat × CpInfo)) (last : Nat) : Array CpInfo := ⟨poolList es last⟩
def fileOf (pool : Array CpInfo) (this : Nat) (attrs : Array Attribute := #[]) (ms : Array MethodInfo := #[]) (fl : Nat := 33) (sup : Nat := 0) (ifs : Array Nat := #[]) (fds : Array FieldInfo := #[]) : ClassFile where
  minorVersion := 0
  majorVersion := 65
  constantPool := pool
  accessFlags := fl
  thisClass := this
  superClass := sup
  interfaces := ifs
  fields := fds
  methods := ms
  attributes := attrs
def plain (name : String) (sup : Option ClassId) : Class where
  name := name
  kind := .ordinary
  loader := none
  accessFlags := 33
  super := sup
  interfaces := #[]
  cf := none
  fields := #[]
  methods := #[]
  instanceTypes := #[]
  staticTypes := #[]
  resolved := #[]
  callSites := []
  init := .initialized
  statics := none
  mirror := none

def pool0 : Array CpInfo := pool [(5, u "<init>"), (0, u "()V"), (1, .class_ 10), (1, u "java/lang/Object")] 113

def k0m0 : Method := { name := "<init>", desc := "()V", sig := { parameters := [], returnType := none }, accessFlags := 1, code := none }
/-- java/lang/Object -/
def k0 : Class := { plain "java/lang/Object" none with
  accessFlags := 33
  interfaces := #[]
  cf := some (fileOf pool0 8 #[] #[{ accessFlags := 1, nameIndex := 5, descriptorIndex := 6, attributes := #[] }] 33 0 #[] #[])
  fields := #[]
  methods := #[k0m0]
  instanceTypes := #[]
  staticTypes := #[]
  resolved := Array.replicate 124 none
  statics := none }

def pool1 : Array CpInfo := pool [(2, .class_ 4), (1, u "java/lang/Object"), (0, u "<init>"), (0, u "()V"), (0, .methodref 8 9), (0, .class_ 10), (0, .nameAndType 11 12), (0, u "com/example/leaderline/leaderline/Iso2709RecordIndexOfSeparatorPinLaw"), (0, u "isSep"), (0, u "(BZ)Z"), (0, .methodref 8 14), (0, .nameAndType 15 16), (0, u "draw"), (0, u "(I)B"), (0, .methodref 8 18), (0, .nameAndType 19 20), (0, u "hit"), (0, u "([BIIIZ)Z"), (0, .methodref 22 23), (0, .class_ 24), (0, .nameAndType 25 26), (0, u "com/example/leaderline/leaderline/Iso2709Record"), (0, u "indexOfSeparator"), (0, u "([BIIZ)I"), (3, u "law"), (0, u "(IIIIII)Z")] 4

def k1m0 : Method := { name := "<init>", desc := "()V", sig := { parameters := [], returnType := none }, accessFlags := 1, code := none }
def k1c1 : Code := { maxStack := 2, maxLocals := 2, code := method_2_code, exceptionTable := #[], attributes := #[] }
def k1m1 : Method := { name := "draw", desc := "(I)B", sig := { parameters := [.int], returnType := some .byte }, accessFlags := 10, code := some k1c1 }
def k1c2 : Code := { maxStack := 2, maxLocals := 3, code := method_3_code, exceptionTable := #[], attributes := #[] }
def k1m2 : Method := { name := "isSep", desc := "(BZ)Z", sig := { parameters := [.byte, .boolean], returnType := some .boolean }, accessFlags := 10, code := some k1c2 }
def k1c3 : Code := { maxStack := 2, maxLocals := 5, code := method_4_code, exceptionTable := #[], attributes := #[] }
def k1m3 : Method := { name := "hit", desc := "([BIIIZ)Z", sig := { parameters := [(.array .byte), .int, .int, .int, .boolean], returnType := some .boolean }, accessFlags := 10, code := some k1c3 }
def k1c4 : Code := { maxStack := 5, maxLocals := 12, code := code, exceptionTable := #[], attributes := #[] }
def k1m4 : Method := { name := "law", desc := "(IIIIII)Z", sig := { parameters := [.int, .int, .int, .int, .int, .int], returnType := some .boolean }, accessFlags := 9, code := some k1c4 }
/-- com/example/leaderline/leaderline/Iso2709RecordIndexOfSeparatorPinLaw -/
def k1 : Class := { plain "com/example/leaderline/leaderline/Iso2709RecordIndexOfSeparatorPinLaw" (some 0) with
  accessFlags := 49
  interfaces := #[]
  cf := some (fileOf pool1 8 #[] #[{ accessFlags := 1, nameIndex := 5, descriptorIndex := 6, attributes := #[] }, { accessFlags := 10, nameIndex := 15, descriptorIndex := 16, attributes := #[] }, { accessFlags := 10, nameIndex := 11, descriptorIndex := 12, attributes := #[] }, { accessFlags := 10, nameIndex := 19, descriptorIndex := 20, attributes := #[] }, { accessFlags := 9, nameIndex := 30, descriptorIndex := 31, attributes := #[] }] 49 2 #[] #[])
  fields := #[]
  methods := #[k1m0, k1m1, k1m2, k1m3, k1m4]
  instanceTypes := #[]
  staticTypes := #[]
  resolved := Array.replicate 36 none
  statics := none }

def pool2 : Array CpInfo := pool [(2, .class_ 4), (1, u "java/lang/Object"), (0, u "<init>"), (0, u "()V"), (1, .class_ 10), (1, u "com/example/leaderline/leaderline/RecordSource")] 108

def k2m0 : Method := { name := "<init>", desc := "()V", sig := { parameters := [], returnType := none }, accessFlags := 0, code := none }
/-- com/example/leaderline/leaderline/RecordSource -/
def k2 : Class := { plain "com/example/leaderline/leaderline/RecordSource" (some 0) with
  accessFlags := 1056
  interfaces := #[]
  cf := some (fileOf pool2 8 #[] #[{ accessFlags := 0, nameIndex := 5, descriptorIndex := 6, attributes := #[] }] 1056 2 #[] #[])
  fields := #[]
  methods := #[k2m0]
  instanceTypes := #[]
  staticTypes := #[]
  resolved := Array.replicate 119 none
  statics := none }

def pool3 : Array CpInfo := pool [(2, .class_ 4), (1, u "com/example/leaderline/leaderline/Iso2709Record"), (0, u "NONE"), (0, u "[B"), (5, .class_ 14), (1, u "com/example/leaderline/leaderline/RecordSource"), (3, u "label"), (0, u "Lcom/example/leaderline/leaderline/Label;"), (2, u "referenceArea"), (8, u "fields"), (0, u "Ljava/util/List;"), (71, .class_ 105), (0, u "com/example/leaderline/leaderline/Iso2709Record$Builder"), (40, u "indexOfSeparator"), (0, u "([BIIZ)I"), (12, u "FIELD_TERMINATOR"), (0, u "B"), (2, u "RECORD_TERMINATOR")] 44

def k3c0 : Code := { maxStack := 2, maxLocals := 6, code := prog_5_method_21_code, exceptionTable := #[], attributes := #[] }
def k3m0 : Method := { name := "indexOfSeparator", desc := "([BIIZ)I", sig := { parameters := [(.array .byte), .int, .int, .boolean], returnType := some .int }, accessFlags := 8, code := some k3c0 }
/-- com/example/leaderline/leaderline/Iso2709Record -/
def k3 : Class := { plain "com/example/leaderline/leaderline/Iso2709Record" (some 2) with
  accessFlags := 49
  interfaces := #[]
  cf := some (fileOf pool3 2 #[.nestMembers #[104]] #[{ accessFlags := 8, nameIndex := 146, descriptorIndex := 147, attributes := #[] }] 49 12 #[] #[{ accessFlags := 24, nameIndex := 160, descriptorIndex := 161, attributes := #[] }, { accessFlags := 24, nameIndex := 164, descriptorIndex := 161, attributes := #[] }, { accessFlags := 18, nameIndex := 18, descriptorIndex := 19, attributes := #[] }, { accessFlags := 18, nameIndex := 22, descriptorIndex := 6, attributes := #[] }, { accessFlags := 18, nameIndex := 31, descriptorIndex := 32, attributes := #[] }, { accessFlags := 26, nameIndex := 5, descriptorIndex := 6, attributes := #[] }])
  fields := #[{ name := "FIELD_TERMINATOR", type := .byte, accessFlags := 24, slot := 0, constantValue := 0 }, { name := "RECORD_TERMINATOR", type := .byte, accessFlags := 24, slot := 1, constantValue := 0 }, { name := "label", type := (.object "com/example/leaderline/leaderline/Label"), accessFlags := 18, slot := 0, constantValue := 0 }, { name := "referenceArea", type := (.array .byte), accessFlags := 18, slot := 1, constantValue := 0 }, { name := "fields", type := (.object "java/util/List"), accessFlags := 18, slot := 2, constantValue := 0 }, { name := "NONE", type := (.array .byte), accessFlags := 26, slot := 2, constantValue := 0 }]
  methods := #[k3m0]
  instanceTypes := #[(.object "com/example/leaderline/leaderline/Label"), (.array .byte), (.object "java/util/List")]
  staticTypes := #[.byte, .byte, (.array .byte)]
  resolved := Array.replicate 209 none
  statics := none }

def pool4 : Array CpInfo := pool [(1, u "java/lang/Cloneable"), (0, .class_ 1), (0, u "java/lang/Object"), (0, .class_ 3)] 3

/-- java/lang/Cloneable -/
def k4 : Class := { plain "java/lang/Cloneable" (some 0) with
  accessFlags := 1537
  interfaces := #[]
  cf := some (fileOf pool4 2 #[] #[] 1537 4 #[] #[])
  fields := #[]
  methods := #[]
  instanceTypes := #[]
  staticTypes := #[]
  resolved := Array.replicate 8 none
  statics := none }

def pool5 : Array CpInfo := pool [(1, u "java/io/Serializable"), (0, .class_ 1), (0, u "java/lang/Object"), (0, .class_ 3)] 3

/-- java/io/Serializable -/
def k5 : Class := { plain "java/io/Serializable" (some 0) with
  accessFlags := 1537
  interfaces := #[]
  cf := some (fileOf pool5 2 #[] #[] 1537 4 #[] #[])
  fields := #[]
  methods := #[]
  instanceTypes := #[]
  staticTypes := #[]
  resolved := Array.replicate 8 none
  statics := none }

/-- the primitive byte -/
def k6 : Class := { plain "byte" none with kind := .primitive 'B', accessFlags := 0x411 }
/-- [B -/
def k7 : Class := { plain "[B" (some 0) with kind := .array 6 .byte, interfaces := #[4, 5], accessFlags := 1041 }

/-- the primitive int -/
def k8 : Class := { plain "int" none with kind := .primitive 'I', accessFlags := 0x411 }
/-- [I -/
def k9 : Class := { plain "[I" (some 0) with kind := .array 8 .int, interfaces := #[4, 5], accessFlags := 1041 }

def heap : Heap := #[]
def classes : Array Class := #[k0, k1, k2, k3, k4, k5, k6, k7, k8, k9]
def interned : List (Array UInt16 × Addr) := []
def slotsUsed : Nat := 0
def theMethod : MethodId := ⟨1, 4⟩
def args0 : Array Value := #[.int 5, .int 5, .int 5, .int 5, .int 5, .int 5]
def aboutOver (below : List Frame) : State where
  vm := { classes := classes, interned := interned.toArray }
  heap := heap
  slotsUsed := slotsUsed
  threads := #[{ frames := .invoking theMethod args0 :: below }]
def below0 : List Frame := [.native { method := ⟨0, 0⟩, args := #[] }]
def about1 : State := aboutOver below0
def p0 : Program := .bare "" "" ""
def e0 : Env := launch0.env 0 0 0
theorem w_frames : about1.frames = Frame.invoking theMethod args0 :: below0 := rfl
set_option maxRecDepth 65536 in
theorem w_args : argsFit about1.vm theMethod args0 = true := by decide +kernel
set_option maxRecDepth 65536 in
theorem w_heap : heapFits about1 = true := by decide +kernel
set_option maxRecDepth 65536 in
theorem w_runnable : about1.curStatus? = some .runnable := by decide +kernel
set_option maxRecDepth 65536 in
theorem w_alone : about1.alone = true := by decide +kernel
set_option maxRecDepth 65536 in
theorem w_named : about1.methodNamed? x = some theMethod := by decide +kernel
set_option maxRecDepth 65536 in
theorem w_hears : about1.hears theMethod below0 = true := by decide +kernel
set_option maxRecDepth 65536 in
theorem w_ripe : about1.ripe theMethod args0 below0 = true := by decide +kernel
theorem w_running : about1.status = .running := rfl
set_option maxRecDepth 65536 in
theorem w_room : about1.hasRoom e0.platform room_1 = true :=
  launch0.hasRoom_least _ room_1 (by decide +kernel) (by decide +kernel) (by decide +kernel) (by decide +kernel) (by decide +kernel) (by decide +kernel)
theorem allAtoms_all (ts : List Jvm.Cond) (a : Array Jvm.Value) (st : Jvm.State) : (allAtoms ts).before a st = ts.all (fun c => c.before a st) := by
  induction ts with
  | nil => rfl
  | cons c t ih =>
    show (Jvm.Cond.and c (allAtoms t)).before a st = _
    rw [Jvm.Cond.before_and, ih, List.all_cons]
def words1 : List Jvm.Cond := Jvm.Cond.code x code maxLocals ret :: tables_1
/-- a 'code' word, met by the world's own term for the bytes: nothing is compared byte by byte -/
theorem code_word {y : MethodName} {bytes : ByteArray} {mx : Nat} {rt : Option FieldType} {a : Array Value} {s : State} {m : MethodId} {meth : Method} {c : Code} (h1 : s.methodNamed? y = some m) (h2 : s.vm.method? m = some meth) (h3 : meth.code = some c) (h4 : c.code = bytes)
    (h5 : (c.maxLocals == mx && c.exceptionTable.isEmpty && decide (c.maxStack ≤ mostOperands) && decide (meth.sig.returnType = rt) && !meth.locks && decide (parseMethodDescriptor y.desc = some meth.sig)) = true) : (Jvm.Cond.code y bytes mx rt).before a s = true := by
  simp only [Bool.and_eq_true, beq_iff_eq, Bool.not_eq_true', decide_eq_true_eq] at h5
  obtain ⟨⟨⟨⟨⟨g1, g2⟩, g3⟩, g4⟩, g5⟩, g6⟩ := h5
  simp [Cond.before, Cond.holds, Cond.value, h1, h2, h3, h4, g1, g2, g3, g4, g5, g6]
def isCode : Jvm.Cond → Bool
  | .code _ _ _ _ => true
  | _ => false
theorem all_split {L : List Jvm.Cond} {P : Jvm.Cond → Bool} (h1 : L.all (fun c => isCode c || P c) = true) (h2 : ∀ c ∈ L.filter isCode, P c = true) : L.all P = true := by
  refine List.all_eq_true.mpr fun c hc => ?_
  have h := List.all_eq_true.mp h1 c hc
  rcases Bool.eq_false_or_eq_true (isCode c) with hi | hi
  · exact h2 c (List.mem_filter.mpr ⟨hc, hi⟩)
  · simpa [hi] using h
set_option maxRecDepth 65536 in
theorem w_c0 : (Jvm.Cond.code x code maxLocals ret).before args0 about1 = true := code_word (m := ⟨1, 4⟩) (meth := k1m4) (c := k1c4) (by decide +kernel) rfl rfl rfl (by decide +kernel)
set_option maxRecDepth 65536 in
theorem w_c1 : (Jvm.Cond.code ({ cls := "com/example/leaderline/leaderline/Iso2709RecordIndexOfSeparatorPinLaw", name := "draw", desc := "(I)B" } : Jvm.MethodName) method_2_code (2 : Nat) (Option.some Jvm.ClassFile.FieldType.byte)).before args0 about1 = true := code_word (m := ⟨1, 1⟩) (meth := k1m1) (c := k1c1) (by decide +kernel) rfl rfl rfl (by decide +kernel)
set_option maxRecDepth 65536 in
theorem w_c2 : (Jvm.Cond.code ({ cls := "com/example/leaderline/leaderline/Iso2709RecordIndexOfSeparatorPinLaw", name := "hit", desc := "([BIIIZ)Z" } : Jvm.MethodName) method_4_code (5 : Nat) (Option.some Jvm.ClassFile.FieldType.boolean)).before args0 about1 = true := code_word (m := ⟨1, 3⟩) (meth := k1m3) (c := k1c3) (by decide +kernel) rfl rfl rfl (by decide +kernel)
set_option maxRecDepth 65536 in
theorem w_c3 : (Jvm.Cond.code ({ cls := "com/example/leaderline/leaderline/Iso2709Record", name := "indexOfSeparator", desc := "([BIIZ)I" } : Jvm.MethodName) prog_5_method_21_code (6 : Nat) (Option.some Jvm.ClassFile.FieldType.int)).before args0 about1 = true := code_word (m := ⟨3, 0⟩) (meth := k3m0) (c := k3c0) (by decide +kernel) rfl rfl rfl (by decide +kernel)
set_option maxRecDepth 65536 in
theorem w_c4 : (Jvm.Cond.code ({ cls := "com/example/leaderline/leaderline/Iso2709RecordIndexOfSeparatorPinLaw", name := "isSep", desc := "(BZ)Z" } : Jvm.MethodName) method_3_code (3 : Nat) (Option.some Jvm.ClassFile.FieldType.boolean)).before args0 about1 = true := code_word (m := ⟨1, 2⟩) (meth := k1m2) (c := k1c2) (by decide +kernel) rfl rfl rfl (by decide +kernel)
def codes1 : List Jvm.Cond := [Jvm.Cond.code x code maxLocals ret, Jvm.Cond.code ({ cls := "com/example/leaderline/leaderline/Iso2709RecordIndexOfSeparatorPinLaw", name := "draw", desc := "(I)B" } : Jvm.MethodName) method_2_code (2 : Nat) (Option.some Jvm.ClassFile.FieldType.byte), Jvm.Cond.code ({ cls := "com/example/leaderline/leaderline/Iso2709RecordIndexOfSeparatorPinLaw", name := "hit", desc := "([BIIIZ)Z" } : Jvm.MethodName) method_4_code (5 : Nat) (Option.some Jvm.ClassFile.FieldType.boolean), Jvm.Cond.code ({ cls := "com/example/leaderline/leaderline/Iso2709Record", name := "indexOfSeparator", desc := "([BIIZ)I" } : Jvm.MethodName) prog_5_method_21_code (6 : Nat) (Option.some Jvm.ClassFile.FieldType.int), Jvm.Cond.code ({ cls := "com/example/leaderline/leaderline/Iso2709RecordIndexOfSeparatorPinLaw", name := "isSep", desc := "(BZ)Z" } : Jvm.MethodName) method_3_code (3 : Nat) (Option.some Jvm.ClassFile.FieldType.boolean)]
set_option maxRecDepth 65536 in
theorem codes_eq : words1.filter isCode = codes1 := rfl
theorem w_codes : ∀ c ∈ words1.filter isCode, c.before args0 about1 = true := by
  rw [codes_eq]
  intro c hc
  simp only [codes1, List.mem_cons, List.not_mem_nil, or_false] at hc
  rcases hc with rfl | rfl | rfl | rfl | rfl
  · exact w_c0
  · exact w_c1
  · exact w_c2
  · exact w_c3
  · exact w_c4
set_option maxRecDepth 65536 in
theorem w_t1 : words1.all (fun c => isCode c || c.before args0 about1) = true := by decide +kernel
theorem w_tables : (allAtoms (Jvm.Cond.code x code maxLocals ret :: tables_1)).before args0 about1 = true := by
  rw [allAtoms_all]
  show words1.all (fun c => c.before args0 about1) = true
  refine all_split ?_ w_codes
  rw [w_t1]
set_option maxRecDepth 65536 in
theorem w_case : (Jvm.Cond.and given_1 narrow_1).before args0 about1 = true := by decide +kernel
theorem w_applies : (headSpec (Jvm.Cond.code x code maxLocals ret :: tables_1) room_1).applies x e0.platform about1 = true :=
  (Spec.applies_iff w_frames).mpr ⟨w_running, w_runnable, w_alone, w_named, w_hears, w_ripe, w_room, w_tables⟩
theorem atStart : AtStart classFile x code maxLocals ret World_1 tables_1 room_1 Calls_1 rest_1 Pre_1 launch0 p0 e0 about1 theMethod args0 below0 :=
  ⟨lists_1, trivial, launch0.admits_env _ _ _, launch0.least_env, fairChoices_fair.cas, fairChoices_fair.clock, w_frames, w_args, w_heap, w_applies, trivial, trivial, w_case⟩
end start1
theorem witness_1 : WitnessClaimed_1 := ⟨start1.p0, start1.e0, start1.about1, start1.theMethod, start1.args0, start1.below0, start1.atStart⟩
end Jvm.Pilot.@@N@@
