import JvmDerived
import JvmDerived.Pilot.@@N@@Statement
import JvmDerived.Pilot.@@N@@Code
set_option linter.unusedVariables false
set_option linter.unusedSimpArgs false
namespace Jvm.RoadKit
open Sem ClassFile Op Lib Jvm.Stand Jvm.Free Jvm.LawKit
section New
variable {p : Program} {l : Launch} {e : Env} {R : Room} {s : State} {m : MethodId} {args : Array Value} {below : List Frame} {meth : Method} {c : Code} {T : State} {locs : List Loc} {cells slots : Nat}
theorem retI (X : Stand p l e R s m args below meth c T locs cells slots) (hx : p.tables.exec = Jvm.exec) {pc : Nat} {Ls : Array Slot} {z : Int32} {rest : List Value} (hret : meth.sig.returnType = some .int) (hd : decode c.code pc = .ok (.ireturn, 1)) {fs : List Frame}
    (hl : ∀ (f : JFrame) (acts : List Action), f.method = m → f.locked = none → f.entered = [] → (doReturn e (T.setTop f) acts (some (.int z))).1 = T.setFrames fs) : Steps p.tables e below (T.setTop (mkF m pc Ls (.int z :: rest))) (T.setFrames fs) := by
  have hm' : T.vm.method? m = some meth := X.method'
  have hn : narrow .int (.int z) = .int z := rfl
  show Steps p.tables e below (T.setTop { method := m, pc := pc, locals := Ls, stack := _ :: rest, locked := none }) _
  jvm_step X.here [X.here.top, hx, hd, hm', hret, hn]
  first | (intro acts; rw [hl _ acts rfl rfl rfl]) | rw [hl _ _ rfl rfl rfl]
  exact Steps.refl _
end New
end Jvm.RoadKit
namespace Jvm.Pilot.@@N@@
open Jvm Jvm.ClassFile Sem Op Lib Jvm.Free Jvm.Stand Jvm.LawKit Jvm.RoadKit Bundle Jvm.Pilot.@@N@@.Jvm.D
/-! MY OWN LAYER, 1: a walk in forward style -/
/-- from the state S the run ends, and Q holds of the end -/
def Goes (tb : Tables) (e : Env) (below : List Frame) (Q : Outcome → State → Prop) (S : State) : Prop :=
  ∃ s₂ o, Steps tb e below S s₂ ∧ s₂.status = .running ∧ Ended s₂ below o ∧ Q o s₂
theorem Goes.out {tb : Tables} {e : Env} {below : List Frame} {Q : Outcome → State → Prop} {S : State} (h : Goes tb e below Q S) :
    ∃ s₂ o, Steps tb e below S s₂ ∧ s₂.status = .running ∧ Ended s₂ below o ∧ Q o s₂ := h
theorem Goes.step {tb : Tables} {e : Env} {below : List Frame} {Q : Outcome → State → Prop} {S S' : State}
    (h : ∀ t, Steps tb e below S' t → Steps tb e below S t) (k : Goes tb e below Q S') : Goes tb e below Q S := by
  obtain ⟨s₂, o, h1, h2⟩ := k
  exact ⟨s₂, o, h _ h1, h2⟩
section Ites
variable {tb : Tables} {e : Env} {below : List Frame} {T S : State} {c : Prop} [Decidable c]
theorem own_ite0 {F : JFrame} (hy : c → ∀ t, Steps tb e below (T.setTop F) t → Steps tb e below S t) (hn : ¬ c → ∀ t, Steps tb e below (T.setTop F) t → Steps tb e below S t) :
    ∀ t, Steps tb e below (T.setTop F) t → Steps tb e below S t := fun t k => by
  by_cases h : c
  · exact hy h t k
  · exact hn h t k
theorem own_ite1 {A0 : Type} {a0 b0 : A0} {F : A0 → JFrame} (hy : c → ∀ t, Steps tb e below (T.setTop (F a0)) t → Steps tb e below S t) (hn : ¬ c → ∀ t, Steps tb e below (T.setTop (F b0)) t → Steps tb e below S t) :
    ∀ t, Steps tb e below (T.setTop (F (if c then a0 else b0))) t → Steps tb e below S t := fun t k => by
  by_cases h : c
  · rw [if_pos h] at k; exact hy h t k
  · rw [if_neg h] at k; exact hn h t k
theorem own_ite2 {A0 A1 : Type} {a0 b0 : A0} {a1 b1 : A1} {F : A0 → A1 → JFrame} (hy : c → ∀ t, Steps tb e below (T.setTop (F a0 a1)) t → Steps tb e below S t) (hn : ¬ c → ∀ t, Steps tb e below (T.setTop (F b0 b1)) t → Steps tb e below S t) :
    ∀ t, Steps tb e below (T.setTop (F (if c then a0 else b0) (if c then a1 else b1))) t → Steps tb e below S t := fun t k => by
  by_cases h : c
  · rw [if_pos h, if_pos h] at k; exact hy h t k
  · rw [if_neg h, if_neg h] at k; exact hn h t k
theorem own_ite3 {A0 A1 A2 : Type} {a0 b0 : A0} {a1 b1 : A1} {a2 b2 : A2} {F : A0 → A1 → A2 → JFrame} (hy : c → ∀ t, Steps tb e below (T.setTop (F a0 a1 a2)) t → Steps tb e below S t) (hn : ¬ c → ∀ t, Steps tb e below (T.setTop (F b0 b1 b2)) t → Steps tb e below S t) :
    ∀ t, Steps tb e below (T.setTop (F (if c then a0 else b0) (if c then a1 else b1) (if c then a2 else b2))) t → Steps tb e below S t := fun t k => by
  by_cases h : c
  · rw [if_pos h, if_pos h, if_pos h] at k; exact hy h t k
  · rw [if_neg h, if_neg h, if_neg h] at k; exact hn h t k
end Ites
section Rets
variable {p : Program} {l : Launch} {e : Env} {R : Room} {s : State} {m : MethodId} {args : Array Value} {below : List Frame} {meth : Method} {c : Code} {T : State} {locs : List Loc} {cells slots : Nat}
variable {QQ : Option Value → Heap → List Loc → Prop} {C0 S0 : Nat} {pc : Nat} {Ls : Array Slot} {rest : List Value}
theorem Goes.retN (X : Stand p l e R s m args below meth c T locs cells slots) (hx : p.tables.exec = Jvm.exec) (hlk : meth.locks = false) {t : FieldType} {z : Int32} (hret : meth.sig.returnType = some t) (ht : t = .boolean ∨ t = .byte ∨ t = .char ∨ t = .short)
    (hd : decode c.code pc = .ok (.ireturn, 1)) (hC : cells ≤ C0) (hS : slots ≤ S0) (hQ : QQ (some (.int (nar t z))) T.heap locs) :
    Goes p.tables e below (fun o U' => ∃ v L, o = .returned v ∧ QQ v U'.heap L ∧ FrameEnd s o U' L C0 S0) (T.setTop (mkF m pc Ls (.int z :: rest))) := by
  obtain ⟨fs, hr, hrun, hended, hW, hsame⟩ := X.leave (v := some (.int (nar t z))) (fun h => by rw [hret] at h; cases h) hlk
  exact ⟨_, _, Jvm.RoadKit.retN X hx hret ht hd hr, hrun, hended, _, _, rfl, hQ, ⟨_, rfl⟩, hW, hsame.mono hC hS⟩
theorem Goes.retI (X : Stand p l e R s m args below meth c T locs cells slots) (hx : p.tables.exec = Jvm.exec) (hlk : meth.locks = false) {z : Int32} (hret : meth.sig.returnType = some .int)
    (hd : decode c.code pc = .ok (.ireturn, 1)) (hC : cells ≤ C0) (hS : slots ≤ S0) (hQ : QQ (some (.int z)) T.heap locs) :
    Goes p.tables e below (fun o U' => ∃ v L, o = .returned v ∧ QQ v U'.heap L ∧ FrameEnd s o U' L C0 S0) (T.setTop (mkF m pc Ls (.int z :: rest))) := by
  obtain ⟨fs, hr, hrun, hended, hW, hsame⟩ := X.leave (v := some (.int z)) (fun h => by rw [hret] at h; cases h) hlk
  exact ⟨_, _, Jvm.RoadKit.retI X hx hret hd hr, hrun, hended, _, _, rfl, hQ, ⟨_, rfl⟩, hW, hsame.mono hC hS⟩
theorem Goes.retJ (X : Stand p l e R s m args below meth c T locs cells slots) (hx : p.tables.exec = Jvm.exec) (hlk : meth.locks = false) {z : Int64} (hret : meth.sig.returnType = some .long)
    (hd : decode c.code pc = .ok (.lreturn, 1)) (hC : cells ≤ C0) (hS : slots ≤ S0) (hQ : QQ (some (.long z)) T.heap locs) :
    Goes p.tables e below (fun o U' => ∃ v L, o = .returned v ∧ QQ v U'.heap L ∧ FrameEnd s o U' L C0 S0) (T.setTop (mkF m pc Ls (.long z :: rest))) := by
  obtain ⟨fs, hr, hrun, hended, hW, hsame⟩ := X.leave (v := some (.long z)) (fun h => by rw [hret] at h; cases h) hlk
  refine ⟨_, _, ?_, hrun, hended, _, _, rfl, hQ, ⟨_, rfl⟩, hW, hsame.mono hC hS⟩
  jvm_step X.here [X.here.top, hx, hd, X.method', hret, narrow]
  first | (intro acts; rw [hr _ acts rfl rfl rfl]) | rw [hr _ _ rfl rfl rfl]
  exact Steps.refl _
theorem Goes.retA (X : Stand p l e R s m args below meth c T locs cells slots) (hx : p.tables.exec = Jvm.exec) (hlk : meth.locks = false) {a : Addr} {t : FieldType} (hret : meth.sig.returnType = some t) (ht : t.isReference = true)
    (hd : decode c.code pc = .ok (.areturn, 1)) (hC : cells ≤ C0) (hS : slots ≤ S0) (hQ : QQ (some (.ref a)) T.heap locs) :
    Goes p.tables e below (fun o U' => ∃ v L, o = .returned v ∧ QQ v U'.heap L ∧ FrameEnd s o U' L C0 S0) (T.setTop (mkF m pc Ls (.ref a :: rest))) := by
  obtain ⟨fs, hr, hrun, hended, hW, hsame⟩ := X.leave (v := some (.ref a)) (fun h => by rw [hret] at h; cases h) hlk
  refine ⟨_, _, ?_, hrun, hended, _, _, rfl, hQ, ⟨_, rfl⟩, hW, hsame.mono hC hS⟩
  jvm_step X.here [X.here.top, hx, hd, X.method', hret, Value.isRef, ht]
  first | (intro acts; rw [hr _ acts rfl rfl rfl]) | rw [hr _ _ rfl rfl rfl]
  exact Steps.refl _
theorem Goes.retV (X : Stand p l e R s m args below meth c T locs cells slots) (hx : p.tables.exec = Jvm.exec) (hlk : meth.locks = false) (hret : meth.sig.returnType = none)
    (hd : decode c.code pc = .ok (.return_, 1)) (hC : cells ≤ C0) (hS : slots ≤ S0) (hQ : QQ none T.heap locs) :
    Goes p.tables e below (fun o U' => ∃ v L, o = .returned v ∧ QQ v U'.heap L ∧ FrameEnd s o U' L C0 S0) (T.setTop (mkF m pc Ls [])) := by
  obtain ⟨fs, hr, hrun, hended, hW, hsame⟩ := X.leave (v := none) (fun _ => rfl) hlk
  exact ⟨_, _, X.returnOut hx hret hd hr, hrun, hended, _, _, rfl, hQ, ⟨_, rfl⟩, hW, hsame.mono hC hS⟩
theorem own_lrem {g : JFrame} {target : State} (X : Stand p l e R s m args below meth c T locs cells slots) (hx : p.tables.exec = Jvm.exec) (hg : g.method = m) {x y : Int64} {rest : List Value} (hd : decode c.code g.pc = .ok (.lrem, 1)) (hs : g.stack = .long y :: .long x :: rest) (hy : y ≠ 0)
    (hr : Steps p.tables e below (T.setTop { g with pc := g.pc + 1, stack := .long (x % y) :: rest }) target) : Steps p.tables e below (T.setTop g) target :=
  XS.lrem X.here hx hg hd hs hy (by rw [lrem_mod]; exact hr)
end Rets
/-! MY OWN LAYER, 2: an array of ints (bytes, chars ..) by the list of its values, whole -/
def AI (Z : State) (h : Heap) (a : Addr) (k : ClassId) (ty : FieldType) (n : Int32) (vs : List Int32) : Prop :=
  Arv Z h a k ty n (vs.map Value.int) (.int 0) ∧ vs.length = n.toNatClampNeg
section Arrays
variable {p : Program} {l : Launch} {e : Env} {R : Room} {s : State} {m : MethodId} {args : Array Value} {below : List Frame} {meth : Method} {c : Code} {T : State} {locs : List Loc} {cells slots : Nat}
variable {Z : State} {h h' : Heap} {a b : Addr} {k : ClassId} {ty : FieldType} {n : Int32} {vs : List Int32} {sl : Nat} {v : Value} {ws : List Addr}
theorem AI.lt (F : AI Z h a k ty n vs) : a < h.size := F.1.lt
theorem AI.nn (F : AI Z h a k ty n vs) : ¬ n < 0 := by obtain ⟨⟨c, -, -, -, q, -⟩, -⟩ := F; exact q
theorem AI.ext (F : AI Z h a k ty n vs) (E : Ext h h') : AI Z h' a k ty n vs := ⟨F.1.ext E, F.2⟩
theorem AI.other (F : AI Z h b k ty n vs) (W : Wr h h' a sl v) (q : b ≠ a) : AI Z h' b k ty n vs := ⟨F.1.other W q, F.2⟩
theorem AI.keep (F : AI Z h a k ty n vs) (K : Keep h h' ws) (q : a ∉ ws) : AI Z h' a k ty n vs := ⟨F.1.keep K q, F.2⟩
theorem own_getD (vs : List Int32) (i : Nat) : (vs.map Value.int).getD i (.int 0) = .int (vs.getD i 0) := by
  simp only [List.getD_eq_getElem?_getD, List.getElem?_map]
  cases vs[i]? <;> rfl
theorem own_new {q : Int32} (A : Arr Z h a (newA k ty q) ty) (hq : ¬ q < 0) (hd : defaultValue ty = .int 0) {vs : List Int32} (hv : vs = List.replicate q.toNatClampNeg 0 := by rfl) : AI Z h a k ty q vs := by
  subst hv
  have V := Arv.new A hq
  rw [hd] at V
  refine ⟨?_, by simp⟩
  have q1 := V.pad (pad_rep [] (.int 0) q.toNatClampNeg)
  rw [List.nil_append] at q1
  rw [List.map_replicate]; exact q1
theorem own_inb {cl : Cell} {j : Int32} (S : cl.slots.size = n.toNatClampNeg) (q : ¬ j < 0 ∧ j < n) : ¬ (j < 0 ∨ cl.slots.size ≤ j.toNatClampNeg) := inb_of S q
theorem own_jlt {j : Int32} (q : ¬ j < 0 ∧ j < n) : j.toNatClampNeg < n.toNatClampNeg := by
  obtain ⟨q1, q2⟩ := q
  rw [Int32.lt_iff_toInt_lt] at q1 q2
  have e0 : (0 : Int32).toInt = 0 := rfl
  simp only [Int32.toNatClampNeg] at *; omega
theorem own_iaload {pc : Nat} {Ls : Array Slot} {rest : List Value} {j : Int32} (X : Stand p l e R s m args below meth c T locs cells slots) (hx : p.tables.exec = Jvm.exec) (hZ : Z.Warmed39 s.vm) (eT : T.heap = h) (F : AI Z h a k .int n vs) (hj : ¬ j < 0 ∧ j < n)
    (hd : decode c.code pc = .ok (.iaload, 1)) (t : State) (kk : Steps p.tables e below (T.setTop (mkF m (pc + 1) Ls (.int (vs.getD j.toNatClampNeg 0) :: rest))) t) : Steps p.tables e below (T.setTop (mkF m pc Ls (.int j :: .ref a :: rest))) t := by
  obtain ⟨⟨cl, A, -, S, -, H, -⟩, hl⟩ := F
  have hin := own_inb S hj
  exact X.iaload hx (j := j) (v := .int (vs.getD j.toNatClampNeg 0)) (by rw [eT]; exact A.1) (State.isArrayOf_alike hZ.alike A.2.1) A.2.2 hin (H.at hin (own_getD _ _)) (g := mkF m pc Ls (.int j :: .ref a :: rest)) rfl rfl hd _ kk
theorem own_baload {pc : Nat} {Ls : Array Slot} {rest : List Value} {j : Int32} (X : Stand p l e R s m args below meth c T locs cells slots) (hx : p.tables.exec = Jvm.exec) (hZ : Z.Warmed39 s.vm) (eT : T.heap = h) (F : AI Z h a k .byte n vs) (hj : ¬ j < 0 ∧ j < n)
    (hd : decode c.code pc = .ok (.baload, 1)) (t : State) (kk : Steps p.tables e below (T.setTop (mkF m (pc + 1) Ls (.int (vs.getD j.toNatClampNeg 0) :: rest))) t) : Steps p.tables e below (T.setTop (mkF m pc Ls (.int j :: .ref a :: rest))) t := by
  obtain ⟨⟨cl, A, -, S, -, H, -⟩, hl⟩ := F
  have hin := own_inb S hj
  exact X.baloadBytes hx (j := j) (v := .int (vs.getD j.toNatClampNeg 0)) (by rw [eT]; exact A.1) (State.isArrayOf_alike hZ.alike A.2.1) A.2.2 hin (H.at hin (own_getD _ _)) (g := mkF m pc Ls (.int j :: .ref a :: rest)) rfl rfl hd _ kk
theorem own_len {pc : Nat} {Ls : Array Slot} {rest : List Value} (X : Stand p l e R s m args below meth c T locs cells slots) (hx : p.tables.exec = Jvm.exec) (hZ : Z.Warmed39 s.vm) (eT : T.heap = h) (F : AI Z h a k ty n vs)
    (hd : decode c.code pc = .ok (.arraylength, 1)) (t : State) (kk : Steps p.tables e below (T.setTop (mkF m (pc + 1) Ls (.int n :: rest))) t) : Steps p.tables e below (T.setTop (mkF m pc Ls (.ref a :: rest))) t := by
  obtain ⟨⟨cl, A, -, S, N, H, -⟩, hl⟩ := F
  refine X.arraylength hx (by rw [eT]; exact A.1) (State.isArrayOf_alike hZ.alike A.2.1) (g := mkF m pc Ls (.ref a :: rest)) rfl rfl hd _ ?_
  rw [len_of S N]; exact kk
theorem own_iastore {j x : Int32} (X : Stand p l e R s m args below meth c T locs cells slots) (hx : p.tables.exec = Jvm.exec) (hZ : Z.Warmed39 s.vm) (eT : T.heap = h) (F : AI Z h a k .int n vs) (hj : ¬ j < 0 ∧ j < n) {g : JFrame} (hg : g.method = m) {rest : List Value} (hs : g.stack = .int x :: .int j :: .ref a :: rest) (hd : decode c.code g.pc = .ok (.iastore, 1)) :
    ∃ T' h', Stand p l e R s m args below meth c T' (locs ++ [⟨a, j.toNatClampNeg⟩]) cells slots ∧ T'.heap = h' ∧ Wr h h' a j.toNatClampNeg (.int x) ∧ AI Z h' a k .int n (vs.set j.toNatClampNeg x) ∧ ∀ target, Steps p.tables e below (T'.setTop { g with pc := g.pc + 1, stack := rest }) target → Steps p.tables e below (T.setTop g) target := by
  obtain ⟨⟨cl, A, q1, S, N, H, G⟩, hl⟩ := F
  obtain ⟨T', h', X', e', W, st⟩ := stI X hx hZ eT A (own_inb S hj) hg hs hd
  refine ⟨T', h', X', e', W, ⟨?_, by simpa using hl⟩, st⟩
  rw [List.map_set]
  exact Arv.set A q1 S N H G rfl W _ rfl (by rw [List.length_map, hl]; exact own_jlt hj)
theorem own_bastore {j x : Int32} (X : Stand p l e R s m args below meth c T locs cells slots) (hx : p.tables.exec = Jvm.exec) (hZ : Z.Warmed39 s.vm) (eT : T.heap = h) (F : AI Z h a k .byte n vs) (hj : ¬ j < 0 ∧ j < n) {g : JFrame} (hg : g.method = m) {rest : List Value} (hs : g.stack = .int x :: .int j :: .ref a :: rest) (hd : decode c.code g.pc = .ok (.bastore, 1)) :
    ∃ T' h', Stand p l e R s m args below meth c T' (locs ++ [⟨a, j.toNatClampNeg⟩]) cells slots ∧ T'.heap = h' ∧ Wr h h' a j.toNatClampNeg (.int (nar .byte x)) ∧ AI Z h' a k .byte n (vs.set j.toNatClampNeg (nar .byte x)) ∧ ∀ target, Steps p.tables e below (T'.setTop { g with pc := g.pc + 1, stack := rest }) target → Steps p.tables e below (T.setTop g) target := by
  obtain ⟨⟨cl, A, q1, S, N, H, G⟩, hl⟩ := F
  obtain ⟨T', h', X', e', W, st⟩ := stB X hx hZ eT A (own_inb S hj) hg hs hd
  refine ⟨T', h', X', e', W, ⟨?_, by simpa using hl⟩, st⟩
  rw [List.map_set]
  exact Arv.set A q1 S N H G (fits_nar_byte _) W _ rfl (by rw [List.length_map, hl]; exact own_jlt hj)
end Arrays
/-! MY OWN LAYER, 3: numbers -/
theorem own_b255 (x : Int32) : (nar .byte (x.toInt8.toInt32)) &&& 255 = x &&& 255 := by
  have a := c_i2b x
  have b := c_i2b x.toInt8.toInt32
  have m1 : ((x.toInt8.toInt32.toInt8.toInt32) &&& 255).toInt = (x.toInt8.toInt32.toInt8.toInt32).toInt % 256 := c_mask _ 255 8 (by decide) (by decide)
  have m2 : (x &&& 255).toInt = x.toInt % 256 := c_mask _ 255 8 (by decide) (by decide)
  apply Int32.toInt_inj.mp
  show ((x.toInt8.toInt32.toInt8.toInt32) &&& 255).toInt = _
  omega
theorem own_m255 (x : Int32) : (x &&& 255).toInt = x.toInt % 256 := c_mask _ 255 8 (by decide) (by decide)
theorem own_or8 (a b : Int32) (h1 : 0 ≤ a.toInt) (h2 : a.toInt < 256) (h3 : 0 ≤ b.toInt) (h4 : b.toInt < 256) : ((a <<< ((8 : Int32) &&& 31)) ||| b).toInt = a.toInt * 256 + b.toInt := by
  have s : ((a <<< ((8 : Int32) &&& 31)).toInt - a.toInt * 256) % 4294967296 = 0 := c_ishl a 8 8 (by decide)
  have r := rng32 (a <<< ((8 : Int32) &&& 31))
  have e : (a <<< ((8 : Int32) &&& 31)).toInt = a.toInt * 256 := by omega
  have o := c_or (a <<< ((8 : Int32) &&& 31)) b 8 (by decide) 256 (by decide) (by omega) h3 h4
  have r2 := rng32 ((a <<< ((8 : Int32) &&& 31)) ||| b)
  omega
theorem own_nar0 : nar .boolean 0 = 0 := by decide
theorem own_nar1 : nar .boolean 1 = 1 := by decide
theorem d1_0 : decode method_2_code 0 = .ok (.iload_n 0, 1) := by decide +kernel
theorem d1_1 : decode method_2_code 1 = .ok (.iload_n 1, 1) := by decide +kernel
theorem d1_2 : decode method_2_code 2 = .ok (.iushr, 1) := by decide +kernel
theorem d1_3 : decode method_2_code 3 = .ok (.iconst 1, 1) := by decide +kernel
theorem d1_4 : decode method_2_code 4 = .ok (.iand, 1) := by decide +kernel
theorem d1_5 : decode method_2_code 5 = .ok (.ifCond .ne 13, 3) := by decide +kernel
theorem d1_8 : decode method_2_code 8 = .ok (.ldc2_w 7, 3) := by decide +kernel
theorem d1_11 : decode method_2_code 11 = .ok (.iload_n 1, 1) := by decide +kernel
theorem d1_12 : decode method_2_code 12 = .ok (.iconst 3, 1) := by decide +kernel
theorem d1_13 : decode method_2_code 13 = .ok (.ishl, 1) := by decide +kernel
theorem d1_14 : decode method_2_code 14 = .ok (.lshl, 1) := by decide +kernel
theorem d1_15 : decode method_2_code 15 = .ok (.goto 4, 3) := by decide +kernel
theorem d1_18 : decode method_2_code 18 = .ok (.lconst 0, 1) := by decide +kernel
theorem d1_19 : decode method_2_code 19 = .ok (.lreturn, 1) := by decide +kernel
theorem pn0 : plainName "com/example/deft_match/deftmatch/SieveZerosPinLaw" = true := by first | (simp [plainName, overriddenIn]; done) | decide +kernel
theorem ef1 (m : MethodId) (p0 : Int32) (p1 : Int32) : entryFrame m #[(.int p0), (.int p1)] 2 = mkF m 0 #[.val (.int p0), .val (.int p1)] [] := by first | (simp [entryFrame, mkF, argsToLocals, Value.category]; done) | rfl
def f1 (p0 : Int32) (p1 : Int32) : Int64 := (if (((p0.toUInt32 >>> (p1 &&& 31).toUInt32).toInt32) &&& (1 : Int32)) = (0 : Int32) then ((255 : Int64) <<< ((p1 <<< ((3 : Int32) &&& 31)) &&& 0x3f).toInt64) else (0 : Int64))
def Q1 (Z : State) (p0 : Int32) (p1 : Int32) (h0 : Heap) (n0 : Nat) (v : Option Value) (h : Heap) (L : List Loc) : Prop := v = some (.long (f1 p0 p1)) ∧ Fr n0 L ∧ h = h0
set_option maxRecDepth 65536 in
set_option maxHeartbeats 40000000 in
theorem rm1 (l : Launch) (Z : State) (a0 : Array Value) (hw : ∀ d ∈ tables_1, d.before a0 Z = true) (ws : List Jvm.Cond) (p0 : Int32) (p1 : Int32) (h0 : Heap) (n0 : Nat) (Z0 : n0 ≤ h0.size) :
    MetFree l (⟨"com/example/deft_match/deftmatch/SieveZerosPinLaw", "keep", "(II)J"⟩ : MethodName) (head1 (Jvm.Cond.code (⟨"com/example/deft_match/deftmatch/SieveZerosPinLaw", "keep", "(II)J"⟩ : MethodName) method_2_code 2 (some .long) :: ws) ({ frames := 0, cells := 0, slots := 0, locals := 0 } : Room)) (fun a U => a = #[(.int p0), (.int p1)] ∧ Z.Warmed39 U.vm ∧ U.heap = h0) (fun _ _ _ _ _ => True) (fun _ U o U' => ∃ v L, o = .returned v ∧ Q1 Z p0 p1 h0 n0 v U'.heap L ∧ FrameEnd U o U' L ({ frames := 0, cells := 0, slots := 0, locals := 0 } : Room).cells ({ frames := 0, cells := 0, slots := 0, locals := 0 } : Room).slots) := by
  refine MetFree.of_bodySF (plainFor_of_name pn0) hisR ?_
  intro p e s m args below meth c s₁ Bd hml0 hP hK
  obtain ⟨rfl, hZ, hh⟩ := hP
  have hx := Bd.exec
  have hby := Bd.bytes
  have hml : c.maxLocals = 2 := hml0
  have hown : s.vm.findClass "com/example/deft_match/deftmatch/SieveZerosPinLaw" = some m.cls := findClass_of_methodNamed Bd.named
  have hnm := (name_of_methodNamed Bd.named Bd.method).1
  have X0 : Stand p l e ({ frames := 0, cells := 0, slots := 0, locals := 0 } : Room) s m #[(.int p0), (.int p1)] below meth c s₁ [] 0 0 := Stand.of_body Bd
  have e0 : s₁.heap = h0 := by rw [← hh, Bd.state]; rfl
  have N0 := Fr.nil n0
  refine Goes.out (Q := fun o U' => ∃ v L, o = .returned v ∧ Q1 Z p0 p1 h0 n0 v U'.heap L ∧ FrameEnd s o U' L ({ frames := 0, cells := 0, slots := 0, locals := 0 } : Room).cells ({ frames := 0, cells := 0, slots := 0, locals := 0 } : Room).slots) ?_
  refine Goes.step (S' := s₁.setTop (mkF m 0 #[.val (.int p0), .val (.int p1)] [])) (fun _ k => castTop (ef1 m p0 p1) k) ?_
  refine Goes.step (S' := s₁.setTop (mkF m 1 #[.val (.int p0), .val (.int p1)] [(.int p0)])) (fun _ k => XS.iloadN X0.here hx rfl (hb hby d1_0) rfl  k) ?_
  refine Goes.step (S' := s₁.setTop (mkF m 2 #[.val (.int p0), .val (.int p1)] [(.int p1), (.int p0)])) (fun _ k => XS.iloadN X0.here hx rfl (hb hby d1_1) rfl  k) ?_
  refine Goes.step (S' := s₁.setTop (mkF m 3 #[.val (.int p0), .val (.int p1)] [(.int ((p0.toUInt32 >>> (p1 &&& 31).toUInt32).toInt32))])) (fun _ k => XS.iushr X0.here hx rfl (hb hby d1_2) rfl k) ?_
  refine Goes.step (S' := s₁.setTop (mkF m 4 #[.val (.int p0), .val (.int p1)] [(.int (1 : Int32)), (.int ((p0.toUInt32 >>> (p1 &&& 31).toUInt32).toInt32))])) (fun _ k => XS.iconst X0.here hx rfl (hb hby d1_3) k) ?_
  refine Goes.step (S' := s₁.setTop (mkF m 5 #[.val (.int p0), .val (.int p1)] [(.int (((p0.toUInt32 >>> (p1 &&& 31).toUInt32).toInt32) &&& (1 : Int32)))])) (fun _ k => XS.iand X0.here hx rfl (hb hby d1_4) rfl k) ?_
  refine Goes.step (own_ite1 (T := s₁) (c := (((p0.toUInt32 >>> (p1 &&& 31).toUInt32).toInt32) &&& (1 : Int32)) = (0 : Int32)) (a0 := ((255 : Int64) <<< ((p1 <<< ((3 : Int32) &&& 31)) &&& 0x3f).toInt64)) (b0 := (0 : Int64)) (F := fun z1_0 => (mkF m 19 #[.val (.int p0), .val (.int p1)] [(.long z1_0)])) ?_ ?_) ?_
  · intro hc5_1 t k
    refine XS.ifNo X0.here hx rfl (hb hby d1_5) rfl ((if0 _ _).trans (teq hc5_1).2) ?_
    show Steps p.tables e below (s₁.setTop (mkF m 8 #[.val (.int p0), .val (.int p1)] [])) _
    refine X0.ldc2Long hx hown (mvT hZ (hw _ (List.mem_of_getElem? (i := 4) rfl))) (g := (mkF m 8 #[.val (.int p0), .val (.int p1)] [])) rfl (hb hby d1_8) _ ?_
    show Steps p.tables e below (s₁.setTop (mkF m 11 #[.val (.int p0), .val (.int p1)] [(.long (255 : Int64))])) _
    refine XS.iloadN X0.here hx rfl (hb hby d1_11) rfl  ?_
    show Steps p.tables e below (s₁.setTop (mkF m 12 #[.val (.int p0), .val (.int p1)] [(.int p1), (.long (255 : Int64))])) _
    refine XS.iconst X0.here hx rfl (hb hby d1_12) ?_
    show Steps p.tables e below (s₁.setTop (mkF m 13 #[.val (.int p0), .val (.int p1)] [(.int (3 : Int32)), (.int p1), (.long (255 : Int64))])) _
    refine XS.ishl X0.here hx rfl (hb hby d1_13) rfl ?_
    show Steps p.tables e below (s₁.setTop (mkF m 14 #[.val (.int p0), .val (.int p1)] [(.int (p1 <<< ((3 : Int32) &&& 31))), (.long (255 : Int64))])) _
    refine XS.lshl X0.here hx rfl (hb hby d1_14) rfl ?_
    show Steps p.tables e below (s₁.setTop (mkF m 15 #[.val (.int p0), .val (.int p1)] [(.long ((255 : Int64) <<< ((p1 <<< ((3 : Int32) &&& 31)) &&& 0x3f).toInt64))])) _
    refine XS.goto X0.here hx rfl (pc0 := 15) (pc' := 19) rfl (hb hby d1_15) (by decide) (by decide) ?_
    show Steps p.tables e below (s₁.setTop (mkF m 19 #[.val (.int p0), .val (.int p1)] [(.long ((255 : Int64) <<< ((p1 <<< ((3 : Int32) &&& 31)) &&& 0x3f).toInt64))])) _
    exact k
  · intro hc5_1 t k
    refine XS.ifYes X0.here hx rfl (pc0 := 5) (pc' := 18) rfl (hb hby d1_5) rfl ((if0 _ _).trans (feq hc5_1).2) (by decide) (by decide) ?_
    show Steps p.tables e below (s₁.setTop (mkF m 18 #[.val (.int p0), .val (.int p1)] [])) _
    refine XS.lconst X0.here hx rfl (hb hby d1_18) ?_
    show Steps p.tables e below (s₁.setTop (mkF m 19 #[.val (.int p0), .val (.int p1)] [(.long (0 : Int64))])) _
    exact k
  show Goes p.tables e below _ (s₁.setTop (mkF m 19 #[.val (.int p0), .val (.int p1)] [(.long (if (((p0.toUInt32 >>> (p1 &&& 31).toUInt32).toInt32) &&& (1 : Int32)) = (0 : Int32) then ((255 : Int64) <<< ((p1 <<< ((3 : Int32) &&& 31)) &&& 0x3f).toInt64) else (0 : Int64)))]))
  refine Goes.retJ X0 hx Bd.notSynchronized Bd.returns (hb hby d1_19) (by decide) (by decide) ?_
  exact ⟨rfl, N0, e0⟩
theorem d2_0 : decode method_3_code 0 = .ok (.lload_n 0, 1) := by decide +kernel
theorem d2_1 : decode method_3_code 1 = .ok (.iload_n 2, 1) := by decide +kernel
theorem d2_2 : decode method_3_code 2 = .ok (.iconst 3, 1) := by decide +kernel
theorem d2_3 : decode method_3_code 3 = .ok (.ishl, 1) := by decide +kernel
theorem d2_4 : decode method_3_code 4 = .ok (.lushr, 1) := by decide +kernel
theorem d2_5 : decode method_3_code 5 = .ok (.ldc2_w 7, 3) := by decide +kernel
theorem d2_8 : decode method_3_code 8 = .ok (.land, 1) := by decide +kernel
theorem d2_9 : decode method_3_code 9 = .ok (.lconst 0, 1) := by decide +kernel
theorem d2_10 : decode method_3_code 10 = .ok (.lcmp, 1) := by decide +kernel
theorem d2_11 : decode method_3_code 11 = .ok (.ifCond .ne 13, 3) := by decide +kernel
theorem d2_14 : decode method_3_code 14 = .ok (.ldc2_w 9, 3) := by decide +kernel
theorem d2_17 : decode method_3_code 17 = .ok (.iload_n 2, 1) := by decide +kernel
theorem d2_18 : decode method_3_code 18 = .ok (.iconst 3, 1) := by decide +kernel
theorem d2_19 : decode method_3_code 19 = .ok (.ishl, 1) := by decide +kernel
theorem d2_20 : decode method_3_code 20 = .ok (.lshl, 1) := by decide +kernel
theorem d2_21 : decode method_3_code 21 = .ok (.goto 4, 3) := by decide +kernel
theorem d2_24 : decode method_3_code 24 = .ok (.lconst 0, 1) := by decide +kernel
theorem d2_25 : decode method_3_code 25 = .ok (.lreturn, 1) := by decide +kernel
theorem ef2 (m : MethodId) (q0 : Int64) (p1 : Int32) : entryFrame m #[(.long q0), (.int p1)] 3 = mkF m 0 #[.val (.long q0), .second, .val (.int p1)] [] := by first | (simp [entryFrame, mkF, argsToLocals, Value.category]; done) | rfl
def f2 (q0 : Int64) (p1 : Int32) : Int64 := (if (((q0.toUInt64 >>> ((p1 <<< ((3 : Int32) &&& 31)) &&& 0x3f).toInt64.toUInt64).toInt64) &&& (255 : Int64)) = (0 : Int64) then ((128 : Int64) <<< ((p1 <<< ((3 : Int32) &&& 31)) &&& 0x3f).toInt64) else (0 : Int64))
def Q2 (Z : State) (q0 : Int64) (p1 : Int32) (h0 : Heap) (n0 : Nat) (v : Option Value) (h : Heap) (L : List Loc) : Prop := v = some (.long (f2 q0 p1)) ∧ Fr n0 L ∧ h = h0
set_option maxRecDepth 65536 in
set_option maxHeartbeats 40000000 in
theorem rm2 (l : Launch) (Z : State) (a0 : Array Value) (hw : ∀ d ∈ tables_1, d.before a0 Z = true) (ws : List Jvm.Cond) (q0 : Int64) (p1 : Int32) (h0 : Heap) (n0 : Nat) (Z0 : n0 ≤ h0.size) :
    MetFree l (⟨"com/example/deft_match/deftmatch/SieveZerosPinLaw", "top", "(JI)J"⟩ : MethodName) (head1 (Jvm.Cond.code (⟨"com/example/deft_match/deftmatch/SieveZerosPinLaw", "top", "(JI)J"⟩ : MethodName) method_3_code 3 (some .long) :: ws) ({ frames := 0, cells := 0, slots := 0, locals := 0 } : Room)) (fun a U => a = #[(.long q0), (.int p1)] ∧ Z.Warmed39 U.vm ∧ U.heap = h0) (fun _ _ _ _ _ => True) (fun _ U o U' => ∃ v L, o = .returned v ∧ Q2 Z q0 p1 h0 n0 v U'.heap L ∧ FrameEnd U o U' L ({ frames := 0, cells := 0, slots := 0, locals := 0 } : Room).cells ({ frames := 0, cells := 0, slots := 0, locals := 0 } : Room).slots) := by
  refine MetFree.of_bodySF (plainFor_of_name pn0) hisR ?_
  intro p e s m args below meth c s₁ Bd hml0 hP hK
  obtain ⟨rfl, hZ, hh⟩ := hP
  have hx := Bd.exec
  have hby := Bd.bytes
  have hml : c.maxLocals = 3 := hml0
  have hown : s.vm.findClass "com/example/deft_match/deftmatch/SieveZerosPinLaw" = some m.cls := findClass_of_methodNamed Bd.named
  have hnm := (name_of_methodNamed Bd.named Bd.method).1
  have X0 : Stand p l e ({ frames := 0, cells := 0, slots := 0, locals := 0 } : Room) s m #[(.long q0), (.int p1)] below meth c s₁ [] 0 0 := Stand.of_body Bd
  have e0 : s₁.heap = h0 := by rw [← hh, Bd.state]; rfl
  have N0 := Fr.nil n0
  refine Goes.out (Q := fun o U' => ∃ v L, o = .returned v ∧ Q2 Z q0 p1 h0 n0 v U'.heap L ∧ FrameEnd s o U' L ({ frames := 0, cells := 0, slots := 0, locals := 0 } : Room).cells ({ frames := 0, cells := 0, slots := 0, locals := 0 } : Room).slots) ?_
  refine Goes.step (S' := s₁.setTop (mkF m 0 #[.val (.long q0), .second, .val (.int p1)] [])) (fun _ k => castTop (ef2 m q0 p1) k) ?_
  refine Goes.step (S' := s₁.setTop (mkF m 1 #[.val (.long q0), .second, .val (.int p1)] [(.long q0)])) (fun _ k => XS.lloadN X0.here hx rfl (hb hby d2_0) rfl  k) ?_
  refine Goes.step (S' := s₁.setTop (mkF m 2 #[.val (.long q0), .second, .val (.int p1)] [(.int p1), (.long q0)])) (fun _ k => XS.iloadN X0.here hx rfl (hb hby d2_1) rfl  k) ?_
  refine Goes.step (S' := s₁.setTop (mkF m 3 #[.val (.long q0), .second, .val (.int p1)] [(.int (3 : Int32)), (.int p1), (.long q0)])) (fun _ k => XS.iconst X0.here hx rfl (hb hby d2_2) k) ?_
  refine Goes.step (S' := s₁.setTop (mkF m 4 #[.val (.long q0), .second, .val (.int p1)] [(.int (p1 <<< ((3 : Int32) &&& 31))), (.long q0)])) (fun _ k => XS.ishl X0.here hx rfl (hb hby d2_3) rfl k) ?_
  refine Goes.step (S' := s₁.setTop (mkF m 5 #[.val (.long q0), .second, .val (.int p1)] [(.long ((q0.toUInt64 >>> ((p1 <<< ((3 : Int32) &&& 31)) &&& 0x3f).toInt64.toUInt64).toInt64))])) (fun _ k => XS.lushr X0.here hx rfl (hb hby d2_4) rfl k) ?_
  refine Goes.step (S' := s₁.setTop (mkF m 8 #[.val (.long q0), .second, .val (.int p1)] [(.long (255 : Int64)), (.long ((q0.toUInt64 >>> ((p1 <<< ((3 : Int32) &&& 31)) &&& 0x3f).toInt64.toUInt64).toInt64))])) (fun _ k => X0.ldc2Long hx hown (mvT hZ (hw _ (List.mem_of_getElem? (i := 4) rfl))) (g := (mkF m 5 #[.val (.long q0), .second, .val (.int p1)] [(.long ((q0.toUInt64 >>> ((p1 <<< ((3 : Int32) &&& 31)) &&& 0x3f).toInt64.toUInt64).toInt64))])) rfl (hb hby d2_5) _ k) ?_
  refine Goes.step (S' := s₁.setTop (mkF m 9 #[.val (.long q0), .second, .val (.int p1)] [(.long (((q0.toUInt64 >>> ((p1 <<< ((3 : Int32) &&& 31)) &&& 0x3f).toInt64.toUInt64).toInt64) &&& (255 : Int64)))])) (fun _ k => XS.land X0.here hx rfl (hb hby d2_8) rfl k) ?_
  refine Goes.step (S' := s₁.setTop (mkF m 10 #[.val (.long q0), .second, .val (.int p1)] [(.long (0 : Int64)), (.long (((q0.toUInt64 >>> ((p1 <<< ((3 : Int32) &&& 31)) &&& 0x3f).toInt64.toUInt64).toInt64) &&& (255 : Int64)))])) (fun _ k => XS.lconst X0.here hx rfl (hb hby d2_9) k) ?_
  refine Goes.step (S' := s₁.setTop (mkF m 11 #[.val (.long q0), .second, .val (.int p1)] [(.int (lcmpW (((q0.toUInt64 >>> ((p1 <<< ((3 : Int32) &&& 31)) &&& 0x3f).toInt64.toUInt64).toInt64) &&& (255 : Int64)) (0 : Int64)))])) (fun _ k => XS.lcmp X0.here hx rfl (hb hby d2_10) rfl k) ?_
  refine Goes.step (own_ite1 (T := s₁) (c := (((q0.toUInt64 >>> ((p1 <<< ((3 : Int32) &&& 31)) &&& 0x3f).toInt64.toUInt64).toInt64) &&& (255 : Int64)) = (0 : Int64)) (a0 := ((128 : Int64) <<< ((p1 <<< ((3 : Int32) &&& 31)) &&& 0x3f).toInt64)) (b0 := (0 : Int64)) (F := fun z1_0 => (mkF m 25 #[.val (.long q0), .second, .val (.int p1)] [(.long z1_0)])) ?_ ?_) ?_
  · intro hc11_1 t k
    refine XS.ifNo X0.here hx rfl (hb hby d2_11) rfl ((if0 _ _).trans (teq ((lw_eq (((q0.toUInt64 >>> ((p1 <<< ((3 : Int32) &&& 31)) &&& 0x3f).toInt64.toUInt64).toInt64) &&& (255 : Int64)) (0 : Int64)).mpr hc11_1)).2) ?_
    show Steps p.tables e below (s₁.setTop (mkF m 14 #[.val (.long q0), .second, .val (.int p1)] [])) _
    refine X0.ldc2Long hx hown (mvT hZ (hw _ (List.mem_of_getElem? (i := 8) rfl))) (g := (mkF m 14 #[.val (.long q0), .second, .val (.int p1)] [])) rfl (hb hby d2_14) _ ?_
    show Steps p.tables e below (s₁.setTop (mkF m 17 #[.val (.long q0), .second, .val (.int p1)] [(.long (128 : Int64))])) _
    refine XS.iloadN X0.here hx rfl (hb hby d2_17) rfl  ?_
    show Steps p.tables e below (s₁.setTop (mkF m 18 #[.val (.long q0), .second, .val (.int p1)] [(.int p1), (.long (128 : Int64))])) _
    refine XS.iconst X0.here hx rfl (hb hby d2_18) ?_
    show Steps p.tables e below (s₁.setTop (mkF m 19 #[.val (.long q0), .second, .val (.int p1)] [(.int (3 : Int32)), (.int p1), (.long (128 : Int64))])) _
    refine XS.ishl X0.here hx rfl (hb hby d2_19) rfl ?_
    show Steps p.tables e below (s₁.setTop (mkF m 20 #[.val (.long q0), .second, .val (.int p1)] [(.int (p1 <<< ((3 : Int32) &&& 31))), (.long (128 : Int64))])) _
    refine XS.lshl X0.here hx rfl (hb hby d2_20) rfl ?_
    show Steps p.tables e below (s₁.setTop (mkF m 21 #[.val (.long q0), .second, .val (.int p1)] [(.long ((128 : Int64) <<< ((p1 <<< ((3 : Int32) &&& 31)) &&& 0x3f).toInt64))])) _
    refine XS.goto X0.here hx rfl (pc0 := 21) (pc' := 25) rfl (hb hby d2_21) (by decide) (by decide) ?_
    show Steps p.tables e below (s₁.setTop (mkF m 25 #[.val (.long q0), .second, .val (.int p1)] [(.long ((128 : Int64) <<< ((p1 <<< ((3 : Int32) &&& 31)) &&& 0x3f).toInt64))])) _
    exact k
  · intro hc11_1 t k
    refine XS.ifYes X0.here hx rfl (pc0 := 11) (pc' := 24) rfl (hb hby d2_11) rfl ((if0 _ _).trans (feq (mt (lw_eq (((q0.toUInt64 >>> ((p1 <<< ((3 : Int32) &&& 31)) &&& 0x3f).toInt64.toUInt64).toInt64) &&& (255 : Int64)) (0 : Int64)).mp hc11_1)).2) (by decide) (by decide) ?_
    show Steps p.tables e below (s₁.setTop (mkF m 24 #[.val (.long q0), .second, .val (.int p1)] [])) _
    refine XS.lconst X0.here hx rfl (hb hby d2_24) ?_
    show Steps p.tables e below (s₁.setTop (mkF m 25 #[.val (.long q0), .second, .val (.int p1)] [(.long (0 : Int64))])) _
    exact k
  show Goes p.tables e below _ (s₁.setTop (mkF m 25 #[.val (.long q0), .second, .val (.int p1)] [(.long (if (((q0.toUInt64 >>> ((p1 <<< ((3 : Int32) &&& 31)) &&& 0x3f).toInt64.toUInt64).toInt64) &&& (255 : Int64)) = (0 : Int64) then ((128 : Int64) <<< ((p1 <<< ((3 : Int32) &&& 31)) &&& 0x3f).toInt64) else (0 : Int64)))]))
  refine Goes.retJ X0 hx Bd.notSynchronized Bd.returns (hb hby d2_25) (by decide) (by decide) ?_
  exact ⟨rfl, N0, e0⟩
theorem d3_0 : decode prog_31_method_10_code 0 = .ok (.lload_n 0, 1) := by decide +kernel
theorem d3_1 : decode prog_31_method_10_code 1 = .ok (.ldc2_w 194, 3) := by decide +kernel
theorem d3_4 : decode prog_31_method_10_code 4 = .ok (.land, 1) := by decide +kernel
theorem d3_5 : decode prog_31_method_10_code 5 = .ok (.ldc2_w 194, 3) := by decide +kernel
theorem d3_8 : decode prog_31_method_10_code 8 = .ok (.ladd, 1) := by decide +kernel
theorem d3_9 : decode prog_31_method_10_code 9 = .ok (.lload_n 0, 1) := by decide +kernel
theorem d3_10 : decode prog_31_method_10_code 10 = .ok (.lor, 1) := by decide +kernel
theorem d3_11 : decode prog_31_method_10_code 11 = .ok (.ldc2_w 186, 3) := by decide +kernel
theorem d3_14 : decode prog_31_method_10_code 14 = .ok (.lxor, 1) := by decide +kernel
theorem d3_15 : decode prog_31_method_10_code 15 = .ok (.ldc2_w 196, 3) := by decide +kernel
theorem d3_18 : decode prog_31_method_10_code 18 = .ok (.land, 1) := by decide +kernel
theorem d3_19 : decode prog_31_method_10_code 19 = .ok (.lreturn, 1) := by decide +kernel
theorem pn1 : plainName "com/example/deft_match/deftmatch/Sieve" = true := by first | (simp [plainName, overriddenIn]; done) | decide +kernel
theorem ef3 (m : MethodId) (q0 : Int64) : entryFrame m #[(.long q0)] 2 = mkF m 0 #[.val (.long q0), .second] [] := by first | (simp [entryFrame, mkF, argsToLocals, Value.category]; done) | rfl
def f3 (q0 : Int64) : Int64 := (((((q0 &&& (9187201950435737471 : Int64)) + (9187201950435737471 : Int64)) ||| q0) ^^^ (-1 : Int64)) &&& (-9187201950435737472 : Int64))
def Q3 (Z : State) (q0 : Int64) (h0 : Heap) (n0 : Nat) (v : Option Value) (h : Heap) (L : List Loc) : Prop := v = some (.long (f3 q0)) ∧ Fr n0 L ∧ h = h0
set_option maxRecDepth 65536 in
set_option maxHeartbeats 40000000 in
theorem rm3 (l : Launch) (Z : State) (a0 : Array Value) (hw : ∀ d ∈ tables_1, d.before a0 Z = true) (ws : List Jvm.Cond) (q0 : Int64) (h0 : Heap) (n0 : Nat) (Z0 : n0 ≤ h0.size) :
    MetFree l (⟨"com/example/deft_match/deftmatch/Sieve", "zeros", "(J)J"⟩ : MethodName) (head1 (Jvm.Cond.code (⟨"com/example/deft_match/deftmatch/Sieve", "zeros", "(J)J"⟩ : MethodName) prog_31_method_10_code 2 (some .long) :: ws) ({ frames := 0, cells := 0, slots := 0, locals := 0 } : Room)) (fun a U => a = #[(.long q0)] ∧ Z.Warmed39 U.vm ∧ U.heap = h0) (fun _ _ _ _ _ => True) (fun _ U o U' => ∃ v L, o = .returned v ∧ Q3 Z q0 h0 n0 v U'.heap L ∧ FrameEnd U o U' L ({ frames := 0, cells := 0, slots := 0, locals := 0 } : Room).cells ({ frames := 0, cells := 0, slots := 0, locals := 0 } : Room).slots) := by
  refine MetFree.of_bodySF (plainFor_of_name pn1) hisR ?_
  intro p e s m args below meth c s₁ Bd hml0 hP hK
  obtain ⟨rfl, hZ, hh⟩ := hP
  have hx := Bd.exec
  have hby := Bd.bytes
  have hml : c.maxLocals = 2 := hml0
  have hown : s.vm.findClass "com/example/deft_match/deftmatch/Sieve" = some m.cls := findClass_of_methodNamed Bd.named
  have hnm := (name_of_methodNamed Bd.named Bd.method).1
  have X0 : Stand p l e ({ frames := 0, cells := 0, slots := 0, locals := 0 } : Room) s m #[(.long q0)] below meth c s₁ [] 0 0 := Stand.of_body Bd
  have e0 : s₁.heap = h0 := by rw [← hh, Bd.state]; rfl
  have N0 := Fr.nil n0
  refine Goes.out (Q := fun o U' => ∃ v L, o = .returned v ∧ Q3 Z q0 h0 n0 v U'.heap L ∧ FrameEnd s o U' L ({ frames := 0, cells := 0, slots := 0, locals := 0 } : Room).cells ({ frames := 0, cells := 0, slots := 0, locals := 0 } : Room).slots) ?_
  refine Goes.step (S' := s₁.setTop (mkF m 0 #[.val (.long q0), .second] [])) (fun _ k => castTop (ef3 m q0) k) ?_
  refine Goes.step (S' := s₁.setTop (mkF m 1 #[.val (.long q0), .second] [(.long q0)])) (fun _ k => XS.lloadN X0.here hx rfl (hb hby d3_0) rfl  k) ?_
  refine Goes.step (S' := s₁.setTop (mkF m 4 #[.val (.long q0), .second] [(.long (9187201950435737471 : Int64)), (.long q0)])) (fun _ k => X0.ldc2Long hx hown (mvT hZ (hw _ (List.mem_of_getElem? (i := 13) rfl))) (g := (mkF m 1 #[.val (.long q0), .second] [(.long q0)])) rfl (hb hby d3_1) _ k) ?_
  refine Goes.step (S' := s₁.setTop (mkF m 5 #[.val (.long q0), .second] [(.long (q0 &&& (9187201950435737471 : Int64)))])) (fun _ k => XS.land X0.here hx rfl (hb hby d3_4) rfl k) ?_
  refine Goes.step (S' := s₁.setTop (mkF m 8 #[.val (.long q0), .second] [(.long (9187201950435737471 : Int64)), (.long (q0 &&& (9187201950435737471 : Int64)))])) (fun _ k => X0.ldc2Long hx hown (mvT hZ (hw _ (List.mem_of_getElem? (i := 13) rfl))) (g := (mkF m 5 #[.val (.long q0), .second] [(.long (q0 &&& (9187201950435737471 : Int64)))])) rfl (hb hby d3_5) _ k) ?_
  refine Goes.step (S' := s₁.setTop (mkF m 9 #[.val (.long q0), .second] [(.long ((q0 &&& (9187201950435737471 : Int64)) + (9187201950435737471 : Int64)))])) (fun _ k => XS.ladd X0.here hx rfl (hb hby d3_8) rfl k) ?_
  refine Goes.step (S' := s₁.setTop (mkF m 10 #[.val (.long q0), .second] [(.long q0), (.long ((q0 &&& (9187201950435737471 : Int64)) + (9187201950435737471 : Int64)))])) (fun _ k => XS.lloadN X0.here hx rfl (hb hby d3_9) rfl  k) ?_
  refine Goes.step (S' := s₁.setTop (mkF m 11 #[.val (.long q0), .second] [(.long (((q0 &&& (9187201950435737471 : Int64)) + (9187201950435737471 : Int64)) ||| q0))])) (fun _ k => XS.lor X0.here hx rfl (hb hby d3_10) rfl k) ?_
  refine Goes.step (S' := s₁.setTop (mkF m 14 #[.val (.long q0), .second] [(.long (-1 : Int64)), (.long (((q0 &&& (9187201950435737471 : Int64)) + (9187201950435737471 : Int64)) ||| q0))])) (fun _ k => X0.ldc2Long hx hown (mvT hZ (hw _ (List.mem_of_getElem? (i := 14) rfl))) (g := (mkF m 11 #[.val (.long q0), .second] [(.long (((q0 &&& (9187201950435737471 : Int64)) + (9187201950435737471 : Int64)) ||| q0))])) rfl (hb hby d3_11) _ k) ?_
  refine Goes.step (S' := s₁.setTop (mkF m 15 #[.val (.long q0), .second] [(.long ((((q0 &&& (9187201950435737471 : Int64)) + (9187201950435737471 : Int64)) ||| q0) ^^^ (-1 : Int64)))])) (fun _ k => XS.lxor X0.here hx rfl (hb hby d3_14) rfl k) ?_
  refine Goes.step (S' := s₁.setTop (mkF m 18 #[.val (.long q0), .second] [(.long (-9187201950435737472 : Int64)), (.long ((((q0 &&& (9187201950435737471 : Int64)) + (9187201950435737471 : Int64)) ||| q0) ^^^ (-1 : Int64)))])) (fun _ k => X0.ldc2Long hx hown (mvT hZ (hw _ (List.mem_of_getElem? (i := 15) rfl))) (g := (mkF m 15 #[.val (.long q0), .second] [(.long ((((q0 &&& (9187201950435737471 : Int64)) + (9187201950435737471 : Int64)) ||| q0) ^^^ (-1 : Int64)))])) rfl (hb hby d3_15) _ k) ?_
  refine Goes.step (S' := s₁.setTop (mkF m 19 #[.val (.long q0), .second] [(.long (((((q0 &&& (9187201950435737471 : Int64)) + (9187201950435737471 : Int64)) ||| q0) ^^^ (-1 : Int64)) &&& (-9187201950435737472 : Int64)))])) (fun _ k => XS.land X0.here hx rfl (hb hby d3_18) rfl k) ?_
  refine Goes.retJ X0 hx Bd.notSynchronized Bd.returns (hb hby d3_19) (by decide) (by decide) ?_
  exact ⟨rfl, N0, e0⟩
def own_cat : List Nat → Nat
  | [] => 0
  | b :: r => b + 256 * own_cat r
theorem own_land (a b r s : Nat) (ha : a < 256) (hB : b < 256) : (a + 256 * r) &&& (b + 256 * s) = (a &&& b) + 256 * (r &&& s) := by
  have h1 : ((a + 256 * r) &&& (b + 256 * s)) % 2 ^ 8 = ((a + 256 * r) % 2 ^ 8) &&& ((b + 256 * s) % 2 ^ 8) := Nat.and_mod_two_pow
  have h2 : ((a + 256 * r) &&& (b + 256 * s)) / 2 ^ 8 = ((a + 256 * r) / 2 ^ 8) &&& ((b + 256 * s) / 2 ^ 8) := Nat.and_div_two_pow
  rw [show (a + 256 * r) % 2 ^ 8 = a by omega, show (b + 256 * s) % 2 ^ 8 = b by omega] at h1
  rw [show (a + 256 * r) / 2 ^ 8 = r by omega, show (b + 256 * s) / 2 ^ 8 = s by omega] at h2
  omega
theorem own_lor (a b r s : Nat) (ha : a < 256) (hB : b < 256) : (a + 256 * r) ||| (b + 256 * s) = (a ||| b) + 256 * (r ||| s) := by
  have h1 : ((a + 256 * r) ||| (b + 256 * s)) % 2 ^ 8 = ((a + 256 * r) % 2 ^ 8) ||| ((b + 256 * s) % 2 ^ 8) := Nat.or_mod_two_pow
  have h2 : ((a + 256 * r) ||| (b + 256 * s)) / 2 ^ 8 = ((a + 256 * r) / 2 ^ 8) ||| ((b + 256 * s) / 2 ^ 8) := Nat.or_div_two_pow
  rw [show (a + 256 * r) % 2 ^ 8 = a by omega, show (b + 256 * s) % 2 ^ 8 = b by omega] at h1
  rw [show (a + 256 * r) / 2 ^ 8 = r by omega, show (b + 256 * s) / 2 ^ 8 = s by omega] at h2
  omega
theorem own_lxor (a b r s : Nat) (ha : a < 256) (hB : b < 256) : (a + 256 * r) ^^^ (b + 256 * s) = (a ^^^ b) + 256 * (r ^^^ s) := by
  have h1 : ((a + 256 * r) ^^^ (b + 256 * s)) % 2 ^ 8 = ((a + 256 * r) % 2 ^ 8) ^^^ ((b + 256 * s) % 2 ^ 8) := Nat.xor_mod_two_pow
  have h2 : ((a + 256 * r) ^^^ (b + 256 * s)) / 2 ^ 8 = ((a + 256 * r) / 2 ^ 8) ^^^ ((b + 256 * s) / 2 ^ 8) := Nat.xor_div_two_pow
  rw [show (a + 256 * r) % 2 ^ 8 = a by omega, show (b + 256 * s) % 2 ^ 8 = b by omega] at h1
  rw [show (a + 256 * r) / 2 ^ 8 = r by omega, show (b + 256 * s) / 2 ^ 8 = s by omega] at h2
  omega
/-- the bytes of a list, all below 256 -/
def own_ok (l : List Nat) : Prop := ∀ x ∈ l, x < 256
theorem own_ok_cons {a : Nat} {l : List Nat} (h : own_ok (a :: l)) : a < 256 ∧ own_ok l := ⟨h a (List.mem_cons_self ..), fun x hx => h x (List.mem_cons_of_mem _ hx)⟩
theorem own_cat_and : ∀ (l m : List Nat), l.length = m.length → own_ok l → own_ok m → own_cat l &&& own_cat m = own_cat (List.zipWith (· &&& ·) l m)
  | [], [], _, _, _ => rfl
  | a :: l, b :: m, h, hl, hm => by
    have x := own_ok_cons hl
    have y := own_ok_cons hm
    show (a + 256 * own_cat l) &&& (b + 256 * own_cat m) = (a &&& b) + 256 * own_cat (List.zipWith (· &&& ·) l m)
    rw [own_land a b _ _ x.1 y.1, own_cat_and l m (by simpa using h) x.2 y.2]
theorem own_cat_or : ∀ (l m : List Nat), l.length = m.length → own_ok l → own_ok m → own_cat l ||| own_cat m = own_cat (List.zipWith (· ||| ·) l m)
  | [], [], _, _, _ => rfl
  | a :: l, b :: m, h, hl, hm => by
    have x := own_ok_cons hl
    have y := own_ok_cons hm
    show (a + 256 * own_cat l) ||| (b + 256 * own_cat m) = (a ||| b) + 256 * own_cat (List.zipWith (· ||| ·) l m)
    rw [own_lor a b _ _ x.1 y.1, own_cat_or l m (by simpa using h) x.2 y.2]
theorem own_cat_xor : ∀ (l m : List Nat), l.length = m.length → own_ok l → own_ok m → own_cat l ^^^ own_cat m = own_cat (List.zipWith (· ^^^ ·) l m)
  | [], [], _, _, _ => rfl
  | a :: l, b :: m, h, hl, hm => by
    have x := own_ok_cons hl
    have y := own_ok_cons hm
    show (a + 256 * own_cat l) ^^^ (b + 256 * own_cat m) = (a ^^^ b) + 256 * own_cat (List.zipWith (· ^^^ ·) l m)
    rw [own_lxor a b _ _ x.1 y.1, own_cat_xor l m (by simpa using h) x.2 y.2]
theorem own_cat_add : ∀ (l m : List Nat), l.length = m.length → own_cat l + own_cat m = own_cat (List.zipWith (· + ·) l m)
  | [], [], _ => rfl
  | a :: l, b :: m, h => by
    show (a + 256 * own_cat l) + (b + 256 * own_cat m) = (a + b) + 256 * own_cat (List.zipWith (· + ·) l m)
    rw [← own_cat_add l m (by simpa using h)]
    omega
def own_bs (N : Nat) : List Nat := [N % 256, N / 256 % 256, N / 65536 % 256, N / 16777216 % 256, N / 4294967296 % 256, N / 1099511627776 % 256, N / 281474976710656 % 256, N / 72057594037927936 % 256]
theorem own_bs_cat (N : Nat) (h : N < 18446744073709551616) : own_cat (own_bs N) = N := by
  show N % 256 + 256 * (N / 256 % 256 + 256 * (N / 65536 % 256 + 256 * (N / 16777216 % 256 + 256 * (N / 4294967296 % 256 + 256 * (N / 1099511627776 % 256 + 256 * (N / 281474976710656 % 256 + 256 * (N / 72057594037927936 % 256 + 256 * 0))))))) = N
  omega
theorem own_bs_ok (N : Nat) : own_ok (own_bs N) := by
  intro x hx
  simp only [own_bs, List.mem_cons, List.not_mem_nil, or_false] at hx
  rcases hx with rfl | rfl | rfl | rfl | rfl | rfl | rfl | rfl <;> exact Nat.mod_lt _ (by decide)
theorem own_ok8 {x0 x1 x2 x3 x4 x5 x6 x7 : Nat} (h0 : x0 < 256) (h1 : x1 < 256) (h2 : x2 < 256) (h3 : x3 < 256) (h4 : x4 < 256) (h5 : x5 < 256) (h6 : x6 < 256) (h7 : x7 < 256) : own_ok [x0, x1, x2, x3, x4, x5, x6, x7] := by
  intro x hx
  simp only [List.mem_cons, List.not_mem_nil, or_false] at hx
  rcases hx with rfl | rfl | rfl | rfl | rfl | rfl | rfl | rfl <;> assumption
theorem own_cat8 (x0 x1 x2 x3 x4 x5 x6 x7 : Nat) : own_cat [x0, x1, x2, x3, x4, x5, x6, x7] = x0 + 256 * (x1 + 256 * (x2 + 256 * (x3 + 256 * (x4 + 256 * (x5 + 256 * (x6 + 256 * x7)))))) := rfl
theorem own_lt8 {x0 x1 x2 x3 x4 x5 x6 x7 : Nat} (h0 : x0 < 256) (h1 : x1 < 256) (h2 : x2 < 256) (h3 : x3 < 256) (h4 : x4 < 256) (h5 : x5 < 256) (h6 : x6 < 256) (h7 : x7 < 256) : own_cat [x0, x1, x2, x3, x4, x5, x6, x7] < 18446744073709551616 := by
  rw [own_cat8]; omega
theorem own_and8 {x0 x1 x2 x3 x4 x5 x6 x7 : Nat} (y : Nat) (hy : y < 256) (h0 : x0 < 256) (h1 : x1 < 256) (h2 : x2 < 256) (h3 : x3 < 256) (h4 : x4 < 256) (h5 : x5 < 256) (h6 : x6 < 256) (h7 : x7 < 256) : own_cat [x0, x1, x2, x3, x4, x5, x6, x7] &&& own_cat [y, y, y, y, y, y, y, y] = own_cat [x0 &&& y, x1 &&& y, x2 &&& y, x3 &&& y, x4 &&& y, x5 &&& y, x6 &&& y, x7 &&& y] :=
  own_cat_and _ _ rfl (own_ok8 h0 h1 h2 h3 h4 h5 h6 h7) (own_ok8 hy hy hy hy hy hy hy hy)
theorem own_xor8 {x0 x1 x2 x3 x4 x5 x6 x7 : Nat} (y : Nat) (hy : y < 256) (h0 : x0 < 256) (h1 : x1 < 256) (h2 : x2 < 256) (h3 : x3 < 256) (h4 : x4 < 256) (h5 : x5 < 256) (h6 : x6 < 256) (h7 : x7 < 256) : own_cat [x0, x1, x2, x3, x4, x5, x6, x7] ^^^ own_cat [y, y, y, y, y, y, y, y] = own_cat [x0 ^^^ y, x1 ^^^ y, x2 ^^^ y, x3 ^^^ y, x4 ^^^ y, x5 ^^^ y, x6 ^^^ y, x7 ^^^ y] :=
  own_cat_xor _ _ rfl (own_ok8 h0 h1 h2 h3 h4 h5 h6 h7) (own_ok8 hy hy hy hy hy hy hy hy)
theorem own_u (d : Int64) : (d.toBitVec.toNat : Int) = d.toInt % 18446744073709551616 := by
  have h := d.toBitVec.isLt
  show (d.toBitVec.toNat : Int) = d.toBitVec.toInt % 18446744073709551616
  rw [BitVec.toInt_eq_toNat_cond]
  split <;> omega
theorem own_m255L (x : Int64) : (x &&& 255).toInt = x.toInt % 256 := c_maskL _ 255 8 (by decide) (by decide)
theorem own_shr0 (d : Int64) : ((d.toUInt64 >>> (((0 : Int32) <<< ((3 : Int32) &&& 31)) &&& 0x3f).toInt64.toUInt64).toInt64) = d := by
  rw [show (((0 : Int32) <<< ((3 : Int32) &&& 31)) &&& 0x3f).toInt64.toUInt64 = 0 by decide]
  simp
theorem own_c0 (d : Int64) : (((d.toUInt64 >>> (((0 : Int32) <<< ((3 : Int32) &&& 31)) &&& 0x3f).toInt64.toUInt64).toInt64) &&& (255 : Int64)) = (0 : Int64) ↔ d.toBitVec.toNat % 256 = 0 := by
  have u := own_u d
  rw [own_shr0]
  rw [← Int64.toInt_inj, own_m255L]
  simp only [Int64.reduceToInt]
  omega
theorem own_c1 (d : Int64) : (((d.toUInt64 >>> (((1 : Int32) <<< ((3 : Int32) &&& 31)) &&& 0x3f).toInt64.toUInt64).toInt64) &&& (255 : Int64)) = (0 : Int64) ↔ d.toBitVec.toNat / 256 % 256 = 0 := by
  have u := own_u d
  have s : ((d.toUInt64 >>> (((1 : Int32) <<< ((3 : Int32) &&& 31)) &&& 0x3f).toInt64.toUInt64).toInt64).toInt = (d.toInt % 18446744073709551616) / 256 := c_lushr d ((1 : Int32) <<< ((3 : Int32) &&& 31)) 8 (by decide) (by decide)
  rw [← Int64.toInt_inj, own_m255L]
  simp only [Int64.reduceToInt]
  omega
theorem own_c2 (d : Int64) : (((d.toUInt64 >>> (((2 : Int32) <<< ((3 : Int32) &&& 31)) &&& 0x3f).toInt64.toUInt64).toInt64) &&& (255 : Int64)) = (0 : Int64) ↔ d.toBitVec.toNat / 65536 % 256 = 0 := by
  have u := own_u d
  have s : ((d.toUInt64 >>> (((2 : Int32) <<< ((3 : Int32) &&& 31)) &&& 0x3f).toInt64.toUInt64).toInt64).toInt = (d.toInt % 18446744073709551616) / 65536 := c_lushr d ((2 : Int32) <<< ((3 : Int32) &&& 31)) 16 (by decide) (by decide)
  rw [← Int64.toInt_inj, own_m255L]
  simp only [Int64.reduceToInt]
  omega
theorem own_c3 (d : Int64) : (((d.toUInt64 >>> (((3 : Int32) <<< ((3 : Int32) &&& 31)) &&& 0x3f).toInt64.toUInt64).toInt64) &&& (255 : Int64)) = (0 : Int64) ↔ d.toBitVec.toNat / 16777216 % 256 = 0 := by
  have u := own_u d
  have s : ((d.toUInt64 >>> (((3 : Int32) <<< ((3 : Int32) &&& 31)) &&& 0x3f).toInt64.toUInt64).toInt64).toInt = (d.toInt % 18446744073709551616) / 16777216 := c_lushr d ((3 : Int32) <<< ((3 : Int32) &&& 31)) 24 (by decide) (by decide)
  rw [← Int64.toInt_inj, own_m255L]
  simp only [Int64.reduceToInt]
  omega
theorem own_c4 (d : Int64) : (((d.toUInt64 >>> (((4 : Int32) <<< ((3 : Int32) &&& 31)) &&& 0x3f).toInt64.toUInt64).toInt64) &&& (255 : Int64)) = (0 : Int64) ↔ d.toBitVec.toNat / 4294967296 % 256 = 0 := by
  have u := own_u d
  have s : ((d.toUInt64 >>> (((4 : Int32) <<< ((3 : Int32) &&& 31)) &&& 0x3f).toInt64.toUInt64).toInt64).toInt = (d.toInt % 18446744073709551616) / 4294967296 := c_lushr d ((4 : Int32) <<< ((3 : Int32) &&& 31)) 32 (by decide) (by decide)
  rw [← Int64.toInt_inj, own_m255L]
  simp only [Int64.reduceToInt]
  omega
theorem own_c5 (d : Int64) : (((d.toUInt64 >>> (((5 : Int32) <<< ((3 : Int32) &&& 31)) &&& 0x3f).toInt64.toUInt64).toInt64) &&& (255 : Int64)) = (0 : Int64) ↔ d.toBitVec.toNat / 1099511627776 % 256 = 0 := by
  have u := own_u d
  have s : ((d.toUInt64 >>> (((5 : Int32) <<< ((3 : Int32) &&& 31)) &&& 0x3f).toInt64.toUInt64).toInt64).toInt = (d.toInt % 18446744073709551616) / 1099511627776 := c_lushr d ((5 : Int32) <<< ((3 : Int32) &&& 31)) 40 (by decide) (by decide)
  rw [← Int64.toInt_inj, own_m255L]
  simp only [Int64.reduceToInt]
  omega
theorem own_c6 (d : Int64) : (((d.toUInt64 >>> (((6 : Int32) <<< ((3 : Int32) &&& 31)) &&& 0x3f).toInt64.toUInt64).toInt64) &&& (255 : Int64)) = (0 : Int64) ↔ d.toBitVec.toNat / 281474976710656 % 256 = 0 := by
  have u := own_u d
  have s : ((d.toUInt64 >>> (((6 : Int32) <<< ((3 : Int32) &&& 31)) &&& 0x3f).toInt64.toUInt64).toInt64).toInt = (d.toInt % 18446744073709551616) / 281474976710656 := c_lushr d ((6 : Int32) <<< ((3 : Int32) &&& 31)) 48 (by decide) (by decide)
  rw [← Int64.toInt_inj, own_m255L]
  simp only [Int64.reduceToInt]
  omega
theorem own_c7 (d : Int64) : (((d.toUInt64 >>> (((7 : Int32) <<< ((3 : Int32) &&& 31)) &&& 0x3f).toInt64.toUInt64).toInt64) &&& (255 : Int64)) = (0 : Int64) ↔ d.toBitVec.toNat / 72057594037927936 % 256 = 0 := by
  have u := own_u d
  have s : ((d.toUInt64 >>> (((7 : Int32) <<< ((3 : Int32) &&& 31)) &&& 0x3f).toInt64.toUInt64).toInt64).toInt = (d.toInt % 18446744073709551616) / 72057594037927936 := c_lushr d ((7 : Int32) <<< ((3 : Int32) &&& 31)) 56 (by decide) (by decide)
  rw [← Int64.toInt_inj, own_m255L]
  simp only [Int64.reduceToInt]
  omega
theorem own_phi (b : Nat) (h : b < 256) : ((((b &&& 127) + 127) ||| b) ^^^ 255) &&& 128 = if b = 0 then 128 else 0 := by
  have all : ∀ i : Fin 256, ((((i.1 &&& 127) + 127) ||| i.1) ^^^ 255) &&& 128 = if i.1 = 0 then 128 else 0 := by decide +kernel
  exact all ⟨b, h⟩
theorem own_b1 (b : Nat) : (b &&& 127) + 127 < 256 := by
  have : b &&& 127 ≤ 127 := Nat.and_le_right
  omega
theorem own_b2 (b : Nat) (h : b < 256) : ((b &&& 127) + 127) ||| b < 256 := Nat.or_lt_two_pow (n := 8) (own_b1 b) h
theorem own_b3 (b : Nat) (h : b < 256) : (((b &&& 127) + 127) ||| b) ^^^ 255 < 256 := Nat.xor_lt_two_pow (n := 8) (own_b2 b h) (by decide)
theorem own_zn {x0 x1 x2 x3 x4 x5 x6 x7 : Nat} (h0 : x0 < 256) (h1 : x1 < 256) (h2 : x2 < 256) (h3 : x3 < 256) (h4 : x4 < 256) (h5 : x5 < 256) (h6 : x6 < 256) (h7 : x7 < 256) : (((((own_cat [x0, x1, x2, x3, x4, x5, x6, x7] &&& own_cat [127, 127, 127, 127, 127, 127, 127, 127]) + own_cat [127, 127, 127, 127, 127, 127, 127, 127]) % 18446744073709551616) ||| own_cat [x0, x1, x2, x3, x4, x5, x6, x7]) ^^^ own_cat [255, 255, 255, 255, 255, 255, 255, 255]) &&& own_cat [128, 128, 128, 128, 128, 128, 128, 128] = own_cat [if x0 = 0 then 128 else 0, if x1 = 0 then 128 else 0, if x2 = 0 then 128 else 0, if x3 = 0 then 128 else 0, if x4 = 0 then 128 else 0, if x5 = 0 then 128 else 0, if x6 = 0 then 128 else 0, if x7 = 0 then 128 else 0] := by
  rw [own_and8 127 (by decide) h0 h1 h2 h3 h4 h5 h6 h7, own_cat_add [x0 &&& 127, x1 &&& 127, x2 &&& 127, x3 &&& 127, x4 &&& 127, x5 &&& 127, x6 &&& 127, x7 &&& 127] [127, 127, 127, 127, 127, 127, 127, 127] rfl]
  show (((own_cat [(x0 &&& 127) + 127, (x1 &&& 127) + 127, (x2 &&& 127) + 127, (x3 &&& 127) + 127, (x4 &&& 127) + 127, (x5 &&& 127) + 127, (x6 &&& 127) + 127, (x7 &&& 127) + 127] % 18446744073709551616) ||| own_cat [x0, x1, x2, x3, x4, x5, x6, x7]) ^^^ own_cat [255, 255, 255, 255, 255, 255, 255, 255]) &&& own_cat [128, 128, 128, 128, 128, 128, 128, 128] = own_cat [if x0 = 0 then 128 else 0, if x1 = 0 then 128 else 0, if x2 = 0 then 128 else 0, if x3 = 0 then 128 else 0, if x4 = 0 then 128 else 0, if x5 = 0 then 128 else 0, if x6 = 0 then 128 else 0, if x7 = 0 then 128 else 0]
  rw [Nat.mod_eq_of_lt (own_lt8 (own_b1 x0) (own_b1 x1) (own_b1 x2) (own_b1 x3) (own_b1 x4) (own_b1 x5) (own_b1 x6) (own_b1 x7))]
  rw [own_cat_or [(x0 &&& 127) + 127, (x1 &&& 127) + 127, (x2 &&& 127) + 127, (x3 &&& 127) + 127, (x4 &&& 127) + 127, (x5 &&& 127) + 127, (x6 &&& 127) + 127, (x7 &&& 127) + 127] [x0, x1, x2, x3, x4, x5, x6, x7] rfl (own_ok8 (own_b1 x0) (own_b1 x1) (own_b1 x2) (own_b1 x3) (own_b1 x4) (own_b1 x5) (own_b1 x6) (own_b1 x7)) (own_ok8 h0 h1 h2 h3 h4 h5 h6 h7)]
  show (own_cat [((x0 &&& 127) + 127) ||| x0, ((x1 &&& 127) + 127) ||| x1, ((x2 &&& 127) + 127) ||| x2, ((x3 &&& 127) + 127) ||| x3, ((x4 &&& 127) + 127) ||| x4, ((x5 &&& 127) + 127) ||| x5, ((x6 &&& 127) + 127) ||| x6, ((x7 &&& 127) + 127) ||| x7] ^^^ own_cat [255, 255, 255, 255, 255, 255, 255, 255]) &&& own_cat [128, 128, 128, 128, 128, 128, 128, 128] = own_cat [if x0 = 0 then 128 else 0, if x1 = 0 then 128 else 0, if x2 = 0 then 128 else 0, if x3 = 0 then 128 else 0, if x4 = 0 then 128 else 0, if x5 = 0 then 128 else 0, if x6 = 0 then 128 else 0, if x7 = 0 then 128 else 0]
  rw [own_xor8 255 (by decide) (own_b2 x0 h0) (own_b2 x1 h1) (own_b2 x2 h2) (own_b2 x3 h3) (own_b2 x4 h4) (own_b2 x5 h5) (own_b2 x6 h6) (own_b2 x7 h7)]
  rw [own_and8 128 (by decide) (own_b3 x0 h0) (own_b3 x1 h1) (own_b3 x2 h2) (own_b3 x3 h3) (own_b3 x4 h4) (own_b3 x5 h5) (own_b3 x6 h6) (own_b3 x7 h7)]
  rw [own_phi x0 h0, own_phi x1 h1, own_phi x2 h2, own_phi x3 h3, own_phi x4 h4, own_phi x5 h5, own_phi x6 h6, own_phi x7 h7]
theorem own_zeros (d : Int64) : (f3 d).toBitVec.toNat = own_cat [if d.toBitVec.toNat % 256 = 0 then 128 else 0, if d.toBitVec.toNat / 256 % 256 = 0 then 128 else 0, if d.toBitVec.toNat / 65536 % 256 = 0 then 128 else 0, if d.toBitVec.toNat / 16777216 % 256 = 0 then 128 else 0, if d.toBitVec.toNat / 4294967296 % 256 = 0 then 128 else 0, if d.toBitVec.toNat / 1099511627776 % 256 = 0 then 128 else 0, if d.toBitVec.toNat / 281474976710656 % 256 = 0 then 128 else 0, if d.toBitVec.toNat / 72057594037927936 % 256 = 0 then 128 else 0] := by
  have hN := d.toBitVec.isLt
  have e := own_bs_cat d.toBitVec.toNat hN
  show (((((d.toBitVec &&& (9187201950435737471 : Int64).toBitVec) + (9187201950435737471 : Int64).toBitVec) ||| d.toBitVec) ^^^ (-1 : Int64).toBitVec) &&& (-9187201950435737472 : Int64).toBitVec).toNat = _
  rw [BitVec.toNat_and, BitVec.toNat_xor, BitVec.toNat_or, BitVec.toNat_add, BitVec.toNat_and]
  rw [show ((9187201950435737471 : Int64).toBitVec).toNat = own_cat [127, 127, 127, 127, 127, 127, 127, 127] by decide, show ((-1 : Int64).toBitVec).toNat = own_cat [255, 255, 255, 255, 255, 255, 255, 255] by decide, show ((-9187201950435737472 : Int64).toBitVec).toNat = own_cat [128, 128, 128, 128, 128, 128, 128, 128] by decide]
  have g := own_zn (x0 := d.toBitVec.toNat % 256) (x1 := d.toBitVec.toNat / 256 % 256) (x2 := d.toBitVec.toNat / 65536 % 256) (x3 := d.toBitVec.toNat / 16777216 % 256) (x4 := d.toBitVec.toNat / 4294967296 % 256) (x5 := d.toBitVec.toNat / 1099511627776 % 256) (x6 := d.toBitVec.toNat / 281474976710656 % 256) (x7 := d.toBitVec.toNat / 72057594037927936 % 256) (Nat.mod_lt _ (by decide)) (Nat.mod_lt _ (by decide)) (Nat.mod_lt _ (by decide)) (Nat.mod_lt _ (by decide)) (Nat.mod_lt _ (by decide)) (Nat.mod_lt _ (by decide)) (Nat.mod_lt _ (by decide)) (Nat.mod_lt _ (by decide))
  rw [show own_cat [d.toBitVec.toNat % 256, d.toBitVec.toNat / 256 % 256, d.toBitVec.toNat / 65536 % 256, d.toBitVec.toNat / 16777216 % 256, d.toBitVec.toNat / 4294967296 % 256, d.toBitVec.toNat / 1099511627776 % 256, d.toBitVec.toNat / 281474976710656 % 256, d.toBitVec.toNat / 72057594037927936 % 256] = d.toBitVec.toNat from e] at g
  exact g
theorem own_top0 (d : Int64) : (f2 d (0 : Int32)).toBitVec.toNat = own_cat [if d.toBitVec.toNat % 256 = 0 then 128 else 0, 0, 0, 0, 0, 0, 0, 0] := by
  unfold f2
  by_cases h : d.toBitVec.toNat % 256 = 0
  · rw [if_pos ((own_c0 d).mpr h), if_pos h]; decide
  · rw [if_neg (fun q => h ((own_c0 d).mp q)), if_neg h]; decide
theorem own_top1 (d : Int64) : (f2 d (1 : Int32)).toBitVec.toNat = own_cat [0, if d.toBitVec.toNat / 256 % 256 = 0 then 128 else 0, 0, 0, 0, 0, 0, 0] := by
  unfold f2
  by_cases h : d.toBitVec.toNat / 256 % 256 = 0
  · rw [if_pos ((own_c1 d).mpr h), if_pos h]; decide
  · rw [if_neg (fun q => h ((own_c1 d).mp q)), if_neg h]; decide
theorem own_top2 (d : Int64) : (f2 d (2 : Int32)).toBitVec.toNat = own_cat [0, 0, if d.toBitVec.toNat / 65536 % 256 = 0 then 128 else 0, 0, 0, 0, 0, 0] := by
  unfold f2
  by_cases h : d.toBitVec.toNat / 65536 % 256 = 0
  · rw [if_pos ((own_c2 d).mpr h), if_pos h]; decide
  · rw [if_neg (fun q => h ((own_c2 d).mp q)), if_neg h]; decide
theorem own_top3 (d : Int64) : (f2 d (3 : Int32)).toBitVec.toNat = own_cat [0, 0, 0, if d.toBitVec.toNat / 16777216 % 256 = 0 then 128 else 0, 0, 0, 0, 0] := by
  unfold f2
  by_cases h : d.toBitVec.toNat / 16777216 % 256 = 0
  · rw [if_pos ((own_c3 d).mpr h), if_pos h]; decide
  · rw [if_neg (fun q => h ((own_c3 d).mp q)), if_neg h]; decide
theorem own_top4 (d : Int64) : (f2 d (4 : Int32)).toBitVec.toNat = own_cat [0, 0, 0, 0, if d.toBitVec.toNat / 4294967296 % 256 = 0 then 128 else 0, 0, 0, 0] := by
  unfold f2
  by_cases h : d.toBitVec.toNat / 4294967296 % 256 = 0
  · rw [if_pos ((own_c4 d).mpr h), if_pos h]; decide
  · rw [if_neg (fun q => h ((own_c4 d).mp q)), if_neg h]; decide
theorem own_top5 (d : Int64) : (f2 d (5 : Int32)).toBitVec.toNat = own_cat [0, 0, 0, 0, 0, if d.toBitVec.toNat / 1099511627776 % 256 = 0 then 128 else 0, 0, 0] := by
  unfold f2
  by_cases h : d.toBitVec.toNat / 1099511627776 % 256 = 0
  · rw [if_pos ((own_c5 d).mpr h), if_pos h]; decide
  · rw [if_neg (fun q => h ((own_c5 d).mp q)), if_neg h]; decide
theorem own_top6 (d : Int64) : (f2 d (6 : Int32)).toBitVec.toNat = own_cat [0, 0, 0, 0, 0, 0, if d.toBitVec.toNat / 281474976710656 % 256 = 0 then 128 else 0, 0] := by
  unfold f2
  by_cases h : d.toBitVec.toNat / 281474976710656 % 256 = 0
  · rw [if_pos ((own_c6 d).mpr h), if_pos h]; decide
  · rw [if_neg (fun q => h ((own_c6 d).mp q)), if_neg h]; decide
theorem own_top7 (d : Int64) : (f2 d (7 : Int32)).toBitVec.toNat = own_cat [0, 0, 0, 0, 0, 0, 0, if d.toBitVec.toNat / 72057594037927936 % 256 = 0 then 128 else 0] := by
  unfold f2
  by_cases h : d.toBitVec.toNat / 72057594037927936 % 256 = 0
  · rw [if_pos ((own_c7 d).mpr h), if_pos h]; decide
  · rw [if_neg (fun q => h ((own_c7 d).mp q)), if_neg h]; decide
theorem own_z8 {A B D : List Nat} (h : List.zipWith (· ||| ·) A B = D) (hl : A.length = B.length) (hA : own_ok A) (hB : own_ok B) : own_cat A ||| own_cat B = own_cat D := by
  rw [own_cat_or A B hl hA hB, h]
theorem own_tops {x0 x1 x2 x3 x4 x5 x6 x7 : Nat} (h0 : x0 < 256) (h1 : x1 < 256) (h2 : x2 < 256) (h3 : x3 < 256) (h4 : x4 < 256) (h5 : x5 < 256) (h6 : x6 < 256) (h7 : x7 < 256) : own_cat [x0, 0, 0, 0, 0, 0, 0, 0] ||| own_cat [0, x1, 0, 0, 0, 0, 0, 0] ||| own_cat [0, 0, x2, 0, 0, 0, 0, 0] ||| own_cat [0, 0, 0, x3, 0, 0, 0, 0] ||| own_cat [0, 0, 0, 0, x4, 0, 0, 0] ||| own_cat [0, 0, 0, 0, 0, x5, 0, 0] ||| own_cat [0, 0, 0, 0, 0, 0, x6, 0] ||| own_cat [0, 0, 0, 0, 0, 0, 0, x7] = own_cat [x0, x1, x2, x3, x4, x5, x6, x7] := by
  have z : 0 < 256 := by decide
  rw [own_z8 (A := [x0, 0, 0, 0, 0, 0, 0, 0]) (B := [0, x1, 0, 0, 0, 0, 0, 0]) (D := [x0, x1, 0, 0, 0, 0, 0, 0]) (by simp [List.zipWith]) rfl (own_ok8 h0 z z z z z z z) (own_ok8 z h1 z z z z z z)]
  rw [own_z8 (A := [x0, x1, 0, 0, 0, 0, 0, 0]) (B := [0, 0, x2, 0, 0, 0, 0, 0]) (D := [x0, x1, x2, 0, 0, 0, 0, 0]) (by simp [List.zipWith]) rfl (own_ok8 h0 h1 z z z z z z) (own_ok8 z z h2 z z z z z)]
  rw [own_z8 (A := [x0, x1, x2, 0, 0, 0, 0, 0]) (B := [0, 0, 0, x3, 0, 0, 0, 0]) (D := [x0, x1, x2, x3, 0, 0, 0, 0]) (by simp [List.zipWith]) rfl (own_ok8 h0 h1 h2 z z z z z) (own_ok8 z z z h3 z z z z)]
  rw [own_z8 (A := [x0, x1, x2, x3, 0, 0, 0, 0]) (B := [0, 0, 0, 0, x4, 0, 0, 0]) (D := [x0, x1, x2, x3, x4, 0, 0, 0]) (by simp [List.zipWith]) rfl (own_ok8 h0 h1 h2 h3 z z z z) (own_ok8 z z z z h4 z z z)]
  rw [own_z8 (A := [x0, x1, x2, x3, x4, 0, 0, 0]) (B := [0, 0, 0, 0, 0, x5, 0, 0]) (D := [x0, x1, x2, x3, x4, x5, 0, 0]) (by simp [List.zipWith]) rfl (own_ok8 h0 h1 h2 h3 h4 z z z) (own_ok8 z z z z z h5 z z)]
  rw [own_z8 (A := [x0, x1, x2, x3, x4, x5, 0, 0]) (B := [0, 0, 0, 0, 0, 0, x6, 0]) (D := [x0, x1, x2, x3, x4, x5, x6, 0]) (by simp [List.zipWith]) rfl (own_ok8 h0 h1 h2 h3 h4 h5 z z) (own_ok8 z z z z z z h6 z)]
  rw [own_z8 (A := [x0, x1, x2, x3, x4, x5, x6, 0]) (B := [0, 0, 0, 0, 0, 0, 0, x7]) (D := [x0, x1, x2, x3, x4, x5, x6, x7]) (by simp [List.zipWith]) rfl (own_ok8 h0 h1 h2 h3 h4 h5 h6 z) (own_ok8 z z z z z z z h7)]
theorem own_bit (b : Nat) : (if b = 0 then 128 else 0) < 256 := by split <;> decide
theorem pd0 : parseMethodDescriptor "(II)J" = some ⟨[.int, .int], some .long⟩ := by decide +kernel
theorem pd1 : parseMethodDescriptor "(JI)J" = some ⟨[.long, .int], some .long⟩ := by decide +kernel
theorem pd2 : parseMethodDescriptor "(J)J" = some ⟨[.long], some .long⟩ := by decide +kernel
theorem ef0 (m : MethodId) (q0 : Int64) (p1 : Int32) : entryFrame m #[(.long q0), (.int p1)] maxLocals = mkF m 0 #[.val (.long q0), .second, .val (.int p1), .unset, .unset, .unset, .unset, .unset, .unset] [] := by first | (simp [entryFrame, mkF, argsToLocals, Value.category, maxLocals]; done) | rfl
theorem own_hc0_122 (q0 : Int64) (p1 : Int32) (v3_49 : Int64) (ev3_49 : v3_49 = ((((((((f1 p1 (0 : Int32)) ||| (f1 p1 (1 : Int32))) ||| (f1 p1 (2 : Int32))) ||| (f1 p1 (3 : Int32))) ||| (f1 p1 (4 : Int32))) ||| (f1 p1 (5 : Int32))) ||| (f1 p1 (6 : Int32))) ||| (f1 p1 (7 : Int32)))) (v5_53 : Int64) (ev5_53 : v5_53 = (q0 &&& v3_49)) (v7_112 : Int64) (ev7_112 : v7_112 = ((((((((f2 v5_53 (0 : Int32)) ||| (f2 v5_53 (1 : Int32))) ||| (f2 v5_53 (2 : Int32))) ||| (f2 v5_53 (3 : Int32))) ||| (f2 v5_53 (4 : Int32))) ||| (f2 v5_53 (5 : Int32))) ||| (f2 v5_53 (6 : Int32))) ||| (f2 v5_53 (7 : Int32)))) : (f3 v5_53) = v7_112 := by
  apply Int64.toBitVec_inj.mp
  apply BitVec.eq_of_toNat_eq
  rw [own_zeros, ev7_112]
  clear ev7_112 ev5_53 ev3_49
  simp only [Int64.toBitVec_or, BitVec.toNat_or, own_top0, own_top1, own_top2, own_top3, own_top4, own_top5, own_top6, own_top7]
  exact (own_tops (own_bit _) (own_bit _) (own_bit _) (own_bit _) (own_bit _) (own_bit _) (own_bit _) (own_bit _)).symm
def Q0 (Z : State) (q0 : Int64) (p1 : Int32) (h0 : Heap) (n0 : Nat) (v : Option Value) (h : Heap) (L : List Loc) : Prop := v = some (.int 1) ∧ Fr n0 L
set_option maxRecDepth 65536 in
set_option maxHeartbeats 40000000 in
theorem rm0 (l : Launch) (Z : State) (a0 : Array Value) (hw : ∀ d ∈ tables_1, d.before a0 Z = true) (ws : List Jvm.Cond) (q0 : Int64) (p1 : Int32) (h0 : Heap) (n0 : Nat) (Z0 : n0 ≤ h0.size) :
    MetFree l x (head1 (Jvm.Cond.code x code maxLocals ret :: ws) room_1) (fun a U => a = #[(.long q0), (.int p1)] ∧ Z.Warmed39 U.vm ∧ U.heap = h0) (fun _ _ _ _ _ => True) (fun _ U o U' => ∃ v L, o = .returned v ∧ Q0 Z q0 p1 h0 n0 v U'.heap L ∧ FrameEnd U o U' L room_1.cells room_1.slots) := by
  refine MetFree.of_bodySF (plainFor_of_name pn0) hisR ?_
  intro p e s m args below meth c s₁ Bd hml0 hP hK
  obtain ⟨rfl, hZ, hh⟩ := hP
  have hx := Bd.exec
  have hby := Bd.bytes
  have hml : c.maxLocals = 9 := hml0
  have hown : s.vm.findClass "com/example/deft_match/deftmatch/SieveZerosPinLaw" = some m.cls := findClass_of_methodNamed Bd.named
  have hnm := (name_of_methodNamed Bd.named Bd.method).1
  have X0 : Stand p l e room_1 s m #[(.long q0), (.int p1)] below meth c s₁ [] 0 0 := Stand.of_body Bd
  have e0 : s₁.heap = h0 := by rw [← hh, Bd.state]; rfl
  have N0 := Fr.nil n0
  refine Goes.out (Q := fun o U' => ∃ v L, o = .returned v ∧ Q0 Z q0 p1 h0 n0 v U'.heap L ∧ FrameEnd s o U' L room_1.cells room_1.slots) ?_
  refine Goes.step (S' := s₁.setTop (mkF m 0 #[.val (.long q0), .second, .val (.int p1), .unset, .unset, .unset, .unset, .unset, .unset] [])) (fun _ k => castTop (ef0 m q0 p1) k) ?_
  refine Goes.step (S' := s₁.setTop (mkF m 1 #[.val (.long q0), .second, .val (.int p1), .unset, .unset, .unset, .unset, .unset, .unset] [(.int p1)])) (fun _ k => XS.iloadN X0.here hx rfl (hb hby at_0) rfl  k) ?_
  refine Goes.step (S' := s₁.setTop (mkF m 2 #[.val (.long q0), .second, .val (.int p1), .unset, .unset, .unset, .unset, .unset, .unset] [(.int (0 : Int32)), (.int p1)])) (fun _ k => XS.iconst X0.here hx rfl (hb hby at_1) k) ?_
  obtain ⟨_, _, ⟨T1, L1, k1, n1⟩, -, X1, ⟨Lc1, hQ1, l1, y1, z1⟩, st1⟩ := Jvm.LawKit.callS X0 hx (y := (⟨"com/example/deft_match/deftmatch/SieveZerosPinLaw", "keep", "(II)J"⟩ : MethodName)) hown (mvT hZ (hw _ (List.mem_of_getElem? (i := 0) rfl))) (mvT hZ (hw _ (List.mem_of_getElem? (i := 1) rfl))) (mvT hZ (hw _ (List.mem_of_getElem? (i := 2) rfl))) (mvT hZ (hw _ (List.mem_of_getElem? (i := 3) rfl))) (by decide) (backOf (W := 0) (rm1 l Z a0 hw [] p1 (0 : Int32) h0 n0 Z0) hZ (hw _ (List.mem_of_getElem? (i := 3) rfl)) (hw _ (List.mem_of_getElem? (i := 2) rfl)) (by decide) (by decide)) (g := (mkF m 2 #[.val (.long q0), .second, .val (.int p1), .unset, .unset, .unset, .unset, .unset, .unset] [(.int (0 : Int32)), (.int p1)])) rfl (by rw [hml]; rfl) (argsL := [(.int p1), (.int (0 : Int32))]) (rest := []) (lenOf pd0 rfl) rfl (by show 2 * 0 + _ ≤ _; exact Nat.le_of_eq rfl) (hb hby at_2) (fun _ _ => ⟨rfl, e0, (by decide : 0 + 0 ≤ _), (by decide : 0 + 0 ≤ _)⟩)
  dsimp only [Pt.U, Pt.locs, Pt.cells, Pt.slots] at X1 l1 y1 z1 st1 hQ1
  subst l1 y1 z1
  obtain ⟨rfl, N1q, e1⟩ := hQ1
  have N2 := Fr.app N0 N1q
  refine Goes.step (S' := T1.setTop (mkF m 5 #[.val (.long q0), .second, .val (.int p1), .unset, .unset, .unset, .unset, .unset, .unset] [(.long (f1 p1 (0 : Int32)))])) st1 ?_
  refine Goes.step (S' := T1.setTop (mkF m 6 #[.val (.long q0), .second, .val (.int p1), .unset, .unset, .unset, .unset, .unset, .unset] [(.int p1), (.long (f1 p1 (0 : Int32)))])) (fun _ k => XS.iloadN X1.here hx rfl (hb hby at_5) rfl  k) ?_
  refine Goes.step (S' := T1.setTop (mkF m 7 #[.val (.long q0), .second, .val (.int p1), .unset, .unset, .unset, .unset, .unset, .unset] [(.int (1 : Int32)), (.int p1), (.long (f1 p1 (0 : Int32)))])) (fun _ k => XS.iconst X1.here hx rfl (hb hby at_6) k) ?_
  obtain ⟨_, _, ⟨T3, L3, k3, n3⟩, -, X3, ⟨Lc3, hQ3, l3, y3, z3⟩, st3⟩ := Jvm.LawKit.callS X1 hx (y := (⟨"com/example/deft_match/deftmatch/SieveZerosPinLaw", "keep", "(II)J"⟩ : MethodName)) hown (mvT hZ (hw _ (List.mem_of_getElem? (i := 0) rfl))) (mvT hZ (hw _ (List.mem_of_getElem? (i := 1) rfl))) (mvT hZ (hw _ (List.mem_of_getElem? (i := 2) rfl))) (mvT hZ (hw _ (List.mem_of_getElem? (i := 3) rfl))) (by decide) (backOf (W := 2) (rm1 l Z a0 hw [] p1 (1 : Int32) h0 n0 Z0) hZ (hw _ (List.mem_of_getElem? (i := 3) rfl)) (hw _ (List.mem_of_getElem? (i := 2) rfl)) (by decide) (by decide)) (g := (mkF m 7 #[.val (.long q0), .second, .val (.int p1), .unset, .unset, .unset, .unset, .unset, .unset] [(.int (1 : Int32)), (.int p1), (.long (f1 p1 (0 : Int32)))])) rfl (by rw [hml]; rfl) (argsL := [(.int p1), (.int (1 : Int32))]) (rest := [(.long (f1 p1 (0 : Int32)))]) (lenOf pd0 rfl) rfl (by show 2 * 0 + _ ≤ _; exact Nat.le_of_eq rfl) (hb hby at_7) (fun _ _ => ⟨rfl, e1, (by decide : 0 + 0 ≤ _), (by decide : 0 + 0 ≤ _)⟩)
  dsimp only [Pt.U, Pt.locs, Pt.cells, Pt.slots] at X3 l3 y3 z3 st3 hQ3
  subst l3 y3 z3
  obtain ⟨rfl, N3q, e3⟩ := hQ3
  have N4 := Fr.app N2 N3q
  refine Goes.step (S' := T3.setTop (mkF m 10 #[.val (.long q0), .second, .val (.int p1), .unset, .unset, .unset, .unset, .unset, .unset] [(.long (f1 p1 (1 : Int32))), (.long (f1 p1 (0 : Int32)))])) st3 ?_
  refine Goes.step (S' := T3.setTop (mkF m 11 #[.val (.long q0), .second, .val (.int p1), .unset, .unset, .unset, .unset, .unset, .unset] [(.long ((f1 p1 (0 : Int32)) ||| (f1 p1 (1 : Int32))))])) (fun _ k => XS.lor X3.here hx rfl (hb hby at_10) rfl k) ?_
  refine Goes.step (S' := T3.setTop (mkF m 12 #[.val (.long q0), .second, .val (.int p1), .unset, .unset, .unset, .unset, .unset, .unset] [(.int p1), (.long ((f1 p1 (0 : Int32)) ||| (f1 p1 (1 : Int32))))])) (fun _ k => XS.iloadN X3.here hx rfl (hb hby at_11) rfl  k) ?_
  refine Goes.step (S' := T3.setTop (mkF m 13 #[.val (.long q0), .second, .val (.int p1), .unset, .unset, .unset, .unset, .unset, .unset] [(.int (2 : Int32)), (.int p1), (.long ((f1 p1 (0 : Int32)) ||| (f1 p1 (1 : Int32))))])) (fun _ k => XS.iconst X3.here hx rfl (hb hby at_12) k) ?_
  obtain ⟨_, _, ⟨T5, L5, k5, n5⟩, -, X5, ⟨Lc5, hQ5, l5, y5, z5⟩, st5⟩ := Jvm.LawKit.callS X3 hx (y := (⟨"com/example/deft_match/deftmatch/SieveZerosPinLaw", "keep", "(II)J"⟩ : MethodName)) hown (mvT hZ (hw _ (List.mem_of_getElem? (i := 0) rfl))) (mvT hZ (hw _ (List.mem_of_getElem? (i := 1) rfl))) (mvT hZ (hw _ (List.mem_of_getElem? (i := 2) rfl))) (mvT hZ (hw _ (List.mem_of_getElem? (i := 3) rfl))) (by decide) (backOf (W := 2) (rm1 l Z a0 hw [] p1 (2 : Int32) h0 n0 Z0) hZ (hw _ (List.mem_of_getElem? (i := 3) rfl)) (hw _ (List.mem_of_getElem? (i := 2) rfl)) (by decide) (by decide)) (g := (mkF m 13 #[.val (.long q0), .second, .val (.int p1), .unset, .unset, .unset, .unset, .unset, .unset] [(.int (2 : Int32)), (.int p1), (.long ((f1 p1 (0 : Int32)) ||| (f1 p1 (1 : Int32))))])) rfl (by rw [hml]; rfl) (argsL := [(.int p1), (.int (2 : Int32))]) (rest := [(.long ((f1 p1 (0 : Int32)) ||| (f1 p1 (1 : Int32))))]) (lenOf pd0 rfl) rfl (by show 2 * 0 + _ ≤ _; exact Nat.le_of_eq rfl) (hb hby at_13) (fun _ _ => ⟨rfl, e3, (by decide : 0 + 0 ≤ _), (by decide : 0 + 0 ≤ _)⟩)
  dsimp only [Pt.U, Pt.locs, Pt.cells, Pt.slots] at X5 l5 y5 z5 st5 hQ5
  subst l5 y5 z5
  obtain ⟨rfl, N5q, e5⟩ := hQ5
  have N6 := Fr.app N4 N5q
  refine Goes.step (S' := T5.setTop (mkF m 16 #[.val (.long q0), .second, .val (.int p1), .unset, .unset, .unset, .unset, .unset, .unset] [(.long (f1 p1 (2 : Int32))), (.long ((f1 p1 (0 : Int32)) ||| (f1 p1 (1 : Int32))))])) st5 ?_
  refine Goes.step (S' := T5.setTop (mkF m 17 #[.val (.long q0), .second, .val (.int p1), .unset, .unset, .unset, .unset, .unset, .unset] [(.long (((f1 p1 (0 : Int32)) ||| (f1 p1 (1 : Int32))) ||| (f1 p1 (2 : Int32))))])) (fun _ k => XS.lor X5.here hx rfl (hb hby at_16) rfl k) ?_
  refine Goes.step (S' := T5.setTop (mkF m 18 #[.val (.long q0), .second, .val (.int p1), .unset, .unset, .unset, .unset, .unset, .unset] [(.int p1), (.long (((f1 p1 (0 : Int32)) ||| (f1 p1 (1 : Int32))) ||| (f1 p1 (2 : Int32))))])) (fun _ k => XS.iloadN X5.here hx rfl (hb hby at_17) rfl  k) ?_
  refine Goes.step (S' := T5.setTop (mkF m 19 #[.val (.long q0), .second, .val (.int p1), .unset, .unset, .unset, .unset, .unset, .unset] [(.int (3 : Int32)), (.int p1), (.long (((f1 p1 (0 : Int32)) ||| (f1 p1 (1 : Int32))) ||| (f1 p1 (2 : Int32))))])) (fun _ k => XS.iconst X5.here hx rfl (hb hby at_18) k) ?_
  obtain ⟨_, _, ⟨T7, L7, k7, n7⟩, -, X7, ⟨Lc7, hQ7, l7, y7, z7⟩, st7⟩ := Jvm.LawKit.callS X5 hx (y := (⟨"com/example/deft_match/deftmatch/SieveZerosPinLaw", "keep", "(II)J"⟩ : MethodName)) hown (mvT hZ (hw _ (List.mem_of_getElem? (i := 0) rfl))) (mvT hZ (hw _ (List.mem_of_getElem? (i := 1) rfl))) (mvT hZ (hw _ (List.mem_of_getElem? (i := 2) rfl))) (mvT hZ (hw _ (List.mem_of_getElem? (i := 3) rfl))) (by decide) (backOf (W := 2) (rm1 l Z a0 hw [] p1 (3 : Int32) h0 n0 Z0) hZ (hw _ (List.mem_of_getElem? (i := 3) rfl)) (hw _ (List.mem_of_getElem? (i := 2) rfl)) (by decide) (by decide)) (g := (mkF m 19 #[.val (.long q0), .second, .val (.int p1), .unset, .unset, .unset, .unset, .unset, .unset] [(.int (3 : Int32)), (.int p1), (.long (((f1 p1 (0 : Int32)) ||| (f1 p1 (1 : Int32))) ||| (f1 p1 (2 : Int32))))])) rfl (by rw [hml]; rfl) (argsL := [(.int p1), (.int (3 : Int32))]) (rest := [(.long (((f1 p1 (0 : Int32)) ||| (f1 p1 (1 : Int32))) ||| (f1 p1 (2 : Int32))))]) (lenOf pd0 rfl) rfl (by show 2 * 0 + _ ≤ _; exact Nat.le_of_eq rfl) (hb hby at_19) (fun _ _ => ⟨rfl, e5, (by decide : 0 + 0 ≤ _), (by decide : 0 + 0 ≤ _)⟩)
  dsimp only [Pt.U, Pt.locs, Pt.cells, Pt.slots] at X7 l7 y7 z7 st7 hQ7
  subst l7 y7 z7
  obtain ⟨rfl, N7q, e7⟩ := hQ7
  have N8 := Fr.app N6 N7q
  refine Goes.step (S' := T7.setTop (mkF m 22 #[.val (.long q0), .second, .val (.int p1), .unset, .unset, .unset, .unset, .unset, .unset] [(.long (f1 p1 (3 : Int32))), (.long (((f1 p1 (0 : Int32)) ||| (f1 p1 (1 : Int32))) ||| (f1 p1 (2 : Int32))))])) st7 ?_
  refine Goes.step (S' := T7.setTop (mkF m 23 #[.val (.long q0), .second, .val (.int p1), .unset, .unset, .unset, .unset, .unset, .unset] [(.long ((((f1 p1 (0 : Int32)) ||| (f1 p1 (1 : Int32))) ||| (f1 p1 (2 : Int32))) ||| (f1 p1 (3 : Int32))))])) (fun _ k => XS.lor X7.here hx rfl (hb hby at_22) rfl k) ?_
  refine Goes.step (S' := T7.setTop (mkF m 24 #[.val (.long q0), .second, .val (.int p1), .unset, .unset, .unset, .unset, .unset, .unset] [(.int p1), (.long ((((f1 p1 (0 : Int32)) ||| (f1 p1 (1 : Int32))) ||| (f1 p1 (2 : Int32))) ||| (f1 p1 (3 : Int32))))])) (fun _ k => XS.iloadN X7.here hx rfl (hb hby at_23) rfl  k) ?_
  refine Goes.step (S' := T7.setTop (mkF m 25 #[.val (.long q0), .second, .val (.int p1), .unset, .unset, .unset, .unset, .unset, .unset] [(.int (4 : Int32)), (.int p1), (.long ((((f1 p1 (0 : Int32)) ||| (f1 p1 (1 : Int32))) ||| (f1 p1 (2 : Int32))) ||| (f1 p1 (3 : Int32))))])) (fun _ k => XS.iconst X7.here hx rfl (hb hby at_24) k) ?_
  obtain ⟨_, _, ⟨T9, L9, k9, n9⟩, -, X9, ⟨Lc9, hQ9, l9, y9, z9⟩, st9⟩ := Jvm.LawKit.callS X7 hx (y := (⟨"com/example/deft_match/deftmatch/SieveZerosPinLaw", "keep", "(II)J"⟩ : MethodName)) hown (mvT hZ (hw _ (List.mem_of_getElem? (i := 0) rfl))) (mvT hZ (hw _ (List.mem_of_getElem? (i := 1) rfl))) (mvT hZ (hw _ (List.mem_of_getElem? (i := 2) rfl))) (mvT hZ (hw _ (List.mem_of_getElem? (i := 3) rfl))) (by decide) (backOf (W := 2) (rm1 l Z a0 hw [] p1 (4 : Int32) h0 n0 Z0) hZ (hw _ (List.mem_of_getElem? (i := 3) rfl)) (hw _ (List.mem_of_getElem? (i := 2) rfl)) (by decide) (by decide)) (g := (mkF m 25 #[.val (.long q0), .second, .val (.int p1), .unset, .unset, .unset, .unset, .unset, .unset] [(.int (4 : Int32)), (.int p1), (.long ((((f1 p1 (0 : Int32)) ||| (f1 p1 (1 : Int32))) ||| (f1 p1 (2 : Int32))) ||| (f1 p1 (3 : Int32))))])) rfl (by rw [hml]; rfl) (argsL := [(.int p1), (.int (4 : Int32))]) (rest := [(.long ((((f1 p1 (0 : Int32)) ||| (f1 p1 (1 : Int32))) ||| (f1 p1 (2 : Int32))) ||| (f1 p1 (3 : Int32))))]) (lenOf pd0 rfl) rfl (by show 2 * 0 + _ ≤ _; exact Nat.le_of_eq rfl) (hb hby at_25) (fun _ _ => ⟨rfl, e7, (by decide : 0 + 0 ≤ _), (by decide : 0 + 0 ≤ _)⟩)
  dsimp only [Pt.U, Pt.locs, Pt.cells, Pt.slots] at X9 l9 y9 z9 st9 hQ9
  subst l9 y9 z9
  obtain ⟨rfl, N9q, e9⟩ := hQ9
  have N10 := Fr.app N8 N9q
  refine Goes.step (S' := T9.setTop (mkF m 28 #[.val (.long q0), .second, .val (.int p1), .unset, .unset, .unset, .unset, .unset, .unset] [(.long (f1 p1 (4 : Int32))), (.long ((((f1 p1 (0 : Int32)) ||| (f1 p1 (1 : Int32))) ||| (f1 p1 (2 : Int32))) ||| (f1 p1 (3 : Int32))))])) st9 ?_
  refine Goes.step (S' := T9.setTop (mkF m 29 #[.val (.long q0), .second, .val (.int p1), .unset, .unset, .unset, .unset, .unset, .unset] [(.long (((((f1 p1 (0 : Int32)) ||| (f1 p1 (1 : Int32))) ||| (f1 p1 (2 : Int32))) ||| (f1 p1 (3 : Int32))) ||| (f1 p1 (4 : Int32))))])) (fun _ k => XS.lor X9.here hx rfl (hb hby at_28) rfl k) ?_
  refine Goes.step (S' := T9.setTop (mkF m 30 #[.val (.long q0), .second, .val (.int p1), .unset, .unset, .unset, .unset, .unset, .unset] [(.int p1), (.long (((((f1 p1 (0 : Int32)) ||| (f1 p1 (1 : Int32))) ||| (f1 p1 (2 : Int32))) ||| (f1 p1 (3 : Int32))) ||| (f1 p1 (4 : Int32))))])) (fun _ k => XS.iloadN X9.here hx rfl (hb hby at_29) rfl  k) ?_
  refine Goes.step (S' := T9.setTop (mkF m 31 #[.val (.long q0), .second, .val (.int p1), .unset, .unset, .unset, .unset, .unset, .unset] [(.int (5 : Int32)), (.int p1), (.long (((((f1 p1 (0 : Int32)) ||| (f1 p1 (1 : Int32))) ||| (f1 p1 (2 : Int32))) ||| (f1 p1 (3 : Int32))) ||| (f1 p1 (4 : Int32))))])) (fun _ k => XS.iconst X9.here hx rfl (hb hby at_30) k) ?_
  obtain ⟨_, _, ⟨T11, L11, k11, n11⟩, -, X11, ⟨Lc11, hQ11, l11, y11, z11⟩, st11⟩ := Jvm.LawKit.callS X9 hx (y := (⟨"com/example/deft_match/deftmatch/SieveZerosPinLaw", "keep", "(II)J"⟩ : MethodName)) hown (mvT hZ (hw _ (List.mem_of_getElem? (i := 0) rfl))) (mvT hZ (hw _ (List.mem_of_getElem? (i := 1) rfl))) (mvT hZ (hw _ (List.mem_of_getElem? (i := 2) rfl))) (mvT hZ (hw _ (List.mem_of_getElem? (i := 3) rfl))) (by decide) (backOf (W := 2) (rm1 l Z a0 hw [] p1 (5 : Int32) h0 n0 Z0) hZ (hw _ (List.mem_of_getElem? (i := 3) rfl)) (hw _ (List.mem_of_getElem? (i := 2) rfl)) (by decide) (by decide)) (g := (mkF m 31 #[.val (.long q0), .second, .val (.int p1), .unset, .unset, .unset, .unset, .unset, .unset] [(.int (5 : Int32)), (.int p1), (.long (((((f1 p1 (0 : Int32)) ||| (f1 p1 (1 : Int32))) ||| (f1 p1 (2 : Int32))) ||| (f1 p1 (3 : Int32))) ||| (f1 p1 (4 : Int32))))])) rfl (by rw [hml]; rfl) (argsL := [(.int p1), (.int (5 : Int32))]) (rest := [(.long (((((f1 p1 (0 : Int32)) ||| (f1 p1 (1 : Int32))) ||| (f1 p1 (2 : Int32))) ||| (f1 p1 (3 : Int32))) ||| (f1 p1 (4 : Int32))))]) (lenOf pd0 rfl) rfl (by show 2 * 0 + _ ≤ _; exact Nat.le_of_eq rfl) (hb hby at_31) (fun _ _ => ⟨rfl, e9, (by decide : 0 + 0 ≤ _), (by decide : 0 + 0 ≤ _)⟩)
  dsimp only [Pt.U, Pt.locs, Pt.cells, Pt.slots] at X11 l11 y11 z11 st11 hQ11
  subst l11 y11 z11
  obtain ⟨rfl, N11q, e11⟩ := hQ11
  have N12 := Fr.app N10 N11q
  refine Goes.step (S' := T11.setTop (mkF m 34 #[.val (.long q0), .second, .val (.int p1), .unset, .unset, .unset, .unset, .unset, .unset] [(.long (f1 p1 (5 : Int32))), (.long (((((f1 p1 (0 : Int32)) ||| (f1 p1 (1 : Int32))) ||| (f1 p1 (2 : Int32))) ||| (f1 p1 (3 : Int32))) ||| (f1 p1 (4 : Int32))))])) st11 ?_
  refine Goes.step (S' := T11.setTop (mkF m 35 #[.val (.long q0), .second, .val (.int p1), .unset, .unset, .unset, .unset, .unset, .unset] [(.long ((((((f1 p1 (0 : Int32)) ||| (f1 p1 (1 : Int32))) ||| (f1 p1 (2 : Int32))) ||| (f1 p1 (3 : Int32))) ||| (f1 p1 (4 : Int32))) ||| (f1 p1 (5 : Int32))))])) (fun _ k => XS.lor X11.here hx rfl (hb hby at_34) rfl k) ?_
  refine Goes.step (S' := T11.setTop (mkF m 36 #[.val (.long q0), .second, .val (.int p1), .unset, .unset, .unset, .unset, .unset, .unset] [(.int p1), (.long ((((((f1 p1 (0 : Int32)) ||| (f1 p1 (1 : Int32))) ||| (f1 p1 (2 : Int32))) ||| (f1 p1 (3 : Int32))) ||| (f1 p1 (4 : Int32))) ||| (f1 p1 (5 : Int32))))])) (fun _ k => XS.iloadN X11.here hx rfl (hb hby at_35) rfl  k) ?_
  refine Goes.step (S' := T11.setTop (mkF m 38 #[.val (.long q0), .second, .val (.int p1), .unset, .unset, .unset, .unset, .unset, .unset] [(.int (6 : Int32)), (.int p1), (.long ((((((f1 p1 (0 : Int32)) ||| (f1 p1 (1 : Int32))) ||| (f1 p1 (2 : Int32))) ||| (f1 p1 (3 : Int32))) ||| (f1 p1 (4 : Int32))) ||| (f1 p1 (5 : Int32))))])) (fun _ k => XS.bipush X11.here hx rfl (hb hby at_36) k) ?_
  obtain ⟨_, _, ⟨T13, L13, k13, n13⟩, -, X13, ⟨Lc13, hQ13, l13, y13, z13⟩, st13⟩ := Jvm.LawKit.callS X11 hx (y := (⟨"com/example/deft_match/deftmatch/SieveZerosPinLaw", "keep", "(II)J"⟩ : MethodName)) hown (mvT hZ (hw _ (List.mem_of_getElem? (i := 0) rfl))) (mvT hZ (hw _ (List.mem_of_getElem? (i := 1) rfl))) (mvT hZ (hw _ (List.mem_of_getElem? (i := 2) rfl))) (mvT hZ (hw _ (List.mem_of_getElem? (i := 3) rfl))) (by decide) (backOf (W := 2) (rm1 l Z a0 hw [] p1 (6 : Int32) h0 n0 Z0) hZ (hw _ (List.mem_of_getElem? (i := 3) rfl)) (hw _ (List.mem_of_getElem? (i := 2) rfl)) (by decide) (by decide)) (g := (mkF m 38 #[.val (.long q0), .second, .val (.int p1), .unset, .unset, .unset, .unset, .unset, .unset] [(.int (6 : Int32)), (.int p1), (.long ((((((f1 p1 (0 : Int32)) ||| (f1 p1 (1 : Int32))) ||| (f1 p1 (2 : Int32))) ||| (f1 p1 (3 : Int32))) ||| (f1 p1 (4 : Int32))) ||| (f1 p1 (5 : Int32))))])) rfl (by rw [hml]; rfl) (argsL := [(.int p1), (.int (6 : Int32))]) (rest := [(.long ((((((f1 p1 (0 : Int32)) ||| (f1 p1 (1 : Int32))) ||| (f1 p1 (2 : Int32))) ||| (f1 p1 (3 : Int32))) ||| (f1 p1 (4 : Int32))) ||| (f1 p1 (5 : Int32))))]) (lenOf pd0 rfl) rfl (by show 2 * 0 + _ ≤ _; exact Nat.le_of_eq rfl) (hb hby at_38) (fun _ _ => ⟨rfl, e11, (by decide : 0 + 0 ≤ _), (by decide : 0 + 0 ≤ _)⟩)
  dsimp only [Pt.U, Pt.locs, Pt.cells, Pt.slots] at X13 l13 y13 z13 st13 hQ13
  subst l13 y13 z13
  obtain ⟨rfl, N13q, e13⟩ := hQ13
  have N14 := Fr.app N12 N13q
  refine Goes.step (S' := T13.setTop (mkF m 41 #[.val (.long q0), .second, .val (.int p1), .unset, .unset, .unset, .unset, .unset, .unset] [(.long (f1 p1 (6 : Int32))), (.long ((((((f1 p1 (0 : Int32)) ||| (f1 p1 (1 : Int32))) ||| (f1 p1 (2 : Int32))) ||| (f1 p1 (3 : Int32))) ||| (f1 p1 (4 : Int32))) ||| (f1 p1 (5 : Int32))))])) st13 ?_
  refine Goes.step (S' := T13.setTop (mkF m 42 #[.val (.long q0), .second, .val (.int p1), .unset, .unset, .unset, .unset, .unset, .unset] [(.long (((((((f1 p1 (0 : Int32)) ||| (f1 p1 (1 : Int32))) ||| (f1 p1 (2 : Int32))) ||| (f1 p1 (3 : Int32))) ||| (f1 p1 (4 : Int32))) ||| (f1 p1 (5 : Int32))) ||| (f1 p1 (6 : Int32))))])) (fun _ k => XS.lor X13.here hx rfl (hb hby at_41) rfl k) ?_
  refine Goes.step (S' := T13.setTop (mkF m 43 #[.val (.long q0), .second, .val (.int p1), .unset, .unset, .unset, .unset, .unset, .unset] [(.int p1), (.long (((((((f1 p1 (0 : Int32)) ||| (f1 p1 (1 : Int32))) ||| (f1 p1 (2 : Int32))) ||| (f1 p1 (3 : Int32))) ||| (f1 p1 (4 : Int32))) ||| (f1 p1 (5 : Int32))) ||| (f1 p1 (6 : Int32))))])) (fun _ k => XS.iloadN X13.here hx rfl (hb hby at_42) rfl  k) ?_
  refine Goes.step (S' := T13.setTop (mkF m 45 #[.val (.long q0), .second, .val (.int p1), .unset, .unset, .unset, .unset, .unset, .unset] [(.int (7 : Int32)), (.int p1), (.long (((((((f1 p1 (0 : Int32)) ||| (f1 p1 (1 : Int32))) ||| (f1 p1 (2 : Int32))) ||| (f1 p1 (3 : Int32))) ||| (f1 p1 (4 : Int32))) ||| (f1 p1 (5 : Int32))) ||| (f1 p1 (6 : Int32))))])) (fun _ k => XS.bipush X13.here hx rfl (hb hby at_43) k) ?_
  obtain ⟨_, _, ⟨T15, L15, k15, n15⟩, -, X15, ⟨Lc15, hQ15, l15, y15, z15⟩, st15⟩ := Jvm.LawKit.callS X13 hx (y := (⟨"com/example/deft_match/deftmatch/SieveZerosPinLaw", "keep", "(II)J"⟩ : MethodName)) hown (mvT hZ (hw _ (List.mem_of_getElem? (i := 0) rfl))) (mvT hZ (hw _ (List.mem_of_getElem? (i := 1) rfl))) (mvT hZ (hw _ (List.mem_of_getElem? (i := 2) rfl))) (mvT hZ (hw _ (List.mem_of_getElem? (i := 3) rfl))) (by decide) (backOf (W := 2) (rm1 l Z a0 hw [] p1 (7 : Int32) h0 n0 Z0) hZ (hw _ (List.mem_of_getElem? (i := 3) rfl)) (hw _ (List.mem_of_getElem? (i := 2) rfl)) (by decide) (by decide)) (g := (mkF m 45 #[.val (.long q0), .second, .val (.int p1), .unset, .unset, .unset, .unset, .unset, .unset] [(.int (7 : Int32)), (.int p1), (.long (((((((f1 p1 (0 : Int32)) ||| (f1 p1 (1 : Int32))) ||| (f1 p1 (2 : Int32))) ||| (f1 p1 (3 : Int32))) ||| (f1 p1 (4 : Int32))) ||| (f1 p1 (5 : Int32))) ||| (f1 p1 (6 : Int32))))])) rfl (by rw [hml]; rfl) (argsL := [(.int p1), (.int (7 : Int32))]) (rest := [(.long (((((((f1 p1 (0 : Int32)) ||| (f1 p1 (1 : Int32))) ||| (f1 p1 (2 : Int32))) ||| (f1 p1 (3 : Int32))) ||| (f1 p1 (4 : Int32))) ||| (f1 p1 (5 : Int32))) ||| (f1 p1 (6 : Int32))))]) (lenOf pd0 rfl) rfl (by show 2 * 0 + _ ≤ _; exact Nat.le_of_eq rfl) (hb hby at_45) (fun _ _ => ⟨rfl, e13, (by decide : 0 + 0 ≤ _), (by decide : 0 + 0 ≤ _)⟩)
  dsimp only [Pt.U, Pt.locs, Pt.cells, Pt.slots] at X15 l15 y15 z15 st15 hQ15
  subst l15 y15 z15
  obtain ⟨rfl, N15q, e15⟩ := hQ15
  have N16 := Fr.app N14 N15q
  refine Goes.step (S' := T15.setTop (mkF m 48 #[.val (.long q0), .second, .val (.int p1), .unset, .unset, .unset, .unset, .unset, .unset] [(.long (f1 p1 (7 : Int32))), (.long (((((((f1 p1 (0 : Int32)) ||| (f1 p1 (1 : Int32))) ||| (f1 p1 (2 : Int32))) ||| (f1 p1 (3 : Int32))) ||| (f1 p1 (4 : Int32))) ||| (f1 p1 (5 : Int32))) ||| (f1 p1 (6 : Int32))))])) st15 ?_
  refine Goes.step (S' := T15.setTop (mkF m 49 #[.val (.long q0), .second, .val (.int p1), .unset, .unset, .unset, .unset, .unset, .unset] [(.long ((((((((f1 p1 (0 : Int32)) ||| (f1 p1 (1 : Int32))) ||| (f1 p1 (2 : Int32))) ||| (f1 p1 (3 : Int32))) ||| (f1 p1 (4 : Int32))) ||| (f1 p1 (5 : Int32))) ||| (f1 p1 (6 : Int32))) ||| (f1 p1 (7 : Int32))))])) (fun _ k => XS.lor X15.here hx rfl (hb hby at_48) rfl k) ?_
  refine Goes.step (S' := T15.setTop (mkF m 50 #[.val (.long q0), .second, .val (.int p1), .val (.long ((((((((f1 p1 (0 : Int32)) ||| (f1 p1 (1 : Int32))) ||| (f1 p1 (2 : Int32))) ||| (f1 p1 (3 : Int32))) ||| (f1 p1 (4 : Int32))) ||| (f1 p1 (5 : Int32))) ||| (f1 p1 (6 : Int32))) ||| (f1 p1 (7 : Int32)))), .second, .unset, .unset, .unset, .unset] [])) (fun _ k => XS.lstoreN X15.here hx rfl (hb hby at_49) rfl (l' := #[.val (.long q0), .second, .val (.int p1), .val (.long ((((((((f1 p1 (0 : Int32)) ||| (f1 p1 (1 : Int32))) ||| (f1 p1 (2 : Int32))) ||| (f1 p1 (3 : Int32))) ||| (f1 p1 (4 : Int32))) ||| (f1 p1 (5 : Int32))) ||| (f1 p1 (6 : Int32))) ||| (f1 p1 (7 : Int32)))), .second, .unset, .unset, .unset, .unset]) rfl k) ?_
  obtain ⟨v3_49, ev3_49⟩ : ∃ z : Int64, z = ((((((((f1 p1 (0 : Int32)) ||| (f1 p1 (1 : Int32))) ||| (f1 p1 (2 : Int32))) ||| (f1 p1 (3 : Int32))) ||| (f1 p1 (4 : Int32))) ||| (f1 p1 (5 : Int32))) ||| (f1 p1 (6 : Int32))) ||| (f1 p1 (7 : Int32))) := ⟨_, rfl⟩
  rw [← ev3_49]
  refine Goes.step (S' := T15.setTop (mkF m 51 #[.val (.long q0), .second, .val (.int p1), .val (.long v3_49), .second, .unset, .unset, .unset, .unset] [(.long q0)])) (fun _ k => XS.lloadN X15.here hx rfl (hb hby at_50) rfl  k) ?_
  refine Goes.step (S' := T15.setTop (mkF m 52 #[.val (.long q0), .second, .val (.int p1), .val (.long v3_49), .second, .unset, .unset, .unset, .unset] [(.long v3_49), (.long q0)])) (fun _ k => XS.lloadN X15.here hx rfl (hb hby at_51) rfl  k) ?_
  refine Goes.step (S' := T15.setTop (mkF m 53 #[.val (.long q0), .second, .val (.int p1), .val (.long v3_49), .second, .unset, .unset, .unset, .unset] [(.long (q0 &&& v3_49))])) (fun _ k => XS.land X15.here hx rfl (hb hby at_52) rfl k) ?_
  refine Goes.step (S' := T15.setTop (mkF m 55 #[.val (.long q0), .second, .val (.int p1), .val (.long v3_49), .second, .val (.long (q0 &&& v3_49)), .second, .unset, .unset] [])) (fun _ k => XS.lstore X15.here hx rfl (hb hby at_53) rfl (l' := #[.val (.long q0), .second, .val (.int p1), .val (.long v3_49), .second, .val (.long (q0 &&& v3_49)), .second, .unset, .unset]) rfl k) ?_
  obtain ⟨v5_53, ev5_53⟩ : ∃ z : Int64, z = (q0 &&& v3_49) := ⟨_, rfl⟩
  rw [← ev5_53]
  refine Goes.step (S' := T15.setTop (mkF m 57 #[.val (.long q0), .second, .val (.int p1), .val (.long v3_49), .second, .val (.long v5_53), .second, .unset, .unset] [(.long v5_53)])) (fun _ k => XS.lload X15.here hx rfl (hb hby at_55) rfl  k) ?_
  refine Goes.step (S' := T15.setTop (mkF m 58 #[.val (.long q0), .second, .val (.int p1), .val (.long v3_49), .second, .val (.long v5_53), .second, .unset, .unset] [(.int (0 : Int32)), (.long v5_53)])) (fun _ k => XS.iconst X15.here hx rfl (hb hby at_57) k) ?_
  obtain ⟨_, _, ⟨T17, L17, k17, n17⟩, -, X17, ⟨Lc17, hQ17, l17, y17, z17⟩, st17⟩ := Jvm.LawKit.callS X15 hx (y := (⟨"com/example/deft_match/deftmatch/SieveZerosPinLaw", "top", "(JI)J"⟩ : MethodName)) hown (mvT hZ (hw _ (List.mem_of_getElem? (i := 5) rfl))) (mvT hZ (hw _ (List.mem_of_getElem? (i := 6) rfl))) (mvT hZ (hw _ (List.mem_of_getElem? (i := 2) rfl))) (mvT hZ (hw _ (List.mem_of_getElem? (i := 7) rfl))) (by decide) (backOf (W := 0) (rm2 l Z a0 hw [] v5_53 (0 : Int32) h0 n0 Z0) hZ (hw _ (List.mem_of_getElem? (i := 7) rfl)) (hw _ (List.mem_of_getElem? (i := 2) rfl)) (by decide) (by decide)) (g := (mkF m 58 #[.val (.long q0), .second, .val (.int p1), .val (.long v3_49), .second, .val (.long v5_53), .second, .unset, .unset] [(.int (0 : Int32)), (.long v5_53)])) rfl (by rw [hml]; rfl) (argsL := [(.long v5_53), (.int (0 : Int32))]) (rest := []) (lenOf pd1 rfl) rfl (by show 2 * 0 + _ ≤ _; exact Nat.le_of_eq rfl) (hb hby at_58) (fun _ _ => ⟨rfl, e15, (by decide : 0 + 0 ≤ _), (by decide : 0 + 0 ≤ _)⟩)
  dsimp only [Pt.U, Pt.locs, Pt.cells, Pt.slots] at X17 l17 y17 z17 st17 hQ17
  subst l17 y17 z17
  obtain ⟨rfl, N17q, e17⟩ := hQ17
  have N18 := Fr.app N16 N17q
  refine Goes.step (S' := T17.setTop (mkF m 61 #[.val (.long q0), .second, .val (.int p1), .val (.long v3_49), .second, .val (.long v5_53), .second, .unset, .unset] [(.long (f2 v5_53 (0 : Int32)))])) st17 ?_
  refine Goes.step (S' := T17.setTop (mkF m 63 #[.val (.long q0), .second, .val (.int p1), .val (.long v3_49), .second, .val (.long v5_53), .second, .unset, .unset] [(.long v5_53), (.long (f2 v5_53 (0 : Int32)))])) (fun _ k => XS.lload X17.here hx rfl (hb hby at_61) rfl  k) ?_
  refine Goes.step (S' := T17.setTop (mkF m 64 #[.val (.long q0), .second, .val (.int p1), .val (.long v3_49), .second, .val (.long v5_53), .second, .unset, .unset] [(.int (1 : Int32)), (.long v5_53), (.long (f2 v5_53 (0 : Int32)))])) (fun _ k => XS.iconst X17.here hx rfl (hb hby at_63) k) ?_
  obtain ⟨_, _, ⟨T19, L19, k19, n19⟩, -, X19, ⟨Lc19, hQ19, l19, y19, z19⟩, st19⟩ := Jvm.LawKit.callS X17 hx (y := (⟨"com/example/deft_match/deftmatch/SieveZerosPinLaw", "top", "(JI)J"⟩ : MethodName)) hown (mvT hZ (hw _ (List.mem_of_getElem? (i := 5) rfl))) (mvT hZ (hw _ (List.mem_of_getElem? (i := 6) rfl))) (mvT hZ (hw _ (List.mem_of_getElem? (i := 2) rfl))) (mvT hZ (hw _ (List.mem_of_getElem? (i := 7) rfl))) (by decide) (backOf (W := 2) (rm2 l Z a0 hw [] v5_53 (1 : Int32) h0 n0 Z0) hZ (hw _ (List.mem_of_getElem? (i := 7) rfl)) (hw _ (List.mem_of_getElem? (i := 2) rfl)) (by decide) (by decide)) (g := (mkF m 64 #[.val (.long q0), .second, .val (.int p1), .val (.long v3_49), .second, .val (.long v5_53), .second, .unset, .unset] [(.int (1 : Int32)), (.long v5_53), (.long (f2 v5_53 (0 : Int32)))])) rfl (by rw [hml]; rfl) (argsL := [(.long v5_53), (.int (1 : Int32))]) (rest := [(.long (f2 v5_53 (0 : Int32)))]) (lenOf pd1 rfl) rfl (by show 2 * 0 + _ ≤ _; exact Nat.le_of_eq rfl) (hb hby at_64) (fun _ _ => ⟨rfl, e17, (by decide : 0 + 0 ≤ _), (by decide : 0 + 0 ≤ _)⟩)
  dsimp only [Pt.U, Pt.locs, Pt.cells, Pt.slots] at X19 l19 y19 z19 st19 hQ19
  subst l19 y19 z19
  obtain ⟨rfl, N19q, e19⟩ := hQ19
  have N20 := Fr.app N18 N19q
  refine Goes.step (S' := T19.setTop (mkF m 67 #[.val (.long q0), .second, .val (.int p1), .val (.long v3_49), .second, .val (.long v5_53), .second, .unset, .unset] [(.long (f2 v5_53 (1 : Int32))), (.long (f2 v5_53 (0 : Int32)))])) st19 ?_
  refine Goes.step (S' := T19.setTop (mkF m 68 #[.val (.long q0), .second, .val (.int p1), .val (.long v3_49), .second, .val (.long v5_53), .second, .unset, .unset] [(.long ((f2 v5_53 (0 : Int32)) ||| (f2 v5_53 (1 : Int32))))])) (fun _ k => XS.lor X19.here hx rfl (hb hby at_67) rfl k) ?_
  refine Goes.step (S' := T19.setTop (mkF m 70 #[.val (.long q0), .second, .val (.int p1), .val (.long v3_49), .second, .val (.long v5_53), .second, .unset, .unset] [(.long v5_53), (.long ((f2 v5_53 (0 : Int32)) ||| (f2 v5_53 (1 : Int32))))])) (fun _ k => XS.lload X19.here hx rfl (hb hby at_68) rfl  k) ?_
  refine Goes.step (S' := T19.setTop (mkF m 71 #[.val (.long q0), .second, .val (.int p1), .val (.long v3_49), .second, .val (.long v5_53), .second, .unset, .unset] [(.int (2 : Int32)), (.long v5_53), (.long ((f2 v5_53 (0 : Int32)) ||| (f2 v5_53 (1 : Int32))))])) (fun _ k => XS.iconst X19.here hx rfl (hb hby at_70) k) ?_
  obtain ⟨_, _, ⟨T21, L21, k21, n21⟩, -, X21, ⟨Lc21, hQ21, l21, y21, z21⟩, st21⟩ := Jvm.LawKit.callS X19 hx (y := (⟨"com/example/deft_match/deftmatch/SieveZerosPinLaw", "top", "(JI)J"⟩ : MethodName)) hown (mvT hZ (hw _ (List.mem_of_getElem? (i := 5) rfl))) (mvT hZ (hw _ (List.mem_of_getElem? (i := 6) rfl))) (mvT hZ (hw _ (List.mem_of_getElem? (i := 2) rfl))) (mvT hZ (hw _ (List.mem_of_getElem? (i := 7) rfl))) (by decide) (backOf (W := 2) (rm2 l Z a0 hw [] v5_53 (2 : Int32) h0 n0 Z0) hZ (hw _ (List.mem_of_getElem? (i := 7) rfl)) (hw _ (List.mem_of_getElem? (i := 2) rfl)) (by decide) (by decide)) (g := (mkF m 71 #[.val (.long q0), .second, .val (.int p1), .val (.long v3_49), .second, .val (.long v5_53), .second, .unset, .unset] [(.int (2 : Int32)), (.long v5_53), (.long ((f2 v5_53 (0 : Int32)) ||| (f2 v5_53 (1 : Int32))))])) rfl (by rw [hml]; rfl) (argsL := [(.long v5_53), (.int (2 : Int32))]) (rest := [(.long ((f2 v5_53 (0 : Int32)) ||| (f2 v5_53 (1 : Int32))))]) (lenOf pd1 rfl) rfl (by show 2 * 0 + _ ≤ _; exact Nat.le_of_eq rfl) (hb hby at_71) (fun _ _ => ⟨rfl, e19, (by decide : 0 + 0 ≤ _), (by decide : 0 + 0 ≤ _)⟩)
  dsimp only [Pt.U, Pt.locs, Pt.cells, Pt.slots] at X21 l21 y21 z21 st21 hQ21
  subst l21 y21 z21
  obtain ⟨rfl, N21q, e21⟩ := hQ21
  have N22 := Fr.app N20 N21q
  refine Goes.step (S' := T21.setTop (mkF m 74 #[.val (.long q0), .second, .val (.int p1), .val (.long v3_49), .second, .val (.long v5_53), .second, .unset, .unset] [(.long (f2 v5_53 (2 : Int32))), (.long ((f2 v5_53 (0 : Int32)) ||| (f2 v5_53 (1 : Int32))))])) st21 ?_
  refine Goes.step (S' := T21.setTop (mkF m 75 #[.val (.long q0), .second, .val (.int p1), .val (.long v3_49), .second, .val (.long v5_53), .second, .unset, .unset] [(.long (((f2 v5_53 (0 : Int32)) ||| (f2 v5_53 (1 : Int32))) ||| (f2 v5_53 (2 : Int32))))])) (fun _ k => XS.lor X21.here hx rfl (hb hby at_74) rfl k) ?_
  refine Goes.step (S' := T21.setTop (mkF m 77 #[.val (.long q0), .second, .val (.int p1), .val (.long v3_49), .second, .val (.long v5_53), .second, .unset, .unset] [(.long v5_53), (.long (((f2 v5_53 (0 : Int32)) ||| (f2 v5_53 (1 : Int32))) ||| (f2 v5_53 (2 : Int32))))])) (fun _ k => XS.lload X21.here hx rfl (hb hby at_75) rfl  k) ?_
  refine Goes.step (S' := T21.setTop (mkF m 78 #[.val (.long q0), .second, .val (.int p1), .val (.long v3_49), .second, .val (.long v5_53), .second, .unset, .unset] [(.int (3 : Int32)), (.long v5_53), (.long (((f2 v5_53 (0 : Int32)) ||| (f2 v5_53 (1 : Int32))) ||| (f2 v5_53 (2 : Int32))))])) (fun _ k => XS.iconst X21.here hx rfl (hb hby at_77) k) ?_
  obtain ⟨_, _, ⟨T23, L23, k23, n23⟩, -, X23, ⟨Lc23, hQ23, l23, y23, z23⟩, st23⟩ := Jvm.LawKit.callS X21 hx (y := (⟨"com/example/deft_match/deftmatch/SieveZerosPinLaw", "top", "(JI)J"⟩ : MethodName)) hown (mvT hZ (hw _ (List.mem_of_getElem? (i := 5) rfl))) (mvT hZ (hw _ (List.mem_of_getElem? (i := 6) rfl))) (mvT hZ (hw _ (List.mem_of_getElem? (i := 2) rfl))) (mvT hZ (hw _ (List.mem_of_getElem? (i := 7) rfl))) (by decide) (backOf (W := 2) (rm2 l Z a0 hw [] v5_53 (3 : Int32) h0 n0 Z0) hZ (hw _ (List.mem_of_getElem? (i := 7) rfl)) (hw _ (List.mem_of_getElem? (i := 2) rfl)) (by decide) (by decide)) (g := (mkF m 78 #[.val (.long q0), .second, .val (.int p1), .val (.long v3_49), .second, .val (.long v5_53), .second, .unset, .unset] [(.int (3 : Int32)), (.long v5_53), (.long (((f2 v5_53 (0 : Int32)) ||| (f2 v5_53 (1 : Int32))) ||| (f2 v5_53 (2 : Int32))))])) rfl (by rw [hml]; rfl) (argsL := [(.long v5_53), (.int (3 : Int32))]) (rest := [(.long (((f2 v5_53 (0 : Int32)) ||| (f2 v5_53 (1 : Int32))) ||| (f2 v5_53 (2 : Int32))))]) (lenOf pd1 rfl) rfl (by show 2 * 0 + _ ≤ _; exact Nat.le_of_eq rfl) (hb hby at_78) (fun _ _ => ⟨rfl, e21, (by decide : 0 + 0 ≤ _), (by decide : 0 + 0 ≤ _)⟩)
  dsimp only [Pt.U, Pt.locs, Pt.cells, Pt.slots] at X23 l23 y23 z23 st23 hQ23
  subst l23 y23 z23
  obtain ⟨rfl, N23q, e23⟩ := hQ23
  have N24 := Fr.app N22 N23q
  refine Goes.step (S' := T23.setTop (mkF m 81 #[.val (.long q0), .second, .val (.int p1), .val (.long v3_49), .second, .val (.long v5_53), .second, .unset, .unset] [(.long (f2 v5_53 (3 : Int32))), (.long (((f2 v5_53 (0 : Int32)) ||| (f2 v5_53 (1 : Int32))) ||| (f2 v5_53 (2 : Int32))))])) st23 ?_
  refine Goes.step (S' := T23.setTop (mkF m 82 #[.val (.long q0), .second, .val (.int p1), .val (.long v3_49), .second, .val (.long v5_53), .second, .unset, .unset] [(.long ((((f2 v5_53 (0 : Int32)) ||| (f2 v5_53 (1 : Int32))) ||| (f2 v5_53 (2 : Int32))) ||| (f2 v5_53 (3 : Int32))))])) (fun _ k => XS.lor X23.here hx rfl (hb hby at_81) rfl k) ?_
  refine Goes.step (S' := T23.setTop (mkF m 84 #[.val (.long q0), .second, .val (.int p1), .val (.long v3_49), .second, .val (.long v5_53), .second, .unset, .unset] [(.long v5_53), (.long ((((f2 v5_53 (0 : Int32)) ||| (f2 v5_53 (1 : Int32))) ||| (f2 v5_53 (2 : Int32))) ||| (f2 v5_53 (3 : Int32))))])) (fun _ k => XS.lload X23.here hx rfl (hb hby at_82) rfl  k) ?_
  refine Goes.step (S' := T23.setTop (mkF m 85 #[.val (.long q0), .second, .val (.int p1), .val (.long v3_49), .second, .val (.long v5_53), .second, .unset, .unset] [(.int (4 : Int32)), (.long v5_53), (.long ((((f2 v5_53 (0 : Int32)) ||| (f2 v5_53 (1 : Int32))) ||| (f2 v5_53 (2 : Int32))) ||| (f2 v5_53 (3 : Int32))))])) (fun _ k => XS.iconst X23.here hx rfl (hb hby at_84) k) ?_
  obtain ⟨_, _, ⟨T25, L25, k25, n25⟩, -, X25, ⟨Lc25, hQ25, l25, y25, z25⟩, st25⟩ := Jvm.LawKit.callS X23 hx (y := (⟨"com/example/deft_match/deftmatch/SieveZerosPinLaw", "top", "(JI)J"⟩ : MethodName)) hown (mvT hZ (hw _ (List.mem_of_getElem? (i := 5) rfl))) (mvT hZ (hw _ (List.mem_of_getElem? (i := 6) rfl))) (mvT hZ (hw _ (List.mem_of_getElem? (i := 2) rfl))) (mvT hZ (hw _ (List.mem_of_getElem? (i := 7) rfl))) (by decide) (backOf (W := 2) (rm2 l Z a0 hw [] v5_53 (4 : Int32) h0 n0 Z0) hZ (hw _ (List.mem_of_getElem? (i := 7) rfl)) (hw _ (List.mem_of_getElem? (i := 2) rfl)) (by decide) (by decide)) (g := (mkF m 85 #[.val (.long q0), .second, .val (.int p1), .val (.long v3_49), .second, .val (.long v5_53), .second, .unset, .unset] [(.int (4 : Int32)), (.long v5_53), (.long ((((f2 v5_53 (0 : Int32)) ||| (f2 v5_53 (1 : Int32))) ||| (f2 v5_53 (2 : Int32))) ||| (f2 v5_53 (3 : Int32))))])) rfl (by rw [hml]; rfl) (argsL := [(.long v5_53), (.int (4 : Int32))]) (rest := [(.long ((((f2 v5_53 (0 : Int32)) ||| (f2 v5_53 (1 : Int32))) ||| (f2 v5_53 (2 : Int32))) ||| (f2 v5_53 (3 : Int32))))]) (lenOf pd1 rfl) rfl (by show 2 * 0 + _ ≤ _; exact Nat.le_of_eq rfl) (hb hby at_85) (fun _ _ => ⟨rfl, e23, (by decide : 0 + 0 ≤ _), (by decide : 0 + 0 ≤ _)⟩)
  dsimp only [Pt.U, Pt.locs, Pt.cells, Pt.slots] at X25 l25 y25 z25 st25 hQ25
  subst l25 y25 z25
  obtain ⟨rfl, N25q, e25⟩ := hQ25
  have N26 := Fr.app N24 N25q
  refine Goes.step (S' := T25.setTop (mkF m 88 #[.val (.long q0), .second, .val (.int p1), .val (.long v3_49), .second, .val (.long v5_53), .second, .unset, .unset] [(.long (f2 v5_53 (4 : Int32))), (.long ((((f2 v5_53 (0 : Int32)) ||| (f2 v5_53 (1 : Int32))) ||| (f2 v5_53 (2 : Int32))) ||| (f2 v5_53 (3 : Int32))))])) st25 ?_
  refine Goes.step (S' := T25.setTop (mkF m 89 #[.val (.long q0), .second, .val (.int p1), .val (.long v3_49), .second, .val (.long v5_53), .second, .unset, .unset] [(.long (((((f2 v5_53 (0 : Int32)) ||| (f2 v5_53 (1 : Int32))) ||| (f2 v5_53 (2 : Int32))) ||| (f2 v5_53 (3 : Int32))) ||| (f2 v5_53 (4 : Int32))))])) (fun _ k => XS.lor X25.here hx rfl (hb hby at_88) rfl k) ?_
  refine Goes.step (S' := T25.setTop (mkF m 91 #[.val (.long q0), .second, .val (.int p1), .val (.long v3_49), .second, .val (.long v5_53), .second, .unset, .unset] [(.long v5_53), (.long (((((f2 v5_53 (0 : Int32)) ||| (f2 v5_53 (1 : Int32))) ||| (f2 v5_53 (2 : Int32))) ||| (f2 v5_53 (3 : Int32))) ||| (f2 v5_53 (4 : Int32))))])) (fun _ k => XS.lload X25.here hx rfl (hb hby at_89) rfl  k) ?_
  refine Goes.step (S' := T25.setTop (mkF m 92 #[.val (.long q0), .second, .val (.int p1), .val (.long v3_49), .second, .val (.long v5_53), .second, .unset, .unset] [(.int (5 : Int32)), (.long v5_53), (.long (((((f2 v5_53 (0 : Int32)) ||| (f2 v5_53 (1 : Int32))) ||| (f2 v5_53 (2 : Int32))) ||| (f2 v5_53 (3 : Int32))) ||| (f2 v5_53 (4 : Int32))))])) (fun _ k => XS.iconst X25.here hx rfl (hb hby at_91) k) ?_
  obtain ⟨_, _, ⟨T27, L27, k27, n27⟩, -, X27, ⟨Lc27, hQ27, l27, y27, z27⟩, st27⟩ := Jvm.LawKit.callS X25 hx (y := (⟨"com/example/deft_match/deftmatch/SieveZerosPinLaw", "top", "(JI)J"⟩ : MethodName)) hown (mvT hZ (hw _ (List.mem_of_getElem? (i := 5) rfl))) (mvT hZ (hw _ (List.mem_of_getElem? (i := 6) rfl))) (mvT hZ (hw _ (List.mem_of_getElem? (i := 2) rfl))) (mvT hZ (hw _ (List.mem_of_getElem? (i := 7) rfl))) (by decide) (backOf (W := 2) (rm2 l Z a0 hw [] v5_53 (5 : Int32) h0 n0 Z0) hZ (hw _ (List.mem_of_getElem? (i := 7) rfl)) (hw _ (List.mem_of_getElem? (i := 2) rfl)) (by decide) (by decide)) (g := (mkF m 92 #[.val (.long q0), .second, .val (.int p1), .val (.long v3_49), .second, .val (.long v5_53), .second, .unset, .unset] [(.int (5 : Int32)), (.long v5_53), (.long (((((f2 v5_53 (0 : Int32)) ||| (f2 v5_53 (1 : Int32))) ||| (f2 v5_53 (2 : Int32))) ||| (f2 v5_53 (3 : Int32))) ||| (f2 v5_53 (4 : Int32))))])) rfl (by rw [hml]; rfl) (argsL := [(.long v5_53), (.int (5 : Int32))]) (rest := [(.long (((((f2 v5_53 (0 : Int32)) ||| (f2 v5_53 (1 : Int32))) ||| (f2 v5_53 (2 : Int32))) ||| (f2 v5_53 (3 : Int32))) ||| (f2 v5_53 (4 : Int32))))]) (lenOf pd1 rfl) rfl (by show 2 * 0 + _ ≤ _; exact Nat.le_of_eq rfl) (hb hby at_92) (fun _ _ => ⟨rfl, e25, (by decide : 0 + 0 ≤ _), (by decide : 0 + 0 ≤ _)⟩)
  dsimp only [Pt.U, Pt.locs, Pt.cells, Pt.slots] at X27 l27 y27 z27 st27 hQ27
  subst l27 y27 z27
  obtain ⟨rfl, N27q, e27⟩ := hQ27
  have N28 := Fr.app N26 N27q
  refine Goes.step (S' := T27.setTop (mkF m 95 #[.val (.long q0), .second, .val (.int p1), .val (.long v3_49), .second, .val (.long v5_53), .second, .unset, .unset] [(.long (f2 v5_53 (5 : Int32))), (.long (((((f2 v5_53 (0 : Int32)) ||| (f2 v5_53 (1 : Int32))) ||| (f2 v5_53 (2 : Int32))) ||| (f2 v5_53 (3 : Int32))) ||| (f2 v5_53 (4 : Int32))))])) st27 ?_
  refine Goes.step (S' := T27.setTop (mkF m 96 #[.val (.long q0), .second, .val (.int p1), .val (.long v3_49), .second, .val (.long v5_53), .second, .unset, .unset] [(.long ((((((f2 v5_53 (0 : Int32)) ||| (f2 v5_53 (1 : Int32))) ||| (f2 v5_53 (2 : Int32))) ||| (f2 v5_53 (3 : Int32))) ||| (f2 v5_53 (4 : Int32))) ||| (f2 v5_53 (5 : Int32))))])) (fun _ k => XS.lor X27.here hx rfl (hb hby at_95) rfl k) ?_
  refine Goes.step (S' := T27.setTop (mkF m 98 #[.val (.long q0), .second, .val (.int p1), .val (.long v3_49), .second, .val (.long v5_53), .second, .unset, .unset] [(.long v5_53), (.long ((((((f2 v5_53 (0 : Int32)) ||| (f2 v5_53 (1 : Int32))) ||| (f2 v5_53 (2 : Int32))) ||| (f2 v5_53 (3 : Int32))) ||| (f2 v5_53 (4 : Int32))) ||| (f2 v5_53 (5 : Int32))))])) (fun _ k => XS.lload X27.here hx rfl (hb hby at_96) rfl  k) ?_
  refine Goes.step (S' := T27.setTop (mkF m 100 #[.val (.long q0), .second, .val (.int p1), .val (.long v3_49), .second, .val (.long v5_53), .second, .unset, .unset] [(.int (6 : Int32)), (.long v5_53), (.long ((((((f2 v5_53 (0 : Int32)) ||| (f2 v5_53 (1 : Int32))) ||| (f2 v5_53 (2 : Int32))) ||| (f2 v5_53 (3 : Int32))) ||| (f2 v5_53 (4 : Int32))) ||| (f2 v5_53 (5 : Int32))))])) (fun _ k => XS.bipush X27.here hx rfl (hb hby at_98) k) ?_
  obtain ⟨_, _, ⟨T29, L29, k29, n29⟩, -, X29, ⟨Lc29, hQ29, l29, y29, z29⟩, st29⟩ := Jvm.LawKit.callS X27 hx (y := (⟨"com/example/deft_match/deftmatch/SieveZerosPinLaw", "top", "(JI)J"⟩ : MethodName)) hown (mvT hZ (hw _ (List.mem_of_getElem? (i := 5) rfl))) (mvT hZ (hw _ (List.mem_of_getElem? (i := 6) rfl))) (mvT hZ (hw _ (List.mem_of_getElem? (i := 2) rfl))) (mvT hZ (hw _ (List.mem_of_getElem? (i := 7) rfl))) (by decide) (backOf (W := 2) (rm2 l Z a0 hw [] v5_53 (6 : Int32) h0 n0 Z0) hZ (hw _ (List.mem_of_getElem? (i := 7) rfl)) (hw _ (List.mem_of_getElem? (i := 2) rfl)) (by decide) (by decide)) (g := (mkF m 100 #[.val (.long q0), .second, .val (.int p1), .val (.long v3_49), .second, .val (.long v5_53), .second, .unset, .unset] [(.int (6 : Int32)), (.long v5_53), (.long ((((((f2 v5_53 (0 : Int32)) ||| (f2 v5_53 (1 : Int32))) ||| (f2 v5_53 (2 : Int32))) ||| (f2 v5_53 (3 : Int32))) ||| (f2 v5_53 (4 : Int32))) ||| (f2 v5_53 (5 : Int32))))])) rfl (by rw [hml]; rfl) (argsL := [(.long v5_53), (.int (6 : Int32))]) (rest := [(.long ((((((f2 v5_53 (0 : Int32)) ||| (f2 v5_53 (1 : Int32))) ||| (f2 v5_53 (2 : Int32))) ||| (f2 v5_53 (3 : Int32))) ||| (f2 v5_53 (4 : Int32))) ||| (f2 v5_53 (5 : Int32))))]) (lenOf pd1 rfl) rfl (by show 2 * 0 + _ ≤ _; exact Nat.le_of_eq rfl) (hb hby at_100) (fun _ _ => ⟨rfl, e27, (by decide : 0 + 0 ≤ _), (by decide : 0 + 0 ≤ _)⟩)
  dsimp only [Pt.U, Pt.locs, Pt.cells, Pt.slots] at X29 l29 y29 z29 st29 hQ29
  subst l29 y29 z29
  obtain ⟨rfl, N29q, e29⟩ := hQ29
  have N30 := Fr.app N28 N29q
  refine Goes.step (S' := T29.setTop (mkF m 103 #[.val (.long q0), .second, .val (.int p1), .val (.long v3_49), .second, .val (.long v5_53), .second, .unset, .unset] [(.long (f2 v5_53 (6 : Int32))), (.long ((((((f2 v5_53 (0 : Int32)) ||| (f2 v5_53 (1 : Int32))) ||| (f2 v5_53 (2 : Int32))) ||| (f2 v5_53 (3 : Int32))) ||| (f2 v5_53 (4 : Int32))) ||| (f2 v5_53 (5 : Int32))))])) st29 ?_
  refine Goes.step (S' := T29.setTop (mkF m 104 #[.val (.long q0), .second, .val (.int p1), .val (.long v3_49), .second, .val (.long v5_53), .second, .unset, .unset] [(.long (((((((f2 v5_53 (0 : Int32)) ||| (f2 v5_53 (1 : Int32))) ||| (f2 v5_53 (2 : Int32))) ||| (f2 v5_53 (3 : Int32))) ||| (f2 v5_53 (4 : Int32))) ||| (f2 v5_53 (5 : Int32))) ||| (f2 v5_53 (6 : Int32))))])) (fun _ k => XS.lor X29.here hx rfl (hb hby at_103) rfl k) ?_
  refine Goes.step (S' := T29.setTop (mkF m 106 #[.val (.long q0), .second, .val (.int p1), .val (.long v3_49), .second, .val (.long v5_53), .second, .unset, .unset] [(.long v5_53), (.long (((((((f2 v5_53 (0 : Int32)) ||| (f2 v5_53 (1 : Int32))) ||| (f2 v5_53 (2 : Int32))) ||| (f2 v5_53 (3 : Int32))) ||| (f2 v5_53 (4 : Int32))) ||| (f2 v5_53 (5 : Int32))) ||| (f2 v5_53 (6 : Int32))))])) (fun _ k => XS.lload X29.here hx rfl (hb hby at_104) rfl  k) ?_
  refine Goes.step (S' := T29.setTop (mkF m 108 #[.val (.long q0), .second, .val (.int p1), .val (.long v3_49), .second, .val (.long v5_53), .second, .unset, .unset] [(.int (7 : Int32)), (.long v5_53), (.long (((((((f2 v5_53 (0 : Int32)) ||| (f2 v5_53 (1 : Int32))) ||| (f2 v5_53 (2 : Int32))) ||| (f2 v5_53 (3 : Int32))) ||| (f2 v5_53 (4 : Int32))) ||| (f2 v5_53 (5 : Int32))) ||| (f2 v5_53 (6 : Int32))))])) (fun _ k => XS.bipush X29.here hx rfl (hb hby at_106) k) ?_
  obtain ⟨_, _, ⟨T31, L31, k31, n31⟩, -, X31, ⟨Lc31, hQ31, l31, y31, z31⟩, st31⟩ := Jvm.LawKit.callS X29 hx (y := (⟨"com/example/deft_match/deftmatch/SieveZerosPinLaw", "top", "(JI)J"⟩ : MethodName)) hown (mvT hZ (hw _ (List.mem_of_getElem? (i := 5) rfl))) (mvT hZ (hw _ (List.mem_of_getElem? (i := 6) rfl))) (mvT hZ (hw _ (List.mem_of_getElem? (i := 2) rfl))) (mvT hZ (hw _ (List.mem_of_getElem? (i := 7) rfl))) (by decide) (backOf (W := 2) (rm2 l Z a0 hw [] v5_53 (7 : Int32) h0 n0 Z0) hZ (hw _ (List.mem_of_getElem? (i := 7) rfl)) (hw _ (List.mem_of_getElem? (i := 2) rfl)) (by decide) (by decide)) (g := (mkF m 108 #[.val (.long q0), .second, .val (.int p1), .val (.long v3_49), .second, .val (.long v5_53), .second, .unset, .unset] [(.int (7 : Int32)), (.long v5_53), (.long (((((((f2 v5_53 (0 : Int32)) ||| (f2 v5_53 (1 : Int32))) ||| (f2 v5_53 (2 : Int32))) ||| (f2 v5_53 (3 : Int32))) ||| (f2 v5_53 (4 : Int32))) ||| (f2 v5_53 (5 : Int32))) ||| (f2 v5_53 (6 : Int32))))])) rfl (by rw [hml]; rfl) (argsL := [(.long v5_53), (.int (7 : Int32))]) (rest := [(.long (((((((f2 v5_53 (0 : Int32)) ||| (f2 v5_53 (1 : Int32))) ||| (f2 v5_53 (2 : Int32))) ||| (f2 v5_53 (3 : Int32))) ||| (f2 v5_53 (4 : Int32))) ||| (f2 v5_53 (5 : Int32))) ||| (f2 v5_53 (6 : Int32))))]) (lenOf pd1 rfl) rfl (by show 2 * 0 + _ ≤ _; exact Nat.le_of_eq rfl) (hb hby at_108) (fun _ _ => ⟨rfl, e29, (by decide : 0 + 0 ≤ _), (by decide : 0 + 0 ≤ _)⟩)
  dsimp only [Pt.U, Pt.locs, Pt.cells, Pt.slots] at X31 l31 y31 z31 st31 hQ31
  subst l31 y31 z31
  obtain ⟨rfl, N31q, e31⟩ := hQ31
  have N32 := Fr.app N30 N31q
  refine Goes.step (S' := T31.setTop (mkF m 111 #[.val (.long q0), .second, .val (.int p1), .val (.long v3_49), .second, .val (.long v5_53), .second, .unset, .unset] [(.long (f2 v5_53 (7 : Int32))), (.long (((((((f2 v5_53 (0 : Int32)) ||| (f2 v5_53 (1 : Int32))) ||| (f2 v5_53 (2 : Int32))) ||| (f2 v5_53 (3 : Int32))) ||| (f2 v5_53 (4 : Int32))) ||| (f2 v5_53 (5 : Int32))) ||| (f2 v5_53 (6 : Int32))))])) st31 ?_
  refine Goes.step (S' := T31.setTop (mkF m 112 #[.val (.long q0), .second, .val (.int p1), .val (.long v3_49), .second, .val (.long v5_53), .second, .unset, .unset] [(.long ((((((((f2 v5_53 (0 : Int32)) ||| (f2 v5_53 (1 : Int32))) ||| (f2 v5_53 (2 : Int32))) ||| (f2 v5_53 (3 : Int32))) ||| (f2 v5_53 (4 : Int32))) ||| (f2 v5_53 (5 : Int32))) ||| (f2 v5_53 (6 : Int32))) ||| (f2 v5_53 (7 : Int32))))])) (fun _ k => XS.lor X31.here hx rfl (hb hby at_111) rfl k) ?_
  refine Goes.step (S' := T31.setTop (mkF m 114 #[.val (.long q0), .second, .val (.int p1), .val (.long v3_49), .second, .val (.long v5_53), .second, .val (.long ((((((((f2 v5_53 (0 : Int32)) ||| (f2 v5_53 (1 : Int32))) ||| (f2 v5_53 (2 : Int32))) ||| (f2 v5_53 (3 : Int32))) ||| (f2 v5_53 (4 : Int32))) ||| (f2 v5_53 (5 : Int32))) ||| (f2 v5_53 (6 : Int32))) ||| (f2 v5_53 (7 : Int32)))), .second] [])) (fun _ k => XS.lstore X31.here hx rfl (hb hby at_112) rfl (l' := #[.val (.long q0), .second, .val (.int p1), .val (.long v3_49), .second, .val (.long v5_53), .second, .val (.long ((((((((f2 v5_53 (0 : Int32)) ||| (f2 v5_53 (1 : Int32))) ||| (f2 v5_53 (2 : Int32))) ||| (f2 v5_53 (3 : Int32))) ||| (f2 v5_53 (4 : Int32))) ||| (f2 v5_53 (5 : Int32))) ||| (f2 v5_53 (6 : Int32))) ||| (f2 v5_53 (7 : Int32)))), .second]) rfl k) ?_
  obtain ⟨v7_112, ev7_112⟩ : ∃ z : Int64, z = ((((((((f2 v5_53 (0 : Int32)) ||| (f2 v5_53 (1 : Int32))) ||| (f2 v5_53 (2 : Int32))) ||| (f2 v5_53 (3 : Int32))) ||| (f2 v5_53 (4 : Int32))) ||| (f2 v5_53 (5 : Int32))) ||| (f2 v5_53 (6 : Int32))) ||| (f2 v5_53 (7 : Int32))) := ⟨_, rfl⟩
  rw [← ev7_112]
  refine Goes.step (S' := T31.setTop (mkF m 116 #[.val (.long q0), .second, .val (.int p1), .val (.long v3_49), .second, .val (.long v5_53), .second, .val (.long v7_112), .second] [(.long v5_53)])) (fun _ k => XS.lload X31.here hx rfl (hb hby at_114) rfl  k) ?_
  obtain ⟨_, _, ⟨T33, L33, k33, n33⟩, -, X33, ⟨Lc33, hQ33, l33, y33, z33⟩, st33⟩ := Jvm.LawKit.callS X31 hx (y := (⟨"com/example/deft_match/deftmatch/Sieve", "zeros", "(J)J"⟩ : MethodName)) hown (mvT hZ (hw _ (List.mem_of_getElem? (i := 9) rfl))) (mvT hZ (hw _ (List.mem_of_getElem? (i := 10) rfl))) (mvT hZ (hw _ (List.mem_of_getElem? (i := 11) rfl))) (mvT hZ (hw _ (List.mem_of_getElem? (i := 12) rfl))) (by decide) (backOf (W := 0) (rm3 l Z a0 hw [] v5_53 h0 n0 Z0) hZ (hw _ (List.mem_of_getElem? (i := 12) rfl)) (hw _ (List.mem_of_getElem? (i := 11) rfl)) (by decide) (by decide)) (g := (mkF m 116 #[.val (.long q0), .second, .val (.int p1), .val (.long v3_49), .second, .val (.long v5_53), .second, .val (.long v7_112), .second] [(.long v5_53)])) rfl (by rw [hml]; rfl) (argsL := [(.long v5_53)]) (rest := []) (lenOf pd2 rfl) rfl (by show 2 * 0 + _ ≤ _; exact Nat.le_of_eq rfl) (hb hby at_116) (fun _ _ => ⟨rfl, e31, (by decide : 0 + 0 ≤ _), (by decide : 0 + 0 ≤ _)⟩)
  dsimp only [Pt.U, Pt.locs, Pt.cells, Pt.slots] at X33 l33 y33 z33 st33 hQ33
  subst l33 y33 z33
  obtain ⟨rfl, N33q, e33⟩ := hQ33
  have N34 := Fr.app N32 N33q
  refine Goes.step (S' := T33.setTop (mkF m 119 #[.val (.long q0), .second, .val (.int p1), .val (.long v3_49), .second, .val (.long v5_53), .second, .val (.long v7_112), .second] [(.long (f3 v5_53))])) st33 ?_
  refine Goes.step (S' := T33.setTop (mkF m 121 #[.val (.long q0), .second, .val (.int p1), .val (.long v3_49), .second, .val (.long v5_53), .second, .val (.long v7_112), .second] [(.long v7_112), (.long (f3 v5_53))])) (fun _ k => XS.lload X33.here hx rfl (hb hby at_119) rfl  k) ?_
  refine Goes.step (S' := T33.setTop (mkF m 122 #[.val (.long q0), .second, .val (.int p1), .val (.long v3_49), .second, .val (.long v5_53), .second, .val (.long v7_112), .second] [(.int (lcmpW (f3 v5_53) v7_112))])) (fun _ k => XS.lcmp X33.here hx rfl (hb hby at_121) rfl k) ?_
  refine Goes.step (S' := T33.setTop (mkF m 125 #[.val (.long q0), .second, .val (.int p1), .val (.long v3_49), .second, .val (.long v5_53), .second, .val (.long v7_112), .second] [])) (fun _ k => XS.ifNo X33.here hx rfl (hb hby at_122) rfl ((if0 _ _).trans (teq ((lw_eq (f3 v5_53) v7_112).mpr (own_hc0_122 q0 p1 v3_49 ev3_49 v5_53 ev5_53 v7_112 ev7_112))).2) k) ?_
  refine Goes.step (S' := T33.setTop (mkF m 126 #[.val (.long q0), .second, .val (.int p1), .val (.long v3_49), .second, .val (.long v5_53), .second, .val (.long v7_112), .second] [(.int (1 : Int32))])) (fun _ k => XS.iconst X33.here hx rfl (hb hby at_125) k) ?_
  refine Goes.step (S' := T33.setTop (mkF m 130 #[.val (.long q0), .second, .val (.int p1), .val (.long v3_49), .second, .val (.long v5_53), .second, .val (.long v7_112), .second] [(.int (1 : Int32))])) (fun _ k => XS.goto X33.here hx rfl (pc0 := 126) (pc' := 130) rfl (hb hby at_126) (by decide) (by decide) k) ?_
  refine Goes.retN X33 hx Bd.notSynchronized (t := .boolean) Bd.returns (by simp) (hb hby at_130) (by decide) (by decide) ?_
  exact ⟨rfl, N34⟩
set_option maxRecDepth 65536 in
set_option maxHeartbeats 40000000 in
theorem comes_1 {Post : Tables → Env → Array Value → State → Outcome → State → Prop} (hpost : ∀ tb e args s v u, (limb_1_1.after args s (.returned v) u = true ∧ limb_1_2.after args s (.returned v) u = true ∧ True) → FrameEnd s (.returned v) u (Jvm.fieldLocs frame_1_writes args s ++ Jvm.arrayLocs frame_1_arrays args s ++ Jvm.staticLocs frame_1_statics s) 0 0 → Post tb e args s (.returned v) u) :
    ArmFor flags0 classFile x code maxLocals ret World_1 tables_1 room_1 Calls_1 rest_1 Pre_1 Post := by
  intro l hfl _ _ p e ha hc hk s m args below hf hA hF happ hP
  obtain ⟨hcalls, hrest, hpre⟩ := hP
  obtain ⟨-, -, -, hnamed, -, -, -, hat⟩ := (Spec.applies_iff hf).mp happ
  obtain ⟨hg, hn⟩ := and_e (Cond.before_iff.mp (show (Jvm.Cond.and given_1 narrow_1).before args s = true from hpre))
  obtain ⟨gg1, gg2⟩ := and_e hg
  obtain ⟨gg3, gg4⟩ := and_e gg2
  obtain ⟨w0, w1, rfl⟩ : ∃ w0 w1 : Value, args = #[w0, w1] := by
    have hs : args.size = 2 := by simpa [Cond.value, given_1] using gg1
    obtain ⟨L⟩ := args
    match L, hs with
    | [w0, w1], _ => exact ⟨w0, w1, rfl⟩
  have hw := fun d (hd : d ∈ tables_1) => atoms_spec (ws := Jvm.Cond.code x code maxLocals ret :: tables_1) hat d (List.mem_cons_of_mem _ hd)
  obtain ⟨i0, ei0⟩ := isL_v gg3
  obtain rfl : w0 = (.long i0) := Option.some.inj ei0
  obtain ⟨i1, ei1⟩ := is_v gg4
  obtain rfl : w1 = (.int i1) := Option.some.inj ei1
  obtain ⟨n, o, h1, h2, h3, _, L, rfl, ⟨rfl, N⟩, hq⟩ := rm0 l s _ hw tables_1 i0 i1 s.heap s.heap.size (Nat.le_refl _) p e ha hc hk s m _ below hf ((Spec.applies_iff_loose hf).mp happ).1 ⟨rfl, State.Warmed39.refl s, rfl⟩ trivial
  refine ⟨n, _, h1, h2, h3, hpost _ _ _ _ _ _ ⟨Cond.after_iff.mpr rfl, Cond.after_iff.mpr (eq_i res_at (Term.int_eval (1)) rfl), trivial⟩ ⟨hq.1, hq.2.1, (hq.2.2.sift fun y hy => Or.inr (N y hy)).mono (by decide) (by decide)⟩⟩
theorem main_1_1 : Claimed_1_1 := comes_1 fun _ _ _ _ _ _ h hF => ⟨h.1, hF⟩
theorem main_1_2 : Claimed_1_2 := comes_1 fun _ _ _ _ _ _ h hF => ⟨h.2.1, hF⟩
end Jvm.Pilot.@@N@@
namespace Jvm.Pilot.@@N@@
open Jvm Jvm.ClassFile Sem Op Lib Jvm.Free Jvm.Stand Jvm.Pilot.@@N@@.Jvm.D
/-! MADE BY PROGRAM (witnessworld.py) out of the Statement's table words and the real class files: 9 classes; the members and pool entries that the words name. The judged class is class 1, her method 3. -/
namespace start1
open Jvm.ClassFile
def u (s : String) : CpInfo := .utf8 (stringToUtf16 s)
/-- a pool by its gaps: so many unusable entries, then the entry; so many at the end -/
def gap : Nat → List CpInfo → List CpInfo
  | 0, r => r
  | n + 1, r => .unusable :: gap n r
def poolList (es : List (Nat × CpInfo)) (last : Nat) : List CpInfo := es.foldr (fun e r => gap e.1 (e.2 :: r)) (gap last [])
def pool (es : List (Nat × CpInfo)) (last : Nat) : Array CpInfo := ⟨poolList es last⟩
def fileOf (pool : Array CpInfo) (this : Nat) (attrs : Array Attribute := #[]) (ms : Array MethodInfo := #[]) (fl : Nat := 33) (sup : Nat := 0) (ifs : Array Nat := #[]) (fds : Array FieldInfo := #[]) : ClassFile where
  minorVersion := 0
  majorVersion := 65
  constantPool := pool
  accessFlags := fl
  thisClass := this
  superClass := sup
  interfaces := ifs
  fields := fds
  methods := ms
  attributes := attrs
def plain (name : String) (sup : Option ClassId) : Class where
  name := name
  kind := .ordinary
  loader := none
  accessFlags := 33
  super := sup
  interfaces := #[]
  cf := none
  fields := #[]
  methods := #[]
  instanceTypes := #[]
  staticTypes := #[]
  resolved := #[]
  callSites := []
  init := .initialized
  statics := none
  mirror := none

def pool0 : Array CpInfo := pool [(5, u "<init>"), (0, u "()V"), (1, .class_ 10), (1, u "java/lang/Object")] 113

def k0m0 : Method := { name := "<init>", desc := "()V", sig := { parameters := [], returnType := none }, accessFlags := 1, code := none }
/-- java/lang/Object -/
def k0 : Class := { plain "java/lang/Object" none with
  accessFlags := 33
  interfaces := #[]
  cf := some (fileOf pool0 8 #[] #[{ accessFlags := 1, nameIndex := 5, descriptorIndex := 6, attributes := #[] }] 33 0 #[] #[])
  fields := #[]
  methods := #[k0m0]
  instanceTypes := #[]
  staticTypes := #[]
  resolved := Array.replicate 124 none
  statics := none }

def pool1 : Array CpInfo := pool [(2, .class_ 4), (1, u "java/lang/Object"), (0, u "<init>"), (0, u "()V"), (0, .long 255), (1, .long 128), (1, .methodref 12 13), (0, .class_ 14), (0, .nameAndType 15 16), (0, u "com/example/deft_match/deftmatch/SieveZerosPinLaw"), (0, u "keep"), (0, u "(II)J"), (0, .methodref 12 18), (0, .nameAndType 19 20), (0, u "top"), (0, u "(JI)J"), (0, .methodref 22 23), (0, .class_ 24), (0, .nameAndType 25 26), (0, u "com/example/deft_match/deftmatch/Sieve"), (0, u "zeros"), (0, u "(J)J"), (3, u "law"), (0, u "(JI)Z")] 2

def k1m0 : Method := { name := "<init>", desc := "()V", sig := { parameters := [], returnType := none }, accessFlags := 1, code := none }
def k1c1 : Code := { maxStack := 4, maxLocals := 2, code := method_2_code, exceptionTable := #[], attributes := #[] }
def k1m1 : Method := { name := "keep", desc := "(II)J", sig := { parameters := [.int, .int], returnType := some .long }, accessFlags := 10, code := some k1c1 }
def k1c2 : Code := { maxStack := 4, maxLocals := 3, code := method_3_code, exceptionTable := #[], attributes := #[] }
def k1m2 : Method := { name := "top", desc := "(JI)J", sig := { parameters := [.long, .int], returnType := some .long }, accessFlags := 10, code := some k1c2 }
def k1c3 : Code := { maxStack := 5, maxLocals := 9, code := code, exceptionTable := #[], attributes := #[] }
def k1m3 : Method := { name := "law", desc := "(JI)Z", sig := { parameters := [.long, .int], returnType := some .boolean }, accessFlags := 9, code := some k1c3 }
/-- com/example/deft_match/deftmatch/SieveZerosPinLaw -/
def k1 : Class := { plain "com/example/deft_match/deftmatch/SieveZerosPinLaw" (some 0) with
  accessFlags := 49
  interfaces := #[]
  cf := some (fileOf pool1 12 #[] #[{ accessFlags := 1, nameIndex := 5, descriptorIndex := 6, attributes := #[] }, { accessFlags := 10, nameIndex := 15, descriptorIndex := 16, attributes := #[] }, { accessFlags := 10, nameIndex := 19, descriptorIndex := 20, attributes := #[] }, { accessFlags := 9, nameIndex := 30, descriptorIndex := 31, attributes := #[] }] 49 2 #[] #[])
  fields := #[]
  methods := #[k1m0, k1m1, k1m2, k1m3]
  instanceTypes := #[]
  staticTypes := #[]
  resolved := Array.replicate 34 none
  statics := none }

def pool2 : Array CpInfo := pool [(1, .class_ 2), (0, u "com/example/deft_match/deftmatch/Sieve"), (1, .class_ 6), (1, u "java/lang/Object"), (3, u "[J"), (2, u "lanes"), (0, u "[[J"), (4, u "views"), (0, u "[Ljava/nio/LongBuffer;"), (2, u "offsets"), (0, u "[I"), (2, u "values"), (2, u "text"), (0, u "Lcom/example/deft_match/deftmatch/IndexedText;"), (2, u "pattern"), (0, u "Ljava/lang/String;"), (2, u "open"), (0, u "Z"), (4, u "length"), (9, u "reach"), (0, u "I"), (2, u "tail"), (5, u "capacity"), (5, u "low"), (0, u "[B"), (2, u "places"), (0, u "[C"), (8, u "head"), (0, u "J"), (2, u "rest"), (2, u "headMask"), (2, u "restMask"), (8, u "exact"), (2, u "judged"), (8, u "end"), (2, u "base"), (2, u "width"), (6, u "proven"), (2, u "used"), (6, u "choosing"), (21, u "(J)J"), (6, u "checks"), (2, u "skew"), (5, u "headChecked"), (2, u "restChecked"), (2, u "many"), (2, u "zeros"), (0, .long 18446744073709551615), (7, .long 9187201950435737471), (1, .long 9259542123273814144), (5, u "sampled"), (2, u "crowd"), (39, u "FIRST_WINDOW"), (2, u "WINDOW"), (1, u "MAX_REACH"), (1, u "FEW"), (1, u "PROBES"), (1, u "SAMPLE"), (1, u "CROWDED"), (0, u "RARE"), (1, u "COUNTED"), (1, u "GAIN"), (1, u "CHECKED"), (1, u "BEFORE"), (0, u "LEAD"), (0, u "LANE_PAD"), (1, u "LANE_ROUND"), (0, u "EVERY_BYTE"), (0, u "LOW_SEVEN"), (0, u "TOP_BITS"), (0, u "GATHER")] 16

def k2c0 : Code := { maxStack := 4, maxLocals := 2, code := prog_31_method_10_code, exceptionTable := #[], attributes := #[] }
def k2m0 : Method := { name := "zeros", desc := "(J)J", sig := { parameters := [.long], returnType := some .long }, accessFlags := 8, code := some k2c0 }
/-- com/example/deft_match/deftmatch/Sieve -/
def k2 : Class := { plain "com/example/deft_match/deftmatch/Sieve" (some 0) with
  accessFlags := 48
  interfaces := #[]
  cf := some (fileOf pool2 1 #[] #[{ accessFlags := 8, nameIndex := 185, descriptorIndex := 160, attributes := #[] }] 48 4 #[] #[{ accessFlags := 26, nameIndex := 245, descriptorIndex := 55, attributes := #[] }, { accessFlags := 26, nameIndex := 248, descriptorIndex := 55, attributes := #[] }, { accessFlags := 26, nameIndex := 250, descriptorIndex := 55, attributes := #[] }, { accessFlags := 26, nameIndex := 252, descriptorIndex := 55, attributes := #[] }, { accessFlags := 26, nameIndex := 254, descriptorIndex := 55, attributes := #[] }, { accessFlags := 26, nameIndex := 256, descriptorIndex := 55, attributes := #[] }, { accessFlags := 26, nameIndex := 258, descriptorIndex := 55, attributes := #[] }, { accessFlags := 26, nameIndex := 259, descriptorIndex := 55, attributes := #[] }, { accessFlags := 26, nameIndex := 261, descriptorIndex := 55, attributes := #[] }, { accessFlags := 26, nameIndex := 263, descriptorIndex := 55, attributes := #[] }, { accessFlags := 26, nameIndex := 265, descriptorIndex := 55, attributes := #[] }, { accessFlags := 26, nameIndex := 267, descriptorIndex := 55, attributes := #[] }, { accessFlags := 26, nameIndex := 268, descriptorIndex := 55, attributes := #[] }, { accessFlags := 26, nameIndex := 269, descriptorIndex := 55, attributes := #[] }, { accessFlags := 26, nameIndex := 271, descriptorIndex := 55, attributes := #[] }, { accessFlags := 24, nameIndex := 272, descriptorIndex := 85, attributes := #[] }, { accessFlags := 26, nameIndex := 273, descriptorIndex := 85, attributes := #[] }, { accessFlags := 26, nameIndex := 274, descriptorIndex := 85, attributes := #[] }, { accessFlags := 26, nameIndex := 275, descriptorIndex := 85, attributes := #[] }, { accessFlags := 18, nameIndex := 30, descriptorIndex := 31, attributes := #[] }, { accessFlags := 18, nameIndex := 34, descriptorIndex := 35, attributes := #[] }, { accessFlags := 18, nameIndex := 38, descriptorIndex := 39, attributes := #[] }, { accessFlags := 18, nameIndex := 54, descriptorIndex := 55, attributes := #[] }, { accessFlags := 18, nameIndex := 58, descriptorIndex := 55, attributes := #[] }, { accessFlags := 18, nameIndex := 64, descriptorIndex := 55, attributes := #[] }, { accessFlags := 18, nameIndex := 70, descriptorIndex := 71, attributes := #[] }, { accessFlags := 18, nameIndex := 13, descriptorIndex := 14, attributes := #[] }, { accessFlags := 18, nameIndex := 19, descriptorIndex := 20, attributes := #[] }, { accessFlags := 18, nameIndex := 23, descriptorIndex := 24, attributes := #[] }, { accessFlags := 18, nameIndex := 27, descriptorIndex := 10, attributes := #[] }, { accessFlags := 18, nameIndex := 74, descriptorIndex := 75, attributes := #[] }, { accessFlags := 18, nameIndex := 84, descriptorIndex := 85, attributes := #[] }, { accessFlags := 18, nameIndex := 88, descriptorIndex := 85, attributes := #[] }, { accessFlags := 18, nameIndex := 91, descriptorIndex := 85, attributes := #[] }, { accessFlags := 18, nameIndex := 94, descriptorIndex := 85, attributes := #[] }, { accessFlags := 18, nameIndex := 103, descriptorIndex := 55, attributes := #[] }, { accessFlags := 2, nameIndex := 176, descriptorIndex := 85, attributes := #[] }, { accessFlags := 2, nameIndex := 179, descriptorIndex := 85, attributes := #[] }, { accessFlags := 2, nameIndex := 170, descriptorIndex := 55, attributes := #[] }, { accessFlags := 2, nameIndex := 131, descriptorIndex := 55, attributes := #[] }, { accessFlags := 2, nameIndex := 167, descriptorIndex := 55, attributes := #[] }, { accessFlags := 2, nameIndex := 182, descriptorIndex := 39, attributes := #[] }, { accessFlags := 2, nameIndex := 106, descriptorIndex := 39, attributes := #[] }, { accessFlags := 2, nameIndex := 138, descriptorIndex := 39, attributes := #[] }, { accessFlags := 2, nameIndex := 202, descriptorIndex := 55, attributes := #[] }, { accessFlags := 2, nameIndex := 205, descriptorIndex := 55, attributes := #[] }, { accessFlags := 2, nameIndex := 128, descriptorIndex := 55, attributes := #[] }, { accessFlags := 2, nameIndex := 44, descriptorIndex := 55, attributes := #[] }, { accessFlags := 2, nameIndex := 115, descriptorIndex := 55, attributes := #[] }, { accessFlags := 2, nameIndex := 118, descriptorIndex := 55, attributes := #[] }, { accessFlags := 2, nameIndex := 121, descriptorIndex := 55, attributes := #[] }])
  fields := #[{ name := "FIRST_WINDOW", type := .int, accessFlags := 26, slot := 0, constantValue := 0 }, { name := "WINDOW", type := .int, accessFlags := 26, slot := 1, constantValue := 0 }, { name := "MAX_REACH", type := .int, accessFlags := 26, slot := 2, constantValue := 0 }, { name := "FEW", type := .int, accessFlags := 26, slot := 3, constantValue := 0 }, { name := "PROBES", type := .int, accessFlags := 26, slot := 4, constantValue := 0 }, { name := "SAMPLE", type := .int, accessFlags := 26, slot := 5, constantValue := 0 }, { name := "CROWDED", type := .int, accessFlags := 26, slot := 6, constantValue := 0 }, { name := "RARE", type := .int, accessFlags := 26, slot := 7, constantValue := 0 }, { name := "COUNTED", type := .int, accessFlags := 26, slot := 8, constantValue := 0 }, { name := "GAIN", type := .int, accessFlags := 26, slot := 9, constantValue := 0 }, { name := "CHECKED", type := .int, accessFlags := 26, slot := 10, constantValue := 0 }, { name := "BEFORE", type := .int, accessFlags := 26, slot := 11, constantValue := 0 }, { name := "LEAD", type := .int, accessFlags := 26, slot := 12, constantValue := 0 }, { name := "LANE_PAD", type := .int, accessFlags := 26, slot := 13, constantValue := 0 }, { name := "LANE_ROUND", type := .int, accessFlags := 26, slot := 14, constantValue := 0 }, { name := "EVERY_BYTE", type := .long, accessFlags := 24, slot := 15, constantValue := 0 }, { name := "LOW_SEVEN", type := .long, accessFlags := 26, slot := 16, constantValue := 0 }, { name := "TOP_BITS", type := .long, accessFlags := 26, slot := 17, constantValue := 0 }, { name := "GATHER", type := .long, accessFlags := 26, slot := 18, constantValue := 0 }, { name := "text", type := (.object "com/example/deft_match/deftmatch/IndexedText"), accessFlags := 18, slot := 0, constantValue := 0 }, { name := "pattern", type := (.object "java/lang/String"), accessFlags := 18, slot := 1, constantValue := 0 }, { name := "open", type := .boolean, accessFlags := 18, slot := 2, constantValue := 0 }, { name := "reach", type := .int, accessFlags := 18, slot := 3, constantValue := 0 }, { name := "tail", type := .int, accessFlags := 18, slot := 4, constantValue := 0 }, { name := "capacity", type := .int, accessFlags := 18, slot := 5, constantValue := 0 }, { name := "low", type := (.array .byte), accessFlags := 18, slot := 6, constantValue := 0 }, { name := "lanes", type := (.array (.array .long)), accessFlags := 18, slot := 7, constantValue := 0 }, { name := "views", type := (.array (.object "java/nio/LongBuffer")), accessFlags := 18, slot := 8, constantValue := 0 }, { name := "offsets", type := (.array .int), accessFlags := 18, slot := 9, constantValue := 0 }, { name := "values", type := (.array .long), accessFlags := 18, slot := 10, constantValue := 0 }, { name := "places", type := (.array .char), accessFlags := 18, slot := 11, constantValue := 0 }, { name := "head", type := .long, accessFlags := 18, slot := 12, constantValue := 0 }, { name := "rest", type := .long, accessFlags := 18, slot := 13, constantValue := 0 }, { name := "headMask", type := .long, accessFlags := 18, slot := 14, constantValue := 0 }, { name := "restMask", type := .long, accessFlags := 18, slot := 15, constantValue := 0 }, { name := "exact", type := .int, accessFlags := 18, slot := 16, constantValue := 0 }, { name := "headChecked", type := .long, accessFlags := 2, slot := 17, constantValue := 0 }, { name := "restChecked", type := .long, accessFlags := 2, slot := 18, constantValue := 0 }, { name := "skew", type := .int, accessFlags := 2, slot := 19, constantValue := 0 }, { name := "used", type := .int, accessFlags := 2, slot := 20, constantValue := 0 }, { name := "checks", type := .int, accessFlags := 2, slot := 21, constantValue := 0 }, { name := "many", type := .boolean, accessFlags := 2, slot := 22, constantValue := 0 }, { name := "judged", type := .boolean, accessFlags := 2, slot := 23, constantValue := 0 }, { name := "choosing", type := .boolean, accessFlags := 2, slot := 24, constantValue := 0 }, { name := "sampled", type := .int, accessFlags := 2, slot := 25, constantValue := 0 }, { name := "crowd", type := .int, accessFlags := 2, slot := 26, constantValue := 0 }, { name := "proven", type := .int, accessFlags := 2, slot := 27, constantValue := 0 }, { name := "length", type := .int, accessFlags := 2, slot := 28, constantValue := 0 }, { name := "end", type := .int, accessFlags := 2, slot := 29, constantValue := 0 }, { name := "base", type := .int, accessFlags := 2, slot := 30, constantValue := 0 }, { name := "width", type := .int, accessFlags := 2, slot := 31, constantValue := 0 }]
  methods := #[k2m0]
  instanceTypes := #[(.object "com/example/deft_match/deftmatch/IndexedText"), (.object "java/lang/String"), .boolean, .int, .int, .int, (.array .byte), (.array (.array .long)), (.array (.object "java/nio/LongBuffer")), (.array .int), (.array .long), (.array .char), .long, .long, .long, .long, .int, .long, .long, .int, .int, .int, .boolean, .boolean, .boolean, .int, .int, .int, .int, .int, .int, .int]
  staticTypes := #[.int, .int, .int, .int, .int, .int, .int, .int, .int, .int, .int, .int, .int, .int, .int, .long, .long, .long, .long]
  resolved := Array.replicate 292 none
  statics := none }

def pool3 : Array CpInfo := pool [(1, u "java/lang/Cloneable"), (0, .class_ 1), (0, u "java/lang/Object"), (0, .class_ 3)] 3

/-- java/lang/Cloneable -/
def k3 : Class := { plain "java/lang/Cloneable" (some 0) with
  accessFlags := 1537
  interfaces := #[]
  cf := some (fileOf pool3 2 #[] #[] 1537 4 #[] #[])
  fields := #[]
  methods := #[]
  instanceTypes := #[]
  staticTypes := #[]
  resolved := Array.replicate 8 none
  statics := none }

def pool4 : Array CpInfo := pool [(1, u "java/io/Serializable"), (0, .class_ 1), (0, u "java/lang/Object"), (0, .class_ 3)] 3

/-- java/io/Serializable -/
def k4 : Class := { plain "java/io/Serializable" (some 0) with
  accessFlags := 1537
  interfaces := #[]
  cf := some (fileOf pool4 2 #[] #[] 1537 4 #[] #[])
  fields := #[]
  methods := #[]
  instanceTypes := #[]
  staticTypes := #[]
  resolved := Array.replicate 8 none
  statics := none }

/-- the primitive byte -/
def k5 : Class := { plain "byte" none with kind := .primitive 'B', accessFlags := 0x411 }
/-- [B -/
def k6 : Class := { plain "[B" (some 0) with kind := .array 5 .byte, interfaces := #[3, 4], accessFlags := 1041 }

/-- the primitive int -/
def k7 : Class := { plain "int" none with kind := .primitive 'I', accessFlags := 0x411 }
/-- [I -/
def k8 : Class := { plain "[I" (some 0) with kind := .array 7 .int, interfaces := #[3, 4], accessFlags := 1041 }

def heap : Heap := #[]
def classes : Array Class := #[k0, k1, k2, k3, k4, k5, k6, k7, k8]
def interned : List (Array UInt16 × Addr) := []
def slotsUsed : Nat := 0
def theMethod : MethodId := ⟨1, 3⟩
def args0 : Array Value := #[.long 5, .int 5]
def aboutOver (below : List Frame) : State where
  vm := { classes := classes, interned := interned.toArray }
  heap := heap
  slotsUsed := slotsUsed
  threads := #[{ frames := .invoking theMethod args0 :: below }]
def below0 : List Frame := [.native { method := ⟨0, 0⟩, args := #[] }]
def about1 : State := aboutOver below0
def p0 : Program := .bare "" "" ""
def e0 : Env := launch0.env 0 0 0
theorem w_frames : about1.frames = Frame.invoking theMethod args0 :: below0 := rfl
set_option maxRecDepth 65536 in
theorem w_args : argsFit about1.vm theMethod args0 = true := by decide +kernel
set_option maxRecDepth 65536 in
theorem w_heap : heapFits about1 = true := by decide +kernel
set_option maxRecDepth 65536 in
theorem w_runnable : about1.curStatus? = some .runnable := by decide +kernel
set_option maxRecDepth 65536 in
theorem w_alone : about1.alone = true := by decide +kernel
set_option maxRecDepth 65536 in
theorem w_named : about1.methodNamed? x = some theMethod := by decide +kernel
set_option maxRecDepth 65536 in
theorem w_hears : about1.hears theMethod below0 = true := by decide +kernel
set_option maxRecDepth 65536 in
theorem w_ripe : about1.ripe theMethod args0 below0 = true := by decide +kernel
theorem w_running : about1.status = .running := rfl
set_option maxRecDepth 65536 in
theorem w_room : about1.hasRoom e0.platform room_1 = true :=
  launch0.hasRoom_least _ room_1 (by decide +kernel) (by decide +kernel) (by decide +kernel) (by decide +kernel) (by decide +kernel) (by decide +kernel)
theorem allAtoms_all (ts : List Jvm.Cond) (a : Array Jvm.Value) (st : Jvm.State) : (allAtoms ts).before a st = ts.all (fun c => c.before a st) := by
  induction ts with
  | nil => rfl
  | cons c t ih =>
    show (Jvm.Cond.and c (allAtoms t)).before a st = _
    rw [Jvm.Cond.before_and, ih, List.all_cons]
def words1 : List Jvm.Cond := Jvm.Cond.code x code maxLocals ret :: tables_1
/-- a 'code' word, met by the world's own term for the bytes: nothing is compared byte by byte -/
theorem code_word {y : MethodName} {bytes : ByteArray} {mx : Nat} {rt : Option FieldType} {a : Array Value} {s : State} {m : MethodId} {meth : Method} {c : Code} (h1 : s.methodNamed? y = some m) (h2 : s.vm.method? m = some meth) (h3 : meth.code = some c) (h4 : c.code = bytes)
    (h5 : (c.maxLocals == mx && c.exceptionTable.isEmpty && decide (c.maxStack ≤ mostOperands) && decide (meth.sig.returnType = rt) && !meth.locks && decide (parseMethodDescriptor y.desc = some meth.sig)) = true) : (Jvm.Cond.code y bytes mx rt).before a s = true := by
  simp only [Bool.and_eq_true, beq_iff_eq, Bool.not_eq_true', decide_eq_true_eq] at h5
  obtain ⟨⟨⟨⟨⟨g1, g2⟩, g3⟩, g4⟩, g5⟩, g6⟩ := h5
  simp [Cond.before, Cond.holds, Cond.value, h1, h2, h3, h4, g1, g2, g3, g4, g5, g6]
def isCode : Jvm.Cond → Bool
  | .code _ _ _ _ => true
  | _ => false
theorem all_split {L : List Jvm.Cond} {P : Jvm.Cond → Bool} (h1 : L.all (fun c => isCode c || P c) = true) (h2 : ∀ c ∈ L.filter isCode, P c = true) : L.all P = true := by
  refine List.all_eq_true.mpr fun c hc => ?_
  have h := List.all_eq_true.mp h1 c hc
  rcases Bool.eq_false_or_eq_true (isCode c) with hi | hi
  · exact h2 c (List.mem_filter.mpr ⟨hc, hi⟩)
  · simpa [hi] using h
set_option maxRecDepth 65536 in
theorem w_c0 : (Jvm.Cond.code x code maxLocals ret).before args0 about1 = true := code_word (m := ⟨1, 3⟩) (meth := k1m3) (c := k1c3) (by decide +kernel) rfl rfl rfl (by decide +kernel)
set_option maxRecDepth 65536 in
theorem w_c1 : (Jvm.Cond.code ({ cls := "com/example/deft_match/deftmatch/SieveZerosPinLaw", name := "keep", desc := "(II)J" } : Jvm.MethodName) method_2_code (2 : Nat) (Option.some Jvm.ClassFile.FieldType.long)).before args0 about1 = true := code_word (m := ⟨1, 1⟩) (meth := k1m1) (c := k1c1) (by decide +kernel) rfl rfl rfl (by decide +kernel)
set_option maxRecDepth 65536 in
theorem w_c2 : (Jvm.Cond.code ({ cls := "com/example/deft_match/deftmatch/SieveZerosPinLaw", name := "top", desc := "(JI)J" } : Jvm.MethodName) method_3_code (3 : Nat) (Option.some Jvm.ClassFile.FieldType.long)).before args0 about1 = true := code_word (m := ⟨1, 2⟩) (meth := k1m2) (c := k1c2) (by decide +kernel) rfl rfl rfl (by decide +kernel)
set_option maxRecDepth 65536 in
theorem w_c3 : (Jvm.Cond.code ({ cls := "com/example/deft_match/deftmatch/Sieve", name := "zeros", desc := "(J)J" } : Jvm.MethodName) prog_31_method_10_code (2 : Nat) (Option.some Jvm.ClassFile.FieldType.long)).before args0 about1 = true := code_word (m := ⟨2, 0⟩) (meth := k2m0) (c := k2c0) (by decide +kernel) rfl rfl rfl (by decide +kernel)
def codes1 : List Jvm.Cond := [Jvm.Cond.code x code maxLocals ret, Jvm.Cond.code ({ cls := "com/example/deft_match/deftmatch/SieveZerosPinLaw", name := "keep", desc := "(II)J" } : Jvm.MethodName) method_2_code (2 : Nat) (Option.some Jvm.ClassFile.FieldType.long), Jvm.Cond.code ({ cls := "com/example/deft_match/deftmatch/SieveZerosPinLaw", name := "top", desc := "(JI)J" } : Jvm.MethodName) method_3_code (3 : Nat) (Option.some Jvm.ClassFile.FieldType.long), Jvm.Cond.code ({ cls := "com/example/deft_match/deftmatch/Sieve", name := "zeros", desc := "(J)J" } : Jvm.MethodName) prog_31_method_10_code (2 : Nat) (Option.some Jvm.ClassFile.FieldType.long)]
set_option maxRecDepth 65536 in
theorem codes_eq : words1.filter isCode = codes1 := rfl
theorem w_codes : ∀ c ∈ words1.filter isCode, c.before args0 about1 = true := by
  rw [codes_eq]
  intro c hc
  simp only [codes1, List.mem_cons, List.not_mem_nil, or_false] at hc
  rcases hc with rfl | rfl | rfl | rfl
  · exact w_c0
  · exact w_c1
  · exact w_c2
  · exact w_c3
set_option maxRecDepth 65536 in
theorem w_t1 : words1.all (fun c => isCode c || c.before args0 about1) = true := by decide +kernel
theorem w_tables : (allAtoms (Jvm.Cond.code x code maxLocals ret :: tables_1)).before args0 about1 = true := by
  rw [allAtoms_all]
  show words1.all (fun c => c.before args0 about1) = true
  refine all_split ?_ w_codes
  rw [w_t1]
set_option maxRecDepth 65536 in
theorem w_case : (Jvm.Cond.and given_1 narrow_1).before args0 about1 = true := by decide +kernel
theorem w_applies : (headSpec (Jvm.Cond.code x code maxLocals ret :: tables_1) room_1).applies x e0.platform about1 = true :=
  (Spec.applies_iff w_frames).mpr ⟨w_running, w_runnable, w_alone, w_named, w_hears, w_ripe, w_room, w_tables⟩
theorem atStart : AtStart classFile x code maxLocals ret World_1 tables_1 room_1 Calls_1 rest_1 Pre_1 launch0 p0 e0 about1 theMethod args0 below0 :=
  ⟨lists_1, trivial, launch0.admits_env _ _ _, launch0.least_env, fairChoices_fair.cas, fairChoices_fair.clock, w_frames, w_args, w_heap, w_applies, trivial, trivial, w_case⟩
end start1
theorem witness_1 : WitnessClaimed_1 := ⟨start1.p0, start1.e0, start1.about1, start1.theMethod, start1.args0, start1.below0, start1.atStart⟩
end Jvm.Pilot.@@N@@
