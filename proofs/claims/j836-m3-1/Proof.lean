import JvmDerived
import JvmDerived.Pilot.@@N@@Statement
import JvmDerived.Pilot.@@N@@Code
set_option linter.unusedVariables false
set_option linter.unusedSimpArgs false
namespace Jvm.RoadKit
open Sem ClassFile Op Lib Jvm.Stand Jvm.Free Jvm.LawKit
section New
variable {p : Program} {l : Launch} {e : Env} {R : Room} {s : State} {m : MethodId} {args : Array Value} {below : List Frame} {meth : Method} {c : Code} {T : State} {locs : List Loc} {cells slots : Nat}
theorem retI (X : Stand p l e R s m args below meth c T locs cells slots) (hx : p.tables.exec = Jvm.exec) {pc : Nat} {Ls : Array Slot} {z : Int32} {rest : List Value} (hret : meth.sig.returnType = some .int) (hd : decode c.code pc = .ok (.ireturn, 1)) {fs : List Frame}
    (hl : ∀ (f : JFrame) (acts : List Action), f.method = m → f.locked = none → f.entered = [] → (doReturn e (T.setTop f) acts (some (.int z))).1 = T.setFrames fs) : Steps p.tables e below (T.setTop (mkF m pc Ls (.int z :: rest))) (T.setFrames fs) := by
  have hm' : T.vm.method? m = some meth := X.method'
  have hn : narrow .int (.int z) = .int z := rfl
  show Steps p.tables e below (T.setTop { method := m, pc := pc, locals := Ls, stack := _ :: rest, locked := none }) _
  jvm_step X.here [X.here.top, hx, hd, hm', hret, hn]
  first | (intro acts; rw [hl _ acts rfl rfl rfl]) | rw [hl _ _ rfl rfl rfl]
  exact Steps.refl _
end New
end Jvm.RoadKit
namespace Jvm.Pilot.@@N@@
open Jvm Jvm.ClassFile Sem Op Lib Jvm.Free Jvm.Stand Jvm.LawKit Jvm.RoadKit Bundle Jvm.Pilot.@@N@@.Jvm.D
/-! MY OWN LAYER, 1: a walk in forward style -/
/-- from the state S the run ends, and Q holds of the end -/
def Goes (tb : Tables) (e : Env) (below : List Frame) (Q : Outcome → State → Prop) (S : State) : Prop :=
  ∃ s₂ o, Steps tb e below S s₂ ∧ s₂.status = .running ∧ Ended s₂ below o ∧ Q o s₂
theorem Goes.out {tb : Tables} {e : Env} {below : List Frame} {Q : Outcome → State → Prop} {S : State} (h : Goes tb e below Q S) :
    ∃ s₂ o, Steps tb e below S s₂ ∧ s₂.status = .running ∧ Ended s₂ below o ∧ Q o s₂ := h
theorem Goes.step {tb : Tables} {e : Env} {below : List Frame} {Q : Outcome → State → Prop} {S S' : State}
    (h : ∀ t, Steps tb e below S' t → Steps tb e below S t) (k : Goes tb e below Q S') : Goes tb e below Q S := by
  obtain ⟨s₂, o, h1, h2⟩ := k
  exact ⟨s₂, o, h _ h1, h2⟩
section Ites
variable {tb : Tables} {e : Env} {below : List Frame} {T S : State} {c : Prop} [Decidable c]
theorem own_ite0 {F : JFrame} (hy : c → ∀ t, Steps tb e below (T.setTop F) t → Steps tb e below S t) (hn : ¬ c → ∀ t, Steps tb e below (T.setTop F) t → Steps tb e below S t) :
    ∀ t, Steps tb e below (T.setTop F) t → Steps tb e below S t := fun t k => by
  by_cases h : c
  · exact hy h t k
  · exact hn h t k
theorem own_ite1 {A0 : Type} {a0 b0 : A0} {F : A0 → JFrame} (hy : c → ∀ t, Steps tb e below (T.setTop (F a0)) t → Steps tb e below S t) (hn : ¬ c → ∀ t, Steps tb e below (T.setTop (F b0)) t → Steps tb e below S t) :
    ∀ t, Steps tb e below (T.setTop (F (if c then a0 else b0))) t → Steps tb e below S t := fun t k => by
  by_cases h : c
  · rw [if_pos h] at k; exact hy h t k
  · rw [if_neg h] at k; exact hn h t k
theorem own_ite2 {A0 A1 : Type} {a0 b0 : A0} {a1 b1 : A1} {F : A0 → A1 → JFrame} (hy : c → ∀ t, Steps tb e below (T.setTop (F a0 a1)) t → Steps tb e below S t) (hn : ¬ c → ∀ t, Steps tb e below (T.setTop (F b0 b1)) t → Steps tb e below S t) :
    ∀ t, Steps tb e below (T.setTop (F (if c then a0 else b0) (if c then a1 else b1))) t → Steps tb e below S t := fun t k => by
  by_cases h : c
  · rw [if_pos h, if_pos h] at k; exact hy h t k
  · rw [if_neg h, if_neg h] at k; exact hn h t k
theorem own_ite3 {A0 A1 A2 : Type} {a0 b0 : A0} {a1 b1 : A1} {a2 b2 : A2} {F : A0 → A1 → A2 → JFrame} (hy : c → ∀ t, Steps tb e below (T.setTop (F a0 a1 a2)) t → Steps tb e below S t) (hn : ¬ c → ∀ t, Steps tb e below (T.setTop (F b0 b1 b2)) t → Steps tb e below S t) :
    ∀ t, Steps tb e below (T.setTop (F (if c then a0 else b0) (if c then a1 else b1) (if c then a2 else b2))) t → Steps tb e below S t := fun t k => by
  by_cases h : c
  · rw [if_pos h, if_pos h, if_pos h] at k; exact hy h t k
  · rw [if_neg h, if_neg h, if_neg h] at k; exact hn h t k
end Ites
section Rets
variable {p : Program} {l : Launch} {e : Env} {R : Room} {s : State} {m : MethodId} {args : Array Value} {below : List Frame} {meth : Method} {c : Code} {T : State} {locs : List Loc} {cells slots : Nat}
variable {QQ : Option Value → Heap → List Loc → Prop} {C0 S0 : Nat} {pc : Nat} {Ls : Array Slot} {rest : List Value}
theorem Goes.retN (X : Stand p l e R s m args below meth c T locs cells slots) (hx : p.tables.exec = Jvm.exec) (hlk : meth.locks = false) {t : FieldType} {z : Int32} (hret : meth.sig.returnType = some t) (ht : t = .boolean ∨ t = .byte ∨ t = .char ∨ t = .short)
    (hd : decode c.code pc = .ok (.ireturn, 1)) (hC : cells ≤ C0) (hS : slots ≤ S0) (hQ : QQ (some (.int (nar t z))) T.heap locs) :
    Goes p.tables e below (fun o U' => ∃ v L, o = .returned v ∧ QQ v U'.heap L ∧ FrameEnd s o U' L C0 S0) (T.setTop (mkF m pc Ls (.int z :: rest))) := by
  obtain ⟨fs, hr, hrun, hended, hW, hsame⟩ := X.leave (v := some (.int (nar t z))) (fun h => by rw [hret] at h; cases h) hlk
  exact ⟨_, _, Jvm.RoadKit.retN X hx hret ht hd hr, hrun, hended, _, _, rfl, hQ, ⟨_, rfl⟩, hW, hsame.mono hC hS⟩
theorem Goes.retI (X : Stand p l e R s m args below meth c T locs cells slots) (hx : p.tables.exec = Jvm.exec) (hlk : meth.locks = false) {z : Int32} (hret : meth.sig.returnType = some .int)
    (hd : decode c.code pc = .ok (.ireturn, 1)) (hC : cells ≤ C0) (hS : slots ≤ S0) (hQ : QQ (some (.int z)) T.heap locs) :
    Goes p.tables e below (fun o U' => ∃ v L, o = .returned v ∧ QQ v U'.heap L ∧ FrameEnd s o U' L C0 S0) (T.setTop (mkF m pc Ls (.int z :: rest))) := by
  obtain ⟨fs, hr, hrun, hended, hW, hsame⟩ := X.leave (v := some (.int z)) (fun h => by rw [hret] at h; cases h) hlk
  exact ⟨_, _, Jvm.RoadKit.retI X hx hret hd hr, hrun, hended, _, _, rfl, hQ, ⟨_, rfl⟩, hW, hsame.mono hC hS⟩
theorem Goes.retJ (X : Stand p l e R s m args below meth c T locs cells slots) (hx : p.tables.exec = Jvm.exec) (hlk : meth.locks = false) {z : Int64} (hret : meth.sig.returnType = some .long)
    (hd : decode c.code pc = .ok (.lreturn, 1)) (hC : cells ≤ C0) (hS : slots ≤ S0) (hQ : QQ (some (.long z)) T.heap locs) :
    Goes p.tables e below (fun o U' => ∃ v L, o = .returned v ∧ QQ v U'.heap L ∧ FrameEnd s o U' L C0 S0) (T.setTop (mkF m pc Ls (.long z :: rest))) := by
  obtain ⟨fs, hr, hrun, hended, hW, hsame⟩ := X.leave (v := some (.long z)) (fun h => by rw [hret] at h; cases h) hlk
  refine ⟨_, _, ?_, hrun, hended, _, _, rfl, hQ, ⟨_, rfl⟩, hW, hsame.mono hC hS⟩
  jvm_step X.here [X.here.top, hx, hd, X.method', hret, narrow]
  first | (intro acts; rw [hr _ acts rfl rfl rfl]) | rw [hr _ _ rfl rfl rfl]
  exact Steps.refl _
theorem Goes.retA (X : Stand p l e R s m args below meth c T locs cells slots) (hx : p.tables.exec = Jvm.exec) (hlk : meth.locks = false) {a : Addr} {t : FieldType} (hret : meth.sig.returnType = some t) (ht : t.isReference = true)
    (hd : decode c.code pc = .ok (.areturn, 1)) (hC : cells ≤ C0) (hS : slots ≤ S0) (hQ : QQ (some (.ref a)) T.heap locs) :
    Goes p.tables e below (fun o U' => ∃ v L, o = .returned v ∧ QQ v U'.heap L ∧ FrameEnd s o U' L C0 S0) (T.setTop (mkF m pc Ls (.ref a :: rest))) := by
  obtain ⟨fs, hr, hrun, hended, hW, hsame⟩ := X.leave (v := some (.ref a)) (fun h => by rw [hret] at h; cases h) hlk
  refine ⟨_, _, ?_, hrun, hended, _, _, rfl, hQ, ⟨_, rfl⟩, hW, hsame.mono hC hS⟩
  jvm_step X.here [X.here.top, hx, hd, X.method', hret, Value.isRef, ht]
  first | (intro acts; rw [hr _ acts rfl rfl rfl]) | rw [hr _ _ rfl rfl rfl]
  exact Steps.refl _
theorem Goes.retV (X : Stand p l e R s m args below meth c T locs cells slots) (hx : p.tables.exec = Jvm.exec) (hlk : meth.locks = false) (hret : meth.sig.returnType = none)
    (hd : decode c.code pc = .ok (.return_, 1)) (hC : cells ≤ C0) (hS : slots ≤ S0) (hQ : QQ none T.heap locs) :
    Goes p.tables e below (fun o U' => ∃ v L, o = .returned v ∧ QQ v U'.heap L ∧ FrameEnd s o U' L C0 S0) (T.setTop (mkF m pc Ls [])) := by
  obtain ⟨fs, hr, hrun, hended, hW, hsame⟩ := X.leave (v := none) (fun _ => rfl) hlk
  exact ⟨_, _, X.returnOut hx hret hd hr, hrun, hended, _, _, rfl, hQ, ⟨_, rfl⟩, hW, hsame.mono hC hS⟩
theorem own_lrem {g : JFrame} {target : State} (X : Stand p l e R s m args below meth c T locs cells slots) (hx : p.tables.exec = Jvm.exec) (hg : g.method = m) {x y : Int64} {rest : List Value} (hd : decode c.code g.pc = .ok (.lrem, 1)) (hs : g.stack = .long y :: .long x :: rest) (hy : y ≠ 0)
    (hr : Steps p.tables e below (T.setTop { g with pc := g.pc + 1, stack := .long (x % y) :: rest }) target) : Steps p.tables e below (T.setTop g) target :=
  XS.lrem X.here hx hg hd hs hy (by rw [lrem_mod]; exact hr)
end Rets
/-! MY OWN LAYER, 2: an array of ints (bytes, chars ..) by the list of its values, whole -/
def AI (Z : State) (h : Heap) (a : Addr) (k : ClassId) (ty : FieldType) (n : Int32) (vs : List Int32) : Prop :=
  Arv Z h a k ty n (vs.map Value.int) (.int 0) ∧ vs.length = n.toNatClampNeg
section Arrays
variable {p : Program} {l : Launch} {e : Env} {R : Room} {s : State} {m : MethodId} {args : Array Value} {below : List Frame} {meth : Method} {c : Code} {T : State} {locs : List Loc} {cells slots : Nat}
variable {Z : State} {h h' : Heap} {a b : Addr} {k : ClassId} {ty : FieldType} {n : Int32} {vs : List Int32} {sl : Nat} {v : Value} {ws : List Addr}
theorem AI.lt (F : AI Z h a k ty n vs) : a < h.size := F.1.lt
theorem AI.nn (F : AI Z h a k ty n vs) : ¬ n < 0 := by obtain ⟨⟨c, -, -, -, q, -⟩, -⟩ := F; exact q
theorem AI.ext (F : AI Z h a k ty n vs) (E : Ext h h') : AI Z h' a k ty n vs := ⟨F.1.ext E, F.2⟩
theorem AI.other (F : AI Z h b k ty n vs) (W : Wr h h' a sl v) (q : b ≠ a) : AI Z h' b k ty n vs := ⟨F.1.other W q, F.2⟩
theorem AI.keep (F : AI Z h a k ty n vs) (K : Keep h h' ws) (q : a ∉ ws) : AI Z h' a k ty n vs := ⟨F.1.keep K q, F.2⟩
theorem own_getD (vs : List Int32) (i : Nat) : (vs.map Value.int).getD i (.int 0) = .int (vs.getD i 0) := by
  simp only [List.getD_eq_getElem?_getD, List.getElem?_map]
  cases vs[i]? <;> rfl
theorem own_new {q : Int32} (A : Arr Z h a (newA k ty q) ty) (hq : ¬ q < 0) (hd : defaultValue ty = .int 0) {vs : List Int32} (hv : vs = List.replicate q.toNatClampNeg 0 := by rfl) : AI Z h a k ty q vs := by
  subst hv
  have V := Arv.new A hq
  rw [hd] at V
  refine ⟨?_, by simp⟩
  have q1 := V.pad (pad_rep [] (.int 0) q.toNatClampNeg)
  rw [List.nil_append] at q1
  rw [List.map_replicate]; exact q1
theorem own_inb {cl : Cell} {j : Int32} (S : cl.slots.size = n.toNatClampNeg) (q : ¬ j < 0 ∧ j < n) : ¬ (j < 0 ∨ cl.slots.size ≤ j.toNatClampNeg) := inb_of S q
theorem own_jlt {j : Int32} (q : ¬ j < 0 ∧ j < n) : j.toNatClampNeg < n.toNatClampNeg := by
  obtain ⟨q1, q2⟩ := q
  rw [Int32.lt_iff_toInt_lt] at q1 q2
  have e0 : (0 : Int32).toInt = 0 := rfl
  simp only [Int32.toNatClampNeg] at *; omega
theorem own_iaload {pc : Nat} {Ls : Array Slot} {rest : List Value} {j : Int32} (X : Stand p l e R s m args below meth c T locs cells slots) (hx : p.tables.exec = Jvm.exec) (hZ : Z.Warmed39 s.vm) (eT : T.heap = h) (F : AI Z h a k .int n vs) (hj : ¬ j < 0 ∧ j < n)
    (hd : decode c.code pc = .ok (.iaload, 1)) (t : State) (kk : Steps p.tables e below (T.setTop (mkF m (pc + 1) Ls (.int (vs.getD j.toNatClampNeg 0) :: rest))) t) : Steps p.tables e below (T.setTop (mkF m pc Ls (.int j :: .ref a :: rest))) t := by
  obtain ⟨⟨cl, A, -, S, -, H, -⟩, hl⟩ := F
  have hin := own_inb S hj
  exact X.iaload hx (j := j) (v := .int (vs.getD j.toNatClampNeg 0)) (by rw [eT]; exact A.1) (State.isArrayOf_alike hZ.alike A.2.1) A.2.2 hin (H.at hin (own_getD _ _)) (g := mkF m pc Ls (.int j :: .ref a :: rest)) rfl rfl hd _ kk
theorem own_baload {pc : Nat} {Ls : Array Slot} {rest : List Value} {j : Int32} (X : Stand p l e R s m args below meth c T locs cells slots) (hx : p.tables.exec = Jvm.exec) (hZ : Z.Warmed39 s.vm) (eT : T.heap = h) (F : AI Z h a k .byte n vs) (hj : ¬ j < 0 ∧ j < n)
    (hd : decode c.code pc = .ok (.baload, 1)) (t : State) (kk : Steps p.tables e below (T.setTop (mkF m (pc + 1) Ls (.int (vs.getD j.toNatClampNeg 0) :: rest))) t) : Steps p.tables e below (T.setTop (mkF m pc Ls (.int j :: .ref a :: rest))) t := by
  obtain ⟨⟨cl, A, -, S, -, H, -⟩, hl⟩ := F
  have hin := own_inb S hj
  exact X.baloadBytes hx (j := j) (v := .int (vs.getD j.toNatClampNeg 0)) (by rw [eT]; exact A.1) (State.isArrayOf_alike hZ.alike A.2.1) A.2.2 hin (H.at hin (own_getD _ _)) (g := mkF m pc Ls (.int j :: .ref a :: rest)) rfl rfl hd _ kk
theorem own_len {pc : Nat} {Ls : Array Slot} {rest : List Value} (X : Stand p l e R s m args below meth c T locs cells slots) (hx : p.tables.exec = Jvm.exec) (hZ : Z.Warmed39 s.vm) (eT : T.heap = h) (F : AI Z h a k ty n vs)
    (hd : decode c.code pc = .ok (.arraylength, 1)) (t : State) (kk : Steps p.tables e below (T.setTop (mkF m (pc + 1) Ls (.int n :: rest))) t) : Steps p.tables e below (T.setTop (mkF m pc Ls (.ref a :: rest))) t := by
  obtain ⟨⟨cl, A, -, S, N, H, -⟩, hl⟩ := F
  refine X.arraylength hx (by rw [eT]; exact A.1) (State.isArrayOf_alike hZ.alike A.2.1) (g := mkF m pc Ls (.ref a :: rest)) rfl rfl hd _ ?_
  rw [len_of S N]; exact kk
theorem own_iastore {j x : Int32} (X : Stand p l e R s m args below meth c T locs cells slots) (hx : p.tables.exec = Jvm.exec) (hZ : Z.Warmed39 s.vm) (eT : T.heap = h) (F : AI Z h a k .int n vs) (hj : ¬ j < 0 ∧ j < n) {g : JFrame} (hg : g.method = m) {rest : List Value} (hs : g.stack = .int x :: .int j :: .ref a :: rest) (hd : decode c.code g.pc = .ok (.iastore, 1)) :
    ∃ T' h', Stand p l e R s m args below meth c T' (locs ++ [⟨a, j.toNatClampNeg⟩]) cells slots ∧ T'.heap = h' ∧ Wr h h' a j.toNatClampNeg (.int x) ∧ AI Z h' a k .int n (vs.set j.toNatClampNeg x) ∧ ∀ target, Steps p.tables e below (T'.setTop { g with pc := g.pc + 1, stack := rest }) target → Steps p.tables e below (T.setTop g) target := by
  obtain ⟨⟨cl, A, q1, S, N, H, G⟩, hl⟩ := F
  obtain ⟨T', h', X', e', W, st⟩ := stI X hx hZ eT A (own_inb S hj) hg hs hd
  refine ⟨T', h', X', e', W, ⟨?_, by simpa using hl⟩, st⟩
  rw [List.map_set]
  exact Arv.set A q1 S N H G rfl W _ rfl (by rw [List.length_map, hl]; exact own_jlt hj)
theorem own_bastore {j x : Int32} (X : Stand p l e R s m args below meth c T locs cells slots) (hx : p.tables.exec = Jvm.exec) (hZ : Z.Warmed39 s.vm) (eT : T.heap = h) (F : AI Z h a k .byte n vs) (hj : ¬ j < 0 ∧ j < n) {g : JFrame} (hg : g.method = m) {rest : List Value} (hs : g.stack = .int x :: .int j :: .ref a :: rest) (hd : decode c.code g.pc = .ok (.bastore, 1)) :
    ∃ T' h', Stand p l e R s m args below meth c T' (locs ++ [⟨a, j.toNatClampNeg⟩]) cells slots ∧ T'.heap = h' ∧ Wr h h' a j.toNatClampNeg (.int (nar .byte x)) ∧ AI Z h' a k .byte n (vs.set j.toNatClampNeg (nar .byte x)) ∧ ∀ target, Steps p.tables e below (T'.setTop { g with pc := g.pc + 1, stack := rest }) target → Steps p.tables e below (T.setTop g) target := by
  obtain ⟨⟨cl, A, q1, S, N, H, G⟩, hl⟩ := F
  obtain ⟨T', h', X', e', W, st⟩ := stB X hx hZ eT A (own_inb S hj) hg hs hd
  refine ⟨T', h', X', e', W, ⟨?_, by simpa using hl⟩, st⟩
  rw [List.map_set]
  exact Arv.set A q1 S N H G (fits_nar_byte _) W _ rfl (by rw [List.length_map, hl]; exact own_jlt hj)
end Arrays
/-! MY OWN LAYER, 3: numbers -/
theorem own_b255 (x : Int32) : (nar .byte (x.toInt8.toInt32)) &&& 255 = x &&& 255 := by
  have a := c_i2b x
  have b := c_i2b x.toInt8.toInt32
  have m1 : ((x.toInt8.toInt32.toInt8.toInt32) &&& 255).toInt = (x.toInt8.toInt32.toInt8.toInt32).toInt % 256 := c_mask _ 255 8 (by decide) (by decide)
  have m2 : (x &&& 255).toInt = x.toInt % 256 := c_mask _ 255 8 (by decide) (by decide)
  apply Int32.toInt_inj.mp
  show ((x.toInt8.toInt32.toInt8.toInt32) &&& 255).toInt = _
  omega
theorem own_m255 (x : Int32) : (x &&& 255).toInt = x.toInt % 256 := c_mask _ 255 8 (by decide) (by decide)
theorem own_or8 (a b : Int32) (h1 : 0 ≤ a.toInt) (h2 : a.toInt < 256) (h3 : 0 ≤ b.toInt) (h4 : b.toInt < 256) : ((a <<< ((8 : Int32) &&& 31)) ||| b).toInt = a.toInt * 256 + b.toInt := by
  have s : ((a <<< ((8 : Int32) &&& 31)).toInt - a.toInt * 256) % 4294967296 = 0 := c_ishl a 8 8 (by decide)
  have r := rng32 (a <<< ((8 : Int32) &&& 31))
  have e : (a <<< ((8 : Int32) &&& 31)).toInt = a.toInt * 256 := by omega
  have o := c_or (a <<< ((8 : Int32) &&& 31)) b 8 (by decide) 256 (by decide) (by omega) h3 h4
  have r2 := rng32 ((a <<< ((8 : Int32) &&& 31)) ||| b)
  omega
theorem own_nar0 : nar .boolean 0 = 0 := by decide
theorem own_nar1 : nar .boolean 1 = 1 := by decide
theorem d2_0 : decode prog_9_method_7_code 0 = .ok (.iload_n 1, 1) := by decide +kernel
theorem d2_1 : decode prog_9_method_7_code 1 = .ok (.ifCond .le 19, 3) := by decide +kernel
theorem d2_4 : decode prog_9_method_7_code 4 = .ok (.aload_n 0, 1) := by decide +kernel
theorem d2_5 : decode prog_9_method_7_code 5 = .ok (.iload_n 1, 1) := by decide +kernel
theorem d2_6 : decode prog_9_method_7_code 6 = .ok (.iconst 1, 1) := by decide +kernel
theorem d2_7 : decode prog_9_method_7_code 7 = .ok (.isub, 1) := by decide +kernel
theorem d2_8 : decode prog_9_method_7_code 8 = .ok (.baload, 1) := by decide +kernel
theorem d2_9 : decode prog_9_method_7_code 9 = .ok (.bipush 13, 2) := by decide +kernel
theorem d2_11 : decode prog_9_method_7_code 11 = .ok (.if_icmp .ne 9, 3) := by decide +kernel
theorem d2_14 : decode prog_9_method_7_code 14 = .ok (.iload_n 1, 1) := by decide +kernel
theorem d2_15 : decode prog_9_method_7_code 15 = .ok (.iconst 1, 1) := by decide +kernel
theorem d2_16 : decode prog_9_method_7_code 16 = .ok (.isub, 1) := by decide +kernel
theorem d2_17 : decode prog_9_method_7_code 17 = .ok (.goto 4, 3) := by decide +kernel
theorem d2_20 : decode prog_9_method_7_code 20 = .ok (.iload_n 1, 1) := by decide +kernel
theorem d2_21 : decode prog_9_method_7_code 21 = .ok (.ireturn, 1) := by decide +kernel
theorem pn0 : plainName "fivewords/cli/ChecksumLine" = true := by first | (simp [plainName, overriddenIn]; done) | decide +kernel
theorem ef2 (m : MethodId) (u0 : Addr) (p1 : Int32) : entryFrame m #[(.ref u0), (.int p1)] 2 = mkF m 0 #[.val (.ref u0), .val (.int p1)] [] := by first | (simp [entryFrame, mkF, argsToLocals, Value.category]; done) | rfl
def f2 (n_u0 : Int32) (vs_u0 : List Int32) (p1 : Int32) : Int32 := (if (0 : Int32) < p1 then (if (vs_u0.getD ((p1 - (1 : Int32))).toNatClampNeg 0) = (13 : Int32) then (p1 - (1 : Int32)) else p1) else p1)
theorem own_ix2_8 (n_u0 : Int32) (vs_u0 : List Int32) (hl_u0 : vs_u0.length = n_u0.toNatClampNeg) (hn_u0 : ¬ n_u0 < 0) (p1 : Int32) (hB : ¬ n_u0 < p1) (hc1_1 : (0 : Int32) < p1) : ¬ (p1 - (1 : Int32)) < 0 ∧ (p1 - (1 : Int32)) < n_u0 := by
  have a := c_isub p1 1
  have r := rng32 (p1 - 1)
  have r1 := rng32 p1
  simp only [Int32.lt_iff_toInt_lt, Int32.reduceToInt] at *
  omega
def Q2 (Z : State) (u0 : Addr) (p1 : Int32) (k_u0 : ClassId) (n_u0 : Int32) (vs_u0 : List Int32) (h0 : Heap) (n0 : Nat) (v : Option Value) (h : Heap) (L : List Loc) : Prop := v = some (.int (f2 n_u0 vs_u0 p1)) ∧ Fr n0 L ∧ h = h0
set_option maxRecDepth 65536 in
set_option maxHeartbeats 40000000 in
theorem rm2 (l : Launch) (Z : State) (a0 : Array Value) (hw : ∀ d ∈ tables_1, d.before a0 Z = true) (ws : List Jvm.Cond) (u0 : Addr) (p1 : Int32) (k_u0 : ClassId) (n_u0 : Int32) (vs_u0 : List Int32) (h0 : Heap) (n0 : Nat) (Z0 : n0 ≤ h0.size) (V_u0 : AI Z h0 u0 k_u0 .byte n_u0 vs_u0) (hB : ¬ n_u0 < p1) :
    MetFree l (⟨"fivewords/cli/ChecksumLine", "withoutReturn", "([BI)I"⟩ : MethodName) (head1 (Jvm.Cond.code (⟨"fivewords/cli/ChecksumLine", "withoutReturn", "([BI)I"⟩ : MethodName) prog_9_method_7_code 2 (some .int) :: ws) ({ frames := 0, cells := 0, slots := 0, locals := 0 } : Room)) (fun a U => a = #[(.ref u0), (.int p1)] ∧ Z.Warmed39 U.vm ∧ U.heap = h0) (fun _ _ _ _ _ => True) (fun _ U o U' => ∃ v L, o = .returned v ∧ Q2 Z u0 p1 k_u0 n_u0 vs_u0 h0 n0 v U'.heap L ∧ FrameEnd U o U' L ({ frames := 0, cells := 0, slots := 0, locals := 0 } : Room).cells ({ frames := 0, cells := 0, slots := 0, locals := 0 } : Room).slots) := by
  refine MetFree.of_bodySF (plainFor_of_name pn0) hisR ?_
  intro p e s m args below meth c s₁ Bd hml0 hP hK
  obtain ⟨rfl, hZ, hh⟩ := hP
  have hx := Bd.exec
  have hby := Bd.bytes
  have hml : c.maxLocals = 2 := hml0
  have hown : s.vm.findClass "fivewords/cli/ChecksumLine" = some m.cls := findClass_of_methodNamed Bd.named
  have hnm := (name_of_methodNamed Bd.named Bd.method).1
  have X0 : Stand p l e ({ frames := 0, cells := 0, slots := 0, locals := 0 } : Room) s m #[(.ref u0), (.int p1)] below meth c s₁ [] 0 0 := Stand.of_body Bd
  have e0 : s₁.heap = h0 := by rw [← hh, Bd.state]; rfl
  have N0 := Fr.nil n0
  have hl_u0 : vs_u0.length = n_u0.toNatClampNeg := V_u0.2
  have hn_u0 : ¬ n_u0 < 0 := V_u0.nn
  refine Goes.out (Q := fun o U' => ∃ v L, o = .returned v ∧ Q2 Z u0 p1 k_u0 n_u0 vs_u0 h0 n0 v U'.heap L ∧ FrameEnd s o U' L ({ frames := 0, cells := 0, slots := 0, locals := 0 } : Room).cells ({ frames := 0, cells := 0, slots := 0, locals := 0 } : Room).slots) ?_
  refine Goes.step (S' := s₁.setTop (mkF m 0 #[.val (.ref u0), .val (.int p1)] [])) (fun _ k => castTop (ef2 m u0 p1) k) ?_
  refine Goes.step (S' := s₁.setTop (mkF m 1 #[.val (.ref u0), .val (.int p1)] [(.int p1)])) (fun _ k => XS.iloadN X0.here hx rfl (hb hby d2_0) rfl  k) ?_
  refine Goes.step (own_ite1 (T := s₁) (c := (0 : Int32) < p1) (a0 := (if (vs_u0.getD ((p1 - (1 : Int32))).toNatClampNeg 0) = (13 : Int32) then (p1 - (1 : Int32)) else p1)) (b0 := p1) (F := fun z2_0 => (mkF m 21 #[.val (.ref u0), .val (.int p1)] [(.int z2_0)])) ?_ ?_) ?_
  · intro hc1_1 t k
    refine XS.ifNo X0.here hx rfl (hb hby d2_1) rfl ((if0 _ _).trans (tlt hc1_1).2.2.2) ?_
    show Steps p.tables e below (s₁.setTop (mkF m 4 #[.val (.ref u0), .val (.int p1)] [])) _
    refine XS.aloadN X0.here hx rfl (hb hby d2_4) rfl rfl ?_
    show Steps p.tables e below (s₁.setTop (mkF m 5 #[.val (.ref u0), .val (.int p1)] [(.ref u0)])) _
    refine XS.iloadN X0.here hx rfl (hb hby d2_5) rfl  ?_
    show Steps p.tables e below (s₁.setTop (mkF m 6 #[.val (.ref u0), .val (.int p1)] [(.int p1), (.ref u0)])) _
    refine XS.iconst X0.here hx rfl (hb hby d2_6) ?_
    show Steps p.tables e below (s₁.setTop (mkF m 7 #[.val (.ref u0), .val (.int p1)] [(.int (1 : Int32)), (.int p1), (.ref u0)])) _
    refine XS.isub X0.here hx rfl (hb hby d2_7) rfl ?_
    show Steps p.tables e below (s₁.setTop (mkF m 8 #[.val (.ref u0), .val (.int p1)] [(.int (p1 - (1 : Int32))), (.ref u0)])) _
    refine own_baload X0 hx hZ e0 V_u0 (own_ix2_8 n_u0 vs_u0 hl_u0 hn_u0 p1 hB hc1_1) (hb hby d2_8) _ ?_
    show Steps p.tables e below (s₁.setTop (mkF m 9 #[.val (.ref u0), .val (.int p1)] [(.int (vs_u0.getD ((p1 - (1 : Int32))).toNatClampNeg 0))])) _
    refine XS.bipush X0.here hx rfl (hb hby d2_9) ?_
    show Steps p.tables e below (s₁.setTop (mkF m 11 #[.val (.ref u0), .val (.int p1)] [(.int (13 : Int32)), (.int (vs_u0.getD ((p1 - (1 : Int32))).toNatClampNeg 0))])) _
    refine own_ite1 (T := s₁) (c := (vs_u0.getD ((p1 - (1 : Int32))).toNatClampNeg 0) = (13 : Int32)) (a0 := (p1 - (1 : Int32))) (b0 := p1) (F := fun z2_0 => (mkF m 21 #[.val (.ref u0), .val (.int p1)] [(.int z2_0)])) ?_ ?_ _ ?_
    · intro hc11_2 t k
      refine XS.icmpNo X0.here hx rfl (hb hby d2_11) rfl (teq hc11_2).2 ?_
      show Steps p.tables e below (s₁.setTop (mkF m 14 #[.val (.ref u0), .val (.int p1)] [])) _
      refine XS.iloadN X0.here hx rfl (hb hby d2_14) rfl  ?_
      show Steps p.tables e below (s₁.setTop (mkF m 15 #[.val (.ref u0), .val (.int p1)] [(.int p1)])) _
      refine XS.iconst X0.here hx rfl (hb hby d2_15) ?_
      show Steps p.tables e below (s₁.setTop (mkF m 16 #[.val (.ref u0), .val (.int p1)] [(.int (1 : Int32)), (.int p1)])) _
      refine XS.isub X0.here hx rfl (hb hby d2_16) rfl ?_
      show Steps p.tables e below (s₁.setTop (mkF m 17 #[.val (.ref u0), .val (.int p1)] [(.int (p1 - (1 : Int32)))])) _
      refine XS.goto X0.here hx rfl (pc0 := 17) (pc' := 21) rfl (hb hby d2_17) (by decide) (by decide) ?_
      show Steps p.tables e below (s₁.setTop (mkF m 21 #[.val (.ref u0), .val (.int p1)] [(.int (p1 - (1 : Int32)))])) _
      exact k
    · intro hc11_2 t k
      refine XS.icmpYes X0.here hx rfl (pc0 := 11) (pc' := 20) rfl (hb hby d2_11) rfl (feq hc11_2).2 (by decide) (by decide) ?_
      show Steps p.tables e below (s₁.setTop (mkF m 20 #[.val (.ref u0), .val (.int p1)] [])) _
      refine XS.iloadN X0.here hx rfl (hb hby d2_20) rfl  ?_
      show Steps p.tables e below (s₁.setTop (mkF m 21 #[.val (.ref u0), .val (.int p1)] [(.int p1)])) _
      exact k
    show Steps p.tables e below (s₁.setTop (mkF m 21 #[.val (.ref u0), .val (.int p1)] [(.int (if (vs_u0.getD ((p1 - (1 : Int32))).toNatClampNeg 0) = (13 : Int32) then (p1 - (1 : Int32)) else p1))])) _
    exact k
  · intro hc1_1 t k
    refine XS.ifYes X0.here hx rfl (pc0 := 1) (pc' := 20) rfl (hb hby d2_1) rfl ((if0 _ _).trans (flt hc1_1).2.2.2) (by decide) (by decide) ?_
    show Steps p.tables e below (s₁.setTop (mkF m 20 #[.val (.ref u0), .val (.int p1)] [])) _
    refine XS.iloadN X0.here hx rfl (hb hby d2_20) rfl  ?_
    show Steps p.tables e below (s₁.setTop (mkF m 21 #[.val (.ref u0), .val (.int p1)] [(.int p1)])) _
    exact k
  show Goes p.tables e below _ (s₁.setTop (mkF m 21 #[.val (.ref u0), .val (.int p1)] [(.int (if (0 : Int32) < p1 then (if (vs_u0.getD ((p1 - (1 : Int32))).toNatClampNeg 0) = (13 : Int32) then (p1 - (1 : Int32)) else p1) else p1))]))
  refine Goes.retI X0 hx Bd.notSynchronized Bd.returns (hb hby d2_21) (by decide) (by decide) ?_
  exact ⟨rfl, N0, e0⟩
theorem pd0 : parseMethodDescriptor "([BI)I" = some ⟨[(.array .byte), .int], some .int⟩ := by decide +kernel
theorem d1_0 : decode prog_9_method_4_code 0 = .ok (.iload_n 1, 1) := by decide +kernel
theorem d1_1 : decode prog_9_method_4_code 1 = .ok (.ifCond .le 11, 3) := by decide +kernel
theorem d1_4 : decode prog_9_method_4_code 4 = .ok (.aload_n 0, 1) := by decide +kernel
theorem d1_5 : decode prog_9_method_4_code 5 = .ok (.iconst 0, 1) := by decide +kernel
theorem d1_6 : decode prog_9_method_4_code 6 = .ok (.baload, 1) := by decide +kernel
theorem d1_7 : decode prog_9_method_4_code 7 = .ok (.bipush 35, 2) := by decide +kernel
theorem d1_9 : decode prog_9_method_4_code 9 = .ok (.if_icmp .eq 11, 3) := by decide +kernel
theorem d1_12 : decode prog_9_method_4_code 12 = .ok (.aload_n 0, 1) := by decide +kernel
theorem d1_13 : decode prog_9_method_4_code 13 = .ok (.iload_n 1, 1) := by decide +kernel
theorem d1_14 : decode prog_9_method_4_code 14 = .ok (.invokestatic 64, 3) := by decide +kernel
theorem d1_17 : decode prog_9_method_4_code 17 = .ok (.ifCond .ne 7, 3) := by decide +kernel
theorem d1_20 : decode prog_9_method_4_code 20 = .ok (.iconst 1, 1) := by decide +kernel
theorem d1_21 : decode prog_9_method_4_code 21 = .ok (.goto 4, 3) := by decide +kernel
theorem d1_24 : decode prog_9_method_4_code 24 = .ok (.iconst 0, 1) := by decide +kernel
theorem d1_25 : decode prog_9_method_4_code 25 = .ok (.ireturn, 1) := by decide +kernel
theorem ef1 (m : MethodId) (u0 : Addr) (p1 : Int32) : entryFrame m #[(.ref u0), (.int p1)] 2 = mkF m 0 #[.val (.ref u0), .val (.int p1)] [] := by first | (simp [entryFrame, mkF, argsToLocals, Value.category]; done) | rfl
def f1 (n_u0 : Int32) (vs_u0 : List Int32) (p1 : Int32) : Int32 := (if (0 : Int32) < p1 then (if (vs_u0.getD ((0 : Int32)).toNatClampNeg 0) = (35 : Int32) then (1 : Int32) else (nar .boolean (if (f2 n_u0 vs_u0 p1) = (0 : Int32) then (1 : Int32) else (0 : Int32)))) else (nar .boolean (if (f2 n_u0 vs_u0 p1) = (0 : Int32) then (1 : Int32) else (0 : Int32))))
theorem own_ix1_6 (n_u0 : Int32) (vs_u0 : List Int32) (hl_u0 : vs_u0.length = n_u0.toNatClampNeg) (hn_u0 : ¬ n_u0 < 0) (p1 : Int32) (hB : ¬ n_u0 < p1) (hc1_1 : (0 : Int32) < p1) : ¬ (0 : Int32) < 0 ∧ (0 : Int32) < n_u0 := by
  refine ⟨by decide, ?_⟩
  simp only [Int32.lt_iff_toInt_lt, Int32.reduceToInt] at *
  omega
theorem own_pr1_14_hB (n_u0 : Int32) (vs_u0 : List Int32) (hl_u0 : vs_u0.length = n_u0.toNatClampNeg) (hn_u0 : ¬ n_u0 < 0) (p1 : Int32) (hB : ¬ n_u0 < p1) (hc1_1 : (0 : Int32) < p1) (hc9_2 : ¬ ((vs_u0.getD ((0 : Int32)).toNatClampNeg 0) = (35 : Int32))) : ¬ n_u0 < p1 := by
  exact hB
theorem own_pr1_14_hB_2 (n_u0 : Int32) (vs_u0 : List Int32) (hl_u0 : vs_u0.length = n_u0.toNatClampNeg) (hn_u0 : ¬ n_u0 < 0) (p1 : Int32) (hB : ¬ n_u0 < p1) (hc1_1 : ¬ ((0 : Int32) < p1)) : ¬ n_u0 < p1 := by
  exact hB
def Q1 (Z : State) (u0 : Addr) (p1 : Int32) (k_u0 : ClassId) (n_u0 : Int32) (vs_u0 : List Int32) (h0 : Heap) (n0 : Nat) (v : Option Value) (h : Heap) (L : List Loc) : Prop := v = some (.int (f1 n_u0 vs_u0 p1)) ∧ Fr n0 L ∧ h = h0
set_option maxRecDepth 65536 in
set_option maxHeartbeats 40000000 in
theorem rm1 (l : Launch) (Z : State) (a0 : Array Value) (hw : ∀ d ∈ tables_1, d.before a0 Z = true) (ws : List Jvm.Cond) (u0 : Addr) (p1 : Int32) (k_u0 : ClassId) (n_u0 : Int32) (vs_u0 : List Int32) (h0 : Heap) (n0 : Nat) (Z0 : n0 ≤ h0.size) (V_u0 : AI Z h0 u0 k_u0 .byte n_u0 vs_u0) (hB : ¬ n_u0 < p1) :
    MetFree l (⟨"fivewords/cli/ChecksumLine", "isPassedOver", "([BI)Z"⟩ : MethodName) (head1 (Jvm.Cond.code (⟨"fivewords/cli/ChecksumLine", "isPassedOver", "([BI)Z"⟩ : MethodName) prog_9_method_4_code 2 (some .boolean) :: ws) ({ frames := 1, cells := 0, slots := 0, locals := 13 } : Room)) (fun a U => a = #[(.ref u0), (.int p1)] ∧ Z.Warmed39 U.vm ∧ U.heap = h0) (fun _ _ _ _ _ => True) (fun _ U o U' => ∃ v L, o = .returned v ∧ Q1 Z u0 p1 k_u0 n_u0 vs_u0 h0 n0 v U'.heap L ∧ FrameEnd U o U' L ({ frames := 1, cells := 0, slots := 0, locals := 13 } : Room).cells ({ frames := 1, cells := 0, slots := 0, locals := 13 } : Room).slots) := by
  refine MetFree.of_bodySF (plainFor_of_name pn0) hisR ?_
  intro p e s m args below meth c s₁ Bd hml0 hP hK
  obtain ⟨rfl, hZ, hh⟩ := hP
  have hx := Bd.exec
  have hby := Bd.bytes
  have hml : c.maxLocals = 2 := hml0
  have hown : s.vm.findClass "fivewords/cli/ChecksumLine" = some m.cls := findClass_of_methodNamed Bd.named
  have hnm := (name_of_methodNamed Bd.named Bd.method).1
  have X0 : Stand p l e ({ frames := 1, cells := 0, slots := 0, locals := 13 } : Room) s m #[(.ref u0), (.int p1)] below meth c s₁ [] 0 0 := Stand.of_body Bd
  have e0 : s₁.heap = h0 := by rw [← hh, Bd.state]; rfl
  have N0 := Fr.nil n0
  have hl_u0 : vs_u0.length = n_u0.toNatClampNeg := V_u0.2
  have hn_u0 : ¬ n_u0 < 0 := V_u0.nn
  refine Goes.out (Q := fun o U' => ∃ v L, o = .returned v ∧ Q1 Z u0 p1 k_u0 n_u0 vs_u0 h0 n0 v U'.heap L ∧ FrameEnd s o U' L ({ frames := 1, cells := 0, slots := 0, locals := 13 } : Room).cells ({ frames := 1, cells := 0, slots := 0, locals := 13 } : Room).slots) ?_
  refine Goes.step (S' := s₁.setTop (mkF m 0 #[.val (.ref u0), .val (.int p1)] [])) (fun _ k => castTop (ef1 m u0 p1) k) ?_
  refine Goes.step (S' := s₁.setTop (mkF m 1 #[.val (.ref u0), .val (.int p1)] [(.int p1)])) (fun _ k => XS.iloadN X0.here hx rfl (hb hby d1_0) rfl  k) ?_
  by_cases hc1_1 : (0 : Int32) < p1
  · refine Goes.step (S' := s₁.setTop (mkF m 4 #[.val (.ref u0), .val (.int p1)] [])) (fun _ k => XS.ifNo X0.here hx rfl (hb hby d1_1) rfl ((if0 _ _).trans (tlt hc1_1).2.2.2) k) ?_
    refine Goes.step (S' := s₁.setTop (mkF m 5 #[.val (.ref u0), .val (.int p1)] [(.ref u0)])) (fun _ k => XS.aloadN X0.here hx rfl (hb hby d1_4) rfl rfl k) ?_
    refine Goes.step (S' := s₁.setTop (mkF m 6 #[.val (.ref u0), .val (.int p1)] [(.int (0 : Int32)), (.ref u0)])) (fun _ k => XS.iconst X0.here hx rfl (hb hby d1_5) k) ?_
    refine Goes.step (S' := s₁.setTop (mkF m 7 #[.val (.ref u0), .val (.int p1)] [(.int (vs_u0.getD ((0 : Int32)).toNatClampNeg 0))])) (fun _ k => own_baload X0 hx hZ e0 V_u0 (own_ix1_6 n_u0 vs_u0 hl_u0 hn_u0 p1 hB hc1_1) (hb hby d1_6) _ k) ?_
    refine Goes.step (S' := s₁.setTop (mkF m 9 #[.val (.ref u0), .val (.int p1)] [(.int (35 : Int32)), (.int (vs_u0.getD ((0 : Int32)).toNatClampNeg 0))])) (fun _ k => XS.bipush X0.here hx rfl (hb hby d1_7) k) ?_
    by_cases hc9_2 : (vs_u0.getD ((0 : Int32)).toNatClampNeg 0) = (35 : Int32)
    · refine Goes.step (S' := s₁.setTop (mkF m 20 #[.val (.ref u0), .val (.int p1)] [])) (fun _ k => XS.icmpYes X0.here hx rfl (pc0 := 9) (pc' := 20) rfl (hb hby d1_9) rfl (teq hc9_2).1 (by decide) (by decide) k) ?_
      refine Goes.step (S' := s₁.setTop (mkF m 21 #[.val (.ref u0), .val (.int p1)] [(.int (1 : Int32))])) (fun _ k => XS.iconst X0.here hx rfl (hb hby d1_20) k) ?_
      refine Goes.step (S' := s₁.setTop (mkF m 25 #[.val (.ref u0), .val (.int p1)] [(.int (1 : Int32))])) (fun _ k => XS.goto X0.here hx rfl (pc0 := 21) (pc' := 25) rfl (hb hby d1_21) (by decide) (by decide) k) ?_
      refine Goes.retN X0 hx Bd.notSynchronized (t := .boolean) Bd.returns (by simp) (hb hby d1_25) (by decide) (by decide) ?_
      refine ⟨congrArg (fun z => some (Value.int z)) ?_, N0, e0⟩
      rw [f1, if_pos hc1_1, if_pos hc9_2]
      try rfl
    · refine Goes.step (S' := s₁.setTop (mkF m 12 #[.val (.ref u0), .val (.int p1)] [])) (fun _ k => XS.icmpNo X0.here hx rfl (hb hby d1_9) rfl (feq hc9_2).1 k) ?_
      refine Goes.step (S' := s₁.setTop (mkF m 13 #[.val (.ref u0), .val (.int p1)] [(.ref u0)])) (fun _ k => XS.aloadN X0.here hx rfl (hb hby d1_12) rfl rfl k) ?_
      refine Goes.step (S' := s₁.setTop (mkF m 14 #[.val (.ref u0), .val (.int p1)] [(.int p1), (.ref u0)])) (fun _ k => XS.iloadN X0.here hx rfl (hb hby d1_13) rfl  k) ?_
      obtain ⟨_, _, ⟨T1, L1, k1, n1⟩, -, X1, ⟨Lc1, hQ1, l1, y1, z1⟩, st1⟩ := Jvm.LawKit.callS X0 hx (y := (⟨"fivewords/cli/ChecksumLine", "withoutReturn", "([BI)I"⟩ : MethodName)) hown (mvT hZ (hw _ (List.mem_of_getElem? (i := 6) rfl))) (mvT hZ (hw _ (List.mem_of_getElem? (i := 7) rfl))) (mvT hZ (hw _ (List.mem_of_getElem? (i := 4) rfl))) (mvT hZ (hw _ (List.mem_of_getElem? (i := 8) rfl))) (by decide) (backOf (W := 0) (rm2 l Z a0 hw [] u0 p1 k_u0 n_u0 vs_u0 h0 n0 Z0 V_u0 (own_pr1_14_hB n_u0 vs_u0 hl_u0 hn_u0 p1 hB hc1_1 hc9_2)) hZ (hw _ (List.mem_of_getElem? (i := 8) rfl)) (hw _ (List.mem_of_getElem? (i := 4) rfl)) (by decide) (by decide)) (g := (mkF m 14 #[.val (.ref u0), .val (.int p1)] [(.int p1), (.ref u0)])) rfl (by rw [hml]; rfl) (argsL := [(.ref u0), (.int p1)]) (rest := []) (lenOf pd0 rfl) rfl (by show 2 * 0 + _ ≤ _; exact Nat.le_of_eq rfl) (hb hby d1_14) (fun _ _ => ⟨rfl, e0, (by decide : 0 + 0 ≤ _), (by decide : 0 + 0 ≤ _)⟩)
      dsimp only [Pt.U, Pt.locs, Pt.cells, Pt.slots] at X1 l1 y1 z1 st1 hQ1
      subst l1 y1 z1
      obtain ⟨rfl, N1q, e1⟩ := hQ1
      have N2 := Fr.app N0 N1q
      refine Goes.step (S' := T1.setTop (mkF m 17 #[.val (.ref u0), .val (.int p1)] [(.int (f2 n_u0 vs_u0 p1))])) st1 ?_
      refine Goes.step (own_ite1 (T := T1) (c := (f2 n_u0 vs_u0 p1) = (0 : Int32)) (a0 := (1 : Int32)) (b0 := (0 : Int32)) (F := fun z3_0 => (mkF m 25 #[.val (.ref u0), .val (.int p1)] [(.int z3_0)])) ?_ ?_) ?_
      · intro hc17_3 t k
        refine XS.ifNo X1.here hx rfl (hb hby d1_17) rfl ((if0 _ _).trans (teq hc17_3).2) ?_
        show Steps p.tables e below (T1.setTop (mkF m 20 #[.val (.ref u0), .val (.int p1)] [])) _
        refine XS.iconst X1.here hx rfl (hb hby d1_20) ?_
        show Steps p.tables e below (T1.setTop (mkF m 21 #[.val (.ref u0), .val (.int p1)] [(.int (1 : Int32))])) _
        refine XS.goto X1.here hx rfl (pc0 := 21) (pc' := 25) rfl (hb hby d1_21) (by decide) (by decide) ?_
        show Steps p.tables e below (T1.setTop (mkF m 25 #[.val (.ref u0), .val (.int p1)] [(.int (1 : Int32))])) _
        exact k
      · intro hc17_3 t k
        refine XS.ifYes X1.here hx rfl (pc0 := 17) (pc' := 24) rfl (hb hby d1_17) rfl ((if0 _ _).trans (feq hc17_3).2) (by decide) (by decide) ?_
        show Steps p.tables e below (T1.setTop (mkF m 24 #[.val (.ref u0), .val (.int p1)] [])) _
        refine XS.iconst X1.here hx rfl (hb hby d1_24) ?_
        show Steps p.tables e below (T1.setTop (mkF m 25 #[.val (.ref u0), .val (.int p1)] [(.int (0 : Int32))])) _
        exact k
      show Goes p.tables e below _ (T1.setTop (mkF m 25 #[.val (.ref u0), .val (.int p1)] [(.int (if (f2 n_u0 vs_u0 p1) = (0 : Int32) then (1 : Int32) else (0 : Int32)))]))
      refine Goes.retN X1 hx Bd.notSynchronized (t := .boolean) Bd.returns (by simp) (hb hby d1_25) (by decide) (by decide) ?_
      refine ⟨congrArg (fun z => some (Value.int z)) ?_, N2, e1⟩
      rw [f1, if_pos hc1_1, if_neg hc9_2]
      try rfl
  · refine Goes.step (S' := s₁.setTop (mkF m 12 #[.val (.ref u0), .val (.int p1)] [])) (fun _ k => XS.ifYes X0.here hx rfl (pc0 := 1) (pc' := 12) rfl (hb hby d1_1) rfl ((if0 _ _).trans (flt hc1_1).2.2.2) (by decide) (by decide) k) ?_
    refine Goes.step (S' := s₁.setTop (mkF m 13 #[.val (.ref u0), .val (.int p1)] [(.ref u0)])) (fun _ k => XS.aloadN X0.here hx rfl (hb hby d1_12) rfl rfl k) ?_
    refine Goes.step (S' := s₁.setTop (mkF m 14 #[.val (.ref u0), .val (.int p1)] [(.int p1), (.ref u0)])) (fun _ k => XS.iloadN X0.here hx rfl (hb hby d1_13) rfl  k) ?_
    obtain ⟨_, _, ⟨T3, L3, k3, n3⟩, -, X3, ⟨Lc3, hQ3, l3, y3, z3⟩, st3⟩ := Jvm.LawKit.callS X0 hx (y := (⟨"fivewords/cli/ChecksumLine", "withoutReturn", "([BI)I"⟩ : MethodName)) hown (mvT hZ (hw _ (List.mem_of_getElem? (i := 6) rfl))) (mvT hZ (hw _ (List.mem_of_getElem? (i := 7) rfl))) (mvT hZ (hw _ (List.mem_of_getElem? (i := 4) rfl))) (mvT hZ (hw _ (List.mem_of_getElem? (i := 8) rfl))) (by decide) (backOf (W := 0) (rm2 l Z a0 hw [] u0 p1 k_u0 n_u0 vs_u0 h0 n0 Z0 V_u0 (own_pr1_14_hB_2 n_u0 vs_u0 hl_u0 hn_u0 p1 hB hc1_1)) hZ (hw _ (List.mem_of_getElem? (i := 8) rfl)) (hw _ (List.mem_of_getElem? (i := 4) rfl)) (by decide) (by decide)) (g := (mkF m 14 #[.val (.ref u0), .val (.int p1)] [(.int p1), (.ref u0)])) rfl (by rw [hml]; rfl) (argsL := [(.ref u0), (.int p1)]) (rest := []) (lenOf pd0 rfl) rfl (by show 2 * 0 + _ ≤ _; exact Nat.le_of_eq rfl) (hb hby d1_14) (fun _ _ => ⟨rfl, e0, (by decide : 0 + 0 ≤ _), (by decide : 0 + 0 ≤ _)⟩)
    dsimp only [Pt.U, Pt.locs, Pt.cells, Pt.slots] at X3 l3 y3 z3 st3 hQ3
    subst l3 y3 z3
    obtain ⟨rfl, N3q, e3⟩ := hQ3
    have N4 := Fr.app N0 N3q
    refine Goes.step (S' := T3.setTop (mkF m 17 #[.val (.ref u0), .val (.int p1)] [(.int (f2 n_u0 vs_u0 p1))])) st3 ?_
    refine Goes.step (own_ite1 (T := T3) (c := (f2 n_u0 vs_u0 p1) = (0 : Int32)) (a0 := (1 : Int32)) (b0 := (0 : Int32)) (F := fun z4_0 => (mkF m 25 #[.val (.ref u0), .val (.int p1)] [(.int z4_0)])) ?_ ?_) ?_
    · intro hc17_4 t k
      refine XS.ifNo X3.here hx rfl (hb hby d1_17) rfl ((if0 _ _).trans (teq hc17_4).2) ?_
      show Steps p.tables e below (T3.setTop (mkF m 20 #[.val (.ref u0), .val (.int p1)] [])) _
      refine XS.iconst X3.here hx rfl (hb hby d1_20) ?_
      show Steps p.tables e below (T3.setTop (mkF m 21 #[.val (.ref u0), .val (.int p1)] [(.int (1 : Int32))])) _
      refine XS.goto X3.here hx rfl (pc0 := 21) (pc' := 25) rfl (hb hby d1_21) (by decide) (by decide) ?_
      show Steps p.tables e below (T3.setTop (mkF m 25 #[.val (.ref u0), .val (.int p1)] [(.int (1 : Int32))])) _
      exact k
    · intro hc17_4 t k
      refine XS.ifYes X3.here hx rfl (pc0 := 17) (pc' := 24) rfl (hb hby d1_17) rfl ((if0 _ _).trans (feq hc17_4).2) (by decide) (by decide) ?_
      show Steps p.tables e below (T3.setTop (mkF m 24 #[.val (.ref u0), .val (.int p1)] [])) _
      refine XS.iconst X3.here hx rfl (hb hby d1_24) ?_
      show Steps p.tables e below (T3.setTop (mkF m 25 #[.val (.ref u0), .val (.int p1)] [(.int (0 : Int32))])) _
      exact k
    show Goes p.tables e below _ (T3.setTop (mkF m 25 #[.val (.ref u0), .val (.int p1)] [(.int (if (f2 n_u0 vs_u0 p1) = (0 : Int32) then (1 : Int32) else (0 : Int32)))]))
    refine Goes.retN X3 hx Bd.notSynchronized (t := .boolean) Bd.returns (by simp) (hb hby d1_25) (by decide) (by decide) ?_
    refine ⟨congrArg (fun z => some (Value.int z)) ?_, N4, e3⟩
    rw [f1, if_neg hc1_1]
    try rfl
theorem pd1 : parseMethodDescriptor "([BI)Z" = some ⟨[(.array .byte), .int], some .boolean⟩ := by decide +kernel
theorem pn1 : plainName "fivewords/cli/ChecksumLineIsPassedOverPinLaw" = true := by first | (simp [plainName, overriddenIn]; done) | decide +kernel
theorem ef0 (m : MethodId) (p0 : Int32) (p1 : Int32) (p2 : Int32) (p3 : Int32) : entryFrame m #[(.int p0), (.int p1), (.int p2), (.int p3)] maxLocals = mkF m 0 #[.val (.int p0), .val (.int p1), .val (.int p2), .val (.int p3), .unset, .unset, .unset, .unset] [] := by first | (simp [entryFrame, mkF, argsToLocals, Value.category, maxLocals]; done) | rfl
theorem own_pr0_35_hB (p0 : Int32) (p1 : Int32) (p2 : Int32) (p3 : Int32) (v4_6 : Int32) (ev4_6 : v4_6 = ((p3 &&& (2147483647 : Int32)) % (4 : Int32))) : ¬ (3 : Int32) < v4_6 := by
  have hcase : v4_6 = 0 ∨ v4_6 = 1 ∨ v4_6 = 2 ∨ v4_6 = 3 := by
    have a : (p3 &&& 2147483647).toInt = p3.toInt % 2147483648 := c_mask p3 2147483647 31 (by decide) (by decide)
    have b := c_irem (p3 &&& 2147483647) 4 4 (by decide)
    rw [← ev4_6] at b
    simp only [← Int32.toInt_inj, Int32.reduceToInt]
    omega
  rcases hcase with h | h | h | h <;> rw [h] <;> decide
theorem own_hc0_94 (p0 : Int32) (p1 : Int32) (p2 : Int32) (p3 : Int32) (v4_6 : Int32) (ev4_6 : v4_6 = ((p3 &&& (2147483647 : Int32)) % (4 : Int32))) (v6_38 : Int32) (ev6_38 : v6_38 = (f1 (3 : Int32) [(nar .byte (p0.toInt8.toInt32)), (nar .byte (p1.toInt8.toInt32)), (nar .byte (p2.toInt8.toInt32))] v4_6)) (v7_90 : Int32) (ev7_90 : v7_90 = (if v4_6 = (0 : Int32) then (1 : Int32) else (if (nar .byte (p0.toInt8.toInt32)) = (35 : Int32) then (1 : Int32) else (if v4_6 = (1 : Int32) then (if (nar .byte (p0.toInt8.toInt32)) = (13 : Int32) then (1 : Int32) else (0 : Int32)) else (0 : Int32))))) : v6_38 = v7_90 := by
  have hcase : v4_6 = 0 ∨ v4_6 = 1 ∨ v4_6 = 2 ∨ v4_6 = 3 := by
    have a : (p3 &&& 2147483647).toInt = p3.toInt % 2147483648 := c_mask p3 2147483647 31 (by decide) (by decide)
    have b := c_irem (p3 &&& 2147483647) 4 4 (by decide)
    rw [← ev4_6] at b
    simp only [← Int32.toInt_inj, Int32.reduceToInt]
    omega
  rw [ev6_38, ev7_90]
  clear ev6_38 ev7_90 ev4_6
  generalize nar .byte (p0.toInt8.toInt32) = A
  generalize nar .byte (p1.toInt8.toInt32) = B
  generalize nar .byte (p2.toInt8.toInt32) = C
  rcases hcase with h | h | h | h <;> subst h
  · show (nar .boolean (if (0 : Int32) = 0 then 1 else 0)) = _
    rfl
  · show (if A = 35 then (1 : Int32) else nar .boolean (if (if A = 13 then (0 : Int32) else 1) = 0 then 1 else 0)) = (if A = 35 then 1 else (if A = 13 then 1 else 0))
    by_cases e1 : A = 35 <;> by_cases e2 : A = 13 <;> simp only [e1, e2, if_true, if_false] <;> rfl
  · show (if A = 35 then (1 : Int32) else nar .boolean (if (if B = 13 then (1 : Int32) else 2) = 0 then 1 else 0)) = (if A = 35 then 1 else 0)
    by_cases e1 : A = 35 <;> by_cases e2 : B = 13 <;> simp only [e1, e2, if_true, if_false] <;> rfl
  · show (if A = 35 then (1 : Int32) else nar .boolean (if (if C = 13 then (2 : Int32) else 3) = 0 then 1 else 0)) = (if A = 35 then 1 else 0)
    by_cases e1 : A = 35 <;> by_cases e2 : C = 13 <;> simp only [e1, e2, if_true, if_false] <;> rfl
def Q0 (Z : State) (p0 : Int32) (p1 : Int32) (p2 : Int32) (p3 : Int32) (h0 : Heap) (n0 : Nat) (v : Option Value) (h : Heap) (L : List Loc) : Prop := v = some (.int 1) ∧ Fr n0 L
set_option maxRecDepth 65536 in
set_option maxHeartbeats 40000000 in
theorem rm0 (l : Launch) (Z : State) (a0 : Array Value) (hw : ∀ d ∈ tables_1, d.before a0 Z = true) (ws : List Jvm.Cond) (p0 : Int32) (p1 : Int32) (p2 : Int32) (p3 : Int32) (h0 : Heap) (n0 : Nat) (Z0 : n0 ≤ h0.size) :
    MetFree l x (head1 (Jvm.Cond.code x code maxLocals ret :: ws) room_1) (fun a U => a = #[(.int p0), (.int p1), (.int p2), (.int p3)] ∧ Z.Warmed39 U.vm ∧ U.heap = h0) (fun _ _ _ _ _ => True) (fun _ U o U' => ∃ v L, o = .returned v ∧ Q0 Z p0 p1 p2 p3 h0 n0 v U'.heap L ∧ FrameEnd U o U' L room_1.cells room_1.slots) := by
  refine MetFree.of_bodySF (plainFor_of_name pn1) hisR ?_
  intro p e s m args below meth c s₁ Bd hml0 hP hK
  obtain ⟨rfl, hZ, hh⟩ := hP
  have hx := Bd.exec
  have hby := Bd.bytes
  have hml : c.maxLocals = 8 := hml0
  have hown : s.vm.findClass "fivewords/cli/ChecksumLineIsPassedOverPinLaw" = some m.cls := findClass_of_methodNamed Bd.named
  have hnm := (name_of_methodNamed Bd.named Bd.method).1
  have X0 : Stand p l e room_1 s m #[(.int p0), (.int p1), (.int p2), (.int p3)] below meth c s₁ [] 0 0 := Stand.of_body Bd
  have e0 : s₁.heap = h0 := by rw [← hh, Bd.state]; rfl
  have N0 := Fr.nil n0
  refine Goes.out (Q := fun o U' => ∃ v L, o = .returned v ∧ Q0 Z p0 p1 p2 p3 h0 n0 v U'.heap L ∧ FrameEnd s o U' L room_1.cells room_1.slots) ?_
  refine Goes.step (S' := s₁.setTop (mkF m 0 #[.val (.int p0), .val (.int p1), .val (.int p2), .val (.int p3), .unset, .unset, .unset, .unset] [])) (fun _ k => castTop (ef0 m p0 p1 p2 p3) k) ?_
  refine Goes.step (S' := s₁.setTop (mkF m 1 #[.val (.int p0), .val (.int p1), .val (.int p2), .val (.int p3), .unset, .unset, .unset, .unset] [(.int p3)])) (fun _ k => XS.iloadN X0.here hx rfl (hb hby at_0) rfl  k) ?_
  refine Goes.step (S' := s₁.setTop (mkF m 3 #[.val (.int p0), .val (.int p1), .val (.int p2), .val (.int p3), .unset, .unset, .unset, .unset] [(.int (2147483647 : Int32)), (.int p3)])) (fun _ k => X0.ldcInt hx hown (mvT hZ (hw _ (List.mem_of_getElem? (i := 0) rfl))) (g := (mkF m 1 #[.val (.int p0), .val (.int p1), .val (.int p2), .val (.int p3), .unset, .unset, .unset, .unset] [(.int p3)])) rfl (hb hby at_1) _ k) ?_
  refine Goes.step (S' := s₁.setTop (mkF m 4 #[.val (.int p0), .val (.int p1), .val (.int p2), .val (.int p3), .unset, .unset, .unset, .unset] [(.int (p3 &&& (2147483647 : Int32)))])) (fun _ k => XS.iand X0.here hx rfl (hb hby at_3) rfl k) ?_
  refine Goes.step (S' := s₁.setTop (mkF m 5 #[.val (.int p0), .val (.int p1), .val (.int p2), .val (.int p3), .unset, .unset, .unset, .unset] [(.int (4 : Int32)), (.int (p3 &&& (2147483647 : Int32)))])) (fun _ k => XS.iconst X0.here hx rfl (hb hby at_4) k) ?_
  refine Goes.step (S' := s₁.setTop (mkF m 6 #[.val (.int p0), .val (.int p1), .val (.int p2), .val (.int p3), .unset, .unset, .unset, .unset] [(.int ((p3 &&& (2147483647 : Int32)) % (4 : Int32)))])) (fun _ k => iremM X0 hx rfl (hb hby at_5) rfl (by decide) k) ?_
  refine Goes.step (S' := s₁.setTop (mkF m 8 #[.val (.int p0), .val (.int p1), .val (.int p2), .val (.int p3), .val (.int ((p3 &&& (2147483647 : Int32)) % (4 : Int32))), .unset, .unset, .unset] [])) (fun _ k => XS.istore X0.here hx rfl (hb hby at_6) rfl (l' := #[.val (.int p0), .val (.int p1), .val (.int p2), .val (.int p3), .val (.int ((p3 &&& (2147483647 : Int32)) % (4 : Int32))), .unset, .unset, .unset]) rfl k) ?_
  obtain ⟨v4_6, ev4_6⟩ : ∃ z : Int32, z = ((p3 &&& (2147483647 : Int32)) % (4 : Int32)) := ⟨_, rfl⟩
  rw [← ev4_6]
  refine Goes.step (S' := s₁.setTop (mkF m 9 #[.val (.int p0), .val (.int p1), .val (.int p2), .val (.int p3), .val (.int v4_6), .unset, .unset, .unset] [(.int (3 : Int32))])) (fun _ k => XS.iconst X0.here hx rfl (hb hby at_8) k) ?_
  obtain ⟨T1, h1, k1, X1, e1, E1, A1, st1⟩ := newP X0 hx hZ (hw _ (List.mem_of_getElem? (i := 1) rfl)) e0 (g := (mkF m 9 #[.val (.int p0), .val (.int p1), .val (.int p2), .val (.int p3), .val (.int v4_6), .unset, .unset, .unset] [(.int (3 : Int32))])) rfl (hb hby at_9) rfl (by decide) (cap := 3) (by decide) (by decide) (by decide) (by decide)
  obtain ⟨b1, g1⟩ : ∃ z, z = h0.size := ⟨_, rfl⟩
  rw [← g1] at A1 st1
  have g2 : n0 ≤ b1 := Nat.le_trans Z0 (Nat.le_of_eq g1.symm)
  have Z3 : n0 ≤ h1.size := Nat.le_trans Z0 E1.1
  have V4 : AI Z h1 b1 k1 .byte (3 : Int32) [(0 : Int32), (0 : Int32), (0 : Int32)] := own_new A1 (by decide) rfl
  refine Goes.step (S' := T1.setTop (mkF m 11 #[.val (.int p0), .val (.int p1), .val (.int p2), .val (.int p3), .val (.int v4_6), .unset, .unset, .unset] [(.ref b1)])) st1 ?_
  refine Goes.step (S' := T1.setTop (mkF m 13 #[.val (.int p0), .val (.int p1), .val (.int p2), .val (.int p3), .val (.int v4_6), .val (.ref b1), .unset, .unset] [])) (fun _ k => XS.astore X1.here hx rfl (hb hby at_11) rfl rfl (l' := #[.val (.int p0), .val (.int p1), .val (.int p2), .val (.int p3), .val (.int v4_6), .val (.ref b1), .unset, .unset]) rfl k) ?_
  refine Goes.step (S' := T1.setTop (mkF m 15 #[.val (.int p0), .val (.int p1), .val (.int p2), .val (.int p3), .val (.int v4_6), .val (.ref b1), .unset, .unset] [(.ref b1)])) (fun _ k => XS.aload X1.here hx rfl (hb hby at_13) rfl rfl k) ?_
  refine Goes.step (S' := T1.setTop (mkF m 16 #[.val (.int p0), .val (.int p1), .val (.int p2), .val (.int p3), .val (.int v4_6), .val (.ref b1), .unset, .unset] [(.int (0 : Int32)), (.ref b1)])) (fun _ k => XS.iconst X1.here hx rfl (hb hby at_15) k) ?_
  refine Goes.step (S' := T1.setTop (mkF m 17 #[.val (.int p0), .val (.int p1), .val (.int p2), .val (.int p3), .val (.int v4_6), .val (.ref b1), .unset, .unset] [(.int p0), (.int (0 : Int32)), (.ref b1)])) (fun _ k => XS.iloadN X1.here hx rfl (hb hby at_16) rfl  k) ?_
  refine Goes.step (S' := T1.setTop (mkF m 18 #[.val (.int p0), .val (.int p1), .val (.int p2), .val (.int p3), .val (.int v4_6), .val (.ref b1), .unset, .unset] [(.int (p0.toInt8.toInt32)), (.int (0 : Int32)), (.ref b1)])) (fun _ k => XS.i2b X1.here hx rfl (hb hby at_17) rfl k) ?_
  obtain ⟨T5, h5, X5, e5, W5, V_5, st5⟩ := own_bastore X1 hx hZ e1 V4 ⟨by decide, by decide⟩ (g := (mkF m 18 #[.val (.int p0), .val (.int p1), .val (.int p2), .val (.int p3), .val (.int v4_6), .val (.ref b1), .unset, .unset] [(.int (p0.toInt8.toInt32)), (.int (0 : Int32)), (.ref b1)])) rfl rfl (hb hby at_18)
  replace V_5 : AI Z h5 b1 k1 .byte (3 : Int32) [(nar .byte (p0.toInt8.toInt32)), (0 : Int32), (0 : Int32)] := V_5
  have N6 := Fr.snoc X5 N0 g2
  have Z7 : n0 ≤ h5.size := Nat.le_trans Z3 (Nat.le_of_eq W5.size.symm)
  refine Goes.step (S' := T5.setTop (mkF m 19 #[.val (.int p0), .val (.int p1), .val (.int p2), .val (.int p3), .val (.int v4_6), .val (.ref b1), .unset, .unset] [])) st5 ?_
  refine Goes.step (S' := T5.setTop (mkF m 21 #[.val (.int p0), .val (.int p1), .val (.int p2), .val (.int p3), .val (.int v4_6), .val (.ref b1), .unset, .unset] [(.ref b1)])) (fun _ k => XS.aload X5.here hx rfl (hb hby at_19) rfl rfl k) ?_
  refine Goes.step (S' := T5.setTop (mkF m 22 #[.val (.int p0), .val (.int p1), .val (.int p2), .val (.int p3), .val (.int v4_6), .val (.ref b1), .unset, .unset] [(.int (1 : Int32)), (.ref b1)])) (fun _ k => XS.iconst X5.here hx rfl (hb hby at_21) k) ?_
  refine Goes.step (S' := T5.setTop (mkF m 23 #[.val (.int p0), .val (.int p1), .val (.int p2), .val (.int p3), .val (.int v4_6), .val (.ref b1), .unset, .unset] [(.int p1), (.int (1 : Int32)), (.ref b1)])) (fun _ k => XS.iloadN X5.here hx rfl (hb hby at_22) rfl  k) ?_
  refine Goes.step (S' := T5.setTop (mkF m 24 #[.val (.int p0), .val (.int p1), .val (.int p2), .val (.int p3), .val (.int v4_6), .val (.ref b1), .unset, .unset] [(.int (p1.toInt8.toInt32)), (.int (1 : Int32)), (.ref b1)])) (fun _ k => XS.i2b X5.here hx rfl (hb hby at_23) rfl k) ?_
  obtain ⟨T8, h8, X8, e8, W8, V_8, st8⟩ := own_bastore X5 hx hZ e5 V_5 ⟨by decide, by decide⟩ (g := (mkF m 24 #[.val (.int p0), .val (.int p1), .val (.int p2), .val (.int p3), .val (.int v4_6), .val (.ref b1), .unset, .unset] [(.int (p1.toInt8.toInt32)), (.int (1 : Int32)), (.ref b1)])) rfl rfl (hb hby at_24)
  replace V_8 : AI Z h8 b1 k1 .byte (3 : Int32) [(nar .byte (p0.toInt8.toInt32)), (nar .byte (p1.toInt8.toInt32)), (0 : Int32)] := V_8
  have N9 := Fr.snoc X8 N6 g2
  have Z10 : n0 ≤ h8.size := Nat.le_trans Z7 (Nat.le_of_eq W8.size.symm)
  refine Goes.step (S' := T8.setTop (mkF m 25 #[.val (.int p0), .val (.int p1), .val (.int p2), .val (.int p3), .val (.int v4_6), .val (.ref b1), .unset, .unset] [])) st8 ?_
  refine Goes.step (S' := T8.setTop (mkF m 27 #[.val (.int p0), .val (.int p1), .val (.int p2), .val (.int p3), .val (.int v4_6), .val (.ref b1), .unset, .unset] [(.ref b1)])) (fun _ k => XS.aload X8.here hx rfl (hb hby at_25) rfl rfl k) ?_
  refine Goes.step (S' := T8.setTop (mkF m 28 #[.val (.int p0), .val (.int p1), .val (.int p2), .val (.int p3), .val (.int v4_6), .val (.ref b1), .unset, .unset] [(.int (2 : Int32)), (.ref b1)])) (fun _ k => XS.iconst X8.here hx rfl (hb hby at_27) k) ?_
  refine Goes.step (S' := T8.setTop (mkF m 29 #[.val (.int p0), .val (.int p1), .val (.int p2), .val (.int p3), .val (.int v4_6), .val (.ref b1), .unset, .unset] [(.int p2), (.int (2 : Int32)), (.ref b1)])) (fun _ k => XS.iloadN X8.here hx rfl (hb hby at_28) rfl  k) ?_
  refine Goes.step (S' := T8.setTop (mkF m 30 #[.val (.int p0), .val (.int p1), .val (.int p2), .val (.int p3), .val (.int v4_6), .val (.ref b1), .unset, .unset] [(.int (p2.toInt8.toInt32)), (.int (2 : Int32)), (.ref b1)])) (fun _ k => XS.i2b X8.here hx rfl (hb hby at_29) rfl k) ?_
  obtain ⟨T11, h11, X11, e11, W11, V_11, st11⟩ := own_bastore X8 hx hZ e8 V_8 ⟨by decide, by decide⟩ (g := (mkF m 30 #[.val (.int p0), .val (.int p1), .val (.int p2), .val (.int p3), .val (.int v4_6), .val (.ref b1), .unset, .unset] [(.int (p2.toInt8.toInt32)), (.int (2 : Int32)), (.ref b1)])) rfl rfl (hb hby at_30)
  replace V_11 : AI Z h11 b1 k1 .byte (3 : Int32) [(nar .byte (p0.toInt8.toInt32)), (nar .byte (p1.toInt8.toInt32)), (nar .byte (p2.toInt8.toInt32))] := V_11
  have N12 := Fr.snoc X11 N9 g2
  have Z13 : n0 ≤ h11.size := Nat.le_trans Z10 (Nat.le_of_eq W11.size.symm)
  refine Goes.step (S' := T11.setTop (mkF m 31 #[.val (.int p0), .val (.int p1), .val (.int p2), .val (.int p3), .val (.int v4_6), .val (.ref b1), .unset, .unset] [])) st11 ?_
  refine Goes.step (S' := T11.setTop (mkF m 33 #[.val (.int p0), .val (.int p1), .val (.int p2), .val (.int p3), .val (.int v4_6), .val (.ref b1), .unset, .unset] [(.ref b1)])) (fun _ k => XS.aload X11.here hx rfl (hb hby at_31) rfl rfl k) ?_
  refine Goes.step (S' := T11.setTop (mkF m 35 #[.val (.int p0), .val (.int p1), .val (.int p2), .val (.int p3), .val (.int v4_6), .val (.ref b1), .unset, .unset] [(.int v4_6), (.ref b1)])) (fun _ k => XS.iload X11.here hx rfl (hb hby at_33) rfl  k) ?_
  obtain ⟨_, _, ⟨T14, L14, k14, n14⟩, -, X14, ⟨Lc14, hQ14, l14, y14, z14⟩, st14⟩ := Jvm.LawKit.callS X11 hx (y := (⟨"fivewords/cli/ChecksumLine", "isPassedOver", "([BI)Z"⟩ : MethodName)) hown (mvT hZ (hw _ (List.mem_of_getElem? (i := 2) rfl))) (mvT hZ (hw _ (List.mem_of_getElem? (i := 3) rfl))) (mvT hZ (hw _ (List.mem_of_getElem? (i := 4) rfl))) (mvT hZ (hw _ (List.mem_of_getElem? (i := 5) rfl))) (by decide) (backOf (W := 0) (rm1 l Z a0 hw [] b1 v4_6 k1 ((3 : Int32)) ([(nar .byte (p0.toInt8.toInt32)), (nar .byte (p1.toInt8.toInt32)), (nar .byte (p2.toInt8.toInt32))]) h11 n0 Z13 V_11 (own_pr0_35_hB p0 p1 p2 p3 v4_6 ev4_6)) hZ (hw _ (List.mem_of_getElem? (i := 5) rfl)) (hw _ (List.mem_of_getElem? (i := 4) rfl)) (by decide) (by decide)) (g := (mkF m 35 #[.val (.int p0), .val (.int p1), .val (.int p2), .val (.int p3), .val (.int v4_6), .val (.ref b1), .unset, .unset] [(.int v4_6), (.ref b1)])) rfl (by rw [hml]; rfl) (argsL := [(.ref b1), (.int v4_6)]) (rest := []) (lenOf pd1 rfl) rfl (by show 2 * 0 + _ ≤ _; exact Nat.le_of_eq rfl) (hb hby at_35) (fun _ _ => ⟨rfl, e11, (by decide : 1 + 0 ≤ _), (by decide : 3 + 0 ≤ _)⟩)
  dsimp only [Pt.U, Pt.locs, Pt.cells, Pt.slots] at X14 l14 y14 z14 st14 hQ14
  subst l14 y14 z14
  obtain ⟨rfl, N14q, e14⟩ := hQ14
  have N15 := Fr.app N12 N14q
  refine Goes.step (S' := T14.setTop (mkF m 38 #[.val (.int p0), .val (.int p1), .val (.int p2), .val (.int p3), .val (.int v4_6), .val (.ref b1), .unset, .unset] [(.int (f1 (3 : Int32) [(nar .byte (p0.toInt8.toInt32)), (nar .byte (p1.toInt8.toInt32)), (nar .byte (p2.toInt8.toInt32))] v4_6))])) st14 ?_
  refine Goes.step (S' := T14.setTop (mkF m 40 #[.val (.int p0), .val (.int p1), .val (.int p2), .val (.int p3), .val (.int v4_6), .val (.ref b1), .val (.int (f1 (3 : Int32) [(nar .byte (p0.toInt8.toInt32)), (nar .byte (p1.toInt8.toInt32)), (nar .byte (p2.toInt8.toInt32))] v4_6)), .unset] [])) (fun _ k => XS.istore X14.here hx rfl (hb hby at_38) rfl (l' := #[.val (.int p0), .val (.int p1), .val (.int p2), .val (.int p3), .val (.int v4_6), .val (.ref b1), .val (.int (f1 (3 : Int32) [(nar .byte (p0.toInt8.toInt32)), (nar .byte (p1.toInt8.toInt32)), (nar .byte (p2.toInt8.toInt32))] v4_6)), .unset]) rfl k) ?_
  obtain ⟨v6_38, ev6_38⟩ : ∃ z : Int32, z = (f1 (3 : Int32) [(nar .byte (p0.toInt8.toInt32)), (nar .byte (p1.toInt8.toInt32)), (nar .byte (p2.toInt8.toInt32))] v4_6) := ⟨_, rfl⟩
  rw [← ev6_38]
  refine Goes.step (S' := T14.setTop (mkF m 42 #[.val (.int p0), .val (.int p1), .val (.int p2), .val (.int p3), .val (.int v4_6), .val (.ref b1), .val (.int v6_38), .unset] [(.int v4_6)])) (fun _ k => XS.iload X14.here hx rfl (hb hby at_40) rfl  k) ?_
  refine Goes.step (own_ite1 (T := T14) (c := v4_6 = (0 : Int32)) (a0 := (1 : Int32)) (b0 := (if (nar .byte (p0.toInt8.toInt32)) = (35 : Int32) then (1 : Int32) else (if v4_6 = (1 : Int32) then (if (nar .byte (p0.toInt8.toInt32)) = (13 : Int32) then (1 : Int32) else (0 : Int32)) else (0 : Int32)))) (F := fun z4_0 => (mkF m 90 #[.val (.int p0), .val (.int p1), .val (.int p2), .val (.int p3), .val (.int v4_6), .val (.ref b1), .val (.int v6_38), .val (.int z4_0)] [])) ?_ ?_) ?_
  · intro hc42_1 t k
    refine XS.ifNo X14.here hx rfl (hb hby at_42) rfl ((if0 _ _).trans (teq hc42_1).2) ?_
    show Steps p.tables e below (T14.setTop (mkF m 45 #[.val (.int p0), .val (.int p1), .val (.int p2), .val (.int p3), .val (.int v4_6), .val (.ref b1), .val (.int v6_38), .unset] [])) _
    refine XS.iconst X14.here hx rfl (hb hby at_45) ?_
    show Steps p.tables e below (T14.setTop (mkF m 46 #[.val (.int p0), .val (.int p1), .val (.int p2), .val (.int p3), .val (.int v4_6), .val (.ref b1), .val (.int v6_38), .unset] [(.int (1 : Int32))])) _
    refine XS.istore X14.here hx rfl (hb hby at_46) rfl (l' := #[.val (.int p0), .val (.int p1), .val (.int p2), .val (.int p3), .val (.int v4_6), .val (.ref b1), .val (.int v6_38), .val (.int (1 : Int32))]) rfl ?_
    show Steps p.tables e below (T14.setTop (mkF m 48 #[.val (.int p0), .val (.int p1), .val (.int p2), .val (.int p3), .val (.int v4_6), .val (.ref b1), .val (.int v6_38), .val (.int (1 : Int32))] [])) _
    refine XS.goto X14.here hx rfl (pc0 := 48) (pc' := 90) rfl (hb hby at_48) (by decide) (by decide) ?_
    show Steps p.tables e below (T14.setTop (mkF m 90 #[.val (.int p0), .val (.int p1), .val (.int p2), .val (.int p3), .val (.int v4_6), .val (.ref b1), .val (.int v6_38), .val (.int (1 : Int32))] [])) _
    exact k
  · intro hc42_1 t k
    refine XS.ifYes X14.here hx rfl (pc0 := 42) (pc' := 51) rfl (hb hby at_42) rfl ((if0 _ _).trans (feq hc42_1).2) (by decide) (by decide) ?_
    show Steps p.tables e below (T14.setTop (mkF m 51 #[.val (.int p0), .val (.int p1), .val (.int p2), .val (.int p3), .val (.int v4_6), .val (.ref b1), .val (.int v6_38), .unset] [])) _
    refine XS.aload X14.here hx rfl (hb hby at_51) rfl rfl ?_
    show Steps p.tables e below (T14.setTop (mkF m 53 #[.val (.int p0), .val (.int p1), .val (.int p2), .val (.int p3), .val (.int v4_6), .val (.ref b1), .val (.int v6_38), .unset] [(.ref b1)])) _
    refine XS.iconst X14.here hx rfl (hb hby at_53) ?_
    show Steps p.tables e below (T14.setTop (mkF m 54 #[.val (.int p0), .val (.int p1), .val (.int p2), .val (.int p3), .val (.int v4_6), .val (.ref b1), .val (.int v6_38), .unset] [(.int (0 : Int32)), (.ref b1)])) _
    refine own_baload X14 hx hZ e14 V_11 ⟨by decide, by decide⟩ (hb hby at_54) _ ?_
    show Steps p.tables e below (T14.setTop (mkF m 55 #[.val (.int p0), .val (.int p1), .val (.int p2), .val (.int p3), .val (.int v4_6), .val (.ref b1), .val (.int v6_38), .unset] [(.int (nar .byte (p0.toInt8.toInt32)))])) _
    refine XS.bipush X14.here hx rfl (hb hby at_55) ?_
    show Steps p.tables e below (T14.setTop (mkF m 57 #[.val (.int p0), .val (.int p1), .val (.int p2), .val (.int p3), .val (.int v4_6), .val (.ref b1), .val (.int v6_38), .unset] [(.int (35 : Int32)), (.int (nar .byte (p0.toInt8.toInt32)))])) _
    refine own_ite1 (T := T14) (c := (nar .byte (p0.toInt8.toInt32)) = (35 : Int32)) (a0 := (1 : Int32)) (b0 := (if v4_6 = (1 : Int32) then (if (nar .byte (p0.toInt8.toInt32)) = (13 : Int32) then (1 : Int32) else (0 : Int32)) else (0 : Int32))) (F := fun z4_0 => (mkF m 90 #[.val (.int p0), .val (.int p1), .val (.int p2), .val (.int p3), .val (.int v4_6), .val (.ref b1), .val (.int v6_38), .val (.int z4_0)] [])) ?_ ?_ _ ?_
    · intro hc57_2 t k
      refine XS.icmpNo X14.here hx rfl (hb hby at_57) rfl (teq hc57_2).2 ?_
      show Steps p.tables e below (T14.setTop (mkF m 60 #[.val (.int p0), .val (.int p1), .val (.int p2), .val (.int p3), .val (.int v4_6), .val (.ref b1), .val (.int v6_38), .unset] [])) _
      refine XS.iconst X14.here hx rfl (hb hby at_60) ?_
      show Steps p.tables e below (T14.setTop (mkF m 61 #[.val (.int p0), .val (.int p1), .val (.int p2), .val (.int p3), .val (.int v4_6), .val (.ref b1), .val (.int v6_38), .unset] [(.int (1 : Int32))])) _
      refine XS.istore X14.here hx rfl (hb hby at_61) rfl (l' := #[.val (.int p0), .val (.int p1), .val (.int p2), .val (.int p3), .val (.int v4_6), .val (.ref b1), .val (.int v6_38), .val (.int (1 : Int32))]) rfl ?_
      show Steps p.tables e below (T14.setTop (mkF m 63 #[.val (.int p0), .val (.int p1), .val (.int p2), .val (.int p3), .val (.int v4_6), .val (.ref b1), .val (.int v6_38), .val (.int (1 : Int32))] [])) _
      refine XS.goto X14.here hx rfl (pc0 := 63) (pc' := 90) rfl (hb hby at_63) (by decide) (by decide) ?_
      show Steps p.tables e below (T14.setTop (mkF m 90 #[.val (.int p0), .val (.int p1), .val (.int p2), .val (.int p3), .val (.int v4_6), .val (.ref b1), .val (.int v6_38), .val (.int (1 : Int32))] [])) _
      exact k
    · intro hc57_2 t k
      refine XS.icmpYes X14.here hx rfl (pc0 := 57) (pc' := 66) rfl (hb hby at_57) rfl (feq hc57_2).2 (by decide) (by decide) ?_
      show Steps p.tables e below (T14.setTop (mkF m 66 #[.val (.int p0), .val (.int p1), .val (.int p2), .val (.int p3), .val (.int v4_6), .val (.ref b1), .val (.int v6_38), .unset] [])) _
      refine XS.iload X14.here hx rfl (hb hby at_66) rfl  ?_
      show Steps p.tables e below (T14.setTop (mkF m 68 #[.val (.int p0), .val (.int p1), .val (.int p2), .val (.int p3), .val (.int v4_6), .val (.ref b1), .val (.int v6_38), .unset] [(.int v4_6)])) _
      refine XS.iconst X14.here hx rfl (hb hby at_68) ?_
      show Steps p.tables e below (T14.setTop (mkF m 69 #[.val (.int p0), .val (.int p1), .val (.int p2), .val (.int p3), .val (.int v4_6), .val (.ref b1), .val (.int v6_38), .unset] [(.int (1 : Int32)), (.int v4_6)])) _
      refine own_ite1 (T := T14) (c := v4_6 = (1 : Int32)) (a0 := (if (nar .byte (p0.toInt8.toInt32)) = (13 : Int32) then (1 : Int32) else (0 : Int32))) (b0 := (0 : Int32)) (F := fun z4_0 => (mkF m 90 #[.val (.int p0), .val (.int p1), .val (.int p2), .val (.int p3), .val (.int v4_6), .val (.ref b1), .val (.int v6_38), .val (.int z4_0)] [])) ?_ ?_ _ ?_
      · intro hc69_3 t k
        refine XS.icmpNo X14.here hx rfl (hb hby at_69) rfl (teq hc69_3).2 ?_
        show Steps p.tables e below (T14.setTop (mkF m 72 #[.val (.int p0), .val (.int p1), .val (.int p2), .val (.int p3), .val (.int v4_6), .val (.ref b1), .val (.int v6_38), .unset] [])) _
        refine XS.aload X14.here hx rfl (hb hby at_72) rfl rfl ?_
        show Steps p.tables e below (T14.setTop (mkF m 74 #[.val (.int p0), .val (.int p1), .val (.int p2), .val (.int p3), .val (.int v4_6), .val (.ref b1), .val (.int v6_38), .unset] [(.ref b1)])) _
        refine XS.iconst X14.here hx rfl (hb hby at_74) ?_
        show Steps p.tables e below (T14.setTop (mkF m 75 #[.val (.int p0), .val (.int p1), .val (.int p2), .val (.int p3), .val (.int v4_6), .val (.ref b1), .val (.int v6_38), .unset] [(.int (0 : Int32)), (.ref b1)])) _
        refine own_baload X14 hx hZ e14 V_11 ⟨by decide, by decide⟩ (hb hby at_75) _ ?_
        show Steps p.tables e below (T14.setTop (mkF m 76 #[.val (.int p0), .val (.int p1), .val (.int p2), .val (.int p3), .val (.int v4_6), .val (.ref b1), .val (.int v6_38), .unset] [(.int (nar .byte (p0.toInt8.toInt32)))])) _
        refine XS.bipush X14.here hx rfl (hb hby at_76) ?_
        show Steps p.tables e below (T14.setTop (mkF m 78 #[.val (.int p0), .val (.int p1), .val (.int p2), .val (.int p3), .val (.int v4_6), .val (.ref b1), .val (.int v6_38), .unset] [(.int (13 : Int32)), (.int (nar .byte (p0.toInt8.toInt32)))])) _
        refine own_ite1 (T := T14) (c := (nar .byte (p0.toInt8.toInt32)) = (13 : Int32)) (a0 := (1 : Int32)) (b0 := (0 : Int32)) (F := fun z4_0 => (mkF m 90 #[.val (.int p0), .val (.int p1), .val (.int p2), .val (.int p3), .val (.int v4_6), .val (.ref b1), .val (.int v6_38), .val (.int z4_0)] [])) ?_ ?_ _ ?_
        · intro hc78_4 t k
          refine XS.icmpNo X14.here hx rfl (hb hby at_78) rfl (teq hc78_4).2 ?_
          show Steps p.tables e below (T14.setTop (mkF m 81 #[.val (.int p0), .val (.int p1), .val (.int p2), .val (.int p3), .val (.int v4_6), .val (.ref b1), .val (.int v6_38), .unset] [])) _
          refine XS.iconst X14.here hx rfl (hb hby at_81) ?_
          show Steps p.tables e below (T14.setTop (mkF m 82 #[.val (.int p0), .val (.int p1), .val (.int p2), .val (.int p3), .val (.int v4_6), .val (.ref b1), .val (.int v6_38), .unset] [(.int (1 : Int32))])) _
          refine XS.istore X14.here hx rfl (hb hby at_82) rfl (l' := #[.val (.int p0), .val (.int p1), .val (.int p2), .val (.int p3), .val (.int v4_6), .val (.ref b1), .val (.int v6_38), .val (.int (1 : Int32))]) rfl ?_
          show Steps p.tables e below (T14.setTop (mkF m 84 #[.val (.int p0), .val (.int p1), .val (.int p2), .val (.int p3), .val (.int v4_6), .val (.ref b1), .val (.int v6_38), .val (.int (1 : Int32))] [])) _
          refine XS.goto X14.here hx rfl (pc0 := 84) (pc' := 90) rfl (hb hby at_84) (by decide) (by decide) ?_
          show Steps p.tables e below (T14.setTop (mkF m 90 #[.val (.int p0), .val (.int p1), .val (.int p2), .val (.int p3), .val (.int v4_6), .val (.ref b1), .val (.int v6_38), .val (.int (1 : Int32))] [])) _
          exact k
        · intro hc78_4 t k
          refine XS.icmpYes X14.here hx rfl (pc0 := 78) (pc' := 87) rfl (hb hby at_78) rfl (feq hc78_4).2 (by decide) (by decide) ?_
          show Steps p.tables e below (T14.setTop (mkF m 87 #[.val (.int p0), .val (.int p1), .val (.int p2), .val (.int p3), .val (.int v4_6), .val (.ref b1), .val (.int v6_38), .unset] [])) _
          refine XS.iconst X14.here hx rfl (hb hby at_87) ?_
          show Steps p.tables e below (T14.setTop (mkF m 88 #[.val (.int p0), .val (.int p1), .val (.int p2), .val (.int p3), .val (.int v4_6), .val (.ref b1), .val (.int v6_38), .unset] [(.int (0 : Int32))])) _
          refine XS.istore X14.here hx rfl (hb hby at_88) rfl (l' := #[.val (.int p0), .val (.int p1), .val (.int p2), .val (.int p3), .val (.int v4_6), .val (.ref b1), .val (.int v6_38), .val (.int (0 : Int32))]) rfl ?_
          show Steps p.tables e below (T14.setTop (mkF m 90 #[.val (.int p0), .val (.int p1), .val (.int p2), .val (.int p3), .val (.int v4_6), .val (.ref b1), .val (.int v6_38), .val (.int (0 : Int32))] [])) _
          exact k
        show Steps p.tables e below (T14.setTop (mkF m 90 #[.val (.int p0), .val (.int p1), .val (.int p2), .val (.int p3), .val (.int v4_6), .val (.ref b1), .val (.int v6_38), .val (.int (if (nar .byte (p0.toInt8.toInt32)) = (13 : Int32) then (1 : Int32) else (0 : Int32)))] [])) _
        exact k
      · intro hc69_3 t k
        refine XS.icmpYes X14.here hx rfl (pc0 := 69) (pc' := 87) rfl (hb hby at_69) rfl (feq hc69_3).2 (by decide) (by decide) ?_
        show Steps p.tables e below (T14.setTop (mkF m 87 #[.val (.int p0), .val (.int p1), .val (.int p2), .val (.int p3), .val (.int v4_6), .val (.ref b1), .val (.int v6_38), .unset] [])) _
        refine XS.iconst X14.here hx rfl (hb hby at_87) ?_
        show Steps p.tables e below (T14.setTop (mkF m 88 #[.val (.int p0), .val (.int p1), .val (.int p2), .val (.int p3), .val (.int v4_6), .val (.ref b1), .val (.int v6_38), .unset] [(.int (0 : Int32))])) _
        refine XS.istore X14.here hx rfl (hb hby at_88) rfl (l' := #[.val (.int p0), .val (.int p1), .val (.int p2), .val (.int p3), .val (.int v4_6), .val (.ref b1), .val (.int v6_38), .val (.int (0 : Int32))]) rfl ?_
        show Steps p.tables e below (T14.setTop (mkF m 90 #[.val (.int p0), .val (.int p1), .val (.int p2), .val (.int p3), .val (.int v4_6), .val (.ref b1), .val (.int v6_38), .val (.int (0 : Int32))] [])) _
        exact k
      show Steps p.tables e below (T14.setTop (mkF m 90 #[.val (.int p0), .val (.int p1), .val (.int p2), .val (.int p3), .val (.int v4_6), .val (.ref b1), .val (.int v6_38), .val (.int (if v4_6 = (1 : Int32) then (if (nar .byte (p0.toInt8.toInt32)) = (13 : Int32) then (1 : Int32) else (0 : Int32)) else (0 : Int32)))] [])) _
      exact k
    show Steps p.tables e below (T14.setTop (mkF m 90 #[.val (.int p0), .val (.int p1), .val (.int p2), .val (.int p3), .val (.int v4_6), .val (.ref b1), .val (.int v6_38), .val (.int (if (nar .byte (p0.toInt8.toInt32)) = (35 : Int32) then (1 : Int32) else (if v4_6 = (1 : Int32) then (if (nar .byte (p0.toInt8.toInt32)) = (13 : Int32) then (1 : Int32) else (0 : Int32)) else (0 : Int32))))] [])) _
    exact k
  show Goes p.tables e below _ (T14.setTop (mkF m 90 #[.val (.int p0), .val (.int p1), .val (.int p2), .val (.int p3), .val (.int v4_6), .val (.ref b1), .val (.int v6_38), .val (.int (if v4_6 = (0 : Int32) then (1 : Int32) else (if (nar .byte (p0.toInt8.toInt32)) = (35 : Int32) then (1 : Int32) else (if v4_6 = (1 : Int32) then (if (nar .byte (p0.toInt8.toInt32)) = (13 : Int32) then (1 : Int32) else (0 : Int32)) else (0 : Int32)))))] []))
  obtain ⟨v7_90, ev7_90⟩ : ∃ z : Int32, z = (if v4_6 = (0 : Int32) then (1 : Int32) else (if (nar .byte (p0.toInt8.toInt32)) = (35 : Int32) then (1 : Int32) else (if v4_6 = (1 : Int32) then (if (nar .byte (p0.toInt8.toInt32)) = (13 : Int32) then (1 : Int32) else (0 : Int32)) else (0 : Int32)))) := ⟨_, rfl⟩
  rw [← ev7_90]
  refine Goes.step (S' := T14.setTop (mkF m 92 #[.val (.int p0), .val (.int p1), .val (.int p2), .val (.int p3), .val (.int v4_6), .val (.ref b1), .val (.int v6_38), .val (.int v7_90)] [(.int v6_38)])) (fun _ k => XS.iload X14.here hx rfl (hb hby at_90) rfl  k) ?_
  refine Goes.step (S' := T14.setTop (mkF m 94 #[.val (.int p0), .val (.int p1), .val (.int p2), .val (.int p3), .val (.int v4_6), .val (.ref b1), .val (.int v6_38), .val (.int v7_90)] [(.int v7_90), (.int v6_38)])) (fun _ k => XS.iload X14.here hx rfl (hb hby at_92) rfl  k) ?_
  refine Goes.step (S' := T14.setTop (mkF m 97 #[.val (.int p0), .val (.int p1), .val (.int p2), .val (.int p3), .val (.int v4_6), .val (.ref b1), .val (.int v6_38), .val (.int v7_90)] [])) (fun _ k => XS.icmpNo X14.here hx rfl (hb hby at_94) rfl (teq (own_hc0_94 p0 p1 p2 p3 v4_6 ev4_6 v6_38 ev6_38 v7_90 ev7_90)).2 k) ?_
  refine Goes.step (S' := T14.setTop (mkF m 98 #[.val (.int p0), .val (.int p1), .val (.int p2), .val (.int p3), .val (.int v4_6), .val (.ref b1), .val (.int v6_38), .val (.int v7_90)] [(.int (1 : Int32))])) (fun _ k => XS.iconst X14.here hx rfl (hb hby at_97) k) ?_
  refine Goes.step (S' := T14.setTop (mkF m 102 #[.val (.int p0), .val (.int p1), .val (.int p2), .val (.int p3), .val (.int v4_6), .val (.ref b1), .val (.int v6_38), .val (.int v7_90)] [(.int (1 : Int32))])) (fun _ k => XS.goto X14.here hx rfl (pc0 := 98) (pc' := 102) rfl (hb hby at_98) (by decide) (by decide) k) ?_
  refine Goes.retN X14 hx Bd.notSynchronized (t := .boolean) Bd.returns (by simp) (hb hby at_102) (by decide) (by decide) ?_
  exact ⟨rfl, N15⟩
set_option maxRecDepth 65536 in
set_option maxHeartbeats 40000000 in
theorem comes_1 {Post : Tables → Env → Array Value → State → Outcome → State → Prop} (hpost : ∀ tb e args s v u, (limb_1_1.after args s (.returned v) u = true ∧ limb_1_2.after args s (.returned v) u = true ∧ True) → FrameEnd s (.returned v) u (Jvm.fieldLocs frame_1_writes args s ++ Jvm.arrayLocs frame_1_arrays args s ++ Jvm.staticLocs frame_1_statics s) 16 128 → Post tb e args s (.returned v) u) :
    ArmFor flags0 classFile x code maxLocals ret World_1 tables_1 room_1 Calls_1 rest_1 Pre_1 Post := by
  intro l hfl _ _ p e ha hc hk s m args below hf hA hF happ hP
  obtain ⟨hcalls, hrest, hpre⟩ := hP
  obtain ⟨-, -, -, hnamed, -, -, -, hat⟩ := (Spec.applies_iff hf).mp happ
  obtain ⟨hg, hn⟩ := and_e (Cond.before_iff.mp (show (Jvm.Cond.and given_1 narrow_1).before args s = true from hpre))
  obtain ⟨gg1, gg2⟩ := and_e hg
  obtain ⟨gg3, gg4⟩ := and_e gg2
  obtain ⟨gg5, gg6⟩ := and_e gg4
  obtain ⟨gg7, gg8⟩ := and_e gg6
  obtain ⟨w0, w1, w2, w3, rfl⟩ : ∃ w0 w1 w2 w3 : Value, args = #[w0, w1, w2, w3] := by
    have hs : args.size = 4 := by simpa [Cond.value, given_1] using gg1
    obtain ⟨L⟩ := args
    match L, hs with
    | [w0, w1, w2, w3], _ => exact ⟨w0, w1, w2, w3, rfl⟩
  have hw := fun d (hd : d ∈ tables_1) => atoms_spec (ws := Jvm.Cond.code x code maxLocals ret :: tables_1) hat d (List.mem_cons_of_mem _ hd)
  obtain ⟨i0, ei0⟩ := is_v gg3
  obtain rfl : w0 = (.int i0) := Option.some.inj ei0
  obtain ⟨i1, ei1⟩ := is_v gg5
  obtain rfl : w1 = (.int i1) := Option.some.inj ei1
  obtain ⟨i2, ei2⟩ := is_v gg7
  obtain rfl : w2 = (.int i2) := Option.some.inj ei2
  obtain ⟨i3, ei3⟩ := is_v gg8
  obtain rfl : w3 = (.int i3) := Option.some.inj ei3
  obtain ⟨n, o, h1, h2, h3, _, L, rfl, ⟨rfl, N⟩, hq⟩ := rm0 l s _ hw tables_1 i0 i1 i2 i3 s.heap s.heap.size (Nat.le_refl _) p e ha hc hk s m _ below hf ((Spec.applies_iff_loose hf).mp happ).1 ⟨rfl, State.Warmed39.refl s, rfl⟩ trivial
  refine ⟨n, _, h1, h2, h3, hpost _ _ _ _ _ _ ⟨Cond.after_iff.mpr rfl, Cond.after_iff.mpr (eq_i res_at (Term.int_eval (1)) rfl), trivial⟩ ⟨hq.1, hq.2.1, (hq.2.2.sift fun y hy => Or.inr (N y hy)).mono (by decide) (by decide)⟩⟩
theorem main_1_1 : Claimed_1_1 := comes_1 fun _ _ _ _ _ _ h hF => ⟨h.1, hF⟩
theorem main_1_2 : Claimed_1_2 := comes_1 fun _ _ _ _ _ _ h hF => ⟨h.2.1, hF⟩
end Jvm.Pilot.@@N@@
namespace Jvm.Pilot.@@N@@
open Jvm Jvm.ClassFile Sem Op Lib Jvm.Free Jvm.Stand Jvm.Pilot.@@N@@.Jvm.D
/-! MADE BY PROGRAM (witnessworld.py) out of the Statement's table words and the real class files: 9 classes; the members and pool entries that the words name. The judged class is class 1, her method 1. -/
namespace start1
open Jvm.ClassFile
def u (s : String) : CpInfo := .utf8 (stringToUtf16 s)
/-- a pool by its gaps: so many unusable entries, then the entry; so many at the end -/
def gap : Nat → List CpInfo → List CpInfo
  | 0, r => r
  | n + 1, r => .unusable :: gap n r
def poolList (es : List (Nat × CpInfo)) (last : Nat) : List CpInfo := es.foldr (fun e r => gap e.1 (e.2 :: r)) (gap last [])
def pool (es : List (Nat × CpInfo)) (last : Nat) : Array CpInfo := ⟨poolList es last⟩
def fileOf (pool : Array CpInfo) (this : Nat) (attrs : Array Attribute := #[]) (ms : Array MethodInfo := #[]) (fl : Nat := 33) (sup : Nat := 0) (ifs : Array Nat := #[]) (fds : Array FieldInfo := #[]) : ClassFile where
  minorVersion := 0
  majorVersion := 65
  constantPool := pool
  accessFlags := fl
  thisClass := this
  superClass := sup
  interfaces := ifs
  fields := fds
  methods := ms
  attributes := attrs
def plain (name : String) (sup : Option ClassId) : Class where
  name := name
  kind := .ordinary
  loader := none
  accessFlags := 33
  super := sup
  interfaces := #[]
  cf := none
  fields := #[]
  methods := #[]
  instanceTypes := #[]
  staticTypes := #[]
  resolved := #[]
  callSites := []
  init := .initialized
  statics := none
  mirror := none

def pool0 : Array CpInfo := pool [(5, u "<init>"), (0, u "()V"), (1, .class_ 10), (1, u "java/lang/Object")] 113

def k0m0 : Method := { name := "<init>", desc := "()V", sig := { parameters := [], returnType := none }, accessFlags := 1, code := none }
/-- java/lang/Object -/
def k0 : Class := { plain "java/lang/Object" none with
  accessFlags := 33
  interfaces := #[]
  cf := some (fileOf pool0 8 #[] #[{ accessFlags := 1, nameIndex := 5, descriptorIndex := 6, attributes := #[] }] 33 0 #[] #[])
  fields := #[]
  methods := #[k0m0]
  instanceTypes := #[]
  staticTypes := #[]
  resolved := Array.replicate 124 none
  statics := none }

def pool1 : Array CpInfo := pool [(2, .class_ 4), (1, u "java/lang/Object"), (0, u "<init>"), (0, u "()V"), (0, .integer 2147483647), (0, .methodref 9 10), (0, .class_ 11), (0, .nameAndType 12 13), (0, u "fivewords/cli/ChecksumLine"), (0, u "isPassedOver"), (0, u "([BI)Z"), (0, .class_ 15), (0, u "fivewords/cli/ChecksumLineIsPassedOverPinLaw"), (2, u "law"), (0, u "(IIII)Z")] 5

def k1m0 : Method := { name := "<init>", desc := "()V", sig := { parameters := [], returnType := none }, accessFlags := 1, code := none }
def k1c1 : Code := { maxStack := 3, maxLocals := 8, code := code, exceptionTable := #[], attributes := #[] }
def k1m1 : Method := { name := "law", desc := "(IIII)Z", sig := { parameters := [.int, .int, .int, .int], returnType := some .boolean }, accessFlags := 9, code := some k1c1 }
/-- fivewords/cli/ChecksumLineIsPassedOverPinLaw -/
def k1 : Class := { plain "fivewords/cli/ChecksumLineIsPassedOverPinLaw" (some 0) with
  accessFlags := 49
  interfaces := #[]
  cf := some (fileOf pool1 14 #[] #[{ accessFlags := 1, nameIndex := 5, descriptorIndex := 6, attributes := #[] }, { accessFlags := 9, nameIndex := 18, descriptorIndex := 19, attributes := #[] }] 49 2 #[] #[])
  fields := #[]
  methods := #[k1m0, k1m1]
  instanceTypes := #[]
  staticTypes := #[]
  resolved := Array.replicate 25 none
  statics := none }

def pool2 : Array CpInfo := pool [(2, .class_ 4), (1, u "java/lang/Object"), (0, u "<init>"), (0, u "()V"), (4, .class_ 13), (1, u "fivewords/cli/ChecksumLine"), (34, u "SEPARATOR"), (0, u "[B"), (14, .methodref 11 65), (0, .nameAndType 66 67), (0, u "withoutReturn"), (0, u "([BI)I"), (13, u "([BI)Z"), (20, .class_ 103), (0, u "fivewords/cli/ChecksumLine$Entry"), (33, u "TAG"), (0, u "MAX_LENGTH"), (0, u "I"), (2, u "ESCAPE"), (0, u "B"), (1, u "HEX_DIGITS"), (1, u "COMMENT"), (1, u "BINARY"), (1, u "ESCAPED"), (0, u "Ljava/lang/String;"), (0, u "LETTERS"), (5, u "isPassedOver"), (9, .class_ 170), (0, u "fivewords/cli/ChecksumLine$Separator"), (0, .class_ 172), (0, u "fivewords/cli/ChecksumLine$Reader")] 4

def k2m0 : Method := { name := "<init>", desc := "()V", sig := { parameters := [], returnType := none }, accessFlags := 2, code := none }
def k2c1 : Code := { maxStack := 2, maxLocals := 2, code := prog_9_method_4_code, exceptionTable := #[], attributes := #[] }
def k2m1 : Method := { name := "isPassedOver", desc := "([BI)Z", sig := { parameters := [(.array .byte), .int], returnType := some .boolean }, accessFlags := 8, code := some k2c1 }
def k2c2 : Code := { maxStack := 3, maxLocals := 2, code := prog_9_method_7_code, exceptionTable := #[], attributes := #[] }
def k2m2 : Method := { name := "withoutReturn", desc := "([BI)I", sig := { parameters := [(.array .byte), .int], returnType := some .int }, accessFlags := 10, code := some k2c2 }
/-- fivewords/cli/ChecksumLine -/
def k2 : Class := { plain "fivewords/cli/ChecksumLine" (some 0) with
  accessFlags := 48
  interfaces := #[]
  cf := some (fileOf pool2 11 #[.nestMembers #[102, 169, 171]] #[{ accessFlags := 2, nameIndex := 5, descriptorIndex := 6, attributes := #[] }, { accessFlags := 8, nameIndex := 159, descriptorIndex := 81, attributes := #[] }, { accessFlags := 10, nameIndex := 66, descriptorIndex := 67, attributes := #[] }] 48 2 #[] #[{ accessFlags := 24, nameIndex := 138, descriptorIndex := 139, attributes := #[] }, { accessFlags := 24, nameIndex := 142, descriptorIndex := 143, attributes := #[] }, { accessFlags := 26, nameIndex := 145, descriptorIndex := 139, attributes := #[] }, { accessFlags := 26, nameIndex := 147, descriptorIndex := 143, attributes := #[] }, { accessFlags := 26, nameIndex := 48, descriptorIndex := 49, attributes := #[] }, { accessFlags := 26, nameIndex := 149, descriptorIndex := 143, attributes := #[] }, { accessFlags := 26, nameIndex := 137, descriptorIndex := 49, attributes := #[] }, { accessFlags := 26, nameIndex := 151, descriptorIndex := 152, attributes := #[] }, { accessFlags := 26, nameIndex := 153, descriptorIndex := 152, attributes := #[] }])
  fields := #[{ name := "MAX_LENGTH", type := .int, accessFlags := 24, slot := 0, constantValue := 0 }, { name := "ESCAPE", type := .byte, accessFlags := 24, slot := 1, constantValue := 0 }, { name := "HEX_DIGITS", type := .int, accessFlags := 26, slot := 2, constantValue := 0 }, { name := "COMMENT", type := .byte, accessFlags := 26, slot := 3, constantValue := 0 }, { name := "SEPARATOR", type := (.array .byte), accessFlags := 26, slot := 4, constantValue := 0 }, { name := "BINARY", type := .byte, accessFlags := 26, slot := 5, constantValue := 0 }, { name := "TAG", type := (.array .byte), accessFlags := 26, slot := 6, constantValue := 0 }, { name := "ESCAPED", type := (.object "java/lang/String"), accessFlags := 26, slot := 7, constantValue := 0 }, { name := "LETTERS", type := (.object "java/lang/String"), accessFlags := 26, slot := 8, constantValue := 0 }]
  methods := #[k2m0, k2m1, k2m2]
  instanceTypes := #[]
  staticTypes := #[.int, .byte, .int, .byte, (.array .byte), .byte, (.array .byte), (.object "java/lang/String"), (.object "java/lang/String")]
  resolved := Array.replicate 177 none
  statics := none }

def pool3 : Array CpInfo := pool [(1, u "java/lang/Cloneable"), (0, .class_ 1), (0, u "java/lang/Object"), (0, .class_ 3)] 3

/-- java/lang/Cloneable -/
def k3 : Class := { plain "java/lang/Cloneable" (some 0) with
  accessFlags := 1537
  interfaces := #[]
  cf := some (fileOf pool3 2 #[] #[] 1537 4 #[] #[])
  fields := #[]
  methods := #[]
  instanceTypes := #[]
  staticTypes := #[]
  resolved := Array.replicate 8 none
  statics := none }

def pool4 : Array CpInfo := pool [(1, u "java/io/Serializable"), (0, .class_ 1), (0, u "java/lang/Object"), (0, .class_ 3)] 3

/-- java/io/Serializable -/
def k4 : Class := { plain "java/io/Serializable" (some 0) with
  accessFlags := 1537
  interfaces := #[]
  cf := some (fileOf pool4 2 #[] #[] 1537 4 #[] #[])
  fields := #[]
  methods := #[]
  instanceTypes := #[]
  staticTypes := #[]
  resolved := Array.replicate 8 none
  statics := none }

/-- the primitive byte -/
def k5 : Class := { plain "byte" none with kind := .primitive 'B', accessFlags := 0x411 }
/-- [B -/
def k6 : Class := { plain "[B" (some 0) with kind := .array 5 .byte, interfaces := #[3, 4], accessFlags := 1041 }

/-- the primitive int -/
def k7 : Class := { plain "int" none with kind := .primitive 'I', accessFlags := 0x411 }
/-- [I -/
def k8 : Class := { plain "[I" (some 0) with kind := .array 7 .int, interfaces := #[3, 4], accessFlags := 1041 }

def heap : Heap := #[]
def classes : Array Class := #[k0, k1, k2, k3, k4, k5, k6, k7, k8]
def interned : List (Array UInt16 × Addr) := []
def slotsUsed : Nat := 0
def theMethod : MethodId := ⟨1, 1⟩
def args0 : Array Value := #[.int 5, .int 5, .int 5, .int 5]
def aboutOver (below : List Frame) : State where
  vm := { classes := classes, interned := interned.toArray }
  heap := heap
  slotsUsed := slotsUsed
  threads := #[{ frames := .invoking theMethod args0 :: below }]
def below0 : List Frame := [.native { method := ⟨0, 0⟩, args := #[] }]
def about1 : State := aboutOver below0
def p0 : Program := .bare "" "" ""
def e0 : Env := launch0.env 0 0 0
theorem w_frames : about1.frames = Frame.invoking theMethod args0 :: below0 := rfl
set_option maxRecDepth 65536 in
theorem w_args : argsFit about1.vm theMethod args0 = true := by decide +kernel
set_option maxRecDepth 65536 in
theorem w_heap : heapFits about1 = true := by decide +kernel
set_option maxRecDepth 65536 in
theorem w_runnable : about1.curStatus? = some .runnable := by decide +kernel
set_option maxRecDepth 65536 in
theorem w_alone : about1.alone = true := by decide +kernel
set_option maxRecDepth 65536 in
theorem w_named : about1.methodNamed? x = some theMethod := by decide +kernel
set_option maxRecDepth 65536 in
theorem w_hears : about1.hears theMethod below0 = true := by decide +kernel
set_option maxRecDepth 65536 in
theorem w_ripe : about1.ripe theMethod args0 below0 = true := by decide +kernel
theorem w_running : about1.status = .running := rfl
set_option maxRecDepth 65536 in
theorem w_room : about1.hasRoom e0.platform room_1 = true :=
  launch0.hasRoom_least _ room_1 (by decide +kernel) (by decide +kernel) (by decide +kernel) (by decide +kernel) (by decide +kernel) (by decide +kernel)
theorem allAtoms_all (ts : List Jvm.Cond) (a : Array Jvm.Value) (st : Jvm.State) : (allAtoms ts).before a st = ts.all (fun c => c.before a st) := by
  induction ts with
  | nil => rfl
  | cons c t ih =>
    show (Jvm.Cond.and c (allAtoms t)).before a st = _
    rw [Jvm.Cond.before_and, ih, List.all_cons]
def words1 : List Jvm.Cond := Jvm.Cond.code x code maxLocals ret :: tables_1
/-- a 'code' word, met by the world's own term for the bytes: nothing is compared byte by byte -/
theorem code_word {y : MethodName} {bytes : ByteArray} {mx : Nat} {rt : Option FieldType} {a : Array Value} {s : State} {m : MethodId} {meth : Method} {c : Code} (h1 : s.methodNamed? y = some m) (h2 : s.vm.method? m = some meth) (h3 : meth.code = some c) (h4 : c.code = bytes)
    (h5 : (c.maxLocals == mx && c.exceptionTable.isEmpty && decide (c.maxStack ≤ mostOperands) && decide (meth.sig.returnType = rt) && !meth.locks && decide (parseMethodDescriptor y.desc = some meth.sig)) = true) : (Jvm.Cond.code y bytes mx rt).before a s = true := by
  simp only [Bool.and_eq_true, beq_iff_eq, Bool.not_eq_true', decide_eq_true_eq] at h5
  obtain ⟨⟨⟨⟨⟨g1, g2⟩, g3⟩, g4⟩, g5⟩, g6⟩ := h5
  simp [Cond.before, Cond.holds, Cond.value, h1, h2, h3, h4, g1, g2, g3, g4, g5, g6]
def isCode : Jvm.Cond → Bool
  | .code _ _ _ _ => true
  | _ => false
theorem all_split {L : List Jvm.Cond} {P : Jvm.Cond → Bool} (h1 : L.all (fun c => isCode c || P c) = true) (h2 : ∀ c ∈ L.filter isCode, P c = true) : L.all P = true := by
  refine List.all_eq_true.mpr fun c hc => ?_
  have h := List.all_eq_true.mp h1 c hc
  rcases Bool.eq_false_or_eq_true (isCode c) with hi | hi
  · exact h2 c (List.mem_filter.mpr ⟨hc, hi⟩)
  · simpa [hi] using h
set_option maxRecDepth 65536 in
theorem w_c0 : (Jvm.Cond.code x code maxLocals ret).before args0 about1 = true := code_word (m := ⟨1, 1⟩) (meth := k1m1) (c := k1c1) (by decide +kernel) rfl rfl rfl (by decide +kernel)
set_option maxRecDepth 65536 in
theorem w_c1 : (Jvm.Cond.code ({ cls := "fivewords/cli/ChecksumLine", name := "isPassedOver", desc := "([BI)Z" } : Jvm.MethodName) prog_9_method_4_code (2 : Nat) (Option.some Jvm.ClassFile.FieldType.boolean)).before args0 about1 = true := code_word (m := ⟨2, 1⟩) (meth := k2m1) (c := k2c1) (by decide +kernel) rfl rfl rfl (by decide +kernel)
set_option maxRecDepth 65536 in
theorem w_c2 : (Jvm.Cond.code ({ cls := "fivewords/cli/ChecksumLine", name := "withoutReturn", desc := "([BI)I" } : Jvm.MethodName) prog_9_method_7_code (2 : Nat) (Option.some Jvm.ClassFile.FieldType.int)).before args0 about1 = true := code_word (m := ⟨2, 2⟩) (meth := k2m2) (c := k2c2) (by decide +kernel) rfl rfl rfl (by decide +kernel)
def codes1 : List Jvm.Cond := [Jvm.Cond.code x code maxLocals ret, Jvm.Cond.code ({ cls := "fivewords/cli/ChecksumLine", name := "isPassedOver", desc := "([BI)Z" } : Jvm.MethodName) prog_9_method_4_code (2 : Nat) (Option.some Jvm.ClassFile.FieldType.boolean), Jvm.Cond.code ({ cls := "fivewords/cli/ChecksumLine", name := "withoutReturn", desc := "([BI)I" } : Jvm.MethodName) prog_9_method_7_code (2 : Nat) (Option.some Jvm.ClassFile.FieldType.int)]
set_option maxRecDepth 65536 in
theorem codes_eq : words1.filter isCode = codes1 := rfl
theorem w_codes : ∀ c ∈ words1.filter isCode, c.before args0 about1 = true := by
  rw [codes_eq]
  intro c hc
  simp only [codes1, List.mem_cons, List.not_mem_nil, or_false] at hc
  rcases hc with rfl | rfl | rfl
  · exact w_c0
  · exact w_c1
  · exact w_c2
set_option maxRecDepth 65536 in
theorem w_t1 : words1.all (fun c => isCode c || c.before args0 about1) = true := by decide +kernel
theorem w_tables : (allAtoms (Jvm.Cond.code x code maxLocals ret :: tables_1)).before args0 about1 = true := by
  rw [allAtoms_all]
  show words1.all (fun c => c.before args0 about1) = true
  refine all_split ?_ w_codes
  rw [w_t1]
set_option maxRecDepth 65536 in
theorem w_case : (Jvm.Cond.and given_1 narrow_1).before args0 about1 = true := by decide +kernel
theorem w_applies : (headSpec (Jvm.Cond.code x code maxLocals ret :: tables_1) room_1).applies x e0.platform about1 = true :=
  (Spec.applies_iff w_frames).mpr ⟨w_running, w_runnable, w_alone, w_named, w_hears, w_ripe, w_room, w_tables⟩
theorem atStart : AtStart classFile x code maxLocals ret World_1 tables_1 room_1 Calls_1 rest_1 Pre_1 launch0 p0 e0 about1 theMethod args0 below0 :=
  ⟨lists_1, trivial, launch0.admits_env _ _ _, launch0.least_env, fairChoices_fair.cas, fairChoices_fair.clock, w_frames, w_args, w_heap, w_applies, trivial, trivial, w_case⟩
end start1
theorem witness_1 : WitnessClaimed_1 := ⟨start1.p0, start1.e0, start1.about1, start1.theMethod, start1.args0, start1.below0, start1.atStart⟩
end Jvm.Pilot.@@N@@
