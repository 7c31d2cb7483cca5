import JvmDerived
import JvmDerived.Pilot.@@N@@Statement
import JvmDerived.Pilot.@@N@@Code
set_option linter.unusedVariables false
set_option linter.unusedSimpArgs false
namespace Jvm.RoadKit
open Sem ClassFile Op Lib Jvm.Stand Jvm.Free Jvm.LawKit
section New
variable {p : Program} {l : Launch} {e : Env} {R : Room} {s : State} {m : MethodId} {args : Array Value} {below : List Frame} {meth : Method} {c : Code} {T : State} {locs : List Loc} {cells slots : Nat}
theorem retI (X : Stand p l e R s m args below meth c T locs cells slots) (hx : p.tables.exec = Jvm.exec) {pc : Nat} {Ls : Array Slot} {z : Int32} {rest : List Value} (hret : meth.sig.returnType = some .int) (hd : decode c.code pc = .ok (.ireturn, 1)) {fs : List Frame}
    (hl : ∀ (f : JFrame) (acts : List Action), f.method = m → f.locked = none → f.entered = [] → (doReturn e (T.setTop f) acts (some (.int z))).1 = T.setFrames fs) : Steps p.tables e below (T.setTop (mkF m pc Ls (.int z :: rest))) (T.setFrames fs) := by
  have hm' : T.vm.method? m = some meth := X.method'
  have hn : narrow .int (.int z) = .int z := rfl
  show Steps p.tables e below (T.setTop { method := m, pc := pc, locals := Ls, stack := _ :: rest, locked := none }) _
  jvm_step X.here [X.here.top, hx, hd, hm', hret, hn]
  first | (intro acts; rw [hl _ acts rfl rfl rfl]) | rw [hl _ _ rfl rfl rfl]
  exact Steps.refl _
end New
end Jvm.RoadKit
namespace Jvm.Pilot.@@N@@
open Jvm Jvm.ClassFile Sem Op Lib Jvm.Free Jvm.Stand Jvm.LawKit Jvm.RoadKit Bundle Jvm.Pilot.@@N@@.Jvm.D
/-! MY OWN LAYER, 1: a walk in forward style -/
/-- from the state S the run ends, and Q holds of the end -/
def Goes (tb : Tables) (e : Env) (below : List Frame) (Q : Outcome → State → Prop) (S : State) : Prop :=
  ∃ s₂ o, Steps tb e below S s₂ ∧ s₂.status = .running ∧ Ended s₂ below o ∧ Q o s₂
theorem Goes.out {tb : Tables} {e : Env} {below : List Frame} {Q : Outcome → State → Prop} {S : State} (h : Goes tb e below Q S) :
    ∃ s₂ o, Steps tb e below S s₂ ∧ s₂.status = .running ∧ Ended s₂ below o ∧ Q o s₂ := h
theorem Goes.step {tb : Tables} {e : Env} {below : List Frame} {Q : Outcome → State → Prop} {S S' : State}
    (h : ∀ t, Steps tb e below S' t → Steps tb e below S t) (k : Goes tb e below Q S') : Goes tb e below Q S := by
  obtain ⟨s₂, o, h1, h2⟩ := k
  exact ⟨s₂, o, h _ h1, h2⟩
section Ites
variable {tb : Tables} {e : Env} {below : List Frame} {T S : State} {c : Prop} [Decidable c]
theorem own_ite0 {F : JFrame} (hy : c → ∀ t, Steps tb e below (T.setTop F) t → Steps tb e below S t) (hn : ¬ c → ∀ t, Steps tb e below (T.setTop F) t → Steps tb e below S t) :
    ∀ t, Steps tb e below (T.setTop F) t → Steps tb e below S t := fun t k => by
  by_cases h : c
  · exact hy h t k
  · exact hn h t k
theorem own_ite1 {A0 : Type} {a0 b0 : A0} {F : A0 → JFrame} (hy : c → ∀ t, Steps tb e below (T.setTop (F a0)) t → Steps tb e below S t) (hn : ¬ c → ∀ t, Steps tb e below (T.setTop (F b0)) t → Steps tb e below S t) :
    ∀ t, Steps tb e below (T.setTop (F (if c then a0 else b0))) t → Steps tb e below S t := fun t k => by
  by_cases h : c
  · rw [if_pos h] at k; exact hy h t k
  · rw [if_neg h] at k; exact hn h t k
theorem own_ite2 {A0 A1 : Type} {a0 b0 : A0} {a1 b1 : A1} {F : A0 → A1 → JFrame} (hy : c → ∀ t, Steps tb e below (T.setTop (F a0 a1)) t → Steps tb e below S t) (hn : ¬ c → ∀ t, Steps tb e below (T.setTop (F b0 b1)) t → Steps tb e below S t) :
    ∀ t, Steps tb e below (T.setTop (F (if c then a0 else b0) (if c then a1 else b1))) t → Steps tb e below S t := fun t k => by
  by_cases h : c
  · rw [if_pos h, if_pos h] at k; exact hy h t k
  · rw [if_neg h, if_neg h] at k; exact hn h t k
theorem own_ite3 {A0 A1 A2 : Type} {a0 b0 : A0} {a1 b1 : A1} {a2 b2 : A2} {F : A0 → A1 → A2 → JFrame} (hy : c → ∀ t, Steps tb e below (T.setTop (F a0 a1 a2)) t → Steps tb e below S t) (hn : ¬ c → ∀ t, Steps tb e below (T.setTop (F b0 b1 b2)) t → Steps tb e below S t) :
    ∀ t, Steps tb e below (T.setTop (F (if c then a0 else b0) (if c then a1 else b1) (if c then a2 else b2))) t → Steps tb e below S t := fun t k => by
  by_cases h : c
  · rw [if_pos h, if_pos h, if_pos h] at k; exact hy h t k
  · rw [if_neg h, if_neg h, if_neg h] at k; exact hn h t k
end Ites
section Rets
variable {p : Program} {l : Launch} {e : Env} {R : Room} {s : State} {m : MethodId} {args : Array Value} {below : List Frame} {meth : Method} {c : Code} {T : State} {locs : List Loc} {cells slots : Nat}
variable {QQ : Option Value → Heap → List Loc → Prop} {C0 S0 : Nat} {pc : Nat} {Ls : Array Slot} {rest : List Value}
theorem Goes.retN (X : Stand p l e R s m args below meth c T locs cells slots) (hx : p.tables.exec = Jvm.exec) (hlk : meth.locks = false) {t : FieldType} {z : Int32} (hret : meth.sig.returnType = some t) (ht : t = .boolean ∨ t = .byte ∨ t = .char ∨ t = .short)
    (hd : decode c.code pc = .ok (.ireturn, 1)) (hC : cells ≤ C0) (hS : slots ≤ S0) (hQ : QQ (some (.int (nar t z))) T.heap locs) :
    Goes p.tables e below (fun o U' => ∃ v L, o = .returned v ∧ QQ v U'.heap L ∧ FrameEnd s o U' L C0 S0) (T.setTop (mkF m pc Ls (.int z :: rest))) := by
  obtain ⟨fs, hr, hrun, hended, hW, hsame⟩ := X.leave (v := some (.int (nar t z))) (fun h => by rw [hret] at h; cases h) hlk
  exact ⟨_, _, Jvm.RoadKit.retN X hx hret ht hd hr, hrun, hended, _, _, rfl, hQ, ⟨_, rfl⟩, hW, hsame.mono hC hS⟩
theorem Goes.retI (X : Stand p l e R s m args below meth c T locs cells slots) (hx : p.tables.exec = Jvm.exec) (hlk : meth.locks = false) {z : Int32} (hret : meth.sig.returnType = some .int)
    (hd : decode c.code pc = .ok (.ireturn, 1)) (hC : cells ≤ C0) (hS : slots ≤ S0) (hQ : QQ (some (.int z)) T.heap locs) :
    Goes p.tables e below (fun o U' => ∃ v L, o = .returned v ∧ QQ v U'.heap L ∧ FrameEnd s o U' L C0 S0) (T.setTop (mkF m pc Ls (.int z :: rest))) := by
  obtain ⟨fs, hr, hrun, hended, hW, hsame⟩ := X.leave (v := some (.int z)) (fun h => by rw [hret] at h; cases h) hlk
  exact ⟨_, _, Jvm.RoadKit.retI X hx hret hd hr, hrun, hended, _, _, rfl, hQ, ⟨_, rfl⟩, hW, hsame.mono hC hS⟩
theorem Goes.retJ (X : Stand p l e R s m args below meth c T locs cells slots) (hx : p.tables.exec = Jvm.exec) (hlk : meth.locks = false) {z : Int64} (hret : meth.sig.returnType = some .long)
    (hd : decode c.code pc = .ok (.lreturn, 1)) (hC : cells ≤ C0) (hS : slots ≤ S0) (hQ : QQ (some (.long z)) T.heap locs) :
    Goes p.tables e below (fun o U' => ∃ v L, o = .returned v ∧ QQ v U'.heap L ∧ FrameEnd s o U' L C0 S0) (T.setTop (mkF m pc Ls (.long z :: rest))) := by
  obtain ⟨fs, hr, hrun, hended, hW, hsame⟩ := X.leave (v := some (.long z)) (fun h => by rw [hret] at h; cases h) hlk
  refine ⟨_, _, ?_, hrun, hended, _, _, rfl, hQ, ⟨_, rfl⟩, hW, hsame.mono hC hS⟩
  jvm_step X.here [X.here.top, hx, hd, X.method', hret, narrow]
  first | (intro acts; rw [hr _ acts rfl rfl rfl]) | rw [hr _ _ rfl rfl rfl]
  exact Steps.refl _
theorem Goes.retA (X : Stand p l e R s m args below meth c T locs cells slots) (hx : p.tables.exec = Jvm.exec) (hlk : meth.locks = false) {a : Addr} {t : FieldType} (hret : meth.sig.returnType = some t) (ht : t.isReference = true)
    (hd : decode c.code pc = .ok (.areturn, 1)) (hC : cells ≤ C0) (hS : slots ≤ S0) (hQ : QQ (some (.ref a)) T.heap locs) :
    Goes p.tables e below (fun o U' => ∃ v L, o = .returned v ∧ QQ v U'.heap L ∧ FrameEnd s o U' L C0 S0) (T.setTop (mkF m pc Ls (.ref a :: rest))) := by
  obtain ⟨fs, hr, hrun, hended, hW, hsame⟩ := X.leave (v := some (.ref a)) (fun h => by rw [hret] at h; cases h) hlk
  refine ⟨_, _, ?_, hrun, hended, _, _, rfl, hQ, ⟨_, rfl⟩, hW, hsame.mono hC hS⟩
  jvm_step X.here [X.here.top, hx, hd, X.method', hret, Value.isRef, ht]
  first | (intro acts; rw [hr _ acts rfl rfl rfl]) | rw [hr _ _ rfl rfl rfl]
  exact Steps.refl _
theorem Goes.retV (X : Stand p l e R s m args below meth c T locs cells slots) (hx : p.tables.exec = Jvm.exec) (hlk : meth.locks = false) (hret : meth.sig.returnType = none)
    (hd : decode c.code pc = .ok (.return_, 1)) (hC : cells ≤ C0) (hS : slots ≤ S0) (hQ : QQ none T.heap locs) :
    Goes p.tables e below (fun o U' => ∃ v L, o = .returned v ∧ QQ v U'.heap L ∧ FrameEnd s o U' L C0 S0) (T.setTop (mkF m pc Ls [])) := by
  obtain ⟨fs, hr, hrun, hended, hW, hsame⟩ := X.leave (v := none) (fun _ => rfl) hlk
  exact ⟨_, _, X.returnOut hx hret hd hr, hrun, hended, _, _, rfl, hQ, ⟨_, rfl⟩, hW, hsame.mono hC hS⟩
theorem own_lrem {g : JFrame} {target : State} (X : Stand p l e R s m args below meth c T locs cells slots) (hx : p.tables.exec = Jvm.exec) (hg : g.method = m) {x y : Int64} {rest : List Value} (hd : decode c.code g.pc = .ok (.lrem, 1)) (hs : g.stack = .long y :: .long x :: rest) (hy : y ≠ 0)
    (hr : Steps p.tables e below (T.setTop { g with pc := g.pc + 1, stack := .long (x % y) :: rest }) target) : Steps p.tables e below (T.setTop g) target :=
  XS.lrem X.here hx hg hd hs hy (by rw [lrem_mod]; exact hr)
end Rets
/-! MY OWN LAYER, 2: an array of ints (bytes, chars ..) by the list of its values, whole -/
def AI (Z : State) (h : Heap) (a : Addr) (k : ClassId) (ty : FieldType) (n : Int32) (vs : List Int32) : Prop :=
  Arv Z h a k ty n (vs.map Value.int) (.int 0) ∧ vs.length = n.toNatClampNeg
section Arrays
variable {p : Program} {l : Launch} {e : Env} {R : Room} {s : State} {m : MethodId} {args : Array Value} {below : List Frame} {meth : Method} {c : Code} {T : State} {locs : List Loc} {cells slots : Nat}
variable {Z : State} {h h' : Heap} {a b : Addr} {k : ClassId} {ty : FieldType} {n : Int32} {vs : List Int32} {sl : Nat} {v : Value} {ws : List Addr}
theorem AI.lt (F : AI Z h a k ty n vs) : a < h.size := F.1.lt
theorem AI.nn (F : AI Z h a k ty n vs) : ¬ n < 0 := by obtain ⟨⟨c, -, -, -, q, -⟩, -⟩ := F; exact q
theorem AI.ext (F : AI Z h a k ty n vs) (E : Ext h h') : AI Z h' a k ty n vs := ⟨F.1.ext E, F.2⟩
theorem AI.other (F : AI Z h b k ty n vs) (W : Wr h h' a sl v) (q : b ≠ a) : AI Z h' b k ty n vs := ⟨F.1.other W q, F.2⟩
theorem AI.keep (F : AI Z h a k ty n vs) (K : Keep h h' ws) (q : a ∉ ws) : AI Z h' a k ty n vs := ⟨F.1.keep K q, F.2⟩
theorem own_getD (vs : List Int32) (i : Nat) : (vs.map Value.int).getD i (.int 0) = .int (vs.getD i 0) := by
  simp only [List.getD_eq_getElem?_getD, List.getElem?_map]
  cases vs[i]? <;> rfl
theorem own_new {q : Int32} (A : Arr Z h a (newA k ty q) ty) (hq : ¬ q < 0) (hd : defaultValue ty = .int 0) {vs : List Int32} (hv : vs = List.replicate q.toNatClampNeg 0 := by rfl) : AI Z h a k ty q vs := by
  subst hv
  have V := Arv.new A hq
  rw [hd] at V
  refine ⟨?_, by simp⟩
  have q1 := V.pad (pad_rep [] (.int 0) q.toNatClampNeg)
  rw [List.nil_append] at q1
  rw [List.map_replicate]; exact q1
theorem own_inb {cl : Cell} {j : Int32} (S : cl.slots.size = n.toNatClampNeg) (q : ¬ j < 0 ∧ j < n) : ¬ (j < 0 ∨ cl.slots.size ≤ j.toNatClampNeg) := inb_of S q
theorem own_jlt {j : Int32} (q : ¬ j < 0 ∧ j < n) : j.toNatClampNeg < n.toNatClampNeg := by
  obtain ⟨q1, q2⟩ := q
  rw [Int32.lt_iff_toInt_lt] at q1 q2
  have e0 : (0 : Int32).toInt = 0 := rfl
  simp only [Int32.toNatClampNeg] at *; omega
theorem own_iaload {pc : Nat} {Ls : Array Slot} {rest : List Value} {j : Int32} (X : Stand p l e R s m args below meth c T locs cells slots) (hx : p.tables.exec = Jvm.exec) (hZ : Z.Warmed39 s.vm) (eT : T.heap = h) (F : AI Z h a k .int n vs) (hj : ¬ j < 0 ∧ j < n)
    (hd : decode c.code pc = .ok (.iaload, 1)) (t : State) (kk : Steps p.tables e below (T.setTop (mkF m (pc + 1) Ls (.int (vs.getD j.toNatClampNeg 0) :: rest))) t) : Steps p.tables e below (T.setTop (mkF m pc Ls (.int j :: .ref a :: rest))) t := by
  obtain ⟨⟨cl, A, -, S, -, H, -⟩, hl⟩ := F
  have hin := own_inb S hj
  exact X.iaload hx (j := j) (v := .int (vs.getD j.toNatClampNeg 0)) (by rw [eT]; exact A.1) (State.isArrayOf_alike hZ.alike A.2.1) A.2.2 hin (H.at hin (own_getD _ _)) (g := mkF m pc Ls (.int j :: .ref a :: rest)) rfl rfl hd _ kk
theorem own_baload {pc : Nat} {Ls : Array Slot} {rest : List Value} {j : Int32} (X : Stand p l e R s m args below meth c T locs cells slots) (hx : p.tables.exec = Jvm.exec) (hZ : Z.Warmed39 s.vm) (eT : T.heap = h) (F : AI Z h a k .byte n vs) (hj : ¬ j < 0 ∧ j < n)
    (hd : decode c.code pc = .ok (.baload, 1)) (t : State) (kk : Steps p.tables e below (T.setTop (mkF m (pc + 1) Ls (.int (vs.getD j.toNatClampNeg 0) :: rest))) t) : Steps p.tables e below (T.setTop (mkF m pc Ls (.int j :: .ref a :: rest))) t := by
  obtain ⟨⟨cl, A, -, S, -, H, -⟩, hl⟩ := F
  have hin := own_inb S hj
  exact X.baloadBytes hx (j := j) (v := .int (vs.getD j.toNatClampNeg 0)) (by rw [eT]; exact A.1) (State.isArrayOf_alike hZ.alike A.2.1) A.2.2 hin (H.at hin (own_getD _ _)) (g := mkF m pc Ls (.int j :: .ref a :: rest)) rfl rfl hd _ kk
theorem own_len {pc : Nat} {Ls : Array Slot} {rest : List Value} (X : Stand p l e R s m args below meth c T locs cells slots) (hx : p.tables.exec = Jvm.exec) (hZ : Z.Warmed39 s.vm) (eT : T.heap = h) (F : AI Z h a k ty n vs)
    (hd : decode c.code pc = .ok (.arraylength, 1)) (t : State) (kk : Steps p.tables e below (T.setTop (mkF m (pc + 1) Ls (.int n :: rest))) t) : Steps p.tables e below (T.setTop (mkF m pc Ls (.ref a :: rest))) t := by
  obtain ⟨⟨cl, A, -, S, N, H, -⟩, hl⟩ := F
  refine X.arraylength hx (by rw [eT]; exact A.1) (State.isArrayOf_alike hZ.alike A.2.1) (g := mkF m pc Ls (.ref a :: rest)) rfl rfl hd _ ?_
  rw [len_of S N]; exact kk
theorem own_iastore {j x : Int32} (X : Stand p l e R s m args below meth c T locs cells slots) (hx : p.tables.exec = Jvm.exec) (hZ : Z.Warmed39 s.vm) (eT : T.heap = h) (F : AI Z h a k .int n vs) (hj : ¬ j < 0 ∧ j < n) {g : JFrame} (hg : g.method = m) {rest : List Value} (hs : g.stack = .int x :: .int j :: .ref a :: rest) (hd : decode c.code g.pc = .ok (.iastore, 1)) :
    ∃ T' h', Stand p l e R s m args below meth c T' (locs ++ [⟨a, j.toNatClampNeg⟩]) cells slots ∧ T'.heap = h' ∧ Wr h h' a j.toNatClampNeg (.int x) ∧ AI Z h' a k .int n (vs.set j.toNatClampNeg x) ∧ ∀ target, Steps p.tables e below (T'.setTop { g with pc := g.pc + 1, stack := rest }) target → Steps p.tables e below (T.setTop g) target := by
  obtain ⟨⟨cl, A, q1, S, N, H, G⟩, hl⟩ := F
  obtain ⟨T', h', X', e', W, st⟩ := stI X hx hZ eT A (own_inb S hj) hg hs hd
  refine ⟨T', h', X', e', W, ⟨?_, by simpa using hl⟩, st⟩
  rw [List.map_set]
  exact Arv.set A q1 S N H G rfl W _ rfl (by rw [List.length_map, hl]; exact own_jlt hj)
theorem own_bastore {j x : Int32} (X : Stand p l e R s m args below meth c T locs cells slots) (hx : p.tables.exec = Jvm.exec) (hZ : Z.Warmed39 s.vm) (eT : T.heap = h) (F : AI Z h a k .byte n vs) (hj : ¬ j < 0 ∧ j < n) {g : JFrame} (hg : g.method = m) {rest : List Value} (hs : g.stack = .int x :: .int j :: .ref a :: rest) (hd : decode c.code g.pc = .ok (.bastore, 1)) :
    ∃ T' h', Stand p l e R s m args below meth c T' (locs ++ [⟨a, j.toNatClampNeg⟩]) cells slots ∧ T'.heap = h' ∧ Wr h h' a j.toNatClampNeg (.int (nar .byte x)) ∧ AI Z h' a k .byte n (vs.set j.toNatClampNeg (nar .byte x)) ∧ ∀ target, Steps p.tables e below (T'.setTop { g with pc := g.pc + 1, stack := rest }) target → Steps p.tables e below (T.setTop g) target := by
  obtain ⟨⟨cl, A, q1, S, N, H, G⟩, hl⟩ := F
  obtain ⟨T', h', X', e', W, st⟩ := stB X hx hZ eT A (own_inb S hj) hg hs hd
  refine ⟨T', h', X', e', W, ⟨?_, by simpa using hl⟩, st⟩
  rw [List.map_set]
  exact Arv.set A q1 S N H G (fits_nar_byte _) W _ rfl (by rw [List.length_map, hl]; exact own_jlt hj)
end Arrays
/-! MY OWN LAYER, 3: numbers -/
theorem own_b255 (x : Int32) : (nar .byte (x.toInt8.toInt32)) &&& 255 = x &&& 255 := by
  have a := c_i2b x
  have b := c_i2b x.toInt8.toInt32
  have m1 : ((x.toInt8.toInt32.toInt8.toInt32) &&& 255).toInt = (x.toInt8.toInt32.toInt8.toInt32).toInt % 256 := c_mask _ 255 8 (by decide) (by decide)
  have m2 : (x &&& 255).toInt = x.toInt % 256 := c_mask _ 255 8 (by decide) (by decide)
  apply Int32.toInt_inj.mp
  show ((x.toInt8.toInt32.toInt8.toInt32) &&& 255).toInt = _
  omega
theorem own_m255 (x : Int32) : (x &&& 255).toInt = x.toInt % 256 := c_mask _ 255 8 (by decide) (by decide)
theorem own_or8 (a b : Int32) (h1 : 0 ≤ a.toInt) (h2 : a.toInt < 256) (h3 : 0 ≤ b.toInt) (h4 : b.toInt < 256) : ((a <<< ((8 : Int32) &&& 31)) ||| b).toInt = a.toInt * 256 + b.toInt := by
  have s : ((a <<< ((8 : Int32) &&& 31)).toInt - a.toInt * 256) % 4294967296 = 0 := c_ishl a 8 8 (by decide)
  have r := rng32 (a <<< ((8 : Int32) &&& 31))
  have e : (a <<< ((8 : Int32) &&& 31)).toInt = a.toInt * 256 := by omega
  have o := c_or (a <<< ((8 : Int32) &&& 31)) b 8 (by decide) 256 (by decide) (by omega) h3 h4
  have r2 := rng32 ((a <<< ((8 : Int32) &&& 31)) ||| b)
  omega
theorem own_nar0 : nar .boolean 0 = 0 := by decide
theorem own_nar1 : nar .boolean 1 = 1 := by decide
theorem d1_0 : decode prog_31_method_3_code 0 = .ok (.aload_n 0, 1) := by decide +kernel
theorem d1_1 : decode prog_31_method_3_code 1 = .ok (.iload_n 1, 1) := by decide +kernel
theorem d1_2 : decode prog_31_method_3_code 2 = .ok (.baload, 1) := by decide +kernel
theorem d1_3 : decode prog_31_method_3_code 3 = .ok (.sipush 255, 3) := by decide +kernel
theorem d1_6 : decode prog_31_method_3_code 6 = .ok (.iand, 1) := by decide +kernel
theorem d1_7 : decode prog_31_method_3_code 7 = .ok (.istore_n 3, 1) := by decide +kernel
theorem d1_8 : decode prog_31_method_3_code 8 = .ok (.iload_n 3, 1) := by decide +kernel
theorem d1_9 : decode prog_31_method_3_code 9 = .ok (.sipush 128, 3) := by decide +kernel
theorem d1_12 : decode prog_31_method_3_code 12 = .ok (.if_icmp .ge 5, 3) := by decide +kernel
theorem d1_15 : decode prog_31_method_3_code 15 = .ok (.iload_n 3, 1) := by decide +kernel
theorem d1_16 : decode prog_31_method_3_code 16 = .ok (.ireturn, 1) := by decide +kernel
theorem d1_17 : decode prog_31_method_3_code 17 = .ok (.sipush 128, 3) := by decide +kernel
theorem d1_20 : decode prog_31_method_3_code 20 = .ok (.istore 5, 2) := by decide +kernel
theorem d1_22 : decode prog_31_method_3_code 22 = .ok (.sipush 191, 3) := by decide +kernel
theorem d1_25 : decode prog_31_method_3_code 25 = .ok (.istore 6, 2) := by decide +kernel
theorem d1_27 : decode prog_31_method_3_code 27 = .ok (.iload_n 3, 1) := by decide +kernel
theorem d1_28 : decode prog_31_method_3_code 28 = .ok (.sipush 194, 3) := by decide +kernel
theorem d1_31 : decode prog_31_method_3_code 31 = .ok (.if_icmp .ge 5, 3) := by decide +kernel
theorem d1_34 : decode prog_31_method_3_code 34 = .ok (.iconst (-1), 1) := by decide +kernel
theorem d1_35 : decode prog_31_method_3_code 35 = .ok (.ireturn, 1) := by decide +kernel
theorem d1_36 : decode prog_31_method_3_code 36 = .ok (.iload_n 3, 1) := by decide +kernel
theorem d1_37 : decode prog_31_method_3_code 37 = .ok (.sipush 224, 3) := by decide +kernel
theorem d1_40 : decode prog_31_method_3_code 40 = .ok (.if_icmp .ge 9, 3) := by decide +kernel
theorem d1_43 : decode prog_31_method_3_code 43 = .ok (.iconst 1, 1) := by decide +kernel
theorem d1_44 : decode prog_31_method_3_code 44 = .ok (.istore 4, 2) := by decide +kernel
theorem d1_46 : decode prog_31_method_3_code 46 = .ok (.goto 99, 3) := by decide +kernel
theorem d1_49 : decode prog_31_method_3_code 49 = .ok (.iload_n 3, 1) := by decide +kernel
theorem d1_50 : decode prog_31_method_3_code 50 = .ok (.sipush 240, 3) := by decide +kernel
theorem d1_53 : decode prog_31_method_3_code 53 = .ok (.if_icmp .ge 43, 3) := by decide +kernel
theorem d1_56 : decode prog_31_method_3_code 56 = .ok (.iconst 2, 1) := by decide +kernel
theorem d1_57 : decode prog_31_method_3_code 57 = .ok (.istore 4, 2) := by decide +kernel
theorem d1_59 : decode prog_31_method_3_code 59 = .ok (.iload_n 3, 1) := by decide +kernel
theorem d1_60 : decode prog_31_method_3_code 60 = .ok (.sipush 224, 3) := by decide +kernel
theorem d1_63 : decode prog_31_method_3_code 63 = .ok (.if_icmp .ne 9, 3) := by decide +kernel
theorem d1_66 : decode prog_31_method_3_code 66 = .ok (.sipush 160, 3) := by decide +kernel
theorem d1_69 : decode prog_31_method_3_code 69 = .ok (.goto 5, 3) := by decide +kernel
theorem d1_72 : decode prog_31_method_3_code 72 = .ok (.iload 5, 2) := by decide +kernel
theorem d1_74 : decode prog_31_method_3_code 74 = .ok (.istore 5, 2) := by decide +kernel
theorem d1_76 : decode prog_31_method_3_code 76 = .ok (.iload_n 3, 1) := by decide +kernel
theorem d1_77 : decode prog_31_method_3_code 77 = .ok (.sipush 237, 3) := by decide +kernel
theorem d1_80 : decode prog_31_method_3_code 80 = .ok (.if_icmp .ne 9, 3) := by decide +kernel
theorem d1_83 : decode prog_31_method_3_code 83 = .ok (.sipush 159, 3) := by decide +kernel
theorem d1_86 : decode prog_31_method_3_code 86 = .ok (.goto 5, 3) := by decide +kernel
theorem d1_89 : decode prog_31_method_3_code 89 = .ok (.iload 6, 2) := by decide +kernel
theorem d1_91 : decode prog_31_method_3_code 91 = .ok (.istore 6, 2) := by decide +kernel
theorem d1_93 : decode prog_31_method_3_code 93 = .ok (.goto 52, 3) := by decide +kernel
theorem d1_96 : decode prog_31_method_3_code 96 = .ok (.iload_n 3, 1) := by decide +kernel
theorem d1_97 : decode prog_31_method_3_code 97 = .ok (.sipush 245, 3) := by decide +kernel
theorem d1_100 : decode prog_31_method_3_code 100 = .ok (.if_icmp .ge 43, 3) := by decide +kernel
theorem d1_103 : decode prog_31_method_3_code 103 = .ok (.iconst 3, 1) := by decide +kernel
theorem d1_104 : decode prog_31_method_3_code 104 = .ok (.istore 4, 2) := by decide +kernel
theorem d1_106 : decode prog_31_method_3_code 106 = .ok (.iload_n 3, 1) := by decide +kernel
theorem d1_107 : decode prog_31_method_3_code 107 = .ok (.sipush 240, 3) := by decide +kernel
theorem d1_110 : decode prog_31_method_3_code 110 = .ok (.if_icmp .ne 9, 3) := by decide +kernel
theorem d1_113 : decode prog_31_method_3_code 113 = .ok (.sipush 144, 3) := by decide +kernel
theorem d1_116 : decode prog_31_method_3_code 116 = .ok (.goto 5, 3) := by decide +kernel
theorem d1_119 : decode prog_31_method_3_code 119 = .ok (.iload 5, 2) := by decide +kernel
theorem d1_121 : decode prog_31_method_3_code 121 = .ok (.istore 5, 2) := by decide +kernel
theorem d1_123 : decode prog_31_method_3_code 123 = .ok (.iload_n 3, 1) := by decide +kernel
theorem d1_124 : decode prog_31_method_3_code 124 = .ok (.sipush 244, 3) := by decide +kernel
theorem d1_127 : decode prog_31_method_3_code 127 = .ok (.if_icmp .ne 9, 3) := by decide +kernel
theorem d1_130 : decode prog_31_method_3_code 130 = .ok (.sipush 143, 3) := by decide +kernel
theorem d1_133 : decode prog_31_method_3_code 133 = .ok (.goto 5, 3) := by decide +kernel
theorem d1_136 : decode prog_31_method_3_code 136 = .ok (.iload 6, 2) := by decide +kernel
theorem d1_138 : decode prog_31_method_3_code 138 = .ok (.istore 6, 2) := by decide +kernel
theorem d1_140 : decode prog_31_method_3_code 140 = .ok (.goto 5, 3) := by decide +kernel
theorem d1_143 : decode prog_31_method_3_code 143 = .ok (.iconst (-1), 1) := by decide +kernel
theorem d1_144 : decode prog_31_method_3_code 144 = .ok (.ireturn, 1) := by decide +kernel
theorem d1_145 : decode prog_31_method_3_code 145 = .ok (.iload_n 2, 1) := by decide +kernel
theorem d1_146 : decode prog_31_method_3_code 146 = .ok (.iload_n 1, 1) := by decide +kernel
theorem d1_147 : decode prog_31_method_3_code 147 = .ok (.isub, 1) := by decide +kernel
theorem d1_148 : decode prog_31_method_3_code 148 = .ok (.iload 4, 2) := by decide +kernel
theorem d1_150 : decode prog_31_method_3_code 150 = .ok (.if_icmp .gt 5, 3) := by decide +kernel
theorem d1_153 : decode prog_31_method_3_code 153 = .ok (.iconst (-1), 1) := by decide +kernel
theorem d1_154 : decode prog_31_method_3_code 154 = .ok (.ireturn, 1) := by decide +kernel
theorem d1_155 : decode prog_31_method_3_code 155 = .ok (.aload_n 0, 1) := by decide +kernel
theorem d1_156 : decode prog_31_method_3_code 156 = .ok (.iload_n 1, 1) := by decide +kernel
theorem d1_157 : decode prog_31_method_3_code 157 = .ok (.iconst 1, 1) := by decide +kernel
theorem d1_158 : decode prog_31_method_3_code 158 = .ok (.iadd, 1) := by decide +kernel
theorem d1_159 : decode prog_31_method_3_code 159 = .ok (.baload, 1) := by decide +kernel
theorem d1_160 : decode prog_31_method_3_code 160 = .ok (.sipush 255, 3) := by decide +kernel
theorem d1_163 : decode prog_31_method_3_code 163 = .ok (.iand, 1) := by decide +kernel
theorem d1_164 : decode prog_31_method_3_code 164 = .ok (.istore 7, 2) := by decide +kernel
theorem d1_166 : decode prog_31_method_3_code 166 = .ok (.iload 7, 2) := by decide +kernel
theorem d1_168 : decode prog_31_method_3_code 168 = .ok (.iload 5, 2) := by decide +kernel
theorem d1_170 : decode prog_31_method_3_code 170 = .ok (.if_icmp .lt 10, 3) := by decide +kernel
theorem d1_173 : decode prog_31_method_3_code 173 = .ok (.iload 7, 2) := by decide +kernel
theorem d1_175 : decode prog_31_method_3_code 175 = .ok (.iload 6, 2) := by decide +kernel
theorem d1_177 : decode prog_31_method_3_code 177 = .ok (.if_icmp .le 5, 3) := by decide +kernel
theorem d1_180 : decode prog_31_method_3_code 180 = .ok (.iconst (-1), 1) := by decide +kernel
theorem d1_181 : decode prog_31_method_3_code 181 = .ok (.ireturn, 1) := by decide +kernel
theorem d1_182 : decode prog_31_method_3_code 182 = .ok (.iload_n 3, 1) := by decide +kernel
theorem d1_183 : decode prog_31_method_3_code 183 = .ok (.bipush 63, 2) := by decide +kernel
theorem d1_185 : decode prog_31_method_3_code 185 = .ok (.iload 4, 2) := by decide +kernel
theorem d1_187 : decode prog_31_method_3_code 187 = .ok (.ishr, 1) := by decide +kernel
theorem d1_188 : decode prog_31_method_3_code 188 = .ok (.iand, 1) := by decide +kernel
theorem d1_189 : decode prog_31_method_3_code 189 = .ok (.bipush 6, 2) := by decide +kernel
theorem d1_191 : decode prog_31_method_3_code 191 = .ok (.ishl, 1) := by decide +kernel
theorem d1_192 : decode prog_31_method_3_code 192 = .ok (.iload 7, 2) := by decide +kernel
theorem d1_194 : decode prog_31_method_3_code 194 = .ok (.bipush 63, 2) := by decide +kernel
theorem d1_196 : decode prog_31_method_3_code 196 = .ok (.iand, 1) := by decide +kernel
theorem d1_197 : decode prog_31_method_3_code 197 = .ok (.ior, 1) := by decide +kernel
theorem d1_198 : decode prog_31_method_3_code 198 = .ok (.istore 8, 2) := by decide +kernel
theorem d1_200 : decode prog_31_method_3_code 200 = .ok (.iload_n 1, 1) := by decide +kernel
theorem d1_201 : decode prog_31_method_3_code 201 = .ok (.iconst 2, 1) := by decide +kernel
theorem d1_202 : decode prog_31_method_3_code 202 = .ok (.iadd, 1) := by decide +kernel
theorem d1_203 : decode prog_31_method_3_code 203 = .ok (.istore 9, 2) := by decide +kernel
theorem d1_205 : decode prog_31_method_3_code 205 = .ok (.iload 9, 2) := by decide +kernel
theorem d1_207 : decode prog_31_method_3_code 207 = .ok (.iload_n 1, 1) := by decide +kernel
theorem d1_208 : decode prog_31_method_3_code 208 = .ok (.iload 4, 2) := by decide +kernel
theorem d1_210 : decode prog_31_method_3_code 210 = .ok (.iadd, 1) := by decide +kernel
theorem d1_211 : decode prog_31_method_3_code 211 = .ok (.if_icmp .gt 50, 3) := by decide +kernel
theorem d1_214 : decode prog_31_method_3_code 214 = .ok (.aload_n 0, 1) := by decide +kernel
theorem d1_215 : decode prog_31_method_3_code 215 = .ok (.iload 9, 2) := by decide +kernel
theorem d1_217 : decode prog_31_method_3_code 217 = .ok (.baload, 1) := by decide +kernel
theorem d1_218 : decode prog_31_method_3_code 218 = .ok (.sipush 255, 3) := by decide +kernel
theorem d1_221 : decode prog_31_method_3_code 221 = .ok (.iand, 1) := by decide +kernel
theorem d1_222 : decode prog_31_method_3_code 222 = .ok (.istore 10, 2) := by decide +kernel
theorem d1_224 : decode prog_31_method_3_code 224 = .ok (.iload 10, 2) := by decide +kernel
theorem d1_226 : decode prog_31_method_3_code 226 = .ok (.sipush 128, 3) := by decide +kernel
theorem d1_229 : decode prog_31_method_3_code 229 = .ok (.if_icmp .lt 11, 3) := by decide +kernel
theorem d1_232 : decode prog_31_method_3_code 232 = .ok (.iload 10, 2) := by decide +kernel
theorem d1_234 : decode prog_31_method_3_code 234 = .ok (.sipush 191, 3) := by decide +kernel
theorem d1_237 : decode prog_31_method_3_code 237 = .ok (.if_icmp .le 5, 3) := by decide +kernel
theorem d1_240 : decode prog_31_method_3_code 240 = .ok (.iconst (-1), 1) := by decide +kernel
theorem d1_241 : decode prog_31_method_3_code 241 = .ok (.ireturn, 1) := by decide +kernel
theorem d1_242 : decode prog_31_method_3_code 242 = .ok (.iload 8, 2) := by decide +kernel
theorem d1_244 : decode prog_31_method_3_code 244 = .ok (.bipush 6, 2) := by decide +kernel
theorem d1_246 : decode prog_31_method_3_code 246 = .ok (.ishl, 1) := by decide +kernel
theorem d1_247 : decode prog_31_method_3_code 247 = .ok (.iload 10, 2) := by decide +kernel
theorem d1_249 : decode prog_31_method_3_code 249 = .ok (.bipush 63, 2) := by decide +kernel
theorem d1_251 : decode prog_31_method_3_code 251 = .ok (.iand, 1) := by decide +kernel
theorem d1_252 : decode prog_31_method_3_code 252 = .ok (.ior, 1) := by decide +kernel
theorem d1_253 : decode prog_31_method_3_code 253 = .ok (.istore 8, 2) := by decide +kernel
theorem d1_255 : decode prog_31_method_3_code 255 = .ok (.iinc 9 1, 3) := by decide +kernel
theorem d1_258 : decode prog_31_method_3_code 258 = .ok (.goto (-53), 3) := by decide +kernel
theorem d1_261 : decode prog_31_method_3_code 261 = .ok (.iload 8, 2) := by decide +kernel
theorem d1_263 : decode prog_31_method_3_code 263 = .ok (.ireturn, 1) := by decide +kernel
theorem pn0 : plainName "com/example/leaderline/leaderline/Utf8" = true := by first | (simp [plainName, overriddenIn]; done) | decide +kernel
theorem ef1 (m : MethodId) (u0 : Addr) (p1 : Int32) (p2 : Int32) : entryFrame m #[(.ref u0), (.int p1), (.int p2)] 11 = mkF m 0 #[.val (.ref u0), .val (.int p1), .val (.int p2), .unset, .unset, .unset, .unset, .unset, .unset, .unset, .unset] [] := by first | (simp [entryFrame, mkF, argsToLocals, Value.category]; done) | rfl
def f1 (n_u0 : Int32) (vs_u0 : List Int32) (p1 : Int32) (p2 : Int32) : Int32 := (if ((vs_u0.getD (p1).toNatClampNeg 0) &&& (255 : Int32)) < (128 : Int32) then ((vs_u0.getD (p1).toNatClampNeg 0) &&& (255 : Int32)) else (if ((vs_u0.getD (p1).toNatClampNeg 0) &&& (255 : Int32)) < (194 : Int32) then (-1 : Int32) else (if ((vs_u0.getD (p1).toNatClampNeg 0) &&& (255 : Int32)) < (224 : Int32) then (if (1 : Int32) < (p2 - p1) then (if ((vs_u0.getD ((p1 + (1 : Int32))).toNatClampNeg 0) &&& (255 : Int32)) < (128 : Int32) then (-1 : Int32) else (if (191 : Int32) < ((vs_u0.getD ((p1 + (1 : Int32))).toNatClampNeg 0) &&& (255 : Int32)) then (-1 : Int32) else (((((vs_u0.getD (p1).toNatClampNeg 0) &&& (255 : Int32)) &&& ((63 : Int32) >>> ((1 : Int32) &&& 31))) <<< ((6 : Int32) &&& 31)) ||| (((vs_u0.getD ((p1 + (1 : Int32))).toNatClampNeg 0) &&& (255 : Int32)) &&& (63 : Int32))))) else (-1 : Int32)) else (if ((vs_u0.getD (p1).toNatClampNeg 0) &&& (255 : Int32)) < (240 : Int32) then (if (2 : Int32) < (p2 - p1) then (if ((vs_u0.getD ((p1 + (1 : Int32))).toNatClampNeg 0) &&& (255 : Int32)) < (if ((vs_u0.getD (p1).toNatClampNeg 0) &&& (255 : Int32)) = (224 : Int32) then (160 : Int32) else (128 : Int32)) then (-1 : Int32) else (if (if ((vs_u0.getD (p1).toNatClampNeg 0) &&& (255 : Int32)) = (237 : Int32) then (159 : Int32) else (191 : Int32)) < ((vs_u0.getD ((p1 + (1 : Int32))).toNatClampNeg 0) &&& (255 : Int32)) then (-1 : Int32) else (if ((vs_u0.getD ((p1 + (2 : Int32))).toNatClampNeg 0) &&& (255 : Int32)) < (128 : Int32) then (-1 : Int32) else (if (191 : Int32) < ((vs_u0.getD ((p1 + (2 : Int32))).toNatClampNeg 0) &&& (255 : Int32)) then (-1 : Int32) else (((((((vs_u0.getD (p1).toNatClampNeg 0) &&& (255 : Int32)) &&& ((63 : Int32) >>> ((2 : Int32) &&& 31))) <<< ((6 : Int32) &&& 31)) ||| (((vs_u0.getD ((p1 + (1 : Int32))).toNatClampNeg 0) &&& (255 : Int32)) &&& (63 : Int32))) <<< ((6 : Int32) &&& 31)) ||| (((vs_u0.getD ((p1 + (2 : Int32))).toNatClampNeg 0) &&& (255 : Int32)) &&& (63 : Int32))))))) else (-1 : Int32)) else (if ((vs_u0.getD (p1).toNatClampNeg 0) &&& (255 : Int32)) < (245 : Int32) then (if (3 : Int32) < (p2 - p1) then (if ((vs_u0.getD ((p1 + (1 : Int32))).toNatClampNeg 0) &&& (255 : Int32)) < (if ((vs_u0.getD (p1).toNatClampNeg 0) &&& (255 : Int32)) = (240 : Int32) then (144 : Int32) else (128 : Int32)) then (-1 : Int32) else (if (if ((vs_u0.getD (p1).toNatClampNeg 0) &&& (255 : Int32)) = (244 : Int32) then (143 : Int32) else (191 : Int32)) < ((vs_u0.getD ((p1 + (1 : Int32))).toNatClampNeg 0) &&& (255 : Int32)) then (-1 : Int32) else (if ((vs_u0.getD ((p1 + (2 : Int32))).toNatClampNeg 0) &&& (255 : Int32)) < (128 : Int32) then (-1 : Int32) else (if (191 : Int32) < ((vs_u0.getD ((p1 + (2 : Int32))).toNatClampNeg 0) &&& (255 : Int32)) then (-1 : Int32) else (if ((vs_u0.getD (((p1 + (2 : Int32)) + (1 : Int32))).toNatClampNeg 0) &&& (255 : Int32)) < (128 : Int32) then (-1 : Int32) else (if (191 : Int32) < ((vs_u0.getD (((p1 + (2 : Int32)) + (1 : Int32))).toNatClampNeg 0) &&& (255 : Int32)) then (-1 : Int32) else (((((((((vs_u0.getD (p1).toNatClampNeg 0) &&& (255 : Int32)) &&& ((63 : Int32) >>> ((3 : Int32) &&& 31))) <<< ((6 : Int32) &&& 31)) ||| (((vs_u0.getD ((p1 + (1 : Int32))).toNatClampNeg 0) &&& (255 : Int32)) &&& (63 : Int32))) <<< ((6 : Int32) &&& 31)) ||| (((vs_u0.getD ((p1 + (2 : Int32))).toNatClampNeg 0) &&& (255 : Int32)) &&& (63 : Int32))) <<< ((6 : Int32) &&& 31)) ||| (((vs_u0.getD (((p1 + (2 : Int32)) + (1 : Int32))).toNatClampNeg 0) &&& (255 : Int32)) &&& (63 : Int32))))))))) else (-1 : Int32)) else (-1 : Int32))))))
theorem own_ix1_2 (n_u0 : Int32) (vs_u0 : List Int32) (hl_u0 : vs_u0.length = n_u0.toNatClampNeg) (hn_u0 : ¬ n_u0 < 0) (p1 : Int32) (p2 : Int32) (hB : ¬ p1 < 0 ∧ p1 < n_u0) (hb2 : ¬ n_u0 < p2) (hb3 : ¬ p2 < 0) (hb4 : n_u0 < (100 : Int32)) : ¬ p1 < 0 ∧ p1 < n_u0 := by
  exact hB
theorem own_ix1_159 (n_u0 : Int32) (vs_u0 : List Int32) (hl_u0 : vs_u0.length = n_u0.toNatClampNeg) (hn_u0 : ¬ n_u0 < 0) (p1 : Int32) (p2 : Int32) (hB : ¬ p1 < 0 ∧ p1 < n_u0) (hb2 : ¬ n_u0 < p2) (hb3 : ¬ p2 < 0) (hb4 : n_u0 < (100 : Int32)) (v3_7 : Int32) (ev3_7 : v3_7 = ((vs_u0.getD (p1).toNatClampNeg 0) &&& (255 : Int32))) (hc12_1 : ¬ (v3_7 < (128 : Int32))) (hc31_2 : ¬ (v3_7 < (194 : Int32))) (hc40_3 : v3_7 < (224 : Int32)) (hc150_4 : (1 : Int32) < (p2 - p1)) : ¬ (p1 + (1 : Int32)) < 0 ∧ (p1 + (1 : Int32)) < n_u0 := by
  subst_vars
  simp only [Int32.lt_iff_toInt_lt, Int32.reduceToInt] at *
  have rp := rng32 p1
  have a1 := c_iadd p1 1
  have r1 := rng32 (p1 + 1)
  simp only [Int32.reduceToInt] at a1
  have e1 : (p1 + 1).toInt = p1.toInt + 1 := by omega
  clear a1 r1
  have a2 := c_iadd p1 2
  have r2 := rng32 (p1 + 2)
  simp only [Int32.reduceToInt] at a2
  have e2 : (p1 + 2).toInt = p1.toInt + 2 := by omega
  clear a2 r2
  have a3 := c_iadd p1 3
  have r3 := rng32 (p1 + 3)
  simp only [Int32.reduceToInt] at a3
  have e3 : (p1 + 3).toInt = p1.toInt + 3 := by omega
  clear a3 r3
  have a4 := c_iadd (p1 + 2) 1
  have r4 := rng32 ((p1 + 2) + 1)
  simp only [Int32.reduceToInt] at a4
  have e4 : (p1 + 2 + 1).toInt = p1.toInt + 3 := by omega
  clear a4 r4
  have a5 := c_iadd ((p1 + 2) + 1) 1
  have r5 := rng32 ((p1 + 2) + 1 + 1)
  simp only [Int32.reduceToInt] at a5
  have e5 : (p1 + 2 + 1 + 1).toInt = p1.toInt + 4 := by omega
  clear a5 r5
  have s := c_isub p2 p1
  have r6 := rng32 (p2 - p1)
  have e6 : (p2 - p1).toInt = p2.toInt - p1.toInt := by omega
  clear s r6
  omega
theorem own_hc1_211 (n_u0 : Int32) (vs_u0 : List Int32) (hl_u0 : vs_u0.length = n_u0.toNatClampNeg) (hn_u0 : ¬ n_u0 < 0) (p1 : Int32) (p2 : Int32) (hB : ¬ p1 < 0 ∧ p1 < n_u0) (hb2 : ¬ n_u0 < p2) (hb3 : ¬ p2 < 0) (hb4 : n_u0 < (100 : Int32)) (v3_7 : Int32) (ev3_7 : v3_7 = ((vs_u0.getD (p1).toNatClampNeg 0) &&& (255 : Int32))) (hc12_1 : ¬ (v3_7 < (128 : Int32))) (hc31_2 : ¬ (v3_7 < (194 : Int32))) (hc40_3 : v3_7 < (224 : Int32)) (hc150_4 : (1 : Int32) < (p2 - p1)) (v7_164 : Int32) (ev7_164 : v7_164 = ((vs_u0.getD ((p1 + (1 : Int32))).toNatClampNeg 0) &&& (255 : Int32))) (hc170_5 : ¬ (v7_164 < (128 : Int32))) (hc177_6 : ¬ ((191 : Int32) < v7_164)) (v8_198 : Int32) (ev8_198 : v8_198 = (((v3_7 &&& ((63 : Int32) >>> ((1 : Int32) &&& 31))) <<< ((6 : Int32) &&& 31)) ||| (v7_164 &&& (63 : Int32)))) (v9_203 : Int32) (ev9_203 : v9_203 = (p1 + (2 : Int32))) : (p1 + (1 : Int32)) < v9_203 := by
  subst_vars
  simp only [Int32.lt_iff_toInt_lt, Int32.reduceToInt] at *
  have rp := rng32 p1
  have a1 := c_iadd p1 1
  have r1 := rng32 (p1 + 1)
  simp only [Int32.reduceToInt] at a1
  have e1 : (p1 + 1).toInt = p1.toInt + 1 := by omega
  clear a1 r1
  have a2 := c_iadd p1 2
  have r2 := rng32 (p1 + 2)
  simp only [Int32.reduceToInt] at a2
  have e2 : (p1 + 2).toInt = p1.toInt + 2 := by omega
  clear a2 r2
  have a3 := c_iadd p1 3
  have r3 := rng32 (p1 + 3)
  simp only [Int32.reduceToInt] at a3
  have e3 : (p1 + 3).toInt = p1.toInt + 3 := by omega
  clear a3 r3
  have a4 := c_iadd (p1 + 2) 1
  have r4 := rng32 ((p1 + 2) + 1)
  simp only [Int32.reduceToInt] at a4
  have e4 : (p1 + 2 + 1).toInt = p1.toInt + 3 := by omega
  clear a4 r4
  have a5 := c_iadd ((p1 + 2) + 1) 1
  have r5 := rng32 ((p1 + 2) + 1 + 1)
  simp only [Int32.reduceToInt] at a5
  have e5 : (p1 + 2 + 1 + 1).toInt = p1.toInt + 4 := by omega
  clear a5 r5
  have s := c_isub p2 p1
  have r6 := rng32 (p2 - p1)
  have e6 : (p2 - p1).toInt = p2.toInt - p1.toInt := by omega
  clear s r6
  omega
theorem own_ix1_159_2 (n_u0 : Int32) (vs_u0 : List Int32) (hl_u0 : vs_u0.length = n_u0.toNatClampNeg) (hn_u0 : ¬ n_u0 < 0) (p1 : Int32) (p2 : Int32) (hB : ¬ p1 < 0 ∧ p1 < n_u0) (hb2 : ¬ n_u0 < p2) (hb3 : ¬ p2 < 0) (hb4 : n_u0 < (100 : Int32)) (v3_7 : Int32) (ev3_7 : v3_7 = ((vs_u0.getD (p1).toNatClampNeg 0) &&& (255 : Int32))) (hc12_1 : ¬ (v3_7 < (128 : Int32))) (hc31_2 : ¬ (v3_7 < (194 : Int32))) (hc40_3 : ¬ (v3_7 < (224 : Int32))) (hc53_7 : v3_7 < (240 : Int32)) (v5_74 : Int32) (ev5_74 : v5_74 = (if v3_7 = (224 : Int32) then (160 : Int32) else (128 : Int32))) (v6_91 : Int32) (ev6_91 : v6_91 = (if v3_7 = (237 : Int32) then (159 : Int32) else (191 : Int32))) (hc150_10 : (2 : Int32) < (p2 - p1)) : ¬ (p1 + (1 : Int32)) < 0 ∧ (p1 + (1 : Int32)) < n_u0 := by
  subst_vars
  simp only [Int32.lt_iff_toInt_lt, Int32.reduceToInt] at *
  have rp := rng32 p1
  have a1 := c_iadd p1 1
  have r1 := rng32 (p1 + 1)
  simp only [Int32.reduceToInt] at a1
  have e1 : (p1 + 1).toInt = p1.toInt + 1 := by omega
  clear a1 r1
  have a2 := c_iadd p1 2
  have r2 := rng32 (p1 + 2)
  simp only [Int32.reduceToInt] at a2
  have e2 : (p1 + 2).toInt = p1.toInt + 2 := by omega
  clear a2 r2
  have a3 := c_iadd p1 3
  have r3 := rng32 (p1 + 3)
  simp only [Int32.reduceToInt] at a3
  have e3 : (p1 + 3).toInt = p1.toInt + 3 := by omega
  clear a3 r3
  have a4 := c_iadd (p1 + 2) 1
  have r4 := rng32 ((p1 + 2) + 1)
  simp only [Int32.reduceToInt] at a4
  have e4 : (p1 + 2 + 1).toInt = p1.toInt + 3 := by omega
  clear a4 r4
  have a5 := c_iadd ((p1 + 2) + 1) 1
  have r5 := rng32 ((p1 + 2) + 1 + 1)
  simp only [Int32.reduceToInt] at a5
  have e5 : (p1 + 2 + 1 + 1).toInt = p1.toInt + 4 := by omega
  clear a5 r5
  have s := c_isub p2 p1
  have r6 := rng32 (p2 - p1)
  have e6 : (p2 - p1).toInt = p2.toInt - p1.toInt := by omega
  clear s r6
  omega
theorem own_hc1_211_2 (n_u0 : Int32) (vs_u0 : List Int32) (hl_u0 : vs_u0.length = n_u0.toNatClampNeg) (hn_u0 : ¬ n_u0 < 0) (p1 : Int32) (p2 : Int32) (hB : ¬ p1 < 0 ∧ p1 < n_u0) (hb2 : ¬ n_u0 < p2) (hb3 : ¬ p2 < 0) (hb4 : n_u0 < (100 : Int32)) (v3_7 : Int32) (ev3_7 : v3_7 = ((vs_u0.getD (p1).toNatClampNeg 0) &&& (255 : Int32))) (hc12_1 : ¬ (v3_7 < (128 : Int32))) (hc31_2 : ¬ (v3_7 < (194 : Int32))) (hc40_3 : ¬ (v3_7 < (224 : Int32))) (hc53_7 : v3_7 < (240 : Int32)) (v5_74 : Int32) (ev5_74 : v5_74 = (if v3_7 = (224 : Int32) then (160 : Int32) else (128 : Int32))) (v6_91 : Int32) (ev6_91 : v6_91 = (if v3_7 = (237 : Int32) then (159 : Int32) else (191 : Int32))) (hc150_10 : (2 : Int32) < (p2 - p1)) (v7_164 : Int32) (ev7_164 : v7_164 = ((vs_u0.getD ((p1 + (1 : Int32))).toNatClampNeg 0) &&& (255 : Int32))) (hc170_11 : ¬ (v7_164 < v5_74)) (hc177_12 : ¬ (v6_91 < v7_164)) (v8_198 : Int32) (ev8_198 : v8_198 = (((v3_7 &&& ((63 : Int32) >>> ((2 : Int32) &&& 31))) <<< ((6 : Int32) &&& 31)) ||| (v7_164 &&& (63 : Int32)))) (v9_203 : Int32) (ev9_203 : v9_203 = (p1 + (2 : Int32))) : ¬ ((p1 + (2 : Int32)) < v9_203) := by
  subst_vars
  simp only [Int32.lt_iff_toInt_lt, Int32.reduceToInt] at *
  have rp := rng32 p1
  have a1 := c_iadd p1 1
  have r1 := rng32 (p1 + 1)
  simp only [Int32.reduceToInt] at a1
  have e1 : (p1 + 1).toInt = p1.toInt + 1 := by omega
  clear a1 r1
  have a2 := c_iadd p1 2
  have r2 := rng32 (p1 + 2)
  simp only [Int32.reduceToInt] at a2
  have e2 : (p1 + 2).toInt = p1.toInt + 2 := by omega
  clear a2 r2
  have a3 := c_iadd p1 3
  have r3 := rng32 (p1 + 3)
  simp only [Int32.reduceToInt] at a3
  have e3 : (p1 + 3).toInt = p1.toInt + 3 := by omega
  clear a3 r3
  have a4 := c_iadd (p1 + 2) 1
  have r4 := rng32 ((p1 + 2) + 1)
  simp only [Int32.reduceToInt] at a4
  have e4 : (p1 + 2 + 1).toInt = p1.toInt + 3 := by omega
  clear a4 r4
  have a5 := c_iadd ((p1 + 2) + 1) 1
  have r5 := rng32 ((p1 + 2) + 1 + 1)
  simp only [Int32.reduceToInt] at a5
  have e5 : (p1 + 2 + 1 + 1).toInt = p1.toInt + 4 := by omega
  clear a5 r5
  have s := c_isub p2 p1
  have r6 := rng32 (p2 - p1)
  have e6 : (p2 - p1).toInt = p2.toInt - p1.toInt := by omega
  clear s r6
  omega
theorem own_ix1_217 (n_u0 : Int32) (vs_u0 : List Int32) (hl_u0 : vs_u0.length = n_u0.toNatClampNeg) (hn_u0 : ¬ n_u0 < 0) (p1 : Int32) (p2 : Int32) (hB : ¬ p1 < 0 ∧ p1 < n_u0) (hb2 : ¬ n_u0 < p2) (hb3 : ¬ p2 < 0) (hb4 : n_u0 < (100 : Int32)) (v3_7 : Int32) (ev3_7 : v3_7 = ((vs_u0.getD (p1).toNatClampNeg 0) &&& (255 : Int32))) (hc12_1 : ¬ (v3_7 < (128 : Int32))) (hc31_2 : ¬ (v3_7 < (194 : Int32))) (hc40_3 : ¬ (v3_7 < (224 : Int32))) (hc53_7 : v3_7 < (240 : Int32)) (v5_74 : Int32) (ev5_74 : v5_74 = (if v3_7 = (224 : Int32) then (160 : Int32) else (128 : Int32))) (v6_91 : Int32) (ev6_91 : v6_91 = (if v3_7 = (237 : Int32) then (159 : Int32) else (191 : Int32))) (hc150_10 : (2 : Int32) < (p2 - p1)) (v7_164 : Int32) (ev7_164 : v7_164 = ((vs_u0.getD ((p1 + (1 : Int32))).toNatClampNeg 0) &&& (255 : Int32))) (hc170_11 : ¬ (v7_164 < v5_74)) (hc177_12 : ¬ (v6_91 < v7_164)) (v8_198 : Int32) (ev8_198 : v8_198 = (((v3_7 &&& ((63 : Int32) >>> ((2 : Int32) &&& 31))) <<< ((6 : Int32) &&& 31)) ||| (v7_164 &&& (63 : Int32)))) (v9_203 : Int32) (ev9_203 : v9_203 = (p1 + (2 : Int32))) : ¬ v9_203 < 0 ∧ v9_203 < n_u0 := by
  subst_vars
  simp only [Int32.lt_iff_toInt_lt, Int32.reduceToInt] at *
  have rp := rng32 p1
  have a1 := c_iadd p1 1
  have r1 := rng32 (p1 + 1)
  simp only [Int32.reduceToInt] at a1
  have e1 : (p1 + 1).toInt = p1.toInt + 1 := by omega
  clear a1 r1
  have a2 := c_iadd p1 2
  have r2 := rng32 (p1 + 2)
  simp only [Int32.reduceToInt] at a2
  have e2 : (p1 + 2).toInt = p1.toInt + 2 := by omega
  clear a2 r2
  have a3 := c_iadd p1 3
  have r3 := rng32 (p1 + 3)
  simp only [Int32.reduceToInt] at a3
  have e3 : (p1 + 3).toInt = p1.toInt + 3 := by omega
  clear a3 r3
  have a4 := c_iadd (p1 + 2) 1
  have r4 := rng32 ((p1 + 2) + 1)
  simp only [Int32.reduceToInt] at a4
  have e4 : (p1 + 2 + 1).toInt = p1.toInt + 3 := by omega
  clear a4 r4
  have a5 := c_iadd ((p1 + 2) + 1) 1
  have r5 := rng32 ((p1 + 2) + 1 + 1)
  simp only [Int32.reduceToInt] at a5
  have e5 : (p1 + 2 + 1 + 1).toInt = p1.toInt + 4 := by omega
  clear a5 r5
  have s := c_isub p2 p1
  have r6 := rng32 (p2 - p1)
  have e6 : (p2 - p1).toInt = p2.toInt - p1.toInt := by omega
  clear s r6
  omega
theorem own_hc1_211_3 (n_u0 : Int32) (vs_u0 : List Int32) (hl_u0 : vs_u0.length = n_u0.toNatClampNeg) (hn_u0 : ¬ n_u0 < 0) (p1 : Int32) (p2 : Int32) (hB : ¬ p1 < 0 ∧ p1 < n_u0) (hb2 : ¬ n_u0 < p2) (hb3 : ¬ p2 < 0) (hb4 : n_u0 < (100 : Int32)) (v3_7 : Int32) (ev3_7 : v3_7 = ((vs_u0.getD (p1).toNatClampNeg 0) &&& (255 : Int32))) (hc12_1 : ¬ (v3_7 < (128 : Int32))) (hc31_2 : ¬ (v3_7 < (194 : Int32))) (hc40_3 : ¬ (v3_7 < (224 : Int32))) (hc53_7 : v3_7 < (240 : Int32)) (v5_74 : Int32) (ev5_74 : v5_74 = (if v3_7 = (224 : Int32) then (160 : Int32) else (128 : Int32))) (v6_91 : Int32) (ev6_91 : v6_91 = (if v3_7 = (237 : Int32) then (159 : Int32) else (191 : Int32))) (hc150_10 : (2 : Int32) < (p2 - p1)) (v7_164 : Int32) (ev7_164 : v7_164 = ((vs_u0.getD ((p1 + (1 : Int32))).toNatClampNeg 0) &&& (255 : Int32))) (hc170_11 : ¬ (v7_164 < v5_74)) (hc177_12 : ¬ (v6_91 < v7_164)) (v8_198 : Int32) (ev8_198 : v8_198 = (((v3_7 &&& ((63 : Int32) >>> ((2 : Int32) &&& 31))) <<< ((6 : Int32) &&& 31)) ||| (v7_164 &&& (63 : Int32)))) (v9_203 : Int32) (ev9_203 : v9_203 = (p1 + (2 : Int32))) (v10_222 : Int32) (ev10_222 : v10_222 = ((vs_u0.getD (v9_203).toNatClampNeg 0) &&& (255 : Int32))) (hc229_13 : ¬ (v10_222 < (128 : Int32))) (hc237_14 : ¬ ((191 : Int32) < v10_222)) (v8_253 : Int32) (ev8_253 : v8_253 = ((v8_198 <<< ((6 : Int32) &&& 31)) ||| (v10_222 &&& (63 : Int32)))) : (p1 + (2 : Int32)) < (v9_203 + (1 : Int32)) := by
  subst_vars
  simp only [Int32.lt_iff_toInt_lt, Int32.reduceToInt] at *
  have rp := rng32 p1
  have a1 := c_iadd p1 1
  have r1 := rng32 (p1 + 1)
  simp only [Int32.reduceToInt] at a1
  have e1 : (p1 + 1).toInt = p1.toInt + 1 := by omega
  clear a1 r1
  have a2 := c_iadd p1 2
  have r2 := rng32 (p1 + 2)
  simp only [Int32.reduceToInt] at a2
  have e2 : (p1 + 2).toInt = p1.toInt + 2 := by omega
  clear a2 r2
  have a3 := c_iadd p1 3
  have r3 := rng32 (p1 + 3)
  simp only [Int32.reduceToInt] at a3
  have e3 : (p1 + 3).toInt = p1.toInt + 3 := by omega
  clear a3 r3
  have a4 := c_iadd (p1 + 2) 1
  have r4 := rng32 ((p1 + 2) + 1)
  simp only [Int32.reduceToInt] at a4
  have e4 : (p1 + 2 + 1).toInt = p1.toInt + 3 := by omega
  clear a4 r4
  have a5 := c_iadd ((p1 + 2) + 1) 1
  have r5 := rng32 ((p1 + 2) + 1 + 1)
  simp only [Int32.reduceToInt] at a5
  have e5 : (p1 + 2 + 1 + 1).toInt = p1.toInt + 4 := by omega
  clear a5 r5
  have s := c_isub p2 p1
  have r6 := rng32 (p2 - p1)
  have e6 : (p2 - p1).toInt = p2.toInt - p1.toInt := by omega
  clear s r6
  omega
theorem own_ix1_159_3 (n_u0 : Int32) (vs_u0 : List Int32) (hl_u0 : vs_u0.length = n_u0.toNatClampNeg) (hn_u0 : ¬ n_u0 < 0) (p1 : Int32) (p2 : Int32) (hB : ¬ p1 < 0 ∧ p1 < n_u0) (hb2 : ¬ n_u0 < p2) (hb3 : ¬ p2 < 0) (hb4 : n_u0 < (100 : Int32)) (v3_7 : Int32) (ev3_7 : v3_7 = ((vs_u0.getD (p1).toNatClampNeg 0) &&& (255 : Int32))) (hc12_1 : ¬ (v3_7 < (128 : Int32))) (hc31_2 : ¬ (v3_7 < (194 : Int32))) (hc40_3 : ¬ (v3_7 < (224 : Int32))) (hc53_7 : ¬ (v3_7 < (240 : Int32))) (hc100_15 : v3_7 < (245 : Int32)) (v5_121 : Int32) (ev5_121 : v5_121 = (if v3_7 = (240 : Int32) then (144 : Int32) else (128 : Int32))) (v6_138 : Int32) (ev6_138 : v6_138 = (if v3_7 = (244 : Int32) then (143 : Int32) else (191 : Int32))) (hc150_18 : (3 : Int32) < (p2 - p1)) : ¬ (p1 + (1 : Int32)) < 0 ∧ (p1 + (1 : Int32)) < n_u0 := by
  subst_vars
  simp only [Int32.lt_iff_toInt_lt, Int32.reduceToInt] at *
  have rp := rng32 p1
  have a1 := c_iadd p1 1
  have r1 := rng32 (p1 + 1)
  simp only [Int32.reduceToInt] at a1
  have e1 : (p1 + 1).toInt = p1.toInt + 1 := by omega
  clear a1 r1
  have a2 := c_iadd p1 2
  have r2 := rng32 (p1 + 2)
  simp only [Int32.reduceToInt] at a2
  have e2 : (p1 + 2).toInt = p1.toInt + 2 := by omega
  clear a2 r2
  have a3 := c_iadd p1 3
  have r3 := rng32 (p1 + 3)
  simp only [Int32.reduceToInt] at a3
  have e3 : (p1 + 3).toInt = p1.toInt + 3 := by omega
  clear a3 r3
  have a4 := c_iadd (p1 + 2) 1
  have r4 := rng32 ((p1 + 2) + 1)
  simp only [Int32.reduceToInt] at a4
  have e4 : (p1 + 2 + 1).toInt = p1.toInt + 3 := by omega
  clear a4 r4
  have a5 := c_iadd ((p1 + 2) + 1) 1
  have r5 := rng32 ((p1 + 2) + 1 + 1)
  simp only [Int32.reduceToInt] at a5
  have e5 : (p1 + 2 + 1 + 1).toInt = p1.toInt + 4 := by omega
  clear a5 r5
  have s := c_isub p2 p1
  have r6 := rng32 (p2 - p1)
  have e6 : (p2 - p1).toInt = p2.toInt - p1.toInt := by omega
  clear s r6
  omega
theorem own_hc1_211_4 (n_u0 : Int32) (vs_u0 : List Int32) (hl_u0 : vs_u0.length = n_u0.toNatClampNeg) (hn_u0 : ¬ n_u0 < 0) (p1 : Int32) (p2 : Int32) (hB : ¬ p1 < 0 ∧ p1 < n_u0) (hb2 : ¬ n_u0 < p2) (hb3 : ¬ p2 < 0) (hb4 : n_u0 < (100 : Int32)) (v3_7 : Int32) (ev3_7 : v3_7 = ((vs_u0.getD (p1).toNatClampNeg 0) &&& (255 : Int32))) (hc12_1 : ¬ (v3_7 < (128 : Int32))) (hc31_2 : ¬ (v3_7 < (194 : Int32))) (hc40_3 : ¬ (v3_7 < (224 : Int32))) (hc53_7 : ¬ (v3_7 < (240 : Int32))) (hc100_15 : v3_7 < (245 : Int32)) (v5_121 : Int32) (ev5_121 : v5_121 = (if v3_7 = (240 : Int32) then (144 : Int32) else (128 : Int32))) (v6_138 : Int32) (ev6_138 : v6_138 = (if v3_7 = (244 : Int32) then (143 : Int32) else (191 : Int32))) (hc150_18 : (3 : Int32) < (p2 - p1)) (v7_164 : Int32) (ev7_164 : v7_164 = ((vs_u0.getD ((p1 + (1 : Int32))).toNatClampNeg 0) &&& (255 : Int32))) (hc170_19 : ¬ (v7_164 < v5_121)) (hc177_20 : ¬ (v6_138 < v7_164)) (v8_198 : Int32) (ev8_198 : v8_198 = (((v3_7 &&& ((63 : Int32) >>> ((3 : Int32) &&& 31))) <<< ((6 : Int32) &&& 31)) ||| (v7_164 &&& (63 : Int32)))) (v9_203 : Int32) (ev9_203 : v9_203 = (p1 + (2 : Int32))) : ¬ ((p1 + (3 : Int32)) < v9_203) := by
  subst_vars
  simp only [Int32.lt_iff_toInt_lt, Int32.reduceToInt] at *
  have rp := rng32 p1
  have a1 := c_iadd p1 1
  have r1 := rng32 (p1 + 1)
  simp only [Int32.reduceToInt] at a1
  have e1 : (p1 + 1).toInt = p1.toInt + 1 := by omega
  clear a1 r1
  have a2 := c_iadd p1 2
  have r2 := rng32 (p1 + 2)
  simp only [Int32.reduceToInt] at a2
  have e2 : (p1 + 2).toInt = p1.toInt + 2 := by omega
  clear a2 r2
  have a3 := c_iadd p1 3
  have r3 := rng32 (p1 + 3)
  simp only [Int32.reduceToInt] at a3
  have e3 : (p1 + 3).toInt = p1.toInt + 3 := by omega
  clear a3 r3
  have a4 := c_iadd (p1 + 2) 1
  have r4 := rng32 ((p1 + 2) + 1)
  simp only [Int32.reduceToInt] at a4
  have e4 : (p1 + 2 + 1).toInt = p1.toInt + 3 := by omega
  clear a4 r4
  have a5 := c_iadd ((p1 + 2) + 1) 1
  have r5 := rng32 ((p1 + 2) + 1 + 1)
  simp only [Int32.reduceToInt] at a5
  have e5 : (p1 + 2 + 1 + 1).toInt = p1.toInt + 4 := by omega
  clear a5 r5
  have s := c_isub p2 p1
  have r6 := rng32 (p2 - p1)
  have e6 : (p2 - p1).toInt = p2.toInt - p1.toInt := by omega
  clear s r6
  omega
theorem own_ix1_217_2 (n_u0 : Int32) (vs_u0 : List Int32) (hl_u0 : vs_u0.length = n_u0.toNatClampNeg) (hn_u0 : ¬ n_u0 < 0) (p1 : Int32) (p2 : Int32) (hB : ¬ p1 < 0 ∧ p1 < n_u0) (hb2 : ¬ n_u0 < p2) (hb3 : ¬ p2 < 0) (hb4 : n_u0 < (100 : Int32)) (v3_7 : Int32) (ev3_7 : v3_7 = ((vs_u0.getD (p1).toNatClampNeg 0) &&& (255 : Int32))) (hc12_1 : ¬ (v3_7 < (128 : Int32))) (hc31_2 : ¬ (v3_7 < (194 : Int32))) (hc40_3 : ¬ (v3_7 < (224 : Int32))) (hc53_7 : ¬ (v3_7 < (240 : Int32))) (hc100_15 : v3_7 < (245 : Int32)) (v5_121 : Int32) (ev5_121 : v5_121 = (if v3_7 = (240 : Int32) then (144 : Int32) else (128 : Int32))) (v6_138 : Int32) (ev6_138 : v6_138 = (if v3_7 = (244 : Int32) then (143 : Int32) else (191 : Int32))) (hc150_18 : (3 : Int32) < (p2 - p1)) (v7_164 : Int32) (ev7_164 : v7_164 = ((vs_u0.getD ((p1 + (1 : Int32))).toNatClampNeg 0) &&& (255 : Int32))) (hc170_19 : ¬ (v7_164 < v5_121)) (hc177_20 : ¬ (v6_138 < v7_164)) (v8_198 : Int32) (ev8_198 : v8_198 = (((v3_7 &&& ((63 : Int32) >>> ((3 : Int32) &&& 31))) <<< ((6 : Int32) &&& 31)) ||| (v7_164 &&& (63 : Int32)))) (v9_203 : Int32) (ev9_203 : v9_203 = (p1 + (2 : Int32))) : ¬ v9_203 < 0 ∧ v9_203 < n_u0 := by
  subst_vars
  simp only [Int32.lt_iff_toInt_lt, Int32.reduceToInt] at *
  have rp := rng32 p1
  have a1 := c_iadd p1 1
  have r1 := rng32 (p1 + 1)
  simp only [Int32.reduceToInt] at a1
  have e1 : (p1 + 1).toInt = p1.toInt + 1 := by omega
  clear a1 r1
  have a2 := c_iadd p1 2
  have r2 := rng32 (p1 + 2)
  simp only [Int32.reduceToInt] at a2
  have e2 : (p1 + 2).toInt = p1.toInt + 2 := by omega
  clear a2 r2
  have a3 := c_iadd p1 3
  have r3 := rng32 (p1 + 3)
  simp only [Int32.reduceToInt] at a3
  have e3 : (p1 + 3).toInt = p1.toInt + 3 := by omega
  clear a3 r3
  have a4 := c_iadd (p1 + 2) 1
  have r4 := rng32 ((p1 + 2) + 1)
  simp only [Int32.reduceToInt] at a4
  have e4 : (p1 + 2 + 1).toInt = p1.toInt + 3 := by omega
  clear a4 r4
  have a5 := c_iadd ((p1 + 2) + 1) 1
  have r5 := rng32 ((p1 + 2) + 1 + 1)
  simp only [Int32.reduceToInt] at a5
  have e5 : (p1 + 2 + 1 + 1).toInt = p1.toInt + 4 := by omega
  clear a5 r5
  have s := c_isub p2 p1
  have r6 := rng32 (p2 - p1)
  have e6 : (p2 - p1).toInt = p2.toInt - p1.toInt := by omega
  clear s r6
  omega
theorem own_hc1_211_5 (n_u0 : Int32) (vs_u0 : List Int32) (hl_u0 : vs_u0.length = n_u0.toNatClampNeg) (hn_u0 : ¬ n_u0 < 0) (p1 : Int32) (p2 : Int32) (hB : ¬ p1 < 0 ∧ p1 < n_u0) (hb2 : ¬ n_u0 < p2) (hb3 : ¬ p2 < 0) (hb4 : n_u0 < (100 : Int32)) (v3_7 : Int32) (ev3_7 : v3_7 = ((vs_u0.getD (p1).toNatClampNeg 0) &&& (255 : Int32))) (hc12_1 : ¬ (v3_7 < (128 : Int32))) (hc31_2 : ¬ (v3_7 < (194 : Int32))) (hc40_3 : ¬ (v3_7 < (224 : Int32))) (hc53_7 : ¬ (v3_7 < (240 : Int32))) (hc100_15 : v3_7 < (245 : Int32)) (v5_121 : Int32) (ev5_121 : v5_121 = (if v3_7 = (240 : Int32) then (144 : Int32) else (128 : Int32))) (v6_138 : Int32) (ev6_138 : v6_138 = (if v3_7 = (244 : Int32) then (143 : Int32) else (191 : Int32))) (hc150_18 : (3 : Int32) < (p2 - p1)) (v7_164 : Int32) (ev7_164 : v7_164 = ((vs_u0.getD ((p1 + (1 : Int32))).toNatClampNeg 0) &&& (255 : Int32))) (hc170_19 : ¬ (v7_164 < v5_121)) (hc177_20 : ¬ (v6_138 < v7_164)) (v8_198 : Int32) (ev8_198 : v8_198 = (((v3_7 &&& ((63 : Int32) >>> ((3 : Int32) &&& 31))) <<< ((6 : Int32) &&& 31)) ||| (v7_164 &&& (63 : Int32)))) (v9_203 : Int32) (ev9_203 : v9_203 = (p1 + (2 : Int32))) (v10_222 : Int32) (ev10_222 : v10_222 = ((vs_u0.getD (v9_203).toNatClampNeg 0) &&& (255 : Int32))) (hc229_21 : ¬ (v10_222 < (128 : Int32))) (hc237_22 : ¬ ((191 : Int32) < v10_222)) (v8_253 : Int32) (ev8_253 : v8_253 = ((v8_198 <<< ((6 : Int32) &&& 31)) ||| (v10_222 &&& (63 : Int32)))) : ¬ ((p1 + (3 : Int32)) < (v9_203 + (1 : Int32))) := by
  subst_vars
  simp only [Int32.lt_iff_toInt_lt, Int32.reduceToInt] at *
  have rp := rng32 p1
  have a1 := c_iadd p1 1
  have r1 := rng32 (p1 + 1)
  simp only [Int32.reduceToInt] at a1
  have e1 : (p1 + 1).toInt = p1.toInt + 1 := by omega
  clear a1 r1
  have a2 := c_iadd p1 2
  have r2 := rng32 (p1 + 2)
  simp only [Int32.reduceToInt] at a2
  have e2 : (p1 + 2).toInt = p1.toInt + 2 := by omega
  clear a2 r2
  have a3 := c_iadd p1 3
  have r3 := rng32 (p1 + 3)
  simp only [Int32.reduceToInt] at a3
  have e3 : (p1 + 3).toInt = p1.toInt + 3 := by omega
  clear a3 r3
  have a4 := c_iadd (p1 + 2) 1
  have r4 := rng32 ((p1 + 2) + 1)
  simp only [Int32.reduceToInt] at a4
  have e4 : (p1 + 2 + 1).toInt = p1.toInt + 3 := by omega
  clear a4 r4
  have a5 := c_iadd ((p1 + 2) + 1) 1
  have r5 := rng32 ((p1 + 2) + 1 + 1)
  simp only [Int32.reduceToInt] at a5
  have e5 : (p1 + 2 + 1 + 1).toInt = p1.toInt + 4 := by omega
  clear a5 r5
  have s := c_isub p2 p1
  have r6 := rng32 (p2 - p1)
  have e6 : (p2 - p1).toInt = p2.toInt - p1.toInt := by omega
  clear s r6
  omega
theorem own_ix1_217_3 (n_u0 : Int32) (vs_u0 : List Int32) (hl_u0 : vs_u0.length = n_u0.toNatClampNeg) (hn_u0 : ¬ n_u0 < 0) (p1 : Int32) (p2 : Int32) (hB : ¬ p1 < 0 ∧ p1 < n_u0) (hb2 : ¬ n_u0 < p2) (hb3 : ¬ p2 < 0) (hb4 : n_u0 < (100 : Int32)) (v3_7 : Int32) (ev3_7 : v3_7 = ((vs_u0.getD (p1).toNatClampNeg 0) &&& (255 : Int32))) (hc12_1 : ¬ (v3_7 < (128 : Int32))) (hc31_2 : ¬ (v3_7 < (194 : Int32))) (hc40_3 : ¬ (v3_7 < (224 : Int32))) (hc53_7 : ¬ (v3_7 < (240 : Int32))) (hc100_15 : v3_7 < (245 : Int32)) (v5_121 : Int32) (ev5_121 : v5_121 = (if v3_7 = (240 : Int32) then (144 : Int32) else (128 : Int32))) (v6_138 : Int32) (ev6_138 : v6_138 = (if v3_7 = (244 : Int32) then (143 : Int32) else (191 : Int32))) (hc150_18 : (3 : Int32) < (p2 - p1)) (v7_164 : Int32) (ev7_164 : v7_164 = ((vs_u0.getD ((p1 + (1 : Int32))).toNatClampNeg 0) &&& (255 : Int32))) (hc170_19 : ¬ (v7_164 < v5_121)) (hc177_20 : ¬ (v6_138 < v7_164)) (v8_198 : Int32) (ev8_198 : v8_198 = (((v3_7 &&& ((63 : Int32) >>> ((3 : Int32) &&& 31))) <<< ((6 : Int32) &&& 31)) ||| (v7_164 &&& (63 : Int32)))) (v9_203 : Int32) (ev9_203 : v9_203 = (p1 + (2 : Int32))) (v10_222 : Int32) (ev10_222 : v10_222 = ((vs_u0.getD (v9_203).toNatClampNeg 0) &&& (255 : Int32))) (hc229_21 : ¬ (v10_222 < (128 : Int32))) (hc237_22 : ¬ ((191 : Int32) < v10_222)) (v8_253 : Int32) (ev8_253 : v8_253 = ((v8_198 <<< ((6 : Int32) &&& 31)) ||| (v10_222 &&& (63 : Int32)))) : ¬ (v9_203 + (1 : Int32)) < 0 ∧ (v9_203 + (1 : Int32)) < n_u0 := by
  subst_vars
  simp only [Int32.lt_iff_toInt_lt, Int32.reduceToInt] at *
  have rp := rng32 p1
  have a1 := c_iadd p1 1
  have r1 := rng32 (p1 + 1)
  simp only [Int32.reduceToInt] at a1
  have e1 : (p1 + 1).toInt = p1.toInt + 1 := by omega
  clear a1 r1
  have a2 := c_iadd p1 2
  have r2 := rng32 (p1 + 2)
  simp only [Int32.reduceToInt] at a2
  have e2 : (p1 + 2).toInt = p1.toInt + 2 := by omega
  clear a2 r2
  have a3 := c_iadd p1 3
  have r3 := rng32 (p1 + 3)
  simp only [Int32.reduceToInt] at a3
  have e3 : (p1 + 3).toInt = p1.toInt + 3 := by omega
  clear a3 r3
  have a4 := c_iadd (p1 + 2) 1
  have r4 := rng32 ((p1 + 2) + 1)
  simp only [Int32.reduceToInt] at a4
  have e4 : (p1 + 2 + 1).toInt = p1.toInt + 3 := by omega
  clear a4 r4
  have a5 := c_iadd ((p1 + 2) + 1) 1
  have r5 := rng32 ((p1 + 2) + 1 + 1)
  simp only [Int32.reduceToInt] at a5
  have e5 : (p1 + 2 + 1 + 1).toInt = p1.toInt + 4 := by omega
  clear a5 r5
  have s := c_isub p2 p1
  have r6 := rng32 (p2 - p1)
  have e6 : (p2 - p1).toInt = p2.toInt - p1.toInt := by omega
  clear s r6
  omega
theorem own_hc1_211_6 (n_u0 : Int32) (vs_u0 : List Int32) (hl_u0 : vs_u0.length = n_u0.toNatClampNeg) (hn_u0 : ¬ n_u0 < 0) (p1 : Int32) (p2 : Int32) (hB : ¬ p1 < 0 ∧ p1 < n_u0) (hb2 : ¬ n_u0 < p2) (hb3 : ¬ p2 < 0) (hb4 : n_u0 < (100 : Int32)) (v3_7 : Int32) (ev3_7 : v3_7 = ((vs_u0.getD (p1).toNatClampNeg 0) &&& (255 : Int32))) (hc12_1 : ¬ (v3_7 < (128 : Int32))) (hc31_2 : ¬ (v3_7 < (194 : Int32))) (hc40_3 : ¬ (v3_7 < (224 : Int32))) (hc53_7 : ¬ (v3_7 < (240 : Int32))) (hc100_15 : v3_7 < (245 : Int32)) (v5_121 : Int32) (ev5_121 : v5_121 = (if v3_7 = (240 : Int32) then (144 : Int32) else (128 : Int32))) (v6_138 : Int32) (ev6_138 : v6_138 = (if v3_7 = (244 : Int32) then (143 : Int32) else (191 : Int32))) (hc150_18 : (3 : Int32) < (p2 - p1)) (v7_164 : Int32) (ev7_164 : v7_164 = ((vs_u0.getD ((p1 + (1 : Int32))).toNatClampNeg 0) &&& (255 : Int32))) (hc170_19 : ¬ (v7_164 < v5_121)) (hc177_20 : ¬ (v6_138 < v7_164)) (v8_198 : Int32) (ev8_198 : v8_198 = (((v3_7 &&& ((63 : Int32) >>> ((3 : Int32) &&& 31))) <<< ((6 : Int32) &&& 31)) ||| (v7_164 &&& (63 : Int32)))) (v9_203 : Int32) (ev9_203 : v9_203 = (p1 + (2 : Int32))) (v10_222 : Int32) (ev10_222 : v10_222 = ((vs_u0.getD (v9_203).toNatClampNeg 0) &&& (255 : Int32))) (hc229_21 : ¬ (v10_222 < (128 : Int32))) (hc237_22 : ¬ ((191 : Int32) < v10_222)) (v8_253 : Int32) (ev8_253 : v8_253 = ((v8_198 <<< ((6 : Int32) &&& 31)) ||| (v10_222 &&& (63 : Int32)))) (v10_222_2 : Int32) (ev10_222_2 : v10_222_2 = ((vs_u0.getD ((v9_203 + (1 : Int32))).toNatClampNeg 0) &&& (255 : Int32))) (hc229_23 : ¬ (v10_222_2 < (128 : Int32))) (hc237_24 : ¬ ((191 : Int32) < v10_222_2)) (v8_253_2 : Int32) (ev8_253_2 : v8_253_2 = ((v8_253 <<< ((6 : Int32) &&& 31)) ||| (v10_222_2 &&& (63 : Int32)))) : (p1 + (3 : Int32)) < ((v9_203 + (1 : Int32)) + (1 : Int32)) := by
  subst_vars
  simp only [Int32.lt_iff_toInt_lt, Int32.reduceToInt] at *
  have rp := rng32 p1
  have a1 := c_iadd p1 1
  have r1 := rng32 (p1 + 1)
  simp only [Int32.reduceToInt] at a1
  have e1 : (p1 + 1).toInt = p1.toInt + 1 := by omega
  clear a1 r1
  have a2 := c_iadd p1 2
  have r2 := rng32 (p1 + 2)
  simp only [Int32.reduceToInt] at a2
  have e2 : (p1 + 2).toInt = p1.toInt + 2 := by omega
  clear a2 r2
  have a3 := c_iadd p1 3
  have r3 := rng32 (p1 + 3)
  simp only [Int32.reduceToInt] at a3
  have e3 : (p1 + 3).toInt = p1.toInt + 3 := by omega
  clear a3 r3
  have a4 := c_iadd (p1 + 2) 1
  have r4 := rng32 ((p1 + 2) + 1)
  simp only [Int32.reduceToInt] at a4
  have e4 : (p1 + 2 + 1).toInt = p1.toInt + 3 := by omega
  clear a4 r4
  have a5 := c_iadd ((p1 + 2) + 1) 1
  have r5 := rng32 ((p1 + 2) + 1 + 1)
  simp only [Int32.reduceToInt] at a5
  have e5 : (p1 + 2 + 1 + 1).toInt = p1.toInt + 4 := by omega
  clear a5 r5
  have s := c_isub p2 p1
  have r6 := rng32 (p2 - p1)
  have e6 : (p2 - p1).toInt = p2.toInt - p1.toInt := by omega
  clear s r6
  omega
def Q1 (Z : State) (u0 : Addr) (p1 : Int32) (p2 : Int32) (k_u0 : ClassId) (n_u0 : Int32) (vs_u0 : List Int32) (h0 : Heap) (n0 : Nat) (v : Option Value) (h : Heap) (L : List Loc) : Prop := v = some (.int (f1 n_u0 vs_u0 p1 p2)) ∧ Fr n0 L ∧ h = h0
set_option maxRecDepth 65536 in
set_option maxHeartbeats 40000000 in
theorem rm1 (l : Launch) (Z : State) (a0 : Array Value) (hw : ∀ d ∈ tables_1, d.before a0 Z = true) (ws : List Jvm.Cond) (u0 : Addr) (p1 : Int32) (p2 : Int32) (k_u0 : ClassId) (n_u0 : Int32) (vs_u0 : List Int32) (h0 : Heap) (n0 : Nat) (Z0 : n0 ≤ h0.size) (V_u0 : AI Z h0 u0 k_u0 .byte n_u0 vs_u0) (hB : ¬ p1 < 0 ∧ p1 < n_u0) (hb2 : ¬ n_u0 < p2) (hb3 : ¬ p2 < 0) (hb4 : n_u0 < (100 : Int32)) :
    MetFree l (⟨"com/example/leaderline/leaderline/Utf8", "decode", "([BII)I"⟩ : MethodName) (head1 (Jvm.Cond.code (⟨"com/example/leaderline/leaderline/Utf8", "decode", "([BII)I"⟩ : MethodName) prog_31_method_3_code 11 (some .int) :: ws) ({ frames := 0, cells := 0, slots := 0, locals := 0 } : Room)) (fun a U => a = #[(.ref u0), (.int p1), (.int p2)] ∧ Z.Warmed39 U.vm ∧ U.heap = h0) (fun _ _ _ _ _ => True) (fun _ U o U' => ∃ v L, o = .returned v ∧ Q1 Z u0 p1 p2 k_u0 n_u0 vs_u0 h0 n0 v U'.heap L ∧ FrameEnd U o U' L ({ frames := 0, cells := 0, slots := 0, locals := 0 } : Room).cells ({ frames := 0, cells := 0, slots := 0, locals := 0 } : Room).slots) := by
  refine MetFree.of_bodySF (plainFor_of_name pn0) hisR ?_
  intro p e s m args below meth c s₁ Bd hml0 hP hK
  obtain ⟨rfl, hZ, hh⟩ := hP
  have hx := Bd.exec
  have hby := Bd.bytes
  have hml : c.maxLocals = 11 := hml0
  have hown : s.vm.findClass "com/example/leaderline/leaderline/Utf8" = some m.cls := findClass_of_methodNamed Bd.named
  have hnm := (name_of_methodNamed Bd.named Bd.method).1
  have X0 : Stand p l e ({ frames := 0, cells := 0, slots := 0, locals := 0 } : Room) s m #[(.ref u0), (.int p1), (.int p2)] below meth c s₁ [] 0 0 := Stand.of_body Bd
  have e0 : s₁.heap = h0 := by rw [← hh, Bd.state]; rfl
  have N0 := Fr.nil n0
  have hl_u0 : vs_u0.length = n_u0.toNatClampNeg := V_u0.2
  have hn_u0 : ¬ n_u0 < 0 := V_u0.nn
  refine Goes.out (Q := fun o U' => ∃ v L, o = .returned v ∧ Q1 Z u0 p1 p2 k_u0 n_u0 vs_u0 h0 n0 v U'.heap L ∧ FrameEnd s o U' L ({ frames := 0, cells := 0, slots := 0, locals := 0 } : Room).cells ({ frames := 0, cells := 0, slots := 0, locals := 0 } : Room).slots) ?_
  refine Goes.step (S' := s₁.setTop (mkF m 0 #[.val (.ref u0), .val (.int p1), .val (.int p2), .unset, .unset, .unset, .unset, .unset, .unset, .unset, .unset] [])) (fun _ k => castTop (ef1 m u0 p1 p2) k) ?_
  refine Goes.step (S' := s₁.setTop (mkF m 1 #[.val (.ref u0), .val (.int p1), .val (.int p2), .unset, .unset, .unset, .unset, .unset, .unset, .unset, .unset] [(.ref u0)])) (fun _ k => XS.aloadN X0.here hx rfl (hb hby d1_0) rfl rfl k) ?_
  refine Goes.step (S' := s₁.setTop (mkF m 2 #[.val (.ref u0), .val (.int p1), .val (.int p2), .unset, .unset, .unset, .unset, .unset, .unset, .unset, .unset] [(.int p1), (.ref u0)])) (fun _ k => XS.iloadN X0.here hx rfl (hb hby d1_1) rfl  k) ?_
  refine Goes.step (S' := s₁.setTop (mkF m 3 #[.val (.ref u0), .val (.int p1), .val (.int p2), .unset, .unset, .unset, .unset, .unset, .unset, .unset, .unset] [(.int (vs_u0.getD (p1).toNatClampNeg 0))])) (fun _ k => own_baload X0 hx hZ e0 V_u0 (own_ix1_2 n_u0 vs_u0 hl_u0 hn_u0 p1 p2 hB hb2 hb3 hb4) (hb hby d1_2) _ k) ?_
  refine Goes.step (S' := s₁.setTop (mkF m 6 #[.val (.ref u0), .val (.int p1), .val (.int p2), .unset, .unset, .unset, .unset, .unset, .unset, .unset, .unset] [(.int (255 : Int32)), (.int (vs_u0.getD (p1).toNatClampNeg 0))])) (fun _ k => XS.sipush X0.here hx rfl (hb hby d1_3) k) ?_
  refine Goes.step (S' := s₁.setTop (mkF m 7 #[.val (.ref u0), .val (.int p1), .val (.int p2), .unset, .unset, .unset, .unset, .unset, .unset, .unset, .unset] [(.int ((vs_u0.getD (p1).toNatClampNeg 0) &&& (255 : Int32)))])) (fun _ k => XS.iand X0.here hx rfl (hb hby d1_6) rfl k) ?_
  refine Goes.step (S' := s₁.setTop (mkF m 8 #[.val (.ref u0), .val (.int p1), .val (.int p2), .val (.int ((vs_u0.getD (p1).toNatClampNeg 0) &&& (255 : Int32))), .unset, .unset, .unset, .unset, .unset, .unset, .unset] [])) (fun _ k => XS.istoreN X0.here hx rfl (hb hby d1_7) rfl (l' := #[.val (.ref u0), .val (.int p1), .val (.int p2), .val (.int ((vs_u0.getD (p1).toNatClampNeg 0) &&& (255 : Int32))), .unset, .unset, .unset, .unset, .unset, .unset, .unset]) rfl k) ?_
  obtain ⟨v3_7, ev3_7⟩ : ∃ z : Int32, z = ((vs_u0.getD (p1).toNatClampNeg 0) &&& (255 : Int32)) := ⟨_, rfl⟩
  rw [← ev3_7]
  refine Goes.step (S' := s₁.setTop (mkF m 9 #[.val (.ref u0), .val (.int p1), .val (.int p2), .val (.int v3_7), .unset, .unset, .unset, .unset, .unset, .unset, .unset] [(.int v3_7)])) (fun _ k => XS.iloadN X0.here hx rfl (hb hby d1_8) rfl  k) ?_
  refine Goes.step (S' := s₁.setTop (mkF m 12 #[.val (.ref u0), .val (.int p1), .val (.int p2), .val (.int v3_7), .unset, .unset, .unset, .unset, .unset, .unset, .unset] [(.int (128 : Int32)), (.int v3_7)])) (fun _ k => XS.sipush X0.here hx rfl (hb hby d1_9) k) ?_
  by_cases hc12_1 : v3_7 < (128 : Int32)
  · refine Goes.step (S' := s₁.setTop (mkF m 15 #[.val (.ref u0), .val (.int p1), .val (.int p2), .val (.int v3_7), .unset, .unset, .unset, .unset, .unset, .unset, .unset] [])) (fun _ k => XS.icmpNo X0.here hx rfl (hb hby d1_12) rfl (tlt hc12_1).2.1 k) ?_
    refine Goes.step (S' := s₁.setTop (mkF m 16 #[.val (.ref u0), .val (.int p1), .val (.int p2), .val (.int v3_7), .unset, .unset, .unset, .unset, .unset, .unset, .unset] [(.int v3_7)])) (fun _ k => XS.iloadN X0.here hx rfl (hb hby d1_15) rfl  k) ?_
    subst ev3_7
    refine Goes.retI X0 hx Bd.notSynchronized Bd.returns (hb hby d1_16) (by decide) (by decide) ?_
    refine ⟨congrArg (fun z => some (Value.int z)) ?_, N0, e0⟩
    rw [f1, if_pos hc12_1]
    try rfl
  · refine Goes.step (S' := s₁.setTop (mkF m 17 #[.val (.ref u0), .val (.int p1), .val (.int p2), .val (.int v3_7), .unset, .unset, .unset, .unset, .unset, .unset, .unset] [])) (fun _ k => XS.icmpYes X0.here hx rfl (pc0 := 12) (pc' := 17) rfl (hb hby d1_12) rfl (flt hc12_1).2.1 (by decide) (by decide) k) ?_
    refine Goes.step (S' := s₁.setTop (mkF m 20 #[.val (.ref u0), .val (.int p1), .val (.int p2), .val (.int v3_7), .unset, .unset, .unset, .unset, .unset, .unset, .unset] [(.int (128 : Int32))])) (fun _ k => XS.sipush X0.here hx rfl (hb hby d1_17) k) ?_
    refine Goes.step (S' := s₁.setTop (mkF m 22 #[.val (.ref u0), .val (.int p1), .val (.int p2), .val (.int v3_7), .unset, .val (.int (128 : Int32)), .unset, .unset, .unset, .unset, .unset] [])) (fun _ k => XS.istore X0.here hx rfl (hb hby d1_20) rfl (l' := #[.val (.ref u0), .val (.int p1), .val (.int p2), .val (.int v3_7), .unset, .val (.int (128 : Int32)), .unset, .unset, .unset, .unset, .unset]) rfl k) ?_
    refine Goes.step (S' := s₁.setTop (mkF m 25 #[.val (.ref u0), .val (.int p1), .val (.int p2), .val (.int v3_7), .unset, .val (.int (128 : Int32)), .unset, .unset, .unset, .unset, .unset] [(.int (191 : Int32))])) (fun _ k => XS.sipush X0.here hx rfl (hb hby d1_22) k) ?_
    refine Goes.step (S' := s₁.setTop (mkF m 27 #[.val (.ref u0), .val (.int p1), .val (.int p2), .val (.int v3_7), .unset, .val (.int (128 : Int32)), .val (.int (191 : Int32)), .unset, .unset, .unset, .unset] [])) (fun _ k => XS.istore X0.here hx rfl (hb hby d1_25) rfl (l' := #[.val (.ref u0), .val (.int p1), .val (.int p2), .val (.int v3_7), .unset, .val (.int (128 : Int32)), .val (.int (191 : Int32)), .unset, .unset, .unset, .unset]) rfl k) ?_
    refine Goes.step (S' := s₁.setTop (mkF m 28 #[.val (.ref u0), .val (.int p1), .val (.int p2), .val (.int v3_7), .unset, .val (.int (128 : Int32)), .val (.int (191 : Int32)), .unset, .unset, .unset, .unset] [(.int v3_7)])) (fun _ k => XS.iloadN X0.here hx rfl (hb hby d1_27) rfl  k) ?_
    refine Goes.step (S' := s₁.setTop (mkF m 31 #[.val (.ref u0), .val (.int p1), .val (.int p2), .val (.int v3_7), .unset, .val (.int (128 : Int32)), .val (.int (191 : Int32)), .unset, .unset, .unset, .unset] [(.int (194 : Int32)), (.int v3_7)])) (fun _ k => XS.sipush X0.here hx rfl (hb hby d1_28) k) ?_
    by_cases hc31_2 : v3_7 < (194 : Int32)
    · refine Goes.step (S' := s₁.setTop (mkF m 34 #[.val (.ref u0), .val (.int p1), .val (.int p2), .val (.int v3_7), .unset, .val (.int (128 : Int32)), .val (.int (191 : Int32)), .unset, .unset, .unset, .unset] [])) (fun _ k => XS.icmpNo X0.here hx rfl (hb hby d1_31) rfl (tlt hc31_2).2.1 k) ?_
      refine Goes.step (S' := s₁.setTop (mkF m 35 #[.val (.ref u0), .val (.int p1), .val (.int p2), .val (.int v3_7), .unset, .val (.int (128 : Int32)), .val (.int (191 : Int32)), .unset, .unset, .unset, .unset] [(.int (-1 : Int32))])) (fun _ k => XS.iconst X0.here hx rfl (hb hby d1_34) k) ?_
      subst ev3_7
      refine Goes.retI X0 hx Bd.notSynchronized Bd.returns (hb hby d1_35) (by decide) (by decide) ?_
      refine ⟨congrArg (fun z => some (Value.int z)) ?_, N0, e0⟩
      rw [f1, if_neg hc12_1, if_pos hc31_2]
      try rfl
    · refine Goes.step (S' := s₁.setTop (mkF m 36 #[.val (.ref u0), .val (.int p1), .val (.int p2), .val (.int v3_7), .unset, .val (.int (128 : Int32)), .val (.int (191 : Int32)), .unset, .unset, .unset, .unset] [])) (fun _ k => XS.icmpYes X0.here hx rfl (pc0 := 31) (pc' := 36) rfl (hb hby d1_31) rfl (flt hc31_2).2.1 (by decide) (by decide) k) ?_
      refine Goes.step (S' := s₁.setTop (mkF m 37 #[.val (.ref u0), .val (.int p1), .val (.int p2), .val (.int v3_7), .unset, .val (.int (128 : Int32)), .val (.int (191 : Int32)), .unset, .unset, .unset, .unset] [(.int v3_7)])) (fun _ k => XS.iloadN X0.here hx rfl (hb hby d1_36) rfl  k) ?_
      refine Goes.step (S' := s₁.setTop (mkF m 40 #[.val (.ref u0), .val (.int p1), .val (.int p2), .val (.int v3_7), .unset, .val (.int (128 : Int32)), .val (.int (191 : Int32)), .unset, .unset, .unset, .unset] [(.int (224 : Int32)), (.int v3_7)])) (fun _ k => XS.sipush X0.here hx rfl (hb hby d1_37) k) ?_
      by_cases hc40_3 : v3_7 < (224 : Int32)
      · refine Goes.step (S' := s₁.setTop (mkF m 43 #[.val (.ref u0), .val (.int p1), .val (.int p2), .val (.int v3_7), .unset, .val (.int (128 : Int32)), .val (.int (191 : Int32)), .unset, .unset, .unset, .unset] [])) (fun _ k => XS.icmpNo X0.here hx rfl (hb hby d1_40) rfl (tlt hc40_3).2.1 k) ?_
        refine Goes.step (S' := s₁.setTop (mkF m 44 #[.val (.ref u0), .val (.int p1), .val (.int p2), .val (.int v3_7), .unset, .val (.int (128 : Int32)), .val (.int (191 : Int32)), .unset, .unset, .unset, .unset] [(.int (1 : Int32))])) (fun _ k => XS.iconst X0.here hx rfl (hb hby d1_43) k) ?_
        refine Goes.step (S' := s₁.setTop (mkF m 46 #[.val (.ref u0), .val (.int p1), .val (.int p2), .val (.int v3_7), .val (.int (1 : Int32)), .val (.int (128 : Int32)), .val (.int (191 : Int32)), .unset, .unset, .unset, .unset] [])) (fun _ k => XS.istore X0.here hx rfl (hb hby d1_44) rfl (l' := #[.val (.ref u0), .val (.int p1), .val (.int p2), .val (.int v3_7), .val (.int (1 : Int32)), .val (.int (128 : Int32)), .val (.int (191 : Int32)), .unset, .unset, .unset, .unset]) rfl k) ?_
        refine Goes.step (S' := s₁.setTop (mkF m 145 #[.val (.ref u0), .val (.int p1), .val (.int p2), .val (.int v3_7), .val (.int (1 : Int32)), .val (.int (128 : Int32)), .val (.int (191 : Int32)), .unset, .unset, .unset, .unset] [])) (fun _ k => XS.goto X0.here hx rfl (pc0 := 46) (pc' := 145) rfl (hb hby d1_46) (by decide) (by decide) k) ?_
        refine Goes.step (S' := s₁.setTop (mkF m 146 #[.val (.ref u0), .val (.int p1), .val (.int p2), .val (.int v3_7), .val (.int (1 : Int32)), .val (.int (128 : Int32)), .val (.int (191 : Int32)), .unset, .unset, .unset, .unset] [(.int p2)])) (fun _ k => XS.iloadN X0.here hx rfl (hb hby d1_145) rfl  k) ?_
        refine Goes.step (S' := s₁.setTop (mkF m 147 #[.val (.ref u0), .val (.int p1), .val (.int p2), .val (.int v3_7), .val (.int (1 : Int32)), .val (.int (128 : Int32)), .val (.int (191 : Int32)), .unset, .unset, .unset, .unset] [(.int p1), (.int p2)])) (fun _ k => XS.iloadN X0.here hx rfl (hb hby d1_146) rfl  k) ?_
        refine Goes.step (S' := s₁.setTop (mkF m 148 #[.val (.ref u0), .val (.int p1), .val (.int p2), .val (.int v3_7), .val (.int (1 : Int32)), .val (.int (128 : Int32)), .val (.int (191 : Int32)), .unset, .unset, .unset, .unset] [(.int (p2 - p1))])) (fun _ k => XS.isub X0.here hx rfl (hb hby d1_147) rfl k) ?_
        refine Goes.step (S' := s₁.setTop (mkF m 150 #[.val (.ref u0), .val (.int p1), .val (.int p2), .val (.int v3_7), .val (.int (1 : Int32)), .val (.int (128 : Int32)), .val (.int (191 : Int32)), .unset, .unset, .unset, .unset] [(.int (1 : Int32)), (.int (p2 - p1))])) (fun _ k => XS.iload X0.here hx rfl (hb hby d1_148) rfl  k) ?_
        by_cases hc150_4 : (1 : Int32) < (p2 - p1)
        · refine Goes.step (S' := s₁.setTop (mkF m 155 #[.val (.ref u0), .val (.int p1), .val (.int p2), .val (.int v3_7), .val (.int (1 : Int32)), .val (.int (128 : Int32)), .val (.int (191 : Int32)), .unset, .unset, .unset, .unset] [])) (fun _ k => XS.icmpYes X0.here hx rfl (pc0 := 150) (pc' := 155) rfl (hb hby d1_150) rfl (tlt hc150_4).2.2.1 (by decide) (by decide) k) ?_
          refine Goes.step (S' := s₁.setTop (mkF m 156 #[.val (.ref u0), .val (.int p1), .val (.int p2), .val (.int v3_7), .val (.int (1 : Int32)), .val (.int (128 : Int32)), .val (.int (191 : Int32)), .unset, .unset, .unset, .unset] [(.ref u0)])) (fun _ k => XS.aloadN X0.here hx rfl (hb hby d1_155) rfl rfl k) ?_
          refine Goes.step (S' := s₁.setTop (mkF m 157 #[.val (.ref u0), .val (.int p1), .val (.int p2), .val (.int v3_7), .val (.int (1 : Int32)), .val (.int (128 : Int32)), .val (.int (191 : Int32)), .unset, .unset, .unset, .unset] [(.int p1), (.ref u0)])) (fun _ k => XS.iloadN X0.here hx rfl (hb hby d1_156) rfl  k) ?_
          refine Goes.step (S' := s₁.setTop (mkF m 158 #[.val (.ref u0), .val (.int p1), .val (.int p2), .val (.int v3_7), .val (.int (1 : Int32)), .val (.int (128 : Int32)), .val (.int (191 : Int32)), .unset, .unset, .unset, .unset] [(.int (1 : Int32)), (.int p1), (.ref u0)])) (fun _ k => XS.iconst X0.here hx rfl (hb hby d1_157) k) ?_
          refine Goes.step (S' := s₁.setTop (mkF m 159 #[.val (.ref u0), .val (.int p1), .val (.int p2), .val (.int v3_7), .val (.int (1 : Int32)), .val (.int (128 : Int32)), .val (.int (191 : Int32)), .unset, .unset, .unset, .unset] [(.int (p1 + (1 : Int32))), (.ref u0)])) (fun _ k => XS.iadd X0.here hx rfl (hb hby d1_158) rfl k) ?_
          refine Goes.step (S' := s₁.setTop (mkF m 160 #[.val (.ref u0), .val (.int p1), .val (.int p2), .val (.int v3_7), .val (.int (1 : Int32)), .val (.int (128 : Int32)), .val (.int (191 : Int32)), .unset, .unset, .unset, .unset] [(.int (vs_u0.getD ((p1 + (1 : Int32))).toNatClampNeg 0))])) (fun _ k => own_baload X0 hx hZ e0 V_u0 (own_ix1_159 n_u0 vs_u0 hl_u0 hn_u0 p1 p2 hB hb2 hb3 hb4 v3_7 ev3_7 hc12_1 hc31_2 hc40_3 hc150_4) (hb hby d1_159) _ k) ?_
          refine Goes.step (S' := s₁.setTop (mkF m 163 #[.val (.ref u0), .val (.int p1), .val (.int p2), .val (.int v3_7), .val (.int (1 : Int32)), .val (.int (128 : Int32)), .val (.int (191 : Int32)), .unset, .unset, .unset, .unset] [(.int (255 : Int32)), (.int (vs_u0.getD ((p1 + (1 : Int32))).toNatClampNeg 0))])) (fun _ k => XS.sipush X0.here hx rfl (hb hby d1_160) k) ?_
          refine Goes.step (S' := s₁.setTop (mkF m 164 #[.val (.ref u0), .val (.int p1), .val (.int p2), .val (.int v3_7), .val (.int (1 : Int32)), .val (.int (128 : Int32)), .val (.int (191 : Int32)), .unset, .unset, .unset, .unset] [(.int ((vs_u0.getD ((p1 + (1 : Int32))).toNatClampNeg 0) &&& (255 : Int32)))])) (fun _ k => XS.iand X0.here hx rfl (hb hby d1_163) rfl k) ?_
          refine Goes.step (S' := s₁.setTop (mkF m 166 #[.val (.ref u0), .val (.int p1), .val (.int p2), .val (.int v3_7), .val (.int (1 : Int32)), .val (.int (128 : Int32)), .val (.int (191 : Int32)), .val (.int ((vs_u0.getD ((p1 + (1 : Int32))).toNatClampNeg 0) &&& (255 : Int32))), .unset, .unset, .unset] [])) (fun _ k => XS.istore X0.here hx rfl (hb hby d1_164) rfl (l' := #[.val (.ref u0), .val (.int p1), .val (.int p2), .val (.int v3_7), .val (.int (1 : Int32)), .val (.int (128 : Int32)), .val (.int (191 : Int32)), .val (.int ((vs_u0.getD ((p1 + (1 : Int32))).toNatClampNeg 0) &&& (255 : Int32))), .unset, .unset, .unset]) rfl k) ?_
          obtain ⟨v7_164, ev7_164⟩ : ∃ z : Int32, z = ((vs_u0.getD ((p1 + (1 : Int32))).toNatClampNeg 0) &&& (255 : Int32)) := ⟨_, rfl⟩
          rw [← ev7_164]
          refine Goes.step (S' := s₁.setTop (mkF m 168 #[.val (.ref u0), .val (.int p1), .val (.int p2), .val (.int v3_7), .val (.int (1 : Int32)), .val (.int (128 : Int32)), .val (.int (191 : Int32)), .val (.int v7_164), .unset, .unset, .unset] [(.int v7_164)])) (fun _ k => XS.iload X0.here hx rfl (hb hby d1_166) rfl  k) ?_
          refine Goes.step (S' := s₁.setTop (mkF m 170 #[.val (.ref u0), .val (.int p1), .val (.int p2), .val (.int v3_7), .val (.int (1 : Int32)), .val (.int (128 : Int32)), .val (.int (191 : Int32)), .val (.int v7_164), .unset, .unset, .unset] [(.int (128 : Int32)), (.int v7_164)])) (fun _ k => XS.iload X0.here hx rfl (hb hby d1_168) rfl  k) ?_
          by_cases hc170_5 : v7_164 < (128 : Int32)
          · refine Goes.step (S' := s₁.setTop (mkF m 180 #[.val (.ref u0), .val (.int p1), .val (.int p2), .val (.int v3_7), .val (.int (1 : Int32)), .val (.int (128 : Int32)), .val (.int (191 : Int32)), .val (.int v7_164), .unset, .unset, .unset] [])) (fun _ k => XS.icmpYes X0.here hx rfl (pc0 := 170) (pc' := 180) rfl (hb hby d1_170) rfl (tlt hc170_5).1 (by decide) (by decide) k) ?_
            refine Goes.step (S' := s₁.setTop (mkF m 181 #[.val (.ref u0), .val (.int p1), .val (.int p2), .val (.int v3_7), .val (.int (1 : Int32)), .val (.int (128 : Int32)), .val (.int (191 : Int32)), .val (.int v7_164), .unset, .unset, .unset] [(.int (-1 : Int32))])) (fun _ k => XS.iconst X0.here hx rfl (hb hby d1_180) k) ?_
            subst ev7_164 ev3_7
            refine Goes.retI X0 hx Bd.notSynchronized Bd.returns (hb hby d1_181) (by decide) (by decide) ?_
            refine ⟨congrArg (fun z => some (Value.int z)) ?_, N0, e0⟩
            rw [f1, if_neg hc12_1, if_neg hc31_2, if_pos hc40_3, if_pos hc150_4, if_pos hc170_5]
            try rfl
          · refine Goes.step (S' := s₁.setTop (mkF m 173 #[.val (.ref u0), .val (.int p1), .val (.int p2), .val (.int v3_7), .val (.int (1 : Int32)), .val (.int (128 : Int32)), .val (.int (191 : Int32)), .val (.int v7_164), .unset, .unset, .unset] [])) (fun _ k => XS.icmpNo X0.here hx rfl (hb hby d1_170) rfl (flt hc170_5).1 k) ?_
            refine Goes.step (S' := s₁.setTop (mkF m 175 #[.val (.ref u0), .val (.int p1), .val (.int p2), .val (.int v3_7), .val (.int (1 : Int32)), .val (.int (128 : Int32)), .val (.int (191 : Int32)), .val (.int v7_164), .unset, .unset, .unset] [(.int v7_164)])) (fun _ k => XS.iload X0.here hx rfl (hb hby d1_173) rfl  k) ?_
            refine Goes.step (S' := s₁.setTop (mkF m 177 #[.val (.ref u0), .val (.int p1), .val (.int p2), .val (.int v3_7), .val (.int (1 : Int32)), .val (.int (128 : Int32)), .val (.int (191 : Int32)), .val (.int v7_164), .unset, .unset, .unset] [(.int (191 : Int32)), (.int v7_164)])) (fun _ k => XS.iload X0.here hx rfl (hb hby d1_175) rfl  k) ?_
            by_cases hc177_6 : (191 : Int32) < v7_164
            · refine Goes.step (S' := s₁.setTop (mkF m 180 #[.val (.ref u0), .val (.int p1), .val (.int p2), .val (.int v3_7), .val (.int (1 : Int32)), .val (.int (128 : Int32)), .val (.int (191 : Int32)), .val (.int v7_164), .unset, .unset, .unset] [])) (fun _ k => XS.icmpNo X0.here hx rfl (hb hby d1_177) rfl (tlt hc177_6).2.2.2 k) ?_
              refine Goes.step (S' := s₁.setTop (mkF m 181 #[.val (.ref u0), .val (.int p1), .val (.int p2), .val (.int v3_7), .val (.int (1 : Int32)), .val (.int (128 : Int32)), .val (.int (191 : Int32)), .val (.int v7_164), .unset, .unset, .unset] [(.int (-1 : Int32))])) (fun _ k => XS.iconst X0.here hx rfl (hb hby d1_180) k) ?_
              subst ev7_164 ev3_7
              refine Goes.retI X0 hx Bd.notSynchronized Bd.returns (hb hby d1_181) (by decide) (by decide) ?_
              refine ⟨congrArg (fun z => some (Value.int z)) ?_, N0, e0⟩
              rw [f1, if_neg hc12_1, if_neg hc31_2, if_pos hc40_3, if_pos hc150_4, if_neg hc170_5, if_pos hc177_6]
              try rfl
            · refine Goes.step (S' := s₁.setTop (mkF m 182 #[.val (.ref u0), .val (.int p1), .val (.int p2), .val (.int v3_7), .val (.int (1 : Int32)), .val (.int (128 : Int32)), .val (.int (191 : Int32)), .val (.int v7_164), .unset, .unset, .unset] [])) (fun _ k => XS.icmpYes X0.here hx rfl (pc0 := 177) (pc' := 182) rfl (hb hby d1_177) rfl (flt hc177_6).2.2.2 (by decide) (by decide) k) ?_
              refine Goes.step (S' := s₁.setTop (mkF m 183 #[.val (.ref u0), .val (.int p1), .val (.int p2), .val (.int v3_7), .val (.int (1 : Int32)), .val (.int (128 : Int32)), .val (.int (191 : Int32)), .val (.int v7_164), .unset, .unset, .unset] [(.int v3_7)])) (fun _ k => XS.iloadN X0.here hx rfl (hb hby d1_182) rfl  k) ?_
              refine Goes.step (S' := s₁.setTop (mkF m 185 #[.val (.ref u0), .val (.int p1), .val (.int p2), .val (.int v3_7), .val (.int (1 : Int32)), .val (.int (128 : Int32)), .val (.int (191 : Int32)), .val (.int v7_164), .unset, .unset, .unset] [(.int (63 : Int32)), (.int v3_7)])) (fun _ k => XS.bipush X0.here hx rfl (hb hby d1_183) k) ?_
              refine Goes.step (S' := s₁.setTop (mkF m 187 #[.val (.ref u0), .val (.int p1), .val (.int p2), .val (.int v3_7), .val (.int (1 : Int32)), .val (.int (128 : Int32)), .val (.int (191 : Int32)), .val (.int v7_164), .unset, .unset, .unset] [(.int (1 : Int32)), (.int (63 : Int32)), (.int v3_7)])) (fun _ k => XS.iload X0.here hx rfl (hb hby d1_185) rfl  k) ?_
              refine Goes.step (S' := s₁.setTop (mkF m 188 #[.val (.ref u0), .val (.int p1), .val (.int p2), .val (.int v3_7), .val (.int (1 : Int32)), .val (.int (128 : Int32)), .val (.int (191 : Int32)), .val (.int v7_164), .unset, .unset, .unset] [(.int ((63 : Int32) >>> ((1 : Int32) &&& 31))), (.int v3_7)])) (fun _ k => XS.ishr X0.here hx rfl (hb hby d1_187) rfl k) ?_
              refine Goes.step (S' := s₁.setTop (mkF m 189 #[.val (.ref u0), .val (.int p1), .val (.int p2), .val (.int v3_7), .val (.int (1 : Int32)), .val (.int (128 : Int32)), .val (.int (191 : Int32)), .val (.int v7_164), .unset, .unset, .unset] [(.int (v3_7 &&& ((63 : Int32) >>> ((1 : Int32) &&& 31))))])) (fun _ k => XS.iand X0.here hx rfl (hb hby d1_188) rfl k) ?_
              refine Goes.step (S' := s₁.setTop (mkF m 191 #[.val (.ref u0), .val (.int p1), .val (.int p2), .val (.int v3_7), .val (.int (1 : Int32)), .val (.int (128 : Int32)), .val (.int (191 : Int32)), .val (.int v7_164), .unset, .unset, .unset] [(.int (6 : Int32)), (.int (v3_7 &&& ((63 : Int32) >>> ((1 : Int32) &&& 31))))])) (fun _ k => XS.bipush X0.here hx rfl (hb hby d1_189) k) ?_
              refine Goes.step (S' := s₁.setTop (mkF m 192 #[.val (.ref u0), .val (.int p1), .val (.int p2), .val (.int v3_7), .val (.int (1 : Int32)), .val (.int (128 : Int32)), .val (.int (191 : Int32)), .val (.int v7_164), .unset, .unset, .unset] [(.int ((v3_7 &&& ((63 : Int32) >>> ((1 : Int32) &&& 31))) <<< ((6 : Int32) &&& 31)))])) (fun _ k => XS.ishl X0.here hx rfl (hb hby d1_191) rfl k) ?_
              refine Goes.step (S' := s₁.setTop (mkF m 194 #[.val (.ref u0), .val (.int p1), .val (.int p2), .val (.int v3_7), .val (.int (1 : Int32)), .val (.int (128 : Int32)), .val (.int (191 : Int32)), .val (.int v7_164), .unset, .unset, .unset] [(.int v7_164), (.int ((v3_7 &&& ((63 : Int32) >>> ((1 : Int32) &&& 31))) <<< ((6 : Int32) &&& 31)))])) (fun _ k => XS.iload X0.here hx rfl (hb hby d1_192) rfl  k) ?_
              refine Goes.step (S' := s₁.setTop (mkF m 196 #[.val (.ref u0), .val (.int p1), .val (.int p2), .val (.int v3_7), .val (.int (1 : Int32)), .val (.int (128 : Int32)), .val (.int (191 : Int32)), .val (.int v7_164), .unset, .unset, .unset] [(.int (63 : Int32)), (.int v7_164), (.int ((v3_7 &&& ((63 : Int32) >>> ((1 : Int32) &&& 31))) <<< ((6 : Int32) &&& 31)))])) (fun _ k => XS.bipush X0.here hx rfl (hb hby d1_194) k) ?_
              refine Goes.step (S' := s₁.setTop (mkF m 197 #[.val (.ref u0), .val (.int p1), .val (.int p2), .val (.int v3_7), .val (.int (1 : Int32)), .val (.int (128 : Int32)), .val (.int (191 : Int32)), .val (.int v7_164), .unset, .unset, .unset] [(.int (v7_164 &&& (63 : Int32))), (.int ((v3_7 &&& ((63 : Int32) >>> ((1 : Int32) &&& 31))) <<< ((6 : Int32) &&& 31)))])) (fun _ k => XS.iand X0.here hx rfl (hb hby d1_196) rfl k) ?_
              refine Goes.step (S' := s₁.setTop (mkF m 198 #[.val (.ref u0), .val (.int p1), .val (.int p2), .val (.int v3_7), .val (.int (1 : Int32)), .val (.int (128 : Int32)), .val (.int (191 : Int32)), .val (.int v7_164), .unset, .unset, .unset] [(.int (((v3_7 &&& ((63 : Int32) >>> ((1 : Int32) &&& 31))) <<< ((6 : Int32) &&& 31)) ||| (v7_164 &&& (63 : Int32))))])) (fun _ k => XS.ior X0.here hx rfl (hb hby d1_197) rfl k) ?_
              refine Goes.step (S' := s₁.setTop (mkF m 200 #[.val (.ref u0), .val (.int p1), .val (.int p2), .val (.int v3_7), .val (.int (1 : Int32)), .val (.int (128 : Int32)), .val (.int (191 : Int32)), .val (.int v7_164), .val (.int (((v3_7 &&& ((63 : Int32) >>> ((1 : Int32) &&& 31))) <<< ((6 : Int32) &&& 31)) ||| (v7_164 &&& (63 : Int32)))), .unset, .unset] [])) (fun _ k => XS.istore X0.here hx rfl (hb hby d1_198) rfl (l' := #[.val (.ref u0), .val (.int p1), .val (.int p2), .val (.int v3_7), .val (.int (1 : Int32)), .val (.int (128 : Int32)), .val (.int (191 : Int32)), .val (.int v7_164), .val (.int (((v3_7 &&& ((63 : Int32) >>> ((1 : Int32) &&& 31))) <<< ((6 : Int32) &&& 31)) ||| (v7_164 &&& (63 : Int32)))), .unset, .unset]) rfl k) ?_
              obtain ⟨v8_198, ev8_198⟩ : ∃ z : Int32, z = (((v3_7 &&& ((63 : Int32) >>> ((1 : Int32) &&& 31))) <<< ((6 : Int32) &&& 31)) ||| (v7_164 &&& (63 : Int32))) := ⟨_, rfl⟩
              rw [← ev8_198]
              refine Goes.step (S' := s₁.setTop (mkF m 201 #[.val (.ref u0), .val (.int p1), .val (.int p2), .val (.int v3_7), .val (.int (1 : Int32)), .val (.int (128 : Int32)), .val (.int (191 : Int32)), .val (.int v7_164), .val (.int v8_198), .unset, .unset] [(.int p1)])) (fun _ k => XS.iloadN X0.here hx rfl (hb hby d1_200) rfl  k) ?_
              refine Goes.step (S' := s₁.setTop (mkF m 202 #[.val (.ref u0), .val (.int p1), .val (.int p2), .val (.int v3_7), .val (.int (1 : Int32)), .val (.int (128 : Int32)), .val (.int (191 : Int32)), .val (.int v7_164), .val (.int v8_198), .unset, .unset] [(.int (2 : Int32)), (.int p1)])) (fun _ k => XS.iconst X0.here hx rfl (hb hby d1_201) k) ?_
              refine Goes.step (S' := s₁.setTop (mkF m 203 #[.val (.ref u0), .val (.int p1), .val (.int p2), .val (.int v3_7), .val (.int (1 : Int32)), .val (.int (128 : Int32)), .val (.int (191 : Int32)), .val (.int v7_164), .val (.int v8_198), .unset, .unset] [(.int (p1 + (2 : Int32)))])) (fun _ k => XS.iadd X0.here hx rfl (hb hby d1_202) rfl k) ?_
              refine Goes.step (S' := s₁.setTop (mkF m 205 #[.val (.ref u0), .val (.int p1), .val (.int p2), .val (.int v3_7), .val (.int (1 : Int32)), .val (.int (128 : Int32)), .val (.int (191 : Int32)), .val (.int v7_164), .val (.int v8_198), .val (.int (p1 + (2 : Int32))), .unset] [])) (fun _ k => XS.istore X0.here hx rfl (hb hby d1_203) rfl (l' := #[.val (.ref u0), .val (.int p1), .val (.int p2), .val (.int v3_7), .val (.int (1 : Int32)), .val (.int (128 : Int32)), .val (.int (191 : Int32)), .val (.int v7_164), .val (.int v8_198), .val (.int (p1 + (2 : Int32))), .unset]) rfl k) ?_
              obtain ⟨v9_203, ev9_203⟩ : ∃ z : Int32, z = (p1 + (2 : Int32)) := ⟨_, rfl⟩
              rw [← ev9_203]
              refine Goes.step (S' := s₁.setTop (mkF m 207 #[.val (.ref u0), .val (.int p1), .val (.int p2), .val (.int v3_7), .val (.int (1 : Int32)), .val (.int (128 : Int32)), .val (.int (191 : Int32)), .val (.int v7_164), .val (.int v8_198), .val (.int v9_203), .unset] [(.int v9_203)])) (fun _ k => XS.iload X0.here hx rfl (hb hby d1_205) rfl  k) ?_
              refine Goes.step (S' := s₁.setTop (mkF m 208 #[.val (.ref u0), .val (.int p1), .val (.int p2), .val (.int v3_7), .val (.int (1 : Int32)), .val (.int (128 : Int32)), .val (.int (191 : Int32)), .val (.int v7_164), .val (.int v8_198), .val (.int v9_203), .unset] [(.int p1), (.int v9_203)])) (fun _ k => XS.iloadN X0.here hx rfl (hb hby d1_207) rfl  k) ?_
              refine Goes.step (S' := s₁.setTop (mkF m 210 #[.val (.ref u0), .val (.int p1), .val (.int p2), .val (.int v3_7), .val (.int (1 : Int32)), .val (.int (128 : Int32)), .val (.int (191 : Int32)), .val (.int v7_164), .val (.int v8_198), .val (.int v9_203), .unset] [(.int (1 : Int32)), (.int p1), (.int v9_203)])) (fun _ k => XS.iload X0.here hx rfl (hb hby d1_208) rfl  k) ?_
              refine Goes.step (S' := s₁.setTop (mkF m 211 #[.val (.ref u0), .val (.int p1), .val (.int p2), .val (.int v3_7), .val (.int (1 : Int32)), .val (.int (128 : Int32)), .val (.int (191 : Int32)), .val (.int v7_164), .val (.int v8_198), .val (.int v9_203), .unset] [(.int (p1 + (1 : Int32))), (.int v9_203)])) (fun _ k => XS.iadd X0.here hx rfl (hb hby d1_210) rfl k) ?_
              refine Goes.step (S' := s₁.setTop (mkF m 261 #[.val (.ref u0), .val (.int p1), .val (.int p2), .val (.int v3_7), .val (.int (1 : Int32)), .val (.int (128 : Int32)), .val (.int (191 : Int32)), .val (.int v7_164), .val (.int v8_198), .val (.int v9_203), .unset] [])) (fun _ k => XS.icmpYes X0.here hx rfl (pc0 := 211) (pc' := 261) rfl (hb hby d1_211) rfl (tlt (own_hc1_211 n_u0 vs_u0 hl_u0 hn_u0 p1 p2 hB hb2 hb3 hb4 v3_7 ev3_7 hc12_1 hc31_2 hc40_3 hc150_4 v7_164 ev7_164 hc170_5 hc177_6 v8_198 ev8_198 v9_203 ev9_203)).2.2.1 (by decide) (by decide) k) ?_
              refine Goes.step (S' := s₁.setTop (mkF m 263 #[.val (.ref u0), .val (.int p1), .val (.int p2), .val (.int v3_7), .val (.int (1 : Int32)), .val (.int (128 : Int32)), .val (.int (191 : Int32)), .val (.int v7_164), .val (.int v8_198), .val (.int v9_203), .unset] [(.int v8_198)])) (fun _ k => XS.iload X0.here hx rfl (hb hby d1_261) rfl  k) ?_
              subst ev9_203 ev8_198 ev7_164 ev3_7
              refine Goes.retI X0 hx Bd.notSynchronized Bd.returns (hb hby d1_263) (by decide) (by decide) ?_
              refine ⟨congrArg (fun z => some (Value.int z)) ?_, N0, e0⟩
              rw [f1, if_neg hc12_1, if_neg hc31_2, if_pos hc40_3, if_pos hc150_4, if_neg hc170_5, if_neg hc177_6]
              try rfl
        · refine Goes.step (S' := s₁.setTop (mkF m 153 #[.val (.ref u0), .val (.int p1), .val (.int p2), .val (.int v3_7), .val (.int (1 : Int32)), .val (.int (128 : Int32)), .val (.int (191 : Int32)), .unset, .unset, .unset, .unset] [])) (fun _ k => XS.icmpNo X0.here hx rfl (hb hby d1_150) rfl (flt hc150_4).2.2.1 k) ?_
          refine Goes.step (S' := s₁.setTop (mkF m 154 #[.val (.ref u0), .val (.int p1), .val (.int p2), .val (.int v3_7), .val (.int (1 : Int32)), .val (.int (128 : Int32)), .val (.int (191 : Int32)), .unset, .unset, .unset, .unset] [(.int (-1 : Int32))])) (fun _ k => XS.iconst X0.here hx rfl (hb hby d1_153) k) ?_
          subst ev3_7
          refine Goes.retI X0 hx Bd.notSynchronized Bd.returns (hb hby d1_154) (by decide) (by decide) ?_
          refine ⟨congrArg (fun z => some (Value.int z)) ?_, N0, e0⟩
          rw [f1, if_neg hc12_1, if_neg hc31_2, if_pos hc40_3, if_neg hc150_4]
          try rfl
      · refine Goes.step (S' := s₁.setTop (mkF m 49 #[.val (.ref u0), .val (.int p1), .val (.int p2), .val (.int v3_7), .unset, .val (.int (128 : Int32)), .val (.int (191 : Int32)), .unset, .unset, .unset, .unset] [])) (fun _ k => XS.icmpYes X0.here hx rfl (pc0 := 40) (pc' := 49) rfl (hb hby d1_40) rfl (flt hc40_3).2.1 (by decide) (by decide) k) ?_
        refine Goes.step (S' := s₁.setTop (mkF m 50 #[.val (.ref u0), .val (.int p1), .val (.int p2), .val (.int v3_7), .unset, .val (.int (128 : Int32)), .val (.int (191 : Int32)), .unset, .unset, .unset, .unset] [(.int v3_7)])) (fun _ k => XS.iloadN X0.here hx rfl (hb hby d1_49) rfl  k) ?_
        refine Goes.step (S' := s₁.setTop (mkF m 53 #[.val (.ref u0), .val (.int p1), .val (.int p2), .val (.int v3_7), .unset, .val (.int (128 : Int32)), .val (.int (191 : Int32)), .unset, .unset, .unset, .unset] [(.int (240 : Int32)), (.int v3_7)])) (fun _ k => XS.sipush X0.here hx rfl (hb hby d1_50) k) ?_
        by_cases hc53_7 : v3_7 < (240 : Int32)
        · refine Goes.step (S' := s₁.setTop (mkF m 56 #[.val (.ref u0), .val (.int p1), .val (.int p2), .val (.int v3_7), .unset, .val (.int (128 : Int32)), .val (.int (191 : Int32)), .unset, .unset, .unset, .unset] [])) (fun _ k => XS.icmpNo X0.here hx rfl (hb hby d1_53) rfl (tlt hc53_7).2.1 k) ?_
          refine Goes.step (S' := s₁.setTop (mkF m 57 #[.val (.ref u0), .val (.int p1), .val (.int p2), .val (.int v3_7), .unset, .val (.int (128 : Int32)), .val (.int (191 : Int32)), .unset, .unset, .unset, .unset] [(.int (2 : Int32))])) (fun _ k => XS.iconst X0.here hx rfl (hb hby d1_56) k) ?_
          refine Goes.step (S' := s₁.setTop (mkF m 59 #[.val (.ref u0), .val (.int p1), .val (.int p2), .val (.int v3_7), .val (.int (2 : Int32)), .val (.int (128 : Int32)), .val (.int (191 : Int32)), .unset, .unset, .unset, .unset] [])) (fun _ k => XS.istore X0.here hx rfl (hb hby d1_57) rfl (l' := #[.val (.ref u0), .val (.int p1), .val (.int p2), .val (.int v3_7), .val (.int (2 : Int32)), .val (.int (128 : Int32)), .val (.int (191 : Int32)), .unset, .unset, .unset, .unset]) rfl k) ?_
          refine Goes.step (S' := s₁.setTop (mkF m 60 #[.val (.ref u0), .val (.int p1), .val (.int p2), .val (.int v3_7), .val (.int (2 : Int32)), .val (.int (128 : Int32)), .val (.int (191 : Int32)), .unset, .unset, .unset, .unset] [(.int v3_7)])) (fun _ k => XS.iloadN X0.here hx rfl (hb hby d1_59) rfl  k) ?_
          refine Goes.step (S' := s₁.setTop (mkF m 63 #[.val (.ref u0), .val (.int p1), .val (.int p2), .val (.int v3_7), .val (.int (2 : Int32)), .val (.int (128 : Int32)), .val (.int (191 : Int32)), .unset, .unset, .unset, .unset] [(.int (224 : Int32)), (.int v3_7)])) (fun _ k => XS.sipush X0.here hx rfl (hb hby d1_60) k) ?_
          refine Goes.step (own_ite1 (T := s₁) (c := v3_7 = (224 : Int32)) (a0 := (160 : Int32)) (b0 := (128 : Int32)) (F := fun z8_0 => (mkF m 74 #[.val (.ref u0), .val (.int p1), .val (.int p2), .val (.int v3_7), .val (.int (2 : Int32)), .val (.int (128 : Int32)), .val (.int (191 : Int32)), .unset, .unset, .unset, .unset] [(.int z8_0)])) ?_ ?_) ?_
          · intro hc63_8 t k
            refine XS.icmpNo X0.here hx rfl (hb hby d1_63) rfl (teq hc63_8).2 ?_
            show Steps p.tables e below (s₁.setTop (mkF m 66 #[.val (.ref u0), .val (.int p1), .val (.int p2), .val (.int v3_7), .val (.int (2 : Int32)), .val (.int (128 : Int32)), .val (.int (191 : Int32)), .unset, .unset, .unset, .unset] [])) _
            refine XS.sipush X0.here hx rfl (hb hby d1_66) ?_
            show Steps p.tables e below (s₁.setTop (mkF m 69 #[.val (.ref u0), .val (.int p1), .val (.int p2), .val (.int v3_7), .val (.int (2 : Int32)), .val (.int (128 : Int32)), .val (.int (191 : Int32)), .unset, .unset, .unset, .unset] [(.int (160 : Int32))])) _
            refine XS.goto X0.here hx rfl (pc0 := 69) (pc' := 74) rfl (hb hby d1_69) (by decide) (by decide) ?_
            show Steps p.tables e below (s₁.setTop (mkF m 74 #[.val (.ref u0), .val (.int p1), .val (.int p2), .val (.int v3_7), .val (.int (2 : Int32)), .val (.int (128 : Int32)), .val (.int (191 : Int32)), .unset, .unset, .unset, .unset] [(.int (160 : Int32))])) _
            exact k
          · intro hc63_8 t k
            refine XS.icmpYes X0.here hx rfl (pc0 := 63) (pc' := 72) rfl (hb hby d1_63) rfl (feq hc63_8).2 (by decide) (by decide) ?_
            show Steps p.tables e below (s₁.setTop (mkF m 72 #[.val (.ref u0), .val (.int p1), .val (.int p2), .val (.int v3_7), .val (.int (2 : Int32)), .val (.int (128 : Int32)), .val (.int (191 : Int32)), .unset, .unset, .unset, .unset] [])) _
            refine XS.iload X0.here hx rfl (hb hby d1_72) rfl  ?_
            show Steps p.tables e below (s₁.setTop (mkF m 74 #[.val (.ref u0), .val (.int p1), .val (.int p2), .val (.int v3_7), .val (.int (2 : Int32)), .val (.int (128 : Int32)), .val (.int (191 : Int32)), .unset, .unset, .unset, .unset] [(.int (128 : Int32))])) _
            exact k
          show Goes p.tables e below _ (s₁.setTop (mkF m 74 #[.val (.ref u0), .val (.int p1), .val (.int p2), .val (.int v3_7), .val (.int (2 : Int32)), .val (.int (128 : Int32)), .val (.int (191 : Int32)), .unset, .unset, .unset, .unset] [(.int (if v3_7 = (224 : Int32) then (160 : Int32) else (128 : Int32)))]))
          refine Goes.step (S' := s₁.setTop (mkF m 76 #[.val (.ref u0), .val (.int p1), .val (.int p2), .val (.int v3_7), .val (.int (2 : Int32)), .val (.int (if v3_7 = (224 : Int32) then (160 : Int32) else (128 : Int32))), .val (.int (191 : Int32)), .unset, .unset, .unset, .unset] [])) (fun _ k => XS.istore X0.here hx rfl (hb hby d1_74) rfl (l' := #[.val (.ref u0), .val (.int p1), .val (.int p2), .val (.int v3_7), .val (.int (2 : Int32)), .val (.int (if v3_7 = (224 : Int32) then (160 : Int32) else (128 : Int32))), .val (.int (191 : Int32)), .unset, .unset, .unset, .unset]) rfl k) ?_
          obtain ⟨v5_74, ev5_74⟩ : ∃ z : Int32, z = (if v3_7 = (224 : Int32) then (160 : Int32) else (128 : Int32)) := ⟨_, rfl⟩
          rw [← ev5_74]
          refine Goes.step (S' := s₁.setTop (mkF m 77 #[.val (.ref u0), .val (.int p1), .val (.int p2), .val (.int v3_7), .val (.int (2 : Int32)), .val (.int v5_74), .val (.int (191 : Int32)), .unset, .unset, .unset, .unset] [(.int v3_7)])) (fun _ k => XS.iloadN X0.here hx rfl (hb hby d1_76) rfl  k) ?_
          refine Goes.step (S' := s₁.setTop (mkF m 80 #[.val (.ref u0), .val (.int p1), .val (.int p2), .val (.int v3_7), .val (.int (2 : Int32)), .val (.int v5_74), .val (.int (191 : Int32)), .unset, .unset, .unset, .unset] [(.int (237 : Int32)), (.int v3_7)])) (fun _ k => XS.sipush X0.here hx rfl (hb hby d1_77) k) ?_
          refine Goes.step (own_ite1 (T := s₁) (c := v3_7 = (237 : Int32)) (a0 := (159 : Int32)) (b0 := (191 : Int32)) (F := fun z9_0 => (mkF m 91 #[.val (.ref u0), .val (.int p1), .val (.int p2), .val (.int v3_7), .val (.int (2 : Int32)), .val (.int v5_74), .val (.int (191 : Int32)), .unset, .unset, .unset, .unset] [(.int z9_0)])) ?_ ?_) ?_
          · intro hc80_9 t k
            refine XS.icmpNo X0.here hx rfl (hb hby d1_80) rfl (teq hc80_9).2 ?_
            show Steps p.tables e below (s₁.setTop (mkF m 83 #[.val (.ref u0), .val (.int p1), .val (.int p2), .val (.int v3_7), .val (.int (2 : Int32)), .val (.int v5_74), .val (.int (191 : Int32)), .unset, .unset, .unset, .unset] [])) _
            refine XS.sipush X0.here hx rfl (hb hby d1_83) ?_
            show Steps p.tables e below (s₁.setTop (mkF m 86 #[.val (.ref u0), .val (.int p1), .val (.int p2), .val (.int v3_7), .val (.int (2 : Int32)), .val (.int v5_74), .val (.int (191 : Int32)), .unset, .unset, .unset, .unset] [(.int (159 : Int32))])) _
            refine XS.goto X0.here hx rfl (pc0 := 86) (pc' := 91) rfl (hb hby d1_86) (by decide) (by decide) ?_
            show Steps p.tables e below (s₁.setTop (mkF m 91 #[.val (.ref u0), .val (.int p1), .val (.int p2), .val (.int v3_7), .val (.int (2 : Int32)), .val (.int v5_74), .val (.int (191 : Int32)), .unset, .unset, .unset, .unset] [(.int (159 : Int32))])) _
            exact k
          · intro hc80_9 t k
            refine XS.icmpYes X0.here hx rfl (pc0 := 80) (pc' := 89) rfl (hb hby d1_80) rfl (feq hc80_9).2 (by decide) (by decide) ?_
            show Steps p.tables e below (s₁.setTop (mkF m 89 #[.val (.ref u0), .val (.int p1), .val (.int p2), .val (.int v3_7), .val (.int (2 : Int32)), .val (.int v5_74), .val (.int (191 : Int32)), .unset, .unset, .unset, .unset] [])) _
            refine XS.iload X0.here hx rfl (hb hby d1_89) rfl  ?_
            show Steps p.tables e below (s₁.setTop (mkF m 91 #[.val (.ref u0), .val (.int p1), .val (.int p2), .val (.int v3_7), .val (.int (2 : Int32)), .val (.int v5_74), .val (.int (191 : Int32)), .unset, .unset, .unset, .unset] [(.int (191 : Int32))])) _
            exact k
          show Goes p.tables e below _ (s₁.setTop (mkF m 91 #[.val (.ref u0), .val (.int p1), .val (.int p2), .val (.int v3_7), .val (.int (2 : Int32)), .val (.int v5_74), .val (.int (191 : Int32)), .unset, .unset, .unset, .unset] [(.int (if v3_7 = (237 : Int32) then (159 : Int32) else (191 : Int32)))]))
          refine Goes.step (S' := s₁.setTop (mkF m 93 #[.val (.ref u0), .val (.int p1), .val (.int p2), .val (.int v3_7), .val (.int (2 : Int32)), .val (.int v5_74), .val (.int (if v3_7 = (237 : Int32) then (159 : Int32) else (191 : Int32))), .unset, .unset, .unset, .unset] [])) (fun _ k => XS.istore X0.here hx rfl (hb hby d1_91) rfl (l' := #[.val (.ref u0), .val (.int p1), .val (.int p2), .val (.int v3_7), .val (.int (2 : Int32)), .val (.int v5_74), .val (.int (if v3_7 = (237 : Int32) then (159 : Int32) else (191 : Int32))), .unset, .unset, .unset, .unset]) rfl k) ?_
          obtain ⟨v6_91, ev6_91⟩ : ∃ z : Int32, z = (if v3_7 = (237 : Int32) then (159 : Int32) else (191 : Int32)) := ⟨_, rfl⟩
          rw [← ev6_91]
          refine Goes.step (S' := s₁.setTop (mkF m 145 #[.val (.ref u0), .val (.int p1), .val (.int p2), .val (.int v3_7), .val (.int (2 : Int32)), .val (.int v5_74), .val (.int v6_91), .unset, .unset, .unset, .unset] [])) (fun _ k => XS.goto X0.here hx rfl (pc0 := 93) (pc' := 145) rfl (hb hby d1_93) (by decide) (by decide) k) ?_
          refine Goes.step (S' := s₁.setTop (mkF m 146 #[.val (.ref u0), .val (.int p1), .val (.int p2), .val (.int v3_7), .val (.int (2 : Int32)), .val (.int v5_74), .val (.int v6_91), .unset, .unset, .unset, .unset] [(.int p2)])) (fun _ k => XS.iloadN X0.here hx rfl (hb hby d1_145) rfl  k) ?_
          refine Goes.step (S' := s₁.setTop (mkF m 147 #[.val (.ref u0), .val (.int p1), .val (.int p2), .val (.int v3_7), .val (.int (2 : Int32)), .val (.int v5_74), .val (.int v6_91), .unset, .unset, .unset, .unset] [(.int p1), (.int p2)])) (fun _ k => XS.iloadN X0.here hx rfl (hb hby d1_146) rfl  k) ?_
          refine Goes.step (S' := s₁.setTop (mkF m 148 #[.val (.ref u0), .val (.int p1), .val (.int p2), .val (.int v3_7), .val (.int (2 : Int32)), .val (.int v5_74), .val (.int v6_91), .unset, .unset, .unset, .unset] [(.int (p2 - p1))])) (fun _ k => XS.isub X0.here hx rfl (hb hby d1_147) rfl k) ?_
          refine Goes.step (S' := s₁.setTop (mkF m 150 #[.val (.ref u0), .val (.int p1), .val (.int p2), .val (.int v3_7), .val (.int (2 : Int32)), .val (.int v5_74), .val (.int v6_91), .unset, .unset, .unset, .unset] [(.int (2 : Int32)), (.int (p2 - p1))])) (fun _ k => XS.iload X0.here hx rfl (hb hby d1_148) rfl  k) ?_
          by_cases hc150_10 : (2 : Int32) < (p2 - p1)
          · refine Goes.step (S' := s₁.setTop (mkF m 155 #[.val (.ref u0), .val (.int p1), .val (.int p2), .val (.int v3_7), .val (.int (2 : Int32)), .val (.int v5_74), .val (.int v6_91), .unset, .unset, .unset, .unset] [])) (fun _ k => XS.icmpYes X0.here hx rfl (pc0 := 150) (pc' := 155) rfl (hb hby d1_150) rfl (tlt hc150_10).2.2.1 (by decide) (by decide) k) ?_
            refine Goes.step (S' := s₁.setTop (mkF m 156 #[.val (.ref u0), .val (.int p1), .val (.int p2), .val (.int v3_7), .val (.int (2 : Int32)), .val (.int v5_74), .val (.int v6_91), .unset, .unset, .unset, .unset] [(.ref u0)])) (fun _ k => XS.aloadN X0.here hx rfl (hb hby d1_155) rfl rfl k) ?_
            refine Goes.step (S' := s₁.setTop (mkF m 157 #[.val (.ref u0), .val (.int p1), .val (.int p2), .val (.int v3_7), .val (.int (2 : Int32)), .val (.int v5_74), .val (.int v6_91), .unset, .unset, .unset, .unset] [(.int p1), (.ref u0)])) (fun _ k => XS.iloadN X0.here hx rfl (hb hby d1_156) rfl  k) ?_
            refine Goes.step (S' := s₁.setTop (mkF m 158 #[.val (.ref u0), .val (.int p1), .val (.int p2), .val (.int v3_7), .val (.int (2 : Int32)), .val (.int v5_74), .val (.int v6_91), .unset, .unset, .unset, .unset] [(.int (1 : Int32)), (.int p1), (.ref u0)])) (fun _ k => XS.iconst X0.here hx rfl (hb hby d1_157) k) ?_
            refine Goes.step (S' := s₁.setTop (mkF m 159 #[.val (.ref u0), .val (.int p1), .val (.int p2), .val (.int v3_7), .val (.int (2 : Int32)), .val (.int v5_74), .val (.int v6_91), .unset, .unset, .unset, .unset] [(.int (p1 + (1 : Int32))), (.ref u0)])) (fun _ k => XS.iadd X0.here hx rfl (hb hby d1_158) rfl k) ?_
            refine Goes.step (S' := s₁.setTop (mkF m 160 #[.val (.ref u0), .val (.int p1), .val (.int p2), .val (.int v3_7), .val (.int (2 : Int32)), .val (.int v5_74), .val (.int v6_91), .unset, .unset, .unset, .unset] [(.int (vs_u0.getD ((p1 + (1 : Int32))).toNatClampNeg 0))])) (fun _ k => own_baload X0 hx hZ e0 V_u0 (own_ix1_159_2 n_u0 vs_u0 hl_u0 hn_u0 p1 p2 hB hb2 hb3 hb4 v3_7 ev3_7 hc12_1 hc31_2 hc40_3 hc53_7 v5_74 ev5_74 v6_91 ev6_91 hc150_10) (hb hby d1_159) _ k) ?_
            refine Goes.step (S' := s₁.setTop (mkF m 163 #[.val (.ref u0), .val (.int p1), .val (.int p2), .val (.int v3_7), .val (.int (2 : Int32)), .val (.int v5_74), .val (.int v6_91), .unset, .unset, .unset, .unset] [(.int (255 : Int32)), (.int (vs_u0.getD ((p1 + (1 : Int32))).toNatClampNeg 0))])) (fun _ k => XS.sipush X0.here hx rfl (hb hby d1_160) k) ?_
            refine Goes.step (S' := s₁.setTop (mkF m 164 #[.val (.ref u0), .val (.int p1), .val (.int p2), .val (.int v3_7), .val (.int (2 : Int32)), .val (.int v5_74), .val (.int v6_91), .unset, .unset, .unset, .unset] [(.int ((vs_u0.getD ((p1 + (1 : Int32))).toNatClampNeg 0) &&& (255 : Int32)))])) (fun _ k => XS.iand X0.here hx rfl (hb hby d1_163) rfl k) ?_
            refine Goes.step (S' := s₁.setTop (mkF m 166 #[.val (.ref u0), .val (.int p1), .val (.int p2), .val (.int v3_7), .val (.int (2 : Int32)), .val (.int v5_74), .val (.int v6_91), .val (.int ((vs_u0.getD ((p1 + (1 : Int32))).toNatClampNeg 0) &&& (255 : Int32))), .unset, .unset, .unset] [])) (fun _ k => XS.istore X0.here hx rfl (hb hby d1_164) rfl (l' := #[.val (.ref u0), .val (.int p1), .val (.int p2), .val (.int v3_7), .val (.int (2 : Int32)), .val (.int v5_74), .val (.int v6_91), .val (.int ((vs_u0.getD ((p1 + (1 : Int32))).toNatClampNeg 0) &&& (255 : Int32))), .unset, .unset, .unset]) rfl k) ?_
            obtain ⟨v7_164, ev7_164⟩ : ∃ z : Int32, z = ((vs_u0.getD ((p1 + (1 : Int32))).toNatClampNeg 0) &&& (255 : Int32)) := ⟨_, rfl⟩
            rw [← ev7_164]
            refine Goes.step (S' := s₁.setTop (mkF m 168 #[.val (.ref u0), .val (.int p1), .val (.int p2), .val (.int v3_7), .val (.int (2 : Int32)), .val (.int v5_74), .val (.int v6_91), .val (.int v7_164), .unset, .unset, .unset] [(.int v7_164)])) (fun _ k => XS.iload X0.here hx rfl (hb hby d1_166) rfl  k) ?_
            refine Goes.step (S' := s₁.setTop (mkF m 170 #[.val (.ref u0), .val (.int p1), .val (.int p2), .val (.int v3_7), .val (.int (2 : Int32)), .val (.int v5_74), .val (.int v6_91), .val (.int v7_164), .unset, .unset, .unset] [(.int v5_74), (.int v7_164)])) (fun _ k => XS.iload X0.here hx rfl (hb hby d1_168) rfl  k) ?_
            by_cases hc170_11 : v7_164 < v5_74
            · refine Goes.step (S' := s₁.setTop (mkF m 180 #[.val (.ref u0), .val (.int p1), .val (.int p2), .val (.int v3_7), .val (.int (2 : Int32)), .val (.int v5_74), .val (.int v6_91), .val (.int v7_164), .unset, .unset, .unset] [])) (fun _ k => XS.icmpYes X0.here hx rfl (pc0 := 170) (pc' := 180) rfl (hb hby d1_170) rfl (tlt hc170_11).1 (by decide) (by decide) k) ?_
              refine Goes.step (S' := s₁.setTop (mkF m 181 #[.val (.ref u0), .val (.int p1), .val (.int p2), .val (.int v3_7), .val (.int (2 : Int32)), .val (.int v5_74), .val (.int v6_91), .val (.int v7_164), .unset, .unset, .unset] [(.int (-1 : Int32))])) (fun _ k => XS.iconst X0.here hx rfl (hb hby d1_180) k) ?_
              subst ev7_164 ev6_91 ev5_74 ev3_7
              refine Goes.retI X0 hx Bd.notSynchronized Bd.returns (hb hby d1_181) (by decide) (by decide) ?_
              refine ⟨congrArg (fun z => some (Value.int z)) ?_, N0, e0⟩
              rw [f1, if_neg hc12_1, if_neg hc31_2, if_neg hc40_3, if_pos hc53_7, if_pos hc150_10, if_pos hc170_11]
              try rfl
            · refine Goes.step (S' := s₁.setTop (mkF m 173 #[.val (.ref u0), .val (.int p1), .val (.int p2), .val (.int v3_7), .val (.int (2 : Int32)), .val (.int v5_74), .val (.int v6_91), .val (.int v7_164), .unset, .unset, .unset] [])) (fun _ k => XS.icmpNo X0.here hx rfl (hb hby d1_170) rfl (flt hc170_11).1 k) ?_
              refine Goes.step (S' := s₁.setTop (mkF m 175 #[.val (.ref u0), .val (.int p1), .val (.int p2), .val (.int v3_7), .val (.int (2 : Int32)), .val (.int v5_74), .val (.int v6_91), .val (.int v7_164), .unset, .unset, .unset] [(.int v7_164)])) (fun _ k => XS.iload X0.here hx rfl (hb hby d1_173) rfl  k) ?_
              refine Goes.step (S' := s₁.setTop (mkF m 177 #[.val (.ref u0), .val (.int p1), .val (.int p2), .val (.int v3_7), .val (.int (2 : Int32)), .val (.int v5_74), .val (.int v6_91), .val (.int v7_164), .unset, .unset, .unset] [(.int v6_91), (.int v7_164)])) (fun _ k => XS.iload X0.here hx rfl (hb hby d1_175) rfl  k) ?_
              by_cases hc177_12 : v6_91 < v7_164
              · refine Goes.step (S' := s₁.setTop (mkF m 180 #[.val (.ref u0), .val (.int p1), .val (.int p2), .val (.int v3_7), .val (.int (2 : Int32)), .val (.int v5_74), .val (.int v6_91), .val (.int v7_164), .unset, .unset, .unset] [])) (fun _ k => XS.icmpNo X0.here hx rfl (hb hby d1_177) rfl (tlt hc177_12).2.2.2 k) ?_
                refine Goes.step (S' := s₁.setTop (mkF m 181 #[.val (.ref u0), .val (.int p1), .val (.int p2), .val (.int v3_7), .val (.int (2 : Int32)), .val (.int v5_74), .val (.int v6_91), .val (.int v7_164), .unset, .unset, .unset] [(.int (-1 : Int32))])) (fun _ k => XS.iconst X0.here hx rfl (hb hby d1_180) k) ?_
                subst ev7_164 ev6_91 ev5_74 ev3_7
                refine Goes.retI X0 hx Bd.notSynchronized Bd.returns (hb hby d1_181) (by decide) (by decide) ?_
                refine ⟨congrArg (fun z => some (Value.int z)) ?_, N0, e0⟩
                rw [f1, if_neg hc12_1, if_neg hc31_2, if_neg hc40_3, if_pos hc53_7, if_pos hc150_10, if_neg hc170_11, if_pos hc177_12]
                try rfl
              · refine Goes.step (S' := s₁.setTop (mkF m 182 #[.val (.ref u0), .val (.int p1), .val (.int p2), .val (.int v3_7), .val (.int (2 : Int32)), .val (.int v5_74), .val (.int v6_91), .val (.int v7_164), .unset, .unset, .unset] [])) (fun _ k => XS.icmpYes X0.here hx rfl (pc0 := 177) (pc' := 182) rfl (hb hby d1_177) rfl (flt hc177_12).2.2.2 (by decide) (by decide) k) ?_
                refine Goes.step (S' := s₁.setTop (mkF m 183 #[.val (.ref u0), .val (.int p1), .val (.int p2), .val (.int v3_7), .val (.int (2 : Int32)), .val (.int v5_74), .val (.int v6_91), .val (.int v7_164), .unset, .unset, .unset] [(.int v3_7)])) (fun _ k => XS.iloadN X0.here hx rfl (hb hby d1_182) rfl  k) ?_
                refine Goes.step (S' := s₁.setTop (mkF m 185 #[.val (.ref u0), .val (.int p1), .val (.int p2), .val (.int v3_7), .val (.int (2 : Int32)), .val (.int v5_74), .val (.int v6_91), .val (.int v7_164), .unset, .unset, .unset] [(.int (63 : Int32)), (.int v3_7)])) (fun _ k => XS.bipush X0.here hx rfl (hb hby d1_183) k) ?_
                refine Goes.step (S' := s₁.setTop (mkF m 187 #[.val (.ref u0), .val (.int p1), .val (.int p2), .val (.int v3_7), .val (.int (2 : Int32)), .val (.int v5_74), .val (.int v6_91), .val (.int v7_164), .unset, .unset, .unset] [(.int (2 : Int32)), (.int (63 : Int32)), (.int v3_7)])) (fun _ k => XS.iload X0.here hx rfl (hb hby d1_185) rfl  k) ?_
                refine Goes.step (S' := s₁.setTop (mkF m 188 #[.val (.ref u0), .val (.int p1), .val (.int p2), .val (.int v3_7), .val (.int (2 : Int32)), .val (.int v5_74), .val (.int v6_91), .val (.int v7_164), .unset, .unset, .unset] [(.int ((63 : Int32) >>> ((2 : Int32) &&& 31))), (.int v3_7)])) (fun _ k => XS.ishr X0.here hx rfl (hb hby d1_187) rfl k) ?_
                refine Goes.step (S' := s₁.setTop (mkF m 189 #[.val (.ref u0), .val (.int p1), .val (.int p2), .val (.int v3_7), .val (.int (2 : Int32)), .val (.int v5_74), .val (.int v6_91), .val (.int v7_164), .unset, .unset, .unset] [(.int (v3_7 &&& ((63 : Int32) >>> ((2 : Int32) &&& 31))))])) (fun _ k => XS.iand X0.here hx rfl (hb hby d1_188) rfl k) ?_
                refine Goes.step (S' := s₁.setTop (mkF m 191 #[.val (.ref u0), .val (.int p1), .val (.int p2), .val (.int v3_7), .val (.int (2 : Int32)), .val (.int v5_74), .val (.int v6_91), .val (.int v7_164), .unset, .unset, .unset] [(.int (6 : Int32)), (.int (v3_7 &&& ((63 : Int32) >>> ((2 : Int32) &&& 31))))])) (fun _ k => XS.bipush X0.here hx rfl (hb hby d1_189) k) ?_
                refine Goes.step (S' := s₁.setTop (mkF m 192 #[.val (.ref u0), .val (.int p1), .val (.int p2), .val (.int v3_7), .val (.int (2 : Int32)), .val (.int v5_74), .val (.int v6_91), .val (.int v7_164), .unset, .unset, .unset] [(.int ((v3_7 &&& ((63 : Int32) >>> ((2 : Int32) &&& 31))) <<< ((6 : Int32) &&& 31)))])) (fun _ k => XS.ishl X0.here hx rfl (hb hby d1_191) rfl k) ?_
                refine Goes.step (S' := s₁.setTop (mkF m 194 #[.val (.ref u0), .val (.int p1), .val (.int p2), .val (.int v3_7), .val (.int (2 : Int32)), .val (.int v5_74), .val (.int v6_91), .val (.int v7_164), .unset, .unset, .unset] [(.int v7_164), (.int ((v3_7 &&& ((63 : Int32) >>> ((2 : Int32) &&& 31))) <<< ((6 : Int32) &&& 31)))])) (fun _ k => XS.iload X0.here hx rfl (hb hby d1_192) rfl  k) ?_
                refine Goes.step (S' := s₁.setTop (mkF m 196 #[.val (.ref u0), .val (.int p1), .val (.int p2), .val (.int v3_7), .val (.int (2 : Int32)), .val (.int v5_74), .val (.int v6_91), .val (.int v7_164), .unset, .unset, .unset] [(.int (63 : Int32)), (.int v7_164), (.int ((v3_7 &&& ((63 : Int32) >>> ((2 : Int32) &&& 31))) <<< ((6 : Int32) &&& 31)))])) (fun _ k => XS.bipush X0.here hx rfl (hb hby d1_194) k) ?_
                refine Goes.step (S' := s₁.setTop (mkF m 197 #[.val (.ref u0), .val (.int p1), .val (.int p2), .val (.int v3_7), .val (.int (2 : Int32)), .val (.int v5_74), .val (.int v6_91), .val (.int v7_164), .unset, .unset, .unset] [(.int (v7_164 &&& (63 : Int32))), (.int ((v3_7 &&& ((63 : Int32) >>> ((2 : Int32) &&& 31))) <<< ((6 : Int32) &&& 31)))])) (fun _ k => XS.iand X0.here hx rfl (hb hby d1_196) rfl k) ?_
                refine Goes.step (S' := s₁.setTop (mkF m 198 #[.val (.ref u0), .val (.int p1), .val (.int p2), .val (.int v3_7), .val (.int (2 : Int32)), .val (.int v5_74), .val (.int v6_91), .val (.int v7_164), .unset, .unset, .unset] [(.int (((v3_7 &&& ((63 : Int32) >>> ((2 : Int32) &&& 31))) <<< ((6 : Int32) &&& 31)) ||| (v7_164 &&& (63 : Int32))))])) (fun _ k => XS.ior X0.here hx rfl (hb hby d1_197) rfl k) ?_
                refine Goes.step (S' := s₁.setTop (mkF m 200 #[.val (.ref u0), .val (.int p1), .val (.int p2), .val (.int v3_7), .val (.int (2 : Int32)), .val (.int v5_74), .val (.int v6_91), .val (.int v7_164), .val (.int (((v3_7 &&& ((63 : Int32) >>> ((2 : Int32) &&& 31))) <<< ((6 : Int32) &&& 31)) ||| (v7_164 &&& (63 : Int32)))), .unset, .unset] [])) (fun _ k => XS.istore X0.here hx rfl (hb hby d1_198) rfl (l' := #[.val (.ref u0), .val (.int p1), .val (.int p2), .val (.int v3_7), .val (.int (2 : Int32)), .val (.int v5_74), .val (.int v6_91), .val (.int v7_164), .val (.int (((v3_7 &&& ((63 : Int32) >>> ((2 : Int32) &&& 31))) <<< ((6 : Int32) &&& 31)) ||| (v7_164 &&& (63 : Int32)))), .unset, .unset]) rfl k) ?_
                obtain ⟨v8_198, ev8_198⟩ : ∃ z : Int32, z = (((v3_7 &&& ((63 : Int32) >>> ((2 : Int32) &&& 31))) <<< ((6 : Int32) &&& 31)) ||| (v7_164 &&& (63 : Int32))) := ⟨_, rfl⟩
                rw [← ev8_198]
                refine Goes.step (S' := s₁.setTop (mkF m 201 #[.val (.ref u0), .val (.int p1), .val (.int p2), .val (.int v3_7), .val (.int (2 : Int32)), .val (.int v5_74), .val (.int v6_91), .val (.int v7_164), .val (.int v8_198), .unset, .unset] [(.int p1)])) (fun _ k => XS.iloadN X0.here hx rfl (hb hby d1_200) rfl  k) ?_
                refine Goes.step (S' := s₁.setTop (mkF m 202 #[.val (.ref u0), .val (.int p1), .val (.int p2), .val (.int v3_7), .val (.int (2 : Int32)), .val (.int v5_74), .val (.int v6_91), .val (.int v7_164), .val (.int v8_198), .unset, .unset] [(.int (2 : Int32)), (.int p1)])) (fun _ k => XS.iconst X0.here hx rfl (hb hby d1_201) k) ?_
                refine Goes.step (S' := s₁.setTop (mkF m 203 #[.val (.ref u0), .val (.int p1), .val (.int p2), .val (.int v3_7), .val (.int (2 : Int32)), .val (.int v5_74), .val (.int v6_91), .val (.int v7_164), .val (.int v8_198), .unset, .unset] [(.int (p1 + (2 : Int32)))])) (fun _ k => XS.iadd X0.here hx rfl (hb hby d1_202) rfl k) ?_
                refine Goes.step (S' := s₁.setTop (mkF m 205 #[.val (.ref u0), .val (.int p1), .val (.int p2), .val (.int v3_7), .val (.int (2 : Int32)), .val (.int v5_74), .val (.int v6_91), .val (.int v7_164), .val (.int v8_198), .val (.int (p1 + (2 : Int32))), .unset] [])) (fun _ k => XS.istore X0.here hx rfl (hb hby d1_203) rfl (l' := #[.val (.ref u0), .val (.int p1), .val (.int p2), .val (.int v3_7), .val (.int (2 : Int32)), .val (.int v5_74), .val (.int v6_91), .val (.int v7_164), .val (.int v8_198), .val (.int (p1 + (2 : Int32))), .unset]) rfl k) ?_
                obtain ⟨v9_203, ev9_203⟩ : ∃ z : Int32, z = (p1 + (2 : Int32)) := ⟨_, rfl⟩
                rw [← ev9_203]
                refine Goes.step (S' := s₁.setTop (mkF m 207 #[.val (.ref u0), .val (.int p1), .val (.int p2), .val (.int v3_7), .val (.int (2 : Int32)), .val (.int v5_74), .val (.int v6_91), .val (.int v7_164), .val (.int v8_198), .val (.int v9_203), .unset] [(.int v9_203)])) (fun _ k => XS.iload X0.here hx rfl (hb hby d1_205) rfl  k) ?_
                refine Goes.step (S' := s₁.setTop (mkF m 208 #[.val (.ref u0), .val (.int p1), .val (.int p2), .val (.int v3_7), .val (.int (2 : Int32)), .val (.int v5_74), .val (.int v6_91), .val (.int v7_164), .val (.int v8_198), .val (.int v9_203), .unset] [(.int p1), (.int v9_203)])) (fun _ k => XS.iloadN X0.here hx rfl (hb hby d1_207) rfl  k) ?_
                refine Goes.step (S' := s₁.setTop (mkF m 210 #[.val (.ref u0), .val (.int p1), .val (.int p2), .val (.int v3_7), .val (.int (2 : Int32)), .val (.int v5_74), .val (.int v6_91), .val (.int v7_164), .val (.int v8_198), .val (.int v9_203), .unset] [(.int (2 : Int32)), (.int p1), (.int v9_203)])) (fun _ k => XS.iload X0.here hx rfl (hb hby d1_208) rfl  k) ?_
                refine Goes.step (S' := s₁.setTop (mkF m 211 #[.val (.ref u0), .val (.int p1), .val (.int p2), .val (.int v3_7), .val (.int (2 : Int32)), .val (.int v5_74), .val (.int v6_91), .val (.int v7_164), .val (.int v8_198), .val (.int v9_203), .unset] [(.int (p1 + (2 : Int32))), (.int v9_203)])) (fun _ k => XS.iadd X0.here hx rfl (hb hby d1_210) rfl k) ?_
                refine Goes.step (S' := s₁.setTop (mkF m 214 #[.val (.ref u0), .val (.int p1), .val (.int p2), .val (.int v3_7), .val (.int (2 : Int32)), .val (.int v5_74), .val (.int v6_91), .val (.int v7_164), .val (.int v8_198), .val (.int v9_203), .unset] [])) (fun _ k => XS.icmpNo X0.here hx rfl (hb hby d1_211) rfl (flt (own_hc1_211_2 n_u0 vs_u0 hl_u0 hn_u0 p1 p2 hB hb2 hb3 hb4 v3_7 ev3_7 hc12_1 hc31_2 hc40_3 hc53_7 v5_74 ev5_74 v6_91 ev6_91 hc150_10 v7_164 ev7_164 hc170_11 hc177_12 v8_198 ev8_198 v9_203 ev9_203)).2.2.1 k) ?_
                refine Goes.step (S' := s₁.setTop (mkF m 215 #[.val (.ref u0), .val (.int p1), .val (.int p2), .val (.int v3_7), .val (.int (2 : Int32)), .val (.int v5_74), .val (.int v6_91), .val (.int v7_164), .val (.int v8_198), .val (.int v9_203), .unset] [(.ref u0)])) (fun _ k => XS.aloadN X0.here hx rfl (hb hby d1_214) rfl rfl k) ?_
                refine Goes.step (S' := s₁.setTop (mkF m 217 #[.val (.ref u0), .val (.int p1), .val (.int p2), .val (.int v3_7), .val (.int (2 : Int32)), .val (.int v5_74), .val (.int v6_91), .val (.int v7_164), .val (.int v8_198), .val (.int v9_203), .unset] [(.int v9_203), (.ref u0)])) (fun _ k => XS.iload X0.here hx rfl (hb hby d1_215) rfl  k) ?_
                refine Goes.step (S' := s₁.setTop (mkF m 218 #[.val (.ref u0), .val (.int p1), .val (.int p2), .val (.int v3_7), .val (.int (2 : Int32)), .val (.int v5_74), .val (.int v6_91), .val (.int v7_164), .val (.int v8_198), .val (.int v9_203), .unset] [(.int (vs_u0.getD (v9_203).toNatClampNeg 0))])) (fun _ k => own_baload X0 hx hZ e0 V_u0 (own_ix1_217 n_u0 vs_u0 hl_u0 hn_u0 p1 p2 hB hb2 hb3 hb4 v3_7 ev3_7 hc12_1 hc31_2 hc40_3 hc53_7 v5_74 ev5_74 v6_91 ev6_91 hc150_10 v7_164 ev7_164 hc170_11 hc177_12 v8_198 ev8_198 v9_203 ev9_203) (hb hby d1_217) _ k) ?_
                refine Goes.step (S' := s₁.setTop (mkF m 221 #[.val (.ref u0), .val (.int p1), .val (.int p2), .val (.int v3_7), .val (.int (2 : Int32)), .val (.int v5_74), .val (.int v6_91), .val (.int v7_164), .val (.int v8_198), .val (.int v9_203), .unset] [(.int (255 : Int32)), (.int (vs_u0.getD (v9_203).toNatClampNeg 0))])) (fun _ k => XS.sipush X0.here hx rfl (hb hby d1_218) k) ?_
                refine Goes.step (S' := s₁.setTop (mkF m 222 #[.val (.ref u0), .val (.int p1), .val (.int p2), .val (.int v3_7), .val (.int (2 : Int32)), .val (.int v5_74), .val (.int v6_91), .val (.int v7_164), .val (.int v8_198), .val (.int v9_203), .unset] [(.int ((vs_u0.getD (v9_203).toNatClampNeg 0) &&& (255 : Int32)))])) (fun _ k => XS.iand X0.here hx rfl (hb hby d1_221) rfl k) ?_
                refine Goes.step (S' := s₁.setTop (mkF m 224 #[.val (.ref u0), .val (.int p1), .val (.int p2), .val (.int v3_7), .val (.int (2 : Int32)), .val (.int v5_74), .val (.int v6_91), .val (.int v7_164), .val (.int v8_198), .val (.int v9_203), .val (.int ((vs_u0.getD (v9_203).toNatClampNeg 0) &&& (255 : Int32)))] [])) (fun _ k => XS.istore X0.here hx rfl (hb hby d1_222) rfl (l' := #[.val (.ref u0), .val (.int p1), .val (.int p2), .val (.int v3_7), .val (.int (2 : Int32)), .val (.int v5_74), .val (.int v6_91), .val (.int v7_164), .val (.int v8_198), .val (.int v9_203), .val (.int ((vs_u0.getD (v9_203).toNatClampNeg 0) &&& (255 : Int32)))]) rfl k) ?_
                obtain ⟨v10_222, ev10_222⟩ : ∃ z : Int32, z = ((vs_u0.getD (v9_203).toNatClampNeg 0) &&& (255 : Int32)) := ⟨_, rfl⟩
                rw [← ev10_222]
                refine Goes.step (S' := s₁.setTop (mkF m 226 #[.val (.ref u0), .val (.int p1), .val (.int p2), .val (.int v3_7), .val (.int (2 : Int32)), .val (.int v5_74), .val (.int v6_91), .val (.int v7_164), .val (.int v8_198), .val (.int v9_203), .val (.int v10_222)] [(.int v10_222)])) (fun _ k => XS.iload X0.here hx rfl (hb hby d1_224) rfl  k) ?_
                refine Goes.step (S' := s₁.setTop (mkF m 229 #[.val (.ref u0), .val (.int p1), .val (.int p2), .val (.int v3_7), .val (.int (2 : Int32)), .val (.int v5_74), .val (.int v6_91), .val (.int v7_164), .val (.int v8_198), .val (.int v9_203), .val (.int v10_222)] [(.int (128 : Int32)), (.int v10_222)])) (fun _ k => XS.sipush X0.here hx rfl (hb hby d1_226) k) ?_
                by_cases hc229_13 : v10_222 < (128 : Int32)
                · refine Goes.step (S' := s₁.setTop (mkF m 240 #[.val (.ref u0), .val (.int p1), .val (.int p2), .val (.int v3_7), .val (.int (2 : Int32)), .val (.int v5_74), .val (.int v6_91), .val (.int v7_164), .val (.int v8_198), .val (.int v9_203), .val (.int v10_222)] [])) (fun _ k => XS.icmpYes X0.here hx rfl (pc0 := 229) (pc' := 240) rfl (hb hby d1_229) rfl (tlt hc229_13).1 (by decide) (by decide) k) ?_
                  refine Goes.step (S' := s₁.setTop (mkF m 241 #[.val (.ref u0), .val (.int p1), .val (.int p2), .val (.int v3_7), .val (.int (2 : Int32)), .val (.int v5_74), .val (.int v6_91), .val (.int v7_164), .val (.int v8_198), .val (.int v9_203), .val (.int v10_222)] [(.int (-1 : Int32))])) (fun _ k => XS.iconst X0.here hx rfl (hb hby d1_240) k) ?_
                  subst ev10_222 ev9_203 ev8_198 ev7_164 ev6_91 ev5_74 ev3_7
                  refine Goes.retI X0 hx Bd.notSynchronized Bd.returns (hb hby d1_241) (by decide) (by decide) ?_
                  refine ⟨congrArg (fun z => some (Value.int z)) ?_, N0, e0⟩
                  rw [f1, if_neg hc12_1, if_neg hc31_2, if_neg hc40_3, if_pos hc53_7, if_pos hc150_10, if_neg hc170_11, if_neg hc177_12, if_pos hc229_13]
                  try rfl
                · refine Goes.step (S' := s₁.setTop (mkF m 232 #[.val (.ref u0), .val (.int p1), .val (.int p2), .val (.int v3_7), .val (.int (2 : Int32)), .val (.int v5_74), .val (.int v6_91), .val (.int v7_164), .val (.int v8_198), .val (.int v9_203), .val (.int v10_222)] [])) (fun _ k => XS.icmpNo X0.here hx rfl (hb hby d1_229) rfl (flt hc229_13).1 k) ?_
                  refine Goes.step (S' := s₁.setTop (mkF m 234 #[.val (.ref u0), .val (.int p1), .val (.int p2), .val (.int v3_7), .val (.int (2 : Int32)), .val (.int v5_74), .val (.int v6_91), .val (.int v7_164), .val (.int v8_198), .val (.int v9_203), .val (.int v10_222)] [(.int v10_222)])) (fun _ k => XS.iload X0.here hx rfl (hb hby d1_232) rfl  k) ?_
                  refine Goes.step (S' := s₁.setTop (mkF m 237 #[.val (.ref u0), .val (.int p1), .val (.int p2), .val (.int v3_7), .val (.int (2 : Int32)), .val (.int v5_74), .val (.int v6_91), .val (.int v7_164), .val (.int v8_198), .val (.int v9_203), .val (.int v10_222)] [(.int (191 : Int32)), (.int v10_222)])) (fun _ k => XS.sipush X0.here hx rfl (hb hby d1_234) k) ?_
                  by_cases hc237_14 : (191 : Int32) < v10_222
                  · refine Goes.step (S' := s₁.setTop (mkF m 240 #[.val (.ref u0), .val (.int p1), .val (.int p2), .val (.int v3_7), .val (.int (2 : Int32)), .val (.int v5_74), .val (.int v6_91), .val (.int v7_164), .val (.int v8_198), .val (.int v9_203), .val (.int v10_222)] [])) (fun _ k => XS.icmpNo X0.here hx rfl (hb hby d1_237) rfl (tlt hc237_14).2.2.2 k) ?_
                    refine Goes.step (S' := s₁.setTop (mkF m 241 #[.val (.ref u0), .val (.int p1), .val (.int p2), .val (.int v3_7), .val (.int (2 : Int32)), .val (.int v5_74), .val (.int v6_91), .val (.int v7_164), .val (.int v8_198), .val (.int v9_203), .val (.int v10_222)] [(.int (-1 : Int32))])) (fun _ k => XS.iconst X0.here hx rfl (hb hby d1_240) k) ?_
                    subst ev10_222 ev9_203 ev8_198 ev7_164 ev6_91 ev5_74 ev3_7
                    refine Goes.retI X0 hx Bd.notSynchronized Bd.returns (hb hby d1_241) (by decide) (by decide) ?_
                    refine ⟨congrArg (fun z => some (Value.int z)) ?_, N0, e0⟩
                    rw [f1, if_neg hc12_1, if_neg hc31_2, if_neg hc40_3, if_pos hc53_7, if_pos hc150_10, if_neg hc170_11, if_neg hc177_12, if_neg hc229_13, if_pos hc237_14]
                    try rfl
                  · refine Goes.step (S' := s₁.setTop (mkF m 242 #[.val (.ref u0), .val (.int p1), .val (.int p2), .val (.int v3_7), .val (.int (2 : Int32)), .val (.int v5_74), .val (.int v6_91), .val (.int v7_164), .val (.int v8_198), .val (.int v9_203), .val (.int v10_222)] [])) (fun _ k => XS.icmpYes X0.here hx rfl (pc0 := 237) (pc' := 242) rfl (hb hby d1_237) rfl (flt hc237_14).2.2.2 (by decide) (by decide) k) ?_
                    refine Goes.step (S' := s₁.setTop (mkF m 244 #[.val (.ref u0), .val (.int p1), .val (.int p2), .val (.int v3_7), .val (.int (2 : Int32)), .val (.int v5_74), .val (.int v6_91), .val (.int v7_164), .val (.int v8_198), .val (.int v9_203), .val (.int v10_222)] [(.int v8_198)])) (fun _ k => XS.iload X0.here hx rfl (hb hby d1_242) rfl  k) ?_
                    refine Goes.step (S' := s₁.setTop (mkF m 246 #[.val (.ref u0), .val (.int p1), .val (.int p2), .val (.int v3_7), .val (.int (2 : Int32)), .val (.int v5_74), .val (.int v6_91), .val (.int v7_164), .val (.int v8_198), .val (.int v9_203), .val (.int v10_222)] [(.int (6 : Int32)), (.int v8_198)])) (fun _ k => XS.bipush X0.here hx rfl (hb hby d1_244) k) ?_
                    refine Goes.step (S' := s₁.setTop (mkF m 247 #[.val (.ref u0), .val (.int p1), .val (.int p2), .val (.int v3_7), .val (.int (2 : Int32)), .val (.int v5_74), .val (.int v6_91), .val (.int v7_164), .val (.int v8_198), .val (.int v9_203), .val (.int v10_222)] [(.int (v8_198 <<< ((6 : Int32) &&& 31)))])) (fun _ k => XS.ishl X0.here hx rfl (hb hby d1_246) rfl k) ?_
                    refine Goes.step (S' := s₁.setTop (mkF m 249 #[.val (.ref u0), .val (.int p1), .val (.int p2), .val (.int v3_7), .val (.int (2 : Int32)), .val (.int v5_74), .val (.int v6_91), .val (.int v7_164), .val (.int v8_198), .val (.int v9_203), .val (.int v10_222)] [(.int v10_222), (.int (v8_198 <<< ((6 : Int32) &&& 31)))])) (fun _ k => XS.iload X0.here hx rfl (hb hby d1_247) rfl  k) ?_
                    refine Goes.step (S' := s₁.setTop (mkF m 251 #[.val (.ref u0), .val (.int p1), .val (.int p2), .val (.int v3_7), .val (.int (2 : Int32)), .val (.int v5_74), .val (.int v6_91), .val (.int v7_164), .val (.int v8_198), .val (.int v9_203), .val (.int v10_222)] [(.int (63 : Int32)), (.int v10_222), (.int (v8_198 <<< ((6 : Int32) &&& 31)))])) (fun _ k => XS.bipush X0.here hx rfl (hb hby d1_249) k) ?_
                    refine Goes.step (S' := s₁.setTop (mkF m 252 #[.val (.ref u0), .val (.int p1), .val (.int p2), .val (.int v3_7), .val (.int (2 : Int32)), .val (.int v5_74), .val (.int v6_91), .val (.int v7_164), .val (.int v8_198), .val (.int v9_203), .val (.int v10_222)] [(.int (v10_222 &&& (63 : Int32))), (.int (v8_198 <<< ((6 : Int32) &&& 31)))])) (fun _ k => XS.iand X0.here hx rfl (hb hby d1_251) rfl k) ?_
                    refine Goes.step (S' := s₁.setTop (mkF m 253 #[.val (.ref u0), .val (.int p1), .val (.int p2), .val (.int v3_7), .val (.int (2 : Int32)), .val (.int v5_74), .val (.int v6_91), .val (.int v7_164), .val (.int v8_198), .val (.int v9_203), .val (.int v10_222)] [(.int ((v8_198 <<< ((6 : Int32) &&& 31)) ||| (v10_222 &&& (63 : Int32))))])) (fun _ k => XS.ior X0.here hx rfl (hb hby d1_252) rfl k) ?_
                    refine Goes.step (S' := s₁.setTop (mkF m 255 #[.val (.ref u0), .val (.int p1), .val (.int p2), .val (.int v3_7), .val (.int (2 : Int32)), .val (.int v5_74), .val (.int v6_91), .val (.int v7_164), .val (.int ((v8_198 <<< ((6 : Int32) &&& 31)) ||| (v10_222 &&& (63 : Int32)))), .val (.int v9_203), .val (.int v10_222)] [])) (fun _ k => XS.istore X0.here hx rfl (hb hby d1_253) rfl (l' := #[.val (.ref u0), .val (.int p1), .val (.int p2), .val (.int v3_7), .val (.int (2 : Int32)), .val (.int v5_74), .val (.int v6_91), .val (.int v7_164), .val (.int ((v8_198 <<< ((6 : Int32) &&& 31)) ||| (v10_222 &&& (63 : Int32)))), .val (.int v9_203), .val (.int v10_222)]) rfl k) ?_
                    obtain ⟨v8_253, ev8_253⟩ : ∃ z : Int32, z = ((v8_198 <<< ((6 : Int32) &&& 31)) ||| (v10_222 &&& (63 : Int32))) := ⟨_, rfl⟩
                    rw [← ev8_253]
                    refine Goes.step (S' := s₁.setTop (mkF m 258 #[.val (.ref u0), .val (.int p1), .val (.int p2), .val (.int v3_7), .val (.int (2 : Int32)), .val (.int v5_74), .val (.int v6_91), .val (.int v7_164), .val (.int v8_253), .val (.int (v9_203 + (1 : Int32))), .val (.int v10_222)] [])) (fun _ k => XS.iinc X0.here hx rfl (hb hby d1_255) rfl (l' := #[.val (.ref u0), .val (.int p1), .val (.int p2), .val (.int v3_7), .val (.int (2 : Int32)), .val (.int v5_74), .val (.int v6_91), .val (.int v7_164), .val (.int v8_253), .val (.int (v9_203 + (1 : Int32))), .val (.int v10_222)]) rfl k) ?_
                    refine Goes.step (S' := s₁.setTop (mkF m 205 #[.val (.ref u0), .val (.int p1), .val (.int p2), .val (.int v3_7), .val (.int (2 : Int32)), .val (.int v5_74), .val (.int v6_91), .val (.int v7_164), .val (.int v8_253), .val (.int (v9_203 + (1 : Int32))), .val (.int v10_222)] [])) (fun _ k => XS.goto X0.here hx rfl (pc0 := 258) (pc' := 205) rfl (hb hby d1_258) (by decide) (by decide) k) ?_
                    refine Goes.step (S' := s₁.setTop (mkF m 207 #[.val (.ref u0), .val (.int p1), .val (.int p2), .val (.int v3_7), .val (.int (2 : Int32)), .val (.int v5_74), .val (.int v6_91), .val (.int v7_164), .val (.int v8_253), .val (.int (v9_203 + (1 : Int32))), .val (.int v10_222)] [(.int (v9_203 + (1 : Int32)))])) (fun _ k => XS.iload X0.here hx rfl (hb hby d1_205) rfl  k) ?_
                    refine Goes.step (S' := s₁.setTop (mkF m 208 #[.val (.ref u0), .val (.int p1), .val (.int p2), .val (.int v3_7), .val (.int (2 : Int32)), .val (.int v5_74), .val (.int v6_91), .val (.int v7_164), .val (.int v8_253), .val (.int (v9_203 + (1 : Int32))), .val (.int v10_222)] [(.int p1), (.int (v9_203 + (1 : Int32)))])) (fun _ k => XS.iloadN X0.here hx rfl (hb hby d1_207) rfl  k) ?_
                    refine Goes.step (S' := s₁.setTop (mkF m 210 #[.val (.ref u0), .val (.int p1), .val (.int p2), .val (.int v3_7), .val (.int (2 : Int32)), .val (.int v5_74), .val (.int v6_91), .val (.int v7_164), .val (.int v8_253), .val (.int (v9_203 + (1 : Int32))), .val (.int v10_222)] [(.int (2 : Int32)), (.int p1), (.int (v9_203 + (1 : Int32)))])) (fun _ k => XS.iload X0.here hx rfl (hb hby d1_208) rfl  k) ?_
                    refine Goes.step (S' := s₁.setTop (mkF m 211 #[.val (.ref u0), .val (.int p1), .val (.int p2), .val (.int v3_7), .val (.int (2 : Int32)), .val (.int v5_74), .val (.int v6_91), .val (.int v7_164), .val (.int v8_253), .val (.int (v9_203 + (1 : Int32))), .val (.int v10_222)] [(.int (p1 + (2 : Int32))), (.int (v9_203 + (1 : Int32)))])) (fun _ k => XS.iadd X0.here hx rfl (hb hby d1_210) rfl k) ?_
                    refine Goes.step (S' := s₁.setTop (mkF m 261 #[.val (.ref u0), .val (.int p1), .val (.int p2), .val (.int v3_7), .val (.int (2 : Int32)), .val (.int v5_74), .val (.int v6_91), .val (.int v7_164), .val (.int v8_253), .val (.int (v9_203 + (1 : Int32))), .val (.int v10_222)] [])) (fun _ k => XS.icmpYes X0.here hx rfl (pc0 := 211) (pc' := 261) rfl (hb hby d1_211) rfl (tlt (own_hc1_211_3 n_u0 vs_u0 hl_u0 hn_u0 p1 p2 hB hb2 hb3 hb4 v3_7 ev3_7 hc12_1 hc31_2 hc40_3 hc53_7 v5_74 ev5_74 v6_91 ev6_91 hc150_10 v7_164 ev7_164 hc170_11 hc177_12 v8_198 ev8_198 v9_203 ev9_203 v10_222 ev10_222 hc229_13 hc237_14 v8_253 ev8_253)).2.2.1 (by decide) (by decide) k) ?_
                    refine Goes.step (S' := s₁.setTop (mkF m 263 #[.val (.ref u0), .val (.int p1), .val (.int p2), .val (.int v3_7), .val (.int (2 : Int32)), .val (.int v5_74), .val (.int v6_91), .val (.int v7_164), .val (.int v8_253), .val (.int (v9_203 + (1 : Int32))), .val (.int v10_222)] [(.int v8_253)])) (fun _ k => XS.iload X0.here hx rfl (hb hby d1_261) rfl  k) ?_
                    subst ev8_253 ev10_222 ev9_203 ev8_198 ev7_164 ev6_91 ev5_74 ev3_7
                    refine Goes.retI X0 hx Bd.notSynchronized Bd.returns (hb hby d1_263) (by decide) (by decide) ?_
                    refine ⟨congrArg (fun z => some (Value.int z)) ?_, N0, e0⟩
                    rw [f1, if_neg hc12_1, if_neg hc31_2, if_neg hc40_3, if_pos hc53_7, if_pos hc150_10, if_neg hc170_11, if_neg hc177_12, if_neg hc229_13, if_neg hc237_14]
                    try rfl
          · refine Goes.step (S' := s₁.setTop (mkF m 153 #[.val (.ref u0), .val (.int p1), .val (.int p2), .val (.int v3_7), .val (.int (2 : Int32)), .val (.int v5_74), .val (.int v6_91), .unset, .unset, .unset, .unset] [])) (fun _ k => XS.icmpNo X0.here hx rfl (hb hby d1_150) rfl (flt hc150_10).2.2.1 k) ?_
            refine Goes.step (S' := s₁.setTop (mkF m 154 #[.val (.ref u0), .val (.int p1), .val (.int p2), .val (.int v3_7), .val (.int (2 : Int32)), .val (.int v5_74), .val (.int v6_91), .unset, .unset, .unset, .unset] [(.int (-1 : Int32))])) (fun _ k => XS.iconst X0.here hx rfl (hb hby d1_153) k) ?_
            subst ev6_91 ev5_74 ev3_7
            refine Goes.retI X0 hx Bd.notSynchronized Bd.returns (hb hby d1_154) (by decide) (by decide) ?_
            refine ⟨congrArg (fun z => some (Value.int z)) ?_, N0, e0⟩
            rw [f1, if_neg hc12_1, if_neg hc31_2, if_neg hc40_3, if_pos hc53_7, if_neg hc150_10]
            try rfl
        · refine Goes.step (S' := s₁.setTop (mkF m 96 #[.val (.ref u0), .val (.int p1), .val (.int p2), .val (.int v3_7), .unset, .val (.int (128 : Int32)), .val (.int (191 : Int32)), .unset, .unset, .unset, .unset] [])) (fun _ k => XS.icmpYes X0.here hx rfl (pc0 := 53) (pc' := 96) rfl (hb hby d1_53) rfl (flt hc53_7).2.1 (by decide) (by decide) k) ?_
          refine Goes.step (S' := s₁.setTop (mkF m 97 #[.val (.ref u0), .val (.int p1), .val (.int p2), .val (.int v3_7), .unset, .val (.int (128 : Int32)), .val (.int (191 : Int32)), .unset, .unset, .unset, .unset] [(.int v3_7)])) (fun _ k => XS.iloadN X0.here hx rfl (hb hby d1_96) rfl  k) ?_
          refine Goes.step (S' := s₁.setTop (mkF m 100 #[.val (.ref u0), .val (.int p1), .val (.int p2), .val (.int v3_7), .unset, .val (.int (128 : Int32)), .val (.int (191 : Int32)), .unset, .unset, .unset, .unset] [(.int (245 : Int32)), (.int v3_7)])) (fun _ k => XS.sipush X0.here hx rfl (hb hby d1_97) k) ?_
          by_cases hc100_15 : v3_7 < (245 : Int32)
          · refine Goes.step (S' := s₁.setTop (mkF m 103 #[.val (.ref u0), .val (.int p1), .val (.int p2), .val (.int v3_7), .unset, .val (.int (128 : Int32)), .val (.int (191 : Int32)), .unset, .unset, .unset, .unset] [])) (fun _ k => XS.icmpNo X0.here hx rfl (hb hby d1_100) rfl (tlt hc100_15).2.1 k) ?_
            refine Goes.step (S' := s₁.setTop (mkF m 104 #[.val (.ref u0), .val (.int p1), .val (.int p2), .val (.int v3_7), .unset, .val (.int (128 : Int32)), .val (.int (191 : Int32)), .unset, .unset, .unset, .unset] [(.int (3 : Int32))])) (fun _ k => XS.iconst X0.here hx rfl (hb hby d1_103) k) ?_
            refine Goes.step (S' := s₁.setTop (mkF m 106 #[.val (.ref u0), .val (.int p1), .val (.int p2), .val (.int v3_7), .val (.int (3 : Int32)), .val (.int (128 : Int32)), .val (.int (191 : Int32)), .unset, .unset, .unset, .unset] [])) (fun _ k => XS.istore X0.here hx rfl (hb hby d1_104) rfl (l' := #[.val (.ref u0), .val (.int p1), .val (.int p2), .val (.int v3_7), .val (.int (3 : Int32)), .val (.int (128 : Int32)), .val (.int (191 : Int32)), .unset, .unset, .unset, .unset]) rfl k) ?_
            refine Goes.step (S' := s₁.setTop (mkF m 107 #[.val (.ref u0), .val (.int p1), .val (.int p2), .val (.int v3_7), .val (.int (3 : Int32)), .val (.int (128 : Int32)), .val (.int (191 : Int32)), .unset, .unset, .unset, .unset] [(.int v3_7)])) (fun _ k => XS.iloadN X0.here hx rfl (hb hby d1_106) rfl  k) ?_
            refine Goes.step (S' := s₁.setTop (mkF m 110 #[.val (.ref u0), .val (.int p1), .val (.int p2), .val (.int v3_7), .val (.int (3 : Int32)), .val (.int (128 : Int32)), .val (.int (191 : Int32)), .unset, .unset, .unset, .unset] [(.int (240 : Int32)), (.int v3_7)])) (fun _ k => XS.sipush X0.here hx rfl (hb hby d1_107) k) ?_
            refine Goes.step (own_ite1 (T := s₁) (c := v3_7 = (240 : Int32)) (a0 := (144 : Int32)) (b0 := (128 : Int32)) (F := fun z16_0 => (mkF m 121 #[.val (.ref u0), .val (.int p1), .val (.int p2), .val (.int v3_7), .val (.int (3 : Int32)), .val (.int (128 : Int32)), .val (.int (191 : Int32)), .unset, .unset, .unset, .unset] [(.int z16_0)])) ?_ ?_) ?_
            · intro hc110_16 t k
              refine XS.icmpNo X0.here hx rfl (hb hby d1_110) rfl (teq hc110_16).2 ?_
              show Steps p.tables e below (s₁.setTop (mkF m 113 #[.val (.ref u0), .val (.int p1), .val (.int p2), .val (.int v3_7), .val (.int (3 : Int32)), .val (.int (128 : Int32)), .val (.int (191 : Int32)), .unset, .unset, .unset, .unset] [])) _
              refine XS.sipush X0.here hx rfl (hb hby d1_113) ?_
              show Steps p.tables e below (s₁.setTop (mkF m 116 #[.val (.ref u0), .val (.int p1), .val (.int p2), .val (.int v3_7), .val (.int (3 : Int32)), .val (.int (128 : Int32)), .val (.int (191 : Int32)), .unset, .unset, .unset, .unset] [(.int (144 : Int32))])) _
              refine XS.goto X0.here hx rfl (pc0 := 116) (pc' := 121) rfl (hb hby d1_116) (by decide) (by decide) ?_
              show Steps p.tables e below (s₁.setTop (mkF m 121 #[.val (.ref u0), .val (.int p1), .val (.int p2), .val (.int v3_7), .val (.int (3 : Int32)), .val (.int (128 : Int32)), .val (.int (191 : Int32)), .unset, .unset, .unset, .unset] [(.int (144 : Int32))])) _
              exact k
            · intro hc110_16 t k
              refine XS.icmpYes X0.here hx rfl (pc0 := 110) (pc' := 119) rfl (hb hby d1_110) rfl (feq hc110_16).2 (by decide) (by decide) ?_
              show Steps p.tables e below (s₁.setTop (mkF m 119 #[.val (.ref u0), .val (.int p1), .val (.int p2), .val (.int v3_7), .val (.int (3 : Int32)), .val (.int (128 : Int32)), .val (.int (191 : Int32)), .unset, .unset, .unset, .unset] [])) _
              refine XS.iload X0.here hx rfl (hb hby d1_119) rfl  ?_
              show Steps p.tables e below (s₁.setTop (mkF m 121 #[.val (.ref u0), .val (.int p1), .val (.int p2), .val (.int v3_7), .val (.int (3 : Int32)), .val (.int (128 : Int32)), .val (.int (191 : Int32)), .unset, .unset, .unset, .unset] [(.int (128 : Int32))])) _
              exact k
            show Goes p.tables e below _ (s₁.setTop (mkF m 121 #[.val (.ref u0), .val (.int p1), .val (.int p2), .val (.int v3_7), .val (.int (3 : Int32)), .val (.int (128 : Int32)), .val (.int (191 : Int32)), .unset, .unset, .unset, .unset] [(.int (if v3_7 = (240 : Int32) then (144 : Int32) else (128 : Int32)))]))
            refine Goes.step (S' := s₁.setTop (mkF m 123 #[.val (.ref u0), .val (.int p1), .val (.int p2), .val (.int v3_7), .val (.int (3 : Int32)), .val (.int (if v3_7 = (240 : Int32) then (144 : Int32) else (128 : Int32))), .val (.int (191 : Int32)), .unset, .unset, .unset, .unset] [])) (fun _ k => XS.istore X0.here hx rfl (hb hby d1_121) rfl (l' := #[.val (.ref u0), .val (.int p1), .val (.int p2), .val (.int v3_7), .val (.int (3 : Int32)), .val (.int (if v3_7 = (240 : Int32) then (144 : Int32) else (128 : Int32))), .val (.int (191 : Int32)), .unset, .unset, .unset, .unset]) rfl k) ?_
            obtain ⟨v5_121, ev5_121⟩ : ∃ z : Int32, z = (if v3_7 = (240 : Int32) then (144 : Int32) else (128 : Int32)) := ⟨_, rfl⟩
            rw [← ev5_121]
            refine Goes.step (S' := s₁.setTop (mkF m 124 #[.val (.ref u0), .val (.int p1), .val (.int p2), .val (.int v3_7), .val (.int (3 : Int32)), .val (.int v5_121), .val (.int (191 : Int32)), .unset, .unset, .unset, .unset] [(.int v3_7)])) (fun _ k => XS.iloadN X0.here hx rfl (hb hby d1_123) rfl  k) ?_
            refine Goes.step (S' := s₁.setTop (mkF m 127 #[.val (.ref u0), .val (.int p1), .val (.int p2), .val (.int v3_7), .val (.int (3 : Int32)), .val (.int v5_121), .val (.int (191 : Int32)), .unset, .unset, .unset, .unset] [(.int (244 : Int32)), (.int v3_7)])) (fun _ k => XS.sipush X0.here hx rfl (hb hby d1_124) k) ?_
            refine Goes.step (own_ite1 (T := s₁) (c := v3_7 = (244 : Int32)) (a0 := (143 : Int32)) (b0 := (191 : Int32)) (F := fun z17_0 => (mkF m 138 #[.val (.ref u0), .val (.int p1), .val (.int p2), .val (.int v3_7), .val (.int (3 : Int32)), .val (.int v5_121), .val (.int (191 : Int32)), .unset, .unset, .unset, .unset] [(.int z17_0)])) ?_ ?_) ?_
            · intro hc127_17 t k
              refine XS.icmpNo X0.here hx rfl (hb hby d1_127) rfl (teq hc127_17).2 ?_
              show Steps p.tables e below (s₁.setTop (mkF m 130 #[.val (.ref u0), .val (.int p1), .val (.int p2), .val (.int v3_7), .val (.int (3 : Int32)), .val (.int v5_121), .val (.int (191 : Int32)), .unset, .unset, .unset, .unset] [])) _
              refine XS.sipush X0.here hx rfl (hb hby d1_130) ?_
              show Steps p.tables e below (s₁.setTop (mkF m 133 #[.val (.ref u0), .val (.int p1), .val (.int p2), .val (.int v3_7), .val (.int (3 : Int32)), .val (.int v5_121), .val (.int (191 : Int32)), .unset, .unset, .unset, .unset] [(.int (143 : Int32))])) _
              refine XS.goto X0.here hx rfl (pc0 := 133) (pc' := 138) rfl (hb hby d1_133) (by decide) (by decide) ?_
              show Steps p.tables e below (s₁.setTop (mkF m 138 #[.val (.ref u0), .val (.int p1), .val (.int p2), .val (.int v3_7), .val (.int (3 : Int32)), .val (.int v5_121), .val (.int (191 : Int32)), .unset, .unset, .unset, .unset] [(.int (143 : Int32))])) _
              exact k
            · intro hc127_17 t k
              refine XS.icmpYes X0.here hx rfl (pc0 := 127) (pc' := 136) rfl (hb hby d1_127) rfl (feq hc127_17).2 (by decide) (by decide) ?_
              show Steps p.tables e below (s₁.setTop (mkF m 136 #[.val (.ref u0), .val (.int p1), .val (.int p2), .val (.int v3_7), .val (.int (3 : Int32)), .val (.int v5_121), .val (.int (191 : Int32)), .unset, .unset, .unset, .unset] [])) _
              refine XS.iload X0.here hx rfl (hb hby d1_136) rfl  ?_
              show Steps p.tables e below (s₁.setTop (mkF m 138 #[.val (.ref u0), .val (.int p1), .val (.int p2), .val (.int v3_7), .val (.int (3 : Int32)), .val (.int v5_121), .val (.int (191 : Int32)), .unset, .unset, .unset, .unset] [(.int (191 : Int32))])) _
              exact k
            show Goes p.tables e below _ (s₁.setTop (mkF m 138 #[.val (.ref u0), .val (.int p1), .val (.int p2), .val (.int v3_7), .val (.int (3 : Int32)), .val (.int v5_121), .val (.int (191 : Int32)), .unset, .unset, .unset, .unset] [(.int (if v3_7 = (244 : Int32) then (143 : Int32) else (191 : Int32)))]))
            refine Goes.step (S' := s₁.setTop (mkF m 140 #[.val (.ref u0), .val (.int p1), .val (.int p2), .val (.int v3_7), .val (.int (3 : Int32)), .val (.int v5_121), .val (.int (if v3_7 = (244 : Int32) then (143 : Int32) else (191 : Int32))), .unset, .unset, .unset, .unset] [])) (fun _ k => XS.istore X0.here hx rfl (hb hby d1_138) rfl (l' := #[.val (.ref u0), .val (.int p1), .val (.int p2), .val (.int v3_7), .val (.int (3 : Int32)), .val (.int v5_121), .val (.int (if v3_7 = (244 : Int32) then (143 : Int32) else (191 : Int32))), .unset, .unset, .unset, .unset]) rfl k) ?_
            obtain ⟨v6_138, ev6_138⟩ : ∃ z : Int32, z = (if v3_7 = (244 : Int32) then (143 : Int32) else (191 : Int32)) := ⟨_, rfl⟩
            rw [← ev6_138]
            refine Goes.step (S' := s₁.setTop (mkF m 145 #[.val (.ref u0), .val (.int p1), .val (.int p2), .val (.int v3_7), .val (.int (3 : Int32)), .val (.int v5_121), .val (.int v6_138), .unset, .unset, .unset, .unset] [])) (fun _ k => XS.goto X0.here hx rfl (pc0 := 140) (pc' := 145) rfl (hb hby d1_140) (by decide) (by decide) k) ?_
            refine Goes.step (S' := s₁.setTop (mkF m 146 #[.val (.ref u0), .val (.int p1), .val (.int p2), .val (.int v3_7), .val (.int (3 : Int32)), .val (.int v5_121), .val (.int v6_138), .unset, .unset, .unset, .unset] [(.int p2)])) (fun _ k => XS.iloadN X0.here hx rfl (hb hby d1_145) rfl  k) ?_
            refine Goes.step (S' := s₁.setTop (mkF m 147 #[.val (.ref u0), .val (.int p1), .val (.int p2), .val (.int v3_7), .val (.int (3 : Int32)), .val (.int v5_121), .val (.int v6_138), .unset, .unset, .unset, .unset] [(.int p1), (.int p2)])) (fun _ k => XS.iloadN X0.here hx rfl (hb hby d1_146) rfl  k) ?_
            refine Goes.step (S' := s₁.setTop (mkF m 148 #[.val (.ref u0), .val (.int p1), .val (.int p2), .val (.int v3_7), .val (.int (3 : Int32)), .val (.int v5_121), .val (.int v6_138), .unset, .unset, .unset, .unset] [(.int (p2 - p1))])) (fun _ k => XS.isub X0.here hx rfl (hb hby d1_147) rfl k) ?_
            refine Goes.step (S' := s₁.setTop (mkF m 150 #[.val (.ref u0), .val (.int p1), .val (.int p2), .val (.int v3_7), .val (.int (3 : Int32)), .val (.int v5_121), .val (.int v6_138), .unset, .unset, .unset, .unset] [(.int (3 : Int32)), (.int (p2 - p1))])) (fun _ k => XS.iload X0.here hx rfl (hb hby d1_148) rfl  k) ?_
            by_cases hc150_18 : (3 : Int32) < (p2 - p1)
            · refine Goes.step (S' := s₁.setTop (mkF m 155 #[.val (.ref u0), .val (.int p1), .val (.int p2), .val (.int v3_7), .val (.int (3 : Int32)), .val (.int v5_121), .val (.int v6_138), .unset, .unset, .unset, .unset] [])) (fun _ k => XS.icmpYes X0.here hx rfl (pc0 := 150) (pc' := 155) rfl (hb hby d1_150) rfl (tlt hc150_18).2.2.1 (by decide) (by decide) k) ?_
              refine Goes.step (S' := s₁.setTop (mkF m 156 #[.val (.ref u0), .val (.int p1), .val (.int p2), .val (.int v3_7), .val (.int (3 : Int32)), .val (.int v5_121), .val (.int v6_138), .unset, .unset, .unset, .unset] [(.ref u0)])) (fun _ k => XS.aloadN X0.here hx rfl (hb hby d1_155) rfl rfl k) ?_
              refine Goes.step (S' := s₁.setTop (mkF m 157 #[.val (.ref u0), .val (.int p1), .val (.int p2), .val (.int v3_7), .val (.int (3 : Int32)), .val (.int v5_121), .val (.int v6_138), .unset, .unset, .unset, .unset] [(.int p1), (.ref u0)])) (fun _ k => XS.iloadN X0.here hx rfl (hb hby d1_156) rfl  k) ?_
              refine Goes.step (S' := s₁.setTop (mkF m 158 #[.val (.ref u0), .val (.int p1), .val (.int p2), .val (.int v3_7), .val (.int (3 : Int32)), .val (.int v5_121), .val (.int v6_138), .unset, .unset, .unset, .unset] [(.int (1 : Int32)), (.int p1), (.ref u0)])) (fun _ k => XS.iconst X0.here hx rfl (hb hby d1_157) k) ?_
              refine Goes.step (S' := s₁.setTop (mkF m 159 #[.val (.ref u0), .val (.int p1), .val (.int p2), .val (.int v3_7), .val (.int (3 : Int32)), .val (.int v5_121), .val (.int v6_138), .unset, .unset, .unset, .unset] [(.int (p1 + (1 : Int32))), (.ref u0)])) (fun _ k => XS.iadd X0.here hx rfl (hb hby d1_158) rfl k) ?_
              refine Goes.step (S' := s₁.setTop (mkF m 160 #[.val (.ref u0), .val (.int p1), .val (.int p2), .val (.int v3_7), .val (.int (3 : Int32)), .val (.int v5_121), .val (.int v6_138), .unset, .unset, .unset, .unset] [(.int (vs_u0.getD ((p1 + (1 : Int32))).toNatClampNeg 0))])) (fun _ k => own_baload X0 hx hZ e0 V_u0 (own_ix1_159_3 n_u0 vs_u0 hl_u0 hn_u0 p1 p2 hB hb2 hb3 hb4 v3_7 ev3_7 hc12_1 hc31_2 hc40_3 hc53_7 hc100_15 v5_121 ev5_121 v6_138 ev6_138 hc150_18) (hb hby d1_159) _ k) ?_
              refine Goes.step (S' := s₁.setTop (mkF m 163 #[.val (.ref u0), .val (.int p1), .val (.int p2), .val (.int v3_7), .val (.int (3 : Int32)), .val (.int v5_121), .val (.int v6_138), .unset, .unset, .unset, .unset] [(.int (255 : Int32)), (.int (vs_u0.getD ((p1 + (1 : Int32))).toNatClampNeg 0))])) (fun _ k => XS.sipush X0.here hx rfl (hb hby d1_160) k) ?_
              refine Goes.step (S' := s₁.setTop (mkF m 164 #[.val (.ref u0), .val (.int p1), .val (.int p2), .val (.int v3_7), .val (.int (3 : Int32)), .val (.int v5_121), .val (.int v6_138), .unset, .unset, .unset, .unset] [(.int ((vs_u0.getD ((p1 + (1 : Int32))).toNatClampNeg 0) &&& (255 : Int32)))])) (fun _ k => XS.iand X0.here hx rfl (hb hby d1_163) rfl k) ?_
              refine Goes.step (S' := s₁.setTop (mkF m 166 #[.val (.ref u0), .val (.int p1), .val (.int p2), .val (.int v3_7), .val (.int (3 : Int32)), .val (.int v5_121), .val (.int v6_138), .val (.int ((vs_u0.getD ((p1 + (1 : Int32))).toNatClampNeg 0) &&& (255 : Int32))), .unset, .unset, .unset] [])) (fun _ k => XS.istore X0.here hx rfl (hb hby d1_164) rfl (l' := #[.val (.ref u0), .val (.int p1), .val (.int p2), .val (.int v3_7), .val (.int (3 : Int32)), .val (.int v5_121), .val (.int v6_138), .val (.int ((vs_u0.getD ((p1 + (1 : Int32))).toNatClampNeg 0) &&& (255 : Int32))), .unset, .unset, .unset]) rfl k) ?_
              obtain ⟨v7_164, ev7_164⟩ : ∃ z : Int32, z = ((vs_u0.getD ((p1 + (1 : Int32))).toNatClampNeg 0) &&& (255 : Int32)) := ⟨_, rfl⟩
              rw [← ev7_164]
              refine Goes.step (S' := s₁.setTop (mkF m 168 #[.val (.ref u0), .val (.int p1), .val (.int p2), .val (.int v3_7), .val (.int (3 : Int32)), .val (.int v5_121), .val (.int v6_138), .val (.int v7_164), .unset, .unset, .unset] [(.int v7_164)])) (fun _ k => XS.iload X0.here hx rfl (hb hby d1_166) rfl  k) ?_
              refine Goes.step (S' := s₁.setTop (mkF m 170 #[.val (.ref u0), .val (.int p1), .val (.int p2), .val (.int v3_7), .val (.int (3 : Int32)), .val (.int v5_121), .val (.int v6_138), .val (.int v7_164), .unset, .unset, .unset] [(.int v5_121), (.int v7_164)])) (fun _ k => XS.iload X0.here hx rfl (hb hby d1_168) rfl  k) ?_
              by_cases hc170_19 : v7_164 < v5_121
              · refine Goes.step (S' := s₁.setTop (mkF m 180 #[.val (.ref u0), .val (.int p1), .val (.int p2), .val (.int v3_7), .val (.int (3 : Int32)), .val (.int v5_121), .val (.int v6_138), .val (.int v7_164), .unset, .unset, .unset] [])) (fun _ k => XS.icmpYes X0.here hx rfl (pc0 := 170) (pc' := 180) rfl (hb hby d1_170) rfl (tlt hc170_19).1 (by decide) (by decide) k) ?_
                refine Goes.step (S' := s₁.setTop (mkF m 181 #[.val (.ref u0), .val (.int p1), .val (.int p2), .val (.int v3_7), .val (.int (3 : Int32)), .val (.int v5_121), .val (.int v6_138), .val (.int v7_164), .unset, .unset, .unset] [(.int (-1 : Int32))])) (fun _ k => XS.iconst X0.here hx rfl (hb hby d1_180) k) ?_
                subst ev7_164 ev6_138 ev5_121 ev3_7
                refine Goes.retI X0 hx Bd.notSynchronized Bd.returns (hb hby d1_181) (by decide) (by decide) ?_
                refine ⟨congrArg (fun z => some (Value.int z)) ?_, N0, e0⟩
                rw [f1, if_neg hc12_1, if_neg hc31_2, if_neg hc40_3, if_neg hc53_7, if_pos hc100_15, if_pos hc150_18, if_pos hc170_19]
                try rfl
              · refine Goes.step (S' := s₁.setTop (mkF m 173 #[.val (.ref u0), .val (.int p1), .val (.int p2), .val (.int v3_7), .val (.int (3 : Int32)), .val (.int v5_121), .val (.int v6_138), .val (.int v7_164), .unset, .unset, .unset] [])) (fun _ k => XS.icmpNo X0.here hx rfl (hb hby d1_170) rfl (flt hc170_19).1 k) ?_
                refine Goes.step (S' := s₁.setTop (mkF m 175 #[.val (.ref u0), .val (.int p1), .val (.int p2), .val (.int v3_7), .val (.int (3 : Int32)), .val (.int v5_121), .val (.int v6_138), .val (.int v7_164), .unset, .unset, .unset] [(.int v7_164)])) (fun _ k => XS.iload X0.here hx rfl (hb hby d1_173) rfl  k) ?_
                refine Goes.step (S' := s₁.setTop (mkF m 177 #[.val (.ref u0), .val (.int p1), .val (.int p2), .val (.int v3_7), .val (.int (3 : Int32)), .val (.int v5_121), .val (.int v6_138), .val (.int v7_164), .unset, .unset, .unset] [(.int v6_138), (.int v7_164)])) (fun _ k => XS.iload X0.here hx rfl (hb hby d1_175) rfl  k) ?_
                by_cases hc177_20 : v6_138 < v7_164
                · refine Goes.step (S' := s₁.setTop (mkF m 180 #[.val (.ref u0), .val (.int p1), .val (.int p2), .val (.int v3_7), .val (.int (3 : Int32)), .val (.int v5_121), .val (.int v6_138), .val (.int v7_164), .unset, .unset, .unset] [])) (fun _ k => XS.icmpNo X0.here hx rfl (hb hby d1_177) rfl (tlt hc177_20).2.2.2 k) ?_
                  refine Goes.step (S' := s₁.setTop (mkF m 181 #[.val (.ref u0), .val (.int p1), .val (.int p2), .val (.int v3_7), .val (.int (3 : Int32)), .val (.int v5_121), .val (.int v6_138), .val (.int v7_164), .unset, .unset, .unset] [(.int (-1 : Int32))])) (fun _ k => XS.iconst X0.here hx rfl (hb hby d1_180) k) ?_
                  subst ev7_164 ev6_138 ev5_121 ev3_7
                  refine Goes.retI X0 hx Bd.notSynchronized Bd.returns (hb hby d1_181) (by decide) (by decide) ?_
                  refine ⟨congrArg (fun z => some (Value.int z)) ?_, N0, e0⟩
                  rw [f1, if_neg hc12_1, if_neg hc31_2, if_neg hc40_3, if_neg hc53_7, if_pos hc100_15, if_pos hc150_18, if_neg hc170_19, if_pos hc177_20]
                  try rfl
                · refine Goes.step (S' := s₁.setTop (mkF m 182 #[.val (.ref u0), .val (.int p1), .val (.int p2), .val (.int v3_7), .val (.int (3 : Int32)), .val (.int v5_121), .val (.int v6_138), .val (.int v7_164), .unset, .unset, .unset] [])) (fun _ k => XS.icmpYes X0.here hx rfl (pc0 := 177) (pc' := 182) rfl (hb hby d1_177) rfl (flt hc177_20).2.2.2 (by decide) (by decide) k) ?_
                  refine Goes.step (S' := s₁.setTop (mkF m 183 #[.val (.ref u0), .val (.int p1), .val (.int p2), .val (.int v3_7), .val (.int (3 : Int32)), .val (.int v5_121), .val (.int v6_138), .val (.int v7_164), .unset, .unset, .unset] [(.int v3_7)])) (fun _ k => XS.iloadN X0.here hx rfl (hb hby d1_182) rfl  k) ?_
                  refine Goes.step (S' := s₁.setTop (mkF m 185 #[.val (.ref u0), .val (.int p1), .val (.int p2), .val (.int v3_7), .val (.int (3 : Int32)), .val (.int v5_121), .val (.int v6_138), .val (.int v7_164), .unset, .unset, .unset] [(.int (63 : Int32)), (.int v3_7)])) (fun _ k => XS.bipush X0.here hx rfl (hb hby d1_183) k) ?_
                  refine Goes.step (S' := s₁.setTop (mkF m 187 #[.val (.ref u0), .val (.int p1), .val (.int p2), .val (.int v3_7), .val (.int (3 : Int32)), .val (.int v5_121), .val (.int v6_138), .val (.int v7_164), .unset, .unset, .unset] [(.int (3 : Int32)), (.int (63 : Int32)), (.int v3_7)])) (fun _ k => XS.iload X0.here hx rfl (hb hby d1_185) rfl  k) ?_
                  refine Goes.step (S' := s₁.setTop (mkF m 188 #[.val (.ref u0), .val (.int p1), .val (.int p2), .val (.int v3_7), .val (.int (3 : Int32)), .val (.int v5_121), .val (.int v6_138), .val (.int v7_164), .unset, .unset, .unset] [(.int ((63 : Int32) >>> ((3 : Int32) &&& 31))), (.int v3_7)])) (fun _ k => XS.ishr X0.here hx rfl (hb hby d1_187) rfl k) ?_
                  refine Goes.step (S' := s₁.setTop (mkF m 189 #[.val (.ref u0), .val (.int p1), .val (.int p2), .val (.int v3_7), .val (.int (3 : Int32)), .val (.int v5_121), .val (.int v6_138), .val (.int v7_164), .unset, .unset, .unset] [(.int (v3_7 &&& ((63 : Int32) >>> ((3 : Int32) &&& 31))))])) (fun _ k => XS.iand X0.here hx rfl (hb hby d1_188) rfl k) ?_
                  refine Goes.step (S' := s₁.setTop (mkF m 191 #[.val (.ref u0), .val (.int p1), .val (.int p2), .val (.int v3_7), .val (.int (3 : Int32)), .val (.int v5_121), .val (.int v6_138), .val (.int v7_164), .unset, .unset, .unset] [(.int (6 : Int32)), (.int (v3_7 &&& ((63 : Int32) >>> ((3 : Int32) &&& 31))))])) (fun _ k => XS.bipush X0.here hx rfl (hb hby d1_189) k) ?_
                  refine Goes.step (S' := s₁.setTop (mkF m 192 #[.val (.ref u0), .val (.int p1), .val (.int p2), .val (.int v3_7), .val (.int (3 : Int32)), .val (.int v5_121), .val (.int v6_138), .val (.int v7_164), .unset, .unset, .unset] [(.int ((v3_7 &&& ((63 : Int32) >>> ((3 : Int32) &&& 31))) <<< ((6 : Int32) &&& 31)))])) (fun _ k => XS.ishl X0.here hx rfl (hb hby d1_191) rfl k) ?_
                  refine Goes.step (S' := s₁.setTop (mkF m 194 #[.val (.ref u0), .val (.int p1), .val (.int p2), .val (.int v3_7), .val (.int (3 : Int32)), .val (.int v5_121), .val (.int v6_138), .val (.int v7_164), .unset, .unset, .unset] [(.int v7_164), (.int ((v3_7 &&& ((63 : Int32) >>> ((3 : Int32) &&& 31))) <<< ((6 : Int32) &&& 31)))])) (fun _ k => XS.iload X0.here hx rfl (hb hby d1_192) rfl  k) ?_
                  refine Goes.step (S' := s₁.setTop (mkF m 196 #[.val (.ref u0), .val (.int p1), .val (.int p2), .val (.int v3_7), .val (.int (3 : Int32)), .val (.int v5_121), .val (.int v6_138), .val (.int v7_164), .unset, .unset, .unset] [(.int (63 : Int32)), (.int v7_164), (.int ((v3_7 &&& ((63 : Int32) >>> ((3 : Int32) &&& 31))) <<< ((6 : Int32) &&& 31)))])) (fun _ k => XS.bipush X0.here hx rfl (hb hby d1_194) k) ?_
                  refine Goes.step (S' := s₁.setTop (mkF m 197 #[.val (.ref u0), .val (.int p1), .val (.int p2), .val (.int v3_7), .val (.int (3 : Int32)), .val (.int v5_121), .val (.int v6_138), .val (.int v7_164), .unset, .unset, .unset] [(.int (v7_164 &&& (63 : Int32))), (.int ((v3_7 &&& ((63 : Int32) >>> ((3 : Int32) &&& 31))) <<< ((6 : Int32) &&& 31)))])) (fun _ k => XS.iand X0.here hx rfl (hb hby d1_196) rfl k) ?_
                  refine Goes.step (S' := s₁.setTop (mkF m 198 #[.val (.ref u0), .val (.int p1), .val (.int p2), .val (.int v3_7), .val (.int (3 : Int32)), .val (.int v5_121), .val (.int v6_138), .val (.int v7_164), .unset, .unset, .unset] [(.int (((v3_7 &&& ((63 : Int32) >>> ((3 : Int32) &&& 31))) <<< ((6 : Int32) &&& 31)) ||| (v7_164 &&& (63 : Int32))))])) (fun _ k => XS.ior X0.here hx rfl (hb hby d1_197) rfl k) ?_
                  refine Goes.step (S' := s₁.setTop (mkF m 200 #[.val (.ref u0), .val (.int p1), .val (.int p2), .val (.int v3_7), .val (.int (3 : Int32)), .val (.int v5_121), .val (.int v6_138), .val (.int v7_164), .val (.int (((v3_7 &&& ((63 : Int32) >>> ((3 : Int32) &&& 31))) <<< ((6 : Int32) &&& 31)) ||| (v7_164 &&& (63 : Int32)))), .unset, .unset] [])) (fun _ k => XS.istore X0.here hx rfl (hb hby d1_198) rfl (l' := #[.val (.ref u0), .val (.int p1), .val (.int p2), .val (.int v3_7), .val (.int (3 : Int32)), .val (.int v5_121), .val (.int v6_138), .val (.int v7_164), .val (.int (((v3_7 &&& ((63 : Int32) >>> ((3 : Int32) &&& 31))) <<< ((6 : Int32) &&& 31)) ||| (v7_164 &&& (63 : Int32)))), .unset, .unset]) rfl k) ?_
                  obtain ⟨v8_198, ev8_198⟩ : ∃ z : Int32, z = (((v3_7 &&& ((63 : Int32) >>> ((3 : Int32) &&& 31))) <<< ((6 : Int32) &&& 31)) ||| (v7_164 &&& (63 : Int32))) := ⟨_, rfl⟩
                  rw [← ev8_198]
                  refine Goes.step (S' := s₁.setTop (mkF m 201 #[.val (.ref u0), .val (.int p1), .val (.int p2), .val (.int v3_7), .val (.int (3 : Int32)), .val (.int v5_121), .val (.int v6_138), .val (.int v7_164), .val (.int v8_198), .unset, .unset] [(.int p1)])) (fun _ k => XS.iloadN X0.here hx rfl (hb hby d1_200) rfl  k) ?_
                  refine Goes.step (S' := s₁.setTop (mkF m 202 #[.val (.ref u0), .val (.int p1), .val (.int p2), .val (.int v3_7), .val (.int (3 : Int32)), .val (.int v5_121), .val (.int v6_138), .val (.int v7_164), .val (.int v8_198), .unset, .unset] [(.int (2 : Int32)), (.int p1)])) (fun _ k => XS.iconst X0.here hx rfl (hb hby d1_201) k) ?_
                  refine Goes.step (S' := s₁.setTop (mkF m 203 #[.val (.ref u0), .val (.int p1), .val (.int p2), .val (.int v3_7), .val (.int (3 : Int32)), .val (.int v5_121), .val (.int v6_138), .val (.int v7_164), .val (.int v8_198), .unset, .unset] [(.int (p1 + (2 : Int32)))])) (fun _ k => XS.iadd X0.here hx rfl (hb hby d1_202) rfl k) ?_
                  refine Goes.step (S' := s₁.setTop (mkF m 205 #[.val (.ref u0), .val (.int p1), .val (.int p2), .val (.int v3_7), .val (.int (3 : Int32)), .val (.int v5_121), .val (.int v6_138), .val (.int v7_164), .val (.int v8_198), .val (.int (p1 + (2 : Int32))), .unset] [])) (fun _ k => XS.istore X0.here hx rfl (hb hby d1_203) rfl (l' := #[.val (.ref u0), .val (.int p1), .val (.int p2), .val (.int v3_7), .val (.int (3 : Int32)), .val (.int v5_121), .val (.int v6_138), .val (.int v7_164), .val (.int v8_198), .val (.int (p1 + (2 : Int32))), .unset]) rfl k) ?_
                  obtain ⟨v9_203, ev9_203⟩ : ∃ z : Int32, z = (p1 + (2 : Int32)) := ⟨_, rfl⟩
                  rw [← ev9_203]
                  refine Goes.step (S' := s₁.setTop (mkF m 207 #[.val (.ref u0), .val (.int p1), .val (.int p2), .val (.int v3_7), .val (.int (3 : Int32)), .val (.int v5_121), .val (.int v6_138), .val (.int v7_164), .val (.int v8_198), .val (.int v9_203), .unset] [(.int v9_203)])) (fun _ k => XS.iload X0.here hx rfl (hb hby d1_205) rfl  k) ?_
                  refine Goes.step (S' := s₁.setTop (mkF m 208 #[.val (.ref u0), .val (.int p1), .val (.int p2), .val (.int v3_7), .val (.int (3 : Int32)), .val (.int v5_121), .val (.int v6_138), .val (.int v7_164), .val (.int v8_198), .val (.int v9_203), .unset] [(.int p1), (.int v9_203)])) (fun _ k => XS.iloadN X0.here hx rfl (hb hby d1_207) rfl  k) ?_
                  refine Goes.step (S' := s₁.setTop (mkF m 210 #[.val (.ref u0), .val (.int p1), .val (.int p2), .val (.int v3_7), .val (.int (3 : Int32)), .val (.int v5_121), .val (.int v6_138), .val (.int v7_164), .val (.int v8_198), .val (.int v9_203), .unset] [(.int (3 : Int32)), (.int p1), (.int v9_203)])) (fun _ k => XS.iload X0.here hx rfl (hb hby d1_208) rfl  k) ?_
                  refine Goes.step (S' := s₁.setTop (mkF m 211 #[.val (.ref u0), .val (.int p1), .val (.int p2), .val (.int v3_7), .val (.int (3 : Int32)), .val (.int v5_121), .val (.int v6_138), .val (.int v7_164), .val (.int v8_198), .val (.int v9_203), .unset] [(.int (p1 + (3 : Int32))), (.int v9_203)])) (fun _ k => XS.iadd X0.here hx rfl (hb hby d1_210) rfl k) ?_
                  refine Goes.step (S' := s₁.setTop (mkF m 214 #[.val (.ref u0), .val (.int p1), .val (.int p2), .val (.int v3_7), .val (.int (3 : Int32)), .val (.int v5_121), .val (.int v6_138), .val (.int v7_164), .val (.int v8_198), .val (.int v9_203), .unset] [])) (fun _ k => XS.icmpNo X0.here hx rfl (hb hby d1_211) rfl (flt (own_hc1_211_4 n_u0 vs_u0 hl_u0 hn_u0 p1 p2 hB hb2 hb3 hb4 v3_7 ev3_7 hc12_1 hc31_2 hc40_3 hc53_7 hc100_15 v5_121 ev5_121 v6_138 ev6_138 hc150_18 v7_164 ev7_164 hc170_19 hc177_20 v8_198 ev8_198 v9_203 ev9_203)).2.2.1 k) ?_
                  refine Goes.step (S' := s₁.setTop (mkF m 215 #[.val (.ref u0), .val (.int p1), .val (.int p2), .val (.int v3_7), .val (.int (3 : Int32)), .val (.int v5_121), .val (.int v6_138), .val (.int v7_164), .val (.int v8_198), .val (.int v9_203), .unset] [(.ref u0)])) (fun _ k => XS.aloadN X0.here hx rfl (hb hby d1_214) rfl rfl k) ?_
                  refine Goes.step (S' := s₁.setTop (mkF m 217 #[.val (.ref u0), .val (.int p1), .val (.int p2), .val (.int v3_7), .val (.int (3 : Int32)), .val (.int v5_121), .val (.int v6_138), .val (.int v7_164), .val (.int v8_198), .val (.int v9_203), .unset] [(.int v9_203), (.ref u0)])) (fun _ k => XS.iload X0.here hx rfl (hb hby d1_215) rfl  k) ?_
                  refine Goes.step (S' := s₁.setTop (mkF m 218 #[.val (.ref u0), .val (.int p1), .val (.int p2), .val (.int v3_7), .val (.int (3 : Int32)), .val (.int v5_121), .val (.int v6_138), .val (.int v7_164), .val (.int v8_198), .val (.int v9_203), .unset] [(.int (vs_u0.getD (v9_203).toNatClampNeg 0))])) (fun _ k => own_baload X0 hx hZ e0 V_u0 (own_ix1_217_2 n_u0 vs_u0 hl_u0 hn_u0 p1 p2 hB hb2 hb3 hb4 v3_7 ev3_7 hc12_1 hc31_2 hc40_3 hc53_7 hc100_15 v5_121 ev5_121 v6_138 ev6_138 hc150_18 v7_164 ev7_164 hc170_19 hc177_20 v8_198 ev8_198 v9_203 ev9_203) (hb hby d1_217) _ k) ?_
                  refine Goes.step (S' := s₁.setTop (mkF m 221 #[.val (.ref u0), .val (.int p1), .val (.int p2), .val (.int v3_7), .val (.int (3 : Int32)), .val (.int v5_121), .val (.int v6_138), .val (.int v7_164), .val (.int v8_198), .val (.int v9_203), .unset] [(.int (255 : Int32)), (.int (vs_u0.getD (v9_203).toNatClampNeg 0))])) (fun _ k => XS.sipush X0.here hx rfl (hb hby d1_218) k) ?_
                  refine Goes.step (S' := s₁.setTop (mkF m 222 #[.val (.ref u0), .val (.int p1), .val (.int p2), .val (.int v3_7), .val (.int (3 : Int32)), .val (.int v5_121), .val (.int v6_138), .val (.int v7_164), .val (.int v8_198), .val (.int v9_203), .unset] [(.int ((vs_u0.getD (v9_203).toNatClampNeg 0) &&& (255 : Int32)))])) (fun _ k => XS.iand X0.here hx rfl (hb hby d1_221) rfl k) ?_
                  refine Goes.step (S' := s₁.setTop (mkF m 224 #[.val (.ref u0), .val (.int p1), .val (.int p2), .val (.int v3_7), .val (.int (3 : Int32)), .val (.int v5_121), .val (.int v6_138), .val (.int v7_164), .val (.int v8_198), .val (.int v9_203), .val (.int ((vs_u0.getD (v9_203).toNatClampNeg 0) &&& (255 : Int32)))] [])) (fun _ k => XS.istore X0.here hx rfl (hb hby d1_222) rfl (l' := #[.val (.ref u0), .val (.int p1), .val (.int p2), .val (.int v3_7), .val (.int (3 : Int32)), .val (.int v5_121), .val (.int v6_138), .val (.int v7_164), .val (.int v8_198), .val (.int v9_203), .val (.int ((vs_u0.getD (v9_203).toNatClampNeg 0) &&& (255 : Int32)))]) rfl k) ?_
                  obtain ⟨v10_222, ev10_222⟩ : ∃ z : Int32, z = ((vs_u0.getD (v9_203).toNatClampNeg 0) &&& (255 : Int32)) := ⟨_, rfl⟩
                  rw [← ev10_222]
                  refine Goes.step (S' := s₁.setTop (mkF m 226 #[.val (.ref u0), .val (.int p1), .val (.int p2), .val (.int v3_7), .val (.int (3 : Int32)), .val (.int v5_121), .val (.int v6_138), .val (.int v7_164), .val (.int v8_198), .val (.int v9_203), .val (.int v10_222)] [(.int v10_222)])) (fun _ k => XS.iload X0.here hx rfl (hb hby d1_224) rfl  k) ?_
                  refine Goes.step (S' := s₁.setTop (mkF m 229 #[.val (.ref u0), .val (.int p1), .val (.int p2), .val (.int v3_7), .val (.int (3 : Int32)), .val (.int v5_121), .val (.int v6_138), .val (.int v7_164), .val (.int v8_198), .val (.int v9_203), .val (.int v10_222)] [(.int (128 : Int32)), (.int v10_222)])) (fun _ k => XS.sipush X0.here hx rfl (hb hby d1_226) k) ?_
                  by_cases hc229_21 : v10_222 < (128 : Int32)
                  · refine Goes.step (S' := s₁.setTop (mkF m 240 #[.val (.ref u0), .val (.int p1), .val (.int p2), .val (.int v3_7), .val (.int (3 : Int32)), .val (.int v5_121), .val (.int v6_138), .val (.int v7_164), .val (.int v8_198), .val (.int v9_203), .val (.int v10_222)] [])) (fun _ k => XS.icmpYes X0.here hx rfl (pc0 := 229) (pc' := 240) rfl (hb hby d1_229) rfl (tlt hc229_21).1 (by decide) (by decide) k) ?_
                    refine Goes.step (S' := s₁.setTop (mkF m 241 #[.val (.ref u0), .val (.int p1), .val (.int p2), .val (.int v3_7), .val (.int (3 : Int32)), .val (.int v5_121), .val (.int v6_138), .val (.int v7_164), .val (.int v8_198), .val (.int v9_203), .val (.int v10_222)] [(.int (-1 : Int32))])) (fun _ k => XS.iconst X0.here hx rfl (hb hby d1_240) k) ?_
                    subst ev10_222 ev9_203 ev8_198 ev7_164 ev6_138 ev5_121 ev3_7
                    refine Goes.retI X0 hx Bd.notSynchronized Bd.returns (hb hby d1_241) (by decide) (by decide) ?_
                    refine ⟨congrArg (fun z => some (Value.int z)) ?_, N0, e0⟩
                    rw [f1, if_neg hc12_1, if_neg hc31_2, if_neg hc40_3, if_neg hc53_7, if_pos hc100_15, if_pos hc150_18, if_neg hc170_19, if_neg hc177_20, if_pos hc229_21]
                    try rfl
                  · refine Goes.step (S' := s₁.setTop (mkF m 232 #[.val (.ref u0), .val (.int p1), .val (.int p2), .val (.int v3_7), .val (.int (3 : Int32)), .val (.int v5_121), .val (.int v6_138), .val (.int v7_164), .val (.int v8_198), .val (.int v9_203), .val (.int v10_222)] [])) (fun _ k => XS.icmpNo X0.here hx rfl (hb hby d1_229) rfl (flt hc229_21).1 k) ?_
                    refine Goes.step (S' := s₁.setTop (mkF m 234 #[.val (.ref u0), .val (.int p1), .val (.int p2), .val (.int v3_7), .val (.int (3 : Int32)), .val (.int v5_121), .val (.int v6_138), .val (.int v7_164), .val (.int v8_198), .val (.int v9_203), .val (.int v10_222)] [(.int v10_222)])) (fun _ k => XS.iload X0.here hx rfl (hb hby d1_232) rfl  k) ?_
                    refine Goes.step (S' := s₁.setTop (mkF m 237 #[.val (.ref u0), .val (.int p1), .val (.int p2), .val (.int v3_7), .val (.int (3 : Int32)), .val (.int v5_121), .val (.int v6_138), .val (.int v7_164), .val (.int v8_198), .val (.int v9_203), .val (.int v10_222)] [(.int (191 : Int32)), (.int v10_222)])) (fun _ k => XS.sipush X0.here hx rfl (hb hby d1_234) k) ?_
                    by_cases hc237_22 : (191 : Int32) < v10_222
                    · refine Goes.step (S' := s₁.setTop (mkF m 240 #[.val (.ref u0), .val (.int p1), .val (.int p2), .val (.int v3_7), .val (.int (3 : Int32)), .val (.int v5_121), .val (.int v6_138), .val (.int v7_164), .val (.int v8_198), .val (.int v9_203), .val (.int v10_222)] [])) (fun _ k => XS.icmpNo X0.here hx rfl (hb hby d1_237) rfl (tlt hc237_22).2.2.2 k) ?_
                      refine Goes.step (S' := s₁.setTop (mkF m 241 #[.val (.ref u0), .val (.int p1), .val (.int p2), .val (.int v3_7), .val (.int (3 : Int32)), .val (.int v5_121), .val (.int v6_138), .val (.int v7_164), .val (.int v8_198), .val (.int v9_203), .val (.int v10_222)] [(.int (-1 : Int32))])) (fun _ k => XS.iconst X0.here hx rfl (hb hby d1_240) k) ?_
                      subst ev10_222 ev9_203 ev8_198 ev7_164 ev6_138 ev5_121 ev3_7
                      refine Goes.retI X0 hx Bd.notSynchronized Bd.returns (hb hby d1_241) (by decide) (by decide) ?_
                      refine ⟨congrArg (fun z => some (Value.int z)) ?_, N0, e0⟩
                      rw [f1, if_neg hc12_1, if_neg hc31_2, if_neg hc40_3, if_neg hc53_7, if_pos hc100_15, if_pos hc150_18, if_neg hc170_19, if_neg hc177_20, if_neg hc229_21, if_pos hc237_22]
                      try rfl
                    · refine Goes.step (S' := s₁.setTop (mkF m 242 #[.val (.ref u0), .val (.int p1), .val (.int p2), .val (.int v3_7), .val (.int (3 : Int32)), .val (.int v5_121), .val (.int v6_138), .val (.int v7_164), .val (.int v8_198), .val (.int v9_203), .val (.int v10_222)] [])) (fun _ k => XS.icmpYes X0.here hx rfl (pc0 := 237) (pc' := 242) rfl (hb hby d1_237) rfl (flt hc237_22).2.2.2 (by decide) (by decide) k) ?_
                      refine Goes.step (S' := s₁.setTop (mkF m 244 #[.val (.ref u0), .val (.int p1), .val (.int p2), .val (.int v3_7), .val (.int (3 : Int32)), .val (.int v5_121), .val (.int v6_138), .val (.int v7_164), .val (.int v8_198), .val (.int v9_203), .val (.int v10_222)] [(.int v8_198)])) (fun _ k => XS.iload X0.here hx rfl (hb hby d1_242) rfl  k) ?_
                      refine Goes.step (S' := s₁.setTop (mkF m 246 #[.val (.ref u0), .val (.int p1), .val (.int p2), .val (.int v3_7), .val (.int (3 : Int32)), .val (.int v5_121), .val (.int v6_138), .val (.int v7_164), .val (.int v8_198), .val (.int v9_203), .val (.int v10_222)] [(.int (6 : Int32)), (.int v8_198)])) (fun _ k => XS.bipush X0.here hx rfl (hb hby d1_244) k) ?_
                      refine Goes.step (S' := s₁.setTop (mkF m 247 #[.val (.ref u0), .val (.int p1), .val (.int p2), .val (.int v3_7), .val (.int (3 : Int32)), .val (.int v5_121), .val (.int v6_138), .val (.int v7_164), .val (.int v8_198), .val (.int v9_203), .val (.int v10_222)] [(.int (v8_198 <<< ((6 : Int32) &&& 31)))])) (fun _ k => XS.ishl X0.here hx rfl (hb hby d1_246) rfl k) ?_
                      refine Goes.step (S' := s₁.setTop (mkF m 249 #[.val (.ref u0), .val (.int p1), .val (.int p2), .val (.int v3_7), .val (.int (3 : Int32)), .val (.int v5_121), .val (.int v6_138), .val (.int v7_164), .val (.int v8_198), .val (.int v9_203), .val (.int v10_222)] [(.int v10_222), (.int (v8_198 <<< ((6 : Int32) &&& 31)))])) (fun _ k => XS.iload X0.here hx rfl (hb hby d1_247) rfl  k) ?_
                      refine Goes.step (S' := s₁.setTop (mkF m 251 #[.val (.ref u0), .val (.int p1), .val (.int p2), .val (.int v3_7), .val (.int (3 : Int32)), .val (.int v5_121), .val (.int v6_138), .val (.int v7_164), .val (.int v8_198), .val (.int v9_203), .val (.int v10_222)] [(.int (63 : Int32)), (.int v10_222), (.int (v8_198 <<< ((6 : Int32) &&& 31)))])) (fun _ k => XS.bipush X0.here hx rfl (hb hby d1_249) k) ?_
                      refine Goes.step (S' := s₁.setTop (mkF m 252 #[.val (.ref u0), .val (.int p1), .val (.int p2), .val (.int v3_7), .val (.int (3 : Int32)), .val (.int v5_121), .val (.int v6_138), .val (.int v7_164), .val (.int v8_198), .val (.int v9_203), .val (.int v10_222)] [(.int (v10_222 &&& (63 : Int32))), (.int (v8_198 <<< ((6 : Int32) &&& 31)))])) (fun _ k => XS.iand X0.here hx rfl (hb hby d1_251) rfl k) ?_
                      refine Goes.step (S' := s₁.setTop (mkF m 253 #[.val (.ref u0), .val (.int p1), .val (.int p2), .val (.int v3_7), .val (.int (3 : Int32)), .val (.int v5_121), .val (.int v6_138), .val (.int v7_164), .val (.int v8_198), .val (.int v9_203), .val (.int v10_222)] [(.int ((v8_198 <<< ((6 : Int32) &&& 31)) ||| (v10_222 &&& (63 : Int32))))])) (fun _ k => XS.ior X0.here hx rfl (hb hby d1_252) rfl k) ?_
                      refine Goes.step (S' := s₁.setTop (mkF m 255 #[.val (.ref u0), .val (.int p1), .val (.int p2), .val (.int v3_7), .val (.int (3 : Int32)), .val (.int v5_121), .val (.int v6_138), .val (.int v7_164), .val (.int ((v8_198 <<< ((6 : Int32) &&& 31)) ||| (v10_222 &&& (63 : Int32)))), .val (.int v9_203), .val (.int v10_222)] [])) (fun _ k => XS.istore X0.here hx rfl (hb hby d1_253) rfl (l' := #[.val (.ref u0), .val (.int p1), .val (.int p2), .val (.int v3_7), .val (.int (3 : Int32)), .val (.int v5_121), .val (.int v6_138), .val (.int v7_164), .val (.int ((v8_198 <<< ((6 : Int32) &&& 31)) ||| (v10_222 &&& (63 : Int32)))), .val (.int v9_203), .val (.int v10_222)]) rfl k) ?_
                      obtain ⟨v8_253, ev8_253⟩ : ∃ z : Int32, z = ((v8_198 <<< ((6 : Int32) &&& 31)) ||| (v10_222 &&& (63 : Int32))) := ⟨_, rfl⟩
                      rw [← ev8_253]
                      refine Goes.step (S' := s₁.setTop (mkF m 258 #[.val (.ref u0), .val (.int p1), .val (.int p2), .val (.int v3_7), .val (.int (3 : Int32)), .val (.int v5_121), .val (.int v6_138), .val (.int v7_164), .val (.int v8_253), .val (.int (v9_203 + (1 : Int32))), .val (.int v10_222)] [])) (fun _ k => XS.iinc X0.here hx rfl (hb hby d1_255) rfl (l' := #[.val (.ref u0), .val (.int p1), .val (.int p2), .val (.int v3_7), .val (.int (3 : Int32)), .val (.int v5_121), .val (.int v6_138), .val (.int v7_164), .val (.int v8_253), .val (.int (v9_203 + (1 : Int32))), .val (.int v10_222)]) rfl k) ?_
                      refine Goes.step (S' := s₁.setTop (mkF m 205 #[.val (.ref u0), .val (.int p1), .val (.int p2), .val (.int v3_7), .val (.int (3 : Int32)), .val (.int v5_121), .val (.int v6_138), .val (.int v7_164), .val (.int v8_253), .val (.int (v9_203 + (1 : Int32))), .val (.int v10_222)] [])) (fun _ k => XS.goto X0.here hx rfl (pc0 := 258) (pc' := 205) rfl (hb hby d1_258) (by decide) (by decide) k) ?_
                      refine Goes.step (S' := s₁.setTop (mkF m 207 #[.val (.ref u0), .val (.int p1), .val (.int p2), .val (.int v3_7), .val (.int (3 : Int32)), .val (.int v5_121), .val (.int v6_138), .val (.int v7_164), .val (.int v8_253), .val (.int (v9_203 + (1 : Int32))), .val (.int v10_222)] [(.int (v9_203 + (1 : Int32)))])) (fun _ k => XS.iload X0.here hx rfl (hb hby d1_205) rfl  k) ?_
                      refine Goes.step (S' := s₁.setTop (mkF m 208 #[.val (.ref u0), .val (.int p1), .val (.int p2), .val (.int v3_7), .val (.int (3 : Int32)), .val (.int v5_121), .val (.int v6_138), .val (.int v7_164), .val (.int v8_253), .val (.int (v9_203 + (1 : Int32))), .val (.int v10_222)] [(.int p1), (.int (v9_203 + (1 : Int32)))])) (fun _ k => XS.iloadN X0.here hx rfl (hb hby d1_207) rfl  k) ?_
                      refine Goes.step (S' := s₁.setTop (mkF m 210 #[.val (.ref u0), .val (.int p1), .val (.int p2), .val (.int v3_7), .val (.int (3 : Int32)), .val (.int v5_121), .val (.int v6_138), .val (.int v7_164), .val (.int v8_253), .val (.int (v9_203 + (1 : Int32))), .val (.int v10_222)] [(.int (3 : Int32)), (.int p1), (.int (v9_203 + (1 : Int32)))])) (fun _ k => XS.iload X0.here hx rfl (hb hby d1_208) rfl  k) ?_
                      refine Goes.step (S' := s₁.setTop (mkF m 211 #[.val (.ref u0), .val (.int p1), .val (.int p2), .val (.int v3_7), .val (.int (3 : Int32)), .val (.int v5_121), .val (.int v6_138), .val (.int v7_164), .val (.int v8_253), .val (.int (v9_203 + (1 : Int32))), .val (.int v10_222)] [(.int (p1 + (3 : Int32))), (.int (v9_203 + (1 : Int32)))])) (fun _ k => XS.iadd X0.here hx rfl (hb hby d1_210) rfl k) ?_
                      refine Goes.step (S' := s₁.setTop (mkF m 214 #[.val (.ref u0), .val (.int p1), .val (.int p2), .val (.int v3_7), .val (.int (3 : Int32)), .val (.int v5_121), .val (.int v6_138), .val (.int v7_164), .val (.int v8_253), .val (.int (v9_203 + (1 : Int32))), .val (.int v10_222)] [])) (fun _ k => XS.icmpNo X0.here hx rfl (hb hby d1_211) rfl (flt (own_hc1_211_5 n_u0 vs_u0 hl_u0 hn_u0 p1 p2 hB hb2 hb3 hb4 v3_7 ev3_7 hc12_1 hc31_2 hc40_3 hc53_7 hc100_15 v5_121 ev5_121 v6_138 ev6_138 hc150_18 v7_164 ev7_164 hc170_19 hc177_20 v8_198 ev8_198 v9_203 ev9_203 v10_222 ev10_222 hc229_21 hc237_22 v8_253 ev8_253)).2.2.1 k) ?_
                      refine Goes.step (S' := s₁.setTop (mkF m 215 #[.val (.ref u0), .val (.int p1), .val (.int p2), .val (.int v3_7), .val (.int (3 : Int32)), .val (.int v5_121), .val (.int v6_138), .val (.int v7_164), .val (.int v8_253), .val (.int (v9_203 + (1 : Int32))), .val (.int v10_222)] [(.ref u0)])) (fun _ k => XS.aloadN X0.here hx rfl (hb hby d1_214) rfl rfl k) ?_
                      refine Goes.step (S' := s₁.setTop (mkF m 217 #[.val (.ref u0), .val (.int p1), .val (.int p2), .val (.int v3_7), .val (.int (3 : Int32)), .val (.int v5_121), .val (.int v6_138), .val (.int v7_164), .val (.int v8_253), .val (.int (v9_203 + (1 : Int32))), .val (.int v10_222)] [(.int (v9_203 + (1 : Int32))), (.ref u0)])) (fun _ k => XS.iload X0.here hx rfl (hb hby d1_215) rfl  k) ?_
                      refine Goes.step (S' := s₁.setTop (mkF m 218 #[.val (.ref u0), .val (.int p1), .val (.int p2), .val (.int v3_7), .val (.int (3 : Int32)), .val (.int v5_121), .val (.int v6_138), .val (.int v7_164), .val (.int v8_253), .val (.int (v9_203 + (1 : Int32))), .val (.int v10_222)] [(.int (vs_u0.getD ((v9_203 + (1 : Int32))).toNatClampNeg 0))])) (fun _ k => own_baload X0 hx hZ e0 V_u0 (own_ix1_217_3 n_u0 vs_u0 hl_u0 hn_u0 p1 p2 hB hb2 hb3 hb4 v3_7 ev3_7 hc12_1 hc31_2 hc40_3 hc53_7 hc100_15 v5_121 ev5_121 v6_138 ev6_138 hc150_18 v7_164 ev7_164 hc170_19 hc177_20 v8_198 ev8_198 v9_203 ev9_203 v10_222 ev10_222 hc229_21 hc237_22 v8_253 ev8_253) (hb hby d1_217) _ k) ?_
                      refine Goes.step (S' := s₁.setTop (mkF m 221 #[.val (.ref u0), .val (.int p1), .val (.int p2), .val (.int v3_7), .val (.int (3 : Int32)), .val (.int v5_121), .val (.int v6_138), .val (.int v7_164), .val (.int v8_253), .val (.int (v9_203 + (1 : Int32))), .val (.int v10_222)] [(.int (255 : Int32)), (.int (vs_u0.getD ((v9_203 + (1 : Int32))).toNatClampNeg 0))])) (fun _ k => XS.sipush X0.here hx rfl (hb hby d1_218) k) ?_
                      refine Goes.step (S' := s₁.setTop (mkF m 222 #[.val (.ref u0), .val (.int p1), .val (.int p2), .val (.int v3_7), .val (.int (3 : Int32)), .val (.int v5_121), .val (.int v6_138), .val (.int v7_164), .val (.int v8_253), .val (.int (v9_203 + (1 : Int32))), .val (.int v10_222)] [(.int ((vs_u0.getD ((v9_203 + (1 : Int32))).toNatClampNeg 0) &&& (255 : Int32)))])) (fun _ k => XS.iand X0.here hx rfl (hb hby d1_221) rfl k) ?_
                      refine Goes.step (S' := s₁.setTop (mkF m 224 #[.val (.ref u0), .val (.int p1), .val (.int p2), .val (.int v3_7), .val (.int (3 : Int32)), .val (.int v5_121), .val (.int v6_138), .val (.int v7_164), .val (.int v8_253), .val (.int (v9_203 + (1 : Int32))), .val (.int ((vs_u0.getD ((v9_203 + (1 : Int32))).toNatClampNeg 0) &&& (255 : Int32)))] [])) (fun _ k => XS.istore X0.here hx rfl (hb hby d1_222) rfl (l' := #[.val (.ref u0), .val (.int p1), .val (.int p2), .val (.int v3_7), .val (.int (3 : Int32)), .val (.int v5_121), .val (.int v6_138), .val (.int v7_164), .val (.int v8_253), .val (.int (v9_203 + (1 : Int32))), .val (.int ((vs_u0.getD ((v9_203 + (1 : Int32))).toNatClampNeg 0) &&& (255 : Int32)))]) rfl k) ?_
                      obtain ⟨v10_222_2, ev10_222_2⟩ : ∃ z : Int32, z = ((vs_u0.getD ((v9_203 + (1 : Int32))).toNatClampNeg 0) &&& (255 : Int32)) := ⟨_, rfl⟩
                      rw [← ev10_222_2]
                      refine Goes.step (S' := s₁.setTop (mkF m 226 #[.val (.ref u0), .val (.int p1), .val (.int p2), .val (.int v3_7), .val (.int (3 : Int32)), .val (.int v5_121), .val (.int v6_138), .val (.int v7_164), .val (.int v8_253), .val (.int (v9_203 + (1 : Int32))), .val (.int v10_222_2)] [(.int v10_222_2)])) (fun _ k => XS.iload X0.here hx rfl (hb hby d1_224) rfl  k) ?_
                      refine Goes.step (S' := s₁.setTop (mkF m 229 #[.val (.ref u0), .val (.int p1), .val (.int p2), .val (.int v3_7), .val (.int (3 : Int32)), .val (.int v5_121), .val (.int v6_138), .val (.int v7_164), .val (.int v8_253), .val (.int (v9_203 + (1 : Int32))), .val (.int v10_222_2)] [(.int (128 : Int32)), (.int v10_222_2)])) (fun _ k => XS.sipush X0.here hx rfl (hb hby d1_226) k) ?_
                      by_cases hc229_23 : v10_222_2 < (128 : Int32)
                      · refine Goes.step (S' := s₁.setTop (mkF m 240 #[.val (.ref u0), .val (.int p1), .val (.int p2), .val (.int v3_7), .val (.int (3 : Int32)), .val (.int v5_121), .val (.int v6_138), .val (.int v7_164), .val (.int v8_253), .val (.int (v9_203 + (1 : Int32))), .val (.int v10_222_2)] [])) (fun _ k => XS.icmpYes X0.here hx rfl (pc0 := 229) (pc' := 240) rfl (hb hby d1_229) rfl (tlt hc229_23).1 (by decide) (by decide) k) ?_
                        refine Goes.step (S' := s₁.setTop (mkF m 241 #[.val (.ref u0), .val (.int p1), .val (.int p2), .val (.int v3_7), .val (.int (3 : Int32)), .val (.int v5_121), .val (.int v6_138), .val (.int v7_164), .val (.int v8_253), .val (.int (v9_203 + (1 : Int32))), .val (.int v10_222_2)] [(.int (-1 : Int32))])) (fun _ k => XS.iconst X0.here hx rfl (hb hby d1_240) k) ?_
                        subst ev10_222_2 ev8_253 ev10_222 ev9_203 ev8_198 ev7_164 ev6_138 ev5_121 ev3_7
                        refine Goes.retI X0 hx Bd.notSynchronized Bd.returns (hb hby d1_241) (by decide) (by decide) ?_
                        refine ⟨congrArg (fun z => some (Value.int z)) ?_, N0, e0⟩
                        rw [f1, if_neg hc12_1, if_neg hc31_2, if_neg hc40_3, if_neg hc53_7, if_pos hc100_15, if_pos hc150_18, if_neg hc170_19, if_neg hc177_20, if_neg hc229_21, if_neg hc237_22, if_pos hc229_23]
                        try rfl
                      · refine Goes.step (S' := s₁.setTop (mkF m 232 #[.val (.ref u0), .val (.int p1), .val (.int p2), .val (.int v3_7), .val (.int (3 : Int32)), .val (.int v5_121), .val (.int v6_138), .val (.int v7_164), .val (.int v8_253), .val (.int (v9_203 + (1 : Int32))), .val (.int v10_222_2)] [])) (fun _ k => XS.icmpNo X0.here hx rfl (hb hby d1_229) rfl (flt hc229_23).1 k) ?_
                        refine Goes.step (S' := s₁.setTop (mkF m 234 #[.val (.ref u0), .val (.int p1), .val (.int p2), .val (.int v3_7), .val (.int (3 : Int32)), .val (.int v5_121), .val (.int v6_138), .val (.int v7_164), .val (.int v8_253), .val (.int (v9_203 + (1 : Int32))), .val (.int v10_222_2)] [(.int v10_222_2)])) (fun _ k => XS.iload X0.here hx rfl (hb hby d1_232) rfl  k) ?_
                        refine Goes.step (S' := s₁.setTop (mkF m 237 #[.val (.ref u0), .val (.int p1), .val (.int p2), .val (.int v3_7), .val (.int (3 : Int32)), .val (.int v5_121), .val (.int v6_138), .val (.int v7_164), .val (.int v8_253), .val (.int (v9_203 + (1 : Int32))), .val (.int v10_222_2)] [(.int (191 : Int32)), (.int v10_222_2)])) (fun _ k => XS.sipush X0.here hx rfl (hb hby d1_234) k) ?_
                        by_cases hc237_24 : (191 : Int32) < v10_222_2
                        · refine Goes.step (S' := s₁.setTop (mkF m 240 #[.val (.ref u0), .val (.int p1), .val (.int p2), .val (.int v3_7), .val (.int (3 : Int32)), .val (.int v5_121), .val (.int v6_138), .val (.int v7_164), .val (.int v8_253), .val (.int (v9_203 + (1 : Int32))), .val (.int v10_222_2)] [])) (fun _ k => XS.icmpNo X0.here hx rfl (hb hby d1_237) rfl (tlt hc237_24).2.2.2 k) ?_
                          refine Goes.step (S' := s₁.setTop (mkF m 241 #[.val (.ref u0), .val (.int p1), .val (.int p2), .val (.int v3_7), .val (.int (3 : Int32)), .val (.int v5_121), .val (.int v6_138), .val (.int v7_164), .val (.int v8_253), .val (.int (v9_203 + (1 : Int32))), .val (.int v10_222_2)] [(.int (-1 : Int32))])) (fun _ k => XS.iconst X0.here hx rfl (hb hby d1_240) k) ?_
                          subst ev10_222_2 ev8_253 ev10_222 ev9_203 ev8_198 ev7_164 ev6_138 ev5_121 ev3_7
                          refine Goes.retI X0 hx Bd.notSynchronized Bd.returns (hb hby d1_241) (by decide) (by decide) ?_
                          refine ⟨congrArg (fun z => some (Value.int z)) ?_, N0, e0⟩
                          rw [f1, if_neg hc12_1, if_neg hc31_2, if_neg hc40_3, if_neg hc53_7, if_pos hc100_15, if_pos hc150_18, if_neg hc170_19, if_neg hc177_20, if_neg hc229_21, if_neg hc237_22, if_neg hc229_23, if_pos hc237_24]
                          try rfl
                        · refine Goes.step (S' := s₁.setTop (mkF m 242 #[.val (.ref u0), .val (.int p1), .val (.int p2), .val (.int v3_7), .val (.int (3 : Int32)), .val (.int v5_121), .val (.int v6_138), .val (.int v7_164), .val (.int v8_253), .val (.int (v9_203 + (1 : Int32))), .val (.int v10_222_2)] [])) (fun _ k => XS.icmpYes X0.here hx rfl (pc0 := 237) (pc' := 242) rfl (hb hby d1_237) rfl (flt hc237_24).2.2.2 (by decide) (by decide) k) ?_
                          refine Goes.step (S' := s₁.setTop (mkF m 244 #[.val (.ref u0), .val (.int p1), .val (.int p2), .val (.int v3_7), .val (.int (3 : Int32)), .val (.int v5_121), .val (.int v6_138), .val (.int v7_164), .val (.int v8_253), .val (.int (v9_203 + (1 : Int32))), .val (.int v10_222_2)] [(.int v8_253)])) (fun _ k => XS.iload X0.here hx rfl (hb hby d1_242) rfl  k) ?_
                          refine Goes.step (S' := s₁.setTop (mkF m 246 #[.val (.ref u0), .val (.int p1), .val (.int p2), .val (.int v3_7), .val (.int (3 : Int32)), .val (.int v5_121), .val (.int v6_138), .val (.int v7_164), .val (.int v8_253), .val (.int (v9_203 + (1 : Int32))), .val (.int v10_222_2)] [(.int (6 : Int32)), (.int v8_253)])) (fun _ k => XS.bipush X0.here hx rfl (hb hby d1_244) k) ?_
                          refine Goes.step (S' := s₁.setTop (mkF m 247 #[.val (.ref u0), .val (.int p1), .val (.int p2), .val (.int v3_7), .val (.int (3 : Int32)), .val (.int v5_121), .val (.int v6_138), .val (.int v7_164), .val (.int v8_253), .val (.int (v9_203 + (1 : Int32))), .val (.int v10_222_2)] [(.int (v8_253 <<< ((6 : Int32) &&& 31)))])) (fun _ k => XS.ishl X0.here hx rfl (hb hby d1_246) rfl k) ?_
                          refine Goes.step (S' := s₁.setTop (mkF m 249 #[.val (.ref u0), .val (.int p1), .val (.int p2), .val (.int v3_7), .val (.int (3 : Int32)), .val (.int v5_121), .val (.int v6_138), .val (.int v7_164), .val (.int v8_253), .val (.int (v9_203 + (1 : Int32))), .val (.int v10_222_2)] [(.int v10_222_2), (.int (v8_253 <<< ((6 : Int32) &&& 31)))])) (fun _ k => XS.iload X0.here hx rfl (hb hby d1_247) rfl  k) ?_
                          refine Goes.step (S' := s₁.setTop (mkF m 251 #[.val (.ref u0), .val (.int p1), .val (.int p2), .val (.int v3_7), .val (.int (3 : Int32)), .val (.int v5_121), .val (.int v6_138), .val (.int v7_164), .val (.int v8_253), .val (.int (v9_203 + (1 : Int32))), .val (.int v10_222_2)] [(.int (63 : Int32)), (.int v10_222_2), (.int (v8_253 <<< ((6 : Int32) &&& 31)))])) (fun _ k => XS.bipush X0.here hx rfl (hb hby d1_249) k) ?_
                          refine Goes.step (S' := s₁.setTop (mkF m 252 #[.val (.ref u0), .val (.int p1), .val (.int p2), .val (.int v3_7), .val (.int (3 : Int32)), .val (.int v5_121), .val (.int v6_138), .val (.int v7_164), .val (.int v8_253), .val (.int (v9_203 + (1 : Int32))), .val (.int v10_222_2)] [(.int (v10_222_2 &&& (63 : Int32))), (.int (v8_253 <<< ((6 : Int32) &&& 31)))])) (fun _ k => XS.iand X0.here hx rfl (hb hby d1_251) rfl k) ?_
                          refine Goes.step (S' := s₁.setTop (mkF m 253 #[.val (.ref u0), .val (.int p1), .val (.int p2), .val (.int v3_7), .val (.int (3 : Int32)), .val (.int v5_121), .val (.int v6_138), .val (.int v7_164), .val (.int v8_253), .val (.int (v9_203 + (1 : Int32))), .val (.int v10_222_2)] [(.int ((v8_253 <<< ((6 : Int32) &&& 31)) ||| (v10_222_2 &&& (63 : Int32))))])) (fun _ k => XS.ior X0.here hx rfl (hb hby d1_252) rfl k) ?_
                          refine Goes.step (S' := s₁.setTop (mkF m 255 #[.val (.ref u0), .val (.int p1), .val (.int p2), .val (.int v3_7), .val (.int (3 : Int32)), .val (.int v5_121), .val (.int v6_138), .val (.int v7_164), .val (.int ((v8_253 <<< ((6 : Int32) &&& 31)) ||| (v10_222_2 &&& (63 : Int32)))), .val (.int (v9_203 + (1 : Int32))), .val (.int v10_222_2)] [])) (fun _ k => XS.istore X0.here hx rfl (hb hby d1_253) rfl (l' := #[.val (.ref u0), .val (.int p1), .val (.int p2), .val (.int v3_7), .val (.int (3 : Int32)), .val (.int v5_121), .val (.int v6_138), .val (.int v7_164), .val (.int ((v8_253 <<< ((6 : Int32) &&& 31)) ||| (v10_222_2 &&& (63 : Int32)))), .val (.int (v9_203 + (1 : Int32))), .val (.int v10_222_2)]) rfl k) ?_
                          obtain ⟨v8_253_2, ev8_253_2⟩ : ∃ z : Int32, z = ((v8_253 <<< ((6 : Int32) &&& 31)) ||| (v10_222_2 &&& (63 : Int32))) := ⟨_, rfl⟩
                          rw [← ev8_253_2]
                          refine Goes.step (S' := s₁.setTop (mkF m 258 #[.val (.ref u0), .val (.int p1), .val (.int p2), .val (.int v3_7), .val (.int (3 : Int32)), .val (.int v5_121), .val (.int v6_138), .val (.int v7_164), .val (.int v8_253_2), .val (.int ((v9_203 + (1 : Int32)) + (1 : Int32))), .val (.int v10_222_2)] [])) (fun _ k => XS.iinc X0.here hx rfl (hb hby d1_255) rfl (l' := #[.val (.ref u0), .val (.int p1), .val (.int p2), .val (.int v3_7), .val (.int (3 : Int32)), .val (.int v5_121), .val (.int v6_138), .val (.int v7_164), .val (.int v8_253_2), .val (.int ((v9_203 + (1 : Int32)) + (1 : Int32))), .val (.int v10_222_2)]) rfl k) ?_
                          refine Goes.step (S' := s₁.setTop (mkF m 205 #[.val (.ref u0), .val (.int p1), .val (.int p2), .val (.int v3_7), .val (.int (3 : Int32)), .val (.int v5_121), .val (.int v6_138), .val (.int v7_164), .val (.int v8_253_2), .val (.int ((v9_203 + (1 : Int32)) + (1 : Int32))), .val (.int v10_222_2)] [])) (fun _ k => XS.goto X0.here hx rfl (pc0 := 258) (pc' := 205) rfl (hb hby d1_258) (by decide) (by decide) k) ?_
                          refine Goes.step (S' := s₁.setTop (mkF m 207 #[.val (.ref u0), .val (.int p1), .val (.int p2), .val (.int v3_7), .val (.int (3 : Int32)), .val (.int v5_121), .val (.int v6_138), .val (.int v7_164), .val (.int v8_253_2), .val (.int ((v9_203 + (1 : Int32)) + (1 : Int32))), .val (.int v10_222_2)] [(.int ((v9_203 + (1 : Int32)) + (1 : Int32)))])) (fun _ k => XS.iload X0.here hx rfl (hb hby d1_205) rfl  k) ?_
                          refine Goes.step (S' := s₁.setTop (mkF m 208 #[.val (.ref u0), .val (.int p1), .val (.int p2), .val (.int v3_7), .val (.int (3 : Int32)), .val (.int v5_121), .val (.int v6_138), .val (.int v7_164), .val (.int v8_253_2), .val (.int ((v9_203 + (1 : Int32)) + (1 : Int32))), .val (.int v10_222_2)] [(.int p1), (.int ((v9_203 + (1 : Int32)) + (1 : Int32)))])) (fun _ k => XS.iloadN X0.here hx rfl (hb hby d1_207) rfl  k) ?_
                          refine Goes.step (S' := s₁.setTop (mkF m 210 #[.val (.ref u0), .val (.int p1), .val (.int p2), .val (.int v3_7), .val (.int (3 : Int32)), .val (.int v5_121), .val (.int v6_138), .val (.int v7_164), .val (.int v8_253_2), .val (.int ((v9_203 + (1 : Int32)) + (1 : Int32))), .val (.int v10_222_2)] [(.int (3 : Int32)), (.int p1), (.int ((v9_203 + (1 : Int32)) + (1 : Int32)))])) (fun _ k => XS.iload X0.here hx rfl (hb hby d1_208) rfl  k) ?_
                          refine Goes.step (S' := s₁.setTop (mkF m 211 #[.val (.ref u0), .val (.int p1), .val (.int p2), .val (.int v3_7), .val (.int (3 : Int32)), .val (.int v5_121), .val (.int v6_138), .val (.int v7_164), .val (.int v8_253_2), .val (.int ((v9_203 + (1 : Int32)) + (1 : Int32))), .val (.int v10_222_2)] [(.int (p1 + (3 : Int32))), (.int ((v9_203 + (1 : Int32)) + (1 : Int32)))])) (fun _ k => XS.iadd X0.here hx rfl (hb hby d1_210) rfl k) ?_
                          refine Goes.step (S' := s₁.setTop (mkF m 261 #[.val (.ref u0), .val (.int p1), .val (.int p2), .val (.int v3_7), .val (.int (3 : Int32)), .val (.int v5_121), .val (.int v6_138), .val (.int v7_164), .val (.int v8_253_2), .val (.int ((v9_203 + (1 : Int32)) + (1 : Int32))), .val (.int v10_222_2)] [])) (fun _ k => XS.icmpYes X0.here hx rfl (pc0 := 211) (pc' := 261) rfl (hb hby d1_211) rfl (tlt (own_hc1_211_6 n_u0 vs_u0 hl_u0 hn_u0 p1 p2 hB hb2 hb3 hb4 v3_7 ev3_7 hc12_1 hc31_2 hc40_3 hc53_7 hc100_15 v5_121 ev5_121 v6_138 ev6_138 hc150_18 v7_164 ev7_164 hc170_19 hc177_20 v8_198 ev8_198 v9_203 ev9_203 v10_222 ev10_222 hc229_21 hc237_22 v8_253 ev8_253 v10_222_2 ev10_222_2 hc229_23 hc237_24 v8_253_2 ev8_253_2)).2.2.1 (by decide) (by decide) k) ?_
                          refine Goes.step (S' := s₁.setTop (mkF m 263 #[.val (.ref u0), .val (.int p1), .val (.int p2), .val (.int v3_7), .val (.int (3 : Int32)), .val (.int v5_121), .val (.int v6_138), .val (.int v7_164), .val (.int v8_253_2), .val (.int ((v9_203 + (1 : Int32)) + (1 : Int32))), .val (.int v10_222_2)] [(.int v8_253_2)])) (fun _ k => XS.iload X0.here hx rfl (hb hby d1_261) rfl  k) ?_
                          subst ev8_253_2 ev10_222_2 ev8_253 ev10_222 ev9_203 ev8_198 ev7_164 ev6_138 ev5_121 ev3_7
                          refine Goes.retI X0 hx Bd.notSynchronized Bd.returns (hb hby d1_263) (by decide) (by decide) ?_
                          refine ⟨congrArg (fun z => some (Value.int z)) ?_, N0, e0⟩
                          rw [f1, if_neg hc12_1, if_neg hc31_2, if_neg hc40_3, if_neg hc53_7, if_pos hc100_15, if_pos hc150_18, if_neg hc170_19, if_neg hc177_20, if_neg hc229_21, if_neg hc237_22, if_neg hc229_23, if_neg hc237_24]
                          try rfl
            · refine Goes.step (S' := s₁.setTop (mkF m 153 #[.val (.ref u0), .val (.int p1), .val (.int p2), .val (.int v3_7), .val (.int (3 : Int32)), .val (.int v5_121), .val (.int v6_138), .unset, .unset, .unset, .unset] [])) (fun _ k => XS.icmpNo X0.here hx rfl (hb hby d1_150) rfl (flt hc150_18).2.2.1 k) ?_
              refine Goes.step (S' := s₁.setTop (mkF m 154 #[.val (.ref u0), .val (.int p1), .val (.int p2), .val (.int v3_7), .val (.int (3 : Int32)), .val (.int v5_121), .val (.int v6_138), .unset, .unset, .unset, .unset] [(.int (-1 : Int32))])) (fun _ k => XS.iconst X0.here hx rfl (hb hby d1_153) k) ?_
              subst ev6_138 ev5_121 ev3_7
              refine Goes.retI X0 hx Bd.notSynchronized Bd.returns (hb hby d1_154) (by decide) (by decide) ?_
              refine ⟨congrArg (fun z => some (Value.int z)) ?_, N0, e0⟩
              rw [f1, if_neg hc12_1, if_neg hc31_2, if_neg hc40_3, if_neg hc53_7, if_pos hc100_15, if_neg hc150_18]
              try rfl
          · refine Goes.step (S' := s₁.setTop (mkF m 143 #[.val (.ref u0), .val (.int p1), .val (.int p2), .val (.int v3_7), .unset, .val (.int (128 : Int32)), .val (.int (191 : Int32)), .unset, .unset, .unset, .unset] [])) (fun _ k => XS.icmpYes X0.here hx rfl (pc0 := 100) (pc' := 143) rfl (hb hby d1_100) rfl (flt hc100_15).2.1 (by decide) (by decide) k) ?_
            refine Goes.step (S' := s₁.setTop (mkF m 144 #[.val (.ref u0), .val (.int p1), .val (.int p2), .val (.int v3_7), .unset, .val (.int (128 : Int32)), .val (.int (191 : Int32)), .unset, .unset, .unset, .unset] [(.int (-1 : Int32))])) (fun _ k => XS.iconst X0.here hx rfl (hb hby d1_143) k) ?_
            subst ev3_7
            refine Goes.retI X0 hx Bd.notSynchronized Bd.returns (hb hby d1_144) (by decide) (by decide) ?_
            refine ⟨congrArg (fun z => some (Value.int z)) ?_, N0, e0⟩
            rw [f1, if_neg hc12_1, if_neg hc31_2, if_neg hc40_3, if_neg hc53_7, if_neg hc100_15]
            try rfl
def own_dF (c0 c1 c2 c3 len : Int32) : Int32 := (if c0 < (128 : Int32) then c0 else (if c0 < (194 : Int32) then (-1 : Int32) else (if c0 < (224 : Int32) then (if (1 : Int32) < len then (if c1 < (128 : Int32) then (-1 : Int32) else (if (191 : Int32) < c1 then (-1 : Int32) else (((c0 &&& ((63 : Int32) >>> ((1 : Int32) &&& 31))) <<< ((6 : Int32) &&& 31)) ||| (c1 &&& (63 : Int32))))) else (-1 : Int32)) else (if c0 < (240 : Int32) then (if (2 : Int32) < len then (if c1 < (if c0 = (224 : Int32) then (160 : Int32) else (128 : Int32)) then (-1 : Int32) else (if (if c0 = (237 : Int32) then (159 : Int32) else (191 : Int32)) < c1 then (-1 : Int32) else (if c2 < (128 : Int32) then (-1 : Int32) else (if (191 : Int32) < c2 then (-1 : Int32) else (((((c0 &&& ((63 : Int32) >>> ((2 : Int32) &&& 31))) <<< ((6 : Int32) &&& 31)) ||| (c1 &&& (63 : Int32))) <<< ((6 : Int32) &&& 31)) ||| (c2 &&& (63 : Int32))))))) else (-1 : Int32)) else (if c0 < (245 : Int32) then (if (3 : Int32) < len then (if c1 < (if c0 = (240 : Int32) then (144 : Int32) else (128 : Int32)) then (-1 : Int32) else (if (if c0 = (244 : Int32) then (143 : Int32) else (191 : Int32)) < c1 then (-1 : Int32) else (if c2 < (128 : Int32) then (-1 : Int32) else (if (191 : Int32) < c2 then (-1 : Int32) else (if c3 < (128 : Int32) then (-1 : Int32) else (if (191 : Int32) < c3 then (-1 : Int32) else (((((((c0 &&& ((63 : Int32) >>> ((3 : Int32) &&& 31))) <<< ((6 : Int32) &&& 31)) ||| (c1 &&& (63 : Int32))) <<< ((6 : Int32) &&& 31)) ||| (c2 &&& (63 : Int32))) <<< ((6 : Int32) &&& 31)) ||| (c3 &&& (63 : Int32))))))))) else (-1 : Int32)) else (-1 : Int32))))))
theorem own_sh6 (a b : Int32) (h1 : 0 ≤ a.toInt) (h2 : a.toInt < 1048576) : ((a <<< ((6 : Int32) &&& 31)) ||| (b &&& (63 : Int32))).toInt = a.toInt * 64 + b.toInt % 64 := by
  have s : ((a <<< ((6 : Int32) &&& 31)).toInt - a.toInt * 64) % 4294967296 = 0 := c_ishl a 6 6 (by decide)
  have r := rng32 (a <<< ((6 : Int32) &&& 31))
  have e : (a <<< ((6 : Int32) &&& 31)).toInt = a.toInt * 64 := by omega
  have m : (b &&& 63).toInt = b.toInt % 64 := c_mask b 63 6 (by decide) (by decide)
  have o := c_or (a <<< ((6 : Int32) &&& 31)) (b &&& 63) 6 (by decide) 64 (by decide) (by omega) (by omega) (by omega)
  have r2 := rng32 ((a <<< ((6 : Int32) &&& 31)) ||| (b &&& 63))
  omega
theorem own_ld1 (c : Int32) : (c &&& ((63 : Int32) >>> ((1 : Int32) &&& 31))).toInt = c.toInt % 32 := by
  rw [show ((63 : Int32) >>> ((1 : Int32) &&& 31)) = 31 by decide]
  exact c_mask c 31 5 (by decide) (by decide)
theorem own_ld2 (c : Int32) : (c &&& ((63 : Int32) >>> ((2 : Int32) &&& 31))).toInt = c.toInt % 16 := by
  rw [show ((63 : Int32) >>> ((2 : Int32) &&& 31)) = 15 by decide]
  exact c_mask c 15 4 (by decide) (by decide)
theorem own_ld3 (c : Int32) : (c &&& ((63 : Int32) >>> ((3 : Int32) &&& 31))).toInt = c.toInt % 8 := by
  rw [show ((63 : Int32) >>> ((3 : Int32) &&& 31)) = 7 by decide]
  exact c_mask c 7 3 (by decide) (by decide)
theorem own_l2 (c0 c1 : Int32) : (((c0 &&& ((63 : Int32) >>> ((1 : Int32) &&& 31))) <<< ((6 : Int32) &&& 31)) ||| (c1 &&& (63 : Int32))).toInt = (c0.toInt % 32) * 64 + c1.toInt % 64 := by
  have a := own_ld1 c0
  rw [own_sh6 _ _ (by omega) (by omega), a]
theorem own_l3 (c0 c1 c2 : Int32) : (((((c0 &&& ((63 : Int32) >>> ((2 : Int32) &&& 31))) <<< ((6 : Int32) &&& 31)) ||| (c1 &&& (63 : Int32))) <<< ((6 : Int32) &&& 31)) ||| (c2 &&& (63 : Int32))).toInt = ((c0.toInt % 16) * 64 + c1.toInt % 64) * 64 + c2.toInt % 64 := by
  have a := own_ld2 c0
  have b : (((c0 &&& ((63 : Int32) >>> ((2 : Int32) &&& 31))) <<< ((6 : Int32) &&& 31)) ||| (c1 &&& (63 : Int32))).toInt = (c0.toInt % 16) * 64 + c1.toInt % 64 := by
    rw [own_sh6 _ _ (by omega) (by omega), a]
  rw [own_sh6 _ _ (by omega) (by omega), b]
theorem own_l4 (c0 c1 c2 c3 : Int32) : (((((((c0 &&& ((63 : Int32) >>> ((3 : Int32) &&& 31))) <<< ((6 : Int32) &&& 31)) ||| (c1 &&& (63 : Int32))) <<< ((6 : Int32) &&& 31)) ||| (c2 &&& (63 : Int32))) <<< ((6 : Int32) &&& 31)) ||| (c3 &&& (63 : Int32))).toInt = (((c0.toInt % 8) * 64 + c1.toInt % 64) * 64 + c2.toInt % 64) * 64 + c3.toInt % 64 := by
  have a := own_ld3 c0
  have b : (((c0 &&& ((63 : Int32) >>> ((3 : Int32) &&& 31))) <<< ((6 : Int32) &&& 31)) ||| (c1 &&& (63 : Int32))).toInt = (c0.toInt % 8) * 64 + c1.toInt % 64 := by
    rw [own_sh6 _ _ (by omega) (by omega), a]
  have d : (((((c0 &&& ((63 : Int32) >>> ((3 : Int32) &&& 31))) <<< ((6 : Int32) &&& 31)) ||| (c1 &&& (63 : Int32))) <<< ((6 : Int32) &&& 31)) ||| (c2 &&& (63 : Int32))).toInt = ((c0.toInt % 8) * 64 + c1.toInt % 64) * 64 + c2.toInt % 64 := by
    rw [own_sh6 _ _ (by omega) (by omega), b]
  rw [own_sh6 _ _ (by omega) (by omega), d]
theorem d3_0 : decode method_2_code 0 = .ok (.iload_n 0, 1) := by decide +kernel
theorem d3_1 : decode method_2_code 1 = .ok (.iload_n 1, 1) := by decide +kernel
theorem d3_2 : decode method_2_code 2 = .ok (.if_icmp .lt 12, 3) := by decide +kernel
theorem d3_5 : decode method_2_code 5 = .ok (.iload_n 0, 1) := by decide +kernel
theorem d3_6 : decode method_2_code 6 = .ok (.iload_n 2, 1) := by decide +kernel
theorem d3_7 : decode method_2_code 7 = .ok (.if_icmp .gt 7, 3) := by decide +kernel
theorem d3_10 : decode method_2_code 10 = .ok (.iconst 1, 1) := by decide +kernel
theorem d3_11 : decode method_2_code 11 = .ok (.goto 4, 3) := by decide +kernel
theorem d3_14 : decode method_2_code 14 = .ok (.iconst 0, 1) := by decide +kernel
theorem d3_15 : decode method_2_code 15 = .ok (.ireturn, 1) := by decide +kernel
theorem pn1 : plainName "com/example/leaderline/leaderline/Utf8DecodePinLaw" = true := by first | (simp [plainName, overriddenIn]; done) | decide +kernel
theorem ef3 (m : MethodId) (p0 : Int32) (p1 : Int32) (p2 : Int32) : entryFrame m #[(.int p0), (.int p1), (.int p2)] 3 = mkF m 0 #[.val (.int p0), .val (.int p1), .val (.int p2)] [] := by first | (simp [entryFrame, mkF, argsToLocals, Value.category]; done) | rfl
def f3 (p0 : Int32) (p1 : Int32) (p2 : Int32) : Int32 := (nar .boolean (if p0 < p1 then (0 : Int32) else (if p2 < p0 then (0 : Int32) else (1 : Int32))))
def Q3 (Z : State) (p0 : Int32) (p1 : Int32) (p2 : Int32) (h0 : Heap) (n0 : Nat) (v : Option Value) (h : Heap) (L : List Loc) : Prop := v = some (.int (f3 p0 p1 p2)) ∧ Fr n0 L ∧ h = h0
set_option maxRecDepth 65536 in
set_option maxHeartbeats 40000000 in
theorem rm3 (l : Launch) (Z : State) (a0 : Array Value) (hw : ∀ d ∈ tables_1, d.before a0 Z = true) (ws : List Jvm.Cond) (p0 : Int32) (p1 : Int32) (p2 : Int32) (h0 : Heap) (n0 : Nat) (Z0 : n0 ≤ h0.size) :
    MetFree l (⟨"com/example/leaderline/leaderline/Utf8DecodePinLaw", "in", "(III)Z"⟩ : MethodName) (head1 (Jvm.Cond.code (⟨"com/example/leaderline/leaderline/Utf8DecodePinLaw", "in", "(III)Z"⟩ : MethodName) method_2_code 3 (some .boolean) :: ws) ({ frames := 0, cells := 0, slots := 0, locals := 0 } : Room)) (fun a U => a = #[(.int p0), (.int p1), (.int p2)] ∧ Z.Warmed39 U.vm ∧ U.heap = h0) (fun _ _ _ _ _ => True) (fun _ U o U' => ∃ v L, o = .returned v ∧ Q3 Z p0 p1 p2 h0 n0 v U'.heap L ∧ FrameEnd U o U' L ({ frames := 0, cells := 0, slots := 0, locals := 0 } : Room).cells ({ frames := 0, cells := 0, slots := 0, locals := 0 } : Room).slots) := by
  refine MetFree.of_bodySF (plainFor_of_name pn1) hisR ?_
  intro p e s m args below meth c s₁ Bd hml0 hP hK
  obtain ⟨rfl, hZ, hh⟩ := hP
  have hx := Bd.exec
  have hby := Bd.bytes
  have hml : c.maxLocals = 3 := hml0
  have hown : s.vm.findClass "com/example/leaderline/leaderline/Utf8DecodePinLaw" = some m.cls := findClass_of_methodNamed Bd.named
  have hnm := (name_of_methodNamed Bd.named Bd.method).1
  have X0 : Stand p l e ({ frames := 0, cells := 0, slots := 0, locals := 0 } : Room) s m #[(.int p0), (.int p1), (.int p2)] below meth c s₁ [] 0 0 := Stand.of_body Bd
  have e0 : s₁.heap = h0 := by rw [← hh, Bd.state]; rfl
  have N0 := Fr.nil n0
  refine Goes.out (Q := fun o U' => ∃ v L, o = .returned v ∧ Q3 Z p0 p1 p2 h0 n0 v U'.heap L ∧ FrameEnd s o U' L ({ frames := 0, cells := 0, slots := 0, locals := 0 } : Room).cells ({ frames := 0, cells := 0, slots := 0, locals := 0 } : Room).slots) ?_
  refine Goes.step (S' := s₁.setTop (mkF m 0 #[.val (.int p0), .val (.int p1), .val (.int p2)] [])) (fun _ k => castTop (ef3 m p0 p1 p2) k) ?_
  refine Goes.step (S' := s₁.setTop (mkF m 1 #[.val (.int p0), .val (.int p1), .val (.int p2)] [(.int p0)])) (fun _ k => XS.iloadN X0.here hx rfl (hb hby d3_0) rfl  k) ?_
  refine Goes.step (S' := s₁.setTop (mkF m 2 #[.val (.int p0), .val (.int p1), .val (.int p2)] [(.int p1), (.int p0)])) (fun _ k => XS.iloadN X0.here hx rfl (hb hby d3_1) rfl  k) ?_
  refine Goes.step (own_ite1 (T := s₁) (c := p0 < p1) (a0 := (0 : Int32)) (b0 := (if p2 < p0 then (0 : Int32) else (1 : Int32))) (F := fun z2_0 => (mkF m 15 #[.val (.int p0), .val (.int p1), .val (.int p2)] [(.int z2_0)])) ?_ ?_) ?_
  · intro hc2_1 t k
    refine XS.icmpYes X0.here hx rfl (pc0 := 2) (pc' := 14) rfl (hb hby d3_2) rfl (tlt hc2_1).1 (by decide) (by decide) ?_
    show Steps p.tables e below (s₁.setTop (mkF m 14 #[.val (.int p0), .val (.int p1), .val (.int p2)] [])) _
    refine XS.iconst X0.here hx rfl (hb hby d3_14) ?_
    show Steps p.tables e below (s₁.setTop (mkF m 15 #[.val (.int p0), .val (.int p1), .val (.int p2)] [(.int (0 : Int32))])) _
    exact k
  · intro hc2_1 t k
    refine XS.icmpNo X0.here hx rfl (hb hby d3_2) rfl (flt hc2_1).1 ?_
    show Steps p.tables e below (s₁.setTop (mkF m 5 #[.val (.int p0), .val (.int p1), .val (.int p2)] [])) _
    refine XS.iloadN X0.here hx rfl (hb hby d3_5) rfl  ?_
    show Steps p.tables e below (s₁.setTop (mkF m 6 #[.val (.int p0), .val (.int p1), .val (.int p2)] [(.int p0)])) _
    refine XS.iloadN X0.here hx rfl (hb hby d3_6) rfl  ?_
    show Steps p.tables e below (s₁.setTop (mkF m 7 #[.val (.int p0), .val (.int p1), .val (.int p2)] [(.int p2), (.int p0)])) _
    refine own_ite1 (T := s₁) (c := p2 < p0) (a0 := (0 : Int32)) (b0 := (1 : Int32)) (F := fun z2_0 => (mkF m 15 #[.val (.int p0), .val (.int p1), .val (.int p2)] [(.int z2_0)])) ?_ ?_ _ ?_
    · intro hc7_2 t k
      refine XS.icmpYes X0.here hx rfl (pc0 := 7) (pc' := 14) rfl (hb hby d3_7) rfl (tlt hc7_2).2.2.1 (by decide) (by decide) ?_
      show Steps p.tables e below (s₁.setTop (mkF m 14 #[.val (.int p0), .val (.int p1), .val (.int p2)] [])) _
      refine XS.iconst X0.here hx rfl (hb hby d3_14) ?_
      show Steps p.tables e below (s₁.setTop (mkF m 15 #[.val (.int p0), .val (.int p1), .val (.int p2)] [(.int (0 : Int32))])) _
      exact k
    · intro hc7_2 t k
      refine XS.icmpNo X0.here hx rfl (hb hby d3_7) rfl (flt hc7_2).2.2.1 ?_
      show Steps p.tables e below (s₁.setTop (mkF m 10 #[.val (.int p0), .val (.int p1), .val (.int p2)] [])) _
      refine XS.iconst X0.here hx rfl (hb hby d3_10) ?_
      show Steps p.tables e below (s₁.setTop (mkF m 11 #[.val (.int p0), .val (.int p1), .val (.int p2)] [(.int (1 : Int32))])) _
      refine XS.goto X0.here hx rfl (pc0 := 11) (pc' := 15) rfl (hb hby d3_11) (by decide) (by decide) ?_
      show Steps p.tables e below (s₁.setTop (mkF m 15 #[.val (.int p0), .val (.int p1), .val (.int p2)] [(.int (1 : Int32))])) _
      exact k
    show Steps p.tables e below (s₁.setTop (mkF m 15 #[.val (.int p0), .val (.int p1), .val (.int p2)] [(.int (if p2 < p0 then (0 : Int32) else (1 : Int32)))])) _
    exact k
  show Goes p.tables e below _ (s₁.setTop (mkF m 15 #[.val (.int p0), .val (.int p1), .val (.int p2)] [(.int (if p0 < p1 then (0 : Int32) else (if p2 < p0 then (0 : Int32) else (1 : Int32))))]))
  refine Goes.retN X0 hx Bd.notSynchronized (t := .boolean) Bd.returns (by simp) (hb hby d3_15) (by decide) (by decide) ?_
  exact ⟨rfl, N0, e0⟩
theorem pd0 : parseMethodDescriptor "(III)Z" = some ⟨[.int, .int, .int], some .boolean⟩ := by decide +kernel
theorem d2_0 : decode method_3_code 0 = .ok (.iload_n 0, 1) := by decide +kernel
theorem d2_1 : decode method_3_code 1 = .ok (.bipush 127, 2) := by decide +kernel
theorem d2_3 : decode method_3_code 3 = .ok (.if_icmp .gt 5, 3) := by decide +kernel
theorem d2_6 : decode method_3_code 6 = .ok (.iload_n 0, 1) := by decide +kernel
theorem d2_7 : decode method_3_code 7 = .ok (.ireturn, 1) := by decide +kernel
theorem d2_8 : decode method_3_code 8 = .ok (.iload_n 0, 1) := by decide +kernel
theorem d2_9 : decode method_3_code 9 = .ok (.sipush 194, 3) := by decide +kernel
theorem d2_12 : decode method_3_code 12 = .ok (.if_icmp .lt 46, 3) := by decide +kernel
theorem d2_15 : decode method_3_code 15 = .ok (.iload_n 0, 1) := by decide +kernel
theorem d2_16 : decode method_3_code 16 = .ok (.sipush 223, 3) := by decide +kernel
theorem d2_19 : decode method_3_code 19 = .ok (.if_icmp .gt 39, 3) := by decide +kernel
theorem d2_22 : decode method_3_code 22 = .ok (.iload 4, 2) := by decide +kernel
theorem d2_24 : decode method_3_code 24 = .ok (.iconst 2, 1) := by decide +kernel
theorem d2_25 : decode method_3_code 25 = .ok (.if_icmp .lt 31, 3) := by decide +kernel
theorem d2_28 : decode method_3_code 28 = .ok (.iload_n 1, 1) := by decide +kernel
theorem d2_29 : decode method_3_code 29 = .ok (.sipush 128, 3) := by decide +kernel
theorem d2_32 : decode method_3_code 32 = .ok (.sipush 191, 3) := by decide +kernel
theorem d2_35 : decode method_3_code 35 = .ok (.invokestatic 7, 3) := by decide +kernel
theorem d2_38 : decode method_3_code 38 = .ok (.ifCond .eq 18, 3) := by decide +kernel
theorem d2_41 : decode method_3_code 41 = .ok (.iload_n 0, 1) := by decide +kernel
theorem d2_42 : decode method_3_code 42 = .ok (.sipush 192, 3) := by decide +kernel
theorem d2_45 : decode method_3_code 45 = .ok (.isub, 1) := by decide +kernel
theorem d2_46 : decode method_3_code 46 = .ok (.bipush 64, 2) := by decide +kernel
theorem d2_48 : decode method_3_code 48 = .ok (.imul, 1) := by decide +kernel
theorem d2_49 : decode method_3_code 49 = .ok (.iload_n 1, 1) := by decide +kernel
theorem d2_50 : decode method_3_code 50 = .ok (.sipush 128, 3) := by decide +kernel
theorem d2_53 : decode method_3_code 53 = .ok (.isub, 1) := by decide +kernel
theorem d2_54 : decode method_3_code 54 = .ok (.iadd, 1) := by decide +kernel
theorem d2_55 : decode method_3_code 55 = .ok (.ireturn, 1) := by decide +kernel
theorem d2_56 : decode method_3_code 56 = .ok (.iconst (-1), 1) := by decide +kernel
theorem d2_57 : decode method_3_code 57 = .ok (.ireturn, 1) := by decide +kernel
theorem d2_58 : decode method_3_code 58 = .ok (.iload_n 0, 1) := by decide +kernel
theorem d2_59 : decode method_3_code 59 = .ok (.sipush 224, 3) := by decide +kernel
theorem d2_62 : decode method_3_code 62 = .ok (.if_icmp .lt 117, 3) := by decide +kernel
theorem d2_65 : decode method_3_code 65 = .ok (.iload_n 0, 1) := by decide +kernel
theorem d2_66 : decode method_3_code 66 = .ok (.sipush 239, 3) := by decide +kernel
theorem d2_69 : decode method_3_code 69 = .ok (.if_icmp .gt 110, 3) := by decide +kernel
theorem d2_72 : decode method_3_code 72 = .ok (.iload_n 0, 1) := by decide +kernel
theorem d2_73 : decode method_3_code 73 = .ok (.sipush 224, 3) := by decide +kernel
theorem d2_76 : decode method_3_code 76 = .ok (.if_icmp .ne 18, 3) := by decide +kernel
theorem d2_79 : decode method_3_code 79 = .ok (.iload_n 1, 1) := by decide +kernel
theorem d2_80 : decode method_3_code 80 = .ok (.sipush 160, 3) := by decide +kernel
theorem d2_83 : decode method_3_code 83 = .ok (.sipush 191, 3) := by decide +kernel
theorem d2_86 : decode method_3_code 86 = .ok (.invokestatic 7, 3) := by decide +kernel
theorem d2_89 : decode method_3_code 89 = .ok (.istore 5, 2) := by decide +kernel
theorem d2_91 : decode method_3_code 91 = .ok (.goto 37, 3) := by decide +kernel
theorem d2_94 : decode method_3_code 94 = .ok (.iload_n 0, 1) := by decide +kernel
theorem d2_95 : decode method_3_code 95 = .ok (.sipush 237, 3) := by decide +kernel
theorem d2_98 : decode method_3_code 98 = .ok (.if_icmp .ne 18, 3) := by decide +kernel
theorem d2_101 : decode method_3_code 101 = .ok (.iload_n 1, 1) := by decide +kernel
theorem d2_102 : decode method_3_code 102 = .ok (.sipush 128, 3) := by decide +kernel
theorem d2_105 : decode method_3_code 105 = .ok (.sipush 159, 3) := by decide +kernel
theorem d2_108 : decode method_3_code 108 = .ok (.invokestatic 7, 3) := by decide +kernel
theorem d2_111 : decode method_3_code 111 = .ok (.istore 5, 2) := by decide +kernel
theorem d2_113 : decode method_3_code 113 = .ok (.goto 15, 3) := by decide +kernel
theorem d2_116 : decode method_3_code 116 = .ok (.iload_n 1, 1) := by decide +kernel
theorem d2_117 : decode method_3_code 117 = .ok (.sipush 128, 3) := by decide +kernel
theorem d2_120 : decode method_3_code 120 = .ok (.sipush 191, 3) := by decide +kernel
theorem d2_123 : decode method_3_code 123 = .ok (.invokestatic 7, 3) := by decide +kernel
theorem d2_126 : decode method_3_code 126 = .ok (.istore 5, 2) := by decide +kernel
theorem d2_128 : decode method_3_code 128 = .ok (.iload 4, 2) := by decide +kernel
theorem d2_130 : decode method_3_code 130 = .ok (.iconst 3, 1) := by decide +kernel
theorem d2_131 : decode method_3_code 131 = .ok (.if_icmp .lt 46, 3) := by decide +kernel
theorem d2_134 : decode method_3_code 134 = .ok (.iload 5, 2) := by decide +kernel
theorem d2_136 : decode method_3_code 136 = .ok (.ifCond .eq 41, 3) := by decide +kernel
theorem d2_139 : decode method_3_code 139 = .ok (.iload_n 2, 1) := by decide +kernel
theorem d2_140 : decode method_3_code 140 = .ok (.sipush 128, 3) := by decide +kernel
theorem d2_143 : decode method_3_code 143 = .ok (.sipush 191, 3) := by decide +kernel
theorem d2_146 : decode method_3_code 146 = .ok (.invokestatic 7, 3) := by decide +kernel
theorem d2_149 : decode method_3_code 149 = .ok (.ifCond .eq 28, 3) := by decide +kernel
theorem d2_152 : decode method_3_code 152 = .ok (.iload_n 0, 1) := by decide +kernel
theorem d2_153 : decode method_3_code 153 = .ok (.sipush 224, 3) := by decide +kernel
theorem d2_156 : decode method_3_code 156 = .ok (.isub, 1) := by decide +kernel
theorem d2_157 : decode method_3_code 157 = .ok (.sipush 4096, 3) := by decide +kernel
theorem d2_160 : decode method_3_code 160 = .ok (.imul, 1) := by decide +kernel
theorem d2_161 : decode method_3_code 161 = .ok (.iload_n 1, 1) := by decide +kernel
theorem d2_162 : decode method_3_code 162 = .ok (.sipush 128, 3) := by decide +kernel
theorem d2_165 : decode method_3_code 165 = .ok (.isub, 1) := by decide +kernel
theorem d2_166 : decode method_3_code 166 = .ok (.bipush 64, 2) := by decide +kernel
theorem d2_168 : decode method_3_code 168 = .ok (.imul, 1) := by decide +kernel
theorem d2_169 : decode method_3_code 169 = .ok (.iadd, 1) := by decide +kernel
theorem d2_170 : decode method_3_code 170 = .ok (.iload_n 2, 1) := by decide +kernel
theorem d2_171 : decode method_3_code 171 = .ok (.sipush 128, 3) := by decide +kernel
theorem d2_174 : decode method_3_code 174 = .ok (.isub, 1) := by decide +kernel
theorem d2_175 : decode method_3_code 175 = .ok (.iadd, 1) := by decide +kernel
theorem d2_176 : decode method_3_code 176 = .ok (.ireturn, 1) := by decide +kernel
theorem d2_177 : decode method_3_code 177 = .ok (.iconst (-1), 1) := by decide +kernel
theorem d2_178 : decode method_3_code 178 = .ok (.ireturn, 1) := by decide +kernel
theorem d2_179 : decode method_3_code 179 = .ok (.iload_n 0, 1) := by decide +kernel
theorem d2_180 : decode method_3_code 180 = .ok (.sipush 240, 3) := by decide +kernel
theorem d2_183 : decode method_3_code 183 = .ok (.if_icmp .lt 139, 3) := by decide +kernel
theorem d2_186 : decode method_3_code 186 = .ok (.iload_n 0, 1) := by decide +kernel
theorem d2_187 : decode method_3_code 187 = .ok (.sipush 244, 3) := by decide +kernel
theorem d2_190 : decode method_3_code 190 = .ok (.if_icmp .gt 132, 3) := by decide +kernel
theorem d2_193 : decode method_3_code 193 = .ok (.iload_n 0, 1) := by decide +kernel
theorem d2_194 : decode method_3_code 194 = .ok (.sipush 240, 3) := by decide +kernel
theorem d2_197 : decode method_3_code 197 = .ok (.if_icmp .ne 18, 3) := by decide +kernel
theorem d2_200 : decode method_3_code 200 = .ok (.iload_n 1, 1) := by decide +kernel
theorem d2_201 : decode method_3_code 201 = .ok (.sipush 144, 3) := by decide +kernel
theorem d2_204 : decode method_3_code 204 = .ok (.sipush 191, 3) := by decide +kernel
theorem d2_207 : decode method_3_code 207 = .ok (.invokestatic 7, 3) := by decide +kernel
theorem d2_210 : decode method_3_code 210 = .ok (.istore 5, 2) := by decide +kernel
theorem d2_212 : decode method_3_code 212 = .ok (.goto 37, 3) := by decide +kernel
theorem d2_215 : decode method_3_code 215 = .ok (.iload_n 0, 1) := by decide +kernel
theorem d2_216 : decode method_3_code 216 = .ok (.sipush 244, 3) := by decide +kernel
theorem d2_219 : decode method_3_code 219 = .ok (.if_icmp .ne 18, 3) := by decide +kernel
theorem d2_222 : decode method_3_code 222 = .ok (.iload_n 1, 1) := by decide +kernel
theorem d2_223 : decode method_3_code 223 = .ok (.sipush 128, 3) := by decide +kernel
theorem d2_226 : decode method_3_code 226 = .ok (.sipush 143, 3) := by decide +kernel
theorem d2_229 : decode method_3_code 229 = .ok (.invokestatic 7, 3) := by decide +kernel
theorem d2_232 : decode method_3_code 232 = .ok (.istore 5, 2) := by decide +kernel
theorem d2_234 : decode method_3_code 234 = .ok (.goto 15, 3) := by decide +kernel
theorem d2_237 : decode method_3_code 237 = .ok (.iload_n 1, 1) := by decide +kernel
theorem d2_238 : decode method_3_code 238 = .ok (.sipush 128, 3) := by decide +kernel
theorem d2_241 : decode method_3_code 241 = .ok (.sipush 191, 3) := by decide +kernel
theorem d2_244 : decode method_3_code 244 = .ok (.invokestatic 7, 3) := by decide +kernel
theorem d2_247 : decode method_3_code 247 = .ok (.istore 5, 2) := by decide +kernel
theorem d2_249 : decode method_3_code 249 = .ok (.iload 4, 2) := by decide +kernel
theorem d2_251 : decode method_3_code 251 = .ok (.iconst 4, 1) := by decide +kernel
theorem d2_252 : decode method_3_code 252 = .ok (.if_icmp .lt 68, 3) := by decide +kernel
theorem d2_255 : decode method_3_code 255 = .ok (.iload 5, 2) := by decide +kernel
theorem d2_257 : decode method_3_code 257 = .ok (.ifCond .eq 63, 3) := by decide +kernel
theorem d2_260 : decode method_3_code 260 = .ok (.iload_n 2, 1) := by decide +kernel
theorem d2_261 : decode method_3_code 261 = .ok (.sipush 128, 3) := by decide +kernel
theorem d2_264 : decode method_3_code 264 = .ok (.sipush 191, 3) := by decide +kernel
theorem d2_267 : decode method_3_code 267 = .ok (.invokestatic 7, 3) := by decide +kernel
theorem d2_270 : decode method_3_code 270 = .ok (.ifCond .eq 50, 3) := by decide +kernel
theorem d2_273 : decode method_3_code 273 = .ok (.iload_n 3, 1) := by decide +kernel
theorem d2_274 : decode method_3_code 274 = .ok (.sipush 128, 3) := by decide +kernel
theorem d2_277 : decode method_3_code 277 = .ok (.sipush 191, 3) := by decide +kernel
theorem d2_280 : decode method_3_code 280 = .ok (.invokestatic 7, 3) := by decide +kernel
theorem d2_283 : decode method_3_code 283 = .ok (.ifCond .eq 37, 3) := by decide +kernel
theorem d2_286 : decode method_3_code 286 = .ok (.iload_n 0, 1) := by decide +kernel
theorem d2_287 : decode method_3_code 287 = .ok (.sipush 240, 3) := by decide +kernel
theorem d2_290 : decode method_3_code 290 = .ok (.isub, 1) := by decide +kernel
theorem d2_291 : decode method_3_code 291 = .ok (.ldc 13, 2) := by decide +kernel
theorem d2_293 : decode method_3_code 293 = .ok (.imul, 1) := by decide +kernel
theorem d2_294 : decode method_3_code 294 = .ok (.iload_n 1, 1) := by decide +kernel
theorem d2_295 : decode method_3_code 295 = .ok (.sipush 128, 3) := by decide +kernel
theorem d2_298 : decode method_3_code 298 = .ok (.isub, 1) := by decide +kernel
theorem d2_299 : decode method_3_code 299 = .ok (.sipush 4096, 3) := by decide +kernel
theorem d2_302 : decode method_3_code 302 = .ok (.imul, 1) := by decide +kernel
theorem d2_303 : decode method_3_code 303 = .ok (.iadd, 1) := by decide +kernel
theorem d2_304 : decode method_3_code 304 = .ok (.iload_n 2, 1) := by decide +kernel
theorem d2_305 : decode method_3_code 305 = .ok (.sipush 128, 3) := by decide +kernel
theorem d2_308 : decode method_3_code 308 = .ok (.isub, 1) := by decide +kernel
theorem d2_309 : decode method_3_code 309 = .ok (.bipush 64, 2) := by decide +kernel
theorem d2_311 : decode method_3_code 311 = .ok (.imul, 1) := by decide +kernel
theorem d2_312 : decode method_3_code 312 = .ok (.iadd, 1) := by decide +kernel
theorem d2_313 : decode method_3_code 313 = .ok (.iload_n 3, 1) := by decide +kernel
theorem d2_314 : decode method_3_code 314 = .ok (.sipush 128, 3) := by decide +kernel
theorem d2_317 : decode method_3_code 317 = .ok (.isub, 1) := by decide +kernel
theorem d2_318 : decode method_3_code 318 = .ok (.iadd, 1) := by decide +kernel
theorem d2_319 : decode method_3_code 319 = .ok (.ireturn, 1) := by decide +kernel
theorem d2_320 : decode method_3_code 320 = .ok (.iconst (-1), 1) := by decide +kernel
theorem d2_321 : decode method_3_code 321 = .ok (.ireturn, 1) := by decide +kernel
theorem d2_322 : decode method_3_code 322 = .ok (.iconst (-1), 1) := by decide +kernel
theorem d2_323 : decode method_3_code 323 = .ok (.ireturn, 1) := by decide +kernel
theorem ef2 (m : MethodId) (p0 : Int32) (p1 : Int32) (p2 : Int32) (p3 : Int32) (p4 : Int32) : entryFrame m #[(.int p0), (.int p1), (.int p2), (.int p3), (.int p4)] 6 = mkF m 0 #[.val (.int p0), .val (.int p1), .val (.int p2), .val (.int p3), .val (.int p4), .unset] [] := by first | (simp [entryFrame, mkF, argsToLocals, Value.category]; done) | rfl
def f2 (p0 : Int32) (p1 : Int32) (p2 : Int32) (p3 : Int32) (p4 : Int32) : Int32 := (if (127 : Int32) < p0 then (if p0 < (194 : Int32) then (-1 : Int32) else (if (223 : Int32) < p0 then (if (239 : Int32) < p0 then (if (244 : Int32) < p0 then (-1 : Int32) else (if p0 = (240 : Int32) then (if p4 < (4 : Int32) then (-1 : Int32) else (if (f3 p1 (144 : Int32) (191 : Int32)) = (0 : Int32) then (-1 : Int32) else (if (f3 p2 (128 : Int32) (191 : Int32)) = (0 : Int32) then (-1 : Int32) else (if (f3 p3 (128 : Int32) (191 : Int32)) = (0 : Int32) then (-1 : Int32) else (((((p0 - (240 : Int32)) * (262144 : Int32)) + ((p1 - (128 : Int32)) * (4096 : Int32))) + ((p2 - (128 : Int32)) * (64 : Int32))) + (p3 - (128 : Int32))))))) else (if p0 = (244 : Int32) then (if p4 < (4 : Int32) then (-1 : Int32) else (if (f3 p1 (128 : Int32) (143 : Int32)) = (0 : Int32) then (-1 : Int32) else (if (f3 p2 (128 : Int32) (191 : Int32)) = (0 : Int32) then (-1 : Int32) else (if (f3 p3 (128 : Int32) (191 : Int32)) = (0 : Int32) then (-1 : Int32) else (((((p0 - (240 : Int32)) * (262144 : Int32)) + ((p1 - (128 : Int32)) * (4096 : Int32))) + ((p2 - (128 : Int32)) * (64 : Int32))) + (p3 - (128 : Int32))))))) else (if p4 < (4 : Int32) then (-1 : Int32) else (if (f3 p1 (128 : Int32) (191 : Int32)) = (0 : Int32) then (-1 : Int32) else (if (f3 p2 (128 : Int32) (191 : Int32)) = (0 : Int32) then (-1 : Int32) else (if (f3 p3 (128 : Int32) (191 : Int32)) = (0 : Int32) then (-1 : Int32) else (((((p0 - (240 : Int32)) * (262144 : Int32)) + ((p1 - (128 : Int32)) * (4096 : Int32))) + ((p2 - (128 : Int32)) * (64 : Int32))) + (p3 - (128 : Int32)))))))))) else (if p0 = (224 : Int32) then (if p4 < (3 : Int32) then (-1 : Int32) else (if (f3 p1 (160 : Int32) (191 : Int32)) = (0 : Int32) then (-1 : Int32) else (if (f3 p2 (128 : Int32) (191 : Int32)) = (0 : Int32) then (-1 : Int32) else ((((p0 - (224 : Int32)) * (4096 : Int32)) + ((p1 - (128 : Int32)) * (64 : Int32))) + (p2 - (128 : Int32)))))) else (if p0 = (237 : Int32) then (if p4 < (3 : Int32) then (-1 : Int32) else (if (f3 p1 (128 : Int32) (159 : Int32)) = (0 : Int32) then (-1 : Int32) else (if (f3 p2 (128 : Int32) (191 : Int32)) = (0 : Int32) then (-1 : Int32) else ((((p0 - (224 : Int32)) * (4096 : Int32)) + ((p1 - (128 : Int32)) * (64 : Int32))) + (p2 - (128 : Int32)))))) else (if p4 < (3 : Int32) then (-1 : Int32) else (if (f3 p1 (128 : Int32) (191 : Int32)) = (0 : Int32) then (-1 : Int32) else (if (f3 p2 (128 : Int32) (191 : Int32)) = (0 : Int32) then (-1 : Int32) else ((((p0 - (224 : Int32)) * (4096 : Int32)) + ((p1 - (128 : Int32)) * (64 : Int32))) + (p2 - (128 : Int32))))))))) else (if p4 < (2 : Int32) then (-1 : Int32) else (if (f3 p1 (128 : Int32) (191 : Int32)) = (0 : Int32) then (-1 : Int32) else (((p0 - (192 : Int32)) * (64 : Int32)) + (p1 - (128 : Int32))))))) else p0)
theorem own_au2_62 (p0 : Int32) (p1 : Int32) (p2 : Int32) (p3 : Int32) (p4 : Int32) (hc3_1 : (127 : Int32) < p0) (hc12_2 : p0 < (194 : Int32)) : p0 < (224 : Int32) := by
  simp only [Int32.lt_iff_toInt_lt, ← Int32.toInt_inj, Int32.reduceToInt] at *
  omega
theorem own_au2_183 (p0 : Int32) (p1 : Int32) (p2 : Int32) (p3 : Int32) (p4 : Int32) (hc3_1 : (127 : Int32) < p0) (hc12_2 : p0 < (194 : Int32)) : p0 < (240 : Int32) := by
  simp only [Int32.lt_iff_toInt_lt, ← Int32.toInt_inj, Int32.reduceToInt] at *
  omega
theorem own_au2_62_2 (p0 : Int32) (p1 : Int32) (p2 : Int32) (p3 : Int32) (p4 : Int32) (hc3_1 : (127 : Int32) < p0) (hc12_2 : ¬ (p0 < (194 : Int32))) (hc19_3 : (223 : Int32) < p0) : ¬ (p0 < (224 : Int32)) := by
  simp only [Int32.lt_iff_toInt_lt, ← Int32.toInt_inj, Int32.reduceToInt] at *
  omega
theorem own_au2_183_2 (p0 : Int32) (p1 : Int32) (p2 : Int32) (p3 : Int32) (p4 : Int32) (hc3_1 : (127 : Int32) < p0) (hc12_2 : ¬ (p0 < (194 : Int32))) (hc19_3 : (223 : Int32) < p0) (hc69_4 : (239 : Int32) < p0) : ¬ (p0 < (240 : Int32)) := by
  simp only [Int32.lt_iff_toInt_lt, ← Int32.toInt_inj, Int32.reduceToInt] at *
  omega
def Q2 (Z : State) (p0 : Int32) (p1 : Int32) (p2 : Int32) (p3 : Int32) (p4 : Int32) (h0 : Heap) (n0 : Nat) (v : Option Value) (h : Heap) (L : List Loc) : Prop := v = some (.int (f2 p0 p1 p2 p3 p4)) ∧ Fr n0 L ∧ h = h0
set_option maxRecDepth 65536 in
set_option maxHeartbeats 40000000 in
theorem rm2 (l : Launch) (Z : State) (a0 : Array Value) (hw : ∀ d ∈ tables_1, d.before a0 Z = true) (ws : List Jvm.Cond) (p0 : Int32) (p1 : Int32) (p2 : Int32) (p3 : Int32) (p4 : Int32) (h0 : Heap) (n0 : Nat) (Z0 : n0 ≤ h0.size) :
    MetFree l (⟨"com/example/leaderline/leaderline/Utf8DecodePinLaw", "expected", "(IIIII)I"⟩ : MethodName) (head1 (Jvm.Cond.code (⟨"com/example/leaderline/leaderline/Utf8DecodePinLaw", "expected", "(IIIII)I"⟩ : MethodName) method_3_code 6 (some .int) :: ws) ({ frames := 1, cells := 0, slots := 0, locals := 14 } : Room)) (fun a U => a = #[(.int p0), (.int p1), (.int p2), (.int p3), (.int p4)] ∧ Z.Warmed39 U.vm ∧ U.heap = h0) (fun _ _ _ _ _ => True) (fun _ U o U' => ∃ v L, o = .returned v ∧ Q2 Z p0 p1 p2 p3 p4 h0 n0 v U'.heap L ∧ FrameEnd U o U' L ({ frames := 1, cells := 0, slots := 0, locals := 14 } : Room).cells ({ frames := 1, cells := 0, slots := 0, locals := 14 } : Room).slots) := by
  refine MetFree.of_bodySF (plainFor_of_name pn1) hisR ?_
  intro p e s m args below meth c s₁ Bd hml0 hP hK
  obtain ⟨rfl, hZ, hh⟩ := hP
  have hx := Bd.exec
  have hby := Bd.bytes
  have hml : c.maxLocals = 6 := hml0
  have hown : s.vm.findClass "com/example/leaderline/leaderline/Utf8DecodePinLaw" = some m.cls := findClass_of_methodNamed Bd.named
  have hnm := (name_of_methodNamed Bd.named Bd.method).1
  have X0 : Stand p l e ({ frames := 1, cells := 0, slots := 0, locals := 14 } : Room) s m #[(.int p0), (.int p1), (.int p2), (.int p3), (.int p4)] below meth c s₁ [] 0 0 := Stand.of_body Bd
  have e0 : s₁.heap = h0 := by rw [← hh, Bd.state]; rfl
  have N0 := Fr.nil n0
  refine Goes.out (Q := fun o U' => ∃ v L, o = .returned v ∧ Q2 Z p0 p1 p2 p3 p4 h0 n0 v U'.heap L ∧ FrameEnd s o U' L ({ frames := 1, cells := 0, slots := 0, locals := 14 } : Room).cells ({ frames := 1, cells := 0, slots := 0, locals := 14 } : Room).slots) ?_
  refine Goes.step (S' := s₁.setTop (mkF m 0 #[.val (.int p0), .val (.int p1), .val (.int p2), .val (.int p3), .val (.int p4), .unset] [])) (fun _ k => castTop (ef2 m p0 p1 p2 p3 p4) k) ?_
  refine Goes.step (S' := s₁.setTop (mkF m 1 #[.val (.int p0), .val (.int p1), .val (.int p2), .val (.int p3), .val (.int p4), .unset] [(.int p0)])) (fun _ k => XS.iloadN X0.here hx rfl (hb hby d2_0) rfl  k) ?_
  refine Goes.step (S' := s₁.setTop (mkF m 3 #[.val (.int p0), .val (.int p1), .val (.int p2), .val (.int p3), .val (.int p4), .unset] [(.int (127 : Int32)), (.int p0)])) (fun _ k => XS.bipush X0.here hx rfl (hb hby d2_1) k) ?_
  by_cases hc3_1 : (127 : Int32) < p0
  · refine Goes.step (S' := s₁.setTop (mkF m 8 #[.val (.int p0), .val (.int p1), .val (.int p2), .val (.int p3), .val (.int p4), .unset] [])) (fun _ k => XS.icmpYes X0.here hx rfl (pc0 := 3) (pc' := 8) rfl (hb hby d2_3) rfl (tlt hc3_1).2.2.1 (by decide) (by decide) k) ?_
    refine Goes.step (S' := s₁.setTop (mkF m 9 #[.val (.int p0), .val (.int p1), .val (.int p2), .val (.int p3), .val (.int p4), .unset] [(.int p0)])) (fun _ k => XS.iloadN X0.here hx rfl (hb hby d2_8) rfl  k) ?_
    refine Goes.step (S' := s₁.setTop (mkF m 12 #[.val (.int p0), .val (.int p1), .val (.int p2), .val (.int p3), .val (.int p4), .unset] [(.int (194 : Int32)), (.int p0)])) (fun _ k => XS.sipush X0.here hx rfl (hb hby d2_9) k) ?_
    by_cases hc12_2 : p0 < (194 : Int32)
    · refine Goes.step (S' := s₁.setTop (mkF m 58 #[.val (.int p0), .val (.int p1), .val (.int p2), .val (.int p3), .val (.int p4), .unset] [])) (fun _ k => XS.icmpYes X0.here hx rfl (pc0 := 12) (pc' := 58) rfl (hb hby d2_12) rfl (tlt hc12_2).1 (by decide) (by decide) k) ?_
      refine Goes.step (S' := s₁.setTop (mkF m 59 #[.val (.int p0), .val (.int p1), .val (.int p2), .val (.int p3), .val (.int p4), .unset] [(.int p0)])) (fun _ k => XS.iloadN X0.here hx rfl (hb hby d2_58) rfl  k) ?_
      refine Goes.step (S' := s₁.setTop (mkF m 62 #[.val (.int p0), .val (.int p1), .val (.int p2), .val (.int p3), .val (.int p4), .unset] [(.int (224 : Int32)), (.int p0)])) (fun _ k => XS.sipush X0.here hx rfl (hb hby d2_59) k) ?_
      refine Goes.step (S' := s₁.setTop (mkF m 179 #[.val (.int p0), .val (.int p1), .val (.int p2), .val (.int p3), .val (.int p4), .unset] [])) (fun _ k => XS.icmpYes X0.here hx rfl (pc0 := 62) (pc' := 179) rfl (hb hby d2_62) rfl (tlt (own_au2_62 p0 p1 p2 p3 p4 hc3_1 hc12_2)).1 (by decide) (by decide) k) ?_
      refine Goes.step (S' := s₁.setTop (mkF m 180 #[.val (.int p0), .val (.int p1), .val (.int p2), .val (.int p3), .val (.int p4), .unset] [(.int p0)])) (fun _ k => XS.iloadN X0.here hx rfl (hb hby d2_179) rfl  k) ?_
      refine Goes.step (S' := s₁.setTop (mkF m 183 #[.val (.int p0), .val (.int p1), .val (.int p2), .val (.int p3), .val (.int p4), .unset] [(.int (240 : Int32)), (.int p0)])) (fun _ k => XS.sipush X0.here hx rfl (hb hby d2_180) k) ?_
      refine Goes.step (S' := s₁.setTop (mkF m 322 #[.val (.int p0), .val (.int p1), .val (.int p2), .val (.int p3), .val (.int p4), .unset] [])) (fun _ k => XS.icmpYes X0.here hx rfl (pc0 := 183) (pc' := 322) rfl (hb hby d2_183) rfl (tlt (own_au2_183 p0 p1 p2 p3 p4 hc3_1 hc12_2)).1 (by decide) (by decide) k) ?_
      refine Goes.step (S' := s₁.setTop (mkF m 323 #[.val (.int p0), .val (.int p1), .val (.int p2), .val (.int p3), .val (.int p4), .unset] [(.int (-1 : Int32))])) (fun _ k => XS.iconst X0.here hx rfl (hb hby d2_322) k) ?_
      refine Goes.retI X0 hx Bd.notSynchronized Bd.returns (hb hby d2_323) (by decide) (by decide) ?_
      refine ⟨congrArg (fun z => some (Value.int z)) ?_, N0, e0⟩
      rw [f2, if_pos hc3_1, if_pos hc12_2]
      try rfl
    · refine Goes.step (S' := s₁.setTop (mkF m 15 #[.val (.int p0), .val (.int p1), .val (.int p2), .val (.int p3), .val (.int p4), .unset] [])) (fun _ k => XS.icmpNo X0.here hx rfl (hb hby d2_12) rfl (flt hc12_2).1 k) ?_
      refine Goes.step (S' := s₁.setTop (mkF m 16 #[.val (.int p0), .val (.int p1), .val (.int p2), .val (.int p3), .val (.int p4), .unset] [(.int p0)])) (fun _ k => XS.iloadN X0.here hx rfl (hb hby d2_15) rfl  k) ?_
      refine Goes.step (S' := s₁.setTop (mkF m 19 #[.val (.int p0), .val (.int p1), .val (.int p2), .val (.int p3), .val (.int p4), .unset] [(.int (223 : Int32)), (.int p0)])) (fun _ k => XS.sipush X0.here hx rfl (hb hby d2_16) k) ?_
      by_cases hc19_3 : (223 : Int32) < p0
      · refine Goes.step (S' := s₁.setTop (mkF m 58 #[.val (.int p0), .val (.int p1), .val (.int p2), .val (.int p3), .val (.int p4), .unset] [])) (fun _ k => XS.icmpYes X0.here hx rfl (pc0 := 19) (pc' := 58) rfl (hb hby d2_19) rfl (tlt hc19_3).2.2.1 (by decide) (by decide) k) ?_
        refine Goes.step (S' := s₁.setTop (mkF m 59 #[.val (.int p0), .val (.int p1), .val (.int p2), .val (.int p3), .val (.int p4), .unset] [(.int p0)])) (fun _ k => XS.iloadN X0.here hx rfl (hb hby d2_58) rfl  k) ?_
        refine Goes.step (S' := s₁.setTop (mkF m 62 #[.val (.int p0), .val (.int p1), .val (.int p2), .val (.int p3), .val (.int p4), .unset] [(.int (224 : Int32)), (.int p0)])) (fun _ k => XS.sipush X0.here hx rfl (hb hby d2_59) k) ?_
        refine Goes.step (S' := s₁.setTop (mkF m 65 #[.val (.int p0), .val (.int p1), .val (.int p2), .val (.int p3), .val (.int p4), .unset] [])) (fun _ k => XS.icmpNo X0.here hx rfl (hb hby d2_62) rfl (flt (own_au2_62_2 p0 p1 p2 p3 p4 hc3_1 hc12_2 hc19_3)).1 k) ?_
        refine Goes.step (S' := s₁.setTop (mkF m 66 #[.val (.int p0), .val (.int p1), .val (.int p2), .val (.int p3), .val (.int p4), .unset] [(.int p0)])) (fun _ k => XS.iloadN X0.here hx rfl (hb hby d2_65) rfl  k) ?_
        refine Goes.step (S' := s₁.setTop (mkF m 69 #[.val (.int p0), .val (.int p1), .val (.int p2), .val (.int p3), .val (.int p4), .unset] [(.int (239 : Int32)), (.int p0)])) (fun _ k => XS.sipush X0.here hx rfl (hb hby d2_66) k) ?_
        by_cases hc69_4 : (239 : Int32) < p0
        · refine Goes.step (S' := s₁.setTop (mkF m 179 #[.val (.int p0), .val (.int p1), .val (.int p2), .val (.int p3), .val (.int p4), .unset] [])) (fun _ k => XS.icmpYes X0.here hx rfl (pc0 := 69) (pc' := 179) rfl (hb hby d2_69) rfl (tlt hc69_4).2.2.1 (by decide) (by decide) k) ?_
          refine Goes.step (S' := s₁.setTop (mkF m 180 #[.val (.int p0), .val (.int p1), .val (.int p2), .val (.int p3), .val (.int p4), .unset] [(.int p0)])) (fun _ k => XS.iloadN X0.here hx rfl (hb hby d2_179) rfl  k) ?_
          refine Goes.step (S' := s₁.setTop (mkF m 183 #[.val (.int p0), .val (.int p1), .val (.int p2), .val (.int p3), .val (.int p4), .unset] [(.int (240 : Int32)), (.int p0)])) (fun _ k => XS.sipush X0.here hx rfl (hb hby d2_180) k) ?_
          refine Goes.step (S' := s₁.setTop (mkF m 186 #[.val (.int p0), .val (.int p1), .val (.int p2), .val (.int p3), .val (.int p4), .unset] [])) (fun _ k => XS.icmpNo X0.here hx rfl (hb hby d2_183) rfl (flt (own_au2_183_2 p0 p1 p2 p3 p4 hc3_1 hc12_2 hc19_3 hc69_4)).1 k) ?_
          refine Goes.step (S' := s₁.setTop (mkF m 187 #[.val (.int p0), .val (.int p1), .val (.int p2), .val (.int p3), .val (.int p4), .unset] [(.int p0)])) (fun _ k => XS.iloadN X0.here hx rfl (hb hby d2_186) rfl  k) ?_
          refine Goes.step (S' := s₁.setTop (mkF m 190 #[.val (.int p0), .val (.int p1), .val (.int p2), .val (.int p3), .val (.int p4), .unset] [(.int (244 : Int32)), (.int p0)])) (fun _ k => XS.sipush X0.here hx rfl (hb hby d2_187) k) ?_
          by_cases hc190_5 : (244 : Int32) < p0
          · refine Goes.step (S' := s₁.setTop (mkF m 322 #[.val (.int p0), .val (.int p1), .val (.int p2), .val (.int p3), .val (.int p4), .unset] [])) (fun _ k => XS.icmpYes X0.here hx rfl (pc0 := 190) (pc' := 322) rfl (hb hby d2_190) rfl (tlt hc190_5).2.2.1 (by decide) (by decide) k) ?_
            refine Goes.step (S' := s₁.setTop (mkF m 323 #[.val (.int p0), .val (.int p1), .val (.int p2), .val (.int p3), .val (.int p4), .unset] [(.int (-1 : Int32))])) (fun _ k => XS.iconst X0.here hx rfl (hb hby d2_322) k) ?_
            refine Goes.retI X0 hx Bd.notSynchronized Bd.returns (hb hby d2_323) (by decide) (by decide) ?_
            refine ⟨congrArg (fun z => some (Value.int z)) ?_, N0, e0⟩
            rw [f2, if_pos hc3_1, if_neg hc12_2, if_pos hc19_3, if_pos hc69_4, if_pos hc190_5]
            try rfl
          · refine Goes.step (S' := s₁.setTop (mkF m 193 #[.val (.int p0), .val (.int p1), .val (.int p2), .val (.int p3), .val (.int p4), .unset] [])) (fun _ k => XS.icmpNo X0.here hx rfl (hb hby d2_190) rfl (flt hc190_5).2.2.1 k) ?_
            refine Goes.step (S' := s₁.setTop (mkF m 194 #[.val (.int p0), .val (.int p1), .val (.int p2), .val (.int p3), .val (.int p4), .unset] [(.int p0)])) (fun _ k => XS.iloadN X0.here hx rfl (hb hby d2_193) rfl  k) ?_
            refine Goes.step (S' := s₁.setTop (mkF m 197 #[.val (.int p0), .val (.int p1), .val (.int p2), .val (.int p3), .val (.int p4), .unset] [(.int (240 : Int32)), (.int p0)])) (fun _ k => XS.sipush X0.here hx rfl (hb hby d2_194) k) ?_
            by_cases hc197_6 : p0 = (240 : Int32)
            · refine Goes.step (S' := s₁.setTop (mkF m 200 #[.val (.int p0), .val (.int p1), .val (.int p2), .val (.int p3), .val (.int p4), .unset] [])) (fun _ k => XS.icmpNo X0.here hx rfl (hb hby d2_197) rfl (teq hc197_6).2 k) ?_
              refine Goes.step (S' := s₁.setTop (mkF m 201 #[.val (.int p0), .val (.int p1), .val (.int p2), .val (.int p3), .val (.int p4), .unset] [(.int p1)])) (fun _ k => XS.iloadN X0.here hx rfl (hb hby d2_200) rfl  k) ?_
              refine Goes.step (S' := s₁.setTop (mkF m 204 #[.val (.int p0), .val (.int p1), .val (.int p2), .val (.int p3), .val (.int p4), .unset] [(.int (144 : Int32)), (.int p1)])) (fun _ k => XS.sipush X0.here hx rfl (hb hby d2_201) k) ?_
              refine Goes.step (S' := s₁.setTop (mkF m 207 #[.val (.int p0), .val (.int p1), .val (.int p2), .val (.int p3), .val (.int p4), .unset] [(.int (191 : Int32)), (.int (144 : Int32)), (.int p1)])) (fun _ k => XS.sipush X0.here hx rfl (hb hby d2_204) k) ?_
              obtain ⟨_, _, ⟨T1, L1, k1, n1⟩, -, X1, ⟨Lc1, hQ1, l1, y1, z1⟩, st1⟩ := Jvm.LawKit.callS X0 hx (y := (⟨"com/example/leaderline/leaderline/Utf8DecodePinLaw", "in", "(III)Z"⟩ : MethodName)) hown (mvT hZ (hw _ (List.mem_of_getElem? (i := 9) rfl))) (mvT hZ (hw _ (List.mem_of_getElem? (i := 10) rfl))) (mvT hZ (hw _ (List.mem_of_getElem? (i := 7) rfl))) (mvT hZ (hw _ (List.mem_of_getElem? (i := 11) rfl))) (by decide) (backOf (W := 0) (rm3 l Z a0 hw [] p1 (144 : Int32) (191 : Int32) h0 n0 Z0) hZ (hw _ (List.mem_of_getElem? (i := 11) rfl)) (hw _ (List.mem_of_getElem? (i := 7) rfl)) (by decide) (by decide)) (g := (mkF m 207 #[.val (.int p0), .val (.int p1), .val (.int p2), .val (.int p3), .val (.int p4), .unset] [(.int (191 : Int32)), (.int (144 : Int32)), (.int p1)])) rfl (by rw [hml]; rfl) (argsL := [(.int p1), (.int (144 : Int32)), (.int (191 : Int32))]) (rest := []) (lenOf pd0 rfl) rfl (by show 2 * 0 + _ ≤ _; exact Nat.le_of_eq rfl) (hb hby d2_207) (fun _ _ => ⟨rfl, e0, (by decide : 0 + 0 ≤ _), (by decide : 0 + 0 ≤ _)⟩)
              dsimp only [Pt.U, Pt.locs, Pt.cells, Pt.slots] at X1 l1 y1 z1 st1 hQ1
              subst l1 y1 z1
              obtain ⟨rfl, N1q, e1⟩ := hQ1
              have N2 := Fr.app N0 N1q
              refine Goes.step (S' := T1.setTop (mkF m 210 #[.val (.int p0), .val (.int p1), .val (.int p2), .val (.int p3), .val (.int p4), .unset] [(.int (f3 p1 (144 : Int32) (191 : Int32)))])) st1 ?_
              refine Goes.step (S' := T1.setTop (mkF m 212 #[.val (.int p0), .val (.int p1), .val (.int p2), .val (.int p3), .val (.int p4), .val (.int (f3 p1 (144 : Int32) (191 : Int32)))] [])) (fun _ k => XS.istore X1.here hx rfl (hb hby d2_210) rfl (l' := #[.val (.int p0), .val (.int p1), .val (.int p2), .val (.int p3), .val (.int p4), .val (.int (f3 p1 (144 : Int32) (191 : Int32)))]) rfl k) ?_
              refine Goes.step (S' := T1.setTop (mkF m 249 #[.val (.int p0), .val (.int p1), .val (.int p2), .val (.int p3), .val (.int p4), .val (.int (f3 p1 (144 : Int32) (191 : Int32)))] [])) (fun _ k => XS.goto X1.here hx rfl (pc0 := 212) (pc' := 249) rfl (hb hby d2_212) (by decide) (by decide) k) ?_
              refine Goes.step (S' := T1.setTop (mkF m 251 #[.val (.int p0), .val (.int p1), .val (.int p2), .val (.int p3), .val (.int p4), .val (.int (f3 p1 (144 : Int32) (191 : Int32)))] [(.int p4)])) (fun _ k => XS.iload X1.here hx rfl (hb hby d2_249) rfl  k) ?_
              refine Goes.step (S' := T1.setTop (mkF m 252 #[.val (.int p0), .val (.int p1), .val (.int p2), .val (.int p3), .val (.int p4), .val (.int (f3 p1 (144 : Int32) (191 : Int32)))] [(.int (4 : Int32)), (.int p4)])) (fun _ k => XS.iconst X1.here hx rfl (hb hby d2_251) k) ?_
              by_cases hc252_7 : p4 < (4 : Int32)
              · refine Goes.step (S' := T1.setTop (mkF m 320 #[.val (.int p0), .val (.int p1), .val (.int p2), .val (.int p3), .val (.int p4), .val (.int (f3 p1 (144 : Int32) (191 : Int32)))] [])) (fun _ k => XS.icmpYes X1.here hx rfl (pc0 := 252) (pc' := 320) rfl (hb hby d2_252) rfl (tlt hc252_7).1 (by decide) (by decide) k) ?_
                refine Goes.step (S' := T1.setTop (mkF m 321 #[.val (.int p0), .val (.int p1), .val (.int p2), .val (.int p3), .val (.int p4), .val (.int (f3 p1 (144 : Int32) (191 : Int32)))] [(.int (-1 : Int32))])) (fun _ k => XS.iconst X1.here hx rfl (hb hby d2_320) k) ?_
                refine Goes.retI X1 hx Bd.notSynchronized Bd.returns (hb hby d2_321) (by decide) (by decide) ?_
                refine ⟨congrArg (fun z => some (Value.int z)) ?_, N2, e1⟩
                rw [f2, if_pos hc3_1, if_neg hc12_2, if_pos hc19_3, if_pos hc69_4, if_neg hc190_5, if_pos hc197_6, if_pos hc252_7]
                try rfl
              · refine Goes.step (S' := T1.setTop (mkF m 255 #[.val (.int p0), .val (.int p1), .val (.int p2), .val (.int p3), .val (.int p4), .val (.int (f3 p1 (144 : Int32) (191 : Int32)))] [])) (fun _ k => XS.icmpNo X1.here hx rfl (hb hby d2_252) rfl (flt hc252_7).1 k) ?_
                refine Goes.step (S' := T1.setTop (mkF m 257 #[.val (.int p0), .val (.int p1), .val (.int p2), .val (.int p3), .val (.int p4), .val (.int (f3 p1 (144 : Int32) (191 : Int32)))] [(.int (f3 p1 (144 : Int32) (191 : Int32)))])) (fun _ k => XS.iload X1.here hx rfl (hb hby d2_255) rfl  k) ?_
                by_cases hc257_8 : (f3 p1 (144 : Int32) (191 : Int32)) = (0 : Int32)
                · refine Goes.step (S' := T1.setTop (mkF m 320 #[.val (.int p0), .val (.int p1), .val (.int p2), .val (.int p3), .val (.int p4), .val (.int (f3 p1 (144 : Int32) (191 : Int32)))] [])) (fun _ k => XS.ifYes X1.here hx rfl (pc0 := 257) (pc' := 320) rfl (hb hby d2_257) rfl ((if0 _ _).trans (teq hc257_8).1) (by decide) (by decide) k) ?_
                  refine Goes.step (S' := T1.setTop (mkF m 321 #[.val (.int p0), .val (.int p1), .val (.int p2), .val (.int p3), .val (.int p4), .val (.int (f3 p1 (144 : Int32) (191 : Int32)))] [(.int (-1 : Int32))])) (fun _ k => XS.iconst X1.here hx rfl (hb hby d2_320) k) ?_
                  refine Goes.retI X1 hx Bd.notSynchronized Bd.returns (hb hby d2_321) (by decide) (by decide) ?_
                  refine ⟨congrArg (fun z => some (Value.int z)) ?_, N2, e1⟩
                  rw [f2, if_pos hc3_1, if_neg hc12_2, if_pos hc19_3, if_pos hc69_4, if_neg hc190_5, if_pos hc197_6, if_neg hc252_7, if_pos hc257_8]
                  try rfl
                · refine Goes.step (S' := T1.setTop (mkF m 260 #[.val (.int p0), .val (.int p1), .val (.int p2), .val (.int p3), .val (.int p4), .val (.int (f3 p1 (144 : Int32) (191 : Int32)))] [])) (fun _ k => XS.ifNo X1.here hx rfl (hb hby d2_257) rfl ((if0 _ _).trans (feq hc257_8).1) k) ?_
                  refine Goes.step (S' := T1.setTop (mkF m 261 #[.val (.int p0), .val (.int p1), .val (.int p2), .val (.int p3), .val (.int p4), .val (.int (f3 p1 (144 : Int32) (191 : Int32)))] [(.int p2)])) (fun _ k => XS.iloadN X1.here hx rfl (hb hby d2_260) rfl  k) ?_
                  refine Goes.step (S' := T1.setTop (mkF m 264 #[.val (.int p0), .val (.int p1), .val (.int p2), .val (.int p3), .val (.int p4), .val (.int (f3 p1 (144 : Int32) (191 : Int32)))] [(.int (128 : Int32)), (.int p2)])) (fun _ k => XS.sipush X1.here hx rfl (hb hby d2_261) k) ?_
                  refine Goes.step (S' := T1.setTop (mkF m 267 #[.val (.int p0), .val (.int p1), .val (.int p2), .val (.int p3), .val (.int p4), .val (.int (f3 p1 (144 : Int32) (191 : Int32)))] [(.int (191 : Int32)), (.int (128 : Int32)), (.int p2)])) (fun _ k => XS.sipush X1.here hx rfl (hb hby d2_264) k) ?_
                  obtain ⟨_, _, ⟨T3, L3, k3, n3⟩, -, X3, ⟨Lc3, hQ3, l3, y3, z3⟩, st3⟩ := Jvm.LawKit.callS X1 hx (y := (⟨"com/example/leaderline/leaderline/Utf8DecodePinLaw", "in", "(III)Z"⟩ : MethodName)) hown (mvT hZ (hw _ (List.mem_of_getElem? (i := 9) rfl))) (mvT hZ (hw _ (List.mem_of_getElem? (i := 10) rfl))) (mvT hZ (hw _ (List.mem_of_getElem? (i := 7) rfl))) (mvT hZ (hw _ (List.mem_of_getElem? (i := 11) rfl))) (by decide) (backOf (W := 0) (rm3 l Z a0 hw [] p2 (128 : Int32) (191 : Int32) h0 n0 Z0) hZ (hw _ (List.mem_of_getElem? (i := 11) rfl)) (hw _ (List.mem_of_getElem? (i := 7) rfl)) (by decide) (by decide)) (g := (mkF m 267 #[.val (.int p0), .val (.int p1), .val (.int p2), .val (.int p3), .val (.int p4), .val (.int (f3 p1 (144 : Int32) (191 : Int32)))] [(.int (191 : Int32)), (.int (128 : Int32)), (.int p2)])) rfl (by rw [hml]; rfl) (argsL := [(.int p2), (.int (128 : Int32)), (.int (191 : Int32))]) (rest := []) (lenOf pd0 rfl) rfl (by show 2 * 0 + _ ≤ _; exact Nat.le_of_eq rfl) (hb hby d2_267) (fun _ _ => ⟨rfl, e1, (by decide : 0 + 0 ≤ _), (by decide : 0 + 0 ≤ _)⟩)
                  dsimp only [Pt.U, Pt.locs, Pt.cells, Pt.slots] at X3 l3 y3 z3 st3 hQ3
                  subst l3 y3 z3
                  obtain ⟨rfl, N3q, e3⟩ := hQ3
                  have N4 := Fr.app N2 N3q
                  refine Goes.step (S' := T3.setTop (mkF m 270 #[.val (.int p0), .val (.int p1), .val (.int p2), .val (.int p3), .val (.int p4), .val (.int (f3 p1 (144 : Int32) (191 : Int32)))] [(.int (f3 p2 (128 : Int32) (191 : Int32)))])) st3 ?_
                  by_cases hc270_9 : (f3 p2 (128 : Int32) (191 : Int32)) = (0 : Int32)
                  · refine Goes.step (S' := T3.setTop (mkF m 320 #[.val (.int p0), .val (.int p1), .val (.int p2), .val (.int p3), .val (.int p4), .val (.int (f3 p1 (144 : Int32) (191 : Int32)))] [])) (fun _ k => XS.ifYes X3.here hx rfl (pc0 := 270) (pc' := 320) rfl (hb hby d2_270) rfl ((if0 _ _).trans (teq hc270_9).1) (by decide) (by decide) k) ?_
                    refine Goes.step (S' := T3.setTop (mkF m 321 #[.val (.int p0), .val (.int p1), .val (.int p2), .val (.int p3), .val (.int p4), .val (.int (f3 p1 (144 : Int32) (191 : Int32)))] [(.int (-1 : Int32))])) (fun _ k => XS.iconst X3.here hx rfl (hb hby d2_320) k) ?_
                    refine Goes.retI X3 hx Bd.notSynchronized Bd.returns (hb hby d2_321) (by decide) (by decide) ?_
                    refine ⟨congrArg (fun z => some (Value.int z)) ?_, N4, e3⟩
                    rw [f2, if_pos hc3_1, if_neg hc12_2, if_pos hc19_3, if_pos hc69_4, if_neg hc190_5, if_pos hc197_6, if_neg hc252_7, if_neg hc257_8, if_pos hc270_9]
                    try rfl
                  · refine Goes.step (S' := T3.setTop (mkF m 273 #[.val (.int p0), .val (.int p1), .val (.int p2), .val (.int p3), .val (.int p4), .val (.int (f3 p1 (144 : Int32) (191 : Int32)))] [])) (fun _ k => XS.ifNo X3.here hx rfl (hb hby d2_270) rfl ((if0 _ _).trans (feq hc270_9).1) k) ?_
                    refine Goes.step (S' := T3.setTop (mkF m 274 #[.val (.int p0), .val (.int p1), .val (.int p2), .val (.int p3), .val (.int p4), .val (.int (f3 p1 (144 : Int32) (191 : Int32)))] [(.int p3)])) (fun _ k => XS.iloadN X3.here hx rfl (hb hby d2_273) rfl  k) ?_
                    refine Goes.step (S' := T3.setTop (mkF m 277 #[.val (.int p0), .val (.int p1), .val (.int p2), .val (.int p3), .val (.int p4), .val (.int (f3 p1 (144 : Int32) (191 : Int32)))] [(.int (128 : Int32)), (.int p3)])) (fun _ k => XS.sipush X3.here hx rfl (hb hby d2_274) k) ?_
                    refine Goes.step (S' := T3.setTop (mkF m 280 #[.val (.int p0), .val (.int p1), .val (.int p2), .val (.int p3), .val (.int p4), .val (.int (f3 p1 (144 : Int32) (191 : Int32)))] [(.int (191 : Int32)), (.int (128 : Int32)), (.int p3)])) (fun _ k => XS.sipush X3.here hx rfl (hb hby d2_277) k) ?_
                    obtain ⟨_, _, ⟨T5, L5, k5, n5⟩, -, X5, ⟨Lc5, hQ5, l5, y5, z5⟩, st5⟩ := Jvm.LawKit.callS X3 hx (y := (⟨"com/example/leaderline/leaderline/Utf8DecodePinLaw", "in", "(III)Z"⟩ : MethodName)) hown (mvT hZ (hw _ (List.mem_of_getElem? (i := 9) rfl))) (mvT hZ (hw _ (List.mem_of_getElem? (i := 10) rfl))) (mvT hZ (hw _ (List.mem_of_getElem? (i := 7) rfl))) (mvT hZ (hw _ (List.mem_of_getElem? (i := 11) rfl))) (by decide) (backOf (W := 0) (rm3 l Z a0 hw [] p3 (128 : Int32) (191 : Int32) h0 n0 Z0) hZ (hw _ (List.mem_of_getElem? (i := 11) rfl)) (hw _ (List.mem_of_getElem? (i := 7) rfl)) (by decide) (by decide)) (g := (mkF m 280 #[.val (.int p0), .val (.int p1), .val (.int p2), .val (.int p3), .val (.int p4), .val (.int (f3 p1 (144 : Int32) (191 : Int32)))] [(.int (191 : Int32)), (.int (128 : Int32)), (.int p3)])) rfl (by rw [hml]; rfl) (argsL := [(.int p3), (.int (128 : Int32)), (.int (191 : Int32))]) (rest := []) (lenOf pd0 rfl) rfl (by show 2 * 0 + _ ≤ _; exact Nat.le_of_eq rfl) (hb hby d2_280) (fun _ _ => ⟨rfl, e3, (by decide : 0 + 0 ≤ _), (by decide : 0 + 0 ≤ _)⟩)
                    dsimp only [Pt.U, Pt.locs, Pt.cells, Pt.slots] at X5 l5 y5 z5 st5 hQ5
                    subst l5 y5 z5
                    obtain ⟨rfl, N5q, e5⟩ := hQ5
                    have N6 := Fr.app N4 N5q
                    refine Goes.step (S' := T5.setTop (mkF m 283 #[.val (.int p0), .val (.int p1), .val (.int p2), .val (.int p3), .val (.int p4), .val (.int (f3 p1 (144 : Int32) (191 : Int32)))] [(.int (f3 p3 (128 : Int32) (191 : Int32)))])) st5 ?_
                    by_cases hc283_10 : (f3 p3 (128 : Int32) (191 : Int32)) = (0 : Int32)
                    · refine Goes.step (S' := T5.setTop (mkF m 320 #[.val (.int p0), .val (.int p1), .val (.int p2), .val (.int p3), .val (.int p4), .val (.int (f3 p1 (144 : Int32) (191 : Int32)))] [])) (fun _ k => XS.ifYes X5.here hx rfl (pc0 := 283) (pc' := 320) rfl (hb hby d2_283) rfl ((if0 _ _).trans (teq hc283_10).1) (by decide) (by decide) k) ?_
                      refine Goes.step (S' := T5.setTop (mkF m 321 #[.val (.int p0), .val (.int p1), .val (.int p2), .val (.int p3), .val (.int p4), .val (.int (f3 p1 (144 : Int32) (191 : Int32)))] [(.int (-1 : Int32))])) (fun _ k => XS.iconst X5.here hx rfl (hb hby d2_320) k) ?_
                      refine Goes.retI X5 hx Bd.notSynchronized Bd.returns (hb hby d2_321) (by decide) (by decide) ?_
                      refine ⟨congrArg (fun z => some (Value.int z)) ?_, N6, e5⟩
                      rw [f2, if_pos hc3_1, if_neg hc12_2, if_pos hc19_3, if_pos hc69_4, if_neg hc190_5, if_pos hc197_6, if_neg hc252_7, if_neg hc257_8, if_neg hc270_9, if_pos hc283_10]
                      try rfl
                    · refine Goes.step (S' := T5.setTop (mkF m 286 #[.val (.int p0), .val (.int p1), .val (.int p2), .val (.int p3), .val (.int p4), .val (.int (f3 p1 (144 : Int32) (191 : Int32)))] [])) (fun _ k => XS.ifNo X5.here hx rfl (hb hby d2_283) rfl ((if0 _ _).trans (feq hc283_10).1) k) ?_
                      refine Goes.step (S' := T5.setTop (mkF m 287 #[.val (.int p0), .val (.int p1), .val (.int p2), .val (.int p3), .val (.int p4), .val (.int (f3 p1 (144 : Int32) (191 : Int32)))] [(.int p0)])) (fun _ k => XS.iloadN X5.here hx rfl (hb hby d2_286) rfl  k) ?_
                      refine Goes.step (S' := T5.setTop (mkF m 290 #[.val (.int p0), .val (.int p1), .val (.int p2), .val (.int p3), .val (.int p4), .val (.int (f3 p1 (144 : Int32) (191 : Int32)))] [(.int (240 : Int32)), (.int p0)])) (fun _ k => XS.sipush X5.here hx rfl (hb hby d2_287) k) ?_
                      refine Goes.step (S' := T5.setTop (mkF m 291 #[.val (.int p0), .val (.int p1), .val (.int p2), .val (.int p3), .val (.int p4), .val (.int (f3 p1 (144 : Int32) (191 : Int32)))] [(.int (p0 - (240 : Int32)))])) (fun _ k => XS.isub X5.here hx rfl (hb hby d2_290) rfl k) ?_
                      refine Goes.step (S' := T5.setTop (mkF m 293 #[.val (.int p0), .val (.int p1), .val (.int p2), .val (.int p3), .val (.int p4), .val (.int (f3 p1 (144 : Int32) (191 : Int32)))] [(.int (262144 : Int32)), (.int (p0 - (240 : Int32)))])) (fun _ k => X5.ldcInt hx hown (mvT hZ (hw _ (List.mem_of_getElem? (i := 12) rfl))) (g := (mkF m 291 #[.val (.int p0), .val (.int p1), .val (.int p2), .val (.int p3), .val (.int p4), .val (.int (f3 p1 (144 : Int32) (191 : Int32)))] [(.int (p0 - (240 : Int32)))])) rfl (hb hby d2_291) _ k) ?_
                      refine Goes.step (S' := T5.setTop (mkF m 294 #[.val (.int p0), .val (.int p1), .val (.int p2), .val (.int p3), .val (.int p4), .val (.int (f3 p1 (144 : Int32) (191 : Int32)))] [(.int ((p0 - (240 : Int32)) * (262144 : Int32)))])) (fun _ k => XS.imul X5.here hx rfl (hb hby d2_293) rfl k) ?_
                      refine Goes.step (S' := T5.setTop (mkF m 295 #[.val (.int p0), .val (.int p1), .val (.int p2), .val (.int p3), .val (.int p4), .val (.int (f3 p1 (144 : Int32) (191 : Int32)))] [(.int p1), (.int ((p0 - (240 : Int32)) * (262144 : Int32)))])) (fun _ k => XS.iloadN X5.here hx rfl (hb hby d2_294) rfl  k) ?_
                      refine Goes.step (S' := T5.setTop (mkF m 298 #[.val (.int p0), .val (.int p1), .val (.int p2), .val (.int p3), .val (.int p4), .val (.int (f3 p1 (144 : Int32) (191 : Int32)))] [(.int (128 : Int32)), (.int p1), (.int ((p0 - (240 : Int32)) * (262144 : Int32)))])) (fun _ k => XS.sipush X5.here hx rfl (hb hby d2_295) k) ?_
                      refine Goes.step (S' := T5.setTop (mkF m 299 #[.val (.int p0), .val (.int p1), .val (.int p2), .val (.int p3), .val (.int p4), .val (.int (f3 p1 (144 : Int32) (191 : Int32)))] [(.int (p1 - (128 : Int32))), (.int ((p0 - (240 : Int32)) * (262144 : Int32)))])) (fun _ k => XS.isub X5.here hx rfl (hb hby d2_298) rfl k) ?_
                      refine Goes.step (S' := T5.setTop (mkF m 302 #[.val (.int p0), .val (.int p1), .val (.int p2), .val (.int p3), .val (.int p4), .val (.int (f3 p1 (144 : Int32) (191 : Int32)))] [(.int (4096 : Int32)), (.int (p1 - (128 : Int32))), (.int ((p0 - (240 : Int32)) * (262144 : Int32)))])) (fun _ k => XS.sipush X5.here hx rfl (hb hby d2_299) k) ?_
                      refine Goes.step (S' := T5.setTop (mkF m 303 #[.val (.int p0), .val (.int p1), .val (.int p2), .val (.int p3), .val (.int p4), .val (.int (f3 p1 (144 : Int32) (191 : Int32)))] [(.int ((p1 - (128 : Int32)) * (4096 : Int32))), (.int ((p0 - (240 : Int32)) * (262144 : Int32)))])) (fun _ k => XS.imul X5.here hx rfl (hb hby d2_302) rfl k) ?_
                      refine Goes.step (S' := T5.setTop (mkF m 304 #[.val (.int p0), .val (.int p1), .val (.int p2), .val (.int p3), .val (.int p4), .val (.int (f3 p1 (144 : Int32) (191 : Int32)))] [(.int (((p0 - (240 : Int32)) * (262144 : Int32)) + ((p1 - (128 : Int32)) * (4096 : Int32))))])) (fun _ k => XS.iadd X5.here hx rfl (hb hby d2_303) rfl k) ?_
                      refine Goes.step (S' := T5.setTop (mkF m 305 #[.val (.int p0), .val (.int p1), .val (.int p2), .val (.int p3), .val (.int p4), .val (.int (f3 p1 (144 : Int32) (191 : Int32)))] [(.int p2), (.int (((p0 - (240 : Int32)) * (262144 : Int32)) + ((p1 - (128 : Int32)) * (4096 : Int32))))])) (fun _ k => XS.iloadN X5.here hx rfl (hb hby d2_304) rfl  k) ?_
                      refine Goes.step (S' := T5.setTop (mkF m 308 #[.val (.int p0), .val (.int p1), .val (.int p2), .val (.int p3), .val (.int p4), .val (.int (f3 p1 (144 : Int32) (191 : Int32)))] [(.int (128 : Int32)), (.int p2), (.int (((p0 - (240 : Int32)) * (262144 : Int32)) + ((p1 - (128 : Int32)) * (4096 : Int32))))])) (fun _ k => XS.sipush X5.here hx rfl (hb hby d2_305) k) ?_
                      refine Goes.step (S' := T5.setTop (mkF m 309 #[.val (.int p0), .val (.int p1), .val (.int p2), .val (.int p3), .val (.int p4), .val (.int (f3 p1 (144 : Int32) (191 : Int32)))] [(.int (p2 - (128 : Int32))), (.int (((p0 - (240 : Int32)) * (262144 : Int32)) + ((p1 - (128 : Int32)) * (4096 : Int32))))])) (fun _ k => XS.isub X5.here hx rfl (hb hby d2_308) rfl k) ?_
                      refine Goes.step (S' := T5.setTop (mkF m 311 #[.val (.int p0), .val (.int p1), .val (.int p2), .val (.int p3), .val (.int p4), .val (.int (f3 p1 (144 : Int32) (191 : Int32)))] [(.int (64 : Int32)), (.int (p2 - (128 : Int32))), (.int (((p0 - (240 : Int32)) * (262144 : Int32)) + ((p1 - (128 : Int32)) * (4096 : Int32))))])) (fun _ k => XS.bipush X5.here hx rfl (hb hby d2_309) k) ?_
                      refine Goes.step (S' := T5.setTop (mkF m 312 #[.val (.int p0), .val (.int p1), .val (.int p2), .val (.int p3), .val (.int p4), .val (.int (f3 p1 (144 : Int32) (191 : Int32)))] [(.int ((p2 - (128 : Int32)) * (64 : Int32))), (.int (((p0 - (240 : Int32)) * (262144 : Int32)) + ((p1 - (128 : Int32)) * (4096 : Int32))))])) (fun _ k => XS.imul X5.here hx rfl (hb hby d2_311) rfl k) ?_
                      refine Goes.step (S' := T5.setTop (mkF m 313 #[.val (.int p0), .val (.int p1), .val (.int p2), .val (.int p3), .val (.int p4), .val (.int (f3 p1 (144 : Int32) (191 : Int32)))] [(.int ((((p0 - (240 : Int32)) * (262144 : Int32)) + ((p1 - (128 : Int32)) * (4096 : Int32))) + ((p2 - (128 : Int32)) * (64 : Int32))))])) (fun _ k => XS.iadd X5.here hx rfl (hb hby d2_312) rfl k) ?_
                      refine Goes.step (S' := T5.setTop (mkF m 314 #[.val (.int p0), .val (.int p1), .val (.int p2), .val (.int p3), .val (.int p4), .val (.int (f3 p1 (144 : Int32) (191 : Int32)))] [(.int p3), (.int ((((p0 - (240 : Int32)) * (262144 : Int32)) + ((p1 - (128 : Int32)) * (4096 : Int32))) + ((p2 - (128 : Int32)) * (64 : Int32))))])) (fun _ k => XS.iloadN X5.here hx rfl (hb hby d2_313) rfl  k) ?_
                      refine Goes.step (S' := T5.setTop (mkF m 317 #[.val (.int p0), .val (.int p1), .val (.int p2), .val (.int p3), .val (.int p4), .val (.int (f3 p1 (144 : Int32) (191 : Int32)))] [(.int (128 : Int32)), (.int p3), (.int ((((p0 - (240 : Int32)) * (262144 : Int32)) + ((p1 - (128 : Int32)) * (4096 : Int32))) + ((p2 - (128 : Int32)) * (64 : Int32))))])) (fun _ k => XS.sipush X5.here hx rfl (hb hby d2_314) k) ?_
                      refine Goes.step (S' := T5.setTop (mkF m 318 #[.val (.int p0), .val (.int p1), .val (.int p2), .val (.int p3), .val (.int p4), .val (.int (f3 p1 (144 : Int32) (191 : Int32)))] [(.int (p3 - (128 : Int32))), (.int ((((p0 - (240 : Int32)) * (262144 : Int32)) + ((p1 - (128 : Int32)) * (4096 : Int32))) + ((p2 - (128 : Int32)) * (64 : Int32))))])) (fun _ k => XS.isub X5.here hx rfl (hb hby d2_317) rfl k) ?_
                      refine Goes.step (S' := T5.setTop (mkF m 319 #[.val (.int p0), .val (.int p1), .val (.int p2), .val (.int p3), .val (.int p4), .val (.int (f3 p1 (144 : Int32) (191 : Int32)))] [(.int (((((p0 - (240 : Int32)) * (262144 : Int32)) + ((p1 - (128 : Int32)) * (4096 : Int32))) + ((p2 - (128 : Int32)) * (64 : Int32))) + (p3 - (128 : Int32))))])) (fun _ k => XS.iadd X5.here hx rfl (hb hby d2_318) rfl k) ?_
                      refine Goes.retI X5 hx Bd.notSynchronized Bd.returns (hb hby d2_319) (by decide) (by decide) ?_
                      refine ⟨congrArg (fun z => some (Value.int z)) ?_, N6, e5⟩
                      rw [f2, if_pos hc3_1, if_neg hc12_2, if_pos hc19_3, if_pos hc69_4, if_neg hc190_5, if_pos hc197_6, if_neg hc252_7, if_neg hc257_8, if_neg hc270_9, if_neg hc283_10]
                      try rfl
            · refine Goes.step (S' := s₁.setTop (mkF m 215 #[.val (.int p0), .val (.int p1), .val (.int p2), .val (.int p3), .val (.int p4), .unset] [])) (fun _ k => XS.icmpYes X0.here hx rfl (pc0 := 197) (pc' := 215) rfl (hb hby d2_197) rfl (feq hc197_6).2 (by decide) (by decide) k) ?_
              refine Goes.step (S' := s₁.setTop (mkF m 216 #[.val (.int p0), .val (.int p1), .val (.int p2), .val (.int p3), .val (.int p4), .unset] [(.int p0)])) (fun _ k => XS.iloadN X0.here hx rfl (hb hby d2_215) rfl  k) ?_
              refine Goes.step (S' := s₁.setTop (mkF m 219 #[.val (.int p0), .val (.int p1), .val (.int p2), .val (.int p3), .val (.int p4), .unset] [(.int (244 : Int32)), (.int p0)])) (fun _ k => XS.sipush X0.here hx rfl (hb hby d2_216) k) ?_
              by_cases hc219_11 : p0 = (244 : Int32)
              · refine Goes.step (S' := s₁.setTop (mkF m 222 #[.val (.int p0), .val (.int p1), .val (.int p2), .val (.int p3), .val (.int p4), .unset] [])) (fun _ k => XS.icmpNo X0.here hx rfl (hb hby d2_219) rfl (teq hc219_11).2 k) ?_
                refine Goes.step (S' := s₁.setTop (mkF m 223 #[.val (.int p0), .val (.int p1), .val (.int p2), .val (.int p3), .val (.int p4), .unset] [(.int p1)])) (fun _ k => XS.iloadN X0.here hx rfl (hb hby d2_222) rfl  k) ?_
                refine Goes.step (S' := s₁.setTop (mkF m 226 #[.val (.int p0), .val (.int p1), .val (.int p2), .val (.int p3), .val (.int p4), .unset] [(.int (128 : Int32)), (.int p1)])) (fun _ k => XS.sipush X0.here hx rfl (hb hby d2_223) k) ?_
                refine Goes.step (S' := s₁.setTop (mkF m 229 #[.val (.int p0), .val (.int p1), .val (.int p2), .val (.int p3), .val (.int p4), .unset] [(.int (143 : Int32)), (.int (128 : Int32)), (.int p1)])) (fun _ k => XS.sipush X0.here hx rfl (hb hby d2_226) k) ?_
                obtain ⟨_, _, ⟨T7, L7, k7, n7⟩, -, X7, ⟨Lc7, hQ7, l7, y7, z7⟩, st7⟩ := Jvm.LawKit.callS X0 hx (y := (⟨"com/example/leaderline/leaderline/Utf8DecodePinLaw", "in", "(III)Z"⟩ : MethodName)) hown (mvT hZ (hw _ (List.mem_of_getElem? (i := 9) rfl))) (mvT hZ (hw _ (List.mem_of_getElem? (i := 10) rfl))) (mvT hZ (hw _ (List.mem_of_getElem? (i := 7) rfl))) (mvT hZ (hw _ (List.mem_of_getElem? (i := 11) rfl))) (by decide) (backOf (W := 0) (rm3 l Z a0 hw [] p1 (128 : Int32) (143 : Int32) h0 n0 Z0) hZ (hw _ (List.mem_of_getElem? (i := 11) rfl)) (hw _ (List.mem_of_getElem? (i := 7) rfl)) (by decide) (by decide)) (g := (mkF m 229 #[.val (.int p0), .val (.int p1), .val (.int p2), .val (.int p3), .val (.int p4), .unset] [(.int (143 : Int32)), (.int (128 : Int32)), (.int p1)])) rfl (by rw [hml]; rfl) (argsL := [(.int p1), (.int (128 : Int32)), (.int (143 : Int32))]) (rest := []) (lenOf pd0 rfl) rfl (by show 2 * 0 + _ ≤ _; exact Nat.le_of_eq rfl) (hb hby d2_229) (fun _ _ => ⟨rfl, e0, (by decide : 0 + 0 ≤ _), (by decide : 0 + 0 ≤ _)⟩)
                dsimp only [Pt.U, Pt.locs, Pt.cells, Pt.slots] at X7 l7 y7 z7 st7 hQ7
                subst l7 y7 z7
                obtain ⟨rfl, N7q, e7⟩ := hQ7
                have N8 := Fr.app N0 N7q
                refine Goes.step (S' := T7.setTop (mkF m 232 #[.val (.int p0), .val (.int p1), .val (.int p2), .val (.int p3), .val (.int p4), .unset] [(.int (f3 p1 (128 : Int32) (143 : Int32)))])) st7 ?_
                refine Goes.step (S' := T7.setTop (mkF m 234 #[.val (.int p0), .val (.int p1), .val (.int p2), .val (.int p3), .val (.int p4), .val (.int (f3 p1 (128 : Int32) (143 : Int32)))] [])) (fun _ k => XS.istore X7.here hx rfl (hb hby d2_232) rfl (l' := #[.val (.int p0), .val (.int p1), .val (.int p2), .val (.int p3), .val (.int p4), .val (.int (f3 p1 (128 : Int32) (143 : Int32)))]) rfl k) ?_
                refine Goes.step (S' := T7.setTop (mkF m 249 #[.val (.int p0), .val (.int p1), .val (.int p2), .val (.int p3), .val (.int p4), .val (.int (f3 p1 (128 : Int32) (143 : Int32)))] [])) (fun _ k => XS.goto X7.here hx rfl (pc0 := 234) (pc' := 249) rfl (hb hby d2_234) (by decide) (by decide) k) ?_
                refine Goes.step (S' := T7.setTop (mkF m 251 #[.val (.int p0), .val (.int p1), .val (.int p2), .val (.int p3), .val (.int p4), .val (.int (f3 p1 (128 : Int32) (143 : Int32)))] [(.int p4)])) (fun _ k => XS.iload X7.here hx rfl (hb hby d2_249) rfl  k) ?_
                refine Goes.step (S' := T7.setTop (mkF m 252 #[.val (.int p0), .val (.int p1), .val (.int p2), .val (.int p3), .val (.int p4), .val (.int (f3 p1 (128 : Int32) (143 : Int32)))] [(.int (4 : Int32)), (.int p4)])) (fun _ k => XS.iconst X7.here hx rfl (hb hby d2_251) k) ?_
                by_cases hc252_12 : p4 < (4 : Int32)
                · refine Goes.step (S' := T7.setTop (mkF m 320 #[.val (.int p0), .val (.int p1), .val (.int p2), .val (.int p3), .val (.int p4), .val (.int (f3 p1 (128 : Int32) (143 : Int32)))] [])) (fun _ k => XS.icmpYes X7.here hx rfl (pc0 := 252) (pc' := 320) rfl (hb hby d2_252) rfl (tlt hc252_12).1 (by decide) (by decide) k) ?_
                  refine Goes.step (S' := T7.setTop (mkF m 321 #[.val (.int p0), .val (.int p1), .val (.int p2), .val (.int p3), .val (.int p4), .val (.int (f3 p1 (128 : Int32) (143 : Int32)))] [(.int (-1 : Int32))])) (fun _ k => XS.iconst X7.here hx rfl (hb hby d2_320) k) ?_
                  refine Goes.retI X7 hx Bd.notSynchronized Bd.returns (hb hby d2_321) (by decide) (by decide) ?_
                  refine ⟨congrArg (fun z => some (Value.int z)) ?_, N8, e7⟩
                  rw [f2, if_pos hc3_1, if_neg hc12_2, if_pos hc19_3, if_pos hc69_4, if_neg hc190_5, if_neg hc197_6, if_pos hc219_11, if_pos hc252_12]
                  try rfl
                · refine Goes.step (S' := T7.setTop (mkF m 255 #[.val (.int p0), .val (.int p1), .val (.int p2), .val (.int p3), .val (.int p4), .val (.int (f3 p1 (128 : Int32) (143 : Int32)))] [])) (fun _ k => XS.icmpNo X7.here hx rfl (hb hby d2_252) rfl (flt hc252_12).1 k) ?_
                  refine Goes.step (S' := T7.setTop (mkF m 257 #[.val (.int p0), .val (.int p1), .val (.int p2), .val (.int p3), .val (.int p4), .val (.int (f3 p1 (128 : Int32) (143 : Int32)))] [(.int (f3 p1 (128 : Int32) (143 : Int32)))])) (fun _ k => XS.iload X7.here hx rfl (hb hby d2_255) rfl  k) ?_
                  by_cases hc257_13 : (f3 p1 (128 : Int32) (143 : Int32)) = (0 : Int32)
                  · refine Goes.step (S' := T7.setTop (mkF m 320 #[.val (.int p0), .val (.int p1), .val (.int p2), .val (.int p3), .val (.int p4), .val (.int (f3 p1 (128 : Int32) (143 : Int32)))] [])) (fun _ k => XS.ifYes X7.here hx rfl (pc0 := 257) (pc' := 320) rfl (hb hby d2_257) rfl ((if0 _ _).trans (teq hc257_13).1) (by decide) (by decide) k) ?_
                    refine Goes.step (S' := T7.setTop (mkF m 321 #[.val (.int p0), .val (.int p1), .val (.int p2), .val (.int p3), .val (.int p4), .val (.int (f3 p1 (128 : Int32) (143 : Int32)))] [(.int (-1 : Int32))])) (fun _ k => XS.iconst X7.here hx rfl (hb hby d2_320) k) ?_
                    refine Goes.retI X7 hx Bd.notSynchronized Bd.returns (hb hby d2_321) (by decide) (by decide) ?_
                    refine ⟨congrArg (fun z => some (Value.int z)) ?_, N8, e7⟩
                    rw [f2, if_pos hc3_1, if_neg hc12_2, if_pos hc19_3, if_pos hc69_4, if_neg hc190_5, if_neg hc197_6, if_pos hc219_11, if_neg hc252_12, if_pos hc257_13]
                    try rfl
                  · refine Goes.step (S' := T7.setTop (mkF m 260 #[.val (.int p0), .val (.int p1), .val (.int p2), .val (.int p3), .val (.int p4), .val (.int (f3 p1 (128 : Int32) (143 : Int32)))] [])) (fun _ k => XS.ifNo X7.here hx rfl (hb hby d2_257) rfl ((if0 _ _).trans (feq hc257_13).1) k) ?_
                    refine Goes.step (S' := T7.setTop (mkF m 261 #[.val (.int p0), .val (.int p1), .val (.int p2), .val (.int p3), .val (.int p4), .val (.int (f3 p1 (128 : Int32) (143 : Int32)))] [(.int p2)])) (fun _ k => XS.iloadN X7.here hx rfl (hb hby d2_260) rfl  k) ?_
                    refine Goes.step (S' := T7.setTop (mkF m 264 #[.val (.int p0), .val (.int p1), .val (.int p2), .val (.int p3), .val (.int p4), .val (.int (f3 p1 (128 : Int32) (143 : Int32)))] [(.int (128 : Int32)), (.int p2)])) (fun _ k => XS.sipush X7.here hx rfl (hb hby d2_261) k) ?_
                    refine Goes.step (S' := T7.setTop (mkF m 267 #[.val (.int p0), .val (.int p1), .val (.int p2), .val (.int p3), .val (.int p4), .val (.int (f3 p1 (128 : Int32) (143 : Int32)))] [(.int (191 : Int32)), (.int (128 : Int32)), (.int p2)])) (fun _ k => XS.sipush X7.here hx rfl (hb hby d2_264) k) ?_
                    obtain ⟨_, _, ⟨T9, L9, k9, n9⟩, -, X9, ⟨Lc9, hQ9, l9, y9, z9⟩, st9⟩ := Jvm.LawKit.callS X7 hx (y := (⟨"com/example/leaderline/leaderline/Utf8DecodePinLaw", "in", "(III)Z"⟩ : MethodName)) hown (mvT hZ (hw _ (List.mem_of_getElem? (i := 9) rfl))) (mvT hZ (hw _ (List.mem_of_getElem? (i := 10) rfl))) (mvT hZ (hw _ (List.mem_of_getElem? (i := 7) rfl))) (mvT hZ (hw _ (List.mem_of_getElem? (i := 11) rfl))) (by decide) (backOf (W := 0) (rm3 l Z a0 hw [] p2 (128 : Int32) (191 : Int32) h0 n0 Z0) hZ (hw _ (List.mem_of_getElem? (i := 11) rfl)) (hw _ (List.mem_of_getElem? (i := 7) rfl)) (by decide) (by decide)) (g := (mkF m 267 #[.val (.int p0), .val (.int p1), .val (.int p2), .val (.int p3), .val (.int p4), .val (.int (f3 p1 (128 : Int32) (143 : Int32)))] [(.int (191 : Int32)), (.int (128 : Int32)), (.int p2)])) rfl (by rw [hml]; rfl) (argsL := [(.int p2), (.int (128 : Int32)), (.int (191 : Int32))]) (rest := []) (lenOf pd0 rfl) rfl (by show 2 * 0 + _ ≤ _; exact Nat.le_of_eq rfl) (hb hby d2_267) (fun _ _ => ⟨rfl, e7, (by decide : 0 + 0 ≤ _), (by decide : 0 + 0 ≤ _)⟩)
                    dsimp only [Pt.U, Pt.locs, Pt.cells, Pt.slots] at X9 l9 y9 z9 st9 hQ9
                    subst l9 y9 z9
                    obtain ⟨rfl, N9q, e9⟩ := hQ9
                    have N10 := Fr.app N8 N9q
                    refine Goes.step (S' := T9.setTop (mkF m 270 #[.val (.int p0), .val (.int p1), .val (.int p2), .val (.int p3), .val (.int p4), .val (.int (f3 p1 (128 : Int32) (143 : Int32)))] [(.int (f3 p2 (128 : Int32) (191 : Int32)))])) st9 ?_
                    by_cases hc270_14 : (f3 p2 (128 : Int32) (191 : Int32)) = (0 : Int32)
                    · refine Goes.step (S' := T9.setTop (mkF m 320 #[.val (.int p0), .val (.int p1), .val (.int p2), .val (.int p3), .val (.int p4), .val (.int (f3 p1 (128 : Int32) (143 : Int32)))] [])) (fun _ k => XS.ifYes X9.here hx rfl (pc0 := 270) (pc' := 320) rfl (hb hby d2_270) rfl ((if0 _ _).trans (teq hc270_14).1) (by decide) (by decide) k) ?_
                      refine Goes.step (S' := T9.setTop (mkF m 321 #[.val (.int p0), .val (.int p1), .val (.int p2), .val (.int p3), .val (.int p4), .val (.int (f3 p1 (128 : Int32) (143 : Int32)))] [(.int (-1 : Int32))])) (fun _ k => XS.iconst X9.here hx rfl (hb hby d2_320) k) ?_
                      refine Goes.retI X9 hx Bd.notSynchronized Bd.returns (hb hby d2_321) (by decide) (by decide) ?_
                      refine ⟨congrArg (fun z => some (Value.int z)) ?_, N10, e9⟩
                      rw [f2, if_pos hc3_1, if_neg hc12_2, if_pos hc19_3, if_pos hc69_4, if_neg hc190_5, if_neg hc197_6, if_pos hc219_11, if_neg hc252_12, if_neg hc257_13, if_pos hc270_14]
                      try rfl
                    · refine Goes.step (S' := T9.setTop (mkF m 273 #[.val (.int p0), .val (.int p1), .val (.int p2), .val (.int p3), .val (.int p4), .val (.int (f3 p1 (128 : Int32) (143 : Int32)))] [])) (fun _ k => XS.ifNo X9.here hx rfl (hb hby d2_270) rfl ((if0 _ _).trans (feq hc270_14).1) k) ?_
                      refine Goes.step (S' := T9.setTop (mkF m 274 #[.val (.int p0), .val (.int p1), .val (.int p2), .val (.int p3), .val (.int p4), .val (.int (f3 p1 (128 : Int32) (143 : Int32)))] [(.int p3)])) (fun _ k => XS.iloadN X9.here hx rfl (hb hby d2_273) rfl  k) ?_
                      refine Goes.step (S' := T9.setTop (mkF m 277 #[.val (.int p0), .val (.int p1), .val (.int p2), .val (.int p3), .val (.int p4), .val (.int (f3 p1 (128 : Int32) (143 : Int32)))] [(.int (128 : Int32)), (.int p3)])) (fun _ k => XS.sipush X9.here hx rfl (hb hby d2_274) k) ?_
                      refine Goes.step (S' := T9.setTop (mkF m 280 #[.val (.int p0), .val (.int p1), .val (.int p2), .val (.int p3), .val (.int p4), .val (.int (f3 p1 (128 : Int32) (143 : Int32)))] [(.int (191 : Int32)), (.int (128 : Int32)), (.int p3)])) (fun _ k => XS.sipush X9.here hx rfl (hb hby d2_277) k) ?_
                      obtain ⟨_, _, ⟨T11, L11, k11, n11⟩, -, X11, ⟨Lc11, hQ11, l11, y11, z11⟩, st11⟩ := Jvm.LawKit.callS X9 hx (y := (⟨"com/example/leaderline/leaderline/Utf8DecodePinLaw", "in", "(III)Z"⟩ : MethodName)) hown (mvT hZ (hw _ (List.mem_of_getElem? (i := 9) rfl))) (mvT hZ (hw _ (List.mem_of_getElem? (i := 10) rfl))) (mvT hZ (hw _ (List.mem_of_getElem? (i := 7) rfl))) (mvT hZ (hw _ (List.mem_of_getElem? (i := 11) rfl))) (by decide) (backOf (W := 0) (rm3 l Z a0 hw [] p3 (128 : Int32) (191 : Int32) h0 n0 Z0) hZ (hw _ (List.mem_of_getElem? (i := 11) rfl)) (hw _ (List.mem_of_getElem? (i := 7) rfl)) (by decide) (by decide)) (g := (mkF m 280 #[.val (.int p0), .val (.int p1), .val (.int p2), .val (.int p3), .val (.int p4), .val (.int (f3 p1 (128 : Int32) (143 : Int32)))] [(.int (191 : Int32)), (.int (128 : Int32)), (.int p3)])) rfl (by rw [hml]; rfl) (argsL := [(.int p3), (.int (128 : Int32)), (.int (191 : Int32))]) (rest := []) (lenOf pd0 rfl) rfl (by show 2 * 0 + _ ≤ _; exact Nat.le_of_eq rfl) (hb hby d2_280) (fun _ _ => ⟨rfl, e9, (by decide : 0 + 0 ≤ _), (by decide : 0 + 0 ≤ _)⟩)
                      dsimp only [Pt.U, Pt.locs, Pt.cells, Pt.slots] at X11 l11 y11 z11 st11 hQ11
                      subst l11 y11 z11
                      obtain ⟨rfl, N11q, e11⟩ := hQ11
                      have N12 := Fr.app N10 N11q
                      refine Goes.step (S' := T11.setTop (mkF m 283 #[.val (.int p0), .val (.int p1), .val (.int p2), .val (.int p3), .val (.int p4), .val (.int (f3 p1 (128 : Int32) (143 : Int32)))] [(.int (f3 p3 (128 : Int32) (191 : Int32)))])) st11 ?_
                      by_cases hc283_15 : (f3 p3 (128 : Int32) (191 : Int32)) = (0 : Int32)
                      · refine Goes.step (S' := T11.setTop (mkF m 320 #[.val (.int p0), .val (.int p1), .val (.int p2), .val (.int p3), .val (.int p4), .val (.int (f3 p1 (128 : Int32) (143 : Int32)))] [])) (fun _ k => XS.ifYes X11.here hx rfl (pc0 := 283) (pc' := 320) rfl (hb hby d2_283) rfl ((if0 _ _).trans (teq hc283_15).1) (by decide) (by decide) k) ?_
                        refine Goes.step (S' := T11.setTop (mkF m 321 #[.val (.int p0), .val (.int p1), .val (.int p2), .val (.int p3), .val (.int p4), .val (.int (f3 p1 (128 : Int32) (143 : Int32)))] [(.int (-1 : Int32))])) (fun _ k => XS.iconst X11.here hx rfl (hb hby d2_320) k) ?_
                        refine Goes.retI X11 hx Bd.notSynchronized Bd.returns (hb hby d2_321) (by decide) (by decide) ?_
                        refine ⟨congrArg (fun z => some (Value.int z)) ?_, N12, e11⟩
                        rw [f2, if_pos hc3_1, if_neg hc12_2, if_pos hc19_3, if_pos hc69_4, if_neg hc190_5, if_neg hc197_6, if_pos hc219_11, if_neg hc252_12, if_neg hc257_13, if_neg hc270_14, if_pos hc283_15]
                        try rfl
                      · refine Goes.step (S' := T11.setTop (mkF m 286 #[.val (.int p0), .val (.int p1), .val (.int p2), .val (.int p3), .val (.int p4), .val (.int (f3 p1 (128 : Int32) (143 : Int32)))] [])) (fun _ k => XS.ifNo X11.here hx rfl (hb hby d2_283) rfl ((if0 _ _).trans (feq hc283_15).1) k) ?_
                        refine Goes.step (S' := T11.setTop (mkF m 287 #[.val (.int p0), .val (.int p1), .val (.int p2), .val (.int p3), .val (.int p4), .val (.int (f3 p1 (128 : Int32) (143 : Int32)))] [(.int p0)])) (fun _ k => XS.iloadN X11.here hx rfl (hb hby d2_286) rfl  k) ?_
                        refine Goes.step (S' := T11.setTop (mkF m 290 #[.val (.int p0), .val (.int p1), .val (.int p2), .val (.int p3), .val (.int p4), .val (.int (f3 p1 (128 : Int32) (143 : Int32)))] [(.int (240 : Int32)), (.int p0)])) (fun _ k => XS.sipush X11.here hx rfl (hb hby d2_287) k) ?_
                        refine Goes.step (S' := T11.setTop (mkF m 291 #[.val (.int p0), .val (.int p1), .val (.int p2), .val (.int p3), .val (.int p4), .val (.int (f3 p1 (128 : Int32) (143 : Int32)))] [(.int (p0 - (240 : Int32)))])) (fun _ k => XS.isub X11.here hx rfl (hb hby d2_290) rfl k) ?_
                        refine Goes.step (S' := T11.setTop (mkF m 293 #[.val (.int p0), .val (.int p1), .val (.int p2), .val (.int p3), .val (.int p4), .val (.int (f3 p1 (128 : Int32) (143 : Int32)))] [(.int (262144 : Int32)), (.int (p0 - (240 : Int32)))])) (fun _ k => X11.ldcInt hx hown (mvT hZ (hw _ (List.mem_of_getElem? (i := 12) rfl))) (g := (mkF m 291 #[.val (.int p0), .val (.int p1), .val (.int p2), .val (.int p3), .val (.int p4), .val (.int (f3 p1 (128 : Int32) (143 : Int32)))] [(.int (p0 - (240 : Int32)))])) rfl (hb hby d2_291) _ k) ?_
                        refine Goes.step (S' := T11.setTop (mkF m 294 #[.val (.int p0), .val (.int p1), .val (.int p2), .val (.int p3), .val (.int p4), .val (.int (f3 p1 (128 : Int32) (143 : Int32)))] [(.int ((p0 - (240 : Int32)) * (262144 : Int32)))])) (fun _ k => XS.imul X11.here hx rfl (hb hby d2_293) rfl k) ?_
                        refine Goes.step (S' := T11.setTop (mkF m 295 #[.val (.int p0), .val (.int p1), .val (.int p2), .val (.int p3), .val (.int p4), .val (.int (f3 p1 (128 : Int32) (143 : Int32)))] [(.int p1), (.int ((p0 - (240 : Int32)) * (262144 : Int32)))])) (fun _ k => XS.iloadN X11.here hx rfl (hb hby d2_294) rfl  k) ?_
                        refine Goes.step (S' := T11.setTop (mkF m 298 #[.val (.int p0), .val (.int p1), .val (.int p2), .val (.int p3), .val (.int p4), .val (.int (f3 p1 (128 : Int32) (143 : Int32)))] [(.int (128 : Int32)), (.int p1), (.int ((p0 - (240 : Int32)) * (262144 : Int32)))])) (fun _ k => XS.sipush X11.here hx rfl (hb hby d2_295) k) ?_
                        refine Goes.step (S' := T11.setTop (mkF m 299 #[.val (.int p0), .val (.int p1), .val (.int p2), .val (.int p3), .val (.int p4), .val (.int (f3 p1 (128 : Int32) (143 : Int32)))] [(.int (p1 - (128 : Int32))), (.int ((p0 - (240 : Int32)) * (262144 : Int32)))])) (fun _ k => XS.isub X11.here hx rfl (hb hby d2_298) rfl k) ?_
                        refine Goes.step (S' := T11.setTop (mkF m 302 #[.val (.int p0), .val (.int p1), .val (.int p2), .val (.int p3), .val (.int p4), .val (.int (f3 p1 (128 : Int32) (143 : Int32)))] [(.int (4096 : Int32)), (.int (p1 - (128 : Int32))), (.int ((p0 - (240 : Int32)) * (262144 : Int32)))])) (fun _ k => XS.sipush X11.here hx rfl (hb hby d2_299) k) ?_
                        refine Goes.step (S' := T11.setTop (mkF m 303 #[.val (.int p0), .val (.int p1), .val (.int p2), .val (.int p3), .val (.int p4), .val (.int (f3 p1 (128 : Int32) (143 : Int32)))] [(.int ((p1 - (128 : Int32)) * (4096 : Int32))), (.int ((p0 - (240 : Int32)) * (262144 : Int32)))])) (fun _ k => XS.imul X11.here hx rfl (hb hby d2_302) rfl k) ?_
                        refine Goes.step (S' := T11.setTop (mkF m 304 #[.val (.int p0), .val (.int p1), .val (.int p2), .val (.int p3), .val (.int p4), .val (.int (f3 p1 (128 : Int32) (143 : Int32)))] [(.int (((p0 - (240 : Int32)) * (262144 : Int32)) + ((p1 - (128 : Int32)) * (4096 : Int32))))])) (fun _ k => XS.iadd X11.here hx rfl (hb hby d2_303) rfl k) ?_
                        refine Goes.step (S' := T11.setTop (mkF m 305 #[.val (.int p0), .val (.int p1), .val (.int p2), .val (.int p3), .val (.int p4), .val (.int (f3 p1 (128 : Int32) (143 : Int32)))] [(.int p2), (.int (((p0 - (240 : Int32)) * (262144 : Int32)) + ((p1 - (128 : Int32)) * (4096 : Int32))))])) (fun _ k => XS.iloadN X11.here hx rfl (hb hby d2_304) rfl  k) ?_
                        refine Goes.step (S' := T11.setTop (mkF m 308 #[.val (.int p0), .val (.int p1), .val (.int p2), .val (.int p3), .val (.int p4), .val (.int (f3 p1 (128 : Int32) (143 : Int32)))] [(.int (128 : Int32)), (.int p2), (.int (((p0 - (240 : Int32)) * (262144 : Int32)) + ((p1 - (128 : Int32)) * (4096 : Int32))))])) (fun _ k => XS.sipush X11.here hx rfl (hb hby d2_305) k) ?_
                        refine Goes.step (S' := T11.setTop (mkF m 309 #[.val (.int p0), .val (.int p1), .val (.int p2), .val (.int p3), .val (.int p4), .val (.int (f3 p1 (128 : Int32) (143 : Int32)))] [(.int (p2 - (128 : Int32))), (.int (((p0 - (240 : Int32)) * (262144 : Int32)) + ((p1 - (128 : Int32)) * (4096 : Int32))))])) (fun _ k => XS.isub X11.here hx rfl (hb hby d2_308) rfl k) ?_
                        refine Goes.step (S' := T11.setTop (mkF m 311 #[.val (.int p0), .val (.int p1), .val (.int p2), .val (.int p3), .val (.int p4), .val (.int (f3 p1 (128 : Int32) (143 : Int32)))] [(.int (64 : Int32)), (.int (p2 - (128 : Int32))), (.int (((p0 - (240 : Int32)) * (262144 : Int32)) + ((p1 - (128 : Int32)) * (4096 : Int32))))])) (fun _ k => XS.bipush X11.here hx rfl (hb hby d2_309) k) ?_
                        refine Goes.step (S' := T11.setTop (mkF m 312 #[.val (.int p0), .val (.int p1), .val (.int p2), .val (.int p3), .val (.int p4), .val (.int (f3 p1 (128 : Int32) (143 : Int32)))] [(.int ((p2 - (128 : Int32)) * (64 : Int32))), (.int (((p0 - (240 : Int32)) * (262144 : Int32)) + ((p1 - (128 : Int32)) * (4096 : Int32))))])) (fun _ k => XS.imul X11.here hx rfl (hb hby d2_311) rfl k) ?_
                        refine Goes.step (S' := T11.setTop (mkF m 313 #[.val (.int p0), .val (.int p1), .val (.int p2), .val (.int p3), .val (.int p4), .val (.int (f3 p1 (128 : Int32) (143 : Int32)))] [(.int ((((p0 - (240 : Int32)) * (262144 : Int32)) + ((p1 - (128 : Int32)) * (4096 : Int32))) + ((p2 - (128 : Int32)) * (64 : Int32))))])) (fun _ k => XS.iadd X11.here hx rfl (hb hby d2_312) rfl k) ?_
                        refine Goes.step (S' := T11.setTop (mkF m 314 #[.val (.int p0), .val (.int p1), .val (.int p2), .val (.int p3), .val (.int p4), .val (.int (f3 p1 (128 : Int32) (143 : Int32)))] [(.int p3), (.int ((((p0 - (240 : Int32)) * (262144 : Int32)) + ((p1 - (128 : Int32)) * (4096 : Int32))) + ((p2 - (128 : Int32)) * (64 : Int32))))])) (fun _ k => XS.iloadN X11.here hx rfl (hb hby d2_313) rfl  k) ?_
                        refine Goes.step (S' := T11.setTop (mkF m 317 #[.val (.int p0), .val (.int p1), .val (.int p2), .val (.int p3), .val (.int p4), .val (.int (f3 p1 (128 : Int32) (143 : Int32)))] [(.int (128 : Int32)), (.int p3), (.int ((((p0 - (240 : Int32)) * (262144 : Int32)) + ((p1 - (128 : Int32)) * (4096 : Int32))) + ((p2 - (128 : Int32)) * (64 : Int32))))])) (fun _ k => XS.sipush X11.here hx rfl (hb hby d2_314) k) ?_
                        refine Goes.step (S' := T11.setTop (mkF m 318 #[.val (.int p0), .val (.int p1), .val (.int p2), .val (.int p3), .val (.int p4), .val (.int (f3 p1 (128 : Int32) (143 : Int32)))] [(.int (p3 - (128 : Int32))), (.int ((((p0 - (240 : Int32)) * (262144 : Int32)) + ((p1 - (128 : Int32)) * (4096 : Int32))) + ((p2 - (128 : Int32)) * (64 : Int32))))])) (fun _ k => XS.isub X11.here hx rfl (hb hby d2_317) rfl k) ?_
                        refine Goes.step (S' := T11.setTop (mkF m 319 #[.val (.int p0), .val (.int p1), .val (.int p2), .val (.int p3), .val (.int p4), .val (.int (f3 p1 (128 : Int32) (143 : Int32)))] [(.int (((((p0 - (240 : Int32)) * (262144 : Int32)) + ((p1 - (128 : Int32)) * (4096 : Int32))) + ((p2 - (128 : Int32)) * (64 : Int32))) + (p3 - (128 : Int32))))])) (fun _ k => XS.iadd X11.here hx rfl (hb hby d2_318) rfl k) ?_
                        refine Goes.retI X11 hx Bd.notSynchronized Bd.returns (hb hby d2_319) (by decide) (by decide) ?_
                        refine ⟨congrArg (fun z => some (Value.int z)) ?_, N12, e11⟩
                        rw [f2, if_pos hc3_1, if_neg hc12_2, if_pos hc19_3, if_pos hc69_4, if_neg hc190_5, if_neg hc197_6, if_pos hc219_11, if_neg hc252_12, if_neg hc257_13, if_neg hc270_14, if_neg hc283_15]
                        try rfl
              · refine Goes.step (S' := s₁.setTop (mkF m 237 #[.val (.int p0), .val (.int p1), .val (.int p2), .val (.int p3), .val (.int p4), .unset] [])) (fun _ k => XS.icmpYes X0.here hx rfl (pc0 := 219) (pc' := 237) rfl (hb hby d2_219) rfl (feq hc219_11).2 (by decide) (by decide) k) ?_
                refine Goes.step (S' := s₁.setTop (mkF m 238 #[.val (.int p0), .val (.int p1), .val (.int p2), .val (.int p3), .val (.int p4), .unset] [(.int p1)])) (fun _ k => XS.iloadN X0.here hx rfl (hb hby d2_237) rfl  k) ?_
                refine Goes.step (S' := s₁.setTop (mkF m 241 #[.val (.int p0), .val (.int p1), .val (.int p2), .val (.int p3), .val (.int p4), .unset] [(.int (128 : Int32)), (.int p1)])) (fun _ k => XS.sipush X0.here hx rfl (hb hby d2_238) k) ?_
                refine Goes.step (S' := s₁.setTop (mkF m 244 #[.val (.int p0), .val (.int p1), .val (.int p2), .val (.int p3), .val (.int p4), .unset] [(.int (191 : Int32)), (.int (128 : Int32)), (.int p1)])) (fun _ k => XS.sipush X0.here hx rfl (hb hby d2_241) k) ?_
                obtain ⟨_, _, ⟨T13, L13, k13, n13⟩, -, X13, ⟨Lc13, hQ13, l13, y13, z13⟩, st13⟩ := Jvm.LawKit.callS X0 hx (y := (⟨"com/example/leaderline/leaderline/Utf8DecodePinLaw", "in", "(III)Z"⟩ : MethodName)) hown (mvT hZ (hw _ (List.mem_of_getElem? (i := 9) rfl))) (mvT hZ (hw _ (List.mem_of_getElem? (i := 10) rfl))) (mvT hZ (hw _ (List.mem_of_getElem? (i := 7) rfl))) (mvT hZ (hw _ (List.mem_of_getElem? (i := 11) rfl))) (by decide) (backOf (W := 0) (rm3 l Z a0 hw [] p1 (128 : Int32) (191 : Int32) h0 n0 Z0) hZ (hw _ (List.mem_of_getElem? (i := 11) rfl)) (hw _ (List.mem_of_getElem? (i := 7) rfl)) (by decide) (by decide)) (g := (mkF m 244 #[.val (.int p0), .val (.int p1), .val (.int p2), .val (.int p3), .val (.int p4), .unset] [(.int (191 : Int32)), (.int (128 : Int32)), (.int p1)])) rfl (by rw [hml]; rfl) (argsL := [(.int p1), (.int (128 : Int32)), (.int (191 : Int32))]) (rest := []) (lenOf pd0 rfl) rfl (by show 2 * 0 + _ ≤ _; exact Nat.le_of_eq rfl) (hb hby d2_244) (fun _ _ => ⟨rfl, e0, (by decide : 0 + 0 ≤ _), (by decide : 0 + 0 ≤ _)⟩)
                dsimp only [Pt.U, Pt.locs, Pt.cells, Pt.slots] at X13 l13 y13 z13 st13 hQ13
                subst l13 y13 z13
                obtain ⟨rfl, N13q, e13⟩ := hQ13
                have N14 := Fr.app N0 N13q
                refine Goes.step (S' := T13.setTop (mkF m 247 #[.val (.int p0), .val (.int p1), .val (.int p2), .val (.int p3), .val (.int p4), .unset] [(.int (f3 p1 (128 : Int32) (191 : Int32)))])) st13 ?_
                refine Goes.step (S' := T13.setTop (mkF m 249 #[.val (.int p0), .val (.int p1), .val (.int p2), .val (.int p3), .val (.int p4), .val (.int (f3 p1 (128 : Int32) (191 : Int32)))] [])) (fun _ k => XS.istore X13.here hx rfl (hb hby d2_247) rfl (l' := #[.val (.int p0), .val (.int p1), .val (.int p2), .val (.int p3), .val (.int p4), .val (.int (f3 p1 (128 : Int32) (191 : Int32)))]) rfl k) ?_
                refine Goes.step (S' := T13.setTop (mkF m 251 #[.val (.int p0), .val (.int p1), .val (.int p2), .val (.int p3), .val (.int p4), .val (.int (f3 p1 (128 : Int32) (191 : Int32)))] [(.int p4)])) (fun _ k => XS.iload X13.here hx rfl (hb hby d2_249) rfl  k) ?_
                refine Goes.step (S' := T13.setTop (mkF m 252 #[.val (.int p0), .val (.int p1), .val (.int p2), .val (.int p3), .val (.int p4), .val (.int (f3 p1 (128 : Int32) (191 : Int32)))] [(.int (4 : Int32)), (.int p4)])) (fun _ k => XS.iconst X13.here hx rfl (hb hby d2_251) k) ?_
                by_cases hc252_16 : p4 < (4 : Int32)
                · refine Goes.step (S' := T13.setTop (mkF m 320 #[.val (.int p0), .val (.int p1), .val (.int p2), .val (.int p3), .val (.int p4), .val (.int (f3 p1 (128 : Int32) (191 : Int32)))] [])) (fun _ k => XS.icmpYes X13.here hx rfl (pc0 := 252) (pc' := 320) rfl (hb hby d2_252) rfl (tlt hc252_16).1 (by decide) (by decide) k) ?_
                  refine Goes.step (S' := T13.setTop (mkF m 321 #[.val (.int p0), .val (.int p1), .val (.int p2), .val (.int p3), .val (.int p4), .val (.int (f3 p1 (128 : Int32) (191 : Int32)))] [(.int (-1 : Int32))])) (fun _ k => XS.iconst X13.here hx rfl (hb hby d2_320) k) ?_
                  refine Goes.retI X13 hx Bd.notSynchronized Bd.returns (hb hby d2_321) (by decide) (by decide) ?_
                  refine ⟨congrArg (fun z => some (Value.int z)) ?_, N14, e13⟩
                  rw [f2, if_pos hc3_1, if_neg hc12_2, if_pos hc19_3, if_pos hc69_4, if_neg hc190_5, if_neg hc197_6, if_neg hc219_11, if_pos hc252_16]
                  try rfl
                · refine Goes.step (S' := T13.setTop (mkF m 255 #[.val (.int p0), .val (.int p1), .val (.int p2), .val (.int p3), .val (.int p4), .val (.int (f3 p1 (128 : Int32) (191 : Int32)))] [])) (fun _ k => XS.icmpNo X13.here hx rfl (hb hby d2_252) rfl (flt hc252_16).1 k) ?_
                  refine Goes.step (S' := T13.setTop (mkF m 257 #[.val (.int p0), .val (.int p1), .val (.int p2), .val (.int p3), .val (.int p4), .val (.int (f3 p1 (128 : Int32) (191 : Int32)))] [(.int (f3 p1 (128 : Int32) (191 : Int32)))])) (fun _ k => XS.iload X13.here hx rfl (hb hby d2_255) rfl  k) ?_
                  by_cases hc257_17 : (f3 p1 (128 : Int32) (191 : Int32)) = (0 : Int32)
                  · refine Goes.step (S' := T13.setTop (mkF m 320 #[.val (.int p0), .val (.int p1), .val (.int p2), .val (.int p3), .val (.int p4), .val (.int (f3 p1 (128 : Int32) (191 : Int32)))] [])) (fun _ k => XS.ifYes X13.here hx rfl (pc0 := 257) (pc' := 320) rfl (hb hby d2_257) rfl ((if0 _ _).trans (teq hc257_17).1) (by decide) (by decide) k) ?_
                    refine Goes.step (S' := T13.setTop (mkF m 321 #[.val (.int p0), .val (.int p1), .val (.int p2), .val (.int p3), .val (.int p4), .val (.int (f3 p1 (128 : Int32) (191 : Int32)))] [(.int (-1 : Int32))])) (fun _ k => XS.iconst X13.here hx rfl (hb hby d2_320) k) ?_
                    refine Goes.retI X13 hx Bd.notSynchronized Bd.returns (hb hby d2_321) (by decide) (by decide) ?_
                    refine ⟨congrArg (fun z => some (Value.int z)) ?_, N14, e13⟩
                    rw [f2, if_pos hc3_1, if_neg hc12_2, if_pos hc19_3, if_pos hc69_4, if_neg hc190_5, if_neg hc197_6, if_neg hc219_11, if_neg hc252_16, if_pos hc257_17]
                    try rfl
                  · refine Goes.step (S' := T13.setTop (mkF m 260 #[.val (.int p0), .val (.int p1), .val (.int p2), .val (.int p3), .val (.int p4), .val (.int (f3 p1 (128 : Int32) (191 : Int32)))] [])) (fun _ k => XS.ifNo X13.here hx rfl (hb hby d2_257) rfl ((if0 _ _).trans (feq hc257_17).1) k) ?_
                    refine Goes.step (S' := T13.setTop (mkF m 261 #[.val (.int p0), .val (.int p1), .val (.int p2), .val (.int p3), .val (.int p4), .val (.int (f3 p1 (128 : Int32) (191 : Int32)))] [(.int p2)])) (fun _ k => XS.iloadN X13.here hx rfl (hb hby d2_260) rfl  k) ?_
                    refine Goes.step (S' := T13.setTop (mkF m 264 #[.val (.int p0), .val (.int p1), .val (.int p2), .val (.int p3), .val (.int p4), .val (.int (f3 p1 (128 : Int32) (191 : Int32)))] [(.int (128 : Int32)), (.int p2)])) (fun _ k => XS.sipush X13.here hx rfl (hb hby d2_261) k) ?_
                    refine Goes.step (S' := T13.setTop (mkF m 267 #[.val (.int p0), .val (.int p1), .val (.int p2), .val (.int p3), .val (.int p4), .val (.int (f3 p1 (128 : Int32) (191 : Int32)))] [(.int (191 : Int32)), (.int (128 : Int32)), (.int p2)])) (fun _ k => XS.sipush X13.here hx rfl (hb hby d2_264) k) ?_
                    obtain ⟨_, _, ⟨T15, L15, k15, n15⟩, -, X15, ⟨Lc15, hQ15, l15, y15, z15⟩, st15⟩ := Jvm.LawKit.callS X13 hx (y := (⟨"com/example/leaderline/leaderline/Utf8DecodePinLaw", "in", "(III)Z"⟩ : MethodName)) hown (mvT hZ (hw _ (List.mem_of_getElem? (i := 9) rfl))) (mvT hZ (hw _ (List.mem_of_getElem? (i := 10) rfl))) (mvT hZ (hw _ (List.mem_of_getElem? (i := 7) rfl))) (mvT hZ (hw _ (List.mem_of_getElem? (i := 11) rfl))) (by decide) (backOf (W := 0) (rm3 l Z a0 hw [] p2 (128 : Int32) (191 : Int32) h0 n0 Z0) hZ (hw _ (List.mem_of_getElem? (i := 11) rfl)) (hw _ (List.mem_of_getElem? (i := 7) rfl)) (by decide) (by decide)) (g := (mkF m 267 #[.val (.int p0), .val (.int p1), .val (.int p2), .val (.int p3), .val (.int p4), .val (.int (f3 p1 (128 : Int32) (191 : Int32)))] [(.int (191 : Int32)), (.int (128 : Int32)), (.int p2)])) rfl (by rw [hml]; rfl) (argsL := [(.int p2), (.int (128 : Int32)), (.int (191 : Int32))]) (rest := []) (lenOf pd0 rfl) rfl (by show 2 * 0 + _ ≤ _; exact Nat.le_of_eq rfl) (hb hby d2_267) (fun _ _ => ⟨rfl, e13, (by decide : 0 + 0 ≤ _), (by decide : 0 + 0 ≤ _)⟩)
                    dsimp only [Pt.U, Pt.locs, Pt.cells, Pt.slots] at X15 l15 y15 z15 st15 hQ15
                    subst l15 y15 z15
                    obtain ⟨rfl, N15q, e15⟩ := hQ15
                    have N16 := Fr.app N14 N15q
                    refine Goes.step (S' := T15.setTop (mkF m 270 #[.val (.int p0), .val (.int p1), .val (.int p2), .val (.int p3), .val (.int p4), .val (.int (f3 p1 (128 : Int32) (191 : Int32)))] [(.int (f3 p2 (128 : Int32) (191 : Int32)))])) st15 ?_
                    by_cases hc270_18 : (f3 p2 (128 : Int32) (191 : Int32)) = (0 : Int32)
                    · refine Goes.step (S' := T15.setTop (mkF m 320 #[.val (.int p0), .val (.int p1), .val (.int p2), .val (.int p3), .val (.int p4), .val (.int (f3 p1 (128 : Int32) (191 : Int32)))] [])) (fun _ k => XS.ifYes X15.here hx rfl (pc0 := 270) (pc' := 320) rfl (hb hby d2_270) rfl ((if0 _ _).trans (teq hc270_18).1) (by decide) (by decide) k) ?_
                      refine Goes.step (S' := T15.setTop (mkF m 321 #[.val (.int p0), .val (.int p1), .val (.int p2), .val (.int p3), .val (.int p4), .val (.int (f3 p1 (128 : Int32) (191 : Int32)))] [(.int (-1 : Int32))])) (fun _ k => XS.iconst X15.here hx rfl (hb hby d2_320) k) ?_
                      refine Goes.retI X15 hx Bd.notSynchronized Bd.returns (hb hby d2_321) (by decide) (by decide) ?_
                      refine ⟨congrArg (fun z => some (Value.int z)) ?_, N16, e15⟩
                      rw [f2, if_pos hc3_1, if_neg hc12_2, if_pos hc19_3, if_pos hc69_4, if_neg hc190_5, if_neg hc197_6, if_neg hc219_11, if_neg hc252_16, if_neg hc257_17, if_pos hc270_18]
                      try rfl
                    · refine Goes.step (S' := T15.setTop (mkF m 273 #[.val (.int p0), .val (.int p1), .val (.int p2), .val (.int p3), .val (.int p4), .val (.int (f3 p1 (128 : Int32) (191 : Int32)))] [])) (fun _ k => XS.ifNo X15.here hx rfl (hb hby d2_270) rfl ((if0 _ _).trans (feq hc270_18).1) k) ?_
                      refine Goes.step (S' := T15.setTop (mkF m 274 #[.val (.int p0), .val (.int p1), .val (.int p2), .val (.int p3), .val (.int p4), .val (.int (f3 p1 (128 : Int32) (191 : Int32)))] [(.int p3)])) (fun _ k => XS.iloadN X15.here hx rfl (hb hby d2_273) rfl  k) ?_
                      refine Goes.step (S' := T15.setTop (mkF m 277 #[.val (.int p0), .val (.int p1), .val (.int p2), .val (.int p3), .val (.int p4), .val (.int (f3 p1 (128 : Int32) (191 : Int32)))] [(.int (128 : Int32)), (.int p3)])) (fun _ k => XS.sipush X15.here hx rfl (hb hby d2_274) k) ?_
                      refine Goes.step (S' := T15.setTop (mkF m 280 #[.val (.int p0), .val (.int p1), .val (.int p2), .val (.int p3), .val (.int p4), .val (.int (f3 p1 (128 : Int32) (191 : Int32)))] [(.int (191 : Int32)), (.int (128 : Int32)), (.int p3)])) (fun _ k => XS.sipush X15.here hx rfl (hb hby d2_277) k) ?_
                      obtain ⟨_, _, ⟨T17, L17, k17, n17⟩, -, X17, ⟨Lc17, hQ17, l17, y17, z17⟩, st17⟩ := Jvm.LawKit.callS X15 hx (y := (⟨"com/example/leaderline/leaderline/Utf8DecodePinLaw", "in", "(III)Z"⟩ : MethodName)) hown (mvT hZ (hw _ (List.mem_of_getElem? (i := 9) rfl))) (mvT hZ (hw _ (List.mem_of_getElem? (i := 10) rfl))) (mvT hZ (hw _ (List.mem_of_getElem? (i := 7) rfl))) (mvT hZ (hw _ (List.mem_of_getElem? (i := 11) rfl))) (by decide) (backOf (W := 0) (rm3 l Z a0 hw [] p3 (128 : Int32) (191 : Int32) h0 n0 Z0) hZ (hw _ (List.mem_of_getElem? (i := 11) rfl)) (hw _ (List.mem_of_getElem? (i := 7) rfl)) (by decide) (by decide)) (g := (mkF m 280 #[.val (.int p0), .val (.int p1), .val (.int p2), .val (.int p3), .val (.int p4), .val (.int (f3 p1 (128 : Int32) (191 : Int32)))] [(.int (191 : Int32)), (.int (128 : Int32)), (.int p3)])) rfl (by rw [hml]; rfl) (argsL := [(.int p3), (.int (128 : Int32)), (.int (191 : Int32))]) (rest := []) (lenOf pd0 rfl) rfl (by show 2 * 0 + _ ≤ _; exact Nat.le_of_eq rfl) (hb hby d2_280) (fun _ _ => ⟨rfl, e15, (by decide : 0 + 0 ≤ _), (by decide : 0 + 0 ≤ _)⟩)
                      dsimp only [Pt.U, Pt.locs, Pt.cells, Pt.slots] at X17 l17 y17 z17 st17 hQ17
                      subst l17 y17 z17
                      obtain ⟨rfl, N17q, e17⟩ := hQ17
                      have N18 := Fr.app N16 N17q
                      refine Goes.step (S' := T17.setTop (mkF m 283 #[.val (.int p0), .val (.int p1), .val (.int p2), .val (.int p3), .val (.int p4), .val (.int (f3 p1 (128 : Int32) (191 : Int32)))] [(.int (f3 p3 (128 : Int32) (191 : Int32)))])) st17 ?_
                      by_cases hc283_19 : (f3 p3 (128 : Int32) (191 : Int32)) = (0 : Int32)
                      · refine Goes.step (S' := T17.setTop (mkF m 320 #[.val (.int p0), .val (.int p1), .val (.int p2), .val (.int p3), .val (.int p4), .val (.int (f3 p1 (128 : Int32) (191 : Int32)))] [])) (fun _ k => XS.ifYes X17.here hx rfl (pc0 := 283) (pc' := 320) rfl (hb hby d2_283) rfl ((if0 _ _).trans (teq hc283_19).1) (by decide) (by decide) k) ?_
                        refine Goes.step (S' := T17.setTop (mkF m 321 #[.val (.int p0), .val (.int p1), .val (.int p2), .val (.int p3), .val (.int p4), .val (.int (f3 p1 (128 : Int32) (191 : Int32)))] [(.int (-1 : Int32))])) (fun _ k => XS.iconst X17.here hx rfl (hb hby d2_320) k) ?_
                        refine Goes.retI X17 hx Bd.notSynchronized Bd.returns (hb hby d2_321) (by decide) (by decide) ?_
                        refine ⟨congrArg (fun z => some (Value.int z)) ?_, N18, e17⟩
                        rw [f2, if_pos hc3_1, if_neg hc12_2, if_pos hc19_3, if_pos hc69_4, if_neg hc190_5, if_neg hc197_6, if_neg hc219_11, if_neg hc252_16, if_neg hc257_17, if_neg hc270_18, if_pos hc283_19]
                        try rfl
                      · refine Goes.step (S' := T17.setTop (mkF m 286 #[.val (.int p0), .val (.int p1), .val (.int p2), .val (.int p3), .val (.int p4), .val (.int (f3 p1 (128 : Int32) (191 : Int32)))] [])) (fun _ k => XS.ifNo X17.here hx rfl (hb hby d2_283) rfl ((if0 _ _).trans (feq hc283_19).1) k) ?_
                        refine Goes.step (S' := T17.setTop (mkF m 287 #[.val (.int p0), .val (.int p1), .val (.int p2), .val (.int p3), .val (.int p4), .val (.int (f3 p1 (128 : Int32) (191 : Int32)))] [(.int p0)])) (fun _ k => XS.iloadN X17.here hx rfl (hb hby d2_286) rfl  k) ?_
                        refine Goes.step (S' := T17.setTop (mkF m 290 #[.val (.int p0), .val (.int p1), .val (.int p2), .val (.int p3), .val (.int p4), .val (.int (f3 p1 (128 : Int32) (191 : Int32)))] [(.int (240 : Int32)), (.int p0)])) (fun _ k => XS.sipush X17.here hx rfl (hb hby d2_287) k) ?_
                        refine Goes.step (S' := T17.setTop (mkF m 291 #[.val (.int p0), .val (.int p1), .val (.int p2), .val (.int p3), .val (.int p4), .val (.int (f3 p1 (128 : Int32) (191 : Int32)))] [(.int (p0 - (240 : Int32)))])) (fun _ k => XS.isub X17.here hx rfl (hb hby d2_290) rfl k) ?_
                        refine Goes.step (S' := T17.setTop (mkF m 293 #[.val (.int p0), .val (.int p1), .val (.int p2), .val (.int p3), .val (.int p4), .val (.int (f3 p1 (128 : Int32) (191 : Int32)))] [(.int (262144 : Int32)), (.int (p0 - (240 : Int32)))])) (fun _ k => X17.ldcInt hx hown (mvT hZ (hw _ (List.mem_of_getElem? (i := 12) rfl))) (g := (mkF m 291 #[.val (.int p0), .val (.int p1), .val (.int p2), .val (.int p3), .val (.int p4), .val (.int (f3 p1 (128 : Int32) (191 : Int32)))] [(.int (p0 - (240 : Int32)))])) rfl (hb hby d2_291) _ k) ?_
                        refine Goes.step (S' := T17.setTop (mkF m 294 #[.val (.int p0), .val (.int p1), .val (.int p2), .val (.int p3), .val (.int p4), .val (.int (f3 p1 (128 : Int32) (191 : Int32)))] [(.int ((p0 - (240 : Int32)) * (262144 : Int32)))])) (fun _ k => XS.imul X17.here hx rfl (hb hby d2_293) rfl k) ?_
                        refine Goes.step (S' := T17.setTop (mkF m 295 #[.val (.int p0), .val (.int p1), .val (.int p2), .val (.int p3), .val (.int p4), .val (.int (f3 p1 (128 : Int32) (191 : Int32)))] [(.int p1), (.int ((p0 - (240 : Int32)) * (262144 : Int32)))])) (fun _ k => XS.iloadN X17.here hx rfl (hb hby d2_294) rfl  k) ?_
                        refine Goes.step (S' := T17.setTop (mkF m 298 #[.val (.int p0), .val (.int p1), .val (.int p2), .val (.int p3), .val (.int p4), .val (.int (f3 p1 (128 : Int32) (191 : Int32)))] [(.int (128 : Int32)), (.int p1), (.int ((p0 - (240 : Int32)) * (262144 : Int32)))])) (fun _ k => XS.sipush X17.here hx rfl (hb hby d2_295) k) ?_
                        refine Goes.step (S' := T17.setTop (mkF m 299 #[.val (.int p0), .val (.int p1), .val (.int p2), .val (.int p3), .val (.int p4), .val (.int (f3 p1 (128 : Int32) (191 : Int32)))] [(.int (p1 - (128 : Int32))), (.int ((p0 - (240 : Int32)) * (262144 : Int32)))])) (fun _ k => XS.isub X17.here hx rfl (hb hby d2_298) rfl k) ?_
                        refine Goes.step (S' := T17.setTop (mkF m 302 #[.val (.int p0), .val (.int p1), .val (.int p2), .val (.int p3), .val (.int p4), .val (.int (f3 p1 (128 : Int32) (191 : Int32)))] [(.int (4096 : Int32)), (.int (p1 - (128 : Int32))), (.int ((p0 - (240 : Int32)) * (262144 : Int32)))])) (fun _ k => XS.sipush X17.here hx rfl (hb hby d2_299) k) ?_
                        refine Goes.step (S' := T17.setTop (mkF m 303 #[.val (.int p0), .val (.int p1), .val (.int p2), .val (.int p3), .val (.int p4), .val (.int (f3 p1 (128 : Int32) (191 : Int32)))] [(.int ((p1 - (128 : Int32)) * (4096 : Int32))), (.int ((p0 - (240 : Int32)) * (262144 : Int32)))])) (fun _ k => XS.imul X17.here hx rfl (hb hby d2_302) rfl k) ?_
                        refine Goes.step (S' := T17.setTop (mkF m 304 #[.val (.int p0), .val (.int p1), .val (.int p2), .val (.int p3), .val (.int p4), .val (.int (f3 p1 (128 : Int32) (191 : Int32)))] [(.int (((p0 - (240 : Int32)) * (262144 : Int32)) + ((p1 - (128 : Int32)) * (4096 : Int32))))])) (fun _ k => XS.iadd X17.here hx rfl (hb hby d2_303) rfl k) ?_
                        refine Goes.step (S' := T17.setTop (mkF m 305 #[.val (.int p0), .val (.int p1), .val (.int p2), .val (.int p3), .val (.int p4), .val (.int (f3 p1 (128 : Int32) (191 : Int32)))] [(.int p2), (.int (((p0 - (240 : Int32)) * (262144 : Int32)) + ((p1 - (128 : Int32)) * (4096 : Int32))))])) (fun _ k => XS.iloadN X17.here hx rfl (hb hby d2_304) rfl  k) ?_
                        refine Goes.step (S' := T17.setTop (mkF m 308 #[.val (.int p0), .val (.int p1), .val (.int p2), .val (.int p3), .val (.int p4), .val (.int (f3 p1 (128 : Int32) (191 : Int32)))] [(.int (128 : Int32)), (.int p2), (.int (((p0 - (240 : Int32)) * (262144 : Int32)) + ((p1 - (128 : Int32)) * (4096 : Int32))))])) (fun _ k => XS.sipush X17.here hx rfl (hb hby d2_305) k) ?_
                        refine Goes.step (S' := T17.setTop (mkF m 309 #[.val (.int p0), .val (.int p1), .val (.int p2), .val (.int p3), .val (.int p4), .val (.int (f3 p1 (128 : Int32) (191 : Int32)))] [(.int (p2 - (128 : Int32))), (.int (((p0 - (240 : Int32)) * (262144 : Int32)) + ((p1 - (128 : Int32)) * (4096 : Int32))))])) (fun _ k => XS.isub X17.here hx rfl (hb hby d2_308) rfl k) ?_
                        refine Goes.step (S' := T17.setTop (mkF m 311 #[.val (.int p0), .val (.int p1), .val (.int p2), .val (.int p3), .val (.int p4), .val (.int (f3 p1 (128 : Int32) (191 : Int32)))] [(.int (64 : Int32)), (.int (p2 - (128 : Int32))), (.int (((p0 - (240 : Int32)) * (262144 : Int32)) + ((p1 - (128 : Int32)) * (4096 : Int32))))])) (fun _ k => XS.bipush X17.here hx rfl (hb hby d2_309) k) ?_
                        refine Goes.step (S' := T17.setTop (mkF m 312 #[.val (.int p0), .val (.int p1), .val (.int p2), .val (.int p3), .val (.int p4), .val (.int (f3 p1 (128 : Int32) (191 : Int32)))] [(.int ((p2 - (128 : Int32)) * (64 : Int32))), (.int (((p0 - (240 : Int32)) * (262144 : Int32)) + ((p1 - (128 : Int32)) * (4096 : Int32))))])) (fun _ k => XS.imul X17.here hx rfl (hb hby d2_311) rfl k) ?_
                        refine Goes.step (S' := T17.setTop (mkF m 313 #[.val (.int p0), .val (.int p1), .val (.int p2), .val (.int p3), .val (.int p4), .val (.int (f3 p1 (128 : Int32) (191 : Int32)))] [(.int ((((p0 - (240 : Int32)) * (262144 : Int32)) + ((p1 - (128 : Int32)) * (4096 : Int32))) + ((p2 - (128 : Int32)) * (64 : Int32))))])) (fun _ k => XS.iadd X17.here hx rfl (hb hby d2_312) rfl k) ?_
                        refine Goes.step (S' := T17.setTop (mkF m 314 #[.val (.int p0), .val (.int p1), .val (.int p2), .val (.int p3), .val (.int p4), .val (.int (f3 p1 (128 : Int32) (191 : Int32)))] [(.int p3), (.int ((((p0 - (240 : Int32)) * (262144 : Int32)) + ((p1 - (128 : Int32)) * (4096 : Int32))) + ((p2 - (128 : Int32)) * (64 : Int32))))])) (fun _ k => XS.iloadN X17.here hx rfl (hb hby d2_313) rfl  k) ?_
                        refine Goes.step (S' := T17.setTop (mkF m 317 #[.val (.int p0), .val (.int p1), .val (.int p2), .val (.int p3), .val (.int p4), .val (.int (f3 p1 (128 : Int32) (191 : Int32)))] [(.int (128 : Int32)), (.int p3), (.int ((((p0 - (240 : Int32)) * (262144 : Int32)) + ((p1 - (128 : Int32)) * (4096 : Int32))) + ((p2 - (128 : Int32)) * (64 : Int32))))])) (fun _ k => XS.sipush X17.here hx rfl (hb hby d2_314) k) ?_
                        refine Goes.step (S' := T17.setTop (mkF m 318 #[.val (.int p0), .val (.int p1), .val (.int p2), .val (.int p3), .val (.int p4), .val (.int (f3 p1 (128 : Int32) (191 : Int32)))] [(.int (p3 - (128 : Int32))), (.int ((((p0 - (240 : Int32)) * (262144 : Int32)) + ((p1 - (128 : Int32)) * (4096 : Int32))) + ((p2 - (128 : Int32)) * (64 : Int32))))])) (fun _ k => XS.isub X17.here hx rfl (hb hby d2_317) rfl k) ?_
                        refine Goes.step (S' := T17.setTop (mkF m 319 #[.val (.int p0), .val (.int p1), .val (.int p2), .val (.int p3), .val (.int p4), .val (.int (f3 p1 (128 : Int32) (191 : Int32)))] [(.int (((((p0 - (240 : Int32)) * (262144 : Int32)) + ((p1 - (128 : Int32)) * (4096 : Int32))) + ((p2 - (128 : Int32)) * (64 : Int32))) + (p3 - (128 : Int32))))])) (fun _ k => XS.iadd X17.here hx rfl (hb hby d2_318) rfl k) ?_
                        refine Goes.retI X17 hx Bd.notSynchronized Bd.returns (hb hby d2_319) (by decide) (by decide) ?_
                        refine ⟨congrArg (fun z => some (Value.int z)) ?_, N18, e17⟩
                        rw [f2, if_pos hc3_1, if_neg hc12_2, if_pos hc19_3, if_pos hc69_4, if_neg hc190_5, if_neg hc197_6, if_neg hc219_11, if_neg hc252_16, if_neg hc257_17, if_neg hc270_18, if_neg hc283_19]
                        try rfl
        · refine Goes.step (S' := s₁.setTop (mkF m 72 #[.val (.int p0), .val (.int p1), .val (.int p2), .val (.int p3), .val (.int p4), .unset] [])) (fun _ k => XS.icmpNo X0.here hx rfl (hb hby d2_69) rfl (flt hc69_4).2.2.1 k) ?_
          refine Goes.step (S' := s₁.setTop (mkF m 73 #[.val (.int p0), .val (.int p1), .val (.int p2), .val (.int p3), .val (.int p4), .unset] [(.int p0)])) (fun _ k => XS.iloadN X0.here hx rfl (hb hby d2_72) rfl  k) ?_
          refine Goes.step (S' := s₁.setTop (mkF m 76 #[.val (.int p0), .val (.int p1), .val (.int p2), .val (.int p3), .val (.int p4), .unset] [(.int (224 : Int32)), (.int p0)])) (fun _ k => XS.sipush X0.here hx rfl (hb hby d2_73) k) ?_
          by_cases hc76_20 : p0 = (224 : Int32)
          · refine Goes.step (S' := s₁.setTop (mkF m 79 #[.val (.int p0), .val (.int p1), .val (.int p2), .val (.int p3), .val (.int p4), .unset] [])) (fun _ k => XS.icmpNo X0.here hx rfl (hb hby d2_76) rfl (teq hc76_20).2 k) ?_
            refine Goes.step (S' := s₁.setTop (mkF m 80 #[.val (.int p0), .val (.int p1), .val (.int p2), .val (.int p3), .val (.int p4), .unset] [(.int p1)])) (fun _ k => XS.iloadN X0.here hx rfl (hb hby d2_79) rfl  k) ?_
            refine Goes.step (S' := s₁.setTop (mkF m 83 #[.val (.int p0), .val (.int p1), .val (.int p2), .val (.int p3), .val (.int p4), .unset] [(.int (160 : Int32)), (.int p1)])) (fun _ k => XS.sipush X0.here hx rfl (hb hby d2_80) k) ?_
            refine Goes.step (S' := s₁.setTop (mkF m 86 #[.val (.int p0), .val (.int p1), .val (.int p2), .val (.int p3), .val (.int p4), .unset] [(.int (191 : Int32)), (.int (160 : Int32)), (.int p1)])) (fun _ k => XS.sipush X0.here hx rfl (hb hby d2_83) k) ?_
            obtain ⟨_, _, ⟨T19, L19, k19, n19⟩, -, X19, ⟨Lc19, hQ19, l19, y19, z19⟩, st19⟩ := Jvm.LawKit.callS X0 hx (y := (⟨"com/example/leaderline/leaderline/Utf8DecodePinLaw", "in", "(III)Z"⟩ : MethodName)) hown (mvT hZ (hw _ (List.mem_of_getElem? (i := 9) rfl))) (mvT hZ (hw _ (List.mem_of_getElem? (i := 10) rfl))) (mvT hZ (hw _ (List.mem_of_getElem? (i := 7) rfl))) (mvT hZ (hw _ (List.mem_of_getElem? (i := 11) rfl))) (by decide) (backOf (W := 0) (rm3 l Z a0 hw [] p1 (160 : Int32) (191 : Int32) h0 n0 Z0) hZ (hw _ (List.mem_of_getElem? (i := 11) rfl)) (hw _ (List.mem_of_getElem? (i := 7) rfl)) (by decide) (by decide)) (g := (mkF m 86 #[.val (.int p0), .val (.int p1), .val (.int p2), .val (.int p3), .val (.int p4), .unset] [(.int (191 : Int32)), (.int (160 : Int32)), (.int p1)])) rfl (by rw [hml]; rfl) (argsL := [(.int p1), (.int (160 : Int32)), (.int (191 : Int32))]) (rest := []) (lenOf pd0 rfl) rfl (by show 2 * 0 + _ ≤ _; exact Nat.le_of_eq rfl) (hb hby d2_86) (fun _ _ => ⟨rfl, e0, (by decide : 0 + 0 ≤ _), (by decide : 0 + 0 ≤ _)⟩)
            dsimp only [Pt.U, Pt.locs, Pt.cells, Pt.slots] at X19 l19 y19 z19 st19 hQ19
            subst l19 y19 z19
            obtain ⟨rfl, N19q, e19⟩ := hQ19
            have N20 := Fr.app N0 N19q
            refine Goes.step (S' := T19.setTop (mkF m 89 #[.val (.int p0), .val (.int p1), .val (.int p2), .val (.int p3), .val (.int p4), .unset] [(.int (f3 p1 (160 : Int32) (191 : Int32)))])) st19 ?_
            refine Goes.step (S' := T19.setTop (mkF m 91 #[.val (.int p0), .val (.int p1), .val (.int p2), .val (.int p3), .val (.int p4), .val (.int (f3 p1 (160 : Int32) (191 : Int32)))] [])) (fun _ k => XS.istore X19.here hx rfl (hb hby d2_89) rfl (l' := #[.val (.int p0), .val (.int p1), .val (.int p2), .val (.int p3), .val (.int p4), .val (.int (f3 p1 (160 : Int32) (191 : Int32)))]) rfl k) ?_
            refine Goes.step (S' := T19.setTop (mkF m 128 #[.val (.int p0), .val (.int p1), .val (.int p2), .val (.int p3), .val (.int p4), .val (.int (f3 p1 (160 : Int32) (191 : Int32)))] [])) (fun _ k => XS.goto X19.here hx rfl (pc0 := 91) (pc' := 128) rfl (hb hby d2_91) (by decide) (by decide) k) ?_
            refine Goes.step (S' := T19.setTop (mkF m 130 #[.val (.int p0), .val (.int p1), .val (.int p2), .val (.int p3), .val (.int p4), .val (.int (f3 p1 (160 : Int32) (191 : Int32)))] [(.int p4)])) (fun _ k => XS.iload X19.here hx rfl (hb hby d2_128) rfl  k) ?_
            refine Goes.step (S' := T19.setTop (mkF m 131 #[.val (.int p0), .val (.int p1), .val (.int p2), .val (.int p3), .val (.int p4), .val (.int (f3 p1 (160 : Int32) (191 : Int32)))] [(.int (3 : Int32)), (.int p4)])) (fun _ k => XS.iconst X19.here hx rfl (hb hby d2_130) k) ?_
            by_cases hc131_21 : p4 < (3 : Int32)
            · refine Goes.step (S' := T19.setTop (mkF m 177 #[.val (.int p0), .val (.int p1), .val (.int p2), .val (.int p3), .val (.int p4), .val (.int (f3 p1 (160 : Int32) (191 : Int32)))] [])) (fun _ k => XS.icmpYes X19.here hx rfl (pc0 := 131) (pc' := 177) rfl (hb hby d2_131) rfl (tlt hc131_21).1 (by decide) (by decide) k) ?_
              refine Goes.step (S' := T19.setTop (mkF m 178 #[.val (.int p0), .val (.int p1), .val (.int p2), .val (.int p3), .val (.int p4), .val (.int (f3 p1 (160 : Int32) (191 : Int32)))] [(.int (-1 : Int32))])) (fun _ k => XS.iconst X19.here hx rfl (hb hby d2_177) k) ?_
              refine Goes.retI X19 hx Bd.notSynchronized Bd.returns (hb hby d2_178) (by decide) (by decide) ?_
              refine ⟨congrArg (fun z => some (Value.int z)) ?_, N20, e19⟩
              rw [f2, if_pos hc3_1, if_neg hc12_2, if_pos hc19_3, if_neg hc69_4, if_pos hc76_20, if_pos hc131_21]
              try rfl
            · refine Goes.step (S' := T19.setTop (mkF m 134 #[.val (.int p0), .val (.int p1), .val (.int p2), .val (.int p3), .val (.int p4), .val (.int (f3 p1 (160 : Int32) (191 : Int32)))] [])) (fun _ k => XS.icmpNo X19.here hx rfl (hb hby d2_131) rfl (flt hc131_21).1 k) ?_
              refine Goes.step (S' := T19.setTop (mkF m 136 #[.val (.int p0), .val (.int p1), .val (.int p2), .val (.int p3), .val (.int p4), .val (.int (f3 p1 (160 : Int32) (191 : Int32)))] [(.int (f3 p1 (160 : Int32) (191 : Int32)))])) (fun _ k => XS.iload X19.here hx rfl (hb hby d2_134) rfl  k) ?_
              by_cases hc136_22 : (f3 p1 (160 : Int32) (191 : Int32)) = (0 : Int32)
              · refine Goes.step (S' := T19.setTop (mkF m 177 #[.val (.int p0), .val (.int p1), .val (.int p2), .val (.int p3), .val (.int p4), .val (.int (f3 p1 (160 : Int32) (191 : Int32)))] [])) (fun _ k => XS.ifYes X19.here hx rfl (pc0 := 136) (pc' := 177) rfl (hb hby d2_136) rfl ((if0 _ _).trans (teq hc136_22).1) (by decide) (by decide) k) ?_
                refine Goes.step (S' := T19.setTop (mkF m 178 #[.val (.int p0), .val (.int p1), .val (.int p2), .val (.int p3), .val (.int p4), .val (.int (f3 p1 (160 : Int32) (191 : Int32)))] [(.int (-1 : Int32))])) (fun _ k => XS.iconst X19.here hx rfl (hb hby d2_177) k) ?_
                refine Goes.retI X19 hx Bd.notSynchronized Bd.returns (hb hby d2_178) (by decide) (by decide) ?_
                refine ⟨congrArg (fun z => some (Value.int z)) ?_, N20, e19⟩
                rw [f2, if_pos hc3_1, if_neg hc12_2, if_pos hc19_3, if_neg hc69_4, if_pos hc76_20, if_neg hc131_21, if_pos hc136_22]
                try rfl
              · refine Goes.step (S' := T19.setTop (mkF m 139 #[.val (.int p0), .val (.int p1), .val (.int p2), .val (.int p3), .val (.int p4), .val (.int (f3 p1 (160 : Int32) (191 : Int32)))] [])) (fun _ k => XS.ifNo X19.here hx rfl (hb hby d2_136) rfl ((if0 _ _).trans (feq hc136_22).1) k) ?_
                refine Goes.step (S' := T19.setTop (mkF m 140 #[.val (.int p0), .val (.int p1), .val (.int p2), .val (.int p3), .val (.int p4), .val (.int (f3 p1 (160 : Int32) (191 : Int32)))] [(.int p2)])) (fun _ k => XS.iloadN X19.here hx rfl (hb hby d2_139) rfl  k) ?_
                refine Goes.step (S' := T19.setTop (mkF m 143 #[.val (.int p0), .val (.int p1), .val (.int p2), .val (.int p3), .val (.int p4), .val (.int (f3 p1 (160 : Int32) (191 : Int32)))] [(.int (128 : Int32)), (.int p2)])) (fun _ k => XS.sipush X19.here hx rfl (hb hby d2_140) k) ?_
                refine Goes.step (S' := T19.setTop (mkF m 146 #[.val (.int p0), .val (.int p1), .val (.int p2), .val (.int p3), .val (.int p4), .val (.int (f3 p1 (160 : Int32) (191 : Int32)))] [(.int (191 : Int32)), (.int (128 : Int32)), (.int p2)])) (fun _ k => XS.sipush X19.here hx rfl (hb hby d2_143) k) ?_
                obtain ⟨_, _, ⟨T21, L21, k21, n21⟩, -, X21, ⟨Lc21, hQ21, l21, y21, z21⟩, st21⟩ := Jvm.LawKit.callS X19 hx (y := (⟨"com/example/leaderline/leaderline/Utf8DecodePinLaw", "in", "(III)Z"⟩ : MethodName)) hown (mvT hZ (hw _ (List.mem_of_getElem? (i := 9) rfl))) (mvT hZ (hw _ (List.mem_of_getElem? (i := 10) rfl))) (mvT hZ (hw _ (List.mem_of_getElem? (i := 7) rfl))) (mvT hZ (hw _ (List.mem_of_getElem? (i := 11) rfl))) (by decide) (backOf (W := 0) (rm3 l Z a0 hw [] p2 (128 : Int32) (191 : Int32) h0 n0 Z0) hZ (hw _ (List.mem_of_getElem? (i := 11) rfl)) (hw _ (List.mem_of_getElem? (i := 7) rfl)) (by decide) (by decide)) (g := (mkF m 146 #[.val (.int p0), .val (.int p1), .val (.int p2), .val (.int p3), .val (.int p4), .val (.int (f3 p1 (160 : Int32) (191 : Int32)))] [(.int (191 : Int32)), (.int (128 : Int32)), (.int p2)])) rfl (by rw [hml]; rfl) (argsL := [(.int p2), (.int (128 : Int32)), (.int (191 : Int32))]) (rest := []) (lenOf pd0 rfl) rfl (by show 2 * 0 + _ ≤ _; exact Nat.le_of_eq rfl) (hb hby d2_146) (fun _ _ => ⟨rfl, e19, (by decide : 0 + 0 ≤ _), (by decide : 0 + 0 ≤ _)⟩)
                dsimp only [Pt.U, Pt.locs, Pt.cells, Pt.slots] at X21 l21 y21 z21 st21 hQ21
                subst l21 y21 z21
                obtain ⟨rfl, N21q, e21⟩ := hQ21
                have N22 := Fr.app N20 N21q
                refine Goes.step (S' := T21.setTop (mkF m 149 #[.val (.int p0), .val (.int p1), .val (.int p2), .val (.int p3), .val (.int p4), .val (.int (f3 p1 (160 : Int32) (191 : Int32)))] [(.int (f3 p2 (128 : Int32) (191 : Int32)))])) st21 ?_
                by_cases hc149_23 : (f3 p2 (128 : Int32) (191 : Int32)) = (0 : Int32)
                · refine Goes.step (S' := T21.setTop (mkF m 177 #[.val (.int p0), .val (.int p1), .val (.int p2), .val (.int p3), .val (.int p4), .val (.int (f3 p1 (160 : Int32) (191 : Int32)))] [])) (fun _ k => XS.ifYes X21.here hx rfl (pc0 := 149) (pc' := 177) rfl (hb hby d2_149) rfl ((if0 _ _).trans (teq hc149_23).1) (by decide) (by decide) k) ?_
                  refine Goes.step (S' := T21.setTop (mkF m 178 #[.val (.int p0), .val (.int p1), .val (.int p2), .val (.int p3), .val (.int p4), .val (.int (f3 p1 (160 : Int32) (191 : Int32)))] [(.int (-1 : Int32))])) (fun _ k => XS.iconst X21.here hx rfl (hb hby d2_177) k) ?_
                  refine Goes.retI X21 hx Bd.notSynchronized Bd.returns (hb hby d2_178) (by decide) (by decide) ?_
                  refine ⟨congrArg (fun z => some (Value.int z)) ?_, N22, e21⟩
                  rw [f2, if_pos hc3_1, if_neg hc12_2, if_pos hc19_3, if_neg hc69_4, if_pos hc76_20, if_neg hc131_21, if_neg hc136_22, if_pos hc149_23]
                  try rfl
                · refine Goes.step (S' := T21.setTop (mkF m 152 #[.val (.int p0), .val (.int p1), .val (.int p2), .val (.int p3), .val (.int p4), .val (.int (f3 p1 (160 : Int32) (191 : Int32)))] [])) (fun _ k => XS.ifNo X21.here hx rfl (hb hby d2_149) rfl ((if0 _ _).trans (feq hc149_23).1) k) ?_
                  refine Goes.step (S' := T21.setTop (mkF m 153 #[.val (.int p0), .val (.int p1), .val (.int p2), .val (.int p3), .val (.int p4), .val (.int (f3 p1 (160 : Int32) (191 : Int32)))] [(.int p0)])) (fun _ k => XS.iloadN X21.here hx rfl (hb hby d2_152) rfl  k) ?_
                  refine Goes.step (S' := T21.setTop (mkF m 156 #[.val (.int p0), .val (.int p1), .val (.int p2), .val (.int p3), .val (.int p4), .val (.int (f3 p1 (160 : Int32) (191 : Int32)))] [(.int (224 : Int32)), (.int p0)])) (fun _ k => XS.sipush X21.here hx rfl (hb hby d2_153) k) ?_
                  refine Goes.step (S' := T21.setTop (mkF m 157 #[.val (.int p0), .val (.int p1), .val (.int p2), .val (.int p3), .val (.int p4), .val (.int (f3 p1 (160 : Int32) (191 : Int32)))] [(.int (p0 - (224 : Int32)))])) (fun _ k => XS.isub X21.here hx rfl (hb hby d2_156) rfl k) ?_
                  refine Goes.step (S' := T21.setTop (mkF m 160 #[.val (.int p0), .val (.int p1), .val (.int p2), .val (.int p3), .val (.int p4), .val (.int (f3 p1 (160 : Int32) (191 : Int32)))] [(.int (4096 : Int32)), (.int (p0 - (224 : Int32)))])) (fun _ k => XS.sipush X21.here hx rfl (hb hby d2_157) k) ?_
                  refine Goes.step (S' := T21.setTop (mkF m 161 #[.val (.int p0), .val (.int p1), .val (.int p2), .val (.int p3), .val (.int p4), .val (.int (f3 p1 (160 : Int32) (191 : Int32)))] [(.int ((p0 - (224 : Int32)) * (4096 : Int32)))])) (fun _ k => XS.imul X21.here hx rfl (hb hby d2_160) rfl k) ?_
                  refine Goes.step (S' := T21.setTop (mkF m 162 #[.val (.int p0), .val (.int p1), .val (.int p2), .val (.int p3), .val (.int p4), .val (.int (f3 p1 (160 : Int32) (191 : Int32)))] [(.int p1), (.int ((p0 - (224 : Int32)) * (4096 : Int32)))])) (fun _ k => XS.iloadN X21.here hx rfl (hb hby d2_161) rfl  k) ?_
                  refine Goes.step (S' := T21.setTop (mkF m 165 #[.val (.int p0), .val (.int p1), .val (.int p2), .val (.int p3), .val (.int p4), .val (.int (f3 p1 (160 : Int32) (191 : Int32)))] [(.int (128 : Int32)), (.int p1), (.int ((p0 - (224 : Int32)) * (4096 : Int32)))])) (fun _ k => XS.sipush X21.here hx rfl (hb hby d2_162) k) ?_
                  refine Goes.step (S' := T21.setTop (mkF m 166 #[.val (.int p0), .val (.int p1), .val (.int p2), .val (.int p3), .val (.int p4), .val (.int (f3 p1 (160 : Int32) (191 : Int32)))] [(.int (p1 - (128 : Int32))), (.int ((p0 - (224 : Int32)) * (4096 : Int32)))])) (fun _ k => XS.isub X21.here hx rfl (hb hby d2_165) rfl k) ?_
                  refine Goes.step (S' := T21.setTop (mkF m 168 #[.val (.int p0), .val (.int p1), .val (.int p2), .val (.int p3), .val (.int p4), .val (.int (f3 p1 (160 : Int32) (191 : Int32)))] [(.int (64 : Int32)), (.int (p1 - (128 : Int32))), (.int ((p0 - (224 : Int32)) * (4096 : Int32)))])) (fun _ k => XS.bipush X21.here hx rfl (hb hby d2_166) k) ?_
                  refine Goes.step (S' := T21.setTop (mkF m 169 #[.val (.int p0), .val (.int p1), .val (.int p2), .val (.int p3), .val (.int p4), .val (.int (f3 p1 (160 : Int32) (191 : Int32)))] [(.int ((p1 - (128 : Int32)) * (64 : Int32))), (.int ((p0 - (224 : Int32)) * (4096 : Int32)))])) (fun _ k => XS.imul X21.here hx rfl (hb hby d2_168) rfl k) ?_
                  refine Goes.step (S' := T21.setTop (mkF m 170 #[.val (.int p0), .val (.int p1), .val (.int p2), .val (.int p3), .val (.int p4), .val (.int (f3 p1 (160 : Int32) (191 : Int32)))] [(.int (((p0 - (224 : Int32)) * (4096 : Int32)) + ((p1 - (128 : Int32)) * (64 : Int32))))])) (fun _ k => XS.iadd X21.here hx rfl (hb hby d2_169) rfl k) ?_
                  refine Goes.step (S' := T21.setTop (mkF m 171 #[.val (.int p0), .val (.int p1), .val (.int p2), .val (.int p3), .val (.int p4), .val (.int (f3 p1 (160 : Int32) (191 : Int32)))] [(.int p2), (.int (((p0 - (224 : Int32)) * (4096 : Int32)) + ((p1 - (128 : Int32)) * (64 : Int32))))])) (fun _ k => XS.iloadN X21.here hx rfl (hb hby d2_170) rfl  k) ?_
                  refine Goes.step (S' := T21.setTop (mkF m 174 #[.val (.int p0), .val (.int p1), .val (.int p2), .val (.int p3), .val (.int p4), .val (.int (f3 p1 (160 : Int32) (191 : Int32)))] [(.int (128 : Int32)), (.int p2), (.int (((p0 - (224 : Int32)) * (4096 : Int32)) + ((p1 - (128 : Int32)) * (64 : Int32))))])) (fun _ k => XS.sipush X21.here hx rfl (hb hby d2_171) k) ?_
                  refine Goes.step (S' := T21.setTop (mkF m 175 #[.val (.int p0), .val (.int p1), .val (.int p2), .val (.int p3), .val (.int p4), .val (.int (f3 p1 (160 : Int32) (191 : Int32)))] [(.int (p2 - (128 : Int32))), (.int (((p0 - (224 : Int32)) * (4096 : Int32)) + ((p1 - (128 : Int32)) * (64 : Int32))))])) (fun _ k => XS.isub X21.here hx rfl (hb hby d2_174) rfl k) ?_
                  refine Goes.step (S' := T21.setTop (mkF m 176 #[.val (.int p0), .val (.int p1), .val (.int p2), .val (.int p3), .val (.int p4), .val (.int (f3 p1 (160 : Int32) (191 : Int32)))] [(.int ((((p0 - (224 : Int32)) * (4096 : Int32)) + ((p1 - (128 : Int32)) * (64 : Int32))) + (p2 - (128 : Int32))))])) (fun _ k => XS.iadd X21.here hx rfl (hb hby d2_175) rfl k) ?_
                  refine Goes.retI X21 hx Bd.notSynchronized Bd.returns (hb hby d2_176) (by decide) (by decide) ?_
                  refine ⟨congrArg (fun z => some (Value.int z)) ?_, N22, e21⟩
                  rw [f2, if_pos hc3_1, if_neg hc12_2, if_pos hc19_3, if_neg hc69_4, if_pos hc76_20, if_neg hc131_21, if_neg hc136_22, if_neg hc149_23]
                  try rfl
          · refine Goes.step (S' := s₁.setTop (mkF m 94 #[.val (.int p0), .val (.int p1), .val (.int p2), .val (.int p3), .val (.int p4), .unset] [])) (fun _ k => XS.icmpYes X0.here hx rfl (pc0 := 76) (pc' := 94) rfl (hb hby d2_76) rfl (feq hc76_20).2 (by decide) (by decide) k) ?_
            refine Goes.step (S' := s₁.setTop (mkF m 95 #[.val (.int p0), .val (.int p1), .val (.int p2), .val (.int p3), .val (.int p4), .unset] [(.int p0)])) (fun _ k => XS.iloadN X0.here hx rfl (hb hby d2_94) rfl  k) ?_
            refine Goes.step (S' := s₁.setTop (mkF m 98 #[.val (.int p0), .val (.int p1), .val (.int p2), .val (.int p3), .val (.int p4), .unset] [(.int (237 : Int32)), (.int p0)])) (fun _ k => XS.sipush X0.here hx rfl (hb hby d2_95) k) ?_
            by_cases hc98_24 : p0 = (237 : Int32)
            · refine Goes.step (S' := s₁.setTop (mkF m 101 #[.val (.int p0), .val (.int p1), .val (.int p2), .val (.int p3), .val (.int p4), .unset] [])) (fun _ k => XS.icmpNo X0.here hx rfl (hb hby d2_98) rfl (teq hc98_24).2 k) ?_
              refine Goes.step (S' := s₁.setTop (mkF m 102 #[.val (.int p0), .val (.int p1), .val (.int p2), .val (.int p3), .val (.int p4), .unset] [(.int p1)])) (fun _ k => XS.iloadN X0.here hx rfl (hb hby d2_101) rfl  k) ?_
              refine Goes.step (S' := s₁.setTop (mkF m 105 #[.val (.int p0), .val (.int p1), .val (.int p2), .val (.int p3), .val (.int p4), .unset] [(.int (128 : Int32)), (.int p1)])) (fun _ k => XS.sipush X0.here hx rfl (hb hby d2_102) k) ?_
              refine Goes.step (S' := s₁.setTop (mkF m 108 #[.val (.int p0), .val (.int p1), .val (.int p2), .val (.int p3), .val (.int p4), .unset] [(.int (159 : Int32)), (.int (128 : Int32)), (.int p1)])) (fun _ k => XS.sipush X0.here hx rfl (hb hby d2_105) k) ?_
              obtain ⟨_, _, ⟨T23, L23, k23, n23⟩, -, X23, ⟨Lc23, hQ23, l23, y23, z23⟩, st23⟩ := Jvm.LawKit.callS X0 hx (y := (⟨"com/example/leaderline/leaderline/Utf8DecodePinLaw", "in", "(III)Z"⟩ : MethodName)) hown (mvT hZ (hw _ (List.mem_of_getElem? (i := 9) rfl))) (mvT hZ (hw _ (List.mem_of_getElem? (i := 10) rfl))) (mvT hZ (hw _ (List.mem_of_getElem? (i := 7) rfl))) (mvT hZ (hw _ (List.mem_of_getElem? (i := 11) rfl))) (by decide) (backOf (W := 0) (rm3 l Z a0 hw [] p1 (128 : Int32) (159 : Int32) h0 n0 Z0) hZ (hw _ (List.mem_of_getElem? (i := 11) rfl)) (hw _ (List.mem_of_getElem? (i := 7) rfl)) (by decide) (by decide)) (g := (mkF m 108 #[.val (.int p0), .val (.int p1), .val (.int p2), .val (.int p3), .val (.int p4), .unset] [(.int (159 : Int32)), (.int (128 : Int32)), (.int p1)])) rfl (by rw [hml]; rfl) (argsL := [(.int p1), (.int (128 : Int32)), (.int (159 : Int32))]) (rest := []) (lenOf pd0 rfl) rfl (by show 2 * 0 + _ ≤ _; exact Nat.le_of_eq rfl) (hb hby d2_108) (fun _ _ => ⟨rfl, e0, (by decide : 0 + 0 ≤ _), (by decide : 0 + 0 ≤ _)⟩)
              dsimp only [Pt.U, Pt.locs, Pt.cells, Pt.slots] at X23 l23 y23 z23 st23 hQ23
              subst l23 y23 z23
              obtain ⟨rfl, N23q, e23⟩ := hQ23
              have N24 := Fr.app N0 N23q
              refine Goes.step (S' := T23.setTop (mkF m 111 #[.val (.int p0), .val (.int p1), .val (.int p2), .val (.int p3), .val (.int p4), .unset] [(.int (f3 p1 (128 : Int32) (159 : Int32)))])) st23 ?_
              refine Goes.step (S' := T23.setTop (mkF m 113 #[.val (.int p0), .val (.int p1), .val (.int p2), .val (.int p3), .val (.int p4), .val (.int (f3 p1 (128 : Int32) (159 : Int32)))] [])) (fun _ k => XS.istore X23.here hx rfl (hb hby d2_111) rfl (l' := #[.val (.int p0), .val (.int p1), .val (.int p2), .val (.int p3), .val (.int p4), .val (.int (f3 p1 (128 : Int32) (159 : Int32)))]) rfl k) ?_
              refine Goes.step (S' := T23.setTop (mkF m 128 #[.val (.int p0), .val (.int p1), .val (.int p2), .val (.int p3), .val (.int p4), .val (.int (f3 p1 (128 : Int32) (159 : Int32)))] [])) (fun _ k => XS.goto X23.here hx rfl (pc0 := 113) (pc' := 128) rfl (hb hby d2_113) (by decide) (by decide) k) ?_
              refine Goes.step (S' := T23.setTop (mkF m 130 #[.val (.int p0), .val (.int p1), .val (.int p2), .val (.int p3), .val (.int p4), .val (.int (f3 p1 (128 : Int32) (159 : Int32)))] [(.int p4)])) (fun _ k => XS.iload X23.here hx rfl (hb hby d2_128) rfl  k) ?_
              refine Goes.step (S' := T23.setTop (mkF m 131 #[.val (.int p0), .val (.int p1), .val (.int p2), .val (.int p3), .val (.int p4), .val (.int (f3 p1 (128 : Int32) (159 : Int32)))] [(.int (3 : Int32)), (.int p4)])) (fun _ k => XS.iconst X23.here hx rfl (hb hby d2_130) k) ?_
              by_cases hc131_25 : p4 < (3 : Int32)
              · refine Goes.step (S' := T23.setTop (mkF m 177 #[.val (.int p0), .val (.int p1), .val (.int p2), .val (.int p3), .val (.int p4), .val (.int (f3 p1 (128 : Int32) (159 : Int32)))] [])) (fun _ k => XS.icmpYes X23.here hx rfl (pc0 := 131) (pc' := 177) rfl (hb hby d2_131) rfl (tlt hc131_25).1 (by decide) (by decide) k) ?_
                refine Goes.step (S' := T23.setTop (mkF m 178 #[.val (.int p0), .val (.int p1), .val (.int p2), .val (.int p3), .val (.int p4), .val (.int (f3 p1 (128 : Int32) (159 : Int32)))] [(.int (-1 : Int32))])) (fun _ k => XS.iconst X23.here hx rfl (hb hby d2_177) k) ?_
                refine Goes.retI X23 hx Bd.notSynchronized Bd.returns (hb hby d2_178) (by decide) (by decide) ?_
                refine ⟨congrArg (fun z => some (Value.int z)) ?_, N24, e23⟩
                rw [f2, if_pos hc3_1, if_neg hc12_2, if_pos hc19_3, if_neg hc69_4, if_neg hc76_20, if_pos hc98_24, if_pos hc131_25]
                try rfl
              · refine Goes.step (S' := T23.setTop (mkF m 134 #[.val (.int p0), .val (.int p1), .val (.int p2), .val (.int p3), .val (.int p4), .val (.int (f3 p1 (128 : Int32) (159 : Int32)))] [])) (fun _ k => XS.icmpNo X23.here hx rfl (hb hby d2_131) rfl (flt hc131_25).1 k) ?_
                refine Goes.step (S' := T23.setTop (mkF m 136 #[.val (.int p0), .val (.int p1), .val (.int p2), .val (.int p3), .val (.int p4), .val (.int (f3 p1 (128 : Int32) (159 : Int32)))] [(.int (f3 p1 (128 : Int32) (159 : Int32)))])) (fun _ k => XS.iload X23.here hx rfl (hb hby d2_134) rfl  k) ?_
                by_cases hc136_26 : (f3 p1 (128 : Int32) (159 : Int32)) = (0 : Int32)
                · refine Goes.step (S' := T23.setTop (mkF m 177 #[.val (.int p0), .val (.int p1), .val (.int p2), .val (.int p3), .val (.int p4), .val (.int (f3 p1 (128 : Int32) (159 : Int32)))] [])) (fun _ k => XS.ifYes X23.here hx rfl (pc0 := 136) (pc' := 177) rfl (hb hby d2_136) rfl ((if0 _ _).trans (teq hc136_26).1) (by decide) (by decide) k) ?_
                  refine Goes.step (S' := T23.setTop (mkF m 178 #[.val (.int p0), .val (.int p1), .val (.int p2), .val (.int p3), .val (.int p4), .val (.int (f3 p1 (128 : Int32) (159 : Int32)))] [(.int (-1 : Int32))])) (fun _ k => XS.iconst X23.here hx rfl (hb hby d2_177) k) ?_
                  refine Goes.retI X23 hx Bd.notSynchronized Bd.returns (hb hby d2_178) (by decide) (by decide) ?_
                  refine ⟨congrArg (fun z => some (Value.int z)) ?_, N24, e23⟩
                  rw [f2, if_pos hc3_1, if_neg hc12_2, if_pos hc19_3, if_neg hc69_4, if_neg hc76_20, if_pos hc98_24, if_neg hc131_25, if_pos hc136_26]
                  try rfl
                · refine Goes.step (S' := T23.setTop (mkF m 139 #[.val (.int p0), .val (.int p1), .val (.int p2), .val (.int p3), .val (.int p4), .val (.int (f3 p1 (128 : Int32) (159 : Int32)))] [])) (fun _ k => XS.ifNo X23.here hx rfl (hb hby d2_136) rfl ((if0 _ _).trans (feq hc136_26).1) k) ?_
                  refine Goes.step (S' := T23.setTop (mkF m 140 #[.val (.int p0), .val (.int p1), .val (.int p2), .val (.int p3), .val (.int p4), .val (.int (f3 p1 (128 : Int32) (159 : Int32)))] [(.int p2)])) (fun _ k => XS.iloadN X23.here hx rfl (hb hby d2_139) rfl  k) ?_
                  refine Goes.step (S' := T23.setTop (mkF m 143 #[.val (.int p0), .val (.int p1), .val (.int p2), .val (.int p3), .val (.int p4), .val (.int (f3 p1 (128 : Int32) (159 : Int32)))] [(.int (128 : Int32)), (.int p2)])) (fun _ k => XS.sipush X23.here hx rfl (hb hby d2_140) k) ?_
                  refine Goes.step (S' := T23.setTop (mkF m 146 #[.val (.int p0), .val (.int p1), .val (.int p2), .val (.int p3), .val (.int p4), .val (.int (f3 p1 (128 : Int32) (159 : Int32)))] [(.int (191 : Int32)), (.int (128 : Int32)), (.int p2)])) (fun _ k => XS.sipush X23.here hx rfl (hb hby d2_143) k) ?_
                  obtain ⟨_, _, ⟨T25, L25, k25, n25⟩, -, X25, ⟨Lc25, hQ25, l25, y25, z25⟩, st25⟩ := Jvm.LawKit.callS X23 hx (y := (⟨"com/example/leaderline/leaderline/Utf8DecodePinLaw", "in", "(III)Z"⟩ : MethodName)) hown (mvT hZ (hw _ (List.mem_of_getElem? (i := 9) rfl))) (mvT hZ (hw _ (List.mem_of_getElem? (i := 10) rfl))) (mvT hZ (hw _ (List.mem_of_getElem? (i := 7) rfl))) (mvT hZ (hw _ (List.mem_of_getElem? (i := 11) rfl))) (by decide) (backOf (W := 0) (rm3 l Z a0 hw [] p2 (128 : Int32) (191 : Int32) h0 n0 Z0) hZ (hw _ (List.mem_of_getElem? (i := 11) rfl)) (hw _ (List.mem_of_getElem? (i := 7) rfl)) (by decide) (by decide)) (g := (mkF m 146 #[.val (.int p0), .val (.int p1), .val (.int p2), .val (.int p3), .val (.int p4), .val (.int (f3 p1 (128 : Int32) (159 : Int32)))] [(.int (191 : Int32)), (.int (128 : Int32)), (.int p2)])) rfl (by rw [hml]; rfl) (argsL := [(.int p2), (.int (128 : Int32)), (.int (191 : Int32))]) (rest := []) (lenOf pd0 rfl) rfl (by show 2 * 0 + _ ≤ _; exact Nat.le_of_eq rfl) (hb hby d2_146) (fun _ _ => ⟨rfl, e23, (by decide : 0 + 0 ≤ _), (by decide : 0 + 0 ≤ _)⟩)
                  dsimp only [Pt.U, Pt.locs, Pt.cells, Pt.slots] at X25 l25 y25 z25 st25 hQ25
                  subst l25 y25 z25
                  obtain ⟨rfl, N25q, e25⟩ := hQ25
                  have N26 := Fr.app N24 N25q
                  refine Goes.step (S' := T25.setTop (mkF m 149 #[.val (.int p0), .val (.int p1), .val (.int p2), .val (.int p3), .val (.int p4), .val (.int (f3 p1 (128 : Int32) (159 : Int32)))] [(.int (f3 p2 (128 : Int32) (191 : Int32)))])) st25 ?_
                  by_cases hc149_27 : (f3 p2 (128 : Int32) (191 : Int32)) = (0 : Int32)
                  · refine Goes.step (S' := T25.setTop (mkF m 177 #[.val (.int p0), .val (.int p1), .val (.int p2), .val (.int p3), .val (.int p4), .val (.int (f3 p1 (128 : Int32) (159 : Int32)))] [])) (fun _ k => XS.ifYes X25.here hx rfl (pc0 := 149) (pc' := 177) rfl (hb hby d2_149) rfl ((if0 _ _).trans (teq hc149_27).1) (by decide) (by decide) k) ?_
                    refine Goes.step (S' := T25.setTop (mkF m 178 #[.val (.int p0), .val (.int p1), .val (.int p2), .val (.int p3), .val (.int p4), .val (.int (f3 p1 (128 : Int32) (159 : Int32)))] [(.int (-1 : Int32))])) (fun _ k => XS.iconst X25.here hx rfl (hb hby d2_177) k) ?_
                    refine Goes.retI X25 hx Bd.notSynchronized Bd.returns (hb hby d2_178) (by decide) (by decide) ?_
                    refine ⟨congrArg (fun z => some (Value.int z)) ?_, N26, e25⟩
                    rw [f2, if_pos hc3_1, if_neg hc12_2, if_pos hc19_3, if_neg hc69_4, if_neg hc76_20, if_pos hc98_24, if_neg hc131_25, if_neg hc136_26, if_pos hc149_27]
                    try rfl
                  · refine Goes.step (S' := T25.setTop (mkF m 152 #[.val (.int p0), .val (.int p1), .val (.int p2), .val (.int p3), .val (.int p4), .val (.int (f3 p1 (128 : Int32) (159 : Int32)))] [])) (fun _ k => XS.ifNo X25.here hx rfl (hb hby d2_149) rfl ((if0 _ _).trans (feq hc149_27).1) k) ?_
                    refine Goes.step (S' := T25.setTop (mkF m 153 #[.val (.int p0), .val (.int p1), .val (.int p2), .val (.int p3), .val (.int p4), .val (.int (f3 p1 (128 : Int32) (159 : Int32)))] [(.int p0)])) (fun _ k => XS.iloadN X25.here hx rfl (hb hby d2_152) rfl  k) ?_
                    refine Goes.step (S' := T25.setTop (mkF m 156 #[.val (.int p0), .val (.int p1), .val (.int p2), .val (.int p3), .val (.int p4), .val (.int (f3 p1 (128 : Int32) (159 : Int32)))] [(.int (224 : Int32)), (.int p0)])) (fun _ k => XS.sipush X25.here hx rfl (hb hby d2_153) k) ?_
                    refine Goes.step (S' := T25.setTop (mkF m 157 #[.val (.int p0), .val (.int p1), .val (.int p2), .val (.int p3), .val (.int p4), .val (.int (f3 p1 (128 : Int32) (159 : Int32)))] [(.int (p0 - (224 : Int32)))])) (fun _ k => XS.isub X25.here hx rfl (hb hby d2_156) rfl k) ?_
                    refine Goes.step (S' := T25.setTop (mkF m 160 #[.val (.int p0), .val (.int p1), .val (.int p2), .val (.int p3), .val (.int p4), .val (.int (f3 p1 (128 : Int32) (159 : Int32)))] [(.int (4096 : Int32)), (.int (p0 - (224 : Int32)))])) (fun _ k => XS.sipush X25.here hx rfl (hb hby d2_157) k) ?_
                    refine Goes.step (S' := T25.setTop (mkF m 161 #[.val (.int p0), .val (.int p1), .val (.int p2), .val (.int p3), .val (.int p4), .val (.int (f3 p1 (128 : Int32) (159 : Int32)))] [(.int ((p0 - (224 : Int32)) * (4096 : Int32)))])) (fun _ k => XS.imul X25.here hx rfl (hb hby d2_160) rfl k) ?_
                    refine Goes.step (S' := T25.setTop (mkF m 162 #[.val (.int p0), .val (.int p1), .val (.int p2), .val (.int p3), .val (.int p4), .val (.int (f3 p1 (128 : Int32) (159 : Int32)))] [(.int p1), (.int ((p0 - (224 : Int32)) * (4096 : Int32)))])) (fun _ k => XS.iloadN X25.here hx rfl (hb hby d2_161) rfl  k) ?_
                    refine Goes.step (S' := T25.setTop (mkF m 165 #[.val (.int p0), .val (.int p1), .val (.int p2), .val (.int p3), .val (.int p4), .val (.int (f3 p1 (128 : Int32) (159 : Int32)))] [(.int (128 : Int32)), (.int p1), (.int ((p0 - (224 : Int32)) * (4096 : Int32)))])) (fun _ k => XS.sipush X25.here hx rfl (hb hby d2_162) k) ?_
                    refine Goes.step (S' := T25.setTop (mkF m 166 #[.val (.int p0), .val (.int p1), .val (.int p2), .val (.int p3), .val (.int p4), .val (.int (f3 p1 (128 : Int32) (159 : Int32)))] [(.int (p1 - (128 : Int32))), (.int ((p0 - (224 : Int32)) * (4096 : Int32)))])) (fun _ k => XS.isub X25.here hx rfl (hb hby d2_165) rfl k) ?_
                    refine Goes.step (S' := T25.setTop (mkF m 168 #[.val (.int p0), .val (.int p1), .val (.int p2), .val (.int p3), .val (.int p4), .val (.int (f3 p1 (128 : Int32) (159 : Int32)))] [(.int (64 : Int32)), (.int (p1 - (128 : Int32))), (.int ((p0 - (224 : Int32)) * (4096 : Int32)))])) (fun _ k => XS.bipush X25.here hx rfl (hb hby d2_166) k) ?_
                    refine Goes.step (S' := T25.setTop (mkF m 169 #[.val (.int p0), .val (.int p1), .val (.int p2), .val (.int p3), .val (.int p4), .val (.int (f3 p1 (128 : Int32) (159 : Int32)))] [(.int ((p1 - (128 : Int32)) * (64 : Int32))), (.int ((p0 - (224 : Int32)) * (4096 : Int32)))])) (fun _ k => XS.imul X25.here hx rfl (hb hby d2_168) rfl k) ?_
                    refine Goes.step (S' := T25.setTop (mkF m 170 #[.val (.int p0), .val (.int p1), .val (.int p2), .val (.int p3), .val (.int p4), .val (.int (f3 p1 (128 : Int32) (159 : Int32)))] [(.int (((p0 - (224 : Int32)) * (4096 : Int32)) + ((p1 - (128 : Int32)) * (64 : Int32))))])) (fun _ k => XS.iadd X25.here hx rfl (hb hby d2_169) rfl k) ?_
                    refine Goes.step (S' := T25.setTop (mkF m 171 #[.val (.int p0), .val (.int p1), .val (.int p2), .val (.int p3), .val (.int p4), .val (.int (f3 p1 (128 : Int32) (159 : Int32)))] [(.int p2), (.int (((p0 - (224 : Int32)) * (4096 : Int32)) + ((p1 - (128 : Int32)) * (64 : Int32))))])) (fun _ k => XS.iloadN X25.here hx rfl (hb hby d2_170) rfl  k) ?_
                    refine Goes.step (S' := T25.setTop (mkF m 174 #[.val (.int p0), .val (.int p1), .val (.int p2), .val (.int p3), .val (.int p4), .val (.int (f3 p1 (128 : Int32) (159 : Int32)))] [(.int (128 : Int32)), (.int p2), (.int (((p0 - (224 : Int32)) * (4096 : Int32)) + ((p1 - (128 : Int32)) * (64 : Int32))))])) (fun _ k => XS.sipush X25.here hx rfl (hb hby d2_171) k) ?_
                    refine Goes.step (S' := T25.setTop (mkF m 175 #[.val (.int p0), .val (.int p1), .val (.int p2), .val (.int p3), .val (.int p4), .val (.int (f3 p1 (128 : Int32) (159 : Int32)))] [(.int (p2 - (128 : Int32))), (.int (((p0 - (224 : Int32)) * (4096 : Int32)) + ((p1 - (128 : Int32)) * (64 : Int32))))])) (fun _ k => XS.isub X25.here hx rfl (hb hby d2_174) rfl k) ?_
                    refine Goes.step (S' := T25.setTop (mkF m 176 #[.val (.int p0), .val (.int p1), .val (.int p2), .val (.int p3), .val (.int p4), .val (.int (f3 p1 (128 : Int32) (159 : Int32)))] [(.int ((((p0 - (224 : Int32)) * (4096 : Int32)) + ((p1 - (128 : Int32)) * (64 : Int32))) + (p2 - (128 : Int32))))])) (fun _ k => XS.iadd X25.here hx rfl (hb hby d2_175) rfl k) ?_
                    refine Goes.retI X25 hx Bd.notSynchronized Bd.returns (hb hby d2_176) (by decide) (by decide) ?_
                    refine ⟨congrArg (fun z => some (Value.int z)) ?_, N26, e25⟩
                    rw [f2, if_pos hc3_1, if_neg hc12_2, if_pos hc19_3, if_neg hc69_4, if_neg hc76_20, if_pos hc98_24, if_neg hc131_25, if_neg hc136_26, if_neg hc149_27]
                    try rfl
            · refine Goes.step (S' := s₁.setTop (mkF m 116 #[.val (.int p0), .val (.int p1), .val (.int p2), .val (.int p3), .val (.int p4), .unset] [])) (fun _ k => XS.icmpYes X0.here hx rfl (pc0 := 98) (pc' := 116) rfl (hb hby d2_98) rfl (feq hc98_24).2 (by decide) (by decide) k) ?_
              refine Goes.step (S' := s₁.setTop (mkF m 117 #[.val (.int p0), .val (.int p1), .val (.int p2), .val (.int p3), .val (.int p4), .unset] [(.int p1)])) (fun _ k => XS.iloadN X0.here hx rfl (hb hby d2_116) rfl  k) ?_
              refine Goes.step (S' := s₁.setTop (mkF m 120 #[.val (.int p0), .val (.int p1), .val (.int p2), .val (.int p3), .val (.int p4), .unset] [(.int (128 : Int32)), (.int p1)])) (fun _ k => XS.sipush X0.here hx rfl (hb hby d2_117) k) ?_
              refine Goes.step (S' := s₁.setTop (mkF m 123 #[.val (.int p0), .val (.int p1), .val (.int p2), .val (.int p3), .val (.int p4), .unset] [(.int (191 : Int32)), (.int (128 : Int32)), (.int p1)])) (fun _ k => XS.sipush X0.here hx rfl (hb hby d2_120) k) ?_
              obtain ⟨_, _, ⟨T27, L27, k27, n27⟩, -, X27, ⟨Lc27, hQ27, l27, y27, z27⟩, st27⟩ := Jvm.LawKit.callS X0 hx (y := (⟨"com/example/leaderline/leaderline/Utf8DecodePinLaw", "in", "(III)Z"⟩ : MethodName)) hown (mvT hZ (hw _ (List.mem_of_getElem? (i := 9) rfl))) (mvT hZ (hw _ (List.mem_of_getElem? (i := 10) rfl))) (mvT hZ (hw _ (List.mem_of_getElem? (i := 7) rfl))) (mvT hZ (hw _ (List.mem_of_getElem? (i := 11) rfl))) (by decide) (backOf (W := 0) (rm3 l Z a0 hw [] p1 (128 : Int32) (191 : Int32) h0 n0 Z0) hZ (hw _ (List.mem_of_getElem? (i := 11) rfl)) (hw _ (List.mem_of_getElem? (i := 7) rfl)) (by decide) (by decide)) (g := (mkF m 123 #[.val (.int p0), .val (.int p1), .val (.int p2), .val (.int p3), .val (.int p4), .unset] [(.int (191 : Int32)), (.int (128 : Int32)), (.int p1)])) rfl (by rw [hml]; rfl) (argsL := [(.int p1), (.int (128 : Int32)), (.int (191 : Int32))]) (rest := []) (lenOf pd0 rfl) rfl (by show 2 * 0 + _ ≤ _; exact Nat.le_of_eq rfl) (hb hby d2_123) (fun _ _ => ⟨rfl, e0, (by decide : 0 + 0 ≤ _), (by decide : 0 + 0 ≤ _)⟩)
              dsimp only [Pt.U, Pt.locs, Pt.cells, Pt.slots] at X27 l27 y27 z27 st27 hQ27
              subst l27 y27 z27
              obtain ⟨rfl, N27q, e27⟩ := hQ27
              have N28 := Fr.app N0 N27q
              refine Goes.step (S' := T27.setTop (mkF m 126 #[.val (.int p0), .val (.int p1), .val (.int p2), .val (.int p3), .val (.int p4), .unset] [(.int (f3 p1 (128 : Int32) (191 : Int32)))])) st27 ?_
              refine Goes.step (S' := T27.setTop (mkF m 128 #[.val (.int p0), .val (.int p1), .val (.int p2), .val (.int p3), .val (.int p4), .val (.int (f3 p1 (128 : Int32) (191 : Int32)))] [])) (fun _ k => XS.istore X27.here hx rfl (hb hby d2_126) rfl (l' := #[.val (.int p0), .val (.int p1), .val (.int p2), .val (.int p3), .val (.int p4), .val (.int (f3 p1 (128 : Int32) (191 : Int32)))]) rfl k) ?_
              refine Goes.step (S' := T27.setTop (mkF m 130 #[.val (.int p0), .val (.int p1), .val (.int p2), .val (.int p3), .val (.int p4), .val (.int (f3 p1 (128 : Int32) (191 : Int32)))] [(.int p4)])) (fun _ k => XS.iload X27.here hx rfl (hb hby d2_128) rfl  k) ?_
              refine Goes.step (S' := T27.setTop (mkF m 131 #[.val (.int p0), .val (.int p1), .val (.int p2), .val (.int p3), .val (.int p4), .val (.int (f3 p1 (128 : Int32) (191 : Int32)))] [(.int (3 : Int32)), (.int p4)])) (fun _ k => XS.iconst X27.here hx rfl (hb hby d2_130) k) ?_
              by_cases hc131_28 : p4 < (3 : Int32)
              · refine Goes.step (S' := T27.setTop (mkF m 177 #[.val (.int p0), .val (.int p1), .val (.int p2), .val (.int p3), .val (.int p4), .val (.int (f3 p1 (128 : Int32) (191 : Int32)))] [])) (fun _ k => XS.icmpYes X27.here hx rfl (pc0 := 131) (pc' := 177) rfl (hb hby d2_131) rfl (tlt hc131_28).1 (by decide) (by decide) k) ?_
                refine Goes.step (S' := T27.setTop (mkF m 178 #[.val (.int p0), .val (.int p1), .val (.int p2), .val (.int p3), .val (.int p4), .val (.int (f3 p1 (128 : Int32) (191 : Int32)))] [(.int (-1 : Int32))])) (fun _ k => XS.iconst X27.here hx rfl (hb hby d2_177) k) ?_
                refine Goes.retI X27 hx Bd.notSynchronized Bd.returns (hb hby d2_178) (by decide) (by decide) ?_
                refine ⟨congrArg (fun z => some (Value.int z)) ?_, N28, e27⟩
                rw [f2, if_pos hc3_1, if_neg hc12_2, if_pos hc19_3, if_neg hc69_4, if_neg hc76_20, if_neg hc98_24, if_pos hc131_28]
                try rfl
              · refine Goes.step (S' := T27.setTop (mkF m 134 #[.val (.int p0), .val (.int p1), .val (.int p2), .val (.int p3), .val (.int p4), .val (.int (f3 p1 (128 : Int32) (191 : Int32)))] [])) (fun _ k => XS.icmpNo X27.here hx rfl (hb hby d2_131) rfl (flt hc131_28).1 k) ?_
                refine Goes.step (S' := T27.setTop (mkF m 136 #[.val (.int p0), .val (.int p1), .val (.int p2), .val (.int p3), .val (.int p4), .val (.int (f3 p1 (128 : Int32) (191 : Int32)))] [(.int (f3 p1 (128 : Int32) (191 : Int32)))])) (fun _ k => XS.iload X27.here hx rfl (hb hby d2_134) rfl  k) ?_
                by_cases hc136_29 : (f3 p1 (128 : Int32) (191 : Int32)) = (0 : Int32)
                · refine Goes.step (S' := T27.setTop (mkF m 177 #[.val (.int p0), .val (.int p1), .val (.int p2), .val (.int p3), .val (.int p4), .val (.int (f3 p1 (128 : Int32) (191 : Int32)))] [])) (fun _ k => XS.ifYes X27.here hx rfl (pc0 := 136) (pc' := 177) rfl (hb hby d2_136) rfl ((if0 _ _).trans (teq hc136_29).1) (by decide) (by decide) k) ?_
                  refine Goes.step (S' := T27.setTop (mkF m 178 #[.val (.int p0), .val (.int p1), .val (.int p2), .val (.int p3), .val (.int p4), .val (.int (f3 p1 (128 : Int32) (191 : Int32)))] [(.int (-1 : Int32))])) (fun _ k => XS.iconst X27.here hx rfl (hb hby d2_177) k) ?_
                  refine Goes.retI X27 hx Bd.notSynchronized Bd.returns (hb hby d2_178) (by decide) (by decide) ?_
                  refine ⟨congrArg (fun z => some (Value.int z)) ?_, N28, e27⟩
                  rw [f2, if_pos hc3_1, if_neg hc12_2, if_pos hc19_3, if_neg hc69_4, if_neg hc76_20, if_neg hc98_24, if_neg hc131_28, if_pos hc136_29]
                  try rfl
                · refine Goes.step (S' := T27.setTop (mkF m 139 #[.val (.int p0), .val (.int p1), .val (.int p2), .val (.int p3), .val (.int p4), .val (.int (f3 p1 (128 : Int32) (191 : Int32)))] [])) (fun _ k => XS.ifNo X27.here hx rfl (hb hby d2_136) rfl ((if0 _ _).trans (feq hc136_29).1) k) ?_
                  refine Goes.step (S' := T27.setTop (mkF m 140 #[.val (.int p0), .val (.int p1), .val (.int p2), .val (.int p3), .val (.int p4), .val (.int (f3 p1 (128 : Int32) (191 : Int32)))] [(.int p2)])) (fun _ k => XS.iloadN X27.here hx rfl (hb hby d2_139) rfl  k) ?_
                  refine Goes.step (S' := T27.setTop (mkF m 143 #[.val (.int p0), .val (.int p1), .val (.int p2), .val (.int p3), .val (.int p4), .val (.int (f3 p1 (128 : Int32) (191 : Int32)))] [(.int (128 : Int32)), (.int p2)])) (fun _ k => XS.sipush X27.here hx rfl (hb hby d2_140) k) ?_
                  refine Goes.step (S' := T27.setTop (mkF m 146 #[.val (.int p0), .val (.int p1), .val (.int p2), .val (.int p3), .val (.int p4), .val (.int (f3 p1 (128 : Int32) (191 : Int32)))] [(.int (191 : Int32)), (.int (128 : Int32)), (.int p2)])) (fun _ k => XS.sipush X27.here hx rfl (hb hby d2_143) k) ?_
                  obtain ⟨_, _, ⟨T29, L29, k29, n29⟩, -, X29, ⟨Lc29, hQ29, l29, y29, z29⟩, st29⟩ := Jvm.LawKit.callS X27 hx (y := (⟨"com/example/leaderline/leaderline/Utf8DecodePinLaw", "in", "(III)Z"⟩ : MethodName)) hown (mvT hZ (hw _ (List.mem_of_getElem? (i := 9) rfl))) (mvT hZ (hw _ (List.mem_of_getElem? (i := 10) rfl))) (mvT hZ (hw _ (List.mem_of_getElem? (i := 7) rfl))) (mvT hZ (hw _ (List.mem_of_getElem? (i := 11) rfl))) (by decide) (backOf (W := 0) (rm3 l Z a0 hw [] p2 (128 : Int32) (191 : Int32) h0 n0 Z0) hZ (hw _ (List.mem_of_getElem? (i := 11) rfl)) (hw _ (List.mem_of_getElem? (i := 7) rfl)) (by decide) (by decide)) (g := (mkF m 146 #[.val (.int p0), .val (.int p1), .val (.int p2), .val (.int p3), .val (.int p4), .val (.int (f3 p1 (128 : Int32) (191 : Int32)))] [(.int (191 : Int32)), (.int (128 : Int32)), (.int p2)])) rfl (by rw [hml]; rfl) (argsL := [(.int p2), (.int (128 : Int32)), (.int (191 : Int32))]) (rest := []) (lenOf pd0 rfl) rfl (by show 2 * 0 + _ ≤ _; exact Nat.le_of_eq rfl) (hb hby d2_146) (fun _ _ => ⟨rfl, e27, (by decide : 0 + 0 ≤ _), (by decide : 0 + 0 ≤ _)⟩)
                  dsimp only [Pt.U, Pt.locs, Pt.cells, Pt.slots] at X29 l29 y29 z29 st29 hQ29
                  subst l29 y29 z29
                  obtain ⟨rfl, N29q, e29⟩ := hQ29
                  have N30 := Fr.app N28 N29q
                  refine Goes.step (S' := T29.setTop (mkF m 149 #[.val (.int p0), .val (.int p1), .val (.int p2), .val (.int p3), .val (.int p4), .val (.int (f3 p1 (128 : Int32) (191 : Int32)))] [(.int (f3 p2 (128 : Int32) (191 : Int32)))])) st29 ?_
                  by_cases hc149_30 : (f3 p2 (128 : Int32) (191 : Int32)) = (0 : Int32)
                  · refine Goes.step (S' := T29.setTop (mkF m 177 #[.val (.int p0), .val (.int p1), .val (.int p2), .val (.int p3), .val (.int p4), .val (.int (f3 p1 (128 : Int32) (191 : Int32)))] [])) (fun _ k => XS.ifYes X29.here hx rfl (pc0 := 149) (pc' := 177) rfl (hb hby d2_149) rfl ((if0 _ _).trans (teq hc149_30).1) (by decide) (by decide) k) ?_
                    refine Goes.step (S' := T29.setTop (mkF m 178 #[.val (.int p0), .val (.int p1), .val (.int p2), .val (.int p3), .val (.int p4), .val (.int (f3 p1 (128 : Int32) (191 : Int32)))] [(.int (-1 : Int32))])) (fun _ k => XS.iconst X29.here hx rfl (hb hby d2_177) k) ?_
                    refine Goes.retI X29 hx Bd.notSynchronized Bd.returns (hb hby d2_178) (by decide) (by decide) ?_
                    refine ⟨congrArg (fun z => some (Value.int z)) ?_, N30, e29⟩
                    rw [f2, if_pos hc3_1, if_neg hc12_2, if_pos hc19_3, if_neg hc69_4, if_neg hc76_20, if_neg hc98_24, if_neg hc131_28, if_neg hc136_29, if_pos hc149_30]
                    try rfl
                  · refine Goes.step (S' := T29.setTop (mkF m 152 #[.val (.int p0), .val (.int p1), .val (.int p2), .val (.int p3), .val (.int p4), .val (.int (f3 p1 (128 : Int32) (191 : Int32)))] [])) (fun _ k => XS.ifNo X29.here hx rfl (hb hby d2_149) rfl ((if0 _ _).trans (feq hc149_30).1) k) ?_
                    refine Goes.step (S' := T29.setTop (mkF m 153 #[.val (.int p0), .val (.int p1), .val (.int p2), .val (.int p3), .val (.int p4), .val (.int (f3 p1 (128 : Int32) (191 : Int32)))] [(.int p0)])) (fun _ k => XS.iloadN X29.here hx rfl (hb hby d2_152) rfl  k) ?_
                    refine Goes.step (S' := T29.setTop (mkF m 156 #[.val (.int p0), .val (.int p1), .val (.int p2), .val (.int p3), .val (.int p4), .val (.int (f3 p1 (128 : Int32) (191 : Int32)))] [(.int (224 : Int32)), (.int p0)])) (fun _ k => XS.sipush X29.here hx rfl (hb hby d2_153) k) ?_
                    refine Goes.step (S' := T29.setTop (mkF m 157 #[.val (.int p0), .val (.int p1), .val (.int p2), .val (.int p3), .val (.int p4), .val (.int (f3 p1 (128 : Int32) (191 : Int32)))] [(.int (p0 - (224 : Int32)))])) (fun _ k => XS.isub X29.here hx rfl (hb hby d2_156) rfl k) ?_
                    refine Goes.step (S' := T29.setTop (mkF m 160 #[.val (.int p0), .val (.int p1), .val (.int p2), .val (.int p3), .val (.int p4), .val (.int (f3 p1 (128 : Int32) (191 : Int32)))] [(.int (4096 : Int32)), (.int (p0 - (224 : Int32)))])) (fun _ k => XS.sipush X29.here hx rfl (hb hby d2_157) k) ?_
                    refine Goes.step (S' := T29.setTop (mkF m 161 #[.val (.int p0), .val (.int p1), .val (.int p2), .val (.int p3), .val (.int p4), .val (.int (f3 p1 (128 : Int32) (191 : Int32)))] [(.int ((p0 - (224 : Int32)) * (4096 : Int32)))])) (fun _ k => XS.imul X29.here hx rfl (hb hby d2_160) rfl k) ?_
                    refine Goes.step (S' := T29.setTop (mkF m 162 #[.val (.int p0), .val (.int p1), .val (.int p2), .val (.int p3), .val (.int p4), .val (.int (f3 p1 (128 : Int32) (191 : Int32)))] [(.int p1), (.int ((p0 - (224 : Int32)) * (4096 : Int32)))])) (fun _ k => XS.iloadN X29.here hx rfl (hb hby d2_161) rfl  k) ?_
                    refine Goes.step (S' := T29.setTop (mkF m 165 #[.val (.int p0), .val (.int p1), .val (.int p2), .val (.int p3), .val (.int p4), .val (.int (f3 p1 (128 : Int32) (191 : Int32)))] [(.int (128 : Int32)), (.int p1), (.int ((p0 - (224 : Int32)) * (4096 : Int32)))])) (fun _ k => XS.sipush X29.here hx rfl (hb hby d2_162) k) ?_
                    refine Goes.step (S' := T29.setTop (mkF m 166 #[.val (.int p0), .val (.int p1), .val (.int p2), .val (.int p3), .val (.int p4), .val (.int (f3 p1 (128 : Int32) (191 : Int32)))] [(.int (p1 - (128 : Int32))), (.int ((p0 - (224 : Int32)) * (4096 : Int32)))])) (fun _ k => XS.isub X29.here hx rfl (hb hby d2_165) rfl k) ?_
                    refine Goes.step (S' := T29.setTop (mkF m 168 #[.val (.int p0), .val (.int p1), .val (.int p2), .val (.int p3), .val (.int p4), .val (.int (f3 p1 (128 : Int32) (191 : Int32)))] [(.int (64 : Int32)), (.int (p1 - (128 : Int32))), (.int ((p0 - (224 : Int32)) * (4096 : Int32)))])) (fun _ k => XS.bipush X29.here hx rfl (hb hby d2_166) k) ?_
                    refine Goes.step (S' := T29.setTop (mkF m 169 #[.val (.int p0), .val (.int p1), .val (.int p2), .val (.int p3), .val (.int p4), .val (.int (f3 p1 (128 : Int32) (191 : Int32)))] [(.int ((p1 - (128 : Int32)) * (64 : Int32))), (.int ((p0 - (224 : Int32)) * (4096 : Int32)))])) (fun _ k => XS.imul X29.here hx rfl (hb hby d2_168) rfl k) ?_
                    refine Goes.step (S' := T29.setTop (mkF m 170 #[.val (.int p0), .val (.int p1), .val (.int p2), .val (.int p3), .val (.int p4), .val (.int (f3 p1 (128 : Int32) (191 : Int32)))] [(.int (((p0 - (224 : Int32)) * (4096 : Int32)) + ((p1 - (128 : Int32)) * (64 : Int32))))])) (fun _ k => XS.iadd X29.here hx rfl (hb hby d2_169) rfl k) ?_
                    refine Goes.step (S' := T29.setTop (mkF m 171 #[.val (.int p0), .val (.int p1), .val (.int p2), .val (.int p3), .val (.int p4), .val (.int (f3 p1 (128 : Int32) (191 : Int32)))] [(.int p2), (.int (((p0 - (224 : Int32)) * (4096 : Int32)) + ((p1 - (128 : Int32)) * (64 : Int32))))])) (fun _ k => XS.iloadN X29.here hx rfl (hb hby d2_170) rfl  k) ?_
                    refine Goes.step (S' := T29.setTop (mkF m 174 #[.val (.int p0), .val (.int p1), .val (.int p2), .val (.int p3), .val (.int p4), .val (.int (f3 p1 (128 : Int32) (191 : Int32)))] [(.int (128 : Int32)), (.int p2), (.int (((p0 - (224 : Int32)) * (4096 : Int32)) + ((p1 - (128 : Int32)) * (64 : Int32))))])) (fun _ k => XS.sipush X29.here hx rfl (hb hby d2_171) k) ?_
                    refine Goes.step (S' := T29.setTop (mkF m 175 #[.val (.int p0), .val (.int p1), .val (.int p2), .val (.int p3), .val (.int p4), .val (.int (f3 p1 (128 : Int32) (191 : Int32)))] [(.int (p2 - (128 : Int32))), (.int (((p0 - (224 : Int32)) * (4096 : Int32)) + ((p1 - (128 : Int32)) * (64 : Int32))))])) (fun _ k => XS.isub X29.here hx rfl (hb hby d2_174) rfl k) ?_
                    refine Goes.step (S' := T29.setTop (mkF m 176 #[.val (.int p0), .val (.int p1), .val (.int p2), .val (.int p3), .val (.int p4), .val (.int (f3 p1 (128 : Int32) (191 : Int32)))] [(.int ((((p0 - (224 : Int32)) * (4096 : Int32)) + ((p1 - (128 : Int32)) * (64 : Int32))) + (p2 - (128 : Int32))))])) (fun _ k => XS.iadd X29.here hx rfl (hb hby d2_175) rfl k) ?_
                    refine Goes.retI X29 hx Bd.notSynchronized Bd.returns (hb hby d2_176) (by decide) (by decide) ?_
                    refine ⟨congrArg (fun z => some (Value.int z)) ?_, N30, e29⟩
                    rw [f2, if_pos hc3_1, if_neg hc12_2, if_pos hc19_3, if_neg hc69_4, if_neg hc76_20, if_neg hc98_24, if_neg hc131_28, if_neg hc136_29, if_neg hc149_30]
                    try rfl
      · refine Goes.step (S' := s₁.setTop (mkF m 22 #[.val (.int p0), .val (.int p1), .val (.int p2), .val (.int p3), .val (.int p4), .unset] [])) (fun _ k => XS.icmpNo X0.here hx rfl (hb hby d2_19) rfl (flt hc19_3).2.2.1 k) ?_
        refine Goes.step (S' := s₁.setTop (mkF m 24 #[.val (.int p0), .val (.int p1), .val (.int p2), .val (.int p3), .val (.int p4), .unset] [(.int p4)])) (fun _ k => XS.iload X0.here hx rfl (hb hby d2_22) rfl  k) ?_
        refine Goes.step (S' := s₁.setTop (mkF m 25 #[.val (.int p0), .val (.int p1), .val (.int p2), .val (.int p3), .val (.int p4), .unset] [(.int (2 : Int32)), (.int p4)])) (fun _ k => XS.iconst X0.here hx rfl (hb hby d2_24) k) ?_
        by_cases hc25_31 : p4 < (2 : Int32)
        · refine Goes.step (S' := s₁.setTop (mkF m 56 #[.val (.int p0), .val (.int p1), .val (.int p2), .val (.int p3), .val (.int p4), .unset] [])) (fun _ k => XS.icmpYes X0.here hx rfl (pc0 := 25) (pc' := 56) rfl (hb hby d2_25) rfl (tlt hc25_31).1 (by decide) (by decide) k) ?_
          refine Goes.step (S' := s₁.setTop (mkF m 57 #[.val (.int p0), .val (.int p1), .val (.int p2), .val (.int p3), .val (.int p4), .unset] [(.int (-1 : Int32))])) (fun _ k => XS.iconst X0.here hx rfl (hb hby d2_56) k) ?_
          refine Goes.retI X0 hx Bd.notSynchronized Bd.returns (hb hby d2_57) (by decide) (by decide) ?_
          refine ⟨congrArg (fun z => some (Value.int z)) ?_, N0, e0⟩
          rw [f2, if_pos hc3_1, if_neg hc12_2, if_neg hc19_3, if_pos hc25_31]
          try rfl
        · refine Goes.step (S' := s₁.setTop (mkF m 28 #[.val (.int p0), .val (.int p1), .val (.int p2), .val (.int p3), .val (.int p4), .unset] [])) (fun _ k => XS.icmpNo X0.here hx rfl (hb hby d2_25) rfl (flt hc25_31).1 k) ?_
          refine Goes.step (S' := s₁.setTop (mkF m 29 #[.val (.int p0), .val (.int p1), .val (.int p2), .val (.int p3), .val (.int p4), .unset] [(.int p1)])) (fun _ k => XS.iloadN X0.here hx rfl (hb hby d2_28) rfl  k) ?_
          refine Goes.step (S' := s₁.setTop (mkF m 32 #[.val (.int p0), .val (.int p1), .val (.int p2), .val (.int p3), .val (.int p4), .unset] [(.int (128 : Int32)), (.int p1)])) (fun _ k => XS.sipush X0.here hx rfl (hb hby d2_29) k) ?_
          refine Goes.step (S' := s₁.setTop (mkF m 35 #[.val (.int p0), .val (.int p1), .val (.int p2), .val (.int p3), .val (.int p4), .unset] [(.int (191 : Int32)), (.int (128 : Int32)), (.int p1)])) (fun _ k => XS.sipush X0.here hx rfl (hb hby d2_32) k) ?_
          obtain ⟨_, _, ⟨T31, L31, k31, n31⟩, -, X31, ⟨Lc31, hQ31, l31, y31, z31⟩, st31⟩ := Jvm.LawKit.callS X0 hx (y := (⟨"com/example/leaderline/leaderline/Utf8DecodePinLaw", "in", "(III)Z"⟩ : MethodName)) hown (mvT hZ (hw _ (List.mem_of_getElem? (i := 9) rfl))) (mvT hZ (hw _ (List.mem_of_getElem? (i := 10) rfl))) (mvT hZ (hw _ (List.mem_of_getElem? (i := 7) rfl))) (mvT hZ (hw _ (List.mem_of_getElem? (i := 11) rfl))) (by decide) (backOf (W := 0) (rm3 l Z a0 hw [] p1 (128 : Int32) (191 : Int32) h0 n0 Z0) hZ (hw _ (List.mem_of_getElem? (i := 11) rfl)) (hw _ (List.mem_of_getElem? (i := 7) rfl)) (by decide) (by decide)) (g := (mkF m 35 #[.val (.int p0), .val (.int p1), .val (.int p2), .val (.int p3), .val (.int p4), .unset] [(.int (191 : Int32)), (.int (128 : Int32)), (.int p1)])) rfl (by rw [hml]; rfl) (argsL := [(.int p1), (.int (128 : Int32)), (.int (191 : Int32))]) (rest := []) (lenOf pd0 rfl) rfl (by show 2 * 0 + _ ≤ _; exact Nat.le_of_eq rfl) (hb hby d2_35) (fun _ _ => ⟨rfl, e0, (by decide : 0 + 0 ≤ _), (by decide : 0 + 0 ≤ _)⟩)
          dsimp only [Pt.U, Pt.locs, Pt.cells, Pt.slots] at X31 l31 y31 z31 st31 hQ31
          subst l31 y31 z31
          obtain ⟨rfl, N31q, e31⟩ := hQ31
          have N32 := Fr.app N0 N31q
          refine Goes.step (S' := T31.setTop (mkF m 38 #[.val (.int p0), .val (.int p1), .val (.int p2), .val (.int p3), .val (.int p4), .unset] [(.int (f3 p1 (128 : Int32) (191 : Int32)))])) st31 ?_
          by_cases hc38_32 : (f3 p1 (128 : Int32) (191 : Int32)) = (0 : Int32)
          · refine Goes.step (S' := T31.setTop (mkF m 56 #[.val (.int p0), .val (.int p1), .val (.int p2), .val (.int p3), .val (.int p4), .unset] [])) (fun _ k => XS.ifYes X31.here hx rfl (pc0 := 38) (pc' := 56) rfl (hb hby d2_38) rfl ((if0 _ _).trans (teq hc38_32).1) (by decide) (by decide) k) ?_
            refine Goes.step (S' := T31.setTop (mkF m 57 #[.val (.int p0), .val (.int p1), .val (.int p2), .val (.int p3), .val (.int p4), .unset] [(.int (-1 : Int32))])) (fun _ k => XS.iconst X31.here hx rfl (hb hby d2_56) k) ?_
            refine Goes.retI X31 hx Bd.notSynchronized Bd.returns (hb hby d2_57) (by decide) (by decide) ?_
            refine ⟨congrArg (fun z => some (Value.int z)) ?_, N32, e31⟩
            rw [f2, if_pos hc3_1, if_neg hc12_2, if_neg hc19_3, if_neg hc25_31, if_pos hc38_32]
            try rfl
          · refine Goes.step (S' := T31.setTop (mkF m 41 #[.val (.int p0), .val (.int p1), .val (.int p2), .val (.int p3), .val (.int p4), .unset] [])) (fun _ k => XS.ifNo X31.here hx rfl (hb hby d2_38) rfl ((if0 _ _).trans (feq hc38_32).1) k) ?_
            refine Goes.step (S' := T31.setTop (mkF m 42 #[.val (.int p0), .val (.int p1), .val (.int p2), .val (.int p3), .val (.int p4), .unset] [(.int p0)])) (fun _ k => XS.iloadN X31.here hx rfl (hb hby d2_41) rfl  k) ?_
            refine Goes.step (S' := T31.setTop (mkF m 45 #[.val (.int p0), .val (.int p1), .val (.int p2), .val (.int p3), .val (.int p4), .unset] [(.int (192 : Int32)), (.int p0)])) (fun _ k => XS.sipush X31.here hx rfl (hb hby d2_42) k) ?_
            refine Goes.step (S' := T31.setTop (mkF m 46 #[.val (.int p0), .val (.int p1), .val (.int p2), .val (.int p3), .val (.int p4), .unset] [(.int (p0 - (192 : Int32)))])) (fun _ k => XS.isub X31.here hx rfl (hb hby d2_45) rfl k) ?_
            refine Goes.step (S' := T31.setTop (mkF m 48 #[.val (.int p0), .val (.int p1), .val (.int p2), .val (.int p3), .val (.int p4), .unset] [(.int (64 : Int32)), (.int (p0 - (192 : Int32)))])) (fun _ k => XS.bipush X31.here hx rfl (hb hby d2_46) k) ?_
            refine Goes.step (S' := T31.setTop (mkF m 49 #[.val (.int p0), .val (.int p1), .val (.int p2), .val (.int p3), .val (.int p4), .unset] [(.int ((p0 - (192 : Int32)) * (64 : Int32)))])) (fun _ k => XS.imul X31.here hx rfl (hb hby d2_48) rfl k) ?_
            refine Goes.step (S' := T31.setTop (mkF m 50 #[.val (.int p0), .val (.int p1), .val (.int p2), .val (.int p3), .val (.int p4), .unset] [(.int p1), (.int ((p0 - (192 : Int32)) * (64 : Int32)))])) (fun _ k => XS.iloadN X31.here hx rfl (hb hby d2_49) rfl  k) ?_
            refine Goes.step (S' := T31.setTop (mkF m 53 #[.val (.int p0), .val (.int p1), .val (.int p2), .val (.int p3), .val (.int p4), .unset] [(.int (128 : Int32)), (.int p1), (.int ((p0 - (192 : Int32)) * (64 : Int32)))])) (fun _ k => XS.sipush X31.here hx rfl (hb hby d2_50) k) ?_
            refine Goes.step (S' := T31.setTop (mkF m 54 #[.val (.int p0), .val (.int p1), .val (.int p2), .val (.int p3), .val (.int p4), .unset] [(.int (p1 - (128 : Int32))), (.int ((p0 - (192 : Int32)) * (64 : Int32)))])) (fun _ k => XS.isub X31.here hx rfl (hb hby d2_53) rfl k) ?_
            refine Goes.step (S' := T31.setTop (mkF m 55 #[.val (.int p0), .val (.int p1), .val (.int p2), .val (.int p3), .val (.int p4), .unset] [(.int (((p0 - (192 : Int32)) * (64 : Int32)) + (p1 - (128 : Int32))))])) (fun _ k => XS.iadd X31.here hx rfl (hb hby d2_54) rfl k) ?_
            refine Goes.retI X31 hx Bd.notSynchronized Bd.returns (hb hby d2_55) (by decide) (by decide) ?_
            refine ⟨congrArg (fun z => some (Value.int z)) ?_, N32, e31⟩
            rw [f2, if_pos hc3_1, if_neg hc12_2, if_neg hc19_3, if_neg hc25_31, if_neg hc38_32]
            try rfl
  · refine Goes.step (S' := s₁.setTop (mkF m 6 #[.val (.int p0), .val (.int p1), .val (.int p2), .val (.int p3), .val (.int p4), .unset] [])) (fun _ k => XS.icmpNo X0.here hx rfl (hb hby d2_3) rfl (flt hc3_1).2.2.1 k) ?_
    refine Goes.step (S' := s₁.setTop (mkF m 7 #[.val (.int p0), .val (.int p1), .val (.int p2), .val (.int p3), .val (.int p4), .unset] [(.int p0)])) (fun _ k => XS.iloadN X0.here hx rfl (hb hby d2_6) rfl  k) ?_
    refine Goes.retI X0 hx Bd.notSynchronized Bd.returns (hb hby d2_7) (by decide) (by decide) ?_
    refine ⟨congrArg (fun z => some (Value.int z)) ?_, N0, e0⟩
    rw [f2, if_neg hc3_1]
    try rfl
theorem own_in (x lo hi : Int32) : f3 x lo hi = 0 ↔ (x < lo ∨ hi < x) := by
  unfold f3
  by_cases h : x < lo
  · rw [if_pos h]; exact ⟨fun _ => Or.inl h, fun _ => rfl⟩
  · rw [if_neg h]
    by_cases g : hi < x
    · rw [if_pos g]; exact ⟨fun _ => Or.inr g, fun _ => rfl⟩
    · rw [if_neg g]; exact ⟨fun q => absurd q (by decide), fun q => absurd q (fun q => q.elim h g)⟩
theorem own_r2 (c0 c1 : Int32) (h0 : 0 ≤ c0.toInt ∧ c0.toInt < 256) (h1 : 0 ≤ c1.toInt ∧ c1.toInt < 256) : (((c0 - (192 : Int32)) * (64 : Int32)) + (c1 - (128 : Int32))).toInt = (c0.toInt - 192) * 64 + (c1.toInt - 128) := by
  have a := c_isub c0 192
  have b := c_imul (c0 - 192) 64
  have d := c_isub c1 128
  have e := c_iadd ((c0 - 192) * 64) (c1 - 128)
  have r1 := rng32 (c0 - 192)
  have r2 := rng32 ((c0 - 192) * 64)
  have r3 := rng32 (c1 - 128)
  have r4 := rng32 ((c0 - 192) * 64 + (c1 - 128))
  simp only [Int32.reduceToInt] at a b d
  omega
theorem own_r3 (c0 c1 c2 : Int32) (h0 : 0 ≤ c0.toInt ∧ c0.toInt < 256) (h1 : 0 ≤ c1.toInt ∧ c1.toInt < 256) (h2 : 0 ≤ c2.toInt ∧ c2.toInt < 256) : ((((c0 - (224 : Int32)) * (4096 : Int32)) + ((c1 - (128 : Int32)) * (64 : Int32))) + (c2 - (128 : Int32))).toInt = (c0.toInt - 224) * 4096 + (c1.toInt - 128) * 64 + (c2.toInt - 128) := by
  have a := c_isub c0 224
  have b := c_imul (c0 - 224) 4096
  have d := c_isub c1 128
  have e := c_imul (c1 - 128) 64
  have f := c_isub c2 128
  have g := c_iadd ((c0 - 224) * 4096) ((c1 - 128) * 64)
  have i := c_iadd ((c0 - 224) * 4096 + (c1 - 128) * 64) (c2 - 128)
  have r1 := rng32 (c0 - 224)
  have r2 := rng32 ((c0 - 224) * 4096)
  have r3 := rng32 (c1 - 128)
  have r4 := rng32 ((c1 - 128) * 64)
  have r5 := rng32 (c2 - 128)
  have r6 := rng32 ((c0 - 224) * 4096 + (c1 - 128) * 64)
  have r7 := rng32 ((c0 - 224) * 4096 + (c1 - 128) * 64 + (c2 - 128))
  simp only [Int32.reduceToInt] at a b d e f
  omega
theorem own_r4 (c0 c1 c2 c3 : Int32) (h0 : 0 ≤ c0.toInt ∧ c0.toInt < 256) (h1 : 0 ≤ c1.toInt ∧ c1.toInt < 256) (h2 : 0 ≤ c2.toInt ∧ c2.toInt < 256) (h3 : 0 ≤ c3.toInt ∧ c3.toInt < 256) : (((((c0 - (240 : Int32)) * (262144 : Int32)) + ((c1 - (128 : Int32)) * (4096 : Int32))) + ((c2 - (128 : Int32)) * (64 : Int32))) + (c3 - (128 : Int32))).toInt = (c0.toInt - 240) * 262144 + (c1.toInt - 128) * 4096 + (c2.toInt - 128) * 64 + (c3.toInt - 128) := by
  have a := c_isub c0 240
  have b := c_imul (c0 - 240) 262144
  have d := c_isub c1 128
  have e := c_imul (c1 - 128) 4096
  have f := c_isub c2 128
  have g := c_imul (c2 - 128) 64
  have i := c_isub c3 128
  have j := c_iadd ((c0 - 240) * 262144) ((c1 - 128) * 4096)
  have k := c_iadd ((c0 - 240) * 262144 + (c1 - 128) * 4096) ((c2 - 128) * 64)
  have l := c_iadd ((c0 - 240) * 262144 + (c1 - 128) * 4096 + (c2 - 128) * 64) (c3 - 128)
  have r1 := rng32 (c0 - 240)
  have r2 := rng32 ((c0 - 240) * 262144)
  have r3 := rng32 (c1 - 128)
  have r4 := rng32 ((c1 - 128) * 4096)
  have r5 := rng32 (c2 - 128)
  have r6 := rng32 ((c2 - 128) * 64)
  have r7 := rng32 (c3 - 128)
  have r8 := rng32 ((c0 - 240) * 262144 + (c1 - 128) * 4096)
  have r9 := rng32 ((c0 - 240) * 262144 + (c1 - 128) * 4096 + (c2 - 128) * 64)
  have r10 := rng32 ((c0 - 240) * 262144 + (c1 - 128) * 4096 + (c2 - 128) * 64 + (c3 - 128))
  simp only [Int32.reduceToInt] at a b d e f g i
  omega
theorem own_eq (c0 c1 c2 c3 len n : Int32) (h0 : 0 ≤ c0.toInt ∧ c0.toInt < 256) (h1 : 0 ≤ c1.toInt ∧ c1.toInt < 256) (h2 : 0 ≤ c2.toInt ∧ c2.toInt < 256) (h3 : 0 ≤ c3.toInt ∧ c3.toInt < 256) (hn : len.toInt = n.toInt) : own_dF c0 c1 c2 c3 len = f2 c0 c1 c2 c3 n := by
  have l2 := own_l2 c0 c1
  have l3 := own_l3 c0 c1 c2
  have l4 := own_l4 c0 c1 c2 c3
  have r2 := own_r2 c0 c1 h0 h1
  have r3 := own_r3 c0 c1 c2 h0 h1 h2
  have r4 := own_r4 c0 c1 c2 c3 h0 h1 h2 h3
  apply Int32.toInt_inj.mp
  simp only [own_dF, f2, own_in]
  simp only [Int32.lt_iff_toInt_lt, ← Int32.toInt_inj, apply_ite Int32.toInt, Int32.reduceToInt, l2, l3, l4, r2, r3, r4]
  clear l2 l3 l4 r2 r3 r4
  generalize c0.toInt = x0 at *
  generalize c1.toInt = x1 at *
  generalize c2.toInt = x2 at *
  generalize c3.toInt = x3 at *
  generalize len.toInt = y at *
  subst hn
  repeat' (first | omega | split)
theorem pd1 : parseMethodDescriptor "([BII)I" = some ⟨[(.array .byte), .int, .int], some .int⟩ := by decide +kernel
theorem pd2 : parseMethodDescriptor "(IIIII)I" = some ⟨[.int, .int, .int, .int, .int], some .int⟩ := by decide +kernel
theorem ef0 (m : MethodId) (p0 : Int32) (p1 : Int32) (p2 : Int32) (p3 : Int32) (p4 : Int32) : entryFrame m #[(.int p0), (.int p1), (.int p2), (.int p3), (.int p4)] maxLocals = mkF m 0 #[.val (.int p0), .val (.int p1), .val (.int p2), .val (.int p3), .val (.int p4), .unset, .unset, .unset, .unset, .unset, .unset, .unset, .unset, .unset, .unset] [] := by first | (simp [entryFrame, mkF, argsToLocals, Value.category, maxLocals]; done) | rfl
theorem own_case0_6 (p0 : Int32) (p1 : Int32) (p2 : Int32) (p3 : Int32) (p4 : Int32) (v5_4 : Int32) (ev5_4 : v5_4 = (p4 &&& (1 : Int32))) : v5_4 = (0 : Int32) ∨ v5_4 = (1 : Int32) := by
  have a : (p4 &&& 1).toInt = p4.toInt % 2 := c_mask p4 1 1 (by decide) (by decide)
  rw [← ev5_4] at a
  simp only [← Int32.toInt_inj, Int32.reduceToInt]
  omega
theorem own_pr0_116_hB (p0 : Int32) (p1 : Int32) (p2 : Int32) (p3 : Int32) (p4 : Int32) (ev5_4 : (0 : Int32) = (p4 &&& (1 : Int32))) (v6_14 : Int32) (ev6_14 : v6_14 = ((1 : Int32) + (((p4.toUInt32 >>> ((1 : Int32) &&& 31).toUInt32).toInt32) &&& (3 : Int32)))) (v7_21 : Int32) (ev7_21 : v7_21 = ((0 : Int32) + v6_14)) (v9_34 : Int32) (ev9_34 : v9_34 = ((p4 >>> ((8 : Int32) &&& 31)).toInt8.toInt32)) (v10_87 : Int32) (ev10_87 : v10_87 = (p0 &&& (255 : Int32))) (v11_94 : Int32) (ev11_94 : v11_94 = (p1 &&& (255 : Int32))) (v12_101 : Int32) (ev12_101 : v12_101 = (p2 &&& (255 : Int32))) (v13_108 : Int32) (ev13_108 : v13_108 = (p3 &&& (255 : Int32))) : ¬ (0 : Int32) < 0 ∧ (0 : Int32) < (5 : Int32) := by
  first | decide | exact ⟨by decide, by decide⟩
theorem own_pr0_116_hb2 (p0 : Int32) (p1 : Int32) (p2 : Int32) (p3 : Int32) (p4 : Int32) (ev5_4 : (0 : Int32) = (p4 &&& (1 : Int32))) (v6_14 : Int32) (ev6_14 : v6_14 = ((1 : Int32) + (((p4.toUInt32 >>> ((1 : Int32) &&& 31).toUInt32).toInt32) &&& (3 : Int32)))) (v7_21 : Int32) (ev7_21 : v7_21 = ((0 : Int32) + v6_14)) (v9_34 : Int32) (ev9_34 : v9_34 = ((p4 >>> ((8 : Int32) &&& 31)).toInt8.toInt32)) (v10_87 : Int32) (ev10_87 : v10_87 = (p0 &&& (255 : Int32))) (v11_94 : Int32) (ev11_94 : v11_94 = (p1 &&& (255 : Int32))) (v12_101 : Int32) (ev12_101 : v12_101 = (p2 &&& (255 : Int32))) (v13_108 : Int32) (ev13_108 : v13_108 = (p3 &&& (255 : Int32))) : ¬ (5 : Int32) < v7_21 := by
  have a : (((p4.toUInt32 >>> ((1 : Int32) &&& 31).toUInt32).toInt32) &&& 3).toInt = (((p4.toUInt32 >>> ((1 : Int32) &&& 31).toUInt32).toInt32)).toInt % 4 := c_mask _ 3 2 (by decide) (by decide)
  have b := c_iadd 1 ((((p4.toUInt32 >>> ((1 : Int32) &&& 31).toUInt32).toInt32)) &&& 3)
  have r := rng32 (1 + ((((p4.toUInt32 >>> ((1 : Int32) &&& 31).toUInt32).toInt32)) &&& 3))
  rw [← ev6_14] at b r
  simp only [Int32.reduceToInt] at b
  have n6 : 1 ≤ v6_14.toInt ∧ v6_14.toInt ≤ 4 := by omega
  clear a b r
  have d := c_iadd 0 v6_14
  have q := rng32 (0 + v6_14)
  rw [← ev7_21] at d q
  simp only [Int32.reduceToInt] at d
  simp only [Int32.lt_iff_toInt_lt, Int32.reduceToInt]
  omega
theorem own_pr0_116_hb3 (p0 : Int32) (p1 : Int32) (p2 : Int32) (p3 : Int32) (p4 : Int32) (ev5_4 : (0 : Int32) = (p4 &&& (1 : Int32))) (v6_14 : Int32) (ev6_14 : v6_14 = ((1 : Int32) + (((p4.toUInt32 >>> ((1 : Int32) &&& 31).toUInt32).toInt32) &&& (3 : Int32)))) (v7_21 : Int32) (ev7_21 : v7_21 = ((0 : Int32) + v6_14)) (v9_34 : Int32) (ev9_34 : v9_34 = ((p4 >>> ((8 : Int32) &&& 31)).toInt8.toInt32)) (v10_87 : Int32) (ev10_87 : v10_87 = (p0 &&& (255 : Int32))) (v11_94 : Int32) (ev11_94 : v11_94 = (p1 &&& (255 : Int32))) (v12_101 : Int32) (ev12_101 : v12_101 = (p2 &&& (255 : Int32))) (v13_108 : Int32) (ev13_108 : v13_108 = (p3 &&& (255 : Int32))) : ¬ v7_21 < 0 := by
  have a : (((p4.toUInt32 >>> ((1 : Int32) &&& 31).toUInt32).toInt32) &&& 3).toInt = (((p4.toUInt32 >>> ((1 : Int32) &&& 31).toUInt32).toInt32)).toInt % 4 := c_mask _ 3 2 (by decide) (by decide)
  have b := c_iadd 1 ((((p4.toUInt32 >>> ((1 : Int32) &&& 31).toUInt32).toInt32)) &&& 3)
  have r := rng32 (1 + ((((p4.toUInt32 >>> ((1 : Int32) &&& 31).toUInt32).toInt32)) &&& 3))
  rw [← ev6_14] at b r
  simp only [Int32.reduceToInt] at b
  have n6 : 1 ≤ v6_14.toInt ∧ v6_14.toInt ≤ 4 := by omega
  clear a b r
  have d := c_iadd 0 v6_14
  have q := rng32 (0 + v6_14)
  rw [← ev7_21] at d q
  simp only [Int32.reduceToInt] at d
  simp only [Int32.lt_iff_toInt_lt, Int32.reduceToInt]
  omega
theorem own_pr0_116_hb4 (p0 : Int32) (p1 : Int32) (p2 : Int32) (p3 : Int32) (p4 : Int32) (ev5_4 : (0 : Int32) = (p4 &&& (1 : Int32))) (v6_14 : Int32) (ev6_14 : v6_14 = ((1 : Int32) + (((p4.toUInt32 >>> ((1 : Int32) &&& 31).toUInt32).toInt32) &&& (3 : Int32)))) (v7_21 : Int32) (ev7_21 : v7_21 = ((0 : Int32) + v6_14)) (v9_34 : Int32) (ev9_34 : v9_34 = ((p4 >>> ((8 : Int32) &&& 31)).toInt8.toInt32)) (v10_87 : Int32) (ev10_87 : v10_87 = (p0 &&& (255 : Int32))) (v11_94 : Int32) (ev11_94 : v11_94 = (p1 &&& (255 : Int32))) (v12_101 : Int32) (ev12_101 : v12_101 = (p2 &&& (255 : Int32))) (v13_108 : Int32) (ev13_108 : v13_108 = (p3 &&& (255 : Int32))) : (5 : Int32) < (100 : Int32) := by
  first | decide | exact ⟨by decide, by decide⟩
theorem own_hc0_136 (p0 : Int32) (p1 : Int32) (p2 : Int32) (p3 : Int32) (p4 : Int32) (ev5_4 : (0 : Int32) = (p4 &&& (1 : Int32))) (v6_14 : Int32) (ev6_14 : v6_14 = ((1 : Int32) + (((p4.toUInt32 >>> ((1 : Int32) &&& 31).toUInt32).toInt32) &&& (3 : Int32)))) (v7_21 : Int32) (ev7_21 : v7_21 = ((0 : Int32) + v6_14)) (v9_34 : Int32) (ev9_34 : v9_34 = ((p4 >>> ((8 : Int32) &&& 31)).toInt8.toInt32)) (v10_87 : Int32) (ev10_87 : v10_87 = (p0 &&& (255 : Int32))) (v11_94 : Int32) (ev11_94 : v11_94 = (p1 &&& (255 : Int32))) (v12_101 : Int32) (ev12_101 : v12_101 = (p2 &&& (255 : Int32))) (v13_108 : Int32) (ev13_108 : v13_108 = (p3 &&& (255 : Int32))) (v14_119 : Int32) (ev14_119 : v14_119 = (f1 (5 : Int32) [(nar .byte (p0.toInt8.toInt32)), (nar .byte (p1.toInt8.toInt32)), (nar .byte (p2.toInt8.toInt32)), (nar .byte (p3.toInt8.toInt32)), (nar .byte v9_34)] (0 : Int32) v7_21)) : v14_119 = (f2 v10_87 v11_94 v12_101 v13_108 v6_14) := by
  have a : (((p4.toUInt32 >>> ((1 : Int32) &&& 31).toUInt32).toInt32) &&& 3).toInt = (((p4.toUInt32 >>> ((1 : Int32) &&& 31).toUInt32).toInt32)).toInt % 4 := c_mask _ 3 2 (by decide) (by decide)
  have b := c_iadd 1 ((((p4.toUInt32 >>> ((1 : Int32) &&& 31).toUInt32).toInt32)) &&& 3)
  have r := rng32 (1 + ((((p4.toUInt32 >>> ((1 : Int32) &&& 31).toUInt32).toInt32)) &&& 3))
  rw [← ev6_14] at b r
  simp only [Int32.reduceToInt] at b
  have n6 : 1 ≤ v6_14.toInt ∧ v6_14.toInt ≤ 4 := by omega
  clear a b r
  have d := c_iadd 0 v6_14
  have q := rng32 (0 + v6_14)
  rw [← ev7_21] at d q
  simp only [Int32.reduceToInt] at d
  have m0 := own_m255 p0
  have m1 := own_m255 p1
  have m2 := own_m255 p2
  have m3 := own_m255 p3
  rw [← ev10_87] at m0
  rw [← ev11_94] at m1
  rw [← ev12_101] at m2
  rw [← ev13_108] at m3
  have u := c_isub v7_21 0
  have w := rng32 (v7_21 - 0)
  simp only [Int32.reduceToInt] at u
  rw [ev14_119]
  show own_dF ((nar .byte (p0.toInt8.toInt32)) &&& 255) ((nar .byte (p1.toInt8.toInt32)) &&& 255) ((nar .byte (p2.toInt8.toInt32)) &&& 255) ((nar .byte (p3.toInt8.toInt32)) &&& 255) (v7_21 - (0 : Int32)) = _
  rw [own_b255, own_b255, own_b255, own_b255, ← ev10_87, ← ev11_94, ← ev12_101, ← ev13_108]
  exact own_eq _ _ _ _ _ _ (by omega) (by omega) (by omega) (by omega) (by omega)
theorem own_pr0_116_hB_2 (p0 : Int32) (p1 : Int32) (p2 : Int32) (p3 : Int32) (p4 : Int32) (ev5_4 : (1 : Int32) = (p4 &&& (1 : Int32))) (v6_14 : Int32) (ev6_14 : v6_14 = ((1 : Int32) + (((p4.toUInt32 >>> ((1 : Int32) &&& 31).toUInt32).toInt32) &&& (3 : Int32)))) (v7_21 : Int32) (ev7_21 : v7_21 = ((1 : Int32) + v6_14)) (v9_34 : Int32) (ev9_34 : v9_34 = ((p4 >>> ((8 : Int32) &&& 31)).toInt8.toInt32)) (v10_87 : Int32) (ev10_87 : v10_87 = (p0 &&& (255 : Int32))) (v11_94 : Int32) (ev11_94 : v11_94 = (p1 &&& (255 : Int32))) (v12_101 : Int32) (ev12_101 : v12_101 = (p2 &&& (255 : Int32))) (v13_108 : Int32) (ev13_108 : v13_108 = (p3 &&& (255 : Int32))) : ¬ (1 : Int32) < 0 ∧ (1 : Int32) < (5 : Int32) := by
  first | decide | exact ⟨by decide, by decide⟩
theorem own_pr0_116_hb2_2 (p0 : Int32) (p1 : Int32) (p2 : Int32) (p3 : Int32) (p4 : Int32) (ev5_4 : (1 : Int32) = (p4 &&& (1 : Int32))) (v6_14 : Int32) (ev6_14 : v6_14 = ((1 : Int32) + (((p4.toUInt32 >>> ((1 : Int32) &&& 31).toUInt32).toInt32) &&& (3 : Int32)))) (v7_21 : Int32) (ev7_21 : v7_21 = ((1 : Int32) + v6_14)) (v9_34 : Int32) (ev9_34 : v9_34 = ((p4 >>> ((8 : Int32) &&& 31)).toInt8.toInt32)) (v10_87 : Int32) (ev10_87 : v10_87 = (p0 &&& (255 : Int32))) (v11_94 : Int32) (ev11_94 : v11_94 = (p1 &&& (255 : Int32))) (v12_101 : Int32) (ev12_101 : v12_101 = (p2 &&& (255 : Int32))) (v13_108 : Int32) (ev13_108 : v13_108 = (p3 &&& (255 : Int32))) : ¬ (5 : Int32) < v7_21 := by
  have a : (((p4.toUInt32 >>> ((1 : Int32) &&& 31).toUInt32).toInt32) &&& 3).toInt = (((p4.toUInt32 >>> ((1 : Int32) &&& 31).toUInt32).toInt32)).toInt % 4 := c_mask _ 3 2 (by decide) (by decide)
  have b := c_iadd 1 ((((p4.toUInt32 >>> ((1 : Int32) &&& 31).toUInt32).toInt32)) &&& 3)
  have r := rng32 (1 + ((((p4.toUInt32 >>> ((1 : Int32) &&& 31).toUInt32).toInt32)) &&& 3))
  rw [← ev6_14] at b r
  simp only [Int32.reduceToInt] at b
  have n6 : 1 ≤ v6_14.toInt ∧ v6_14.toInt ≤ 4 := by omega
  clear a b r
  have d := c_iadd 1 v6_14
  have q := rng32 (1 + v6_14)
  rw [← ev7_21] at d q
  simp only [Int32.reduceToInt] at d
  simp only [Int32.lt_iff_toInt_lt, Int32.reduceToInt]
  omega
theorem own_pr0_116_hb3_2 (p0 : Int32) (p1 : Int32) (p2 : Int32) (p3 : Int32) (p4 : Int32) (ev5_4 : (1 : Int32) = (p4 &&& (1 : Int32))) (v6_14 : Int32) (ev6_14 : v6_14 = ((1 : Int32) + (((p4.toUInt32 >>> ((1 : Int32) &&& 31).toUInt32).toInt32) &&& (3 : Int32)))) (v7_21 : Int32) (ev7_21 : v7_21 = ((1 : Int32) + v6_14)) (v9_34 : Int32) (ev9_34 : v9_34 = ((p4 >>> ((8 : Int32) &&& 31)).toInt8.toInt32)) (v10_87 : Int32) (ev10_87 : v10_87 = (p0 &&& (255 : Int32))) (v11_94 : Int32) (ev11_94 : v11_94 = (p1 &&& (255 : Int32))) (v12_101 : Int32) (ev12_101 : v12_101 = (p2 &&& (255 : Int32))) (v13_108 : Int32) (ev13_108 : v13_108 = (p3 &&& (255 : Int32))) : ¬ v7_21 < 0 := by
  have a : (((p4.toUInt32 >>> ((1 : Int32) &&& 31).toUInt32).toInt32) &&& 3).toInt = (((p4.toUInt32 >>> ((1 : Int32) &&& 31).toUInt32).toInt32)).toInt % 4 := c_mask _ 3 2 (by decide) (by decide)
  have b := c_iadd 1 ((((p4.toUInt32 >>> ((1 : Int32) &&& 31).toUInt32).toInt32)) &&& 3)
  have r := rng32 (1 + ((((p4.toUInt32 >>> ((1 : Int32) &&& 31).toUInt32).toInt32)) &&& 3))
  rw [← ev6_14] at b r
  simp only [Int32.reduceToInt] at b
  have n6 : 1 ≤ v6_14.toInt ∧ v6_14.toInt ≤ 4 := by omega
  clear a b r
  have d := c_iadd 1 v6_14
  have q := rng32 (1 + v6_14)
  rw [← ev7_21] at d q
  simp only [Int32.reduceToInt] at d
  simp only [Int32.lt_iff_toInt_lt, Int32.reduceToInt]
  omega
theorem own_pr0_116_hb4_2 (p0 : Int32) (p1 : Int32) (p2 : Int32) (p3 : Int32) (p4 : Int32) (ev5_4 : (1 : Int32) = (p4 &&& (1 : Int32))) (v6_14 : Int32) (ev6_14 : v6_14 = ((1 : Int32) + (((p4.toUInt32 >>> ((1 : Int32) &&& 31).toUInt32).toInt32) &&& (3 : Int32)))) (v7_21 : Int32) (ev7_21 : v7_21 = ((1 : Int32) + v6_14)) (v9_34 : Int32) (ev9_34 : v9_34 = ((p4 >>> ((8 : Int32) &&& 31)).toInt8.toInt32)) (v10_87 : Int32) (ev10_87 : v10_87 = (p0 &&& (255 : Int32))) (v11_94 : Int32) (ev11_94 : v11_94 = (p1 &&& (255 : Int32))) (v12_101 : Int32) (ev12_101 : v12_101 = (p2 &&& (255 : Int32))) (v13_108 : Int32) (ev13_108 : v13_108 = (p3 &&& (255 : Int32))) : (5 : Int32) < (100 : Int32) := by
  first | decide | exact ⟨by decide, by decide⟩
theorem own_hc0_136_2 (p0 : Int32) (p1 : Int32) (p2 : Int32) (p3 : Int32) (p4 : Int32) (ev5_4 : (1 : Int32) = (p4 &&& (1 : Int32))) (v6_14 : Int32) (ev6_14 : v6_14 = ((1 : Int32) + (((p4.toUInt32 >>> ((1 : Int32) &&& 31).toUInt32).toInt32) &&& (3 : Int32)))) (v7_21 : Int32) (ev7_21 : v7_21 = ((1 : Int32) + v6_14)) (v9_34 : Int32) (ev9_34 : v9_34 = ((p4 >>> ((8 : Int32) &&& 31)).toInt8.toInt32)) (v10_87 : Int32) (ev10_87 : v10_87 = (p0 &&& (255 : Int32))) (v11_94 : Int32) (ev11_94 : v11_94 = (p1 &&& (255 : Int32))) (v12_101 : Int32) (ev12_101 : v12_101 = (p2 &&& (255 : Int32))) (v13_108 : Int32) (ev13_108 : v13_108 = (p3 &&& (255 : Int32))) (v14_119 : Int32) (ev14_119 : v14_119 = (f1 (5 : Int32) [(nar .byte v9_34), (nar .byte (p0.toInt8.toInt32)), (nar .byte (p1.toInt8.toInt32)), (nar .byte (p2.toInt8.toInt32)), (nar .byte (p3.toInt8.toInt32))] (1 : Int32) v7_21)) : v14_119 = (f2 v10_87 v11_94 v12_101 v13_108 v6_14) := by
  have a : (((p4.toUInt32 >>> ((1 : Int32) &&& 31).toUInt32).toInt32) &&& 3).toInt = (((p4.toUInt32 >>> ((1 : Int32) &&& 31).toUInt32).toInt32)).toInt % 4 := c_mask _ 3 2 (by decide) (by decide)
  have b := c_iadd 1 ((((p4.toUInt32 >>> ((1 : Int32) &&& 31).toUInt32).toInt32)) &&& 3)
  have r := rng32 (1 + ((((p4.toUInt32 >>> ((1 : Int32) &&& 31).toUInt32).toInt32)) &&& 3))
  rw [← ev6_14] at b r
  simp only [Int32.reduceToInt] at b
  have n6 : 1 ≤ v6_14.toInt ∧ v6_14.toInt ≤ 4 := by omega
  clear a b r
  have d := c_iadd 1 v6_14
  have q := rng32 (1 + v6_14)
  rw [← ev7_21] at d q
  simp only [Int32.reduceToInt] at d
  have m0 := own_m255 p0
  have m1 := own_m255 p1
  have m2 := own_m255 p2
  have m3 := own_m255 p3
  rw [← ev10_87] at m0
  rw [← ev11_94] at m1
  rw [← ev12_101] at m2
  rw [← ev13_108] at m3
  have u := c_isub v7_21 1
  have w := rng32 (v7_21 - 1)
  simp only [Int32.reduceToInt] at u
  rw [ev14_119]
  show own_dF ((nar .byte (p0.toInt8.toInt32)) &&& 255) ((nar .byte (p1.toInt8.toInt32)) &&& 255) ((nar .byte (p2.toInt8.toInt32)) &&& 255) ((nar .byte (p3.toInt8.toInt32)) &&& 255) (v7_21 - (1 : Int32)) = _
  rw [own_b255, own_b255, own_b255, own_b255, ← ev10_87, ← ev11_94, ← ev12_101, ← ev13_108]
  exact own_eq _ _ _ _ _ _ (by omega) (by omega) (by omega) (by omega) (by omega)
def Q0 (Z : State) (p0 : Int32) (p1 : Int32) (p2 : Int32) (p3 : Int32) (p4 : Int32) (h0 : Heap) (n0 : Nat) (v : Option Value) (h : Heap) (L : List Loc) : Prop := v = some (.int 1) ∧ Fr n0 L
set_option maxRecDepth 65536 in
set_option maxHeartbeats 40000000 in
theorem rm0 (l : Launch) (Z : State) (a0 : Array Value) (hw : ∀ d ∈ tables_1, d.before a0 Z = true) (ws : List Jvm.Cond) (p0 : Int32) (p1 : Int32) (p2 : Int32) (p3 : Int32) (p4 : Int32) (h0 : Heap) (n0 : Nat) (Z0 : n0 ≤ h0.size) :
    MetFree l x (head1 (Jvm.Cond.code x code maxLocals ret :: ws) room_1) (fun a U => a = #[(.int p0), (.int p1), (.int p2), (.int p3), (.int p4)] ∧ Z.Warmed39 U.vm ∧ U.heap = h0) (fun _ _ _ _ _ => True) (fun _ U o U' => ∃ v L, o = .returned v ∧ Q0 Z p0 p1 p2 p3 p4 h0 n0 v U'.heap L ∧ FrameEnd U o U' L room_1.cells room_1.slots) := by
  refine MetFree.of_bodySF (plainFor_of_name pn1) hisR ?_
  intro p e s m args below meth c s₁ Bd hml0 hP hK
  obtain ⟨rfl, hZ, hh⟩ := hP
  have hx := Bd.exec
  have hby := Bd.bytes
  have hml : c.maxLocals = 15 := hml0
  have hown : s.vm.findClass "com/example/leaderline/leaderline/Utf8DecodePinLaw" = some m.cls := findClass_of_methodNamed Bd.named
  have hnm := (name_of_methodNamed Bd.named Bd.method).1
  have X0 : Stand p l e room_1 s m #[(.int p0), (.int p1), (.int p2), (.int p3), (.int p4)] below meth c s₁ [] 0 0 := Stand.of_body Bd
  have e0 : s₁.heap = h0 := by rw [← hh, Bd.state]; rfl
  have N0 := Fr.nil n0
  refine Goes.out (Q := fun o U' => ∃ v L, o = .returned v ∧ Q0 Z p0 p1 p2 p3 p4 h0 n0 v U'.heap L ∧ FrameEnd s o U' L room_1.cells room_1.slots) ?_
  refine Goes.step (S' := s₁.setTop (mkF m 0 #[.val (.int p0), .val (.int p1), .val (.int p2), .val (.int p3), .val (.int p4), .unset, .unset, .unset, .unset, .unset, .unset, .unset, .unset, .unset, .unset] [])) (fun _ k => castTop (ef0 m p0 p1 p2 p3 p4) k) ?_
  refine Goes.step (S' := s₁.setTop (mkF m 2 #[.val (.int p0), .val (.int p1), .val (.int p2), .val (.int p3), .val (.int p4), .unset, .unset, .unset, .unset, .unset, .unset, .unset, .unset, .unset, .unset] [(.int p4)])) (fun _ k => XS.iload X0.here hx rfl (hb hby at_0) rfl  k) ?_
  refine Goes.step (S' := s₁.setTop (mkF m 3 #[.val (.int p0), .val (.int p1), .val (.int p2), .val (.int p3), .val (.int p4), .unset, .unset, .unset, .unset, .unset, .unset, .unset, .unset, .unset, .unset] [(.int (1 : Int32)), (.int p4)])) (fun _ k => XS.iconst X0.here hx rfl (hb hby at_2) k) ?_
  refine Goes.step (S' := s₁.setTop (mkF m 4 #[.val (.int p0), .val (.int p1), .val (.int p2), .val (.int p3), .val (.int p4), .unset, .unset, .unset, .unset, .unset, .unset, .unset, .unset, .unset, .unset] [(.int (p4 &&& (1 : Int32)))])) (fun _ k => XS.iand X0.here hx rfl (hb hby at_3) rfl k) ?_
  refine Goes.step (S' := s₁.setTop (mkF m 6 #[.val (.int p0), .val (.int p1), .val (.int p2), .val (.int p3), .val (.int p4), .val (.int (p4 &&& (1 : Int32))), .unset, .unset, .unset, .unset, .unset, .unset, .unset, .unset, .unset] [])) (fun _ k => XS.istore X0.here hx rfl (hb hby at_4) rfl (l' := #[.val (.int p0), .val (.int p1), .val (.int p2), .val (.int p3), .val (.int p4), .val (.int (p4 &&& (1 : Int32))), .unset, .unset, .unset, .unset, .unset, .unset, .unset, .unset, .unset]) rfl k) ?_
  obtain ⟨v5_4, ev5_4⟩ : ∃ z : Int32, z = (p4 &&& (1 : Int32)) := ⟨_, rfl⟩
  rw [← ev5_4]
  have hcase := (own_case0_6 p0 p1 p2 p3 p4 v5_4 ev5_4)
  rcases hcase with rfl | rfl
  · refine Goes.step (S' := s₁.setTop (mkF m 7 #[.val (.int p0), .val (.int p1), .val (.int p2), .val (.int p3), .val (.int p4), .val (.int (0 : Int32)), .unset, .unset, .unset, .unset, .unset, .unset, .unset, .unset, .unset] [(.int (1 : Int32))])) (fun _ k => XS.iconst X0.here hx rfl (hb hby at_6) k) ?_
    refine Goes.step (S' := s₁.setTop (mkF m 9 #[.val (.int p0), .val (.int p1), .val (.int p2), .val (.int p3), .val (.int p4), .val (.int (0 : Int32)), .unset, .unset, .unset, .unset, .unset, .unset, .unset, .unset, .unset] [(.int p4), (.int (1 : Int32))])) (fun _ k => XS.iload X0.here hx rfl (hb hby at_7) rfl  k) ?_
    refine Goes.step (S' := s₁.setTop (mkF m 10 #[.val (.int p0), .val (.int p1), .val (.int p2), .val (.int p3), .val (.int p4), .val (.int (0 : Int32)), .unset, .unset, .unset, .unset, .unset, .unset, .unset, .unset, .unset] [(.int (1 : Int32)), (.int p4), (.int (1 : Int32))])) (fun _ k => XS.iconst X0.here hx rfl (hb hby at_9) k) ?_
    refine Goes.step (S' := s₁.setTop (mkF m 11 #[.val (.int p0), .val (.int p1), .val (.int p2), .val (.int p3), .val (.int p4), .val (.int (0 : Int32)), .unset, .unset, .unset, .unset, .unset, .unset, .unset, .unset, .unset] [(.int ((p4.toUInt32 >>> ((1 : Int32) &&& 31).toUInt32).toInt32)), (.int (1 : Int32))])) (fun _ k => XS.iushr X0.here hx rfl (hb hby at_10) rfl k) ?_
    refine Goes.step (S' := s₁.setTop (mkF m 12 #[.val (.int p0), .val (.int p1), .val (.int p2), .val (.int p3), .val (.int p4), .val (.int (0 : Int32)), .unset, .unset, .unset, .unset, .unset, .unset, .unset, .unset, .unset] [(.int (3 : Int32)), (.int ((p4.toUInt32 >>> ((1 : Int32) &&& 31).toUInt32).toInt32)), (.int (1 : Int32))])) (fun _ k => XS.iconst X0.here hx rfl (hb hby at_11) k) ?_
    refine Goes.step (S' := s₁.setTop (mkF m 13 #[.val (.int p0), .val (.int p1), .val (.int p2), .val (.int p3), .val (.int p4), .val (.int (0 : Int32)), .unset, .unset, .unset, .unset, .unset, .unset, .unset, .unset, .unset] [(.int (((p4.toUInt32 >>> ((1 : Int32) &&& 31).toUInt32).toInt32) &&& (3 : Int32))), (.int (1 : Int32))])) (fun _ k => XS.iand X0.here hx rfl (hb hby at_12) rfl k) ?_
    refine Goes.step (S' := s₁.setTop (mkF m 14 #[.val (.int p0), .val (.int p1), .val (.int p2), .val (.int p3), .val (.int p4), .val (.int (0 : Int32)), .unset, .unset, .unset, .unset, .unset, .unset, .unset, .unset, .unset] [(.int ((1 : Int32) + (((p4.toUInt32 >>> ((1 : Int32) &&& 31).toUInt32).toInt32) &&& (3 : Int32))))])) (fun _ k => XS.iadd X0.here hx rfl (hb hby at_13) rfl k) ?_
    refine Goes.step (S' := s₁.setTop (mkF m 16 #[.val (.int p0), .val (.int p1), .val (.int p2), .val (.int p3), .val (.int p4), .val (.int (0 : Int32)), .val (.int ((1 : Int32) + (((p4.toUInt32 >>> ((1 : Int32) &&& 31).toUInt32).toInt32) &&& (3 : Int32)))), .unset, .unset, .unset, .unset, .unset, .unset, .unset, .unset] [])) (fun _ k => XS.istore X0.here hx rfl (hb hby at_14) rfl (l' := #[.val (.int p0), .val (.int p1), .val (.int p2), .val (.int p3), .val (.int p4), .val (.int (0 : Int32)), .val (.int ((1 : Int32) + (((p4.toUInt32 >>> ((1 : Int32) &&& 31).toUInt32).toInt32) &&& (3 : Int32)))), .unset, .unset, .unset, .unset, .unset, .unset, .unset, .unset]) rfl k) ?_
    obtain ⟨v6_14, ev6_14⟩ : ∃ z : Int32, z = ((1 : Int32) + (((p4.toUInt32 >>> ((1 : Int32) &&& 31).toUInt32).toInt32) &&& (3 : Int32))) := ⟨_, rfl⟩
    rw [← ev6_14]
    refine Goes.step (S' := s₁.setTop (mkF m 18 #[.val (.int p0), .val (.int p1), .val (.int p2), .val (.int p3), .val (.int p4), .val (.int (0 : Int32)), .val (.int v6_14), .unset, .unset, .unset, .unset, .unset, .unset, .unset, .unset] [(.int (0 : Int32))])) (fun _ k => XS.iload X0.here hx rfl (hb hby at_16) rfl  k) ?_
    refine Goes.step (S' := s₁.setTop (mkF m 20 #[.val (.int p0), .val (.int p1), .val (.int p2), .val (.int p3), .val (.int p4), .val (.int (0 : Int32)), .val (.int v6_14), .unset, .unset, .unset, .unset, .unset, .unset, .unset, .unset] [(.int v6_14), (.int (0 : Int32))])) (fun _ k => XS.iload X0.here hx rfl (hb hby at_18) rfl  k) ?_
    refine Goes.step (S' := s₁.setTop (mkF m 21 #[.val (.int p0), .val (.int p1), .val (.int p2), .val (.int p3), .val (.int p4), .val (.int (0 : Int32)), .val (.int v6_14), .unset, .unset, .unset, .unset, .unset, .unset, .unset, .unset] [(.int ((0 : Int32) + v6_14))])) (fun _ k => XS.iadd X0.here hx rfl (hb hby at_20) rfl k) ?_
    refine Goes.step (S' := s₁.setTop (mkF m 23 #[.val (.int p0), .val (.int p1), .val (.int p2), .val (.int p3), .val (.int p4), .val (.int (0 : Int32)), .val (.int v6_14), .val (.int ((0 : Int32) + v6_14)), .unset, .unset, .unset, .unset, .unset, .unset, .unset] [])) (fun _ k => XS.istore X0.here hx rfl (hb hby at_21) rfl (l' := #[.val (.int p0), .val (.int p1), .val (.int p2), .val (.int p3), .val (.int p4), .val (.int (0 : Int32)), .val (.int v6_14), .val (.int ((0 : Int32) + v6_14)), .unset, .unset, .unset, .unset, .unset, .unset, .unset]) rfl k) ?_
    obtain ⟨v7_21, ev7_21⟩ : ∃ z : Int32, z = ((0 : Int32) + v6_14) := ⟨_, rfl⟩
    rw [← ev7_21]
    refine Goes.step (S' := s₁.setTop (mkF m 24 #[.val (.int p0), .val (.int p1), .val (.int p2), .val (.int p3), .val (.int p4), .val (.int (0 : Int32)), .val (.int v6_14), .val (.int v7_21), .unset, .unset, .unset, .unset, .unset, .unset, .unset] [(.int (5 : Int32))])) (fun _ k => XS.iconst X0.here hx rfl (hb hby at_23) k) ?_
    obtain ⟨T1, h1, k1, X1, e1, E1, A1, st1⟩ := newP X0 hx hZ (hw _ (List.mem_of_getElem? (i := 0) rfl)) e0 (g := (mkF m 24 #[.val (.int p0), .val (.int p1), .val (.int p2), .val (.int p3), .val (.int p4), .val (.int (0 : Int32)), .val (.int v6_14), .val (.int v7_21), .unset, .unset, .unset, .unset, .unset, .unset, .unset] [(.int (5 : Int32))])) rfl (hb hby at_24) rfl (by decide) (cap := 5) (by decide) (by decide) (by decide) (by decide)
    obtain ⟨b1, g1⟩ : ∃ z, z = h0.size := ⟨_, rfl⟩
    rw [← g1] at A1 st1
    have g2 : n0 ≤ b1 := Nat.le_trans Z0 (Nat.le_of_eq g1.symm)
    have Z3 : n0 ≤ h1.size := Nat.le_trans Z0 E1.1
    have V4 : AI Z h1 b1 k1 .byte (5 : Int32) [(0 : Int32), (0 : Int32), (0 : Int32), (0 : Int32), (0 : Int32)] := own_new A1 (by decide) rfl
    refine Goes.step (S' := T1.setTop (mkF m 26 #[.val (.int p0), .val (.int p1), .val (.int p2), .val (.int p3), .val (.int p4), .val (.int (0 : Int32)), .val (.int v6_14), .val (.int v7_21), .unset, .unset, .unset, .unset, .unset, .unset, .unset] [(.ref b1)])) st1 ?_
    refine Goes.step (S' := T1.setTop (mkF m 28 #[.val (.int p0), .val (.int p1), .val (.int p2), .val (.int p3), .val (.int p4), .val (.int (0 : Int32)), .val (.int v6_14), .val (.int v7_21), .val (.ref b1), .unset, .unset, .unset, .unset, .unset, .unset] [])) (fun _ k => XS.astore X1.here hx rfl (hb hby at_26) rfl rfl (l' := #[.val (.int p0), .val (.int p1), .val (.int p2), .val (.int p3), .val (.int p4), .val (.int (0 : Int32)), .val (.int v6_14), .val (.int v7_21), .val (.ref b1), .unset, .unset, .unset, .unset, .unset, .unset]) rfl k) ?_
    refine Goes.step (S' := T1.setTop (mkF m 30 #[.val (.int p0), .val (.int p1), .val (.int p2), .val (.int p3), .val (.int p4), .val (.int (0 : Int32)), .val (.int v6_14), .val (.int v7_21), .val (.ref b1), .unset, .unset, .unset, .unset, .unset, .unset] [(.int p4)])) (fun _ k => XS.iload X1.here hx rfl (hb hby at_28) rfl  k) ?_
    refine Goes.step (S' := T1.setTop (mkF m 32 #[.val (.int p0), .val (.int p1), .val (.int p2), .val (.int p3), .val (.int p4), .val (.int (0 : Int32)), .val (.int v6_14), .val (.int v7_21), .val (.ref b1), .unset, .unset, .unset, .unset, .unset, .unset] [(.int (8 : Int32)), (.int p4)])) (fun _ k => XS.bipush X1.here hx rfl (hb hby at_30) k) ?_
    refine Goes.step (S' := T1.setTop (mkF m 33 #[.val (.int p0), .val (.int p1), .val (.int p2), .val (.int p3), .val (.int p4), .val (.int (0 : Int32)), .val (.int v6_14), .val (.int v7_21), .val (.ref b1), .unset, .unset, .unset, .unset, .unset, .unset] [(.int (p4 >>> ((8 : Int32) &&& 31)))])) (fun _ k => XS.ishr X1.here hx rfl (hb hby at_32) rfl k) ?_
    refine Goes.step (S' := T1.setTop (mkF m 34 #[.val (.int p0), .val (.int p1), .val (.int p2), .val (.int p3), .val (.int p4), .val (.int (0 : Int32)), .val (.int v6_14), .val (.int v7_21), .val (.ref b1), .unset, .unset, .unset, .unset, .unset, .unset] [(.int ((p4 >>> ((8 : Int32) &&& 31)).toInt8.toInt32))])) (fun _ k => XS.i2b X1.here hx rfl (hb hby at_33) rfl k) ?_
    refine Goes.step (S' := T1.setTop (mkF m 36 #[.val (.int p0), .val (.int p1), .val (.int p2), .val (.int p3), .val (.int p4), .val (.int (0 : Int32)), .val (.int v6_14), .val (.int v7_21), .val (.ref b1), .val (.int ((p4 >>> ((8 : Int32) &&& 31)).toInt8.toInt32)), .unset, .unset, .unset, .unset, .unset] [])) (fun _ k => XS.istore X1.here hx rfl (hb hby at_34) rfl (l' := #[.val (.int p0), .val (.int p1), .val (.int p2), .val (.int p3), .val (.int p4), .val (.int (0 : Int32)), .val (.int v6_14), .val (.int v7_21), .val (.ref b1), .val (.int ((p4 >>> ((8 : Int32) &&& 31)).toInt8.toInt32)), .unset, .unset, .unset, .unset, .unset]) rfl k) ?_
    obtain ⟨v9_34, ev9_34⟩ : ∃ z : Int32, z = ((p4 >>> ((8 : Int32) &&& 31)).toInt8.toInt32) := ⟨_, rfl⟩
    rw [← ev9_34]
    refine Goes.step (S' := T1.setTop (mkF m 38 #[.val (.int p0), .val (.int p1), .val (.int p2), .val (.int p3), .val (.int p4), .val (.int (0 : Int32)), .val (.int v6_14), .val (.int v7_21), .val (.ref b1), .val (.int v9_34), .unset, .unset, .unset, .unset, .unset] [(.ref b1)])) (fun _ k => XS.aload X1.here hx rfl (hb hby at_36) rfl rfl k) ?_
    refine Goes.step (S' := T1.setTop (mkF m 39 #[.val (.int p0), .val (.int p1), .val (.int p2), .val (.int p3), .val (.int p4), .val (.int (0 : Int32)), .val (.int v6_14), .val (.int v7_21), .val (.ref b1), .val (.int v9_34), .unset, .unset, .unset, .unset, .unset] [(.int (0 : Int32)), (.ref b1)])) (fun _ k => XS.iconst X1.here hx rfl (hb hby at_38) k) ?_
    refine Goes.step (S' := T1.setTop (mkF m 41 #[.val (.int p0), .val (.int p1), .val (.int p2), .val (.int p3), .val (.int p4), .val (.int (0 : Int32)), .val (.int v6_14), .val (.int v7_21), .val (.ref b1), .val (.int v9_34), .unset, .unset, .unset, .unset, .unset] [(.int v9_34), (.int (0 : Int32)), (.ref b1)])) (fun _ k => XS.iload X1.here hx rfl (hb hby at_39) rfl  k) ?_
    obtain ⟨T5, h5, X5, e5, W5, V_5, st5⟩ := own_bastore X1 hx hZ e1 V4 ⟨by decide, by decide⟩ (g := (mkF m 41 #[.val (.int p0), .val (.int p1), .val (.int p2), .val (.int p3), .val (.int p4), .val (.int (0 : Int32)), .val (.int v6_14), .val (.int v7_21), .val (.ref b1), .val (.int v9_34), .unset, .unset, .unset, .unset, .unset] [(.int v9_34), (.int (0 : Int32)), (.ref b1)])) rfl rfl (hb hby at_41)
    replace V_5 : AI Z h5 b1 k1 .byte (5 : Int32) [(nar .byte v9_34), (0 : Int32), (0 : Int32), (0 : Int32), (0 : Int32)] := V_5
    have N6 := Fr.snoc X5 N0 g2
    have Z7 : n0 ≤ h5.size := Nat.le_trans Z3 (Nat.le_of_eq W5.size.symm)
    refine Goes.step (S' := T5.setTop (mkF m 42 #[.val (.int p0), .val (.int p1), .val (.int p2), .val (.int p3), .val (.int p4), .val (.int (0 : Int32)), .val (.int v6_14), .val (.int v7_21), .val (.ref b1), .val (.int v9_34), .unset, .unset, .unset, .unset, .unset] [])) st5 ?_
    refine Goes.step (S' := T5.setTop (mkF m 44 #[.val (.int p0), .val (.int p1), .val (.int p2), .val (.int p3), .val (.int p4), .val (.int (0 : Int32)), .val (.int v6_14), .val (.int v7_21), .val (.ref b1), .val (.int v9_34), .unset, .unset, .unset, .unset, .unset] [(.ref b1)])) (fun _ k => XS.aload X5.here hx rfl (hb hby at_42) rfl rfl k) ?_
    refine Goes.step (S' := T5.setTop (mkF m 45 #[.val (.int p0), .val (.int p1), .val (.int p2), .val (.int p3), .val (.int p4), .val (.int (0 : Int32)), .val (.int v6_14), .val (.int v7_21), .val (.ref b1), .val (.int v9_34), .unset, .unset, .unset, .unset, .unset] [(.int (4 : Int32)), (.ref b1)])) (fun _ k => XS.iconst X5.here hx rfl (hb hby at_44) k) ?_
    refine Goes.step (S' := T5.setTop (mkF m 47 #[.val (.int p0), .val (.int p1), .val (.int p2), .val (.int p3), .val (.int p4), .val (.int (0 : Int32)), .val (.int v6_14), .val (.int v7_21), .val (.ref b1), .val (.int v9_34), .unset, .unset, .unset, .unset, .unset] [(.int v9_34), (.int (4 : Int32)), (.ref b1)])) (fun _ k => XS.iload X5.here hx rfl (hb hby at_45) rfl  k) ?_
    obtain ⟨T8, h8, X8, e8, W8, V_8, st8⟩ := own_bastore X5 hx hZ e5 V_5 ⟨by decide, by decide⟩ (g := (mkF m 47 #[.val (.int p0), .val (.int p1), .val (.int p2), .val (.int p3), .val (.int p4), .val (.int (0 : Int32)), .val (.int v6_14), .val (.int v7_21), .val (.ref b1), .val (.int v9_34), .unset, .unset, .unset, .unset, .unset] [(.int v9_34), (.int (4 : Int32)), (.ref b1)])) rfl rfl (hb hby at_47)
    replace V_8 : AI Z h8 b1 k1 .byte (5 : Int32) [(nar .byte v9_34), (0 : Int32), (0 : Int32), (0 : Int32), (nar .byte v9_34)] := V_8
    have N9 := Fr.snoc X8 N6 g2
    have Z10 : n0 ≤ h8.size := Nat.le_trans Z7 (Nat.le_of_eq W8.size.symm)
    refine Goes.step (S' := T8.setTop (mkF m 48 #[.val (.int p0), .val (.int p1), .val (.int p2), .val (.int p3), .val (.int p4), .val (.int (0 : Int32)), .val (.int v6_14), .val (.int v7_21), .val (.ref b1), .val (.int v9_34), .unset, .unset, .unset, .unset, .unset] [])) st8 ?_
    refine Goes.step (S' := T8.setTop (mkF m 50 #[.val (.int p0), .val (.int p1), .val (.int p2), .val (.int p3), .val (.int p4), .val (.int (0 : Int32)), .val (.int v6_14), .val (.int v7_21), .val (.ref b1), .val (.int v9_34), .unset, .unset, .unset, .unset, .unset] [(.ref b1)])) (fun _ k => XS.aload X8.here hx rfl (hb hby at_48) rfl rfl k) ?_
    refine Goes.step (S' := T8.setTop (mkF m 52 #[.val (.int p0), .val (.int p1), .val (.int p2), .val (.int p3), .val (.int p4), .val (.int (0 : Int32)), .val (.int v6_14), .val (.int v7_21), .val (.ref b1), .val (.int v9_34), .unset, .unset, .unset, .unset, .unset] [(.int (0 : Int32)), (.ref b1)])) (fun _ k => XS.iload X8.here hx rfl (hb hby at_50) rfl  k) ?_
    refine Goes.step (S' := T8.setTop (mkF m 53 #[.val (.int p0), .val (.int p1), .val (.int p2), .val (.int p3), .val (.int p4), .val (.int (0 : Int32)), .val (.int v6_14), .val (.int v7_21), .val (.ref b1), .val (.int v9_34), .unset, .unset, .unset, .unset, .unset] [(.int p0), (.int (0 : Int32)), (.ref b1)])) (fun _ k => XS.iloadN X8.here hx rfl (hb hby at_52) rfl  k) ?_
    refine Goes.step (S' := T8.setTop (mkF m 54 #[.val (.int p0), .val (.int p1), .val (.int p2), .val (.int p3), .val (.int p4), .val (.int (0 : Int32)), .val (.int v6_14), .val (.int v7_21), .val (.ref b1), .val (.int v9_34), .unset, .unset, .unset, .unset, .unset] [(.int (p0.toInt8.toInt32)), (.int (0 : Int32)), (.ref b1)])) (fun _ k => XS.i2b X8.here hx rfl (hb hby at_53) rfl k) ?_
    obtain ⟨T11, h11, X11, e11, W11, V_11, st11⟩ := own_bastore X8 hx hZ e8 V_8 ⟨by decide, by decide⟩ (g := (mkF m 54 #[.val (.int p0), .val (.int p1), .val (.int p2), .val (.int p3), .val (.int p4), .val (.int (0 : Int32)), .val (.int v6_14), .val (.int v7_21), .val (.ref b1), .val (.int v9_34), .unset, .unset, .unset, .unset, .unset] [(.int (p0.toInt8.toInt32)), (.int (0 : Int32)), (.ref b1)])) rfl rfl (hb hby at_54)
    replace V_11 : AI Z h11 b1 k1 .byte (5 : Int32) [(nar .byte (p0.toInt8.toInt32)), (0 : Int32), (0 : Int32), (0 : Int32), (nar .byte v9_34)] := V_11
    have N12 := Fr.snoc X11 N9 g2
    have Z13 : n0 ≤ h11.size := Nat.le_trans Z10 (Nat.le_of_eq W11.size.symm)
    refine Goes.step (S' := T11.setTop (mkF m 55 #[.val (.int p0), .val (.int p1), .val (.int p2), .val (.int p3), .val (.int p4), .val (.int (0 : Int32)), .val (.int v6_14), .val (.int v7_21), .val (.ref b1), .val (.int v9_34), .unset, .unset, .unset, .unset, .unset] [])) st11 ?_
    refine Goes.step (S' := T11.setTop (mkF m 57 #[.val (.int p0), .val (.int p1), .val (.int p2), .val (.int p3), .val (.int p4), .val (.int (0 : Int32)), .val (.int v6_14), .val (.int v7_21), .val (.ref b1), .val (.int v9_34), .unset, .unset, .unset, .unset, .unset] [(.ref b1)])) (fun _ k => XS.aload X11.here hx rfl (hb hby at_55) rfl rfl k) ?_
    refine Goes.step (S' := T11.setTop (mkF m 59 #[.val (.int p0), .val (.int p1), .val (.int p2), .val (.int p3), .val (.int p4), .val (.int (0 : Int32)), .val (.int v6_14), .val (.int v7_21), .val (.ref b1), .val (.int v9_34), .unset, .unset, .unset, .unset, .unset] [(.int (0 : Int32)), (.ref b1)])) (fun _ k => XS.iload X11.here hx rfl (hb hby at_57) rfl  k) ?_
    refine Goes.step (S' := T11.setTop (mkF m 60 #[.val (.int p0), .val (.int p1), .val (.int p2), .val (.int p3), .val (.int p4), .val (.int (0 : Int32)), .val (.int v6_14), .val (.int v7_21), .val (.ref b1), .val (.int v9_34), .unset, .unset, .unset, .unset, .unset] [(.int (1 : Int32)), (.int (0 : Int32)), (.ref b1)])) (fun _ k => XS.iconst X11.here hx rfl (hb hby at_59) k) ?_
    refine Goes.step (S' := T11.setTop (mkF m 61 #[.val (.int p0), .val (.int p1), .val (.int p2), .val (.int p3), .val (.int p4), .val (.int (0 : Int32)), .val (.int v6_14), .val (.int v7_21), .val (.ref b1), .val (.int v9_34), .unset, .unset, .unset, .unset, .unset] [(.int (1 : Int32)), (.ref b1)])) (fun _ k => XS.iadd X11.here hx rfl (hb hby at_60) rfl k) ?_
    refine Goes.step (S' := T11.setTop (mkF m 62 #[.val (.int p0), .val (.int p1), .val (.int p2), .val (.int p3), .val (.int p4), .val (.int (0 : Int32)), .val (.int v6_14), .val (.int v7_21), .val (.ref b1), .val (.int v9_34), .unset, .unset, .unset, .unset, .unset] [(.int p1), (.int (1 : Int32)), (.ref b1)])) (fun _ k => XS.iloadN X11.here hx rfl (hb hby at_61) rfl  k) ?_
    refine Goes.step (S' := T11.setTop (mkF m 63 #[.val (.int p0), .val (.int p1), .val (.int p2), .val (.int p3), .val (.int p4), .val (.int (0 : Int32)), .val (.int v6_14), .val (.int v7_21), .val (.ref b1), .val (.int v9_34), .unset, .unset, .unset, .unset, .unset] [(.int (p1.toInt8.toInt32)), (.int (1 : Int32)), (.ref b1)])) (fun _ k => XS.i2b X11.here hx rfl (hb hby at_62) rfl k) ?_
    obtain ⟨T14, h14, X14, e14, W14, V_14, st14⟩ := own_bastore X11 hx hZ e11 V_11 ⟨by decide, by decide⟩ (g := (mkF m 63 #[.val (.int p0), .val (.int p1), .val (.int p2), .val (.int p3), .val (.int p4), .val (.int (0 : Int32)), .val (.int v6_14), .val (.int v7_21), .val (.ref b1), .val (.int v9_34), .unset, .unset, .unset, .unset, .unset] [(.int (p1.toInt8.toInt32)), (.int (1 : Int32)), (.ref b1)])) rfl rfl (hb hby at_63)
    replace V_14 : AI Z h14 b1 k1 .byte (5 : Int32) [(nar .byte (p0.toInt8.toInt32)), (nar .byte (p1.toInt8.toInt32)), (0 : Int32), (0 : Int32), (nar .byte v9_34)] := V_14
    have N15 := Fr.snoc X14 N12 g2
    have Z16 : n0 ≤ h14.size := Nat.le_trans Z13 (Nat.le_of_eq W14.size.symm)
    refine Goes.step (S' := T14.setTop (mkF m 64 #[.val (.int p0), .val (.int p1), .val (.int p2), .val (.int p3), .val (.int p4), .val (.int (0 : Int32)), .val (.int v6_14), .val (.int v7_21), .val (.ref b1), .val (.int v9_34), .unset, .unset, .unset, .unset, .unset] [])) st14 ?_
    refine Goes.step (S' := T14.setTop (mkF m 66 #[.val (.int p0), .val (.int p1), .val (.int p2), .val (.int p3), .val (.int p4), .val (.int (0 : Int32)), .val (.int v6_14), .val (.int v7_21), .val (.ref b1), .val (.int v9_34), .unset, .unset, .unset, .unset, .unset] [(.ref b1)])) (fun _ k => XS.aload X14.here hx rfl (hb hby at_64) rfl rfl k) ?_
    refine Goes.step (S' := T14.setTop (mkF m 68 #[.val (.int p0), .val (.int p1), .val (.int p2), .val (.int p3), .val (.int p4), .val (.int (0 : Int32)), .val (.int v6_14), .val (.int v7_21), .val (.ref b1), .val (.int v9_34), .unset, .unset, .unset, .unset, .unset] [(.int (0 : Int32)), (.ref b1)])) (fun _ k => XS.iload X14.here hx rfl (hb hby at_66) rfl  k) ?_
    refine Goes.step (S' := T14.setTop (mkF m 69 #[.val (.int p0), .val (.int p1), .val (.int p2), .val (.int p3), .val (.int p4), .val (.int (0 : Int32)), .val (.int v6_14), .val (.int v7_21), .val (.ref b1), .val (.int v9_34), .unset, .unset, .unset, .unset, .unset] [(.int (2 : Int32)), (.int (0 : Int32)), (.ref b1)])) (fun _ k => XS.iconst X14.here hx rfl (hb hby at_68) k) ?_
    refine Goes.step (S' := T14.setTop (mkF m 70 #[.val (.int p0), .val (.int p1), .val (.int p2), .val (.int p3), .val (.int p4), .val (.int (0 : Int32)), .val (.int v6_14), .val (.int v7_21), .val (.ref b1), .val (.int v9_34), .unset, .unset, .unset, .unset, .unset] [(.int (2 : Int32)), (.ref b1)])) (fun _ k => XS.iadd X14.here hx rfl (hb hby at_69) rfl k) ?_
    refine Goes.step (S' := T14.setTop (mkF m 71 #[.val (.int p0), .val (.int p1), .val (.int p2), .val (.int p3), .val (.int p4), .val (.int (0 : Int32)), .val (.int v6_14), .val (.int v7_21), .val (.ref b1), .val (.int v9_34), .unset, .unset, .unset, .unset, .unset] [(.int p2), (.int (2 : Int32)), (.ref b1)])) (fun _ k => XS.iloadN X14.here hx rfl (hb hby at_70) rfl  k) ?_
    refine Goes.step (S' := T14.setTop (mkF m 72 #[.val (.int p0), .val (.int p1), .val (.int p2), .val (.int p3), .val (.int p4), .val (.int (0 : Int32)), .val (.int v6_14), .val (.int v7_21), .val (.ref b1), .val (.int v9_34), .unset, .unset, .unset, .unset, .unset] [(.int (p2.toInt8.toInt32)), (.int (2 : Int32)), (.ref b1)])) (fun _ k => XS.i2b X14.here hx rfl (hb hby at_71) rfl k) ?_
    obtain ⟨T17, h17, X17, e17, W17, V_17, st17⟩ := own_bastore X14 hx hZ e14 V_14 ⟨by decide, by decide⟩ (g := (mkF m 72 #[.val (.int p0), .val (.int p1), .val (.int p2), .val (.int p3), .val (.int p4), .val (.int (0 : Int32)), .val (.int v6_14), .val (.int v7_21), .val (.ref b1), .val (.int v9_34), .unset, .unset, .unset, .unset, .unset] [(.int (p2.toInt8.toInt32)), (.int (2 : Int32)), (.ref b1)])) rfl rfl (hb hby at_72)
    replace V_17 : AI Z h17 b1 k1 .byte (5 : Int32) [(nar .byte (p0.toInt8.toInt32)), (nar .byte (p1.toInt8.toInt32)), (nar .byte (p2.toInt8.toInt32)), (0 : Int32), (nar .byte v9_34)] := V_17
    have N18 := Fr.snoc X17 N15 g2
    have Z19 : n0 ≤ h17.size := Nat.le_trans Z16 (Nat.le_of_eq W17.size.symm)
    refine Goes.step (S' := T17.setTop (mkF m 73 #[.val (.int p0), .val (.int p1), .val (.int p2), .val (.int p3), .val (.int p4), .val (.int (0 : Int32)), .val (.int v6_14), .val (.int v7_21), .val (.ref b1), .val (.int v9_34), .unset, .unset, .unset, .unset, .unset] [])) st17 ?_
    refine Goes.step (S' := T17.setTop (mkF m 75 #[.val (.int p0), .val (.int p1), .val (.int p2), .val (.int p3), .val (.int p4), .val (.int (0 : Int32)), .val (.int v6_14), .val (.int v7_21), .val (.ref b1), .val (.int v9_34), .unset, .unset, .unset, .unset, .unset] [(.ref b1)])) (fun _ k => XS.aload X17.here hx rfl (hb hby at_73) rfl rfl k) ?_
    refine Goes.step (S' := T17.setTop (mkF m 77 #[.val (.int p0), .val (.int p1), .val (.int p2), .val (.int p3), .val (.int p4), .val (.int (0 : Int32)), .val (.int v6_14), .val (.int v7_21), .val (.ref b1), .val (.int v9_34), .unset, .unset, .unset, .unset, .unset] [(.int (0 : Int32)), (.ref b1)])) (fun _ k => XS.iload X17.here hx rfl (hb hby at_75) rfl  k) ?_
    refine Goes.step (S' := T17.setTop (mkF m 78 #[.val (.int p0), .val (.int p1), .val (.int p2), .val (.int p3), .val (.int p4), .val (.int (0 : Int32)), .val (.int v6_14), .val (.int v7_21), .val (.ref b1), .val (.int v9_34), .unset, .unset, .unset, .unset, .unset] [(.int (3 : Int32)), (.int (0 : Int32)), (.ref b1)])) (fun _ k => XS.iconst X17.here hx rfl (hb hby at_77) k) ?_
    refine Goes.step (S' := T17.setTop (mkF m 79 #[.val (.int p0), .val (.int p1), .val (.int p2), .val (.int p3), .val (.int p4), .val (.int (0 : Int32)), .val (.int v6_14), .val (.int v7_21), .val (.ref b1), .val (.int v9_34), .unset, .unset, .unset, .unset, .unset] [(.int (3 : Int32)), (.ref b1)])) (fun _ k => XS.iadd X17.here hx rfl (hb hby at_78) rfl k) ?_
    refine Goes.step (S' := T17.setTop (mkF m 80 #[.val (.int p0), .val (.int p1), .val (.int p2), .val (.int p3), .val (.int p4), .val (.int (0 : Int32)), .val (.int v6_14), .val (.int v7_21), .val (.ref b1), .val (.int v9_34), .unset, .unset, .unset, .unset, .unset] [(.int p3), (.int (3 : Int32)), (.ref b1)])) (fun _ k => XS.iloadN X17.here hx rfl (hb hby at_79) rfl  k) ?_
    refine Goes.step (S' := T17.setTop (mkF m 81 #[.val (.int p0), .val (.int p1), .val (.int p2), .val (.int p3), .val (.int p4), .val (.int (0 : Int32)), .val (.int v6_14), .val (.int v7_21), .val (.ref b1), .val (.int v9_34), .unset, .unset, .unset, .unset, .unset] [(.int (p3.toInt8.toInt32)), (.int (3 : Int32)), (.ref b1)])) (fun _ k => XS.i2b X17.here hx rfl (hb hby at_80) rfl k) ?_
    obtain ⟨T20, h20, X20, e20, W20, V_20, st20⟩ := own_bastore X17 hx hZ e17 V_17 ⟨by decide, by decide⟩ (g := (mkF m 81 #[.val (.int p0), .val (.int p1), .val (.int p2), .val (.int p3), .val (.int p4), .val (.int (0 : Int32)), .val (.int v6_14), .val (.int v7_21), .val (.ref b1), .val (.int v9_34), .unset, .unset, .unset, .unset, .unset] [(.int (p3.toInt8.toInt32)), (.int (3 : Int32)), (.ref b1)])) rfl rfl (hb hby at_81)
    replace V_20 : AI Z h20 b1 k1 .byte (5 : Int32) [(nar .byte (p0.toInt8.toInt32)), (nar .byte (p1.toInt8.toInt32)), (nar .byte (p2.toInt8.toInt32)), (nar .byte (p3.toInt8.toInt32)), (nar .byte v9_34)] := V_20
    have N21 := Fr.snoc X20 N18 g2
    have Z22 : n0 ≤ h20.size := Nat.le_trans Z19 (Nat.le_of_eq W20.size.symm)
    refine Goes.step (S' := T20.setTop (mkF m 82 #[.val (.int p0), .val (.int p1), .val (.int p2), .val (.int p3), .val (.int p4), .val (.int (0 : Int32)), .val (.int v6_14), .val (.int v7_21), .val (.ref b1), .val (.int v9_34), .unset, .unset, .unset, .unset, .unset] [])) st20 ?_
    refine Goes.step (S' := T20.setTop (mkF m 83 #[.val (.int p0), .val (.int p1), .val (.int p2), .val (.int p3), .val (.int p4), .val (.int (0 : Int32)), .val (.int v6_14), .val (.int v7_21), .val (.ref b1), .val (.int v9_34), .unset, .unset, .unset, .unset, .unset] [(.int p0)])) (fun _ k => XS.iloadN X20.here hx rfl (hb hby at_82) rfl  k) ?_
    refine Goes.step (S' := T20.setTop (mkF m 86 #[.val (.int p0), .val (.int p1), .val (.int p2), .val (.int p3), .val (.int p4), .val (.int (0 : Int32)), .val (.int v6_14), .val (.int v7_21), .val (.ref b1), .val (.int v9_34), .unset, .unset, .unset, .unset, .unset] [(.int (255 : Int32)), (.int p0)])) (fun _ k => XS.sipush X20.here hx rfl (hb hby at_83) k) ?_
    refine Goes.step (S' := T20.setTop (mkF m 87 #[.val (.int p0), .val (.int p1), .val (.int p2), .val (.int p3), .val (.int p4), .val (.int (0 : Int32)), .val (.int v6_14), .val (.int v7_21), .val (.ref b1), .val (.int v9_34), .unset, .unset, .unset, .unset, .unset] [(.int (p0 &&& (255 : Int32)))])) (fun _ k => XS.iand X20.here hx rfl (hb hby at_86) rfl k) ?_
    refine Goes.step (S' := T20.setTop (mkF m 89 #[.val (.int p0), .val (.int p1), .val (.int p2), .val (.int p3), .val (.int p4), .val (.int (0 : Int32)), .val (.int v6_14), .val (.int v7_21), .val (.ref b1), .val (.int v9_34), .val (.int (p0 &&& (255 : Int32))), .unset, .unset, .unset, .unset] [])) (fun _ k => XS.istore X20.here hx rfl (hb hby at_87) rfl (l' := #[.val (.int p0), .val (.int p1), .val (.int p2), .val (.int p3), .val (.int p4), .val (.int (0 : Int32)), .val (.int v6_14), .val (.int v7_21), .val (.ref b1), .val (.int v9_34), .val (.int (p0 &&& (255 : Int32))), .unset, .unset, .unset, .unset]) rfl k) ?_
    obtain ⟨v10_87, ev10_87⟩ : ∃ z : Int32, z = (p0 &&& (255 : Int32)) := ⟨_, rfl⟩
    rw [← ev10_87]
    refine Goes.step (S' := T20.setTop (mkF m 90 #[.val (.int p0), .val (.int p1), .val (.int p2), .val (.int p3), .val (.int p4), .val (.int (0 : Int32)), .val (.int v6_14), .val (.int v7_21), .val (.ref b1), .val (.int v9_34), .val (.int v10_87), .unset, .unset, .unset, .unset] [(.int p1)])) (fun _ k => XS.iloadN X20.here hx rfl (hb hby at_89) rfl  k) ?_
    refine Goes.step (S' := T20.setTop (mkF m 93 #[.val (.int p0), .val (.int p1), .val (.int p2), .val (.int p3), .val (.int p4), .val (.int (0 : Int32)), .val (.int v6_14), .val (.int v7_21), .val (.ref b1), .val (.int v9_34), .val (.int v10_87), .unset, .unset, .unset, .unset] [(.int (255 : Int32)), (.int p1)])) (fun _ k => XS.sipush X20.here hx rfl (hb hby at_90) k) ?_
    refine Goes.step (S' := T20.setTop (mkF m 94 #[.val (.int p0), .val (.int p1), .val (.int p2), .val (.int p3), .val (.int p4), .val (.int (0 : Int32)), .val (.int v6_14), .val (.int v7_21), .val (.ref b1), .val (.int v9_34), .val (.int v10_87), .unset, .unset, .unset, .unset] [(.int (p1 &&& (255 : Int32)))])) (fun _ k => XS.iand X20.here hx rfl (hb hby at_93) rfl k) ?_
    refine Goes.step (S' := T20.setTop (mkF m 96 #[.val (.int p0), .val (.int p1), .val (.int p2), .val (.int p3), .val (.int p4), .val (.int (0 : Int32)), .val (.int v6_14), .val (.int v7_21), .val (.ref b1), .val (.int v9_34), .val (.int v10_87), .val (.int (p1 &&& (255 : Int32))), .unset, .unset, .unset] [])) (fun _ k => XS.istore X20.here hx rfl (hb hby at_94) rfl (l' := #[.val (.int p0), .val (.int p1), .val (.int p2), .val (.int p3), .val (.int p4), .val (.int (0 : Int32)), .val (.int v6_14), .val (.int v7_21), .val (.ref b1), .val (.int v9_34), .val (.int v10_87), .val (.int (p1 &&& (255 : Int32))), .unset, .unset, .unset]) rfl k) ?_
    obtain ⟨v11_94, ev11_94⟩ : ∃ z : Int32, z = (p1 &&& (255 : Int32)) := ⟨_, rfl⟩
    rw [← ev11_94]
    refine Goes.step (S' := T20.setTop (mkF m 97 #[.val (.int p0), .val (.int p1), .val (.int p2), .val (.int p3), .val (.int p4), .val (.int (0 : Int32)), .val (.int v6_14), .val (.int v7_21), .val (.ref b1), .val (.int v9_34), .val (.int v10_87), .val (.int v11_94), .unset, .unset, .unset] [(.int p2)])) (fun _ k => XS.iloadN X20.here hx rfl (hb hby at_96) rfl  k) ?_
    refine Goes.step (S' := T20.setTop (mkF m 100 #[.val (.int p0), .val (.int p1), .val (.int p2), .val (.int p3), .val (.int p4), .val (.int (0 : Int32)), .val (.int v6_14), .val (.int v7_21), .val (.ref b1), .val (.int v9_34), .val (.int v10_87), .val (.int v11_94), .unset, .unset, .unset] [(.int (255 : Int32)), (.int p2)])) (fun _ k => XS.sipush X20.here hx rfl (hb hby at_97) k) ?_
    refine Goes.step (S' := T20.setTop (mkF m 101 #[.val (.int p0), .val (.int p1), .val (.int p2), .val (.int p3), .val (.int p4), .val (.int (0 : Int32)), .val (.int v6_14), .val (.int v7_21), .val (.ref b1), .val (.int v9_34), .val (.int v10_87), .val (.int v11_94), .unset, .unset, .unset] [(.int (p2 &&& (255 : Int32)))])) (fun _ k => XS.iand X20.here hx rfl (hb hby at_100) rfl k) ?_
    refine Goes.step (S' := T20.setTop (mkF m 103 #[.val (.int p0), .val (.int p1), .val (.int p2), .val (.int p3), .val (.int p4), .val (.int (0 : Int32)), .val (.int v6_14), .val (.int v7_21), .val (.ref b1), .val (.int v9_34), .val (.int v10_87), .val (.int v11_94), .val (.int (p2 &&& (255 : Int32))), .unset, .unset] [])) (fun _ k => XS.istore X20.here hx rfl (hb hby at_101) rfl (l' := #[.val (.int p0), .val (.int p1), .val (.int p2), .val (.int p3), .val (.int p4), .val (.int (0 : Int32)), .val (.int v6_14), .val (.int v7_21), .val (.ref b1), .val (.int v9_34), .val (.int v10_87), .val (.int v11_94), .val (.int (p2 &&& (255 : Int32))), .unset, .unset]) rfl k) ?_
    obtain ⟨v12_101, ev12_101⟩ : ∃ z : Int32, z = (p2 &&& (255 : Int32)) := ⟨_, rfl⟩
    rw [← ev12_101]
    refine Goes.step (S' := T20.setTop (mkF m 104 #[.val (.int p0), .val (.int p1), .val (.int p2), .val (.int p3), .val (.int p4), .val (.int (0 : Int32)), .val (.int v6_14), .val (.int v7_21), .val (.ref b1), .val (.int v9_34), .val (.int v10_87), .val (.int v11_94), .val (.int v12_101), .unset, .unset] [(.int p3)])) (fun _ k => XS.iloadN X20.here hx rfl (hb hby at_103) rfl  k) ?_
    refine Goes.step (S' := T20.setTop (mkF m 107 #[.val (.int p0), .val (.int p1), .val (.int p2), .val (.int p3), .val (.int p4), .val (.int (0 : Int32)), .val (.int v6_14), .val (.int v7_21), .val (.ref b1), .val (.int v9_34), .val (.int v10_87), .val (.int v11_94), .val (.int v12_101), .unset, .unset] [(.int (255 : Int32)), (.int p3)])) (fun _ k => XS.sipush X20.here hx rfl (hb hby at_104) k) ?_
    refine Goes.step (S' := T20.setTop (mkF m 108 #[.val (.int p0), .val (.int p1), .val (.int p2), .val (.int p3), .val (.int p4), .val (.int (0 : Int32)), .val (.int v6_14), .val (.int v7_21), .val (.ref b1), .val (.int v9_34), .val (.int v10_87), .val (.int v11_94), .val (.int v12_101), .unset, .unset] [(.int (p3 &&& (255 : Int32)))])) (fun _ k => XS.iand X20.here hx rfl (hb hby at_107) rfl k) ?_
    refine Goes.step (S' := T20.setTop (mkF m 110 #[.val (.int p0), .val (.int p1), .val (.int p2), .val (.int p3), .val (.int p4), .val (.int (0 : Int32)), .val (.int v6_14), .val (.int v7_21), .val (.ref b1), .val (.int v9_34), .val (.int v10_87), .val (.int v11_94), .val (.int v12_101), .val (.int (p3 &&& (255 : Int32))), .unset] [])) (fun _ k => XS.istore X20.here hx rfl (hb hby at_108) rfl (l' := #[.val (.int p0), .val (.int p1), .val (.int p2), .val (.int p3), .val (.int p4), .val (.int (0 : Int32)), .val (.int v6_14), .val (.int v7_21), .val (.ref b1), .val (.int v9_34), .val (.int v10_87), .val (.int v11_94), .val (.int v12_101), .val (.int (p3 &&& (255 : Int32))), .unset]) rfl k) ?_
    obtain ⟨v13_108, ev13_108⟩ : ∃ z : Int32, z = (p3 &&& (255 : Int32)) := ⟨_, rfl⟩
    rw [← ev13_108]
    refine Goes.step (S' := T20.setTop (mkF m 112 #[.val (.int p0), .val (.int p1), .val (.int p2), .val (.int p3), .val (.int p4), .val (.int (0 : Int32)), .val (.int v6_14), .val (.int v7_21), .val (.ref b1), .val (.int v9_34), .val (.int v10_87), .val (.int v11_94), .val (.int v12_101), .val (.int v13_108), .unset] [(.ref b1)])) (fun _ k => XS.aload X20.here hx rfl (hb hby at_110) rfl rfl k) ?_
    refine Goes.step (S' := T20.setTop (mkF m 114 #[.val (.int p0), .val (.int p1), .val (.int p2), .val (.int p3), .val (.int p4), .val (.int (0 : Int32)), .val (.int v6_14), .val (.int v7_21), .val (.ref b1), .val (.int v9_34), .val (.int v10_87), .val (.int v11_94), .val (.int v12_101), .val (.int v13_108), .unset] [(.int (0 : Int32)), (.ref b1)])) (fun _ k => XS.iload X20.here hx rfl (hb hby at_112) rfl  k) ?_
    refine Goes.step (S' := T20.setTop (mkF m 116 #[.val (.int p0), .val (.int p1), .val (.int p2), .val (.int p3), .val (.int p4), .val (.int (0 : Int32)), .val (.int v6_14), .val (.int v7_21), .val (.ref b1), .val (.int v9_34), .val (.int v10_87), .val (.int v11_94), .val (.int v12_101), .val (.int v13_108), .unset] [(.int v7_21), (.int (0 : Int32)), (.ref b1)])) (fun _ k => XS.iload X20.here hx rfl (hb hby at_114) rfl  k) ?_
    obtain ⟨_, _, ⟨T23, L23, k23, n23⟩, -, X23, ⟨Lc23, hQ23, l23, y23, z23⟩, st23⟩ := Jvm.LawKit.callS X20 hx (y := (⟨"com/example/leaderline/leaderline/Utf8", "decode", "([BII)I"⟩ : MethodName)) hown (mvT hZ (hw _ (List.mem_of_getElem? (i := 1) rfl))) (mvT hZ (hw _ (List.mem_of_getElem? (i := 2) rfl))) (mvT hZ (hw _ (List.mem_of_getElem? (i := 3) rfl))) (mvT hZ (hw _ (List.mem_of_getElem? (i := 4) rfl))) (by decide) (backOf (W := 0) (rm1 l Z a0 hw [] b1 (0 : Int32) v7_21 k1 ((5 : Int32)) ([(nar .byte (p0.toInt8.toInt32)), (nar .byte (p1.toInt8.toInt32)), (nar .byte (p2.toInt8.toInt32)), (nar .byte (p3.toInt8.toInt32)), (nar .byte v9_34)]) h20 n0 Z22 V_20 (own_pr0_116_hB p0 p1 p2 p3 p4 ev5_4 v6_14 ev6_14 v7_21 ev7_21 v9_34 ev9_34 v10_87 ev10_87 v11_94 ev11_94 v12_101 ev12_101 v13_108 ev13_108) (own_pr0_116_hb2 p0 p1 p2 p3 p4 ev5_4 v6_14 ev6_14 v7_21 ev7_21 v9_34 ev9_34 v10_87 ev10_87 v11_94 ev11_94 v12_101 ev12_101 v13_108 ev13_108) (own_pr0_116_hb3 p0 p1 p2 p3 p4 ev5_4 v6_14 ev6_14 v7_21 ev7_21 v9_34 ev9_34 v10_87 ev10_87 v11_94 ev11_94 v12_101 ev12_101 v13_108 ev13_108) (own_pr0_116_hb4 p0 p1 p2 p3 p4 ev5_4 v6_14 ev6_14 v7_21 ev7_21 v9_34 ev9_34 v10_87 ev10_87 v11_94 ev11_94 v12_101 ev12_101 v13_108 ev13_108)) hZ (hw _ (List.mem_of_getElem? (i := 4) rfl)) (hw _ (List.mem_of_getElem? (i := 3) rfl)) (by decide) (by decide)) (g := (mkF m 116 #[.val (.int p0), .val (.int p1), .val (.int p2), .val (.int p3), .val (.int p4), .val (.int (0 : Int32)), .val (.int v6_14), .val (.int v7_21), .val (.ref b1), .val (.int v9_34), .val (.int v10_87), .val (.int v11_94), .val (.int v12_101), .val (.int v13_108), .unset] [(.int v7_21), (.int (0 : Int32)), (.ref b1)])) rfl (by rw [hml]; rfl) (argsL := [(.ref b1), (.int (0 : Int32)), (.int v7_21)]) (rest := []) (lenOf pd1 rfl) rfl (by show 2 * 0 + _ ≤ _; exact Nat.le_of_eq rfl) (hb hby at_116) (fun _ _ => ⟨rfl, e20, (by decide : 1 + 0 ≤ _), (by decide : 5 + 0 ≤ _)⟩)
    dsimp only [Pt.U, Pt.locs, Pt.cells, Pt.slots] at X23 l23 y23 z23 st23 hQ23
    subst l23 y23 z23
    obtain ⟨rfl, N23q, e23⟩ := hQ23
    have N24 := Fr.app N21 N23q
    refine Goes.step (S' := T23.setTop (mkF m 119 #[.val (.int p0), .val (.int p1), .val (.int p2), .val (.int p3), .val (.int p4), .val (.int (0 : Int32)), .val (.int v6_14), .val (.int v7_21), .val (.ref b1), .val (.int v9_34), .val (.int v10_87), .val (.int v11_94), .val (.int v12_101), .val (.int v13_108), .unset] [(.int (f1 (5 : Int32) [(nar .byte (p0.toInt8.toInt32)), (nar .byte (p1.toInt8.toInt32)), (nar .byte (p2.toInt8.toInt32)), (nar .byte (p3.toInt8.toInt32)), (nar .byte v9_34)] (0 : Int32) v7_21))])) st23 ?_
    refine Goes.step (S' := T23.setTop (mkF m 121 #[.val (.int p0), .val (.int p1), .val (.int p2), .val (.int p3), .val (.int p4), .val (.int (0 : Int32)), .val (.int v6_14), .val (.int v7_21), .val (.ref b1), .val (.int v9_34), .val (.int v10_87), .val (.int v11_94), .val (.int v12_101), .val (.int v13_108), .val (.int (f1 (5 : Int32) [(nar .byte (p0.toInt8.toInt32)), (nar .byte (p1.toInt8.toInt32)), (nar .byte (p2.toInt8.toInt32)), (nar .byte (p3.toInt8.toInt32)), (nar .byte v9_34)] (0 : Int32) v7_21))] [])) (fun _ k => XS.istore X23.here hx rfl (hb hby at_119) rfl (l' := #[.val (.int p0), .val (.int p1), .val (.int p2), .val (.int p3), .val (.int p4), .val (.int (0 : Int32)), .val (.int v6_14), .val (.int v7_21), .val (.ref b1), .val (.int v9_34), .val (.int v10_87), .val (.int v11_94), .val (.int v12_101), .val (.int v13_108), .val (.int (f1 (5 : Int32) [(nar .byte (p0.toInt8.toInt32)), (nar .byte (p1.toInt8.toInt32)), (nar .byte (p2.toInt8.toInt32)), (nar .byte (p3.toInt8.toInt32)), (nar .byte v9_34)] (0 : Int32) v7_21))]) rfl k) ?_
    obtain ⟨v14_119, ev14_119⟩ : ∃ z : Int32, z = (f1 (5 : Int32) [(nar .byte (p0.toInt8.toInt32)), (nar .byte (p1.toInt8.toInt32)), (nar .byte (p2.toInt8.toInt32)), (nar .byte (p3.toInt8.toInt32)), (nar .byte v9_34)] (0 : Int32) v7_21) := ⟨_, rfl⟩
    rw [← ev14_119]
    refine Goes.step (S' := T23.setTop (mkF m 123 #[.val (.int p0), .val (.int p1), .val (.int p2), .val (.int p3), .val (.int p4), .val (.int (0 : Int32)), .val (.int v6_14), .val (.int v7_21), .val (.ref b1), .val (.int v9_34), .val (.int v10_87), .val (.int v11_94), .val (.int v12_101), .val (.int v13_108), .val (.int v14_119)] [(.int v14_119)])) (fun _ k => XS.iload X23.here hx rfl (hb hby at_121) rfl  k) ?_
    refine Goes.step (S' := T23.setTop (mkF m 125 #[.val (.int p0), .val (.int p1), .val (.int p2), .val (.int p3), .val (.int p4), .val (.int (0 : Int32)), .val (.int v6_14), .val (.int v7_21), .val (.ref b1), .val (.int v9_34), .val (.int v10_87), .val (.int v11_94), .val (.int v12_101), .val (.int v13_108), .val (.int v14_119)] [(.int v10_87), (.int v14_119)])) (fun _ k => XS.iload X23.here hx rfl (hb hby at_123) rfl  k) ?_
    refine Goes.step (S' := T23.setTop (mkF m 127 #[.val (.int p0), .val (.int p1), .val (.int p2), .val (.int p3), .val (.int p4), .val (.int (0 : Int32)), .val (.int v6_14), .val (.int v7_21), .val (.ref b1), .val (.int v9_34), .val (.int v10_87), .val (.int v11_94), .val (.int v12_101), .val (.int v13_108), .val (.int v14_119)] [(.int v11_94), (.int v10_87), (.int v14_119)])) (fun _ k => XS.iload X23.here hx rfl (hb hby at_125) rfl  k) ?_
    refine Goes.step (S' := T23.setTop (mkF m 129 #[.val (.int p0), .val (.int p1), .val (.int p2), .val (.int p3), .val (.int p4), .val (.int (0 : Int32)), .val (.int v6_14), .val (.int v7_21), .val (.ref b1), .val (.int v9_34), .val (.int v10_87), .val (.int v11_94), .val (.int v12_101), .val (.int v13_108), .val (.int v14_119)] [(.int v12_101), (.int v11_94), (.int v10_87), (.int v14_119)])) (fun _ k => XS.iload X23.here hx rfl (hb hby at_127) rfl  k) ?_
    refine Goes.step (S' := T23.setTop (mkF m 131 #[.val (.int p0), .val (.int p1), .val (.int p2), .val (.int p3), .val (.int p4), .val (.int (0 : Int32)), .val (.int v6_14), .val (.int v7_21), .val (.ref b1), .val (.int v9_34), .val (.int v10_87), .val (.int v11_94), .val (.int v12_101), .val (.int v13_108), .val (.int v14_119)] [(.int v13_108), (.int v12_101), (.int v11_94), (.int v10_87), (.int v14_119)])) (fun _ k => XS.iload X23.here hx rfl (hb hby at_129) rfl  k) ?_
    refine Goes.step (S' := T23.setTop (mkF m 133 #[.val (.int p0), .val (.int p1), .val (.int p2), .val (.int p3), .val (.int p4), .val (.int (0 : Int32)), .val (.int v6_14), .val (.int v7_21), .val (.ref b1), .val (.int v9_34), .val (.int v10_87), .val (.int v11_94), .val (.int v12_101), .val (.int v13_108), .val (.int v14_119)] [(.int v6_14), (.int v13_108), (.int v12_101), (.int v11_94), (.int v10_87), (.int v14_119)])) (fun _ k => XS.iload X23.here hx rfl (hb hby at_131) rfl  k) ?_
    obtain ⟨_, _, ⟨T25, L25, k25, n25⟩, -, X25, ⟨Lc25, hQ25, l25, y25, z25⟩, st25⟩ := Jvm.LawKit.callS X23 hx (y := (⟨"com/example/leaderline/leaderline/Utf8DecodePinLaw", "expected", "(IIIII)I"⟩ : MethodName)) hown (mvT hZ (hw _ (List.mem_of_getElem? (i := 5) rfl))) (mvT hZ (hw _ (List.mem_of_getElem? (i := 6) rfl))) (mvT hZ (hw _ (List.mem_of_getElem? (i := 7) rfl))) (mvT hZ (hw _ (List.mem_of_getElem? (i := 8) rfl))) (by decide) (backOf (W := 1) (rm2 l Z a0 hw [] v10_87 v11_94 v12_101 v13_108 v6_14 h20 n0 Z22) hZ (hw _ (List.mem_of_getElem? (i := 8) rfl)) (hw _ (List.mem_of_getElem? (i := 7) rfl)) (by decide) (by decide)) (g := (mkF m 133 #[.val (.int p0), .val (.int p1), .val (.int p2), .val (.int p3), .val (.int p4), .val (.int (0 : Int32)), .val (.int v6_14), .val (.int v7_21), .val (.ref b1), .val (.int v9_34), .val (.int v10_87), .val (.int v11_94), .val (.int v12_101), .val (.int v13_108), .val (.int v14_119)] [(.int v6_14), (.int v13_108), (.int v12_101), (.int v11_94), (.int v10_87), (.int v14_119)])) rfl (by rw [hml]; rfl) (argsL := [(.int v10_87), (.int v11_94), (.int v12_101), (.int v13_108), (.int v6_14)]) (rest := [(.int v14_119)]) (lenOf pd2 rfl) rfl (by show 2 * 0 + _ ≤ _; exact Nat.le_of_eq rfl) (hb hby at_133) (fun _ _ => ⟨rfl, e23, (by decide : 1 + 0 ≤ _), (by decide : 5 + 0 ≤ _)⟩)
    dsimp only [Pt.U, Pt.locs, Pt.cells, Pt.slots] at X25 l25 y25 z25 st25 hQ25
    subst l25 y25 z25
    obtain ⟨rfl, N25q, e25⟩ := hQ25
    have N26 := Fr.app N24 N25q
    refine Goes.step (S' := T25.setTop (mkF m 136 #[.val (.int p0), .val (.int p1), .val (.int p2), .val (.int p3), .val (.int p4), .val (.int (0 : Int32)), .val (.int v6_14), .val (.int v7_21), .val (.ref b1), .val (.int v9_34), .val (.int v10_87), .val (.int v11_94), .val (.int v12_101), .val (.int v13_108), .val (.int v14_119)] [(.int (f2 v10_87 v11_94 v12_101 v13_108 v6_14)), (.int v14_119)])) st25 ?_
    refine Goes.step (S' := T25.setTop (mkF m 139 #[.val (.int p0), .val (.int p1), .val (.int p2), .val (.int p3), .val (.int p4), .val (.int (0 : Int32)), .val (.int v6_14), .val (.int v7_21), .val (.ref b1), .val (.int v9_34), .val (.int v10_87), .val (.int v11_94), .val (.int v12_101), .val (.int v13_108), .val (.int v14_119)] [])) (fun _ k => XS.icmpNo X25.here hx rfl (hb hby at_136) rfl (teq (own_hc0_136 p0 p1 p2 p3 p4 ev5_4 v6_14 ev6_14 v7_21 ev7_21 v9_34 ev9_34 v10_87 ev10_87 v11_94 ev11_94 v12_101 ev12_101 v13_108 ev13_108 v14_119 ev14_119)).2 k) ?_
    refine Goes.step (S' := T25.setTop (mkF m 140 #[.val (.int p0), .val (.int p1), .val (.int p2), .val (.int p3), .val (.int p4), .val (.int (0 : Int32)), .val (.int v6_14), .val (.int v7_21), .val (.ref b1), .val (.int v9_34), .val (.int v10_87), .val (.int v11_94), .val (.int v12_101), .val (.int v13_108), .val (.int v14_119)] [(.int (1 : Int32))])) (fun _ k => XS.iconst X25.here hx rfl (hb hby at_139) k) ?_
    refine Goes.step (S' := T25.setTop (mkF m 144 #[.val (.int p0), .val (.int p1), .val (.int p2), .val (.int p3), .val (.int p4), .val (.int (0 : Int32)), .val (.int v6_14), .val (.int v7_21), .val (.ref b1), .val (.int v9_34), .val (.int v10_87), .val (.int v11_94), .val (.int v12_101), .val (.int v13_108), .val (.int v14_119)] [(.int (1 : Int32))])) (fun _ k => XS.goto X25.here hx rfl (pc0 := 140) (pc' := 144) rfl (hb hby at_140) (by decide) (by decide) k) ?_
    refine Goes.retN X25 hx Bd.notSynchronized (t := .boolean) Bd.returns (by simp) (hb hby at_144) (by decide) (by decide) ?_
    exact ⟨rfl, N26⟩
  · refine Goes.step (S' := s₁.setTop (mkF m 7 #[.val (.int p0), .val (.int p1), .val (.int p2), .val (.int p3), .val (.int p4), .val (.int (1 : Int32)), .unset, .unset, .unset, .unset, .unset, .unset, .unset, .unset, .unset] [(.int (1 : Int32))])) (fun _ k => XS.iconst X0.here hx rfl (hb hby at_6) k) ?_
    refine Goes.step (S' := s₁.setTop (mkF m 9 #[.val (.int p0), .val (.int p1), .val (.int p2), .val (.int p3), .val (.int p4), .val (.int (1 : Int32)), .unset, .unset, .unset, .unset, .unset, .unset, .unset, .unset, .unset] [(.int p4), (.int (1 : Int32))])) (fun _ k => XS.iload X0.here hx rfl (hb hby at_7) rfl  k) ?_
    refine Goes.step (S' := s₁.setTop (mkF m 10 #[.val (.int p0), .val (.int p1), .val (.int p2), .val (.int p3), .val (.int p4), .val (.int (1 : Int32)), .unset, .unset, .unset, .unset, .unset, .unset, .unset, .unset, .unset] [(.int (1 : Int32)), (.int p4), (.int (1 : Int32))])) (fun _ k => XS.iconst X0.here hx rfl (hb hby at_9) k) ?_
    refine Goes.step (S' := s₁.setTop (mkF m 11 #[.val (.int p0), .val (.int p1), .val (.int p2), .val (.int p3), .val (.int p4), .val (.int (1 : Int32)), .unset, .unset, .unset, .unset, .unset, .unset, .unset, .unset, .unset] [(.int ((p4.toUInt32 >>> ((1 : Int32) &&& 31).toUInt32).toInt32)), (.int (1 : Int32))])) (fun _ k => XS.iushr X0.here hx rfl (hb hby at_10) rfl k) ?_
    refine Goes.step (S' := s₁.setTop (mkF m 12 #[.val (.int p0), .val (.int p1), .val (.int p2), .val (.int p3), .val (.int p4), .val (.int (1 : Int32)), .unset, .unset, .unset, .unset, .unset, .unset, .unset, .unset, .unset] [(.int (3 : Int32)), (.int ((p4.toUInt32 >>> ((1 : Int32) &&& 31).toUInt32).toInt32)), (.int (1 : Int32))])) (fun _ k => XS.iconst X0.here hx rfl (hb hby at_11) k) ?_
    refine Goes.step (S' := s₁.setTop (mkF m 13 #[.val (.int p0), .val (.int p1), .val (.int p2), .val (.int p3), .val (.int p4), .val (.int (1 : Int32)), .unset, .unset, .unset, .unset, .unset, .unset, .unset, .unset, .unset] [(.int (((p4.toUInt32 >>> ((1 : Int32) &&& 31).toUInt32).toInt32) &&& (3 : Int32))), (.int (1 : Int32))])) (fun _ k => XS.iand X0.here hx rfl (hb hby at_12) rfl k) ?_
    refine Goes.step (S' := s₁.setTop (mkF m 14 #[.val (.int p0), .val (.int p1), .val (.int p2), .val (.int p3), .val (.int p4), .val (.int (1 : Int32)), .unset, .unset, .unset, .unset, .unset, .unset, .unset, .unset, .unset] [(.int ((1 : Int32) + (((p4.toUInt32 >>> ((1 : Int32) &&& 31).toUInt32).toInt32) &&& (3 : Int32))))])) (fun _ k => XS.iadd X0.here hx rfl (hb hby at_13) rfl k) ?_
    refine Goes.step (S' := s₁.setTop (mkF m 16 #[.val (.int p0), .val (.int p1), .val (.int p2), .val (.int p3), .val (.int p4), .val (.int (1 : Int32)), .val (.int ((1 : Int32) + (((p4.toUInt32 >>> ((1 : Int32) &&& 31).toUInt32).toInt32) &&& (3 : Int32)))), .unset, .unset, .unset, .unset, .unset, .unset, .unset, .unset] [])) (fun _ k => XS.istore X0.here hx rfl (hb hby at_14) rfl (l' := #[.val (.int p0), .val (.int p1), .val (.int p2), .val (.int p3), .val (.int p4), .val (.int (1 : Int32)), .val (.int ((1 : Int32) + (((p4.toUInt32 >>> ((1 : Int32) &&& 31).toUInt32).toInt32) &&& (3 : Int32)))), .unset, .unset, .unset, .unset, .unset, .unset, .unset, .unset]) rfl k) ?_
    obtain ⟨v6_14, ev6_14⟩ : ∃ z : Int32, z = ((1 : Int32) + (((p4.toUInt32 >>> ((1 : Int32) &&& 31).toUInt32).toInt32) &&& (3 : Int32))) := ⟨_, rfl⟩
    rw [← ev6_14]
    refine Goes.step (S' := s₁.setTop (mkF m 18 #[.val (.int p0), .val (.int p1), .val (.int p2), .val (.int p3), .val (.int p4), .val (.int (1 : Int32)), .val (.int v6_14), .unset, .unset, .unset, .unset, .unset, .unset, .unset, .unset] [(.int (1 : Int32))])) (fun _ k => XS.iload X0.here hx rfl (hb hby at_16) rfl  k) ?_
    refine Goes.step (S' := s₁.setTop (mkF m 20 #[.val (.int p0), .val (.int p1), .val (.int p2), .val (.int p3), .val (.int p4), .val (.int (1 : Int32)), .val (.int v6_14), .unset, .unset, .unset, .unset, .unset, .unset, .unset, .unset] [(.int v6_14), (.int (1 : Int32))])) (fun _ k => XS.iload X0.here hx rfl (hb hby at_18) rfl  k) ?_
    refine Goes.step (S' := s₁.setTop (mkF m 21 #[.val (.int p0), .val (.int p1), .val (.int p2), .val (.int p3), .val (.int p4), .val (.int (1 : Int32)), .val (.int v6_14), .unset, .unset, .unset, .unset, .unset, .unset, .unset, .unset] [(.int ((1 : Int32) + v6_14))])) (fun _ k => XS.iadd X0.here hx rfl (hb hby at_20) rfl k) ?_
    refine Goes.step (S' := s₁.setTop (mkF m 23 #[.val (.int p0), .val (.int p1), .val (.int p2), .val (.int p3), .val (.int p4), .val (.int (1 : Int32)), .val (.int v6_14), .val (.int ((1 : Int32) + v6_14)), .unset, .unset, .unset, .unset, .unset, .unset, .unset] [])) (fun _ k => XS.istore X0.here hx rfl (hb hby at_21) rfl (l' := #[.val (.int p0), .val (.int p1), .val (.int p2), .val (.int p3), .val (.int p4), .val (.int (1 : Int32)), .val (.int v6_14), .val (.int ((1 : Int32) + v6_14)), .unset, .unset, .unset, .unset, .unset, .unset, .unset]) rfl k) ?_
    obtain ⟨v7_21, ev7_21⟩ : ∃ z : Int32, z = ((1 : Int32) + v6_14) := ⟨_, rfl⟩
    rw [← ev7_21]
    refine Goes.step (S' := s₁.setTop (mkF m 24 #[.val (.int p0), .val (.int p1), .val (.int p2), .val (.int p3), .val (.int p4), .val (.int (1 : Int32)), .val (.int v6_14), .val (.int v7_21), .unset, .unset, .unset, .unset, .unset, .unset, .unset] [(.int (5 : Int32))])) (fun _ k => XS.iconst X0.here hx rfl (hb hby at_23) k) ?_
    obtain ⟨T27, h27, k27, X27, e27, E27, A27, st27⟩ := newP X0 hx hZ (hw _ (List.mem_of_getElem? (i := 0) rfl)) e0 (g := (mkF m 24 #[.val (.int p0), .val (.int p1), .val (.int p2), .val (.int p3), .val (.int p4), .val (.int (1 : Int32)), .val (.int v6_14), .val (.int v7_21), .unset, .unset, .unset, .unset, .unset, .unset, .unset] [(.int (5 : Int32))])) rfl (hb hby at_24) rfl (by decide) (cap := 5) (by decide) (by decide) (by decide) (by decide)
    obtain ⟨b27, g27⟩ : ∃ z, z = h0.size := ⟨_, rfl⟩
    rw [← g27] at A27 st27
    have g28 : n0 ≤ b27 := Nat.le_trans Z0 (Nat.le_of_eq g27.symm)
    have Z29 : n0 ≤ h27.size := Nat.le_trans Z0 E27.1
    have V30 : AI Z h27 b27 k27 .byte (5 : Int32) [(0 : Int32), (0 : Int32), (0 : Int32), (0 : Int32), (0 : Int32)] := own_new A27 (by decide) rfl
    refine Goes.step (S' := T27.setTop (mkF m 26 #[.val (.int p0), .val (.int p1), .val (.int p2), .val (.int p3), .val (.int p4), .val (.int (1 : Int32)), .val (.int v6_14), .val (.int v7_21), .unset, .unset, .unset, .unset, .unset, .unset, .unset] [(.ref b27)])) st27 ?_
    refine Goes.step (S' := T27.setTop (mkF m 28 #[.val (.int p0), .val (.int p1), .val (.int p2), .val (.int p3), .val (.int p4), .val (.int (1 : Int32)), .val (.int v6_14), .val (.int v7_21), .val (.ref b27), .unset, .unset, .unset, .unset, .unset, .unset] [])) (fun _ k => XS.astore X27.here hx rfl (hb hby at_26) rfl rfl (l' := #[.val (.int p0), .val (.int p1), .val (.int p2), .val (.int p3), .val (.int p4), .val (.int (1 : Int32)), .val (.int v6_14), .val (.int v7_21), .val (.ref b27), .unset, .unset, .unset, .unset, .unset, .unset]) rfl k) ?_
    refine Goes.step (S' := T27.setTop (mkF m 30 #[.val (.int p0), .val (.int p1), .val (.int p2), .val (.int p3), .val (.int p4), .val (.int (1 : Int32)), .val (.int v6_14), .val (.int v7_21), .val (.ref b27), .unset, .unset, .unset, .unset, .unset, .unset] [(.int p4)])) (fun _ k => XS.iload X27.here hx rfl (hb hby at_28) rfl  k) ?_
    refine Goes.step (S' := T27.setTop (mkF m 32 #[.val (.int p0), .val (.int p1), .val (.int p2), .val (.int p3), .val (.int p4), .val (.int (1 : Int32)), .val (.int v6_14), .val (.int v7_21), .val (.ref b27), .unset, .unset, .unset, .unset, .unset, .unset] [(.int (8 : Int32)), (.int p4)])) (fun _ k => XS.bipush X27.here hx rfl (hb hby at_30) k) ?_
    refine Goes.step (S' := T27.setTop (mkF m 33 #[.val (.int p0), .val (.int p1), .val (.int p2), .val (.int p3), .val (.int p4), .val (.int (1 : Int32)), .val (.int v6_14), .val (.int v7_21), .val (.ref b27), .unset, .unset, .unset, .unset, .unset, .unset] [(.int (p4 >>> ((8 : Int32) &&& 31)))])) (fun _ k => XS.ishr X27.here hx rfl (hb hby at_32) rfl k) ?_
    refine Goes.step (S' := T27.setTop (mkF m 34 #[.val (.int p0), .val (.int p1), .val (.int p2), .val (.int p3), .val (.int p4), .val (.int (1 : Int32)), .val (.int v6_14), .val (.int v7_21), .val (.ref b27), .unset, .unset, .unset, .unset, .unset, .unset] [(.int ((p4 >>> ((8 : Int32) &&& 31)).toInt8.toInt32))])) (fun _ k => XS.i2b X27.here hx rfl (hb hby at_33) rfl k) ?_
    refine Goes.step (S' := T27.setTop (mkF m 36 #[.val (.int p0), .val (.int p1), .val (.int p2), .val (.int p3), .val (.int p4), .val (.int (1 : Int32)), .val (.int v6_14), .val (.int v7_21), .val (.ref b27), .val (.int ((p4 >>> ((8 : Int32) &&& 31)).toInt8.toInt32)), .unset, .unset, .unset, .unset, .unset] [])) (fun _ k => XS.istore X27.here hx rfl (hb hby at_34) rfl (l' := #[.val (.int p0), .val (.int p1), .val (.int p2), .val (.int p3), .val (.int p4), .val (.int (1 : Int32)), .val (.int v6_14), .val (.int v7_21), .val (.ref b27), .val (.int ((p4 >>> ((8 : Int32) &&& 31)).toInt8.toInt32)), .unset, .unset, .unset, .unset, .unset]) rfl k) ?_
    obtain ⟨v9_34, ev9_34⟩ : ∃ z : Int32, z = ((p4 >>> ((8 : Int32) &&& 31)).toInt8.toInt32) := ⟨_, rfl⟩
    rw [← ev9_34]
    refine Goes.step (S' := T27.setTop (mkF m 38 #[.val (.int p0), .val (.int p1), .val (.int p2), .val (.int p3), .val (.int p4), .val (.int (1 : Int32)), .val (.int v6_14), .val (.int v7_21), .val (.ref b27), .val (.int v9_34), .unset, .unset, .unset, .unset, .unset] [(.ref b27)])) (fun _ k => XS.aload X27.here hx rfl (hb hby at_36) rfl rfl k) ?_
    refine Goes.step (S' := T27.setTop (mkF m 39 #[.val (.int p0), .val (.int p1), .val (.int p2), .val (.int p3), .val (.int p4), .val (.int (1 : Int32)), .val (.int v6_14), .val (.int v7_21), .val (.ref b27), .val (.int v9_34), .unset, .unset, .unset, .unset, .unset] [(.int (0 : Int32)), (.ref b27)])) (fun _ k => XS.iconst X27.here hx rfl (hb hby at_38) k) ?_
    refine Goes.step (S' := T27.setTop (mkF m 41 #[.val (.int p0), .val (.int p1), .val (.int p2), .val (.int p3), .val (.int p4), .val (.int (1 : Int32)), .val (.int v6_14), .val (.int v7_21), .val (.ref b27), .val (.int v9_34), .unset, .unset, .unset, .unset, .unset] [(.int v9_34), (.int (0 : Int32)), (.ref b27)])) (fun _ k => XS.iload X27.here hx rfl (hb hby at_39) rfl  k) ?_
    obtain ⟨T31, h31, X31, e31, W31, V_31, st31⟩ := own_bastore X27 hx hZ e27 V30 ⟨by decide, by decide⟩ (g := (mkF m 41 #[.val (.int p0), .val (.int p1), .val (.int p2), .val (.int p3), .val (.int p4), .val (.int (1 : Int32)), .val (.int v6_14), .val (.int v7_21), .val (.ref b27), .val (.int v9_34), .unset, .unset, .unset, .unset, .unset] [(.int v9_34), (.int (0 : Int32)), (.ref b27)])) rfl rfl (hb hby at_41)
    replace V_31 : AI Z h31 b27 k27 .byte (5 : Int32) [(nar .byte v9_34), (0 : Int32), (0 : Int32), (0 : Int32), (0 : Int32)] := V_31
    have N32 := Fr.snoc X31 N0 g28
    have Z33 : n0 ≤ h31.size := Nat.le_trans Z29 (Nat.le_of_eq W31.size.symm)
    refine Goes.step (S' := T31.setTop (mkF m 42 #[.val (.int p0), .val (.int p1), .val (.int p2), .val (.int p3), .val (.int p4), .val (.int (1 : Int32)), .val (.int v6_14), .val (.int v7_21), .val (.ref b27), .val (.int v9_34), .unset, .unset, .unset, .unset, .unset] [])) st31 ?_
    refine Goes.step (S' := T31.setTop (mkF m 44 #[.val (.int p0), .val (.int p1), .val (.int p2), .val (.int p3), .val (.int p4), .val (.int (1 : Int32)), .val (.int v6_14), .val (.int v7_21), .val (.ref b27), .val (.int v9_34), .unset, .unset, .unset, .unset, .unset] [(.ref b27)])) (fun _ k => XS.aload X31.here hx rfl (hb hby at_42) rfl rfl k) ?_
    refine Goes.step (S' := T31.setTop (mkF m 45 #[.val (.int p0), .val (.int p1), .val (.int p2), .val (.int p3), .val (.int p4), .val (.int (1 : Int32)), .val (.int v6_14), .val (.int v7_21), .val (.ref b27), .val (.int v9_34), .unset, .unset, .unset, .unset, .unset] [(.int (4 : Int32)), (.ref b27)])) (fun _ k => XS.iconst X31.here hx rfl (hb hby at_44) k) ?_
    refine Goes.step (S' := T31.setTop (mkF m 47 #[.val (.int p0), .val (.int p1), .val (.int p2), .val (.int p3), .val (.int p4), .val (.int (1 : Int32)), .val (.int v6_14), .val (.int v7_21), .val (.ref b27), .val (.int v9_34), .unset, .unset, .unset, .unset, .unset] [(.int v9_34), (.int (4 : Int32)), (.ref b27)])) (fun _ k => XS.iload X31.here hx rfl (hb hby at_45) rfl  k) ?_
    obtain ⟨T34, h34, X34, e34, W34, V_34, st34⟩ := own_bastore X31 hx hZ e31 V_31 ⟨by decide, by decide⟩ (g := (mkF m 47 #[.val (.int p0), .val (.int p1), .val (.int p2), .val (.int p3), .val (.int p4), .val (.int (1 : Int32)), .val (.int v6_14), .val (.int v7_21), .val (.ref b27), .val (.int v9_34), .unset, .unset, .unset, .unset, .unset] [(.int v9_34), (.int (4 : Int32)), (.ref b27)])) rfl rfl (hb hby at_47)
    replace V_34 : AI Z h34 b27 k27 .byte (5 : Int32) [(nar .byte v9_34), (0 : Int32), (0 : Int32), (0 : Int32), (nar .byte v9_34)] := V_34
    have N35 := Fr.snoc X34 N32 g28
    have Z36 : n0 ≤ h34.size := Nat.le_trans Z33 (Nat.le_of_eq W34.size.symm)
    refine Goes.step (S' := T34.setTop (mkF m 48 #[.val (.int p0), .val (.int p1), .val (.int p2), .val (.int p3), .val (.int p4), .val (.int (1 : Int32)), .val (.int v6_14), .val (.int v7_21), .val (.ref b27), .val (.int v9_34), .unset, .unset, .unset, .unset, .unset] [])) st34 ?_
    refine Goes.step (S' := T34.setTop (mkF m 50 #[.val (.int p0), .val (.int p1), .val (.int p2), .val (.int p3), .val (.int p4), .val (.int (1 : Int32)), .val (.int v6_14), .val (.int v7_21), .val (.ref b27), .val (.int v9_34), .unset, .unset, .unset, .unset, .unset] [(.ref b27)])) (fun _ k => XS.aload X34.here hx rfl (hb hby at_48) rfl rfl k) ?_
    refine Goes.step (S' := T34.setTop (mkF m 52 #[.val (.int p0), .val (.int p1), .val (.int p2), .val (.int p3), .val (.int p4), .val (.int (1 : Int32)), .val (.int v6_14), .val (.int v7_21), .val (.ref b27), .val (.int v9_34), .unset, .unset, .unset, .unset, .unset] [(.int (1 : Int32)), (.ref b27)])) (fun _ k => XS.iload X34.here hx rfl (hb hby at_50) rfl  k) ?_
    refine Goes.step (S' := T34.setTop (mkF m 53 #[.val (.int p0), .val (.int p1), .val (.int p2), .val (.int p3), .val (.int p4), .val (.int (1 : Int32)), .val (.int v6_14), .val (.int v7_21), .val (.ref b27), .val (.int v9_34), .unset, .unset, .unset, .unset, .unset] [(.int p0), (.int (1 : Int32)), (.ref b27)])) (fun _ k => XS.iloadN X34.here hx rfl (hb hby at_52) rfl  k) ?_
    refine Goes.step (S' := T34.setTop (mkF m 54 #[.val (.int p0), .val (.int p1), .val (.int p2), .val (.int p3), .val (.int p4), .val (.int (1 : Int32)), .val (.int v6_14), .val (.int v7_21), .val (.ref b27), .val (.int v9_34), .unset, .unset, .unset, .unset, .unset] [(.int (p0.toInt8.toInt32)), (.int (1 : Int32)), (.ref b27)])) (fun _ k => XS.i2b X34.here hx rfl (hb hby at_53) rfl k) ?_
    obtain ⟨T37, h37, X37, e37, W37, V_37, st37⟩ := own_bastore X34 hx hZ e34 V_34 ⟨by decide, by decide⟩ (g := (mkF m 54 #[.val (.int p0), .val (.int p1), .val (.int p2), .val (.int p3), .val (.int p4), .val (.int (1 : Int32)), .val (.int v6_14), .val (.int v7_21), .val (.ref b27), .val (.int v9_34), .unset, .unset, .unset, .unset, .unset] [(.int (p0.toInt8.toInt32)), (.int (1 : Int32)), (.ref b27)])) rfl rfl (hb hby at_54)
    replace V_37 : AI Z h37 b27 k27 .byte (5 : Int32) [(nar .byte v9_34), (nar .byte (p0.toInt8.toInt32)), (0 : Int32), (0 : Int32), (nar .byte v9_34)] := V_37
    have N38 := Fr.snoc X37 N35 g28
    have Z39 : n0 ≤ h37.size := Nat.le_trans Z36 (Nat.le_of_eq W37.size.symm)
    refine Goes.step (S' := T37.setTop (mkF m 55 #[.val (.int p0), .val (.int p1), .val (.int p2), .val (.int p3), .val (.int p4), .val (.int (1 : Int32)), .val (.int v6_14), .val (.int v7_21), .val (.ref b27), .val (.int v9_34), .unset, .unset, .unset, .unset, .unset] [])) st37 ?_
    refine Goes.step (S' := T37.setTop (mkF m 57 #[.val (.int p0), .val (.int p1), .val (.int p2), .val (.int p3), .val (.int p4), .val (.int (1 : Int32)), .val (.int v6_14), .val (.int v7_21), .val (.ref b27), .val (.int v9_34), .unset, .unset, .unset, .unset, .unset] [(.ref b27)])) (fun _ k => XS.aload X37.here hx rfl (hb hby at_55) rfl rfl k) ?_
    refine Goes.step (S' := T37.setTop (mkF m 59 #[.val (.int p0), .val (.int p1), .val (.int p2), .val (.int p3), .val (.int p4), .val (.int (1 : Int32)), .val (.int v6_14), .val (.int v7_21), .val (.ref b27), .val (.int v9_34), .unset, .unset, .unset, .unset, .unset] [(.int (1 : Int32)), (.ref b27)])) (fun _ k => XS.iload X37.here hx rfl (hb hby at_57) rfl  k) ?_
    refine Goes.step (S' := T37.setTop (mkF m 60 #[.val (.int p0), .val (.int p1), .val (.int p2), .val (.int p3), .val (.int p4), .val (.int (1 : Int32)), .val (.int v6_14), .val (.int v7_21), .val (.ref b27), .val (.int v9_34), .unset, .unset, .unset, .unset, .unset] [(.int (1 : Int32)), (.int (1 : Int32)), (.ref b27)])) (fun _ k => XS.iconst X37.here hx rfl (hb hby at_59) k) ?_
    refine Goes.step (S' := T37.setTop (mkF m 61 #[.val (.int p0), .val (.int p1), .val (.int p2), .val (.int p3), .val (.int p4), .val (.int (1 : Int32)), .val (.int v6_14), .val (.int v7_21), .val (.ref b27), .val (.int v9_34), .unset, .unset, .unset, .unset, .unset] [(.int (2 : Int32)), (.ref b27)])) (fun _ k => XS.iadd X37.here hx rfl (hb hby at_60) rfl k) ?_
    refine Goes.step (S' := T37.setTop (mkF m 62 #[.val (.int p0), .val (.int p1), .val (.int p2), .val (.int p3), .val (.int p4), .val (.int (1 : Int32)), .val (.int v6_14), .val (.int v7_21), .val (.ref b27), .val (.int v9_34), .unset, .unset, .unset, .unset, .unset] [(.int p1), (.int (2 : Int32)), (.ref b27)])) (fun _ k => XS.iloadN X37.here hx rfl (hb hby at_61) rfl  k) ?_
    refine Goes.step (S' := T37.setTop (mkF m 63 #[.val (.int p0), .val (.int p1), .val (.int p2), .val (.int p3), .val (.int p4), .val (.int (1 : Int32)), .val (.int v6_14), .val (.int v7_21), .val (.ref b27), .val (.int v9_34), .unset, .unset, .unset, .unset, .unset] [(.int (p1.toInt8.toInt32)), (.int (2 : Int32)), (.ref b27)])) (fun _ k => XS.i2b X37.here hx rfl (hb hby at_62) rfl k) ?_
    obtain ⟨T40, h40, X40, e40, W40, V_40, st40⟩ := own_bastore X37 hx hZ e37 V_37 ⟨by decide, by decide⟩ (g := (mkF m 63 #[.val (.int p0), .val (.int p1), .val (.int p2), .val (.int p3), .val (.int p4), .val (.int (1 : Int32)), .val (.int v6_14), .val (.int v7_21), .val (.ref b27), .val (.int v9_34), .unset, .unset, .unset, .unset, .unset] [(.int (p1.toInt8.toInt32)), (.int (2 : Int32)), (.ref b27)])) rfl rfl (hb hby at_63)
    replace V_40 : AI Z h40 b27 k27 .byte (5 : Int32) [(nar .byte v9_34), (nar .byte (p0.toInt8.toInt32)), (nar .byte (p1.toInt8.toInt32)), (0 : Int32), (nar .byte v9_34)] := V_40
    have N41 := Fr.snoc X40 N38 g28
    have Z42 : n0 ≤ h40.size := Nat.le_trans Z39 (Nat.le_of_eq W40.size.symm)
    refine Goes.step (S' := T40.setTop (mkF m 64 #[.val (.int p0), .val (.int p1), .val (.int p2), .val (.int p3), .val (.int p4), .val (.int (1 : Int32)), .val (.int v6_14), .val (.int v7_21), .val (.ref b27), .val (.int v9_34), .unset, .unset, .unset, .unset, .unset] [])) st40 ?_
    refine Goes.step (S' := T40.setTop (mkF m 66 #[.val (.int p0), .val (.int p1), .val (.int p2), .val (.int p3), .val (.int p4), .val (.int (1 : Int32)), .val (.int v6_14), .val (.int v7_21), .val (.ref b27), .val (.int v9_34), .unset, .unset, .unset, .unset, .unset] [(.ref b27)])) (fun _ k => XS.aload X40.here hx rfl (hb hby at_64) rfl rfl k) ?_
    refine Goes.step (S' := T40.setTop (mkF m 68 #[.val (.int p0), .val (.int p1), .val (.int p2), .val (.int p3), .val (.int p4), .val (.int (1 : Int32)), .val (.int v6_14), .val (.int v7_21), .val (.ref b27), .val (.int v9_34), .unset, .unset, .unset, .unset, .unset] [(.int (1 : Int32)), (.ref b27)])) (fun _ k => XS.iload X40.here hx rfl (hb hby at_66) rfl  k) ?_
    refine Goes.step (S' := T40.setTop (mkF m 69 #[.val (.int p0), .val (.int p1), .val (.int p2), .val (.int p3), .val (.int p4), .val (.int (1 : Int32)), .val (.int v6_14), .val (.int v7_21), .val (.ref b27), .val (.int v9_34), .unset, .unset, .unset, .unset, .unset] [(.int (2 : Int32)), (.int (1 : Int32)), (.ref b27)])) (fun _ k => XS.iconst X40.here hx rfl (hb hby at_68) k) ?_
    refine Goes.step (S' := T40.setTop (mkF m 70 #[.val (.int p0), .val (.int p1), .val (.int p2), .val (.int p3), .val (.int p4), .val (.int (1 : Int32)), .val (.int v6_14), .val (.int v7_21), .val (.ref b27), .val (.int v9_34), .unset, .unset, .unset, .unset, .unset] [(.int (3 : Int32)), (.ref b27)])) (fun _ k => XS.iadd X40.here hx rfl (hb hby at_69) rfl k) ?_
    refine Goes.step (S' := T40.setTop (mkF m 71 #[.val (.int p0), .val (.int p1), .val (.int p2), .val (.int p3), .val (.int p4), .val (.int (1 : Int32)), .val (.int v6_14), .val (.int v7_21), .val (.ref b27), .val (.int v9_34), .unset, .unset, .unset, .unset, .unset] [(.int p2), (.int (3 : Int32)), (.ref b27)])) (fun _ k => XS.iloadN X40.here hx rfl (hb hby at_70) rfl  k) ?_
    refine Goes.step (S' := T40.setTop (mkF m 72 #[.val (.int p0), .val (.int p1), .val (.int p2), .val (.int p3), .val (.int p4), .val (.int (1 : Int32)), .val (.int v6_14), .val (.int v7_21), .val (.ref b27), .val (.int v9_34), .unset, .unset, .unset, .unset, .unset] [(.int (p2.toInt8.toInt32)), (.int (3 : Int32)), (.ref b27)])) (fun _ k => XS.i2b X40.here hx rfl (hb hby at_71) rfl k) ?_
    obtain ⟨T43, h43, X43, e43, W43, V_43, st43⟩ := own_bastore X40 hx hZ e40 V_40 ⟨by decide, by decide⟩ (g := (mkF m 72 #[.val (.int p0), .val (.int p1), .val (.int p2), .val (.int p3), .val (.int p4), .val (.int (1 : Int32)), .val (.int v6_14), .val (.int v7_21), .val (.ref b27), .val (.int v9_34), .unset, .unset, .unset, .unset, .unset] [(.int (p2.toInt8.toInt32)), (.int (3 : Int32)), (.ref b27)])) rfl rfl (hb hby at_72)
    replace V_43 : AI Z h43 b27 k27 .byte (5 : Int32) [(nar .byte v9_34), (nar .byte (p0.toInt8.toInt32)), (nar .byte (p1.toInt8.toInt32)), (nar .byte (p2.toInt8.toInt32)), (nar .byte v9_34)] := V_43
    have N44 := Fr.snoc X43 N41 g28
    have Z45 : n0 ≤ h43.size := Nat.le_trans Z42 (Nat.le_of_eq W43.size.symm)
    refine Goes.step (S' := T43.setTop (mkF m 73 #[.val (.int p0), .val (.int p1), .val (.int p2), .val (.int p3), .val (.int p4), .val (.int (1 : Int32)), .val (.int v6_14), .val (.int v7_21), .val (.ref b27), .val (.int v9_34), .unset, .unset, .unset, .unset, .unset] [])) st43 ?_
    refine Goes.step (S' := T43.setTop (mkF m 75 #[.val (.int p0), .val (.int p1), .val (.int p2), .val (.int p3), .val (.int p4), .val (.int (1 : Int32)), .val (.int v6_14), .val (.int v7_21), .val (.ref b27), .val (.int v9_34), .unset, .unset, .unset, .unset, .unset] [(.ref b27)])) (fun _ k => XS.aload X43.here hx rfl (hb hby at_73) rfl rfl k) ?_
    refine Goes.step (S' := T43.setTop (mkF m 77 #[.val (.int p0), .val (.int p1), .val (.int p2), .val (.int p3), .val (.int p4), .val (.int (1 : Int32)), .val (.int v6_14), .val (.int v7_21), .val (.ref b27), .val (.int v9_34), .unset, .unset, .unset, .unset, .unset] [(.int (1 : Int32)), (.ref b27)])) (fun _ k => XS.iload X43.here hx rfl (hb hby at_75) rfl  k) ?_
    refine Goes.step (S' := T43.setTop (mkF m 78 #[.val (.int p0), .val (.int p1), .val (.int p2), .val (.int p3), .val (.int p4), .val (.int (1 : Int32)), .val (.int v6_14), .val (.int v7_21), .val (.ref b27), .val (.int v9_34), .unset, .unset, .unset, .unset, .unset] [(.int (3 : Int32)), (.int (1 : Int32)), (.ref b27)])) (fun _ k => XS.iconst X43.here hx rfl (hb hby at_77) k) ?_
    refine Goes.step (S' := T43.setTop (mkF m 79 #[.val (.int p0), .val (.int p1), .val (.int p2), .val (.int p3), .val (.int p4), .val (.int (1 : Int32)), .val (.int v6_14), .val (.int v7_21), .val (.ref b27), .val (.int v9_34), .unset, .unset, .unset, .unset, .unset] [(.int (4 : Int32)), (.ref b27)])) (fun _ k => XS.iadd X43.here hx rfl (hb hby at_78) rfl k) ?_
    refine Goes.step (S' := T43.setTop (mkF m 80 #[.val (.int p0), .val (.int p1), .val (.int p2), .val (.int p3), .val (.int p4), .val (.int (1 : Int32)), .val (.int v6_14), .val (.int v7_21), .val (.ref b27), .val (.int v9_34), .unset, .unset, .unset, .unset, .unset] [(.int p3), (.int (4 : Int32)), (.ref b27)])) (fun _ k => XS.iloadN X43.here hx rfl (hb hby at_79) rfl  k) ?_
    refine Goes.step (S' := T43.setTop (mkF m 81 #[.val (.int p0), .val (.int p1), .val (.int p2), .val (.int p3), .val (.int p4), .val (.int (1 : Int32)), .val (.int v6_14), .val (.int v7_21), .val (.ref b27), .val (.int v9_34), .unset, .unset, .unset, .unset, .unset] [(.int (p3.toInt8.toInt32)), (.int (4 : Int32)), (.ref b27)])) (fun _ k => XS.i2b X43.here hx rfl (hb hby at_80) rfl k) ?_
    obtain ⟨T46, h46, X46, e46, W46, V_46, st46⟩ := own_bastore X43 hx hZ e43 V_43 ⟨by decide, by decide⟩ (g := (mkF m 81 #[.val (.int p0), .val (.int p1), .val (.int p2), .val (.int p3), .val (.int p4), .val (.int (1 : Int32)), .val (.int v6_14), .val (.int v7_21), .val (.ref b27), .val (.int v9_34), .unset, .unset, .unset, .unset, .unset] [(.int (p3.toInt8.toInt32)), (.int (4 : Int32)), (.ref b27)])) rfl rfl (hb hby at_81)
    replace V_46 : AI Z h46 b27 k27 .byte (5 : Int32) [(nar .byte v9_34), (nar .byte (p0.toInt8.toInt32)), (nar .byte (p1.toInt8.toInt32)), (nar .byte (p2.toInt8.toInt32)), (nar .byte (p3.toInt8.toInt32))] := V_46
    have N47 := Fr.snoc X46 N44 g28
    have Z48 : n0 ≤ h46.size := Nat.le_trans Z45 (Nat.le_of_eq W46.size.symm)
    refine Goes.step (S' := T46.setTop (mkF m 82 #[.val (.int p0), .val (.int p1), .val (.int p2), .val (.int p3), .val (.int p4), .val (.int (1 : Int32)), .val (.int v6_14), .val (.int v7_21), .val (.ref b27), .val (.int v9_34), .unset, .unset, .unset, .unset, .unset] [])) st46 ?_
    refine Goes.step (S' := T46.setTop (mkF m 83 #[.val (.int p0), .val (.int p1), .val (.int p2), .val (.int p3), .val (.int p4), .val (.int (1 : Int32)), .val (.int v6_14), .val (.int v7_21), .val (.ref b27), .val (.int v9_34), .unset, .unset, .unset, .unset, .unset] [(.int p0)])) (fun _ k => XS.iloadN X46.here hx rfl (hb hby at_82) rfl  k) ?_
    refine Goes.step (S' := T46.setTop (mkF m 86 #[.val (.int p0), .val (.int p1), .val (.int p2), .val (.int p3), .val (.int p4), .val (.int (1 : Int32)), .val (.int v6_14), .val (.int v7_21), .val (.ref b27), .val (.int v9_34), .unset, .unset, .unset, .unset, .unset] [(.int (255 : Int32)), (.int p0)])) (fun _ k => XS.sipush X46.here hx rfl (hb hby at_83) k) ?_
    refine Goes.step (S' := T46.setTop (mkF m 87 #[.val (.int p0), .val (.int p1), .val (.int p2), .val (.int p3), .val (.int p4), .val (.int (1 : Int32)), .val (.int v6_14), .val (.int v7_21), .val (.ref b27), .val (.int v9_34), .unset, .unset, .unset, .unset, .unset] [(.int (p0 &&& (255 : Int32)))])) (fun _ k => XS.iand X46.here hx rfl (hb hby at_86) rfl k) ?_
    refine Goes.step (S' := T46.setTop (mkF m 89 #[.val (.int p0), .val (.int p1), .val (.int p2), .val (.int p3), .val (.int p4), .val (.int (1 : Int32)), .val (.int v6_14), .val (.int v7_21), .val (.ref b27), .val (.int v9_34), .val (.int (p0 &&& (255 : Int32))), .unset, .unset, .unset, .unset] [])) (fun _ k => XS.istore X46.here hx rfl (hb hby at_87) rfl (l' := #[.val (.int p0), .val (.int p1), .val (.int p2), .val (.int p3), .val (.int p4), .val (.int (1 : Int32)), .val (.int v6_14), .val (.int v7_21), .val (.ref b27), .val (.int v9_34), .val (.int (p0 &&& (255 : Int32))), .unset, .unset, .unset, .unset]) rfl k) ?_
    obtain ⟨v10_87, ev10_87⟩ : ∃ z : Int32, z = (p0 &&& (255 : Int32)) := ⟨_, rfl⟩
    rw [← ev10_87]
    refine Goes.step (S' := T46.setTop (mkF m 90 #[.val (.int p0), .val (.int p1), .val (.int p2), .val (.int p3), .val (.int p4), .val (.int (1 : Int32)), .val (.int v6_14), .val (.int v7_21), .val (.ref b27), .val (.int v9_34), .val (.int v10_87), .unset, .unset, .unset, .unset] [(.int p1)])) (fun _ k => XS.iloadN X46.here hx rfl (hb hby at_89) rfl  k) ?_
    refine Goes.step (S' := T46.setTop (mkF m 93 #[.val (.int p0), .val (.int p1), .val (.int p2), .val (.int p3), .val (.int p4), .val (.int (1 : Int32)), .val (.int v6_14), .val (.int v7_21), .val (.ref b27), .val (.int v9_34), .val (.int v10_87), .unset, .unset, .unset, .unset] [(.int (255 : Int32)), (.int p1)])) (fun _ k => XS.sipush X46.here hx rfl (hb hby at_90) k) ?_
    refine Goes.step (S' := T46.setTop (mkF m 94 #[.val (.int p0), .val (.int p1), .val (.int p2), .val (.int p3), .val (.int p4), .val (.int (1 : Int32)), .val (.int v6_14), .val (.int v7_21), .val (.ref b27), .val (.int v9_34), .val (.int v10_87), .unset, .unset, .unset, .unset] [(.int (p1 &&& (255 : Int32)))])) (fun _ k => XS.iand X46.here hx rfl (hb hby at_93) rfl k) ?_
    refine Goes.step (S' := T46.setTop (mkF m 96 #[.val (.int p0), .val (.int p1), .val (.int p2), .val (.int p3), .val (.int p4), .val (.int (1 : Int32)), .val (.int v6_14), .val (.int v7_21), .val (.ref b27), .val (.int v9_34), .val (.int v10_87), .val (.int (p1 &&& (255 : Int32))), .unset, .unset, .unset] [])) (fun _ k => XS.istore X46.here hx rfl (hb hby at_94) rfl (l' := #[.val (.int p0), .val (.int p1), .val (.int p2), .val (.int p3), .val (.int p4), .val (.int (1 : Int32)), .val (.int v6_14), .val (.int v7_21), .val (.ref b27), .val (.int v9_34), .val (.int v10_87), .val (.int (p1 &&& (255 : Int32))), .unset, .unset, .unset]) rfl k) ?_
    obtain ⟨v11_94, ev11_94⟩ : ∃ z : Int32, z = (p1 &&& (255 : Int32)) := ⟨_, rfl⟩
    rw [← ev11_94]
    refine Goes.step (S' := T46.setTop (mkF m 97 #[.val (.int p0), .val (.int p1), .val (.int p2), .val (.int p3), .val (.int p4), .val (.int (1 : Int32)), .val (.int v6_14), .val (.int v7_21), .val (.ref b27), .val (.int v9_34), .val (.int v10_87), .val (.int v11_94), .unset, .unset, .unset] [(.int p2)])) (fun _ k => XS.iloadN X46.here hx rfl (hb hby at_96) rfl  k) ?_
    refine Goes.step (S' := T46.setTop (mkF m 100 #[.val (.int p0), .val (.int p1), .val (.int p2), .val (.int p3), .val (.int p4), .val (.int (1 : Int32)), .val (.int v6_14), .val (.int v7_21), .val (.ref b27), .val (.int v9_34), .val (.int v10_87), .val (.int v11_94), .unset, .unset, .unset] [(.int (255 : Int32)), (.int p2)])) (fun _ k => XS.sipush X46.here hx rfl (hb hby at_97) k) ?_
    refine Goes.step (S' := T46.setTop (mkF m 101 #[.val (.int p0), .val (.int p1), .val (.int p2), .val (.int p3), .val (.int p4), .val (.int (1 : Int32)), .val (.int v6_14), .val (.int v7_21), .val (.ref b27), .val (.int v9_34), .val (.int v10_87), .val (.int v11_94), .unset, .unset, .unset] [(.int (p2 &&& (255 : Int32)))])) (fun _ k => XS.iand X46.here hx rfl (hb hby at_100) rfl k) ?_
    refine Goes.step (S' := T46.setTop (mkF m 103 #[.val (.int p0), .val (.int p1), .val (.int p2), .val (.int p3), .val (.int p4), .val (.int (1 : Int32)), .val (.int v6_14), .val (.int v7_21), .val (.ref b27), .val (.int v9_34), .val (.int v10_87), .val (.int v11_94), .val (.int (p2 &&& (255 : Int32))), .unset, .unset] [])) (fun _ k => XS.istore X46.here hx rfl (hb hby at_101) rfl (l' := #[.val (.int p0), .val (.int p1), .val (.int p2), .val (.int p3), .val (.int p4), .val (.int (1 : Int32)), .val (.int v6_14), .val (.int v7_21), .val (.ref b27), .val (.int v9_34), .val (.int v10_87), .val (.int v11_94), .val (.int (p2 &&& (255 : Int32))), .unset, .unset]) rfl k) ?_
    obtain ⟨v12_101, ev12_101⟩ : ∃ z : Int32, z = (p2 &&& (255 : Int32)) := ⟨_, rfl⟩
    rw [← ev12_101]
    refine Goes.step (S' := T46.setTop (mkF m 104 #[.val (.int p0), .val (.int p1), .val (.int p2), .val (.int p3), .val (.int p4), .val (.int (1 : Int32)), .val (.int v6_14), .val (.int v7_21), .val (.ref b27), .val (.int v9_34), .val (.int v10_87), .val (.int v11_94), .val (.int v12_101), .unset, .unset] [(.int p3)])) (fun _ k => XS.iloadN X46.here hx rfl (hb hby at_103) rfl  k) ?_
    refine Goes.step (S' := T46.setTop (mkF m 107 #[.val (.int p0), .val (.int p1), .val (.int p2), .val (.int p3), .val (.int p4), .val (.int (1 : Int32)), .val (.int v6_14), .val (.int v7_21), .val (.ref b27), .val (.int v9_34), .val (.int v10_87), .val (.int v11_94), .val (.int v12_101), .unset, .unset] [(.int (255 : Int32)), (.int p3)])) (fun _ k => XS.sipush X46.here hx rfl (hb hby at_104) k) ?_
    refine Goes.step (S' := T46.setTop (mkF m 108 #[.val (.int p0), .val (.int p1), .val (.int p2), .val (.int p3), .val (.int p4), .val (.int (1 : Int32)), .val (.int v6_14), .val (.int v7_21), .val (.ref b27), .val (.int v9_34), .val (.int v10_87), .val (.int v11_94), .val (.int v12_101), .unset, .unset] [(.int (p3 &&& (255 : Int32)))])) (fun _ k => XS.iand X46.here hx rfl (hb hby at_107) rfl k) ?_
    refine Goes.step (S' := T46.setTop (mkF m 110 #[.val (.int p0), .val (.int p1), .val (.int p2), .val (.int p3), .val (.int p4), .val (.int (1 : Int32)), .val (.int v6_14), .val (.int v7_21), .val (.ref b27), .val (.int v9_34), .val (.int v10_87), .val (.int v11_94), .val (.int v12_101), .val (.int (p3 &&& (255 : Int32))), .unset] [])) (fun _ k => XS.istore X46.here hx rfl (hb hby at_108) rfl (l' := #[.val (.int p0), .val (.int p1), .val (.int p2), .val (.int p3), .val (.int p4), .val (.int (1 : Int32)), .val (.int v6_14), .val (.int v7_21), .val (.ref b27), .val (.int v9_34), .val (.int v10_87), .val (.int v11_94), .val (.int v12_101), .val (.int (p3 &&& (255 : Int32))), .unset]) rfl k) ?_
    obtain ⟨v13_108, ev13_108⟩ : ∃ z : Int32, z = (p3 &&& (255 : Int32)) := ⟨_, rfl⟩
    rw [← ev13_108]
    refine Goes.step (S' := T46.setTop (mkF m 112 #[.val (.int p0), .val (.int p1), .val (.int p2), .val (.int p3), .val (.int p4), .val (.int (1 : Int32)), .val (.int v6_14), .val (.int v7_21), .val (.ref b27), .val (.int v9_34), .val (.int v10_87), .val (.int v11_94), .val (.int v12_101), .val (.int v13_108), .unset] [(.ref b27)])) (fun _ k => XS.aload X46.here hx rfl (hb hby at_110) rfl rfl k) ?_
    refine Goes.step (S' := T46.setTop (mkF m 114 #[.val (.int p0), .val (.int p1), .val (.int p2), .val (.int p3), .val (.int p4), .val (.int (1 : Int32)), .val (.int v6_14), .val (.int v7_21), .val (.ref b27), .val (.int v9_34), .val (.int v10_87), .val (.int v11_94), .val (.int v12_101), .val (.int v13_108), .unset] [(.int (1 : Int32)), (.ref b27)])) (fun _ k => XS.iload X46.here hx rfl (hb hby at_112) rfl  k) ?_
    refine Goes.step (S' := T46.setTop (mkF m 116 #[.val (.int p0), .val (.int p1), .val (.int p2), .val (.int p3), .val (.int p4), .val (.int (1 : Int32)), .val (.int v6_14), .val (.int v7_21), .val (.ref b27), .val (.int v9_34), .val (.int v10_87), .val (.int v11_94), .val (.int v12_101), .val (.int v13_108), .unset] [(.int v7_21), (.int (1 : Int32)), (.ref b27)])) (fun _ k => XS.iload X46.here hx rfl (hb hby at_114) rfl  k) ?_
    obtain ⟨_, _, ⟨T49, L49, k49, n49⟩, -, X49, ⟨Lc49, hQ49, l49, y49, z49⟩, st49⟩ := Jvm.LawKit.callS X46 hx (y := (⟨"com/example/leaderline/leaderline/Utf8", "decode", "([BII)I"⟩ : MethodName)) hown (mvT hZ (hw _ (List.mem_of_getElem? (i := 1) rfl))) (mvT hZ (hw _ (List.mem_of_getElem? (i := 2) rfl))) (mvT hZ (hw _ (List.mem_of_getElem? (i := 3) rfl))) (mvT hZ (hw _ (List.mem_of_getElem? (i := 4) rfl))) (by decide) (backOf (W := 0) (rm1 l Z a0 hw [] b27 (1 : Int32) v7_21 k27 ((5 : Int32)) ([(nar .byte v9_34), (nar .byte (p0.toInt8.toInt32)), (nar .byte (p1.toInt8.toInt32)), (nar .byte (p2.toInt8.toInt32)), (nar .byte (p3.toInt8.toInt32))]) h46 n0 Z48 V_46 (own_pr0_116_hB_2 p0 p1 p2 p3 p4 ev5_4 v6_14 ev6_14 v7_21 ev7_21 v9_34 ev9_34 v10_87 ev10_87 v11_94 ev11_94 v12_101 ev12_101 v13_108 ev13_108) (own_pr0_116_hb2_2 p0 p1 p2 p3 p4 ev5_4 v6_14 ev6_14 v7_21 ev7_21 v9_34 ev9_34 v10_87 ev10_87 v11_94 ev11_94 v12_101 ev12_101 v13_108 ev13_108) (own_pr0_116_hb3_2 p0 p1 p2 p3 p4 ev5_4 v6_14 ev6_14 v7_21 ev7_21 v9_34 ev9_34 v10_87 ev10_87 v11_94 ev11_94 v12_101 ev12_101 v13_108 ev13_108) (own_pr0_116_hb4_2 p0 p1 p2 p3 p4 ev5_4 v6_14 ev6_14 v7_21 ev7_21 v9_34 ev9_34 v10_87 ev10_87 v11_94 ev11_94 v12_101 ev12_101 v13_108 ev13_108)) hZ (hw _ (List.mem_of_getElem? (i := 4) rfl)) (hw _ (List.mem_of_getElem? (i := 3) rfl)) (by decide) (by decide)) (g := (mkF m 116 #[.val (.int p0), .val (.int p1), .val (.int p2), .val (.int p3), .val (.int p4), .val (.int (1 : Int32)), .val (.int v6_14), .val (.int v7_21), .val (.ref b27), .val (.int v9_34), .val (.int v10_87), .val (.int v11_94), .val (.int v12_101), .val (.int v13_108), .unset] [(.int v7_21), (.int (1 : Int32)), (.ref b27)])) rfl (by rw [hml]; rfl) (argsL := [(.ref b27), (.int (1 : Int32)), (.int v7_21)]) (rest := []) (lenOf pd1 rfl) rfl (by show 2 * 0 + _ ≤ _; exact Nat.le_of_eq rfl) (hb hby at_116) (fun _ _ => ⟨rfl, e46, (by decide : 1 + 0 ≤ _), (by decide : 5 + 0 ≤ _)⟩)
    dsimp only [Pt.U, Pt.locs, Pt.cells, Pt.slots] at X49 l49 y49 z49 st49 hQ49
    subst l49 y49 z49
    obtain ⟨rfl, N49q, e49⟩ := hQ49
    have N50 := Fr.app N47 N49q
    refine Goes.step (S' := T49.setTop (mkF m 119 #[.val (.int p0), .val (.int p1), .val (.int p2), .val (.int p3), .val (.int p4), .val (.int (1 : Int32)), .val (.int v6_14), .val (.int v7_21), .val (.ref b27), .val (.int v9_34), .val (.int v10_87), .val (.int v11_94), .val (.int v12_101), .val (.int v13_108), .unset] [(.int (f1 (5 : Int32) [(nar .byte v9_34), (nar .byte (p0.toInt8.toInt32)), (nar .byte (p1.toInt8.toInt32)), (nar .byte (p2.toInt8.toInt32)), (nar .byte (p3.toInt8.toInt32))] (1 : Int32) v7_21))])) st49 ?_
    refine Goes.step (S' := T49.setTop (mkF m 121 #[.val (.int p0), .val (.int p1), .val (.int p2), .val (.int p3), .val (.int p4), .val (.int (1 : Int32)), .val (.int v6_14), .val (.int v7_21), .val (.ref b27), .val (.int v9_34), .val (.int v10_87), .val (.int v11_94), .val (.int v12_101), .val (.int v13_108), .val (.int (f1 (5 : Int32) [(nar .byte v9_34), (nar .byte (p0.toInt8.toInt32)), (nar .byte (p1.toInt8.toInt32)), (nar .byte (p2.toInt8.toInt32)), (nar .byte (p3.toInt8.toInt32))] (1 : Int32) v7_21))] [])) (fun _ k => XS.istore X49.here hx rfl (hb hby at_119) rfl (l' := #[.val (.int p0), .val (.int p1), .val (.int p2), .val (.int p3), .val (.int p4), .val (.int (1 : Int32)), .val (.int v6_14), .val (.int v7_21), .val (.ref b27), .val (.int v9_34), .val (.int v10_87), .val (.int v11_94), .val (.int v12_101), .val (.int v13_108), .val (.int (f1 (5 : Int32) [(nar .byte v9_34), (nar .byte (p0.toInt8.toInt32)), (nar .byte (p1.toInt8.toInt32)), (nar .byte (p2.toInt8.toInt32)), (nar .byte (p3.toInt8.toInt32))] (1 : Int32) v7_21))]) rfl k) ?_
    obtain ⟨v14_119, ev14_119⟩ : ∃ z : Int32, z = (f1 (5 : Int32) [(nar .byte v9_34), (nar .byte (p0.toInt8.toInt32)), (nar .byte (p1.toInt8.toInt32)), (nar .byte (p2.toInt8.toInt32)), (nar .byte (p3.toInt8.toInt32))] (1 : Int32) v7_21) := ⟨_, rfl⟩
    rw [← ev14_119]
    refine Goes.step (S' := T49.setTop (mkF m 123 #[.val (.int p0), .val (.int p1), .val (.int p2), .val (.int p3), .val (.int p4), .val (.int (1 : Int32)), .val (.int v6_14), .val (.int v7_21), .val (.ref b27), .val (.int v9_34), .val (.int v10_87), .val (.int v11_94), .val (.int v12_101), .val (.int v13_108), .val (.int v14_119)] [(.int v14_119)])) (fun _ k => XS.iload X49.here hx rfl (hb hby at_121) rfl  k) ?_
    refine Goes.step (S' := T49.setTop (mkF m 125 #[.val (.int p0), .val (.int p1), .val (.int p2), .val (.int p3), .val (.int p4), .val (.int (1 : Int32)), .val (.int v6_14), .val (.int v7_21), .val (.ref b27), .val (.int v9_34), .val (.int v10_87), .val (.int v11_94), .val (.int v12_101), .val (.int v13_108), .val (.int v14_119)] [(.int v10_87), (.int v14_119)])) (fun _ k => XS.iload X49.here hx rfl (hb hby at_123) rfl  k) ?_
    refine Goes.step (S' := T49.setTop (mkF m 127 #[.val (.int p0), .val (.int p1), .val (.int p2), .val (.int p3), .val (.int p4), .val (.int (1 : Int32)), .val (.int v6_14), .val (.int v7_21), .val (.ref b27), .val (.int v9_34), .val (.int v10_87), .val (.int v11_94), .val (.int v12_101), .val (.int v13_108), .val (.int v14_119)] [(.int v11_94), (.int v10_87), (.int v14_119)])) (fun _ k => XS.iload X49.here hx rfl (hb hby at_125) rfl  k) ?_
    refine Goes.step (S' := T49.setTop (mkF m 129 #[.val (.int p0), .val (.int p1), .val (.int p2), .val (.int p3), .val (.int p4), .val (.int (1 : Int32)), .val (.int v6_14), .val (.int v7_21), .val (.ref b27), .val (.int v9_34), .val (.int v10_87), .val (.int v11_94), .val (.int v12_101), .val (.int v13_108), .val (.int v14_119)] [(.int v12_101), (.int v11_94), (.int v10_87), (.int v14_119)])) (fun _ k => XS.iload X49.here hx rfl (hb hby at_127) rfl  k) ?_
    refine Goes.step (S' := T49.setTop (mkF m 131 #[.val (.int p0), .val (.int p1), .val (.int p2), .val (.int p3), .val (.int p4), .val (.int (1 : Int32)), .val (.int v6_14), .val (.int v7_21), .val (.ref b27), .val (.int v9_34), .val (.int v10_87), .val (.int v11_94), .val (.int v12_101), .val (.int v13_108), .val (.int v14_119)] [(.int v13_108), (.int v12_101), (.int v11_94), (.int v10_87), (.int v14_119)])) (fun _ k => XS.iload X49.here hx rfl (hb hby at_129) rfl  k) ?_
    refine Goes.step (S' := T49.setTop (mkF m 133 #[.val (.int p0), .val (.int p1), .val (.int p2), .val (.int p3), .val (.int p4), .val (.int (1 : Int32)), .val (.int v6_14), .val (.int v7_21), .val (.ref b27), .val (.int v9_34), .val (.int v10_87), .val (.int v11_94), .val (.int v12_101), .val (.int v13_108), .val (.int v14_119)] [(.int v6_14), (.int v13_108), (.int v12_101), (.int v11_94), (.int v10_87), (.int v14_119)])) (fun _ k => XS.iload X49.here hx rfl (hb hby at_131) rfl  k) ?_
    obtain ⟨_, _, ⟨T51, L51, k51, n51⟩, -, X51, ⟨Lc51, hQ51, l51, y51, z51⟩, st51⟩ := Jvm.LawKit.callS X49 hx (y := (⟨"com/example/leaderline/leaderline/Utf8DecodePinLaw", "expected", "(IIIII)I"⟩ : MethodName)) hown (mvT hZ (hw _ (List.mem_of_getElem? (i := 5) rfl))) (mvT hZ (hw _ (List.mem_of_getElem? (i := 6) rfl))) (mvT hZ (hw _ (List.mem_of_getElem? (i := 7) rfl))) (mvT hZ (hw _ (List.mem_of_getElem? (i := 8) rfl))) (by decide) (backOf (W := 1) (rm2 l Z a0 hw [] v10_87 v11_94 v12_101 v13_108 v6_14 h46 n0 Z48) hZ (hw _ (List.mem_of_getElem? (i := 8) rfl)) (hw _ (List.mem_of_getElem? (i := 7) rfl)) (by decide) (by decide)) (g := (mkF m 133 #[.val (.int p0), .val (.int p1), .val (.int p2), .val (.int p3), .val (.int p4), .val (.int (1 : Int32)), .val (.int v6_14), .val (.int v7_21), .val (.ref b27), .val (.int v9_34), .val (.int v10_87), .val (.int v11_94), .val (.int v12_101), .val (.int v13_108), .val (.int v14_119)] [(.int v6_14), (.int v13_108), (.int v12_101), (.int v11_94), (.int v10_87), (.int v14_119)])) rfl (by rw [hml]; rfl) (argsL := [(.int v10_87), (.int v11_94), (.int v12_101), (.int v13_108), (.int v6_14)]) (rest := [(.int v14_119)]) (lenOf pd2 rfl) rfl (by show 2 * 0 + _ ≤ _; exact Nat.le_of_eq rfl) (hb hby at_133) (fun _ _ => ⟨rfl, e49, (by decide : 1 + 0 ≤ _), (by decide : 5 + 0 ≤ _)⟩)
    dsimp only [Pt.U, Pt.locs, Pt.cells, Pt.slots] at X51 l51 y51 z51 st51 hQ51
    subst l51 y51 z51
    obtain ⟨rfl, N51q, e51⟩ := hQ51
    have N52 := Fr.app N50 N51q
    refine Goes.step (S' := T51.setTop (mkF m 136 #[.val (.int p0), .val (.int p1), .val (.int p2), .val (.int p3), .val (.int p4), .val (.int (1 : Int32)), .val (.int v6_14), .val (.int v7_21), .val (.ref b27), .val (.int v9_34), .val (.int v10_87), .val (.int v11_94), .val (.int v12_101), .val (.int v13_108), .val (.int v14_119)] [(.int (f2 v10_87 v11_94 v12_101 v13_108 v6_14)), (.int v14_119)])) st51 ?_
    refine Goes.step (S' := T51.setTop (mkF m 139 #[.val (.int p0), .val (.int p1), .val (.int p2), .val (.int p3), .val (.int p4), .val (.int (1 : Int32)), .val (.int v6_14), .val (.int v7_21), .val (.ref b27), .val (.int v9_34), .val (.int v10_87), .val (.int v11_94), .val (.int v12_101), .val (.int v13_108), .val (.int v14_119)] [])) (fun _ k => XS.icmpNo X51.here hx rfl (hb hby at_136) rfl (teq (own_hc0_136_2 p0 p1 p2 p3 p4 ev5_4 v6_14 ev6_14 v7_21 ev7_21 v9_34 ev9_34 v10_87 ev10_87 v11_94 ev11_94 v12_101 ev12_101 v13_108 ev13_108 v14_119 ev14_119)).2 k) ?_
    refine Goes.step (S' := T51.setTop (mkF m 140 #[.val (.int p0), .val (.int p1), .val (.int p2), .val (.int p3), .val (.int p4), .val (.int (1 : Int32)), .val (.int v6_14), .val (.int v7_21), .val (.ref b27), .val (.int v9_34), .val (.int v10_87), .val (.int v11_94), .val (.int v12_101), .val (.int v13_108), .val (.int v14_119)] [(.int (1 : Int32))])) (fun _ k => XS.iconst X51.here hx rfl (hb hby at_139) k) ?_
    refine Goes.step (S' := T51.setTop (mkF m 144 #[.val (.int p0), .val (.int p1), .val (.int p2), .val (.int p3), .val (.int p4), .val (.int (1 : Int32)), .val (.int v6_14), .val (.int v7_21), .val (.ref b27), .val (.int v9_34), .val (.int v10_87), .val (.int v11_94), .val (.int v12_101), .val (.int v13_108), .val (.int v14_119)] [(.int (1 : Int32))])) (fun _ k => XS.goto X51.here hx rfl (pc0 := 140) (pc' := 144) rfl (hb hby at_140) (by decide) (by decide) k) ?_
    refine Goes.retN X51 hx Bd.notSynchronized (t := .boolean) Bd.returns (by simp) (hb hby at_144) (by decide) (by decide) ?_
    exact ⟨rfl, N52⟩
set_option maxRecDepth 65536 in
set_option maxHeartbeats 40000000 in
theorem comes_1 {Post : Tables → Env → Array Value → State → Outcome → State → Prop} (hpost : ∀ tb e args s v u, (limb_1_1.after args s (.returned v) u = true ∧ limb_1_2.after args s (.returned v) u = true ∧ True) → FrameEnd s (.returned v) u (Jvm.fieldLocs frame_1_writes args s ++ Jvm.arrayLocs frame_1_arrays args s ++ Jvm.staticLocs frame_1_statics s) 16 128 → Post tb e args s (.returned v) u) :
    ArmFor flags0 classFile x code maxLocals ret World_1 tables_1 room_1 Calls_1 rest_1 Pre_1 Post := by
  intro l hfl _ _ p e ha hc hk s m args below hf hA hF happ hP
  obtain ⟨hcalls, hrest, hpre⟩ := hP
  obtain ⟨-, -, -, hnamed, -, -, -, hat⟩ := (Spec.applies_iff hf).mp happ
  obtain ⟨hg, hn⟩ := and_e (Cond.before_iff.mp (show (Jvm.Cond.and given_1 narrow_1).before args s = true from hpre))
  obtain ⟨gg1, gg2⟩ := and_e hg
  obtain ⟨gg3, gg4⟩ := and_e gg2
  obtain ⟨gg5, gg6⟩ := and_e gg4
  obtain ⟨gg7, gg8⟩ := and_e gg6
  obtain ⟨gg9, gg10⟩ := and_e gg8
  obtain ⟨w0, w1, w2, w3, w4, rfl⟩ : ∃ w0 w1 w2 w3 w4 : Value, args = #[w0, w1, w2, w3, w4] := by
    have hs : args.size = 5 := by simpa [Cond.value, given_1] using gg1
    obtain ⟨L⟩ := args
    match L, hs with
    | [w0, w1, w2, w3, w4], _ => exact ⟨w0, w1, w2, w3, w4, rfl⟩
  have hw := fun d (hd : d ∈ tables_1) => atoms_spec (ws := Jvm.Cond.code x code maxLocals ret :: tables_1) hat d (List.mem_cons_of_mem _ hd)
  obtain ⟨i0, ei0⟩ := is_v gg3
  obtain rfl : w0 = (.int i0) := Option.some.inj ei0
  obtain ⟨i1, ei1⟩ := is_v gg5
  obtain rfl : w1 = (.int i1) := Option.some.inj ei1
  obtain ⟨i2, ei2⟩ := is_v gg7
  obtain rfl : w2 = (.int i2) := Option.some.inj ei2
  obtain ⟨i3, ei3⟩ := is_v gg9
  obtain rfl : w3 = (.int i3) := Option.some.inj ei3
  obtain ⟨i4, ei4⟩ := is_v gg10
  obtain rfl : w4 = (.int i4) := Option.some.inj ei4
  obtain ⟨n, o, h1, h2, h3, _, L, rfl, ⟨rfl, N⟩, hq⟩ := rm0 l s _ hw tables_1 i0 i1 i2 i3 i4 s.heap s.heap.size (Nat.le_refl _) p e ha hc hk s m _ below hf ((Spec.applies_iff_loose hf).mp happ).1 ⟨rfl, State.Warmed39.refl s, rfl⟩ trivial
  refine ⟨n, _, h1, h2, h3, hpost _ _ _ _ _ _ ⟨Cond.after_iff.mpr rfl, Cond.after_iff.mpr (eq_i res_at (Term.int_eval (1)) rfl), trivial⟩ ⟨hq.1, hq.2.1, (hq.2.2.sift fun y hy => Or.inr (N y hy)).mono (by decide) (by decide)⟩⟩
theorem main_1_1 : Claimed_1_1 := comes_1 fun _ _ _ _ _ _ h hF => ⟨h.1, hF⟩
theorem main_1_2 : Claimed_1_2 := comes_1 fun _ _ _ _ _ _ h hF => ⟨h.2.1, hF⟩
end Jvm.Pilot.@@N@@
namespace Jvm.Pilot.@@N@@
open Jvm Jvm.ClassFile Sem Op Lib Jvm.Free Jvm.Stand Jvm.Pilot.@@N@@.Jvm.D
/-! MADE BY PROGRAM (witnessworld.py) out of the Statement's table words and the real class files: 9 classes; the members and pool entries that the words name. The judged class is class 1, her method 3. -/
namespace start1
open Jvm.ClassFile
def u (s : String) : CpInfo := .utf8 (stringToUtf16 s)
/-- a pool by its gaps: so many unusable entries, then the entry; so many at the end -/
def gap : Nat → List CpInfo → List CpInfo
  | 0, r => r
  | n + 1, r => .unusable :: gap n r
def poolList (es : List (Nat × CpInfo)) (last : Nat) : List CpInfo := es.foldr (fun e r => gap e.1 (e.2 :: r)) (gap last [])
def pool (es : List (Nat × CpInfo)) (last : Nat) : Array CpInfo := ⟨poolList es last⟩
def fileOf (pool : Array CpInfo) (this : Nat) (attrs : Array Attribute := #[]) (ms : Array MethodInfo := #[]) (fl : Nat := 33) (sup : Nat := 0) (ifs : Array Nat := #[]) (fds : Array FieldInfo := #[]) : ClassFile where
  minorVersion := 0
  majorVersion := 65
  constantPool := pool
  accessFlags := fl
  thisClass := this
  superClass := sup
  interfaces := ifs
  fields := fds
  methods := ms
  attributes := attrs
def plain (name : String) (sup : Option ClassId) : Class where
  name := name
  kind := .ordinary
  loader := none
  accessFlags := 33
  super := sup
  interfaces := #[]
  cf := none
  fields := #[]
  methods := #[]
  instanceTypes := #[]
  staticTypes := #[]
  resolved := #[]
  callSites := []
  init := .initialized
  statics := none
  mirror := none

def pool0 : Array CpInfo := pool [(5, u "<init>"), (0, u "()V"), (1, .class_ 10), (1, u "java/lang/Object")] 113

def k0m0 : Method := { name := "<init>", desc := "()V", sig := { parameters := [], returnType := none }, accessFlags := 1, code := none }
/-- java/lang/Object -/
def k0 : Class := { plain "java/lang/Object" none with
  accessFlags := 33
  interfaces := #[]
  cf := some (fileOf pool0 8 #[] #[{ accessFlags := 1, nameIndex := 5, descriptorIndex := 6, attributes := #[] }] 33 0 #[] #[])
  fields := #[]
  methods := #[k0m0]
  instanceTypes := #[]
  staticTypes := #[]
  resolved := Array.replicate 124 none
  statics := none }

def pool1 : Array CpInfo := pool [(2, .class_ 4), (1, u "java/lang/Object"), (0, u "<init>"), (0, u "()V"), (0, .methodref 8 9), (0, .class_ 10), (0, .nameAndType 11 12), (0, u "com/example/leaderline/leaderline/Utf8DecodePinLaw"), (0, u "in"), (0, u "(III)Z"), (0, .integer 262144), (0, .methodref 15 16), (0, .class_ 17), (0, .nameAndType 18 19), (0, u "com/example/leaderline/leaderline/Utf8"), (0, u "decode"), (0, u "([BII)I"), (0, .methodref 8 21), (0, .nameAndType 22 23), (0, u "expected"), (0, u "(IIIII)I"), (3, u "law"), (0, u "(IIIII)Z")] 4

def k1m0 : Method := { name := "<init>", desc := "()V", sig := { parameters := [], returnType := none }, accessFlags := 1, code := none }
def k1c1 : Code := { maxStack := 2, maxLocals := 3, code := method_2_code, exceptionTable := #[], attributes := #[] }
def k1m1 : Method := { name := "in", desc := "(III)Z", sig := { parameters := [.int, .int, .int], returnType := some .boolean }, accessFlags := 10, code := some k1c1 }
def k1c2 : Code := { maxStack := 3, maxLocals := 6, code := method_3_code, exceptionTable := #[], attributes := #[] }
def k1m2 : Method := { name := "expected", desc := "(IIIII)I", sig := { parameters := [.int, .int, .int, .int, .int], returnType := some .int }, accessFlags := 10, code := some k1c2 }
def k1c3 : Code := { maxStack := 6, maxLocals := 15, code := code, exceptionTable := #[], attributes := #[] }
def k1m3 : Method := { name := "law", desc := "(IIIII)Z", sig := { parameters := [.int, .int, .int, .int, .int], returnType := some .boolean }, accessFlags := 9, code := some k1c3 }
/-- com/example/leaderline/leaderline/Utf8DecodePinLaw -/
def k1 : Class := { plain "com/example/leaderline/leaderline/Utf8DecodePinLaw" (some 0) with
  accessFlags := 49
  interfaces := #[]
  cf := some (fileOf pool1 8 #[] #[{ accessFlags := 1, nameIndex := 5, descriptorIndex := 6, attributes := #[] }, { accessFlags := 10, nameIndex := 11, descriptorIndex := 12, attributes := #[] }, { accessFlags := 10, nameIndex := 22, descriptorIndex := 23, attributes := #[] }, { accessFlags := 9, nameIndex := 27, descriptorIndex := 28, attributes := #[] }] 49 2 #[] #[])
  fields := #[]
  methods := #[k1m0, k1m1, k1m2, k1m3]
  instanceTypes := #[]
  staticTypes := #[]
  resolved := Array.replicate 33 none
  statics := none }

def pool2 : Array CpInfo := pool [(2, .class_ 4), (1, u "java/lang/Object"), (0, u "<init>"), (0, u "()V"), (1, .class_ 9), (0, u "com/example/leaderline/leaderline/Utf8"), (0, u "MALFORMED"), (0, u "I"), (7, u "decode"), (0, u "([BII)I")] 6

def k2m0 : Method := { name := "<init>", desc := "()V", sig := { parameters := [], returnType := none }, accessFlags := 2, code := none }
def k2c1 : Code := { maxStack := 3, maxLocals := 11, code := prog_31_method_3_code, exceptionTable := #[], attributes := #[] }
def k2m1 : Method := { name := "decode", desc := "([BII)I", sig := { parameters := [(.array .byte), .int, .int], returnType := some .int }, accessFlags := 8, code := some k2c1 }
/-- com/example/leaderline/leaderline/Utf8 -/
def k2 : Class := { plain "com/example/leaderline/leaderline/Utf8" (some 0) with
  accessFlags := 48
  interfaces := #[]
  cf := some (fileOf pool2 8 #[] #[{ accessFlags := 2, nameIndex := 5, descriptorIndex := 6, attributes := #[] }, { accessFlags := 8, nameIndex := 19, descriptorIndex := 20, attributes := #[] }] 48 2 #[] #[{ accessFlags := 24, nameIndex := 10, descriptorIndex := 11, attributes := #[] }])
  fields := #[{ name := "MALFORMED", type := .int, accessFlags := 24, slot := 0, constantValue := 0 }]
  methods := #[k2m0, k2m1]
  instanceTypes := #[]
  staticTypes := #[.int]
  resolved := Array.replicate 27 none
  statics := none }

def pool3 : Array CpInfo := pool [(1, u "java/lang/Cloneable"), (0, .class_ 1), (0, u "java/lang/Object"), (0, .class_ 3)] 3

/-- java/lang/Cloneable -/
def k3 : Class := { plain "java/lang/Cloneable" (some 0) with
  accessFlags := 1537
  interfaces := #[]
  cf := some (fileOf pool3 2 #[] #[] 1537 4 #[] #[])
  fields := #[]
  methods := #[]
  instanceTypes := #[]
  staticTypes := #[]
  resolved := Array.replicate 8 none
  statics := none }

def pool4 : Array CpInfo := pool [(1, u "java/io/Serializable"), (0, .class_ 1), (0, u "java/lang/Object"), (0, .class_ 3)] 3

/-- java/io/Serializable -/
def k4 : Class := { plain "java/io/Serializable" (some 0) with
  accessFlags := 1537
  interfaces := #[]
  cf := some (fileOf pool4 2 #[] #[] 1537 4 #[] #[])
  fields := #[]
  methods := #[]
  instanceTypes := #[]
  staticTypes := #[]
  resolved := Array.replicate 8 none
  statics := none }

/-- the primitive byte -/
def k5 : Class := { plain "byte" none with kind := .primitive 'B', accessFlags := 0x411 }
/-- [B -/
def k6 : Class := { plain "[B" (some 0) with kind := .array 5 .byte, interfaces := #[3, 4], accessFlags := 1041 }

/-- the primitive int -/
def k7 : Class := { plain "int" none with kind := .primitive 'I', accessFlags := 0x411 }
/-- [I -/
def k8 : Class := { plain "[I" (some 0) with kind := .array 7 .int, interfaces := #[3, 4], accessFlags := 1041 }

def heap : Heap := #[]
def classes : Array Class := #[k0, k1, k2, k3, k4, k5, k6, k7, k8]
def interned : List (Array UInt16 × Addr) := []
def slotsUsed : Nat := 0
def theMethod : MethodId := ⟨1, 3⟩
def args0 : Array Value := #[.int 5, .int 5, .int 5, .int 5, .int 5]
def aboutOver (below : List Frame) : State where
  vm := { classes := classes, interned := interned.toArray }
  heap := heap
  slotsUsed := slotsUsed
  threads := #[{ frames := .invoking theMethod args0 :: below }]
def below0 : List Frame := [.native { method := ⟨0, 0⟩, args := #[] }]
def about1 : State := aboutOver below0
def p0 : Program := .bare "" "" ""
def e0 : Env := launch0.env 0 0 0
theorem w_frames : about1.frames = Frame.invoking theMethod args0 :: below0 := rfl
set_option maxRecDepth 65536 in
theorem w_args : argsFit about1.vm theMethod args0 = true := by decide +kernel
set_option maxRecDepth 65536 in
theorem w_heap : heapFits about1 = true := by decide +kernel
set_option maxRecDepth 65536 in
theorem w_runnable : about1.curStatus? = some .runnable := by decide +kernel
set_option maxRecDepth 65536 in
theorem w_alone : about1.alone = true := by decide +kernel
set_option maxRecDepth 65536 in
theorem w_named : about1.methodNamed? x = some theMethod := by decide +kernel
set_option maxRecDepth 65536 in
theorem w_hears : about1.hears theMethod below0 = true := by decide +kernel
set_option maxRecDepth 65536 in
theorem w_ripe : about1.ripe theMethod args0 below0 = true := by decide +kernel
theorem w_running : about1.status = .running := rfl
set_option maxRecDepth 65536 in
theorem w_room : about1.hasRoom e0.platform room_1 = true :=
  launch0.hasRoom_least _ room_1 (by decide +kernel) (by decide +kernel) (by decide +kernel) (by decide +kernel) (by decide +kernel) (by decide +kernel)
theorem allAtoms_all (ts : List Jvm.Cond) (a : Array Jvm.Value) (st : Jvm.State) : (allAtoms ts).before a st = ts.all (fun c => c.before a st) := by
  induction ts with
  | nil => rfl
  | cons c t ih =>
    show (Jvm.Cond.and c (allAtoms t)).before a st = _
    rw [Jvm.Cond.before_and, ih, List.all_cons]
def words1 : List Jvm.Cond := Jvm.Cond.code x code maxLocals ret :: tables_1
/-- a 'code' word, met by the world's own term for the bytes: nothing is compared byte by byte -/
theorem code_word {y : MethodName} {bytes : ByteArray} {mx : Nat} {rt : Option FieldType} {a : Array Value} {s : State} {m : MethodId} {meth : Method} {c : Code} (h1 : s.methodNamed? y = some m) (h2 : s.vm.method? m = some meth) (h3 : meth.code = some c) (h4 : c.code = bytes)
    (h5 : (c.maxLocals == mx && c.exceptionTable.isEmpty && decide (c.maxStack ≤ mostOperands) && decide (meth.sig.returnType = rt) && !meth.locks && decide (parseMethodDescriptor y.desc = some meth.sig)) = true) : (Jvm.Cond.code y bytes mx rt).before a s = true := by
  simp only [Bool.and_eq_true, beq_iff_eq, Bool.not_eq_true', decide_eq_true_eq] at h5
  obtain ⟨⟨⟨⟨⟨g1, g2⟩, g3⟩, g4⟩, g5⟩, g6⟩ := h5
  simp [Cond.before, Cond.holds, Cond.value, h1, h2, h3, h4, g1, g2, g3, g4, g5, g6]
def isCode : Jvm.Cond → Bool
  | .code _ _ _ _ => true
  | _ => false
theorem all_split {L : List Jvm.Cond} {P : Jvm.Cond → Bool} (h1 : L.all (fun c => isCode c || P c) = true) (h2 : ∀ c ∈ L.filter isCode, P c = true) : L.all P = true := by
  refine List.all_eq_true.mpr fun c hc => ?_
  have h := List.all_eq_true.mp h1 c hc
  rcases Bool.eq_false_or_eq_true (isCode c) with hi | hi
  · exact h2 c (List.mem_filter.mpr ⟨hc, hi⟩)
  · simpa [hi] using h
set_option maxRecDepth 65536 in
theorem w_c0 : (Jvm.Cond.code x code maxLocals ret).before args0 about1 = true := code_word (m := ⟨1, 3⟩) (meth := k1m3) (c := k1c3) (by decide +kernel) rfl rfl rfl (by decide +kernel)
set_option maxRecDepth 65536 in
theorem w_c1 : (Jvm.Cond.code ({ cls := "com/example/leaderline/leaderline/Utf8", name := "decode", desc := "([BII)I" } : Jvm.MethodName) prog_31_method_3_code (11 : Nat) (Option.some Jvm.ClassFile.FieldType.int)).before args0 about1 = true := code_word (m := ⟨2, 1⟩) (meth := k2m1) (c := k2c1) (by decide +kernel) rfl rfl rfl (by decide +kernel)
set_option maxRecDepth 65536 in
theorem w_c2 : (Jvm.Cond.code ({ cls := "com/example/leaderline/leaderline/Utf8DecodePinLaw", name := "expected", desc := "(IIIII)I" } : Jvm.MethodName) method_3_code (6 : Nat) (Option.some Jvm.ClassFile.FieldType.int)).before args0 about1 = true := code_word (m := ⟨1, 2⟩) (meth := k1m2) (c := k1c2) (by decide +kernel) rfl rfl rfl (by decide +kernel)
set_option maxRecDepth 65536 in
theorem w_c3 : (Jvm.Cond.code ({ cls := "com/example/leaderline/leaderline/Utf8DecodePinLaw", name := "in", desc := "(III)Z" } : Jvm.MethodName) method_2_code (3 : Nat) (Option.some Jvm.ClassFile.FieldType.boolean)).before args0 about1 = true := code_word (m := ⟨1, 1⟩) (meth := k1m1) (c := k1c1) (by decide +kernel) rfl rfl rfl (by decide +kernel)
def codes1 : List Jvm.Cond := [Jvm.Cond.code x code maxLocals ret, Jvm.Cond.code ({ cls := "com/example/leaderline/leaderline/Utf8", name := "decode", desc := "([BII)I" } : Jvm.MethodName) prog_31_method_3_code (11 : Nat) (Option.some Jvm.ClassFile.FieldType.int), Jvm.Cond.code ({ cls := "com/example/leaderline/leaderline/Utf8DecodePinLaw", name := "expected", desc := "(IIIII)I" } : Jvm.MethodName) method_3_code (6 : Nat) (Option.some Jvm.ClassFile.FieldType.int), Jvm.Cond.code ({ cls := "com/example/leaderline/leaderline/Utf8DecodePinLaw", name := "in", desc := "(III)Z" } : Jvm.MethodName) method_2_code (3 : Nat) (Option.some Jvm.ClassFile.FieldType.boolean)]
set_option maxRecDepth 65536 in
theorem codes_eq : words1.filter isCode = codes1 := rfl
theorem w_codes : ∀ c ∈ words1.filter isCode, c.before args0 about1 = true := by
  rw [codes_eq]
  intro c hc
  simp only [codes1, List.mem_cons, List.not_mem_nil, or_false] at hc
  rcases hc with rfl | rfl | rfl | rfl
  · exact w_c0
  · exact w_c1
  · exact w_c2
  · exact w_c3
set_option maxRecDepth 65536 in
theorem w_t1 : words1.all (fun c => isCode c || c.before args0 about1) = true := by decide +kernel
theorem w_tables : (allAtoms (Jvm.Cond.code x code maxLocals ret :: tables_1)).before args0 about1 = true := by
  rw [allAtoms_all]
  show words1.all (fun c => c.before args0 about1) = true
  refine all_split ?_ w_codes
  rw [w_t1]
set_option maxRecDepth 65536 in
theorem w_case : (Jvm.Cond.and given_1 narrow_1).before args0 about1 = true := by decide +kernel
theorem w_applies : (headSpec (Jvm.Cond.code x code maxLocals ret :: tables_1) room_1).applies x e0.platform about1 = true :=
  (Spec.applies_iff w_frames).mpr ⟨w_running, w_runnable, w_alone, w_named, w_hears, w_ripe, w_room, w_tables⟩
theorem atStart : AtStart classFile x code maxLocals ret World_1 tables_1 room_1 Calls_1 rest_1 Pre_1 launch0 p0 e0 about1 theMethod args0 below0 :=
  ⟨lists_1, trivial, launch0.admits_env _ _ _, launch0.least_env, fairChoices_fair.cas, fairChoices_fair.clock, w_frames, w_args, w_heap, w_applies, trivial, trivial, w_case⟩
end start1
theorem witness_1 : WitnessClaimed_1 := ⟨start1.p0, start1.e0, start1.about1, start1.theMethod, start1.args0, start1.below0, start1.atStart⟩
end Jvm.Pilot.@@N@@
