import JvmDerived
import JvmDerived.Pilot.@@N@@Statement
import JvmDerived.Pilot.@@N@@Code
set_option linter.unusedVariables false
set_option linter.unusedSimpArgs false
namespace Jvm.RoadKit
open Sem ClassFile Op Lib Jvm.Stand Jvm.Free Jvm.LawKit
section New
variable {p : Program} {l : Launch} {e : Env} {R : Room} {s : State} {m : MethodId} {args : Array Value} {below : List Frame} {meth : Method} {c : Code} {T : State} {locs : List Loc} {cells slots : Nat}
theorem retI (X : Stand p l e R s m args below meth c T locs cells slots) (hx : p.tables.exec = Jvm.exec) {pc : Nat} {Ls : Array Slot} {z : Int32} {rest : List Value} (hret : meth.sig.returnType = some .int) (hd : decode c.code pc = .ok (.ireturn, 1)) {fs : List Frame}
    (hl : ∀ (f : JFrame) (acts : List Action), f.method = m → f.locked = none → f.entered = [] → (doReturn e (T.setTop f) acts (some (.int z))).1 = T.setFrames fs) : Steps p.tables e below (T.setTop (mkF m pc Ls (.int z :: rest))) (T.setFrames fs) := by
  have hm' : T.vm.method? m = some meth := X.method'
  have hn : narrow .int (.int z) = .int z := rfl
  show Steps p.tables e below (T.setTop { method := m, pc := pc, locals := Ls, stack := _ :: rest, locked := none }) _
  jvm_step X.here [X.here.top, hx, hd, hm', hret, hn]
  first | (intro acts; rw [hl _ acts rfl rfl rfl]) | rw [hl _ _ rfl rfl rfl]
  exact Steps.refl _
end New
end Jvm.RoadKit
namespace Jvm.Pilot.@@N@@
open Jvm Jvm.ClassFile Sem Op Lib Jvm.Free Jvm.Stand Jvm.LawKit Jvm.RoadKit Bundle Jvm.Pilot.@@N@@.Jvm.D
/-! MY OWN LAYER, 1: a walk in forward style -/
/-- from the state S the run ends, and Q holds of the end -/
def Goes (tb : Tables) (e : Env) (below : List Frame) (Q : Outcome → State → Prop) (S : State) : Prop :=
  ∃ s₂ o, Steps tb e below S s₂ ∧ s₂.status = .running ∧ Ended s₂ below o ∧ Q o s₂
theorem Goes.out {tb : Tables} {e : Env} {below : List Frame} {Q : Outcome → State → Prop} {S : State} (h : Goes tb e below Q S) :
    ∃ s₂ o, Steps tb e below S s₂ ∧ s₂.status = .running ∧ Ended s₂ below o ∧ Q o s₂ := h
theorem Goes.step {tb : Tables} {e : Env} {below : List Frame} {Q : Outcome → State → Prop} {S S' : State}
    (h : ∀ t, Steps tb e below S' t → Steps tb e below S t) (k : Goes tb e below Q S') : Goes tb e below Q S := by
  obtain ⟨s₂, o, h1, h2⟩ := k
  exact ⟨s₂, o, h _ h1, h2⟩
section Ites
variable {tb : Tables} {e : Env} {below : List Frame} {T S : State} {c : Prop} [Decidable c]
theorem own_ite0 {F : JFrame} (hy : c → ∀ t, Steps tb e below (T.setTop F) t → Steps tb e below S t) (hn : ¬ c → ∀ t, Steps tb e below (T.setTop F) t → Steps tb e below S t) :
    ∀ t, Steps tb e below (T.setTop F) t → Steps tb e below S t := fun t k => by
  by_cases h : c
  · exact hy h t k
  · exact hn h t k
theorem own_ite1 {A0 : Type} {a0 b0 : A0} {F : A0 → JFrame} (hy : c → ∀ t, Steps tb e below (T.setTop (F a0)) t → Steps tb e below S t) (hn : ¬ c → ∀ t, Steps tb e below (T.setTop (F b0)) t → Steps tb e below S t) :
    ∀ t, Steps tb e below (T.setTop (F (if c then a0 else b0))) t → Steps tb e below S t := fun t k => by
  by_cases h : c
  · rw [if_pos h] at k; exact hy h t k
  · rw [if_neg h] at k; exact hn h t k
theorem own_ite2 {A0 A1 : Type} {a0 b0 : A0} {a1 b1 : A1} {F : A0 → A1 → JFrame} (hy : c → ∀ t, Steps tb e below (T.setTop (F a0 a1)) t → Steps tb e below S t) (hn : ¬ c → ∀ t, Steps tb e below (T.setTop (F b0 b1)) t → Steps tb e below S t) :
    ∀ t, Steps tb e below (T.setTop (F (if c then a0 else b0) (if c then a1 else b1))) t → Steps tb e below S t := fun t k => by
  by_cases h : c
  · rw [if_pos h, if_pos h] at k; exact hy h t k
  · rw [if_neg h, if_neg h] at k; exact hn h t k
theorem own_ite3 {A0 A1 A2 : Type} {a0 b0 : A0} {a1 b1 : A1} {a2 b2 : A2} {F : A0 → A1 → A2 → JFrame} (hy : c → ∀ t, Steps tb e below (T.setTop (F a0 a1 a2)) t → Steps tb e below S t) (hn : ¬ c → ∀ t, Steps tb e below (T.setTop (F b0 b1 b2)) t → Steps tb e below S t) :
    ∀ t, Steps tb e below (T.setTop (F (if c then a0 else b0) (if c then a1 else b1) (if c then a2 else b2))) t → Steps tb e below S t := fun t k => by
  by_cases h : c
  · rw [if_pos h, if_pos h, if_pos h] at k; exact hy h t k
  · rw [if_neg h, if_neg h, if_neg h] at k; exact hn h t k
end Ites
section Rets
variable {p : Program} {l : Launch} {e : Env} {R : Room} {s : State} {m : MethodId} {args : Array Value} {below : List Frame} {meth : Method} {c : Code} {T : State} {locs : List Loc} {cells slots : Nat}
variable {QQ : Option Value → Heap → List Loc → Prop} {C0 S0 : Nat} {pc : Nat} {Ls : Array Slot} {rest : List Value}
theorem Goes.retN (X : Stand p l e R s m args below meth c T locs cells slots) (hx : p.tables.exec = Jvm.exec) (hlk : meth.locks = false) {t : FieldType} {z : Int32} (hret : meth.sig.returnType = some t) (ht : t = .boolean ∨ t = .byte ∨ t = .char ∨ t = .short)
    (hd : decode c.code pc = .ok (.ireturn, 1)) (hC : cells ≤ C0) (hS : slots ≤ S0) (hQ : QQ (some (.int (nar t z))) T.heap locs) :
    Goes p.tables e below (fun o U' => ∃ v L, o = .returned v ∧ QQ v U'.heap L ∧ FrameEnd s o U' L C0 S0) (T.setTop (mkF m pc Ls (.int z :: rest))) := by
  obtain ⟨fs, hr, hrun, hended, hW, hsame⟩ := X.leave (v := some (.int (nar t z))) (fun h => by rw [hret] at h; cases h) hlk
  exact ⟨_, _, Jvm.RoadKit.retN X hx hret ht hd hr, hrun, hended, _, _, rfl, hQ, ⟨_, rfl⟩, hW, hsame.mono hC hS⟩
theorem Goes.retI (X : Stand p l e R s m args below meth c T locs cells slots) (hx : p.tables.exec = Jvm.exec) (hlk : meth.locks = false) {z : Int32} (hret : meth.sig.returnType = some .int)
    (hd : decode c.code pc = .ok (.ireturn, 1)) (hC : cells ≤ C0) (hS : slots ≤ S0) (hQ : QQ (some (.int z)) T.heap locs) :
    Goes p.tables e below (fun o U' => ∃ v L, o = .returned v ∧ QQ v U'.heap L ∧ FrameEnd s o U' L C0 S0) (T.setTop (mkF m pc Ls (.int z :: rest))) := by
  obtain ⟨fs, hr, hrun, hended, hW, hsame⟩ := X.leave (v := some (.int z)) (fun h => by rw [hret] at h; cases h) hlk
  exact ⟨_, _, Jvm.RoadKit.retI X hx hret hd hr, hrun, hended, _, _, rfl, hQ, ⟨_, rfl⟩, hW, hsame.mono hC hS⟩
theorem Goes.retJ (X : Stand p l e R s m args below meth c T locs cells slots) (hx : p.tables.exec = Jvm.exec) (hlk : meth.locks = false) {z : Int64} (hret : meth.sig.returnType = some .long)
    (hd : decode c.code pc = .ok (.lreturn, 1)) (hC : cells ≤ C0) (hS : slots ≤ S0) (hQ : QQ (some (.long z)) T.heap locs) :
    Goes p.tables e below (fun o U' => ∃ v L, o = .returned v ∧ QQ v U'.heap L ∧ FrameEnd s o U' L C0 S0) (T.setTop (mkF m pc Ls (.long z :: rest))) := by
  obtain ⟨fs, hr, hrun, hended, hW, hsame⟩ := X.leave (v := some (.long z)) (fun h => by rw [hret] at h; cases h) hlk
  refine ⟨_, _, ?_, hrun, hended, _, _, rfl, hQ, ⟨_, rfl⟩, hW, hsame.mono hC hS⟩
  jvm_step X.here [X.here.top, hx, hd, X.method', hret, narrow]
  first | (intro acts; rw [hr _ acts rfl rfl rfl]) | rw [hr _ _ rfl rfl rfl]
  exact Steps.refl _
theorem Goes.retA (X : Stand p l e R s m args below meth c T locs cells slots) (hx : p.tables.exec = Jvm.exec) (hlk : meth.locks = false) {a : Addr} {t : FieldType} (hret : meth.sig.returnType = some t) (ht : t.isReference = true)
    (hd : decode c.code pc = .ok (.areturn, 1)) (hC : cells ≤ C0) (hS : slots ≤ S0) (hQ : QQ (some (.ref a)) T.heap locs) :
    Goes p.tables e below (fun o U' => ∃ v L, o = .returned v ∧ QQ v U'.heap L ∧ FrameEnd s o U' L C0 S0) (T.setTop (mkF m pc Ls (.ref a :: rest))) := by
  obtain ⟨fs, hr, hrun, hended, hW, hsame⟩ := X.leave (v := some (.ref a)) (fun h => by rw [hret] at h; cases h) hlk
  refine ⟨_, _, ?_, hrun, hended, _, _, rfl, hQ, ⟨_, rfl⟩, hW, hsame.mono hC hS⟩
  jvm_step X.here [X.here.top, hx, hd, X.method', hret, Value.isRef, ht]
  first | (intro acts; rw [hr _ acts rfl rfl rfl]) | rw [hr _ _ rfl rfl rfl]
  exact Steps.refl _
theorem Goes.retV (X : Stand p l e R s m args below meth c T locs cells slots) (hx : p.tables.exec = Jvm.exec) (hlk : meth.locks = false) (hret : meth.sig.returnType = none)
    (hd : decode c.code pc = .ok (.return_, 1)) (hC : cells ≤ C0) (hS : slots ≤ S0) (hQ : QQ none T.heap locs) :
    Goes p.tables e below (fun o U' => ∃ v L, o = .returned v ∧ QQ v U'.heap L ∧ FrameEnd s o U' L C0 S0) (T.setTop (mkF m pc Ls [])) := by
  obtain ⟨fs, hr, hrun, hended, hW, hsame⟩ := X.leave (v := none) (fun _ => rfl) hlk
  exact ⟨_, _, X.returnOut hx hret hd hr, hrun, hended, _, _, rfl, hQ, ⟨_, rfl⟩, hW, hsame.mono hC hS⟩
theorem own_lrem {g : JFrame} {target : State} (X : Stand p l e R s m args below meth c T locs cells slots) (hx : p.tables.exec = Jvm.exec) (hg : g.method = m) {x y : Int64} {rest : List Value} (hd : decode c.code g.pc = .ok (.lrem, 1)) (hs : g.stack = .long y :: .long x :: rest) (hy : y ≠ 0)
    (hr : Steps p.tables e below (T.setTop { g with pc := g.pc + 1, stack := .long (x % y) :: rest }) target) : Steps p.tables e below (T.setTop g) target :=
  XS.lrem X.here hx hg hd hs hy (by rw [lrem_mod]; exact hr)
end Rets
/-! MY OWN LAYER, 2: an array of ints (bytes, chars ..) by the list of its values, whole -/
def AI (Z : State) (h : Heap) (a : Addr) (k : ClassId) (ty : FieldType) (n : Int32) (vs : List Int32) : Prop :=
  Arv Z h a k ty n (vs.map Value.int) (.int 0) ∧ vs.length = n.toNatClampNeg
section Arrays
variable {p : Program} {l : Launch} {e : Env} {R : Room} {s : State} {m : MethodId} {args : Array Value} {below : List Frame} {meth : Method} {c : Code} {T : State} {locs : List Loc} {cells slots : Nat}
variable {Z : State} {h h' : Heap} {a b : Addr} {k : ClassId} {ty : FieldType} {n : Int32} {vs : List Int32} {sl : Nat} {v : Value} {ws : List Addr}
theorem AI.lt (F : AI Z h a k ty n vs) : a < h.size := F.1.lt
theorem AI.nn (F : AI Z h a k ty n vs) : ¬ n < 0 := by obtain ⟨⟨c, -, -, -, q, -⟩, -⟩ := F; exact q
theorem AI.ext (F : AI Z h a k ty n vs) (E : Ext h h') : AI Z h' a k ty n vs := ⟨F.1.ext E, F.2⟩
theorem AI.other (F : AI Z h b k ty n vs) (W : Wr h h' a sl v) (q : b ≠ a) : AI Z h' b k ty n vs := ⟨F.1.other W q, F.2⟩
theorem AI.keep (F : AI Z h a k ty n vs) (K : Keep h h' ws) (q : a ∉ ws) : AI Z h' a k ty n vs := ⟨F.1.keep K q, F.2⟩
theorem own_getD (vs : List Int32) (i : Nat) : (vs.map Value.int).getD i (.int 0) = .int (vs.getD i 0) := by
  simp only [List.getD_eq_getElem?_getD, List.getElem?_map]
  cases vs[i]? <;> rfl
theorem own_new {q : Int32} (A : Arr Z h a (newA k ty q) ty) (hq : ¬ q < 0) (hd : defaultValue ty = .int 0) {vs : List Int32} (hv : vs = List.replicate q.toNatClampNeg 0 := by rfl) : AI Z h a k ty q vs := by
  subst hv
  have V := Arv.new A hq
  rw [hd] at V
  refine ⟨?_, by simp⟩
  have q1 := V.pad (pad_rep [] (.int 0) q.toNatClampNeg)
  rw [List.nil_append] at q1
  rw [List.map_replicate]; exact q1
theorem own_inb {cl : Cell} {j : Int32} (S : cl.slots.size = n.toNatClampNeg) (q : ¬ j < 0 ∧ j < n) : ¬ (j < 0 ∨ cl.slots.size ≤ j.toNatClampNeg) := inb_of S q
theorem own_jlt {j : Int32} (q : ¬ j < 0 ∧ j < n) : j.toNatClampNeg < n.toNatClampNeg := by
  obtain ⟨q1, q2⟩ := q
  rw [Int32.lt_iff_toInt_lt] at q1 q2
  have e0 : (0 : Int32).toInt = 0 := rfl
  simp only [Int32.toNatClampNeg] at *; omega
theorem own_iaload {pc : Nat} {Ls : Array Slot} {rest : List Value} {j : Int32} (X : Stand p l e R s m args below meth c T locs cells slots) (hx : p.tables.exec = Jvm.exec) (hZ : Z.Warmed39 s.vm) (eT : T.heap = h) (F : AI Z h a k .int n vs) (hj : ¬ j < 0 ∧ j < n)
    (hd : decode c.code pc = .ok (.iaload, 1)) (t : State) (kk : Steps p.tables e below (T.setTop (mkF m (pc + 1) Ls (.int (vs.getD j.toNatClampNeg 0) :: rest))) t) : Steps p.tables e below (T.setTop (mkF m pc Ls (.int j :: .ref a :: rest))) t := by
  obtain ⟨⟨cl, A, -, S, -, H, -⟩, hl⟩ := F
  have hin := own_inb S hj
  exact X.iaload hx (j := j) (v := .int (vs.getD j.toNatClampNeg 0)) (by rw [eT]; exact A.1) (State.isArrayOf_alike hZ.alike A.2.1) A.2.2 hin (H.at hin (own_getD _ _)) (g := mkF m pc Ls (.int j :: .ref a :: rest)) rfl rfl hd _ kk
theorem own_baload {pc : Nat} {Ls : Array Slot} {rest : List Value} {j : Int32} (X : Stand p l e R s m args below meth c T locs cells slots) (hx : p.tables.exec = Jvm.exec) (hZ : Z.Warmed39 s.vm) (eT : T.heap = h) (F : AI Z h a k .byte n vs) (hj : ¬ j < 0 ∧ j < n)
    (hd : decode c.code pc = .ok (.baload, 1)) (t : State) (kk : Steps p.tables e below (T.setTop (mkF m (pc + 1) Ls (.int (vs.getD j.toNatClampNeg 0) :: rest))) t) : Steps p.tables e below (T.setTop (mkF m pc Ls (.int j :: .ref a :: rest))) t := by
  obtain ⟨⟨cl, A, -, S, -, H, -⟩, hl⟩ := F
  have hin := own_inb S hj
  exact X.baloadBytes hx (j := j) (v := .int (vs.getD j.toNatClampNeg 0)) (by rw [eT]; exact A.1) (State.isArrayOf_alike hZ.alike A.2.1) A.2.2 hin (H.at hin (own_getD _ _)) (g := mkF m pc Ls (.int j :: .ref a :: rest)) rfl rfl hd _ kk
theorem own_len {pc : Nat} {Ls : Array Slot} {rest : List Value} (X : Stand p l e R s m args below meth c T locs cells slots) (hx : p.tables.exec = Jvm.exec) (hZ : Z.Warmed39 s.vm) (eT : T.heap = h) (F : AI Z h a k ty n vs)
    (hd : decode c.code pc = .ok (.arraylength, 1)) (t : State) (kk : Steps p.tables e below (T.setTop (mkF m (pc + 1) Ls (.int n :: rest))) t) : Steps p.tables e below (T.setTop (mkF m pc Ls (.ref a :: rest))) t := by
  obtain ⟨⟨cl, A, -, S, N, H, -⟩, hl⟩ := F
  refine X.arraylength hx (by rw [eT]; exact A.1) (State.isArrayOf_alike hZ.alike A.2.1) (g := mkF m pc Ls (.ref a :: rest)) rfl rfl hd _ ?_
  rw [len_of S N]; exact kk
theorem own_iastore {j x : Int32} (X : Stand p l e R s m args below meth c T locs cells slots) (hx : p.tables.exec = Jvm.exec) (hZ : Z.Warmed39 s.vm) (eT : T.heap = h) (F : AI Z h a k .int n vs) (hj : ¬ j < 0 ∧ j < n) {g : JFrame} (hg : g.method = m) {rest : List Value} (hs : g.stack = .int x :: .int j :: .ref a :: rest) (hd : decode c.code g.pc = .ok (.iastore, 1)) :
    ∃ T' h', Stand p l e R s m args below meth c T' (locs ++ [⟨a, j.toNatClampNeg⟩]) cells slots ∧ T'.heap = h' ∧ Wr h h' a j.toNatClampNeg (.int x) ∧ AI Z h' a k .int n (vs.set j.toNatClampNeg x) ∧ ∀ target, Steps p.tables e below (T'.setTop { g with pc := g.pc + 1, stack := rest }) target → Steps p.tables e below (T.setTop g) target := by
  obtain ⟨⟨cl, A, q1, S, N, H, G⟩, hl⟩ := F
  obtain ⟨T', h', X', e', W, st⟩ := stI X hx hZ eT A (own_inb S hj) hg hs hd
  refine ⟨T', h', X', e', W, ⟨?_, by simpa using hl⟩, st⟩
  rw [List.map_set]
  exact Arv.set A q1 S N H G rfl W _ rfl (by rw [List.length_map, hl]; exact own_jlt hj)
theorem own_bastore {j x : Int32} (X : Stand p l e R s m args below meth c T locs cells slots) (hx : p.tables.exec = Jvm.exec) (hZ : Z.Warmed39 s.vm) (eT : T.heap = h) (F : AI Z h a k .byte n vs) (hj : ¬ j < 0 ∧ j < n) {g : JFrame} (hg : g.method = m) {rest : List Value} (hs : g.stack = .int x :: .int j :: .ref a :: rest) (hd : decode c.code g.pc = .ok (.bastore, 1)) :
    ∃ T' h', Stand p l e R s m args below meth c T' (locs ++ [⟨a, j.toNatClampNeg⟩]) cells slots ∧ T'.heap = h' ∧ Wr h h' a j.toNatClampNeg (.int (nar .byte x)) ∧ AI Z h' a k .byte n (vs.set j.toNatClampNeg (nar .byte x)) ∧ ∀ target, Steps p.tables e below (T'.setTop { g with pc := g.pc + 1, stack := rest }) target → Steps p.tables e below (T.setTop g) target := by
  obtain ⟨⟨cl, A, q1, S, N, H, G⟩, hl⟩ := F
  obtain ⟨T', h', X', e', W, st⟩ := stB X hx hZ eT A (own_inb S hj) hg hs hd
  refine ⟨T', h', X', e', W, ⟨?_, by simpa using hl⟩, st⟩
  rw [List.map_set]
  exact Arv.set A q1 S N H G (fits_nar_byte _) W _ rfl (by rw [List.length_map, hl]; exact own_jlt hj)
end Arrays
/-! MY OWN LAYER, 3: numbers -/
theorem own_b255 (x : Int32) : (nar .byte (x.toInt8.toInt32)) &&& 255 = x &&& 255 := by
  have a := c_i2b x
  have b := c_i2b x.toInt8.toInt32
  have m1 : ((x.toInt8.toInt32.toInt8.toInt32) &&& 255).toInt = (x.toInt8.toInt32.toInt8.toInt32).toInt % 256 := c_mask _ 255 8 (by decide) (by decide)
  have m2 : (x &&& 255).toInt = x.toInt % 256 := c_mask _ 255 8 (by decide) (by decide)
  apply Int32.toInt_inj.mp
  show ((x.toInt8.toInt32.toInt8.toInt32) &&& 255).toInt = _
  omega
theorem own_m255 (x : Int32) : (x &&& 255).toInt = x.toInt % 256 := c_mask _ 255 8 (by decide) (by decide)
theorem own_or8 (a b : Int32) (h1 : 0 ≤ a.toInt) (h2 : a.toInt < 256) (h3 : 0 ≤ b.toInt) (h4 : b.toInt < 256) : ((a <<< ((8 : Int32) &&& 31)) ||| b).toInt = a.toInt * 256 + b.toInt := by
  have s : ((a <<< ((8 : Int32) &&& 31)).toInt - a.toInt * 256) % 4294967296 = 0 := c_ishl a 8 8 (by decide)
  have r := rng32 (a <<< ((8 : Int32) &&& 31))
  have e : (a <<< ((8 : Int32) &&& 31)).toInt = a.toInt * 256 := by omega
  have o := c_or (a <<< ((8 : Int32) &&& 31)) b 8 (by decide) 256 (by decide) (by omega) h3 h4
  have r2 := rng32 ((a <<< ((8 : Int32) &&& 31)) ||| b)
  omega
theorem own_nar0 : nar .boolean 0 = 0 := by decide
theorem own_nar1 : nar .boolean 1 = 1 := by decide
theorem own_frapp {k : Nat} {L L' M : List Loc} (h : M = L ++ L') (N : Fr k L) (N' : Fr k L') : Fr k M := h ▸ N.app N'
/-! MY OWN LAYER, 4: a byte[] whose class is known by its name; clone() of it -/
section Clone
variable {p : Program} {l : Launch} {e : Env} {R : Room} {s : State} {m : MethodId} {args : Array Value} {below : List Frame} {meth : Method} {c : Code} {T : State} {locs : List Loc} {cells slots : Nat}
variable {Z : State} {h h' : Heap} {a b : Addr} {k : ClassId} {ty : FieldType} {n : Int32} {vs : List Int32} {sl : Nat} {v : Value} {ws : List Addr} {a0 : Array Value}
/-- newarray byte, and the class's name -/
theorem own_newB (X : Stand p l e R s m args below meth c T locs cells slots) (hx : p.tables.exec = Jvm.exec) (hZ : Z.Warmed39 s.vm) (w : (Cond.arrayClass .byte).before a0 Z = true) (eT : T.heap = h) {g : JFrame} (hg : g.method = m) (hd : decode c.code g.pc = .ok (.newarray .byte, 2)) {n : Int32} {rest : List Value} (hs : g.stack = .int n :: rest)
    (hn : ¬ n < 0) {cap : Nat} (hcap : n.toNatClampNeg ≤ cap) (hb : cap * 8 ≤ 536870912) (hc : cells + 1 ≤ R.cells) (hl : slots + cap ≤ R.slots) :
    ∃ T' h' cA, Stand p l e R s m args below meth c T' locs (cells + 1) (slots + cap) ∧ T'.heap = h' ∧ Ext h h' ∧ Arr Z h' h.size (newA cA .byte n) .byte ∧ Z.vm.findClass "[B" = some cA ∧
      ∀ target, Steps p.tables e below (T'.setTop { g with pc := g.pc + 2, stack := .ref h.size :: rest }) target → Steps p.tables e below (T.setTop g) target := by
  have hcb : componentBytes .byte ≤ 8 := by decide
  obtain ⟨cA, kA, comp, h1, h2, h3, X', st⟩ := X.newarrayPrim (atype := .byte) hx (mvA hZ w) hg hd hs hn (Nat.le_trans (Nat.mul_le_mul hcap hcb) hb) hc (by omega)
  subst eT
  rw [hZ.alike.findClass] at h1
  have h1' : Z.vm.findClass "[B" = some cA := h1
  obtain ⟨kZ, z1, -⟩ := Vm.findClass_spec h1'
  obtain ⟨k', z2, z3⟩ := hZ.alike.2.2 _ _ z1
  cases h2.symm.trans z2
  have hh : (T.pushCell { cls := cA, slots := Array.replicate n.toNatClampNeg (defaultValue .byte), vm := .none }).heap = T.heap.push (newA cA .byte n) := rfl
  refine ⟨_, _, cA, X'.more (Nat.le_refl _) (by omega), hh, ⟨by simp, fun a c q => ?_⟩, ⟨by simp, ⟨by simp [newA], kZ, z1, comp, by have q := h3; rw [z3] at q; exact q⟩, by simp [newA]⟩, h1', st⟩
  rw [Array.getElem?_push_lt (Array.getElem?_eq_some_iff.mp q).1]
  exact (Array.getElem?_eq_getElem _).symm.trans q
/-- the cast of a byte[] to byte[] -/
theorem own_insB (F : AI Z h a k .byte n vs) (hk : Z.vm.findClass "[B" = some k) : Ins Z h a "[B" true := by
  obtain ⟨⟨cl, A, q1, -⟩, -⟩ := F
  subst q1
  exact ⟨cl, _, A.1, hk, by simp [A.plain, Vm.assignable_self]⟩
theorem own_clone (X : Stand p l e R s m args below meth c T locs cells slots) (hx : p.tables.exec = Jvm.exec) (hZ : Z.Warmed39 s.vm) {own : String} {index : Nat} (hown : s.vm.findClass own = some m.cls)
    (w1 : (Cond.methodLink own index ⟨"[B", "clone", "()Ljava/lang/Object;"⟩).before a0 Z = true) (w2 : (Cond.sameMethod "[B" "java/lang/Object" "clone" "()Ljava/lang/Object;").before a0 Z = true) (w3 : (Cond.native ⟨"java/lang/Object", "clone", "()Ljava/lang/Object;"⟩).before a0 Z = true)
    (w4 : (Cond.instanceMethod ⟨"java/lang/Object", "clone", "()Ljava/lang/Object;"⟩).before a0 Z = true) (w5 : (Cond.selects "[B" ⟨"[B", "clone", "()Ljava/lang/Object;"⟩ ⟨"java/lang/Object", "clone", "()Ljava/lang/Object;"⟩).before a0 Z = true) (w6 : (Cond.castable "[B" "java/lang/Cloneable").before a0 Z = true)
    (eT : T.heap = h) (F : AI Z h a k .byte n vs) (hk : Z.vm.findClass "[B" = some k) {cap : Nat} (hcap : n.toNatClampNeg ≤ cap)
    {g : JFrame} (hg : g.method = m) (hsize : g.locals.size = c.maxLocals) {rest : List Value} (hstack : g.stack = .ref a :: rest) (hdg : decode c.code g.pc = .ok (.invokevirtual index, 3))
    (hframes : 1 ≤ R.frames) {W : Nat} (hW : 2 * g.monitorRoom + (rest.map fun v => v.category).sum ≤ W) (hlocals : W + 14 ≤ R.locals) (hcells : cells + 1 ≤ R.cells) (hslots : slots + cap ≤ R.slots) :
    ∃ T' h', Stand p l e R s m args below meth c T' locs (cells + 1) (slots + cap) ∧ T'.heap = h' ∧ Ext h h' ∧ AI Z h' h.size k .byte n vs ∧
      ∀ target, Steps p.tables e below (T'.setTop { g with pc := g.pc + 3, stack := .ref h.size :: rest }) target → Steps p.tables e below (T.setTop g) target := by
  obtain ⟨⟨cl, A, q1, S, N, H, G⟩, hl⟩ := F
  subst q1
  obtain ⟨c1, c2, e1, e2, e3⟩ := Cond.castable_spec w6
  cases hk.symm.trans e1
  obtain ⟨hob, ks, hks, comp, hkd⟩ := State.isArrayOf_alike (T := s) hZ.alike A.2.1
  have hkT : ∃ kT, T.vm.classes[cl.cls]? = some kT ∧ kT.kind = .array comp .byte := by
    obtain ⟨kT, t1, t2⟩ := X.warmed.alike.2.2 _ _ hks
    exact ⟨kT, t1, by rw [t2]; exact hkd⟩
  obtain ⟨kT, t1, t2⟩ := hkT
  subst eT
  obtain ⟨vm', X', st⟩ := X.cloneArray hx hown (mvT hZ w1) (mvT hZ w2) (mvT hZ w3) (mvT hZ w4) (mvT hZ w5) A.1 hob A.2.2 (by rw [hZ.alike.findClass]; exact hk) (by rw [hZ.alike.findClass]; exact e2) (by rw [hZ.alike.assignable]; exact e3)
    (fun i v hv => by
      have hi := (Array.getElem?_eq_some_iff.mp hv).1
      have g1 := H i hi
      rw [hv] at g1
      have g2 := G i hi
      rw [← Option.some.inj g1] at g2
      simp [State.fitsSlot, State.slotType?, t1, t2, g2]) hg hsize hstack hdg hframes (by omega) hcells (by omega) (Vm.clonesLoader_of_array hks hkd)
  have hh : ((T.setVm vm').pushCell { cls := cl.cls, slots := cl.slots }).heap = T.heap.push { cls := cl.cls, slots := cl.slots } := rfl
  refine ⟨_, _, X'.more (Nat.le_refl _) (by omega), hh, ⟨by simp, fun a c q => ?_⟩, ⟨⟨{ cls := cl.cls, slots := cl.slots }, ⟨by simp, ?_, by simp⟩, rfl, S, N, H, G⟩, hl⟩, st⟩
  · rw [Array.getElem?_push_lt (Array.getElem?_eq_some_iff.mp q).1]
    exact (Array.getElem?_eq_getElem _).symm.trans q
  · obtain ⟨-, kk, z1, z2⟩ := A.2.1
    exact ⟨by simp, kk, z1, z2⟩
end Clone
section Copy
variable {p : Program} {l : Launch} {e : Env} {R : Room} {s : State} {m : MethodId} {args : Array Value} {below : List Frame} {meth : Method} {c : Code} {T : State} {locs : List Loc} {cells slots : Nat}
variable {Z : State} {h : Heap} {a b : Addr} {k k' : ClassId} {z z' sp dp nn : Int32} {vs vd rl : List Int32} {a0 : Array Value}
/-- System.arraycopy between two byte[] -/
theorem own_copy (X : Stand p l e R s m args below meth c T locs cells slots) (hx : p.tables.exec = Jvm.exec) (hZ : Z.Warmed39 s.vm) {own : String} {index : Nat} (hown : s.vm.findClass own = some m.cls)
    (w1 : (Cond.methodLink own index Jvm.Stand.acN).before a0 Z = true) (w2 : (Cond.native Jvm.Stand.acN).before a0 Z = true) (w3 : (Cond.static Jvm.Stand.acN).before a0 Z = true) (w4 : (Cond.initialized "java/lang/System").before a0 Z = true) (eT : T.heap = h)
    (A : AI Z h a k .byte z vs) (B : AI Z h b k' .byte z' vd) (h1 : ¬ sp < 0) (h2 : ¬ dp < 0) (h3 : ¬ nn < 0) (h4 : sp.toNatClampNeg + nn.toNatClampNeg ≤ z.toNatClampNeg) (h5 : dp.toNatClampNeg + nn.toNatClampNeg ≤ z'.toNatClampNeg)
    (hr : rl = vd.take dp.toNatClampNeg ++ ((List.range nn.toNatClampNeg).map fun i => vs.getD (sp.toNatClampNeg + i) 0) ++ vd.drop (dp.toNatClampNeg + nn.toNatClampNeg)) {n0 : Nat} (N : Fr n0 locs) (ge : n0 ≤ b)
    {g : JFrame} (hg : g.method = m) (hsize : g.locals.size = c.maxLocals) {rest : List Value} (hs : g.stack = .int nn :: .int dp :: .ref b :: .int sp :: .ref a :: rest) (hd : decode c.code g.pc = .ok (.invokestatic index, 3))
    (hf : 1 ≤ R.frames) {W : Nat} (hW : 2 * g.monitorRoom + (rest.map fun v => v.category).sum ≤ W) (hlo : W + (nativeFrameWords "java/lang/System" "arraycopy" 5 + 11) ≤ R.locals) :
    ∃ T' h' L, Stand p l e R s m args below meth c T' L cells slots ∧ T'.heap = h' ∧ Fr n0 L ∧ Keep h h' [b] ∧ AI Z h' b k' .byte z' rl ∧
      ∀ target, Steps p.tables e below (T'.setTop { g with pc := g.pc + 3, stack := rest }) target → Steps p.tables e below (T.setTop g) target := by
  have hus : (((List.range nn.toNatClampNeg).map fun i => vs.getD (sp.toNatClampNeg + i) 0).map Value.int) = (List.range nn.toNatClampNeg).map fun i => (vs.map Value.int).getD (sp.toNatClampNeg + i) (.int 0) := by
    rw [List.map_map]
    exact List.map_congr_left fun i _ => (own_getD vs _).symm
  obtain ⟨T', h', L, X', e', N', K, V, st⟩ := cpA X hx hZ hown w1 w2 w3 w4 eT A.1 B.1 (Or.inl ⟨rfl, rfl⟩) h1 h2 h3 h4 h5 hus (by rw [List.length_map, B.2]; exact h5) N ge hg hsize hs hd hf hW hlo
  refine ⟨T', h', L, X', e', N', K, ⟨?_, ?_⟩, st⟩
  · subst hr
    rw [List.map_append, List.map_append, List.map_take, List.map_drop]
    exact V
  · subst hr
    have q := B.2
    simp only [List.length_append, List.length_take, List.length_map, List.length_range, List.length_drop]
    omega
end Copy
theorem d2_0 : decode prog_12_method_1_code 0 = .ok (.aload_n 0, 1) := by decide +kernel
theorem d2_1 : decode prog_12_method_1_code 1 = .ok (.invokespecial 5, 3) := by decide +kernel
theorem d2_4 : decode prog_12_method_1_code 4 = .ok (.aload_n 0, 1) := by decide +kernel
theorem d2_5 : decode prog_12_method_1_code 5 = .ok (.iload_n 1, 1) := by decide +kernel
theorem d2_6 : decode prog_12_method_1_code 6 = .ok (.putfield 11, 3) := by decide +kernel
theorem d2_9 : decode prog_12_method_1_code 9 = .ok (.aload_n 0, 1) := by decide +kernel
theorem d2_10 : decode prog_12_method_1_code 10 = .ok (.lload_n 2, 1) := by decide +kernel
theorem d2_11 : decode prog_12_method_1_code 11 = .ok (.putfield 15, 3) := by decide +kernel
theorem d2_14 : decode prog_12_method_1_code 14 = .ok (.aload_n 0, 1) := by decide +kernel
theorem d2_15 : decode prog_12_method_1_code 15 = .ok (.aload 4, 2) := by decide +kernel
theorem d2_17 : decode prog_12_method_1_code 17 = .ok (.putfield 19, 3) := by decide +kernel
theorem d2_20 : decode prog_12_method_1_code 20 = .ok (.return_, 1) := by decide +kernel
theorem pn0 : plainName "com/example/isopod/isopod/RecordHeader" = true := by first | (simp [plainName, overriddenIn]; done) | decide +kernel
theorem ef2 (m : MethodId) (u0 : Addr) (p1 : Int32) (q2 : Int64) (u3 : Addr) : entryFrame m #[(.ref u0), (.int p1), (.long q2), (.ref u3)] 5 = mkF m 0 #[.val (.ref u0), .val (.int p1), .val (.long q2), .second, .val (.ref u3)] [] := by first | (simp [entryFrame, mkF, argsToLocals, Value.category]; done) | rfl
def Q2 (Z : State) (u0 : Addr) (p1 : Int32) (q2 : Int64) (u3 : Addr) (k_u3 : ClassId) (n_u3 : Int32) (vs_u3 : List Int32) (h0 : Heap) (n0 : Nat) (v : Option Value) (h : Heap) (L : List Loc) : Prop := v = none ∧ Fr n0 L ∧ Keep h0 h [u0] ∧ Exa Z h u0 "com/example/isopod/isopod/RecordHeader" ∧ Fld Z h u0 "com/example/isopod/isopod/RecordHeader" "generation" "J" (.long q2) ∧ Fld Z h u0 "com/example/isopod/isopod/RecordHeader" "nonce" "[B" (.ref u3) ∧ Fld Z h u0 "com/example/isopod/isopod/RecordHeader" "version" "I" (.int p1)
set_option maxRecDepth 65536 in
set_option maxHeartbeats 40000000 in
theorem rm2 (l : Launch) (Z : State) (a0 : Array Value) (hw : ∀ d ∈ tables_1, d.before a0 Z = true) (ws : List Jvm.Cond) (u0 : Addr) (p1 : Int32) (q2 : Int64) (u3 : Addr) (k_u3 : ClassId) (n_u3 : Int32) (vs_u3 : List Int32) (h0 : Heap) (n0 : Nat) (Z0 : n0 ≤ h0.size) (V_u3 : AI Z h0 u3 k_u3 .byte n_u3 vs_u3) (hk_u3 : Z.vm.findClass "[B" = some k_u3) (E_u0 : Exa Z h0 u0 "com/example/isopod/isopod/RecordHeader") (F_version_u0 : Fld Z h0 u0 "com/example/isopod/isopod/RecordHeader" "version" "I" (.int (0 : Int32))) (F_generation_u0 : Fld Z h0 u0 "com/example/isopod/isopod/RecordHeader" "generation" "J" (.long (0 : Int64))) (F_nonce_u0 : Fld Z h0 u0 "com/example/isopod/isopod/RecordHeader" "nonce" "[B" .null) (g_u0 : n0 ≤ u0) (ne_u3_u0 : u3 ≠ u0) :
    MetFree l (⟨"com/example/isopod/isopod/RecordHeader", "<init>", "(IJ[B)V"⟩ : MethodName) (head1 (Jvm.Cond.code (⟨"com/example/isopod/isopod/RecordHeader", "<init>", "(IJ[B)V"⟩ : MethodName) prog_12_method_1_code 5 none :: ws) ({ frames := 1, cells := 0, slots := 0, locals := 12 } : Room)) (fun a U => a = #[(.ref u0), (.int p1), (.long q2), (.ref u3)] ∧ Z.Warmed39 U.vm ∧ U.heap = h0) (fun _ _ _ _ _ => True) (fun _ U o U' => ∃ v L, o = .returned v ∧ Q2 Z u0 p1 q2 u3 k_u3 n_u3 vs_u3 h0 n0 v U'.heap L ∧ FrameEnd U o U' L ({ frames := 1, cells := 0, slots := 0, locals := 12 } : Room).cells ({ frames := 1, cells := 0, slots := 0, locals := 12 } : Room).slots) := by
  refine MetFree.of_bodySF (plainFor_of_name pn0) hisR ?_
  intro p e s m args below meth c s₁ Bd hml0 hP hK
  obtain ⟨rfl, hZ, hh⟩ := hP
  have hx := Bd.exec
  have hby := Bd.bytes
  have hml : c.maxLocals = 5 := hml0
  have hown : s.vm.findClass "com/example/isopod/isopod/RecordHeader" = some m.cls := findClass_of_methodNamed Bd.named
  have hnm := (name_of_methodNamed Bd.named Bd.method).1
  have X0 : Stand p l e ({ frames := 1, cells := 0, slots := 0, locals := 12 } : Room) s m #[(.ref u0), (.int p1), (.long q2), (.ref u3)] below meth c s₁ [] 0 0 := Stand.of_body Bd
  have e0 : s₁.heap = h0 := by rw [← hh, Bd.state]; rfl
  have N0 := Fr.nil n0
  have K0 : Keep h0 h0 [u0] := Keep.refl _ _
  have hl_u3 : vs_u3.length = n_u3.toNatClampNeg := V_u3.2
  have hn_u3 : ¬ n_u3 < 0 := V_u3.nn
  refine Goes.out (Q := fun o U' => ∃ v L, o = .returned v ∧ Q2 Z u0 p1 q2 u3 k_u3 n_u3 vs_u3 h0 n0 v U'.heap L ∧ FrameEnd s o U' L ({ frames := 1, cells := 0, slots := 0, locals := 12 } : Room).cells ({ frames := 1, cells := 0, slots := 0, locals := 12 } : Room).slots) ?_
  refine Goes.step (S' := s₁.setTop (mkF m 0 #[.val (.ref u0), .val (.int p1), .val (.long q2), .second, .val (.ref u3)] [])) (fun _ k => castTop (ef2 m u0 p1 q2 u3) k) ?_
  refine Goes.step (S' := s₁.setTop (mkF m 1 #[.val (.ref u0), .val (.int p1), .val (.long q2), .second, .val (.ref u3)] [(.ref u0)])) (fun _ k => XS.aloadN X0.here hx rfl (hb hby d2_0) rfl rfl k) ?_
  obtain ⟨T1, X1, e1, st1⟩ := initO X0 hx hZ hown (hw _ (List.mem_of_getElem? (i := 20) rfl)) (hw _ (List.mem_of_getElem? (i := 21) rfl)) (hw _ (List.mem_of_getElem? (i := 22) rfl)) e0 (g := (mkF m 1 #[.val (.ref u0), .val (.int p1), .val (.long q2), .second, .val (.ref u3)] [(.ref u0)])) rfl (by rw [hml]; rfl) rfl (hb hby d2_1) (by decide) (W := 0) (by show 2 * 0 + _ ≤ _; exact Nat.le_of_eq rfl) (by decide)
  refine Goes.step (S' := T1.setTop (mkF m 4 #[.val (.ref u0), .val (.int p1), .val (.long q2), .second, .val (.ref u3)] [])) st1 ?_
  refine Goes.step (S' := T1.setTop (mkF m 5 #[.val (.ref u0), .val (.int p1), .val (.long q2), .second, .val (.ref u3)] [(.ref u0)])) (fun _ k => XS.aloadN X1.here hx rfl (hb hby d2_4) rfl rfl k) ?_
  refine Goes.step (S' := T1.setTop (mkF m 6 #[.val (.ref u0), .val (.int p1), .val (.long q2), .second, .val (.ref u3)] [(.int p1), (.ref u0)])) (fun _ k => XS.iloadN X1.here hx rfl (hb hby d2_5) rfl  k) ?_
  obtain ⟨T2, h2, X2, e2, W2, st2⟩ := putF X1 hx hZ hown (host := "") (Or.inl (hw _ (List.mem_of_getElem? (i := 23) rfl))) Via.refl e1 F_version_u0 E_u0 (Or.inr ⟨(hw _ (List.mem_of_getElem? (i := 24) rfl)), rfl, hnm⟩) (hw _ (List.mem_of_getElem? (i := 7) rfl)) (ty := .int) (by decide) rfl rfl (g := (mkF m 6 #[.val (.ref u0), .val (.int p1), .val (.long q2), .second, .val (.ref u3)] [(.int p1), (.ref u0)])) rfl rfl (hb hby d2_6)
  have Fw2 := F_version_u0.same W2
  have N3 := Fr.snoc X2 N0 g_u0
  have Z4 : n0 ≤ h2.size := Nat.le_trans Z0 (Nat.le_of_eq W2.size.symm)
  have V5 := V_u3.other W2 ne_u3_u0
  have E_6 := E_u0.wr W2
  have F7 := F_generation_u0.other W2 (Or.inr (slot_ne (Or.inr (hw _ (List.mem_of_getElem? (i := 26) rfl))) (Or.inr (hw _ (List.mem_of_getElem? (i := 24) rfl))) (by decide) (t := .long) (t' := .int) (by decide) (by decide)))
  have F8 := F_nonce_u0.other W2 (Or.inr (slot_ne (Or.inr (hw _ (List.mem_of_getElem? (i := 28) rfl))) (Or.inr (hw _ (List.mem_of_getElem? (i := 24) rfl))) (by decide) (t := (.array .byte)) (t' := .int) (by decide) (by decide)))
  have K9 : Keep h0 h2 [u0] := K0.wr W2 (Or.inl (List.mem_of_getElem? (i := 0) rfl))
  refine Goes.step (S' := T2.setTop (mkF m 9 #[.val (.ref u0), .val (.int p1), .val (.long q2), .second, .val (.ref u3)] [])) st2 ?_
  refine Goes.step (S' := T2.setTop (mkF m 10 #[.val (.ref u0), .val (.int p1), .val (.long q2), .second, .val (.ref u3)] [(.ref u0)])) (fun _ k => XS.aloadN X2.here hx rfl (hb hby d2_9) rfl rfl k) ?_
  refine Goes.step (S' := T2.setTop (mkF m 11 #[.val (.ref u0), .val (.int p1), .val (.long q2), .second, .val (.ref u3)] [(.long q2), (.ref u0)])) (fun _ k => XS.lloadN X2.here hx rfl (hb hby d2_10) rfl  k) ?_
  obtain ⟨T10, h10, X10, e10, W10, st10⟩ := putF X2 hx hZ hown (host := "") (Or.inl (hw _ (List.mem_of_getElem? (i := 25) rfl))) Via.refl e2 F7 E_6 (Or.inr ⟨(hw _ (List.mem_of_getElem? (i := 26) rfl)), rfl, hnm⟩) (hw _ (List.mem_of_getElem? (i := 7) rfl)) (ty := .long) (by decide) rfl rfl (g := (mkF m 11 #[.val (.ref u0), .val (.int p1), .val (.long q2), .second, .val (.ref u3)] [(.long q2), (.ref u0)])) rfl rfl (hb hby d2_11)
  have Fw10 := F7.same W10
  have N11 := Fr.snoc X10 N3 g_u0
  have Z12 : n0 ≤ h10.size := Nat.le_trans Z4 (Nat.le_of_eq W10.size.symm)
  have V13 := V5.other W10 ne_u3_u0
  have E_14 := E_6.wr W10
  have F15 := Fw2.other W10 (Or.inr (slot_ne (Or.inr (hw _ (List.mem_of_getElem? (i := 24) rfl))) (Or.inr (hw _ (List.mem_of_getElem? (i := 26) rfl))) (by decide) (t := .int) (t' := .long) (by decide) (by decide)))
  have F16 := F8.other W10 (Or.inr (slot_ne (Or.inr (hw _ (List.mem_of_getElem? (i := 28) rfl))) (Or.inr (hw _ (List.mem_of_getElem? (i := 26) rfl))) (by decide) (t := (.array .byte)) (t' := .long) (by decide) (by decide)))
  have K17 : Keep h0 h10 [u0] := K9.wr W10 (Or.inl (List.mem_of_getElem? (i := 0) rfl))
  refine Goes.step (S' := T10.setTop (mkF m 14 #[.val (.ref u0), .val (.int p1), .val (.long q2), .second, .val (.ref u3)] [])) st10 ?_
  refine Goes.step (S' := T10.setTop (mkF m 15 #[.val (.ref u0), .val (.int p1), .val (.long q2), .second, .val (.ref u3)] [(.ref u0)])) (fun _ k => XS.aloadN X10.here hx rfl (hb hby d2_14) rfl rfl k) ?_
  refine Goes.step (S' := T10.setTop (mkF m 17 #[.val (.ref u0), .val (.int p1), .val (.long q2), .second, .val (.ref u3)] [(.ref u3), (.ref u0)])) (fun _ k => XS.aload X10.here hx rfl (hb hby d2_15) rfl rfl k) ?_
  obtain ⟨T18, h18, X18, e18, W18, st18⟩ := putF X10 hx hZ hown (host := "") (Or.inl (hw _ (List.mem_of_getElem? (i := 27) rfl))) Via.refl e10 F16 E_14 (Or.inr ⟨(hw _ (List.mem_of_getElem? (i := 28) rfl)), rfl, hnm⟩) (hw _ (List.mem_of_getElem? (i := 7) rfl)) (ty := (.array .byte)) (by decide) rfl rfl (g := (mkF m 17 #[.val (.ref u0), .val (.int p1), .val (.long q2), .second, .val (.ref u3)] [(.ref u3), (.ref u0)])) rfl rfl (hb hby d2_17)
  have Fw18 := F16.same W18
  have N19 := Fr.snoc X18 N11 g_u0
  have Z20 : n0 ≤ h18.size := Nat.le_trans Z12 (Nat.le_of_eq W18.size.symm)
  have V21 := V13.other W18 ne_u3_u0
  have E_22 := E_14.wr W18
  have F23 := F15.other W18 (Or.inr (slot_ne (Or.inr (hw _ (List.mem_of_getElem? (i := 24) rfl))) (Or.inr (hw _ (List.mem_of_getElem? (i := 28) rfl))) (by decide) (t := .int) (t' := (.array .byte)) (by decide) (by decide)))
  have F24 := Fw10.other W18 (Or.inr (slot_ne (Or.inr (hw _ (List.mem_of_getElem? (i := 26) rfl))) (Or.inr (hw _ (List.mem_of_getElem? (i := 28) rfl))) (by decide) (t := .long) (t' := (.array .byte)) (by decide) (by decide)))
  have K25 : Keep h0 h18 [u0] := K17.wr W18 (Or.inl (List.mem_of_getElem? (i := 0) rfl))
  refine Goes.step (S' := T18.setTop (mkF m 20 #[.val (.ref u0), .val (.int p1), .val (.long q2), .second, .val (.ref u3)] [])) st18 ?_
  refine Goes.retV X18 hx Bd.notSynchronized Bd.returns (hb hby d2_20) (by decide) (by decide) ?_
  refine ⟨rfl, N19, ?_, ?_, ?_, ?_, ?_⟩
  · rw [e18]; exact K25
  · rw [e18]; exact E_22
  · rw [e18]; exact F24
  · rw [e18]; exact Fw18
  · rw [e18]; exact F23
theorem pd0 : parseMethodDescriptor "(IJ[B)V" = some ⟨[.int, .long, (.array .byte)], none⟩ := by decide +kernel
theorem d1_0 : decode prog_12_method_2_code 0 = .ok (.lload_n 0, 1) := by decide +kernel
theorem d1_1 : decode prog_12_method_2_code 1 = .ok (.lconst 0, 1) := by decide +kernel
theorem d1_2 : decode prog_12_method_2_code 2 = .ok (.lcmp, 1) := by decide +kernel
theorem d1_3 : decode prog_12_method_2_code 3 = .ok (.ifCond .lt 11, 3) := by decide +kernel
theorem d1_6 : decode prog_12_method_2_code 6 = .ok (.lload_n 0, 1) := by decide +kernel
theorem d1_7 : decode prog_12_method_2_code 7 = .ok (.ldc2_w 23, 3) := by decide +kernel
theorem d1_10 : decode prog_12_method_2_code 10 = .ok (.lcmp, 1) := by decide +kernel
theorem d1_11 : decode prog_12_method_2_code 11 = .ok (.ifCond .le 17, 3) := by decide +kernel
theorem d1_28 : decode prog_12_method_2_code 28 = .ok (.aload_n 2, 1) := by decide +kernel
theorem d1_29 : decode prog_12_method_2_code 29 = .ok (.arraylength, 1) := by decide +kernel
theorem d1_30 : decode prog_12_method_2_code 30 = .ok (.bipush 12, 2) := by decide +kernel
theorem d1_32 : decode prog_12_method_2_code 32 = .ok (.if_icmp .eq 18, 3) := by decide +kernel
theorem d1_50 : decode prog_12_method_2_code 50 = .ok (.lload_n 0, 1) := by decide +kernel
theorem d1_51 : decode prog_12_method_2_code 51 = .ok (.lconst 0, 1) := by decide +kernel
theorem d1_52 : decode prog_12_method_2_code 52 = .ok (.lcmp, 1) := by decide +kernel
theorem d1_53 : decode prog_12_method_2_code 53 = .ok (.ifCond .ne 7, 3) := by decide +kernel
theorem d1_56 : decode prog_12_method_2_code 56 = .ok (.iconst 1, 1) := by decide +kernel
theorem d1_57 : decode prog_12_method_2_code 57 = .ok (.goto 4, 3) := by decide +kernel
theorem d1_60 : decode prog_12_method_2_code 60 = .ok (.iconst 2, 1) := by decide +kernel
theorem d1_61 : decode prog_12_method_2_code 61 = .ok (.istore_n 3, 1) := by decide +kernel
theorem d1_62 : decode prog_12_method_2_code 62 = .ok (.new 3, 3) := by decide +kernel
theorem d1_65 : decode prog_12_method_2_code 65 = .ok (.dup, 1) := by decide +kernel
theorem d1_66 : decode prog_12_method_2_code 66 = .ok (.iload_n 3, 1) := by decide +kernel
theorem d1_67 : decode prog_12_method_2_code 67 = .ok (.lload_n 0, 1) := by decide +kernel
theorem d1_68 : decode prog_12_method_2_code 68 = .ok (.aload_n 2, 1) := by decide +kernel
theorem d1_69 : decode prog_12_method_2_code 69 = .ok (.invokevirtual 37, 3) := by decide +kernel
theorem d1_72 : decode prog_12_method_2_code 72 = .ok (.checkcast 38, 3) := by decide +kernel
theorem d1_75 : decode prog_12_method_2_code 75 = .ok (.invokespecial 42, 3) := by decide +kernel
theorem d1_78 : decode prog_12_method_2_code 78 = .ok (.areturn, 1) := by decide +kernel
theorem ef1 (m : MethodId) (q0 : Int64) (u1 : Addr) : entryFrame m #[(.long q0), (.ref u1)] 4 = mkF m 0 #[.val (.long q0), .second, .val (.ref u1), .unset] [] := by first | (simp [entryFrame, mkF, argsToLocals, Value.category]; done) | rfl
theorem own_cl1_69 (q0 : Int64) (n_u1 : Int32) (vs_u1 : List Int32) (hl_u1 : vs_u1.length = n_u1.toNatClampNeg) (hn_u1 : ¬ n_u1 < 0) (ver : Int32) (hver : (if q0 = (0 : Int64) then (1 : Int32) else (2 : Int32)) = ver) (hg0 : ¬ q0 < (0 : Int64)) (hg1 : ¬ (4294967295 : Int64) < q0) (hlen : n_u1 = (12 : Int32)) : (n_u1).toNatClampNeg ≤ 12 := by
  rw [hlen]; decide
def Q1 (Z : State) (q0 : Int64) (u1 : Addr) (k_u1 : ClassId) (n_u1 : Int32) (vs_u1 : List Int32) (ver : Int32) (h0 : Heap) (n0 : Nat) (v : Option Value) (h : Heap) (L : List Loc) : Prop := ∃ (r0 : Addr) (r1 : Addr) (kk0 : ClassId), v = some (.ref r0) ∧ Fr n0 L ∧ Keep h0 h [] ∧ h0.size ≤ r0 ∧ Exa Z h r0 "com/example/isopod/isopod/RecordHeader" ∧ Fld Z h r0 "com/example/isopod/isopod/RecordHeader" "generation" "J" (.long q0) ∧ Fld Z h r0 "com/example/isopod/isopod/RecordHeader" "nonce" "[B" (.ref r1) ∧ Fld Z h r0 "com/example/isopod/isopod/RecordHeader" "version" "I" (.int ver) ∧ h0.size ≤ r1 ∧ AI Z h r1 kk0 .byte n_u1 vs_u1 ∧ Z.vm.findClass "[B" = some kk0 ∧ r0 ≠ r1
set_option maxRecDepth 65536 in
set_option maxHeartbeats 40000000 in
theorem rm1 (l : Launch) (Z : State) (a0 : Array Value) (hw : ∀ d ∈ tables_1, d.before a0 Z = true) (ws : List Jvm.Cond) (q0 : Int64) (u1 : Addr) (k_u1 : ClassId) (n_u1 : Int32) (vs_u1 : List Int32) (ver : Int32) (h0 : Heap) (n0 : Nat) (Z0 : n0 ≤ h0.size) (V_u1 : AI Z h0 u1 k_u1 .byte n_u1 vs_u1) (hk_u1 : Z.vm.findClass "[B" = some k_u1) (hver : (if q0 = (0 : Int64) then (1 : Int32) else (2 : Int32)) = ver) (hg0 : ¬ q0 < (0 : Int64)) (hg1 : ¬ (4294967295 : Int64) < q0) (hlen : n_u1 = (12 : Int32)) :
    MetFree l (⟨"com/example/isopod/isopod/RecordHeader", "of", "(J[B)Lcom/example/isopod/isopod/RecordHeader;"⟩ : MethodName) (head1 (Jvm.Cond.code (⟨"com/example/isopod/isopod/RecordHeader", "of", "(J[B)Lcom/example/isopod/isopod/RecordHeader;"⟩ : MethodName) prog_12_method_2_code 4 (some (.object "com/example/isopod/isopod/RecordHeader")) :: ws) ({ frames := 2, cells := 2, slots := 15, locals := 29 } : Room)) (fun a U => a = #[(.long q0), (.ref u1)] ∧ Z.Warmed39 U.vm ∧ U.heap = h0) (fun _ _ _ _ _ => True) (fun _ U o U' => ∃ v L, o = .returned v ∧ Q1 Z q0 u1 k_u1 n_u1 vs_u1 ver h0 n0 v U'.heap L ∧ FrameEnd U o U' L ({ frames := 2, cells := 2, slots := 15, locals := 29 } : Room).cells ({ frames := 2, cells := 2, slots := 15, locals := 29 } : Room).slots) := by
  refine MetFree.of_bodySF (plainFor_of_name pn0) hisR ?_
  intro p e s m args below meth c s₁ Bd hml0 hP hK
  obtain ⟨rfl, hZ, hh⟩ := hP
  have hx := Bd.exec
  have hby := Bd.bytes
  have hml : c.maxLocals = 4 := hml0
  have hown : s.vm.findClass "com/example/isopod/isopod/RecordHeader" = some m.cls := findClass_of_methodNamed Bd.named
  have hnm := (name_of_methodNamed Bd.named Bd.method).1
  have X0 : Stand p l e ({ frames := 2, cells := 2, slots := 15, locals := 29 } : Room) s m #[(.long q0), (.ref u1)] below meth c s₁ [] 0 0 := Stand.of_body Bd
  have e0 : s₁.heap = h0 := by rw [← hh, Bd.state]; rfl
  have N0 := Fr.nil n0
  have K0 : Keep h0 h0 [] := Keep.refl _ _
  have hl_u1 : vs_u1.length = n_u1.toNatClampNeg := V_u1.2
  have hn_u1 : ¬ n_u1 < 0 := V_u1.nn
  refine Goes.out (Q := fun o U' => ∃ v L, o = .returned v ∧ Q1 Z q0 u1 k_u1 n_u1 vs_u1 ver h0 n0 v U'.heap L ∧ FrameEnd s o U' L ({ frames := 2, cells := 2, slots := 15, locals := 29 } : Room).cells ({ frames := 2, cells := 2, slots := 15, locals := 29 } : Room).slots) ?_
  refine Goes.step (S' := s₁.setTop (mkF m 0 #[.val (.long q0), .second, .val (.ref u1), .unset] [])) (fun _ k => castTop (ef1 m q0 u1) k) ?_
  refine Goes.step (S' := s₁.setTop (mkF m 1 #[.val (.long q0), .second, .val (.ref u1), .unset] [(.long q0)])) (fun _ k => XS.lloadN X0.here hx rfl (hb hby d1_0) rfl  k) ?_
  refine Goes.step (S' := s₁.setTop (mkF m 2 #[.val (.long q0), .second, .val (.ref u1), .unset] [(.long (0 : Int64)), (.long q0)])) (fun _ k => XS.lconst X0.here hx rfl (hb hby d1_1) k) ?_
  refine Goes.step (S' := s₁.setTop (mkF m 3 #[.val (.long q0), .second, .val (.ref u1), .unset] [(.int (lcmpW q0 (0 : Int64)))])) (fun _ k => XS.lcmp X0.here hx rfl (hb hby d1_2) rfl k) ?_
  refine Goes.step (S' := s₁.setTop (mkF m 6 #[.val (.long q0), .second, .val (.ref u1), .unset] [])) (fun _ k => XS.ifNo X0.here hx rfl (hb hby d1_3) rfl ((if0 _ _).trans (flt (mt (lw_lt q0 (0 : Int64)).mp hg0)).1) k) ?_
  refine Goes.step (S' := s₁.setTop (mkF m 7 #[.val (.long q0), .second, .val (.ref u1), .unset] [(.long q0)])) (fun _ k => XS.lloadN X0.here hx rfl (hb hby d1_6) rfl  k) ?_
  refine Goes.step (S' := s₁.setTop (mkF m 10 #[.val (.long q0), .second, .val (.ref u1), .unset] [(.long (4294967295 : Int64)), (.long q0)])) (fun _ k => X0.ldc2Long hx hown (mvT hZ (hw _ (List.mem_of_getElem? (i := 5) rfl))) (g := (mkF m 7 #[.val (.long q0), .second, .val (.ref u1), .unset] [(.long q0)])) rfl (hb hby d1_7) _ k) ?_
  refine Goes.step (S' := s₁.setTop (mkF m 11 #[.val (.long q0), .second, .val (.ref u1), .unset] [(.int (lcmpW q0 (4294967295 : Int64)))])) (fun _ k => XS.lcmp X0.here hx rfl (hb hby d1_10) rfl k) ?_
  refine Goes.step (S' := s₁.setTop (mkF m 28 #[.val (.long q0), .second, .val (.ref u1), .unset] [])) (fun _ k => XS.ifYes X0.here hx rfl (pc0 := 11) (pc' := 28) rfl (hb hby d1_11) rfl ((if0 _ _).trans (flt (mt (lw_gt q0 (4294967295 : Int64)).mp hg1)).2.2.2) (by decide) (by decide) k) ?_
  refine Goes.step (S' := s₁.setTop (mkF m 29 #[.val (.long q0), .second, .val (.ref u1), .unset] [(.ref u1)])) (fun _ k => XS.aloadN X0.here hx rfl (hb hby d1_28) rfl rfl k) ?_
  refine Goes.step (S' := s₁.setTop (mkF m 30 #[.val (.long q0), .second, .val (.ref u1), .unset] [(.int n_u1)])) (fun _ k => own_len X0 hx hZ e0 V_u1 (hb hby d1_29) _ k) ?_
  refine Goes.step (S' := s₁.setTop (mkF m 32 #[.val (.long q0), .second, .val (.ref u1), .unset] [(.int (12 : Int32)), (.int n_u1)])) (fun _ k => XS.bipush X0.here hx rfl (hb hby d1_30) k) ?_
  refine Goes.step (S' := s₁.setTop (mkF m 50 #[.val (.long q0), .second, .val (.ref u1), .unset] [])) (fun _ k => XS.icmpYes X0.here hx rfl (pc0 := 32) (pc' := 50) rfl (hb hby d1_32) rfl (teq hlen).1 (by decide) (by decide) k) ?_
  refine Goes.step (S' := s₁.setTop (mkF m 51 #[.val (.long q0), .second, .val (.ref u1), .unset] [(.long q0)])) (fun _ k => XS.lloadN X0.here hx rfl (hb hby d1_50) rfl  k) ?_
  refine Goes.step (S' := s₁.setTop (mkF m 52 #[.val (.long q0), .second, .val (.ref u1), .unset] [(.long (0 : Int64)), (.long q0)])) (fun _ k => XS.lconst X0.here hx rfl (hb hby d1_51) k) ?_
  refine Goes.step (S' := s₁.setTop (mkF m 53 #[.val (.long q0), .second, .val (.ref u1), .unset] [(.int (lcmpW q0 (0 : Int64)))])) (fun _ k => XS.lcmp X0.here hx rfl (hb hby d1_52) rfl k) ?_
  refine Goes.step (own_ite1 (T := s₁) (c := q0 = (0 : Int64)) (a0 := (1 : Int32)) (b0 := (2 : Int32)) (F := fun z1_0 => (mkF m 61 #[.val (.long q0), .second, .val (.ref u1), .unset] [(.int z1_0)])) ?_ ?_) ?_
  · intro hc53_1 t k
    refine XS.ifNo X0.here hx rfl (hb hby d1_53) rfl ((if0 _ _).trans (teq ((lw_eq q0 (0 : Int64)).mpr hc53_1)).2) ?_
    show Steps p.tables e below (s₁.setTop (mkF m 56 #[.val (.long q0), .second, .val (.ref u1), .unset] [])) _
    refine XS.iconst X0.here hx rfl (hb hby d1_56) ?_
    show Steps p.tables e below (s₁.setTop (mkF m 57 #[.val (.long q0), .second, .val (.ref u1), .unset] [(.int (1 : Int32))])) _
    refine XS.goto X0.here hx rfl (pc0 := 57) (pc' := 61) rfl (hb hby d1_57) (by decide) (by decide) ?_
    show Steps p.tables e below (s₁.setTop (mkF m 61 #[.val (.long q0), .second, .val (.ref u1), .unset] [(.int (1 : Int32))])) _
    exact k
  · intro hc53_1 t k
    refine XS.ifYes X0.here hx rfl (pc0 := 53) (pc' := 60) rfl (hb hby d1_53) rfl ((if0 _ _).trans (feq (mt (lw_eq q0 (0 : Int64)).mp hc53_1)).2) (by decide) (by decide) ?_
    show Steps p.tables e below (s₁.setTop (mkF m 60 #[.val (.long q0), .second, .val (.ref u1), .unset] [])) _
    refine XS.iconst X0.here hx rfl (hb hby d1_60) ?_
    show Steps p.tables e below (s₁.setTop (mkF m 61 #[.val (.long q0), .second, .val (.ref u1), .unset] [(.int (2 : Int32))])) _
    exact k
  show Goes p.tables e below _ (s₁.setTop (mkF m 61 #[.val (.long q0), .second, .val (.ref u1), .unset] [(.int (if q0 = (0 : Int64) then (1 : Int32) else (2 : Int32)))]))
  refine Goes.step (S' := s₁.setTop (mkF m 62 #[.val (.long q0), .second, .val (.ref u1), .val (.int (if q0 = (0 : Int64) then (1 : Int32) else (2 : Int32)))] [])) (fun _ k => XS.istoreN X0.here hx rfl (hb hby d1_61) rfl (l' := #[.val (.long q0), .second, .val (.ref u1), .val (.int (if q0 = (0 : Int64) then (1 : Int32) else (2 : Int32)))]) rfl k) ?_
  rw [hver]
  obtain ⟨T1, h1, X1, e1, E1, A1, D1, -, st1⟩ := newO X0 hx hZ hown (hw _ (List.mem_of_getElem? (i := 6) rfl)) (hw _ (List.mem_of_getElem? (i := 7) rfl)) (hw _ (List.mem_of_getElem? (i := 3) rfl)) e0 (g := (mkF m 62 #[.val (.long q0), .second, .val (.ref u1), .val (.int ver)] [])) rfl (hb hby d1_62) (by decide) (by decide)
  obtain ⟨b1, g1⟩ : ∃ z, z = h0.size := ⟨_, rfl⟩
  rw [← g1] at A1 D1 st1
  have ne2 : u1 ≠ b1 := Nat.ne_of_lt (Nat.lt_of_lt_of_le V_u1.lt (Nat.le_of_eq g1.symm))
  have g3 : n0 ≤ b1 := Nat.le_trans Z0 (Nat.le_of_eq g1.symm)
  have Z4 : n0 ≤ h1.size := Nat.le_trans Z0 E1.1
  have O5 : h0.size ≤ b1 := Nat.le_trans K0.1 (Nat.le_of_eq g1.symm)
  have V6 := V_u1.ext E1
  have K7 : Keep h0 h1 [] := K0.ext E1
  have F8 : Fld Z h1 b1 "com/example/isopod/isopod/RecordHeader" "version" "I" (.int (0 : Int32)) := D1 (Or.inr (hw _ (List.mem_of_getElem? (i := 24) rfl))) (ty := .int) (by decide)
  have F9 : Fld Z h1 b1 "com/example/isopod/isopod/RecordHeader" "generation" "J" (.long (0 : Int64)) := D1 (Or.inr (hw _ (List.mem_of_getElem? (i := 26) rfl))) (ty := .long) (by decide)
  have F10 : Fld Z h1 b1 "com/example/isopod/isopod/RecordHeader" "nonce" "[B" .null := D1 (Or.inr (hw _ (List.mem_of_getElem? (i := 28) rfl))) (ty := (.array .byte)) (by decide)
  refine Goes.step (S' := T1.setTop (mkF m 65 #[.val (.long q0), .second, .val (.ref u1), .val (.int ver)] [(.ref b1)])) st1 ?_
  refine Goes.step (S' := T1.setTop (mkF m 66 #[.val (.long q0), .second, .val (.ref u1), .val (.int ver)] [(.ref b1), (.ref b1)])) (fun _ k => XS.dup X1.here hx rfl (hb hby d1_65) rfl rfl k) ?_
  refine Goes.step (S' := T1.setTop (mkF m 67 #[.val (.long q0), .second, .val (.ref u1), .val (.int ver)] [(.int ver), (.ref b1), (.ref b1)])) (fun _ k => XS.iloadN X1.here hx rfl (hb hby d1_66) rfl  k) ?_
  refine Goes.step (S' := T1.setTop (mkF m 68 #[.val (.long q0), .second, .val (.ref u1), .val (.int ver)] [(.long q0), (.int ver), (.ref b1), (.ref b1)])) (fun _ k => XS.lloadN X1.here hx rfl (hb hby d1_67) rfl  k) ?_
  refine Goes.step (S' := T1.setTop (mkF m 69 #[.val (.long q0), .second, .val (.ref u1), .val (.int ver)] [(.ref u1), (.long q0), (.int ver), (.ref b1), (.ref b1)])) (fun _ k => XS.aloadN X1.here hx rfl (hb hby d1_68) rfl rfl k) ?_
  obtain ⟨T11, h11, X11, e11, E11, V_11, st11⟩ := own_clone X1 hx hZ hown (hw _ (List.mem_of_getElem? (i := 8) rfl)) (hw _ (List.mem_of_getElem? (i := 9) rfl)) (hw _ (List.mem_of_getElem? (i := 13) rfl)) (hw _ (List.mem_of_getElem? (i := 11) rfl)) (hw _ (List.mem_of_getElem? (i := 12) rfl)) (hw _ (List.mem_of_getElem? (i := 14) rfl)) e1 V6 hk_u1 (cap := 12) (own_cl1_69 q0 n_u1 vs_u1 hl_u1 hn_u1 ver hver hg0 hg1 hlen) (g := (mkF m 69 #[.val (.long q0), .second, .val (.ref u1), .val (.int ver)] [(.ref u1), (.long q0), (.int ver), (.ref b1), (.ref b1)])) rfl (by rw [hml]; rfl) rfl (hb hby d1_69) (by decide) (W := 5) (by show 2 * 0 + _ ≤ _; exact Nat.le_of_eq rfl) (by decide) (by decide) (by decide)
  obtain ⟨b11, g11⟩ : ∃ z, z = h1.size := ⟨_, rfl⟩
  rw [← g11] at V_11 st11
  have ne12 : u1 ≠ b11 := Nat.ne_of_lt (Nat.lt_of_lt_of_le V6.lt (Nat.le_of_eq g11.symm))
  have ne13 : b1 ≠ b11 := Nat.ne_of_lt (Nat.lt_of_lt_of_le A1.lt (Nat.le_of_eq g11.symm))
  have g14 : n0 ≤ b11 := Nat.le_trans Z4 (Nat.le_of_eq g11.symm)
  have Z15 : n0 ≤ h11.size := Nat.le_trans Z4 E11.1
  have O16 : h0.size ≤ b11 := Nat.le_trans K7.1 (Nat.le_of_eq g11.symm)
  have V17 := V6.ext E11
  have E_18 := A1.ext E11
  have F19 := F8.ext E11
  have F20 := F9.ext E11
  have F21 := F10.ext E11
  have K22 : Keep h0 h11 [] := K7.ext E11
  refine Goes.step (S' := T11.setTop (mkF m 72 #[.val (.long q0), .second, .val (.ref u1), .val (.int ver)] [(.ref b11), (.long q0), (.int ver), (.ref b1), (.ref b1)])) st11 ?_
  obtain ⟨T23, X23, e23, st23⟩ := castY X11 hx hZ hown (hw _ (List.mem_of_getElem? (i := 15) rfl)) e11 (own_insB V_11 hk_u1) (g := (mkF m 72 #[.val (.long q0), .second, .val (.ref u1), .val (.int ver)] [(.ref b11), (.long q0), (.int ver), (.ref b1), (.ref b1)])) rfl rfl (hb hby d1_72)
  refine Goes.step (S' := T23.setTop (mkF m 75 #[.val (.long q0), .second, .val (.ref u1), .val (.int ver)] [(.ref b11), (.long q0), (.int ver), (.ref b1), (.ref b1)])) st23 ?_
  obtain ⟨_, _, ⟨T24, L24, k24, n24⟩, -, X24, ⟨Lc24, hQ24, l24, y24, z24⟩, st24⟩ := X23.specialBack hx (y := (⟨"com/example/isopod/isopod/RecordHeader", "<init>", "(IJ[B)V"⟩ : MethodName)) rfl hown (mvT hZ (hw _ (List.mem_of_getElem? (i := 17) rfl))) (mvT hZ (hw _ (List.mem_of_getElem? (i := 18) rfl))) (mvT hZ (hw _ (List.mem_of_getElem? (i := 19) rfl))) (by decide) (backOf (W := 1) (rm2 l Z a0 hw [] b1 ver q0 b11 k_u1 n_u1 vs_u1 h11 n0 Z15 V_11 hk_u1 E_18 F19 F20 F21 g3 (Ne.symm ne13)) hZ (hw _ (List.mem_of_getElem? (i := 19) rfl)) (hw _ (List.mem_of_getElem? (i := 3) rfl)) (by decide) (by decide)) (g := (mkF m 75 #[.val (.long q0), .second, .val (.ref u1), .val (.int ver)] [(.ref b11), (.long q0), (.int ver), (.ref b1), (.ref b1)])) rfl (by rw [hml]; rfl) (Steps.refl _) (a := b1) (argsL := [(.int ver), (.long q0), (.ref b11)]) (rest := [(.ref b1)]) (lenOf pd0 rfl) rfl (by show 2 * 0 + _ ≤ _; exact Nat.le_of_eq rfl) (hb hby d1_75) (fun _ _ => ⟨rfl, e23, (by decide : 2 + 0 ≤ _), (by decide : 15 + 0 ≤ _)⟩)
  dsimp only [Pt.U, Pt.locs, Pt.cells, Pt.slots] at X24 l24 y24 z24 st24 hQ24
  replace X24 := X24.more (Nat.le_of_eq (y24 : k24 = 2)) (Nat.le_of_eq (z24 : n24 = 15))
  obtain ⟨rfl, N24q, K24q, E_25, F26, F27, F28⟩ := hQ24
  have N29 := own_frapp l24 N0 N24q
  have V30 := V17.keep K24q (ninS ne2 nin0)
  have V31 := V_11.keep K24q (ninS (Ne.symm ne13) nin0)
  have E_32 := E_18.keep K24q
  have K33 : Keep h0 T24.heap [] := K22.trans K24q (allS (Or.inr O5) all0)
  have Z34 : n0 ≤ T24.heap.size := Nat.le_trans Z15 K24q.1
  refine Goes.step (S' := T24.setTop (mkF m 78 #[.val (.long q0), .second, .val (.ref u1), .val (.int ver)] [(.ref b1)])) (fun _ k => st24.trans k) ?_
  refine Goes.retA X24 hx Bd.notSynchronized Bd.returns rfl (hb hby d1_78) (by decide) (by decide) ?_
  refine ⟨b1, b11, k_u1, rfl, N29, ?_, ?_, ?_, ?_, ?_, ?_, ?_, ?_, ?_, ?_⟩
  · exact K33
  · exact O5
  · exact E_25
  · exact F26
  · exact F27
  · exact F28
  · exact O16
  · exact V31
  · exact hk_u1
  · exact ne13
theorem d4_0 : decode prog_12_method_4_code 0 = .ok (.aload_n 0, 1) := by decide +kernel
theorem d4_1 : decode prog_12_method_4_code 1 = .ok (.getfield 11, 3) := by decide +kernel
theorem d4_4 : decode prog_12_method_4_code 4 = .ok (.ireturn, 1) := by decide +kernel
theorem ef4 (m : MethodId) (u0 : Addr) : entryFrame m #[(.ref u0)] 1 = mkF m 0 #[.val (.ref u0)] [] := by first | (simp [entryFrame, mkF, argsToLocals, Value.category]; done) | rfl
def f4 (w_version_u0 : Int32) (w_generation_u0 : Int64) : Int32 := w_version_u0
def Q4 (Z : State) (u0 : Addr) (w_version_u0 : Int32) (w_generation_u0 : Int64) (h0 : Heap) (n0 : Nat) (v : Option Value) (h : Heap) (L : List Loc) : Prop := v = some (.int (f4 w_version_u0 w_generation_u0)) ∧ Fr n0 L ∧ h = h0
set_option maxRecDepth 65536 in
set_option maxHeartbeats 40000000 in
theorem rm4 (l : Launch) (Z : State) (a0 : Array Value) (hw : ∀ d ∈ tables_1, d.before a0 Z = true) (ws : List Jvm.Cond) (u0 : Addr) (w_version_u0 : Int32) (w_generation_u0 : Int64) (h0 : Heap) (n0 : Nat) (Z0 : n0 ≤ h0.size) (E_u0 : Exa Z h0 u0 "com/example/isopod/isopod/RecordHeader") (F_version_u0 : Fld Z h0 u0 "com/example/isopod/isopod/RecordHeader" "version" "I" (.int w_version_u0)) (F_generation_u0 : Fld Z h0 u0 "com/example/isopod/isopod/RecordHeader" "generation" "J" (.long w_generation_u0)) :
    MetFree l (⟨"com/example/isopod/isopod/RecordHeader", "version", "()I"⟩ : MethodName) (head1 (Jvm.Cond.code (⟨"com/example/isopod/isopod/RecordHeader", "version", "()I"⟩ : MethodName) prog_12_method_4_code 1 (some .int) :: ws) ({ frames := 0, cells := 0, slots := 0, locals := 0 } : Room)) (fun a U => a = #[(.ref u0)] ∧ Z.Warmed39 U.vm ∧ U.heap = h0) (fun _ _ _ _ _ => True) (fun _ U o U' => ∃ v L, o = .returned v ∧ Q4 Z u0 w_version_u0 w_generation_u0 h0 n0 v U'.heap L ∧ FrameEnd U o U' L ({ frames := 0, cells := 0, slots := 0, locals := 0 } : Room).cells ({ frames := 0, cells := 0, slots := 0, locals := 0 } : Room).slots) := by
  refine MetFree.of_bodySF (plainFor_of_name pn0) hisR ?_
  intro p e s m args below meth c s₁ Bd hml0 hP hK
  obtain ⟨rfl, hZ, hh⟩ := hP
  have hx := Bd.exec
  have hby := Bd.bytes
  have hml : c.maxLocals = 1 := hml0
  have hown : s.vm.findClass "com/example/isopod/isopod/RecordHeader" = some m.cls := findClass_of_methodNamed Bd.named
  have hnm := (name_of_methodNamed Bd.named Bd.method).1
  have X0 : Stand p l e ({ frames := 0, cells := 0, slots := 0, locals := 0 } : Room) s m #[(.ref u0)] below meth c s₁ [] 0 0 := Stand.of_body Bd
  have e0 : s₁.heap = h0 := by rw [← hh, Bd.state]; rfl
  have N0 := Fr.nil n0
  refine Goes.out (Q := fun o U' => ∃ v L, o = .returned v ∧ Q4 Z u0 w_version_u0 w_generation_u0 h0 n0 v U'.heap L ∧ FrameEnd s o U' L ({ frames := 0, cells := 0, slots := 0, locals := 0 } : Room).cells ({ frames := 0, cells := 0, slots := 0, locals := 0 } : Room).slots) ?_
  refine Goes.step (S' := s₁.setTop (mkF m 0 #[.val (.ref u0)] [])) (fun _ k => castTop (ef4 m u0) k) ?_
  refine Goes.step (S' := s₁.setTop (mkF m 1 #[.val (.ref u0)] [(.ref u0)])) (fun _ k => XS.aloadN X0.here hx rfl (hb hby d4_0) rfl rfl k) ?_
  obtain ⟨T1, X1, e1, st1⟩ := getF X0 hx hZ hown (host := "") (Or.inl (hw _ (List.mem_of_getElem? (i := 23) rfl))) Via.refl e0 F_version_u0 (g := (mkF m 1 #[.val (.ref u0)] [(.ref u0)])) rfl rfl (hb hby d4_1)
  refine Goes.step (S' := T1.setTop (mkF m 4 #[.val (.ref u0)] [(.int w_version_u0)])) st1 ?_
  refine Goes.retI X1 hx Bd.notSynchronized Bd.returns (hb hby d4_4) (by decide) (by decide) ?_
  exact ⟨rfl, N0, e1⟩
theorem d5_0 : decode prog_12_method_5_code 0 = .ok (.aload_n 0, 1) := by decide +kernel
theorem d5_1 : decode prog_12_method_5_code 1 = .ok (.getfield 15, 3) := by decide +kernel
theorem d5_4 : decode prog_12_method_5_code 4 = .ok (.lreturn, 1) := by decide +kernel
theorem ef5 (m : MethodId) (u0 : Addr) : entryFrame m #[(.ref u0)] 1 = mkF m 0 #[.val (.ref u0)] [] := by first | (simp [entryFrame, mkF, argsToLocals, Value.category]; done) | rfl
def f5 (w_version_u0 : Int32) (w_generation_u0 : Int64) : Int64 := w_generation_u0
def Q5 (Z : State) (u0 : Addr) (w_version_u0 : Int32) (w_generation_u0 : Int64) (h0 : Heap) (n0 : Nat) (v : Option Value) (h : Heap) (L : List Loc) : Prop := v = some (.long (f5 w_version_u0 w_generation_u0)) ∧ Fr n0 L ∧ h = h0
set_option maxRecDepth 65536 in
set_option maxHeartbeats 40000000 in
theorem rm5 (l : Launch) (Z : State) (a0 : Array Value) (hw : ∀ d ∈ tables_1, d.before a0 Z = true) (ws : List Jvm.Cond) (u0 : Addr) (w_version_u0 : Int32) (w_generation_u0 : Int64) (h0 : Heap) (n0 : Nat) (Z0 : n0 ≤ h0.size) (E_u0 : Exa Z h0 u0 "com/example/isopod/isopod/RecordHeader") (F_version_u0 : Fld Z h0 u0 "com/example/isopod/isopod/RecordHeader" "version" "I" (.int w_version_u0)) (F_generation_u0 : Fld Z h0 u0 "com/example/isopod/isopod/RecordHeader" "generation" "J" (.long w_generation_u0)) :
    MetFree l (⟨"com/example/isopod/isopod/RecordHeader", "generation", "()J"⟩ : MethodName) (head1 (Jvm.Cond.code (⟨"com/example/isopod/isopod/RecordHeader", "generation", "()J"⟩ : MethodName) prog_12_method_5_code 1 (some .long) :: ws) ({ frames := 0, cells := 0, slots := 0, locals := 0 } : Room)) (fun a U => a = #[(.ref u0)] ∧ Z.Warmed39 U.vm ∧ U.heap = h0) (fun _ _ _ _ _ => True) (fun _ U o U' => ∃ v L, o = .returned v ∧ Q5 Z u0 w_version_u0 w_generation_u0 h0 n0 v U'.heap L ∧ FrameEnd U o U' L ({ frames := 0, cells := 0, slots := 0, locals := 0 } : Room).cells ({ frames := 0, cells := 0, slots := 0, locals := 0 } : Room).slots) := by
  refine MetFree.of_bodySF (plainFor_of_name pn0) hisR ?_
  intro p e s m args below meth c s₁ Bd hml0 hP hK
  obtain ⟨rfl, hZ, hh⟩ := hP
  have hx := Bd.exec
  have hby := Bd.bytes
  have hml : c.maxLocals = 1 := hml0
  have hown : s.vm.findClass "com/example/isopod/isopod/RecordHeader" = some m.cls := findClass_of_methodNamed Bd.named
  have hnm := (name_of_methodNamed Bd.named Bd.method).1
  have X0 : Stand p l e ({ frames := 0, cells := 0, slots := 0, locals := 0 } : Room) s m #[(.ref u0)] below meth c s₁ [] 0 0 := Stand.of_body Bd
  have e0 : s₁.heap = h0 := by rw [← hh, Bd.state]; rfl
  have N0 := Fr.nil n0
  refine Goes.out (Q := fun o U' => ∃ v L, o = .returned v ∧ Q5 Z u0 w_version_u0 w_generation_u0 h0 n0 v U'.heap L ∧ FrameEnd s o U' L ({ frames := 0, cells := 0, slots := 0, locals := 0 } : Room).cells ({ frames := 0, cells := 0, slots := 0, locals := 0 } : Room).slots) ?_
  refine Goes.step (S' := s₁.setTop (mkF m 0 #[.val (.ref u0)] [])) (fun _ k => castTop (ef5 m u0) k) ?_
  refine Goes.step (S' := s₁.setTop (mkF m 1 #[.val (.ref u0)] [(.ref u0)])) (fun _ k => XS.aloadN X0.here hx rfl (hb hby d5_0) rfl rfl k) ?_
  obtain ⟨T1, X1, e1, st1⟩ := getF X0 hx hZ hown (host := "") (Or.inl (hw _ (List.mem_of_getElem? (i := 25) rfl))) Via.refl e0 F_generation_u0 (g := (mkF m 1 #[.val (.ref u0)] [(.ref u0)])) rfl rfl (hb hby d5_1)
  refine Goes.step (S' := T1.setTop (mkF m 4 #[.val (.ref u0)] [(.long w_generation_u0)])) st1 ?_
  refine Goes.retJ X1 hx Bd.notSynchronized Bd.returns (hb hby d5_4) (by decide) (by decide) ?_
  exact ⟨rfl, N0, e1⟩
theorem d7_0 : decode prog_12_method_10_code 0 = .ok (.iload_n 0, 1) := by decide +kernel
theorem d7_1 : decode prog_12_method_10_code 1 = .ok (.iconst 2, 1) := by decide +kernel
theorem d7_2 : decode prog_12_method_10_code 2 = .ok (.if_icmp .ne 7, 3) := by decide +kernel
theorem d7_5 : decode prog_12_method_10_code 5 = .ok (.iconst 4, 1) := by decide +kernel
theorem d7_6 : decode prog_12_method_10_code 6 = .ok (.goto 4, 3) := by decide +kernel
theorem d7_9 : decode prog_12_method_10_code 9 = .ok (.iconst 0, 1) := by decide +kernel
theorem d7_10 : decode prog_12_method_10_code 10 = .ok (.istore_n 1, 1) := by decide +kernel
theorem d7_11 : decode prog_12_method_10_code 11 = .ok (.iconst 1, 1) := by decide +kernel
theorem d7_12 : decode prog_12_method_10_code 12 = .ok (.iload_n 1, 1) := by decide +kernel
theorem d7_13 : decode prog_12_method_10_code 13 = .ok (.iadd, 1) := by decide +kernel
theorem d7_14 : decode prog_12_method_10_code 14 = .ok (.bipush 12, 2) := by decide +kernel
theorem d7_16 : decode prog_12_method_10_code 16 = .ok (.iadd, 1) := by decide +kernel
theorem d7_17 : decode prog_12_method_10_code 17 = .ok (.ireturn, 1) := by decide +kernel
theorem ef7 (m : MethodId) (p0 : Int32) : entryFrame m #[(.int p0)] 2 = mkF m 0 #[.val (.int p0), .unset] [] := by first | (simp [entryFrame, mkF, argsToLocals, Value.category]; done) | rfl
def f7 (p0 : Int32) : Int32 := (((1 : Int32) + (if p0 = (2 : Int32) then (4 : Int32) else (0 : Int32))) + (12 : Int32))
def Q7 (Z : State) (p0 : Int32) (h0 : Heap) (n0 : Nat) (v : Option Value) (h : Heap) (L : List Loc) : Prop := v = some (.int (f7 p0)) ∧ Fr n0 L ∧ h = h0
set_option maxRecDepth 65536 in
set_option maxHeartbeats 40000000 in
theorem rm7 (l : Launch) (Z : State) (a0 : Array Value) (hw : ∀ d ∈ tables_1, d.before a0 Z = true) (ws : List Jvm.Cond) (p0 : Int32) (h0 : Heap) (n0 : Nat) (Z0 : n0 ≤ h0.size) :
    MetFree l (⟨"com/example/isopod/isopod/RecordHeader", "headerLength", "(I)I"⟩ : MethodName) (head1 (Jvm.Cond.code (⟨"com/example/isopod/isopod/RecordHeader", "headerLength", "(I)I"⟩ : MethodName) prog_12_method_10_code 2 (some .int) :: ws) ({ frames := 0, cells := 0, slots := 0, locals := 0 } : Room)) (fun a U => a = #[(.int p0)] ∧ Z.Warmed39 U.vm ∧ U.heap = h0) (fun _ _ _ _ _ => True) (fun _ U o U' => ∃ v L, o = .returned v ∧ Q7 Z p0 h0 n0 v U'.heap L ∧ FrameEnd U o U' L ({ frames := 0, cells := 0, slots := 0, locals := 0 } : Room).cells ({ frames := 0, cells := 0, slots := 0, locals := 0 } : Room).slots) := by
  refine MetFree.of_bodySF (plainFor_of_name pn0) hisR ?_
  intro p e s m args below meth c s₁ Bd hml0 hP hK
  obtain ⟨rfl, hZ, hh⟩ := hP
  have hx := Bd.exec
  have hby := Bd.bytes
  have hml : c.maxLocals = 2 := hml0
  have hown : s.vm.findClass "com/example/isopod/isopod/RecordHeader" = some m.cls := findClass_of_methodNamed Bd.named
  have hnm := (name_of_methodNamed Bd.named Bd.method).1
  have X0 : Stand p l e ({ frames := 0, cells := 0, slots := 0, locals := 0 } : Room) s m #[(.int p0)] below meth c s₁ [] 0 0 := Stand.of_body Bd
  have e0 : s₁.heap = h0 := by rw [← hh, Bd.state]; rfl
  have N0 := Fr.nil n0
  refine Goes.out (Q := fun o U' => ∃ v L, o = .returned v ∧ Q7 Z p0 h0 n0 v U'.heap L ∧ FrameEnd s o U' L ({ frames := 0, cells := 0, slots := 0, locals := 0 } : Room).cells ({ frames := 0, cells := 0, slots := 0, locals := 0 } : Room).slots) ?_
  refine Goes.step (S' := s₁.setTop (mkF m 0 #[.val (.int p0), .unset] [])) (fun _ k => castTop (ef7 m p0) k) ?_
  refine Goes.step (S' := s₁.setTop (mkF m 1 #[.val (.int p0), .unset] [(.int p0)])) (fun _ k => XS.iloadN X0.here hx rfl (hb hby d7_0) rfl  k) ?_
  refine Goes.step (S' := s₁.setTop (mkF m 2 #[.val (.int p0), .unset] [(.int (2 : Int32)), (.int p0)])) (fun _ k => XS.iconst X0.here hx rfl (hb hby d7_1) k) ?_
  refine Goes.step (own_ite1 (T := s₁) (c := p0 = (2 : Int32)) (a0 := (4 : Int32)) (b0 := (0 : Int32)) (F := fun z1_0 => (mkF m 10 #[.val (.int p0), .unset] [(.int z1_0)])) ?_ ?_) ?_
  · intro hc2_1 t k
    refine XS.icmpNo X0.here hx rfl (hb hby d7_2) rfl (teq hc2_1).2 ?_
    show Steps p.tables e below (s₁.setTop (mkF m 5 #[.val (.int p0), .unset] [])) _
    refine XS.iconst X0.here hx rfl (hb hby d7_5) ?_
    show Steps p.tables e below (s₁.setTop (mkF m 6 #[.val (.int p0), .unset] [(.int (4 : Int32))])) _
    refine XS.goto X0.here hx rfl (pc0 := 6) (pc' := 10) rfl (hb hby d7_6) (by decide) (by decide) ?_
    show Steps p.tables e below (s₁.setTop (mkF m 10 #[.val (.int p0), .unset] [(.int (4 : Int32))])) _
    exact k
  · intro hc2_1 t k
    refine XS.icmpYes X0.here hx rfl (pc0 := 2) (pc' := 9) rfl (hb hby d7_2) rfl (feq hc2_1).2 (by decide) (by decide) ?_
    show Steps p.tables e below (s₁.setTop (mkF m 9 #[.val (.int p0), .unset] [])) _
    refine XS.iconst X0.here hx rfl (hb hby d7_9) ?_
    show Steps p.tables e below (s₁.setTop (mkF m 10 #[.val (.int p0), .unset] [(.int (0 : Int32))])) _
    exact k
  show Goes p.tables e below _ (s₁.setTop (mkF m 10 #[.val (.int p0), .unset] [(.int (if p0 = (2 : Int32) then (4 : Int32) else (0 : Int32)))]))
  refine Goes.step (S' := s₁.setTop (mkF m 11 #[.val (.int p0), .val (.int (if p0 = (2 : Int32) then (4 : Int32) else (0 : Int32)))] [])) (fun _ k => XS.istoreN X0.here hx rfl (hb hby d7_10) rfl (l' := #[.val (.int p0), .val (.int (if p0 = (2 : Int32) then (4 : Int32) else (0 : Int32)))]) rfl k) ?_
  refine Goes.step (S' := s₁.setTop (mkF m 12 #[.val (.int p0), .val (.int (if p0 = (2 : Int32) then (4 : Int32) else (0 : Int32)))] [(.int (1 : Int32))])) (fun _ k => XS.iconst X0.here hx rfl (hb hby d7_11) k) ?_
  refine Goes.step (S' := s₁.setTop (mkF m 13 #[.val (.int p0), .val (.int (if p0 = (2 : Int32) then (4 : Int32) else (0 : Int32)))] [(.int (if p0 = (2 : Int32) then (4 : Int32) else (0 : Int32))), (.int (1 : Int32))])) (fun _ k => XS.iloadN X0.here hx rfl (hb hby d7_12) rfl  k) ?_
  refine Goes.step (S' := s₁.setTop (mkF m 14 #[.val (.int p0), .val (.int (if p0 = (2 : Int32) then (4 : Int32) else (0 : Int32)))] [(.int ((1 : Int32) + (if p0 = (2 : Int32) then (4 : Int32) else (0 : Int32))))])) (fun _ k => XS.iadd X0.here hx rfl (hb hby d7_13) rfl k) ?_
  refine Goes.step (S' := s₁.setTop (mkF m 16 #[.val (.int p0), .val (.int (if p0 = (2 : Int32) then (4 : Int32) else (0 : Int32)))] [(.int (12 : Int32)), (.int ((1 : Int32) + (if p0 = (2 : Int32) then (4 : Int32) else (0 : Int32))))])) (fun _ k => XS.bipush X0.here hx rfl (hb hby d7_14) k) ?_
  refine Goes.step (S' := s₁.setTop (mkF m 17 #[.val (.int p0), .val (.int (if p0 = (2 : Int32) then (4 : Int32) else (0 : Int32)))] [(.int (((1 : Int32) + (if p0 = (2 : Int32) then (4 : Int32) else (0 : Int32))) + (12 : Int32)))])) (fun _ k => XS.iadd X0.here hx rfl (hb hby d7_16) rfl k) ?_
  refine Goes.retI X0 hx Bd.notSynchronized Bd.returns (hb hby d7_17) (by decide) (by decide) ?_
  exact ⟨rfl, N0, e0⟩
theorem pd1 : parseMethodDescriptor "(I)I" = some ⟨[.int], some .int⟩ := by decide +kernel
theorem d6_0 : decode prog_12_method_7_code 0 = .ok (.aload_n 0, 1) := by decide +kernel
theorem d6_1 : decode prog_12_method_7_code 1 = .ok (.getfield 11, 3) := by decide +kernel
theorem d6_4 : decode prog_12_method_7_code 4 = .ok (.invokestatic 52, 3) := by decide +kernel
theorem d6_7 : decode prog_12_method_7_code 7 = .ok (.ireturn, 1) := by decide +kernel
theorem ef6 (m : MethodId) (u0 : Addr) : entryFrame m #[(.ref u0)] 1 = mkF m 0 #[.val (.ref u0)] [] := by first | (simp [entryFrame, mkF, argsToLocals, Value.category]; done) | rfl
def f6 (w_version_u0 : Int32) : Int32 := (f7 w_version_u0)
def Q6 (Z : State) (u0 : Addr) (w_version_u0 : Int32) (h0 : Heap) (n0 : Nat) (v : Option Value) (h : Heap) (L : List Loc) : Prop := v = some (.int (f6 w_version_u0)) ∧ Fr n0 L ∧ h = h0
set_option maxRecDepth 65536 in
set_option maxHeartbeats 40000000 in
theorem rm6 (l : Launch) (Z : State) (a0 : Array Value) (hw : ∀ d ∈ tables_1, d.before a0 Z = true) (ws : List Jvm.Cond) (u0 : Addr) (w_version_u0 : Int32) (h0 : Heap) (n0 : Nat) (Z0 : n0 ≤ h0.size) (E_u0 : Exa Z h0 u0 "com/example/isopod/isopod/RecordHeader") (F_version_u0 : Fld Z h0 u0 "com/example/isopod/isopod/RecordHeader" "version" "I" (.int w_version_u0)) :
    MetFree l (⟨"com/example/isopod/isopod/RecordHeader", "length", "()I"⟩ : MethodName) (head1 (Jvm.Cond.code (⟨"com/example/isopod/isopod/RecordHeader", "length", "()I"⟩ : MethodName) prog_12_method_7_code 1 (some .int) :: ws) ({ frames := 1, cells := 0, slots := 0, locals := 13 } : Room)) (fun a U => a = #[(.ref u0)] ∧ Z.Warmed39 U.vm ∧ U.heap = h0) (fun _ _ _ _ _ => True) (fun _ U o U' => ∃ v L, o = .returned v ∧ Q6 Z u0 w_version_u0 h0 n0 v U'.heap L ∧ FrameEnd U o U' L ({ frames := 1, cells := 0, slots := 0, locals := 13 } : Room).cells ({ frames := 1, cells := 0, slots := 0, locals := 13 } : Room).slots) := by
  refine MetFree.of_bodySF (plainFor_of_name pn0) hisR ?_
  intro p e s m args below meth c s₁ Bd hml0 hP hK
  obtain ⟨rfl, hZ, hh⟩ := hP
  have hx := Bd.exec
  have hby := Bd.bytes
  have hml : c.maxLocals = 1 := hml0
  have hown : s.vm.findClass "com/example/isopod/isopod/RecordHeader" = some m.cls := findClass_of_methodNamed Bd.named
  have hnm := (name_of_methodNamed Bd.named Bd.method).1
  have X0 : Stand p l e ({ frames := 1, cells := 0, slots := 0, locals := 13 } : Room) s m #[(.ref u0)] below meth c s₁ [] 0 0 := Stand.of_body Bd
  have e0 : s₁.heap = h0 := by rw [← hh, Bd.state]; rfl
  have N0 := Fr.nil n0
  refine Goes.out (Q := fun o U' => ∃ v L, o = .returned v ∧ Q6 Z u0 w_version_u0 h0 n0 v U'.heap L ∧ FrameEnd s o U' L ({ frames := 1, cells := 0, slots := 0, locals := 13 } : Room).cells ({ frames := 1, cells := 0, slots := 0, locals := 13 } : Room).slots) ?_
  refine Goes.step (S' := s₁.setTop (mkF m 0 #[.val (.ref u0)] [])) (fun _ k => castTop (ef6 m u0) k) ?_
  refine Goes.step (S' := s₁.setTop (mkF m 1 #[.val (.ref u0)] [(.ref u0)])) (fun _ k => XS.aloadN X0.here hx rfl (hb hby d6_0) rfl rfl k) ?_
  obtain ⟨T1, X1, e1, st1⟩ := getF X0 hx hZ hown (host := "") (Or.inl (hw _ (List.mem_of_getElem? (i := 23) rfl))) Via.refl e0 F_version_u0 (g := (mkF m 1 #[.val (.ref u0)] [(.ref u0)])) rfl rfl (hb hby d6_1)
  refine Goes.step (S' := T1.setTop (mkF m 4 #[.val (.ref u0)] [(.int w_version_u0)])) st1 ?_
  obtain ⟨_, _, ⟨T2, L2, k2, n2⟩, -, X2, ⟨Lc2, hQ2, l2, y2, z2⟩, st2⟩ := Jvm.LawKit.callS X1 hx (y := (⟨"com/example/isopod/isopod/RecordHeader", "headerLength", "(I)I"⟩ : MethodName)) hown (mvT hZ (hw _ (List.mem_of_getElem? (i := 44) rfl))) (mvT hZ (hw _ (List.mem_of_getElem? (i := 45) rfl))) (mvT hZ (hw _ (List.mem_of_getElem? (i := 3) rfl))) (mvT hZ (hw _ (List.mem_of_getElem? (i := 46) rfl))) (by decide) (backOf (W := 0) (rm7 l Z a0 hw [] w_version_u0 h0 n0 Z0) hZ (hw _ (List.mem_of_getElem? (i := 46) rfl)) (hw _ (List.mem_of_getElem? (i := 3) rfl)) (by decide) (by decide)) (g := (mkF m 4 #[.val (.ref u0)] [(.int w_version_u0)])) rfl (by rw [hml]; rfl) (argsL := [(.int w_version_u0)]) (rest := []) (lenOf pd1 rfl) rfl (by show 2 * 0 + _ ≤ _; exact Nat.le_of_eq rfl) (hb hby d6_4) (fun _ _ => ⟨rfl, e1, (by decide : 0 + 0 ≤ _), (by decide : 0 + 0 ≤ _)⟩)
  dsimp only [Pt.U, Pt.locs, Pt.cells, Pt.slots] at X2 l2 y2 z2 st2 hQ2
  replace X2 := X2.more (Nat.le_of_eq (y2 : k2 = 0)) (Nat.le_of_eq (z2 : n2 = 0))
  obtain ⟨rfl, N2q, e2⟩ := hQ2
  have N3 := own_frapp l2 N0 N2q
  refine Goes.step (S' := T2.setTop (mkF m 7 #[.val (.ref u0)] [(.int (f7 w_version_u0))])) st2 ?_
  refine Goes.retI X2 hx Bd.notSynchronized Bd.returns (hb hby d6_7) (by decide) (by decide) ?_
  exact ⟨rfl, N3, e2⟩
theorem d8_0 : decode prog_12_method_6_code 0 = .ok (.aload_n 0, 1) := by decide +kernel
theorem d8_1 : decode prog_12_method_6_code 1 = .ok (.getfield 19, 3) := by decide +kernel
theorem d8_4 : decode prog_12_method_6_code 4 = .ok (.invokevirtual 37, 3) := by decide +kernel
theorem d8_7 : decode prog_12_method_6_code 7 = .ok (.checkcast 38, 3) := by decide +kernel
theorem d8_10 : decode prog_12_method_6_code 10 = .ok (.areturn, 1) := by decide +kernel
theorem ef8 (m : MethodId) (u0 : Addr) : entryFrame m #[(.ref u0)] 1 = mkF m 0 #[.val (.ref u0)] [] := by first | (simp [entryFrame, mkF, argsToLocals, Value.category]; done) | rfl
theorem own_cl8_4 (n_w_nonce_u0 : Int32) (vs_w_nonce_u0 : List Int32) (hl_w_nonce_u0 : vs_w_nonce_u0.length = n_w_nonce_u0.toNatClampNeg) (hn_w_nonce_u0 : ¬ n_w_nonce_u0 < 0) (hlen : n_w_nonce_u0 = (12 : Int32)) : (n_w_nonce_u0).toNatClampNeg ≤ 12 := by
  rw [hlen]; decide
def Q8 (Z : State) (u0 : Addr) (w_nonce_u0 : Addr) (k_w_nonce_u0 : ClassId) (n_w_nonce_u0 : Int32) (vs_w_nonce_u0 : List Int32) (h0 : Heap) (n0 : Nat) (v : Option Value) (h : Heap) (L : List Loc) : Prop := ∃ (r0 : Addr) (kk0 : ClassId), v = some (.ref r0) ∧ Fr n0 L ∧ Keep h0 h [] ∧ h0.size ≤ r0 ∧ AI Z h r0 kk0 .byte n_w_nonce_u0 vs_w_nonce_u0 ∧ Z.vm.findClass "[B" = some kk0
set_option maxRecDepth 65536 in
set_option maxHeartbeats 40000000 in
theorem rm8 (l : Launch) (Z : State) (a0 : Array Value) (hw : ∀ d ∈ tables_1, d.before a0 Z = true) (ws : List Jvm.Cond) (u0 : Addr) (w_nonce_u0 : Addr) (k_w_nonce_u0 : ClassId) (n_w_nonce_u0 : Int32) (vs_w_nonce_u0 : List Int32) (h0 : Heap) (n0 : Nat) (Z0 : n0 ≤ h0.size) (E_u0 : Exa Z h0 u0 "com/example/isopod/isopod/RecordHeader") (F_nonce_u0 : Fld Z h0 u0 "com/example/isopod/isopod/RecordHeader" "nonce" "[B" (.ref w_nonce_u0)) (V_w_nonce_u0 : AI Z h0 w_nonce_u0 k_w_nonce_u0 .byte n_w_nonce_u0 vs_w_nonce_u0) (hk_w_nonce_u0 : Z.vm.findClass "[B" = some k_w_nonce_u0) (hlen : n_w_nonce_u0 = (12 : Int32)) :
    MetFree l (⟨"com/example/isopod/isopod/RecordHeader", "nonce", "()[B"⟩ : MethodName) (head1 (Jvm.Cond.code (⟨"com/example/isopod/isopod/RecordHeader", "nonce", "()[B"⟩ : MethodName) prog_12_method_6_code 1 (some (.array .byte)) :: ws) ({ frames := 1, cells := 1, slots := 12, locals := 14 } : Room)) (fun a U => a = #[(.ref u0)] ∧ Z.Warmed39 U.vm ∧ U.heap = h0) (fun _ _ _ _ _ => True) (fun _ U o U' => ∃ v L, o = .returned v ∧ Q8 Z u0 w_nonce_u0 k_w_nonce_u0 n_w_nonce_u0 vs_w_nonce_u0 h0 n0 v U'.heap L ∧ FrameEnd U o U' L ({ frames := 1, cells := 1, slots := 12, locals := 14 } : Room).cells ({ frames := 1, cells := 1, slots := 12, locals := 14 } : Room).slots) := by
  refine MetFree.of_bodySF (plainFor_of_name pn0) hisR ?_
  intro p e s m args below meth c s₁ Bd hml0 hP hK
  obtain ⟨rfl, hZ, hh⟩ := hP
  have hx := Bd.exec
  have hby := Bd.bytes
  have hml : c.maxLocals = 1 := hml0
  have hown : s.vm.findClass "com/example/isopod/isopod/RecordHeader" = some m.cls := findClass_of_methodNamed Bd.named
  have hnm := (name_of_methodNamed Bd.named Bd.method).1
  have X0 : Stand p l e ({ frames := 1, cells := 1, slots := 12, locals := 14 } : Room) s m #[(.ref u0)] below meth c s₁ [] 0 0 := Stand.of_body Bd
  have e0 : s₁.heap = h0 := by rw [← hh, Bd.state]; rfl
  have N0 := Fr.nil n0
  have K0 : Keep h0 h0 [] := Keep.refl _ _
  have hl_w_nonce_u0 : vs_w_nonce_u0.length = n_w_nonce_u0.toNatClampNeg := V_w_nonce_u0.2
  have hn_w_nonce_u0 : ¬ n_w_nonce_u0 < 0 := V_w_nonce_u0.nn
  refine Goes.out (Q := fun o U' => ∃ v L, o = .returned v ∧ Q8 Z u0 w_nonce_u0 k_w_nonce_u0 n_w_nonce_u0 vs_w_nonce_u0 h0 n0 v U'.heap L ∧ FrameEnd s o U' L ({ frames := 1, cells := 1, slots := 12, locals := 14 } : Room).cells ({ frames := 1, cells := 1, slots := 12, locals := 14 } : Room).slots) ?_
  refine Goes.step (S' := s₁.setTop (mkF m 0 #[.val (.ref u0)] [])) (fun _ k => castTop (ef8 m u0) k) ?_
  refine Goes.step (S' := s₁.setTop (mkF m 1 #[.val (.ref u0)] [(.ref u0)])) (fun _ k => XS.aloadN X0.here hx rfl (hb hby d8_0) rfl rfl k) ?_
  obtain ⟨T1, X1, e1, st1⟩ := getF X0 hx hZ hown (host := "") (Or.inl (hw _ (List.mem_of_getElem? (i := 27) rfl))) Via.refl e0 F_nonce_u0 (g := (mkF m 1 #[.val (.ref u0)] [(.ref u0)])) rfl rfl (hb hby d8_1)
  refine Goes.step (S' := T1.setTop (mkF m 4 #[.val (.ref u0)] [(.ref w_nonce_u0)])) st1 ?_
  obtain ⟨T2, h2, X2, e2, E2, V_2, st2⟩ := own_clone X1 hx hZ hown (hw _ (List.mem_of_getElem? (i := 8) rfl)) (hw _ (List.mem_of_getElem? (i := 9) rfl)) (hw _ (List.mem_of_getElem? (i := 13) rfl)) (hw _ (List.mem_of_getElem? (i := 11) rfl)) (hw _ (List.mem_of_getElem? (i := 12) rfl)) (hw _ (List.mem_of_getElem? (i := 14) rfl)) e1 V_w_nonce_u0 hk_w_nonce_u0 (cap := 12) (own_cl8_4 n_w_nonce_u0 vs_w_nonce_u0 hl_w_nonce_u0 hn_w_nonce_u0 hlen) (g := (mkF m 4 #[.val (.ref u0)] [(.ref w_nonce_u0)])) rfl (by rw [hml]; rfl) rfl (hb hby d8_4) (by decide) (W := 0) (by show 2 * 0 + _ ≤ _; exact Nat.le_of_eq rfl) (by decide) (by decide) (by decide)
  obtain ⟨b2, g2⟩ : ∃ z, z = h0.size := ⟨_, rfl⟩
  rw [← g2] at V_2 st2
  have ne3 : w_nonce_u0 ≠ b2 := Nat.ne_of_lt (Nat.lt_of_lt_of_le V_w_nonce_u0.lt (Nat.le_of_eq g2.symm))
  have ne4 : u0 ≠ b2 := Nat.ne_of_lt (Nat.lt_of_lt_of_le E_u0.lt (Nat.le_of_eq g2.symm))
  have g5 : n0 ≤ b2 := Nat.le_trans Z0 (Nat.le_of_eq g2.symm)
  have Z6 : n0 ≤ h2.size := Nat.le_trans Z0 E2.1
  have O7 : h0.size ≤ b2 := Nat.le_trans K0.1 (Nat.le_of_eq g2.symm)
  have V8 := V_w_nonce_u0.ext E2
  have E_9 := E_u0.ext E2
  have F10 := F_nonce_u0.ext E2
  have K11 : Keep h0 h2 [] := K0.ext E2
  refine Goes.step (S' := T2.setTop (mkF m 7 #[.val (.ref u0)] [(.ref b2)])) st2 ?_
  obtain ⟨T12, X12, e12, st12⟩ := castY X2 hx hZ hown (hw _ (List.mem_of_getElem? (i := 15) rfl)) e2 (own_insB V_2 hk_w_nonce_u0) (g := (mkF m 7 #[.val (.ref u0)] [(.ref b2)])) rfl rfl (hb hby d8_7)
  refine Goes.step (S' := T12.setTop (mkF m 10 #[.val (.ref u0)] [(.ref b2)])) st12 ?_
  refine Goes.retA X12 hx Bd.notSynchronized Bd.returns rfl (hb hby d8_10) (by decide) (by decide) ?_
  refine ⟨b2, k_w_nonce_u0, rfl, N0, ?_, ?_, ?_, ?_⟩
  · first | exact K11 | (rw [e12]; exact K11)
  · first | exact O7 | (rw [e12]; exact O7)
  · first | exact V_2 | (rw [e12]; exact V_2)
  · first | exact hk_w_nonce_u0 | (rw [e12]; exact hk_w_nonce_u0)
theorem d9_0 : decode method_2_code 0 = .ok (.aload_n 0, 1) := by decide +kernel
theorem d9_1 : decode method_2_code 1 = .ok (.arraylength, 1) := by decide +kernel
theorem d9_2 : decode method_2_code 2 = .ok (.iload_n 1, 1) := by decide +kernel
theorem d9_3 : decode method_2_code 3 = .ok (.bipush 12, 2) := by decide +kernel
theorem d9_5 : decode method_2_code 5 = .ok (.iadd, 1) := by decide +kernel
theorem d9_6 : decode method_2_code 6 = .ok (.if_icmp .ge 5, 3) := by decide +kernel
theorem d9_9 : decode method_2_code 9 = .ok (.iconst 0, 1) := by decide +kernel
theorem d9_10 : decode method_2_code 10 = .ok (.ireturn, 1) := by decide +kernel
theorem d9_11 : decode method_2_code 11 = .ok (.aload_n 0, 1) := by decide +kernel
theorem d9_12 : decode method_2_code 12 = .ok (.iload_n 1, 1) := by decide +kernel
theorem d9_13 : decode method_2_code 13 = .ok (.baload, 1) := by decide +kernel
theorem d9_14 : decode method_2_code 14 = .ok (.lload_n 2, 1) := by decide +kernel
theorem d9_15 : decode method_2_code 15 = .ok (.bipush 56, 2) := by decide +kernel
theorem d9_17 : decode method_2_code 17 = .ok (.lushr, 1) := by decide +kernel
theorem d9_18 : decode method_2_code 18 = .ok (.l2i, 1) := by decide +kernel
theorem d9_19 : decode method_2_code 19 = .ok (.i2b, 1) := by decide +kernel
theorem d9_20 : decode method_2_code 20 = .ok (.if_icmp .ne 161, 3) := by decide +kernel
theorem d9_23 : decode method_2_code 23 = .ok (.aload_n 0, 1) := by decide +kernel
theorem d9_24 : decode method_2_code 24 = .ok (.iload_n 1, 1) := by decide +kernel
theorem d9_25 : decode method_2_code 25 = .ok (.iconst 1, 1) := by decide +kernel
theorem d9_26 : decode method_2_code 26 = .ok (.iadd, 1) := by decide +kernel
theorem d9_27 : decode method_2_code 27 = .ok (.baload, 1) := by decide +kernel
theorem d9_28 : decode method_2_code 28 = .ok (.lload_n 2, 1) := by decide +kernel
theorem d9_29 : decode method_2_code 29 = .ok (.bipush 48, 2) := by decide +kernel
theorem d9_31 : decode method_2_code 31 = .ok (.lushr, 1) := by decide +kernel
theorem d9_32 : decode method_2_code 32 = .ok (.l2i, 1) := by decide +kernel
theorem d9_33 : decode method_2_code 33 = .ok (.i2b, 1) := by decide +kernel
theorem d9_34 : decode method_2_code 34 = .ok (.if_icmp .ne 147, 3) := by decide +kernel
theorem d9_37 : decode method_2_code 37 = .ok (.aload_n 0, 1) := by decide +kernel
theorem d9_38 : decode method_2_code 38 = .ok (.iload_n 1, 1) := by decide +kernel
theorem d9_39 : decode method_2_code 39 = .ok (.iconst 2, 1) := by decide +kernel
theorem d9_40 : decode method_2_code 40 = .ok (.iadd, 1) := by decide +kernel
theorem d9_41 : decode method_2_code 41 = .ok (.baload, 1) := by decide +kernel
theorem d9_42 : decode method_2_code 42 = .ok (.lload_n 2, 1) := by decide +kernel
theorem d9_43 : decode method_2_code 43 = .ok (.bipush 40, 2) := by decide +kernel
theorem d9_45 : decode method_2_code 45 = .ok (.lushr, 1) := by decide +kernel
theorem d9_46 : decode method_2_code 46 = .ok (.l2i, 1) := by decide +kernel
theorem d9_47 : decode method_2_code 47 = .ok (.i2b, 1) := by decide +kernel
theorem d9_48 : decode method_2_code 48 = .ok (.if_icmp .ne 133, 3) := by decide +kernel
theorem d9_51 : decode method_2_code 51 = .ok (.aload_n 0, 1) := by decide +kernel
theorem d9_52 : decode method_2_code 52 = .ok (.iload_n 1, 1) := by decide +kernel
theorem d9_53 : decode method_2_code 53 = .ok (.iconst 3, 1) := by decide +kernel
theorem d9_54 : decode method_2_code 54 = .ok (.iadd, 1) := by decide +kernel
theorem d9_55 : decode method_2_code 55 = .ok (.baload, 1) := by decide +kernel
theorem d9_56 : decode method_2_code 56 = .ok (.lload_n 2, 1) := by decide +kernel
theorem d9_57 : decode method_2_code 57 = .ok (.bipush 32, 2) := by decide +kernel
theorem d9_59 : decode method_2_code 59 = .ok (.lushr, 1) := by decide +kernel
theorem d9_60 : decode method_2_code 60 = .ok (.l2i, 1) := by decide +kernel
theorem d9_61 : decode method_2_code 61 = .ok (.i2b, 1) := by decide +kernel
theorem d9_62 : decode method_2_code 62 = .ok (.if_icmp .ne 119, 3) := by decide +kernel
theorem d9_65 : decode method_2_code 65 = .ok (.aload_n 0, 1) := by decide +kernel
theorem d9_66 : decode method_2_code 66 = .ok (.iload_n 1, 1) := by decide +kernel
theorem d9_67 : decode method_2_code 67 = .ok (.iconst 4, 1) := by decide +kernel
theorem d9_68 : decode method_2_code 68 = .ok (.iadd, 1) := by decide +kernel
theorem d9_69 : decode method_2_code 69 = .ok (.baload, 1) := by decide +kernel
theorem d9_70 : decode method_2_code 70 = .ok (.lload_n 2, 1) := by decide +kernel
theorem d9_71 : decode method_2_code 71 = .ok (.bipush 24, 2) := by decide +kernel
theorem d9_73 : decode method_2_code 73 = .ok (.lushr, 1) := by decide +kernel
theorem d9_74 : decode method_2_code 74 = .ok (.l2i, 1) := by decide +kernel
theorem d9_75 : decode method_2_code 75 = .ok (.i2b, 1) := by decide +kernel
theorem d9_76 : decode method_2_code 76 = .ok (.if_icmp .ne 105, 3) := by decide +kernel
theorem d9_79 : decode method_2_code 79 = .ok (.aload_n 0, 1) := by decide +kernel
theorem d9_80 : decode method_2_code 80 = .ok (.iload_n 1, 1) := by decide +kernel
theorem d9_81 : decode method_2_code 81 = .ok (.iconst 5, 1) := by decide +kernel
theorem d9_82 : decode method_2_code 82 = .ok (.iadd, 1) := by decide +kernel
theorem d9_83 : decode method_2_code 83 = .ok (.baload, 1) := by decide +kernel
theorem d9_84 : decode method_2_code 84 = .ok (.lload_n 2, 1) := by decide +kernel
theorem d9_85 : decode method_2_code 85 = .ok (.bipush 16, 2) := by decide +kernel
theorem d9_87 : decode method_2_code 87 = .ok (.lushr, 1) := by decide +kernel
theorem d9_88 : decode method_2_code 88 = .ok (.l2i, 1) := by decide +kernel
theorem d9_89 : decode method_2_code 89 = .ok (.i2b, 1) := by decide +kernel
theorem d9_90 : decode method_2_code 90 = .ok (.if_icmp .ne 91, 3) := by decide +kernel
theorem d9_93 : decode method_2_code 93 = .ok (.aload_n 0, 1) := by decide +kernel
theorem d9_94 : decode method_2_code 94 = .ok (.iload_n 1, 1) := by decide +kernel
theorem d9_95 : decode method_2_code 95 = .ok (.bipush 6, 2) := by decide +kernel
theorem d9_97 : decode method_2_code 97 = .ok (.iadd, 1) := by decide +kernel
theorem d9_98 : decode method_2_code 98 = .ok (.baload, 1) := by decide +kernel
theorem d9_99 : decode method_2_code 99 = .ok (.lload_n 2, 1) := by decide +kernel
theorem d9_100 : decode method_2_code 100 = .ok (.bipush 8, 2) := by decide +kernel
theorem d9_102 : decode method_2_code 102 = .ok (.lushr, 1) := by decide +kernel
theorem d9_103 : decode method_2_code 103 = .ok (.l2i, 1) := by decide +kernel
theorem d9_104 : decode method_2_code 104 = .ok (.i2b, 1) := by decide +kernel
theorem d9_105 : decode method_2_code 105 = .ok (.if_icmp .ne 76, 3) := by decide +kernel
theorem d9_108 : decode method_2_code 108 = .ok (.aload_n 0, 1) := by decide +kernel
theorem d9_109 : decode method_2_code 109 = .ok (.iload_n 1, 1) := by decide +kernel
theorem d9_110 : decode method_2_code 110 = .ok (.bipush 7, 2) := by decide +kernel
theorem d9_112 : decode method_2_code 112 = .ok (.iadd, 1) := by decide +kernel
theorem d9_113 : decode method_2_code 113 = .ok (.baload, 1) := by decide +kernel
theorem d9_114 : decode method_2_code 114 = .ok (.lload_n 2, 1) := by decide +kernel
theorem d9_115 : decode method_2_code 115 = .ok (.l2i, 1) := by decide +kernel
theorem d9_116 : decode method_2_code 116 = .ok (.i2b, 1) := by decide +kernel
theorem d9_117 : decode method_2_code 117 = .ok (.if_icmp .ne 64, 3) := by decide +kernel
theorem d9_120 : decode method_2_code 120 = .ok (.aload_n 0, 1) := by decide +kernel
theorem d9_121 : decode method_2_code 121 = .ok (.iload_n 1, 1) := by decide +kernel
theorem d9_122 : decode method_2_code 122 = .ok (.bipush 8, 2) := by decide +kernel
theorem d9_124 : decode method_2_code 124 = .ok (.iadd, 1) := by decide +kernel
theorem d9_125 : decode method_2_code 125 = .ok (.baload, 1) := by decide +kernel
theorem d9_126 : decode method_2_code 126 = .ok (.iload 4, 2) := by decide +kernel
theorem d9_128 : decode method_2_code 128 = .ok (.bipush 24, 2) := by decide +kernel
theorem d9_130 : decode method_2_code 130 = .ok (.iushr, 1) := by decide +kernel
theorem d9_131 : decode method_2_code 131 = .ok (.i2b, 1) := by decide +kernel
theorem d9_132 : decode method_2_code 132 = .ok (.if_icmp .ne 49, 3) := by decide +kernel
theorem d9_135 : decode method_2_code 135 = .ok (.aload_n 0, 1) := by decide +kernel
theorem d9_136 : decode method_2_code 136 = .ok (.iload_n 1, 1) := by decide +kernel
theorem d9_137 : decode method_2_code 137 = .ok (.bipush 9, 2) := by decide +kernel
theorem d9_139 : decode method_2_code 139 = .ok (.iadd, 1) := by decide +kernel
theorem d9_140 : decode method_2_code 140 = .ok (.baload, 1) := by decide +kernel
theorem d9_141 : decode method_2_code 141 = .ok (.iload 4, 2) := by decide +kernel
theorem d9_143 : decode method_2_code 143 = .ok (.bipush 16, 2) := by decide +kernel
theorem d9_145 : decode method_2_code 145 = .ok (.iushr, 1) := by decide +kernel
theorem d9_146 : decode method_2_code 146 = .ok (.i2b, 1) := by decide +kernel
theorem d9_147 : decode method_2_code 147 = .ok (.if_icmp .ne 34, 3) := by decide +kernel
theorem d9_150 : decode method_2_code 150 = .ok (.aload_n 0, 1) := by decide +kernel
theorem d9_151 : decode method_2_code 151 = .ok (.iload_n 1, 1) := by decide +kernel
theorem d9_152 : decode method_2_code 152 = .ok (.bipush 10, 2) := by decide +kernel
theorem d9_154 : decode method_2_code 154 = .ok (.iadd, 1) := by decide +kernel
theorem d9_155 : decode method_2_code 155 = .ok (.baload, 1) := by decide +kernel
theorem d9_156 : decode method_2_code 156 = .ok (.iload 4, 2) := by decide +kernel
theorem d9_158 : decode method_2_code 158 = .ok (.bipush 8, 2) := by decide +kernel
theorem d9_160 : decode method_2_code 160 = .ok (.iushr, 1) := by decide +kernel
theorem d9_161 : decode method_2_code 161 = .ok (.i2b, 1) := by decide +kernel
theorem d9_162 : decode method_2_code 162 = .ok (.if_icmp .ne 19, 3) := by decide +kernel
theorem d9_165 : decode method_2_code 165 = .ok (.aload_n 0, 1) := by decide +kernel
theorem d9_166 : decode method_2_code 166 = .ok (.iload_n 1, 1) := by decide +kernel
theorem d9_167 : decode method_2_code 167 = .ok (.bipush 11, 2) := by decide +kernel
theorem d9_169 : decode method_2_code 169 = .ok (.iadd, 1) := by decide +kernel
theorem d9_170 : decode method_2_code 170 = .ok (.baload, 1) := by decide +kernel
theorem d9_171 : decode method_2_code 171 = .ok (.iload 4, 2) := by decide +kernel
theorem d9_173 : decode method_2_code 173 = .ok (.i2b, 1) := by decide +kernel
theorem d9_174 : decode method_2_code 174 = .ok (.if_icmp .ne 7, 3) := by decide +kernel
theorem d9_177 : decode method_2_code 177 = .ok (.iconst 1, 1) := by decide +kernel
theorem d9_178 : decode method_2_code 178 = .ok (.goto 4, 3) := by decide +kernel
theorem d9_181 : decode method_2_code 181 = .ok (.iconst 0, 1) := by decide +kernel
theorem d9_182 : decode method_2_code 182 = .ok (.ireturn, 1) := by decide +kernel
theorem pn1 : plainName "com/example/isopod/isopod/RecordHeaderOfPinLaw" = true := by first | (simp [plainName, overriddenIn]; done) | decide +kernel
theorem ef9 (m : MethodId) (u0 : Addr) (p1 : Int32) (q2 : Int64) (p3 : Int32) : entryFrame m #[(.ref u0), (.int p1), (.long q2), (.int p3)] 5 = mkF m 0 #[.val (.ref u0), .val (.int p1), .val (.long q2), .second, .val (.int p3)] [] := by first | (simp [entryFrame, mkF, argsToLocals, Value.category]; done) | rfl
def f9 (n_u0 : Int32) (vs_u0 : List Int32) (p1 : Int32) (q2 : Int64) (p3 : Int32) : Int32 := (if n_u0 < (p1 + (12 : Int32)) then (0 : Int32) else (nar .boolean (if (vs_u0.getD (p1).toNatClampNeg 0) = ((((q2.toUInt64 >>> ((56 : Int32) &&& 0x3f).toInt64.toUInt64).toInt64).toInt32).toInt8.toInt32) then (if (vs_u0.getD ((p1 + (1 : Int32))).toNatClampNeg 0) = ((((q2.toUInt64 >>> ((48 : Int32) &&& 0x3f).toInt64.toUInt64).toInt64).toInt32).toInt8.toInt32) then (if (vs_u0.getD ((p1 + (2 : Int32))).toNatClampNeg 0) = ((((q2.toUInt64 >>> ((40 : Int32) &&& 0x3f).toInt64.toUInt64).toInt64).toInt32).toInt8.toInt32) then (if (vs_u0.getD ((p1 + (3 : Int32))).toNatClampNeg 0) = ((((q2.toUInt64 >>> ((32 : Int32) &&& 0x3f).toInt64.toUInt64).toInt64).toInt32).toInt8.toInt32) then (if (vs_u0.getD ((p1 + (4 : Int32))).toNatClampNeg 0) = ((((q2.toUInt64 >>> ((24 : Int32) &&& 0x3f).toInt64.toUInt64).toInt64).toInt32).toInt8.toInt32) then (if (vs_u0.getD ((p1 + (5 : Int32))).toNatClampNeg 0) = ((((q2.toUInt64 >>> ((16 : Int32) &&& 0x3f).toInt64.toUInt64).toInt64).toInt32).toInt8.toInt32) then (if (vs_u0.getD ((p1 + (6 : Int32))).toNatClampNeg 0) = ((((q2.toUInt64 >>> ((8 : Int32) &&& 0x3f).toInt64.toUInt64).toInt64).toInt32).toInt8.toInt32) then (if (vs_u0.getD ((p1 + (7 : Int32))).toNatClampNeg 0) = ((q2.toInt32).toInt8.toInt32) then (if (vs_u0.getD ((p1 + (8 : Int32))).toNatClampNeg 0) = (((p3.toUInt32 >>> ((24 : Int32) &&& 31).toUInt32).toInt32).toInt8.toInt32) then (if (vs_u0.getD ((p1 + (9 : Int32))).toNatClampNeg 0) = (((p3.toUInt32 >>> ((16 : Int32) &&& 31).toUInt32).toInt32).toInt8.toInt32) then (if (vs_u0.getD ((p1 + (10 : Int32))).toNatClampNeg 0) = (((p3.toUInt32 >>> ((8 : Int32) &&& 31).toUInt32).toInt32).toInt8.toInt32) then (if (vs_u0.getD ((p1 + (11 : Int32))).toNatClampNeg 0) = (p3.toInt8.toInt32) then (1 : Int32) else (0 : Int32)) else (0 : Int32)) else (0 : Int32)) else (0 : Int32)) else (0 : Int32)) else (0 : Int32)) else (0 : Int32)) else (0 : Int32)) else (0 : Int32)) else (0 : Int32)) else (0 : Int32)) else (0 : Int32))))
theorem own_ix9_13 (n_u0 : Int32) (vs_u0 : List Int32) (hl_u0 : vs_u0.length = n_u0.toNatClampNeg) (hn_u0 : ¬ n_u0 < 0) (p1 : Int32) (q2 : Int64) (p3 : Int32) (hB : ¬ p1 < 0 ∧ p1 < (100 : Int32)) (hc6_1 : ¬ (n_u0 < (p1 + (12 : Int32)))) : ¬ p1 < 0 ∧ p1 < n_u0 := by
  have hq : ¬ n_u0 < (p1 + 12) := hc6_1
  simp only [Int32.lt_iff_toInt_lt, Int32.reduceToInt] at hB hq hn_u0 ⊢
  have rp := rng32 p1
  have a1 := c_iadd p1 12
  have r1 := rng32 (p1 + 12)
  simp only [Int32.reduceToInt] at a1
  have e1 : (p1 + 12).toInt = p1.toInt + 12 := by omega
  clear a1 r1
  omega
theorem own_ix9_27 (n_u0 : Int32) (vs_u0 : List Int32) (hl_u0 : vs_u0.length = n_u0.toNatClampNeg) (hn_u0 : ¬ n_u0 < 0) (p1 : Int32) (q2 : Int64) (p3 : Int32) (hB : ¬ p1 < 0 ∧ p1 < (100 : Int32)) (hc6_1 : ¬ (n_u0 < (p1 + (12 : Int32)))) (hc20_2 : (vs_u0.getD (p1).toNatClampNeg 0) = ((((q2.toUInt64 >>> ((56 : Int32) &&& 0x3f).toInt64.toUInt64).toInt64).toInt32).toInt8.toInt32)) : ¬ (p1 + (1 : Int32)) < 0 ∧ (p1 + (1 : Int32)) < n_u0 := by
  have hq : ¬ n_u0 < (p1 + 12) := hc6_1
  simp only [Int32.lt_iff_toInt_lt, Int32.reduceToInt] at hB hq hn_u0 ⊢
  have rp := rng32 p1
  have a1 := c_iadd p1 12
  have r1 := rng32 (p1 + 12)
  simp only [Int32.reduceToInt] at a1
  have e1 : (p1 + 12).toInt = p1.toInt + 12 := by omega
  clear a1 r1
  have a2 := c_iadd p1 1
  have r2 := rng32 (p1 + 1)
  simp only [Int32.reduceToInt] at a2
  have e2 : (p1 + 1).toInt = p1.toInt + 1 := by omega
  clear a2 r2
  omega
theorem own_ix9_41 (n_u0 : Int32) (vs_u0 : List Int32) (hl_u0 : vs_u0.length = n_u0.toNatClampNeg) (hn_u0 : ¬ n_u0 < 0) (p1 : Int32) (q2 : Int64) (p3 : Int32) (hB : ¬ p1 < 0 ∧ p1 < (100 : Int32)) (hc6_1 : ¬ (n_u0 < (p1 + (12 : Int32)))) (hc20_2 : (vs_u0.getD (p1).toNatClampNeg 0) = ((((q2.toUInt64 >>> ((56 : Int32) &&& 0x3f).toInt64.toUInt64).toInt64).toInt32).toInt8.toInt32)) (hc34_3 : (vs_u0.getD ((p1 + (1 : Int32))).toNatClampNeg 0) = ((((q2.toUInt64 >>> ((48 : Int32) &&& 0x3f).toInt64.toUInt64).toInt64).toInt32).toInt8.toInt32)) : ¬ (p1 + (2 : Int32)) < 0 ∧ (p1 + (2 : Int32)) < n_u0 := by
  have hq : ¬ n_u0 < (p1 + 12) := hc6_1
  simp only [Int32.lt_iff_toInt_lt, Int32.reduceToInt] at hB hq hn_u0 ⊢
  have rp := rng32 p1
  have a1 := c_iadd p1 12
  have r1 := rng32 (p1 + 12)
  simp only [Int32.reduceToInt] at a1
  have e1 : (p1 + 12).toInt = p1.toInt + 12 := by omega
  clear a1 r1
  have a2 := c_iadd p1 2
  have r2 := rng32 (p1 + 2)
  simp only [Int32.reduceToInt] at a2
  have e2 : (p1 + 2).toInt = p1.toInt + 2 := by omega
  clear a2 r2
  omega
theorem own_ix9_55 (n_u0 : Int32) (vs_u0 : List Int32) (hl_u0 : vs_u0.length = n_u0.toNatClampNeg) (hn_u0 : ¬ n_u0 < 0) (p1 : Int32) (q2 : Int64) (p3 : Int32) (hB : ¬ p1 < 0 ∧ p1 < (100 : Int32)) (hc6_1 : ¬ (n_u0 < (p1 + (12 : Int32)))) (hc20_2 : (vs_u0.getD (p1).toNatClampNeg 0) = ((((q2.toUInt64 >>> ((56 : Int32) &&& 0x3f).toInt64.toUInt64).toInt64).toInt32).toInt8.toInt32)) (hc34_3 : (vs_u0.getD ((p1 + (1 : Int32))).toNatClampNeg 0) = ((((q2.toUInt64 >>> ((48 : Int32) &&& 0x3f).toInt64.toUInt64).toInt64).toInt32).toInt8.toInt32)) (hc48_4 : (vs_u0.getD ((p1 + (2 : Int32))).toNatClampNeg 0) = ((((q2.toUInt64 >>> ((40 : Int32) &&& 0x3f).toInt64.toUInt64).toInt64).toInt32).toInt8.toInt32)) : ¬ (p1 + (3 : Int32)) < 0 ∧ (p1 + (3 : Int32)) < n_u0 := by
  have hq : ¬ n_u0 < (p1 + 12) := hc6_1
  simp only [Int32.lt_iff_toInt_lt, Int32.reduceToInt] at hB hq hn_u0 ⊢
  have rp := rng32 p1
  have a1 := c_iadd p1 12
  have r1 := rng32 (p1 + 12)
  simp only [Int32.reduceToInt] at a1
  have e1 : (p1 + 12).toInt = p1.toInt + 12 := by omega
  clear a1 r1
  have a2 := c_iadd p1 3
  have r2 := rng32 (p1 + 3)
  simp only [Int32.reduceToInt] at a2
  have e2 : (p1 + 3).toInt = p1.toInt + 3 := by omega
  clear a2 r2
  omega
theorem own_ix9_69 (n_u0 : Int32) (vs_u0 : List Int32) (hl_u0 : vs_u0.length = n_u0.toNatClampNeg) (hn_u0 : ¬ n_u0 < 0) (p1 : Int32) (q2 : Int64) (p3 : Int32) (hB : ¬ p1 < 0 ∧ p1 < (100 : Int32)) (hc6_1 : ¬ (n_u0 < (p1 + (12 : Int32)))) (hc20_2 : (vs_u0.getD (p1).toNatClampNeg 0) = ((((q2.toUInt64 >>> ((56 : Int32) &&& 0x3f).toInt64.toUInt64).toInt64).toInt32).toInt8.toInt32)) (hc34_3 : (vs_u0.getD ((p1 + (1 : Int32))).toNatClampNeg 0) = ((((q2.toUInt64 >>> ((48 : Int32) &&& 0x3f).toInt64.toUInt64).toInt64).toInt32).toInt8.toInt32)) (hc48_4 : (vs_u0.getD ((p1 + (2 : Int32))).toNatClampNeg 0) = ((((q2.toUInt64 >>> ((40 : Int32) &&& 0x3f).toInt64.toUInt64).toInt64).toInt32).toInt8.toInt32)) (hc62_5 : (vs_u0.getD ((p1 + (3 : Int32))).toNatClampNeg 0) = ((((q2.toUInt64 >>> ((32 : Int32) &&& 0x3f).toInt64.toUInt64).toInt64).toInt32).toInt8.toInt32)) : ¬ (p1 + (4 : Int32)) < 0 ∧ (p1 + (4 : Int32)) < n_u0 := by
  have hq : ¬ n_u0 < (p1 + 12) := hc6_1
  simp only [Int32.lt_iff_toInt_lt, Int32.reduceToInt] at hB hq hn_u0 ⊢
  have rp := rng32 p1
  have a1 := c_iadd p1 12
  have r1 := rng32 (p1 + 12)
  simp only [Int32.reduceToInt] at a1
  have e1 : (p1 + 12).toInt = p1.toInt + 12 := by omega
  clear a1 r1
  have a2 := c_iadd p1 4
  have r2 := rng32 (p1 + 4)
  simp only [Int32.reduceToInt] at a2
  have e2 : (p1 + 4).toInt = p1.toInt + 4 := by omega
  clear a2 r2
  omega
theorem own_ix9_83 (n_u0 : Int32) (vs_u0 : List Int32) (hl_u0 : vs_u0.length = n_u0.toNatClampNeg) (hn_u0 : ¬ n_u0 < 0) (p1 : Int32) (q2 : Int64) (p3 : Int32) (hB : ¬ p1 < 0 ∧ p1 < (100 : Int32)) (hc6_1 : ¬ (n_u0 < (p1 + (12 : Int32)))) (hc20_2 : (vs_u0.getD (p1).toNatClampNeg 0) = ((((q2.toUInt64 >>> ((56 : Int32) &&& 0x3f).toInt64.toUInt64).toInt64).toInt32).toInt8.toInt32)) (hc34_3 : (vs_u0.getD ((p1 + (1 : Int32))).toNatClampNeg 0) = ((((q2.toUInt64 >>> ((48 : Int32) &&& 0x3f).toInt64.toUInt64).toInt64).toInt32).toInt8.toInt32)) (hc48_4 : (vs_u0.getD ((p1 + (2 : Int32))).toNatClampNeg 0) = ((((q2.toUInt64 >>> ((40 : Int32) &&& 0x3f).toInt64.toUInt64).toInt64).toInt32).toInt8.toInt32)) (hc62_5 : (vs_u0.getD ((p1 + (3 : Int32))).toNatClampNeg 0) = ((((q2.toUInt64 >>> ((32 : Int32) &&& 0x3f).toInt64.toUInt64).toInt64).toInt32).toInt8.toInt32)) (hc76_6 : (vs_u0.getD ((p1 + (4 : Int32))).toNatClampNeg 0) = ((((q2.toUInt64 >>> ((24 : Int32) &&& 0x3f).toInt64.toUInt64).toInt64).toInt32).toInt8.toInt32)) : ¬ (p1 + (5 : Int32)) < 0 ∧ (p1 + (5 : Int32)) < n_u0 := by
  have hq : ¬ n_u0 < (p1 + 12) := hc6_1
  simp only [Int32.lt_iff_toInt_lt, Int32.reduceToInt] at hB hq hn_u0 ⊢
  have rp := rng32 p1
  have a1 := c_iadd p1 12
  have r1 := rng32 (p1 + 12)
  simp only [Int32.reduceToInt] at a1
  have e1 : (p1 + 12).toInt = p1.toInt + 12 := by omega
  clear a1 r1
  have a2 := c_iadd p1 5
  have r2 := rng32 (p1 + 5)
  simp only [Int32.reduceToInt] at a2
  have e2 : (p1 + 5).toInt = p1.toInt + 5 := by omega
  clear a2 r2
  omega
theorem own_ix9_98 (n_u0 : Int32) (vs_u0 : List Int32) (hl_u0 : vs_u0.length = n_u0.toNatClampNeg) (hn_u0 : ¬ n_u0 < 0) (p1 : Int32) (q2 : Int64) (p3 : Int32) (hB : ¬ p1 < 0 ∧ p1 < (100 : Int32)) (hc6_1 : ¬ (n_u0 < (p1 + (12 : Int32)))) (hc20_2 : (vs_u0.getD (p1).toNatClampNeg 0) = ((((q2.toUInt64 >>> ((56 : Int32) &&& 0x3f).toInt64.toUInt64).toInt64).toInt32).toInt8.toInt32)) (hc34_3 : (vs_u0.getD ((p1 + (1 : Int32))).toNatClampNeg 0) = ((((q2.toUInt64 >>> ((48 : Int32) &&& 0x3f).toInt64.toUInt64).toInt64).toInt32).toInt8.toInt32)) (hc48_4 : (vs_u0.getD ((p1 + (2 : Int32))).toNatClampNeg 0) = ((((q2.toUInt64 >>> ((40 : Int32) &&& 0x3f).toInt64.toUInt64).toInt64).toInt32).toInt8.toInt32)) (hc62_5 : (vs_u0.getD ((p1 + (3 : Int32))).toNatClampNeg 0) = ((((q2.toUInt64 >>> ((32 : Int32) &&& 0x3f).toInt64.toUInt64).toInt64).toInt32).toInt8.toInt32)) (hc76_6 : (vs_u0.getD ((p1 + (4 : Int32))).toNatClampNeg 0) = ((((q2.toUInt64 >>> ((24 : Int32) &&& 0x3f).toInt64.toUInt64).toInt64).toInt32).toInt8.toInt32)) (hc90_7 : (vs_u0.getD ((p1 + (5 : Int32))).toNatClampNeg 0) = ((((q2.toUInt64 >>> ((16 : Int32) &&& 0x3f).toInt64.toUInt64).toInt64).toInt32).toInt8.toInt32)) : ¬ (p1 + (6 : Int32)) < 0 ∧ (p1 + (6 : Int32)) < n_u0 := by
  have hq : ¬ n_u0 < (p1 + 12) := hc6_1
  simp only [Int32.lt_iff_toInt_lt, Int32.reduceToInt] at hB hq hn_u0 ⊢
  have rp := rng32 p1
  have a1 := c_iadd p1 12
  have r1 := rng32 (p1 + 12)
  simp only [Int32.reduceToInt] at a1
  have e1 : (p1 + 12).toInt = p1.toInt + 12 := by omega
  clear a1 r1
  have a2 := c_iadd p1 6
  have r2 := rng32 (p1 + 6)
  simp only [Int32.reduceToInt] at a2
  have e2 : (p1 + 6).toInt = p1.toInt + 6 := by omega
  clear a2 r2
  omega
theorem own_ix9_113 (n_u0 : Int32) (vs_u0 : List Int32) (hl_u0 : vs_u0.length = n_u0.toNatClampNeg) (hn_u0 : ¬ n_u0 < 0) (p1 : Int32) (q2 : Int64) (p3 : Int32) (hB : ¬ p1 < 0 ∧ p1 < (100 : Int32)) (hc6_1 : ¬ (n_u0 < (p1 + (12 : Int32)))) (hc20_2 : (vs_u0.getD (p1).toNatClampNeg 0) = ((((q2.toUInt64 >>> ((56 : Int32) &&& 0x3f).toInt64.toUInt64).toInt64).toInt32).toInt8.toInt32)) (hc34_3 : (vs_u0.getD ((p1 + (1 : Int32))).toNatClampNeg 0) = ((((q2.toUInt64 >>> ((48 : Int32) &&& 0x3f).toInt64.toUInt64).toInt64).toInt32).toInt8.toInt32)) (hc48_4 : (vs_u0.getD ((p1 + (2 : Int32))).toNatClampNeg 0) = ((((q2.toUInt64 >>> ((40 : Int32) &&& 0x3f).toInt64.toUInt64).toInt64).toInt32).toInt8.toInt32)) (hc62_5 : (vs_u0.getD ((p1 + (3 : Int32))).toNatClampNeg 0) = ((((q2.toUInt64 >>> ((32 : Int32) &&& 0x3f).toInt64.toUInt64).toInt64).toInt32).toInt8.toInt32)) (hc76_6 : (vs_u0.getD ((p1 + (4 : Int32))).toNatClampNeg 0) = ((((q2.toUInt64 >>> ((24 : Int32) &&& 0x3f).toInt64.toUInt64).toInt64).toInt32).toInt8.toInt32)) (hc90_7 : (vs_u0.getD ((p1 + (5 : Int32))).toNatClampNeg 0) = ((((q2.toUInt64 >>> ((16 : Int32) &&& 0x3f).toInt64.toUInt64).toInt64).toInt32).toInt8.toInt32)) (hc105_8 : (vs_u0.getD ((p1 + (6 : Int32))).toNatClampNeg 0) = ((((q2.toUInt64 >>> ((8 : Int32) &&& 0x3f).toInt64.toUInt64).toInt64).toInt32).toInt8.toInt32)) : ¬ (p1 + (7 : Int32)) < 0 ∧ (p1 + (7 : Int32)) < n_u0 := by
  have hq : ¬ n_u0 < (p1 + 12) := hc6_1
  simp only [Int32.lt_iff_toInt_lt, Int32.reduceToInt] at hB hq hn_u0 ⊢
  have rp := rng32 p1
  have a1 := c_iadd p1 12
  have r1 := rng32 (p1 + 12)
  simp only [Int32.reduceToInt] at a1
  have e1 : (p1 + 12).toInt = p1.toInt + 12 := by omega
  clear a1 r1
  have a2 := c_iadd p1 7
  have r2 := rng32 (p1 + 7)
  simp only [Int32.reduceToInt] at a2
  have e2 : (p1 + 7).toInt = p1.toInt + 7 := by omega
  clear a2 r2
  omega
theorem own_ix9_125 (n_u0 : Int32) (vs_u0 : List Int32) (hl_u0 : vs_u0.length = n_u0.toNatClampNeg) (hn_u0 : ¬ n_u0 < 0) (p1 : Int32) (q2 : Int64) (p3 : Int32) (hB : ¬ p1 < 0 ∧ p1 < (100 : Int32)) (hc6_1 : ¬ (n_u0 < (p1 + (12 : Int32)))) (hc20_2 : (vs_u0.getD (p1).toNatClampNeg 0) = ((((q2.toUInt64 >>> ((56 : Int32) &&& 0x3f).toInt64.toUInt64).toInt64).toInt32).toInt8.toInt32)) (hc34_3 : (vs_u0.getD ((p1 + (1 : Int32))).toNatClampNeg 0) = ((((q2.toUInt64 >>> ((48 : Int32) &&& 0x3f).toInt64.toUInt64).toInt64).toInt32).toInt8.toInt32)) (hc48_4 : (vs_u0.getD ((p1 + (2 : Int32))).toNatClampNeg 0) = ((((q2.toUInt64 >>> ((40 : Int32) &&& 0x3f).toInt64.toUInt64).toInt64).toInt32).toInt8.toInt32)) (hc62_5 : (vs_u0.getD ((p1 + (3 : Int32))).toNatClampNeg 0) = ((((q2.toUInt64 >>> ((32 : Int32) &&& 0x3f).toInt64.toUInt64).toInt64).toInt32).toInt8.toInt32)) (hc76_6 : (vs_u0.getD ((p1 + (4 : Int32))).toNatClampNeg 0) = ((((q2.toUInt64 >>> ((24 : Int32) &&& 0x3f).toInt64.toUInt64).toInt64).toInt32).toInt8.toInt32)) (hc90_7 : (vs_u0.getD ((p1 + (5 : Int32))).toNatClampNeg 0) = ((((q2.toUInt64 >>> ((16 : Int32) &&& 0x3f).toInt64.toUInt64).toInt64).toInt32).toInt8.toInt32)) (hc105_8 : (vs_u0.getD ((p1 + (6 : Int32))).toNatClampNeg 0) = ((((q2.toUInt64 >>> ((8 : Int32) &&& 0x3f).toInt64.toUInt64).toInt64).toInt32).toInt8.toInt32)) (hc117_9 : (vs_u0.getD ((p1 + (7 : Int32))).toNatClampNeg 0) = ((q2.toInt32).toInt8.toInt32)) : ¬ (p1 + (8 : Int32)) < 0 ∧ (p1 + (8 : Int32)) < n_u0 := by
  have hq : ¬ n_u0 < (p1 + 12) := hc6_1
  simp only [Int32.lt_iff_toInt_lt, Int32.reduceToInt] at hB hq hn_u0 ⊢
  have rp := rng32 p1
  have a1 := c_iadd p1 12
  have r1 := rng32 (p1 + 12)
  simp only [Int32.reduceToInt] at a1
  have e1 : (p1 + 12).toInt = p1.toInt + 12 := by omega
  clear a1 r1
  have a2 := c_iadd p1 8
  have r2 := rng32 (p1 + 8)
  simp only [Int32.reduceToInt] at a2
  have e2 : (p1 + 8).toInt = p1.toInt + 8 := by omega
  clear a2 r2
  omega
theorem own_ix9_140 (n_u0 : Int32) (vs_u0 : List Int32) (hl_u0 : vs_u0.length = n_u0.toNatClampNeg) (hn_u0 : ¬ n_u0 < 0) (p1 : Int32) (q2 : Int64) (p3 : Int32) (hB : ¬ p1 < 0 ∧ p1 < (100 : Int32)) (hc6_1 : ¬ (n_u0 < (p1 + (12 : Int32)))) (hc20_2 : (vs_u0.getD (p1).toNatClampNeg 0) = ((((q2.toUInt64 >>> ((56 : Int32) &&& 0x3f).toInt64.toUInt64).toInt64).toInt32).toInt8.toInt32)) (hc34_3 : (vs_u0.getD ((p1 + (1 : Int32))).toNatClampNeg 0) = ((((q2.toUInt64 >>> ((48 : Int32) &&& 0x3f).toInt64.toUInt64).toInt64).toInt32).toInt8.toInt32)) (hc48_4 : (vs_u0.getD ((p1 + (2 : Int32))).toNatClampNeg 0) = ((((q2.toUInt64 >>> ((40 : Int32) &&& 0x3f).toInt64.toUInt64).toInt64).toInt32).toInt8.toInt32)) (hc62_5 : (vs_u0.getD ((p1 + (3 : Int32))).toNatClampNeg 0) = ((((q2.toUInt64 >>> ((32 : Int32) &&& 0x3f).toInt64.toUInt64).toInt64).toInt32).toInt8.toInt32)) (hc76_6 : (vs_u0.getD ((p1 + (4 : Int32))).toNatClampNeg 0) = ((((q2.toUInt64 >>> ((24 : Int32) &&& 0x3f).toInt64.toUInt64).toInt64).toInt32).toInt8.toInt32)) (hc90_7 : (vs_u0.getD ((p1 + (5 : Int32))).toNatClampNeg 0) = ((((q2.toUInt64 >>> ((16 : Int32) &&& 0x3f).toInt64.toUInt64).toInt64).toInt32).toInt8.toInt32)) (hc105_8 : (vs_u0.getD ((p1 + (6 : Int32))).toNatClampNeg 0) = ((((q2.toUInt64 >>> ((8 : Int32) &&& 0x3f).toInt64.toUInt64).toInt64).toInt32).toInt8.toInt32)) (hc117_9 : (vs_u0.getD ((p1 + (7 : Int32))).toNatClampNeg 0) = ((q2.toInt32).toInt8.toInt32)) (hc132_10 : (vs_u0.getD ((p1 + (8 : Int32))).toNatClampNeg 0) = (((p3.toUInt32 >>> ((24 : Int32) &&& 31).toUInt32).toInt32).toInt8.toInt32)) : ¬ (p1 + (9 : Int32)) < 0 ∧ (p1 + (9 : Int32)) < n_u0 := by
  have hq : ¬ n_u0 < (p1 + 12) := hc6_1
  simp only [Int32.lt_iff_toInt_lt, Int32.reduceToInt] at hB hq hn_u0 ⊢
  have rp := rng32 p1
  have a1 := c_iadd p1 12
  have r1 := rng32 (p1 + 12)
  simp only [Int32.reduceToInt] at a1
  have e1 : (p1 + 12).toInt = p1.toInt + 12 := by omega
  clear a1 r1
  have a2 := c_iadd p1 9
  have r2 := rng32 (p1 + 9)
  simp only [Int32.reduceToInt] at a2
  have e2 : (p1 + 9).toInt = p1.toInt + 9 := by omega
  clear a2 r2
  omega
theorem own_ix9_155 (n_u0 : Int32) (vs_u0 : List Int32) (hl_u0 : vs_u0.length = n_u0.toNatClampNeg) (hn_u0 : ¬ n_u0 < 0) (p1 : Int32) (q2 : Int64) (p3 : Int32) (hB : ¬ p1 < 0 ∧ p1 < (100 : Int32)) (hc6_1 : ¬ (n_u0 < (p1 + (12 : Int32)))) (hc20_2 : (vs_u0.getD (p1).toNatClampNeg 0) = ((((q2.toUInt64 >>> ((56 : Int32) &&& 0x3f).toInt64.toUInt64).toInt64).toInt32).toInt8.toInt32)) (hc34_3 : (vs_u0.getD ((p1 + (1 : Int32))).toNatClampNeg 0) = ((((q2.toUInt64 >>> ((48 : Int32) &&& 0x3f).toInt64.toUInt64).toInt64).toInt32).toInt8.toInt32)) (hc48_4 : (vs_u0.getD ((p1 + (2 : Int32))).toNatClampNeg 0) = ((((q2.toUInt64 >>> ((40 : Int32) &&& 0x3f).toInt64.toUInt64).toInt64).toInt32).toInt8.toInt32)) (hc62_5 : (vs_u0.getD ((p1 + (3 : Int32))).toNatClampNeg 0) = ((((q2.toUInt64 >>> ((32 : Int32) &&& 0x3f).toInt64.toUInt64).toInt64).toInt32).toInt8.toInt32)) (hc76_6 : (vs_u0.getD ((p1 + (4 : Int32))).toNatClampNeg 0) = ((((q2.toUInt64 >>> ((24 : Int32) &&& 0x3f).toInt64.toUInt64).toInt64).toInt32).toInt8.toInt32)) (hc90_7 : (vs_u0.getD ((p1 + (5 : Int32))).toNatClampNeg 0) = ((((q2.toUInt64 >>> ((16 : Int32) &&& 0x3f).toInt64.toUInt64).toInt64).toInt32).toInt8.toInt32)) (hc105_8 : (vs_u0.getD ((p1 + (6 : Int32))).toNatClampNeg 0) = ((((q2.toUInt64 >>> ((8 : Int32) &&& 0x3f).toInt64.toUInt64).toInt64).toInt32).toInt8.toInt32)) (hc117_9 : (vs_u0.getD ((p1 + (7 : Int32))).toNatClampNeg 0) = ((q2.toInt32).toInt8.toInt32)) (hc132_10 : (vs_u0.getD ((p1 + (8 : Int32))).toNatClampNeg 0) = (((p3.toUInt32 >>> ((24 : Int32) &&& 31).toUInt32).toInt32).toInt8.toInt32)) (hc147_11 : (vs_u0.getD ((p1 + (9 : Int32))).toNatClampNeg 0) = (((p3.toUInt32 >>> ((16 : Int32) &&& 31).toUInt32).toInt32).toInt8.toInt32)) : ¬ (p1 + (10 : Int32)) < 0 ∧ (p1 + (10 : Int32)) < n_u0 := by
  have hq : ¬ n_u0 < (p1 + 12) := hc6_1
  simp only [Int32.lt_iff_toInt_lt, Int32.reduceToInt] at hB hq hn_u0 ⊢
  have rp := rng32 p1
  have a1 := c_iadd p1 12
  have r1 := rng32 (p1 + 12)
  simp only [Int32.reduceToInt] at a1
  have e1 : (p1 + 12).toInt = p1.toInt + 12 := by omega
  clear a1 r1
  have a2 := c_iadd p1 10
  have r2 := rng32 (p1 + 10)
  simp only [Int32.reduceToInt] at a2
  have e2 : (p1 + 10).toInt = p1.toInt + 10 := by omega
  clear a2 r2
  omega
theorem own_ix9_170 (n_u0 : Int32) (vs_u0 : List Int32) (hl_u0 : vs_u0.length = n_u0.toNatClampNeg) (hn_u0 : ¬ n_u0 < 0) (p1 : Int32) (q2 : Int64) (p3 : Int32) (hB : ¬ p1 < 0 ∧ p1 < (100 : Int32)) (hc6_1 : ¬ (n_u0 < (p1 + (12 : Int32)))) (hc20_2 : (vs_u0.getD (p1).toNatClampNeg 0) = ((((q2.toUInt64 >>> ((56 : Int32) &&& 0x3f).toInt64.toUInt64).toInt64).toInt32).toInt8.toInt32)) (hc34_3 : (vs_u0.getD ((p1 + (1 : Int32))).toNatClampNeg 0) = ((((q2.toUInt64 >>> ((48 : Int32) &&& 0x3f).toInt64.toUInt64).toInt64).toInt32).toInt8.toInt32)) (hc48_4 : (vs_u0.getD ((p1 + (2 : Int32))).toNatClampNeg 0) = ((((q2.toUInt64 >>> ((40 : Int32) &&& 0x3f).toInt64.toUInt64).toInt64).toInt32).toInt8.toInt32)) (hc62_5 : (vs_u0.getD ((p1 + (3 : Int32))).toNatClampNeg 0) = ((((q2.toUInt64 >>> ((32 : Int32) &&& 0x3f).toInt64.toUInt64).toInt64).toInt32).toInt8.toInt32)) (hc76_6 : (vs_u0.getD ((p1 + (4 : Int32))).toNatClampNeg 0) = ((((q2.toUInt64 >>> ((24 : Int32) &&& 0x3f).toInt64.toUInt64).toInt64).toInt32).toInt8.toInt32)) (hc90_7 : (vs_u0.getD ((p1 + (5 : Int32))).toNatClampNeg 0) = ((((q2.toUInt64 >>> ((16 : Int32) &&& 0x3f).toInt64.toUInt64).toInt64).toInt32).toInt8.toInt32)) (hc105_8 : (vs_u0.getD ((p1 + (6 : Int32))).toNatClampNeg 0) = ((((q2.toUInt64 >>> ((8 : Int32) &&& 0x3f).toInt64.toUInt64).toInt64).toInt32).toInt8.toInt32)) (hc117_9 : (vs_u0.getD ((p1 + (7 : Int32))).toNatClampNeg 0) = ((q2.toInt32).toInt8.toInt32)) (hc132_10 : (vs_u0.getD ((p1 + (8 : Int32))).toNatClampNeg 0) = (((p3.toUInt32 >>> ((24 : Int32) &&& 31).toUInt32).toInt32).toInt8.toInt32)) (hc147_11 : (vs_u0.getD ((p1 + (9 : Int32))).toNatClampNeg 0) = (((p3.toUInt32 >>> ((16 : Int32) &&& 31).toUInt32).toInt32).toInt8.toInt32)) (hc162_12 : (vs_u0.getD ((p1 + (10 : Int32))).toNatClampNeg 0) = (((p3.toUInt32 >>> ((8 : Int32) &&& 31).toUInt32).toInt32).toInt8.toInt32)) : ¬ (p1 + (11 : Int32)) < 0 ∧ (p1 + (11 : Int32)) < n_u0 := by
  have hq : ¬ n_u0 < (p1 + 12) := hc6_1
  simp only [Int32.lt_iff_toInt_lt, Int32.reduceToInt] at hB hq hn_u0 ⊢
  have rp := rng32 p1
  have a1 := c_iadd p1 12
  have r1 := rng32 (p1 + 12)
  simp only [Int32.reduceToInt] at a1
  have e1 : (p1 + 12).toInt = p1.toInt + 12 := by omega
  clear a1 r1
  have a2 := c_iadd p1 11
  have r2 := rng32 (p1 + 11)
  simp only [Int32.reduceToInt] at a2
  have e2 : (p1 + 11).toInt = p1.toInt + 11 := by omega
  clear a2 r2
  omega
def Q9 (Z : State) (u0 : Addr) (p1 : Int32) (q2 : Int64) (p3 : Int32) (k_u0 : ClassId) (n_u0 : Int32) (vs_u0 : List Int32) (h0 : Heap) (n0 : Nat) (v : Option Value) (h : Heap) (L : List Loc) : Prop := v = some (.int (f9 n_u0 vs_u0 p1 q2 p3)) ∧ Fr n0 L ∧ h = h0
set_option maxRecDepth 65536 in
set_option maxHeartbeats 40000000 in
theorem rm9 (l : Launch) (Z : State) (a0 : Array Value) (hw : ∀ d ∈ tables_1, d.before a0 Z = true) (ws : List Jvm.Cond) (u0 : Addr) (p1 : Int32) (q2 : Int64) (p3 : Int32) (k_u0 : ClassId) (n_u0 : Int32) (vs_u0 : List Int32) (h0 : Heap) (n0 : Nat) (Z0 : n0 ≤ h0.size) (V_u0 : AI Z h0 u0 k_u0 .byte n_u0 vs_u0) (hk_u0 : Z.vm.findClass "[B" = some k_u0) (hB : ¬ p1 < 0 ∧ p1 < (100 : Int32)) :
    MetFree l (⟨"com/example/isopod/isopod/RecordHeaderOfPinLaw", "nonceAt", "([BIJI)Z"⟩ : MethodName) (head1 (Jvm.Cond.code (⟨"com/example/isopod/isopod/RecordHeaderOfPinLaw", "nonceAt", "([BIJI)Z"⟩ : MethodName) method_2_code 5 (some .boolean) :: ws) ({ frames := 0, cells := 0, slots := 0, locals := 0 } : Room)) (fun a U => a = #[(.ref u0), (.int p1), (.long q2), (.int p3)] ∧ Z.Warmed39 U.vm ∧ U.heap = h0) (fun _ _ _ _ _ => True) (fun _ U o U' => ∃ v L, o = .returned v ∧ Q9 Z u0 p1 q2 p3 k_u0 n_u0 vs_u0 h0 n0 v U'.heap L ∧ FrameEnd U o U' L ({ frames := 0, cells := 0, slots := 0, locals := 0 } : Room).cells ({ frames := 0, cells := 0, slots := 0, locals := 0 } : Room).slots) := by
  refine MetFree.of_bodySF (plainFor_of_name pn1) hisR ?_
  intro p e s m args below meth c s₁ Bd hml0 hP hK
  obtain ⟨rfl, hZ, hh⟩ := hP
  have hx := Bd.exec
  have hby := Bd.bytes
  have hml : c.maxLocals = 5 := hml0
  have hown : s.vm.findClass "com/example/isopod/isopod/RecordHeaderOfPinLaw" = some m.cls := findClass_of_methodNamed Bd.named
  have hnm := (name_of_methodNamed Bd.named Bd.method).1
  have X0 : Stand p l e ({ frames := 0, cells := 0, slots := 0, locals := 0 } : Room) s m #[(.ref u0), (.int p1), (.long q2), (.int p3)] below meth c s₁ [] 0 0 := Stand.of_body Bd
  have e0 : s₁.heap = h0 := by rw [← hh, Bd.state]; rfl
  have N0 := Fr.nil n0
  have hl_u0 : vs_u0.length = n_u0.toNatClampNeg := V_u0.2
  have hn_u0 : ¬ n_u0 < 0 := V_u0.nn
  refine Goes.out (Q := fun o U' => ∃ v L, o = .returned v ∧ Q9 Z u0 p1 q2 p3 k_u0 n_u0 vs_u0 h0 n0 v U'.heap L ∧ FrameEnd s o U' L ({ frames := 0, cells := 0, slots := 0, locals := 0 } : Room).cells ({ frames := 0, cells := 0, slots := 0, locals := 0 } : Room).slots) ?_
  refine Goes.step (S' := s₁.setTop (mkF m 0 #[.val (.ref u0), .val (.int p1), .val (.long q2), .second, .val (.int p3)] [])) (fun _ k => castTop (ef9 m u0 p1 q2 p3) k) ?_
  refine Goes.step (S' := s₁.setTop (mkF m 1 #[.val (.ref u0), .val (.int p1), .val (.long q2), .second, .val (.int p3)] [(.ref u0)])) (fun _ k => XS.aloadN X0.here hx rfl (hb hby d9_0) rfl rfl k) ?_
  refine Goes.step (S' := s₁.setTop (mkF m 2 #[.val (.ref u0), .val (.int p1), .val (.long q2), .second, .val (.int p3)] [(.int n_u0)])) (fun _ k => own_len X0 hx hZ e0 V_u0 (hb hby d9_1) _ k) ?_
  refine Goes.step (S' := s₁.setTop (mkF m 3 #[.val (.ref u0), .val (.int p1), .val (.long q2), .second, .val (.int p3)] [(.int p1), (.int n_u0)])) (fun _ k => XS.iloadN X0.here hx rfl (hb hby d9_2) rfl  k) ?_
  refine Goes.step (S' := s₁.setTop (mkF m 5 #[.val (.ref u0), .val (.int p1), .val (.long q2), .second, .val (.int p3)] [(.int (12 : Int32)), (.int p1), (.int n_u0)])) (fun _ k => XS.bipush X0.here hx rfl (hb hby d9_3) k) ?_
  refine Goes.step (S' := s₁.setTop (mkF m 6 #[.val (.ref u0), .val (.int p1), .val (.long q2), .second, .val (.int p3)] [(.int (p1 + (12 : Int32))), (.int n_u0)])) (fun _ k => XS.iadd X0.here hx rfl (hb hby d9_5) rfl k) ?_
  by_cases hc6_1 : n_u0 < (p1 + (12 : Int32))
  · refine Goes.step (S' := s₁.setTop (mkF m 9 #[.val (.ref u0), .val (.int p1), .val (.long q2), .second, .val (.int p3)] [])) (fun _ k => XS.icmpNo X0.here hx rfl (hb hby d9_6) rfl (tlt hc6_1).2.1 k) ?_
    refine Goes.step (S' := s₁.setTop (mkF m 10 #[.val (.ref u0), .val (.int p1), .val (.long q2), .second, .val (.int p3)] [(.int (0 : Int32))])) (fun _ k => XS.iconst X0.here hx rfl (hb hby d9_9) k) ?_
    refine Goes.retN X0 hx Bd.notSynchronized (t := .boolean) Bd.returns (by simp) (hb hby d9_10) (by decide) (by decide) ?_
    refine ⟨congrArg (fun z => some (Value.int z)) ?_, N0, e0⟩
    rw [f9, if_pos hc6_1]
    try rfl
  · refine Goes.step (S' := s₁.setTop (mkF m 11 #[.val (.ref u0), .val (.int p1), .val (.long q2), .second, .val (.int p3)] [])) (fun _ k => XS.icmpYes X0.here hx rfl (pc0 := 6) (pc' := 11) rfl (hb hby d9_6) rfl (flt hc6_1).2.1 (by decide) (by decide) k) ?_
    refine Goes.step (S' := s₁.setTop (mkF m 12 #[.val (.ref u0), .val (.int p1), .val (.long q2), .second, .val (.int p3)] [(.ref u0)])) (fun _ k => XS.aloadN X0.here hx rfl (hb hby d9_11) rfl rfl k) ?_
    refine Goes.step (S' := s₁.setTop (mkF m 13 #[.val (.ref u0), .val (.int p1), .val (.long q2), .second, .val (.int p3)] [(.int p1), (.ref u0)])) (fun _ k => XS.iloadN X0.here hx rfl (hb hby d9_12) rfl  k) ?_
    refine Goes.step (S' := s₁.setTop (mkF m 14 #[.val (.ref u0), .val (.int p1), .val (.long q2), .second, .val (.int p3)] [(.int (vs_u0.getD (p1).toNatClampNeg 0))])) (fun _ k => own_baload X0 hx hZ e0 V_u0 (own_ix9_13 n_u0 vs_u0 hl_u0 hn_u0 p1 q2 p3 hB hc6_1) (hb hby d9_13) _ k) ?_
    refine Goes.step (S' := s₁.setTop (mkF m 15 #[.val (.ref u0), .val (.int p1), .val (.long q2), .second, .val (.int p3)] [(.long q2), (.int (vs_u0.getD (p1).toNatClampNeg 0))])) (fun _ k => XS.lloadN X0.here hx rfl (hb hby d9_14) rfl  k) ?_
    refine Goes.step (S' := s₁.setTop (mkF m 17 #[.val (.ref u0), .val (.int p1), .val (.long q2), .second, .val (.int p3)] [(.int (56 : Int32)), (.long q2), (.int (vs_u0.getD (p1).toNatClampNeg 0))])) (fun _ k => XS.bipush X0.here hx rfl (hb hby d9_15) k) ?_
    refine Goes.step (S' := s₁.setTop (mkF m 18 #[.val (.ref u0), .val (.int p1), .val (.long q2), .second, .val (.int p3)] [(.long ((q2.toUInt64 >>> ((56 : Int32) &&& 0x3f).toInt64.toUInt64).toInt64)), (.int (vs_u0.getD (p1).toNatClampNeg 0))])) (fun _ k => XS.lushr X0.here hx rfl (hb hby d9_17) rfl k) ?_
    refine Goes.step (S' := s₁.setTop (mkF m 19 #[.val (.ref u0), .val (.int p1), .val (.long q2), .second, .val (.int p3)] [(.int (((q2.toUInt64 >>> ((56 : Int32) &&& 0x3f).toInt64.toUInt64).toInt64).toInt32)), (.int (vs_u0.getD (p1).toNatClampNeg 0))])) (fun _ k => XS.l2i X0.here hx rfl (hb hby d9_18) rfl k) ?_
    refine Goes.step (S' := s₁.setTop (mkF m 20 #[.val (.ref u0), .val (.int p1), .val (.long q2), .second, .val (.int p3)] [(.int ((((q2.toUInt64 >>> ((56 : Int32) &&& 0x3f).toInt64.toUInt64).toInt64).toInt32).toInt8.toInt32)), (.int (vs_u0.getD (p1).toNatClampNeg 0))])) (fun _ k => XS.i2b X0.here hx rfl (hb hby d9_19) rfl k) ?_
    refine Goes.step (own_ite1 (T := s₁) (c := (vs_u0.getD (p1).toNatClampNeg 0) = ((((q2.toUInt64 >>> ((56 : Int32) &&& 0x3f).toInt64.toUInt64).toInt64).toInt32).toInt8.toInt32)) (a0 := (if (vs_u0.getD ((p1 + (1 : Int32))).toNatClampNeg 0) = ((((q2.toUInt64 >>> ((48 : Int32) &&& 0x3f).toInt64.toUInt64).toInt64).toInt32).toInt8.toInt32) then (if (vs_u0.getD ((p1 + (2 : Int32))).toNatClampNeg 0) = ((((q2.toUInt64 >>> ((40 : Int32) &&& 0x3f).toInt64.toUInt64).toInt64).toInt32).toInt8.toInt32) then (if (vs_u0.getD ((p1 + (3 : Int32))).toNatClampNeg 0) = ((((q2.toUInt64 >>> ((32 : Int32) &&& 0x3f).toInt64.toUInt64).toInt64).toInt32).toInt8.toInt32) then (if (vs_u0.getD ((p1 + (4 : Int32))).toNatClampNeg 0) = ((((q2.toUInt64 >>> ((24 : Int32) &&& 0x3f).toInt64.toUInt64).toInt64).toInt32).toInt8.toInt32) then (if (vs_u0.getD ((p1 + (5 : Int32))).toNatClampNeg 0) = ((((q2.toUInt64 >>> ((16 : Int32) &&& 0x3f).toInt64.toUInt64).toInt64).toInt32).toInt8.toInt32) then (if (vs_u0.getD ((p1 + (6 : Int32))).toNatClampNeg 0) = ((((q2.toUInt64 >>> ((8 : Int32) &&& 0x3f).toInt64.toUInt64).toInt64).toInt32).toInt8.toInt32) then (if (vs_u0.getD ((p1 + (7 : Int32))).toNatClampNeg 0) = ((q2.toInt32).toInt8.toInt32) then (if (vs_u0.getD ((p1 + (8 : Int32))).toNatClampNeg 0) = (((p3.toUInt32 >>> ((24 : Int32) &&& 31).toUInt32).toInt32).toInt8.toInt32) then (if (vs_u0.getD ((p1 + (9 : Int32))).toNatClampNeg 0) = (((p3.toUInt32 >>> ((16 : Int32) &&& 31).toUInt32).toInt32).toInt8.toInt32) then (if (vs_u0.getD ((p1 + (10 : Int32))).toNatClampNeg 0) = (((p3.toUInt32 >>> ((8 : Int32) &&& 31).toUInt32).toInt32).toInt8.toInt32) then (if (vs_u0.getD ((p1 + (11 : Int32))).toNatClampNeg 0) = (p3.toInt8.toInt32) then (1 : Int32) else (0 : Int32)) else (0 : Int32)) else (0 : Int32)) else (0 : Int32)) else (0 : Int32)) else (0 : Int32)) else (0 : Int32)) else (0 : Int32)) else (0 : Int32)) else (0 : Int32)) else (0 : Int32))) (b0 := (0 : Int32)) (F := fun z13_0 => (mkF m 182 #[.val (.ref u0), .val (.int p1), .val (.long q2), .second, .val (.int p3)] [(.int z13_0)])) ?_ ?_) ?_
    · intro hc20_2 t k
      refine XS.icmpNo X0.here hx rfl (hb hby d9_20) rfl (teq hc20_2).2 ?_
      show Steps p.tables e below (s₁.setTop (mkF m 23 #[.val (.ref u0), .val (.int p1), .val (.long q2), .second, .val (.int p3)] [])) _
      refine XS.aloadN X0.here hx rfl (hb hby d9_23) rfl rfl ?_
      show Steps p.tables e below (s₁.setTop (mkF m 24 #[.val (.ref u0), .val (.int p1), .val (.long q2), .second, .val (.int p3)] [(.ref u0)])) _
      refine XS.iloadN X0.here hx rfl (hb hby d9_24) rfl  ?_
      show Steps p.tables e below (s₁.setTop (mkF m 25 #[.val (.ref u0), .val (.int p1), .val (.long q2), .second, .val (.int p3)] [(.int p1), (.ref u0)])) _
      refine XS.iconst X0.here hx rfl (hb hby d9_25) ?_
      show Steps p.tables e below (s₁.setTop (mkF m 26 #[.val (.ref u0), .val (.int p1), .val (.long q2), .second, .val (.int p3)] [(.int (1 : Int32)), (.int p1), (.ref u0)])) _
      refine XS.iadd X0.here hx rfl (hb hby d9_26) rfl ?_
      show Steps p.tables e below (s₁.setTop (mkF m 27 #[.val (.ref u0), .val (.int p1), .val (.long q2), .second, .val (.int p3)] [(.int (p1 + (1 : Int32))), (.ref u0)])) _
      refine own_baload X0 hx hZ e0 V_u0 (own_ix9_27 n_u0 vs_u0 hl_u0 hn_u0 p1 q2 p3 hB hc6_1 hc20_2) (hb hby d9_27) _ ?_
      show Steps p.tables e below (s₁.setTop (mkF m 28 #[.val (.ref u0), .val (.int p1), .val (.long q2), .second, .val (.int p3)] [(.int (vs_u0.getD ((p1 + (1 : Int32))).toNatClampNeg 0))])) _
      refine XS.lloadN X0.here hx rfl (hb hby d9_28) rfl  ?_
      show Steps p.tables e below (s₁.setTop (mkF m 29 #[.val (.ref u0), .val (.int p1), .val (.long q2), .second, .val (.int p3)] [(.long q2), (.int (vs_u0.getD ((p1 + (1 : Int32))).toNatClampNeg 0))])) _
      refine XS.bipush X0.here hx rfl (hb hby d9_29) ?_
      show Steps p.tables e below (s₁.setTop (mkF m 31 #[.val (.ref u0), .val (.int p1), .val (.long q2), .second, .val (.int p3)] [(.int (48 : Int32)), (.long q2), (.int (vs_u0.getD ((p1 + (1 : Int32))).toNatClampNeg 0))])) _
      refine XS.lushr X0.here hx rfl (hb hby d9_31) rfl ?_
      show Steps p.tables e below (s₁.setTop (mkF m 32 #[.val (.ref u0), .val (.int p1), .val (.long q2), .second, .val (.int p3)] [(.long ((q2.toUInt64 >>> ((48 : Int32) &&& 0x3f).toInt64.toUInt64).toInt64)), (.int (vs_u0.getD ((p1 + (1 : Int32))).toNatClampNeg 0))])) _
      refine XS.l2i X0.here hx rfl (hb hby d9_32) rfl ?_
      show Steps p.tables e below (s₁.setTop (mkF m 33 #[.val (.ref u0), .val (.int p1), .val (.long q2), .second, .val (.int p3)] [(.int (((q2.toUInt64 >>> ((48 : Int32) &&& 0x3f).toInt64.toUInt64).toInt64).toInt32)), (.int (vs_u0.getD ((p1 + (1 : Int32))).toNatClampNeg 0))])) _
      refine XS.i2b X0.here hx rfl (hb hby d9_33) rfl ?_
      show Steps p.tables e below (s₁.setTop (mkF m 34 #[.val (.ref u0), .val (.int p1), .val (.long q2), .second, .val (.int p3)] [(.int ((((q2.toUInt64 >>> ((48 : Int32) &&& 0x3f).toInt64.toUInt64).toInt64).toInt32).toInt8.toInt32)), (.int (vs_u0.getD ((p1 + (1 : Int32))).toNatClampNeg 0))])) _
      refine own_ite1 (T := s₁) (c := (vs_u0.getD ((p1 + (1 : Int32))).toNatClampNeg 0) = ((((q2.toUInt64 >>> ((48 : Int32) &&& 0x3f).toInt64.toUInt64).toInt64).toInt32).toInt8.toInt32)) (a0 := (if (vs_u0.getD ((p1 + (2 : Int32))).toNatClampNeg 0) = ((((q2.toUInt64 >>> ((40 : Int32) &&& 0x3f).toInt64.toUInt64).toInt64).toInt32).toInt8.toInt32) then (if (vs_u0.getD ((p1 + (3 : Int32))).toNatClampNeg 0) = ((((q2.toUInt64 >>> ((32 : Int32) &&& 0x3f).toInt64.toUInt64).toInt64).toInt32).toInt8.toInt32) then (if (vs_u0.getD ((p1 + (4 : Int32))).toNatClampNeg 0) = ((((q2.toUInt64 >>> ((24 : Int32) &&& 0x3f).toInt64.toUInt64).toInt64).toInt32).toInt8.toInt32) then (if (vs_u0.getD ((p1 + (5 : Int32))).toNatClampNeg 0) = ((((q2.toUInt64 >>> ((16 : Int32) &&& 0x3f).toInt64.toUInt64).toInt64).toInt32).toInt8.toInt32) then (if (vs_u0.getD ((p1 + (6 : Int32))).toNatClampNeg 0) = ((((q2.toUInt64 >>> ((8 : Int32) &&& 0x3f).toInt64.toUInt64).toInt64).toInt32).toInt8.toInt32) then (if (vs_u0.getD ((p1 + (7 : Int32))).toNatClampNeg 0) = ((q2.toInt32).toInt8.toInt32) then (if (vs_u0.getD ((p1 + (8 : Int32))).toNatClampNeg 0) = (((p3.toUInt32 >>> ((24 : Int32) &&& 31).toUInt32).toInt32).toInt8.toInt32) then (if (vs_u0.getD ((p1 + (9 : Int32))).toNatClampNeg 0) = (((p3.toUInt32 >>> ((16 : Int32) &&& 31).toUInt32).toInt32).toInt8.toInt32) then (if (vs_u0.getD ((p1 + (10 : Int32))).toNatClampNeg 0) = (((p3.toUInt32 >>> ((8 : Int32) &&& 31).toUInt32).toInt32).toInt8.toInt32) then (if (vs_u0.getD ((p1 + (11 : Int32))).toNatClampNeg 0) = (p3.toInt8.toInt32) then (1 : Int32) else (0 : Int32)) else (0 : Int32)) else (0 : Int32)) else (0 : Int32)) else (0 : Int32)) else (0 : Int32)) else (0 : Int32)) else (0 : Int32)) else (0 : Int32)) else (0 : Int32))) (b0 := (0 : Int32)) (F := fun z13_0 => (mkF m 182 #[.val (.ref u0), .val (.int p1), .val (.long q2), .second, .val (.int p3)] [(.int z13_0)])) ?_ ?_ _ ?_
      · intro hc34_3 t k
        refine XS.icmpNo X0.here hx rfl (hb hby d9_34) rfl (teq hc34_3).2 ?_
        show Steps p.tables e below (s₁.setTop (mkF m 37 #[.val (.ref u0), .val (.int p1), .val (.long q2), .second, .val (.int p3)] [])) _
        refine XS.aloadN X0.here hx rfl (hb hby d9_37) rfl rfl ?_
        show Steps p.tables e below (s₁.setTop (mkF m 38 #[.val (.ref u0), .val (.int p1), .val (.long q2), .second, .val (.int p3)] [(.ref u0)])) _
        refine XS.iloadN X0.here hx rfl (hb hby d9_38) rfl  ?_
        show Steps p.tables e below (s₁.setTop (mkF m 39 #[.val (.ref u0), .val (.int p1), .val (.long q2), .second, .val (.int p3)] [(.int p1), (.ref u0)])) _
        refine XS.iconst X0.here hx rfl (hb hby d9_39) ?_
        show Steps p.tables e below (s₁.setTop (mkF m 40 #[.val (.ref u0), .val (.int p1), .val (.long q2), .second, .val (.int p3)] [(.int (2 : Int32)), (.int p1), (.ref u0)])) _
        refine XS.iadd X0.here hx rfl (hb hby d9_40) rfl ?_
        show Steps p.tables e below (s₁.setTop (mkF m 41 #[.val (.ref u0), .val (.int p1), .val (.long q2), .second, .val (.int p3)] [(.int (p1 + (2 : Int32))), (.ref u0)])) _
        refine own_baload X0 hx hZ e0 V_u0 (own_ix9_41 n_u0 vs_u0 hl_u0 hn_u0 p1 q2 p3 hB hc6_1 hc20_2 hc34_3) (hb hby d9_41) _ ?_
        show Steps p.tables e below (s₁.setTop (mkF m 42 #[.val (.ref u0), .val (.int p1), .val (.long q2), .second, .val (.int p3)] [(.int (vs_u0.getD ((p1 + (2 : Int32))).toNatClampNeg 0))])) _
        refine XS.lloadN X0.here hx rfl (hb hby d9_42) rfl  ?_
        show Steps p.tables e below (s₁.setTop (mkF m 43 #[.val (.ref u0), .val (.int p1), .val (.long q2), .second, .val (.int p3)] [(.long q2), (.int (vs_u0.getD ((p1 + (2 : Int32))).toNatClampNeg 0))])) _
        refine XS.bipush X0.here hx rfl (hb hby d9_43) ?_
        show Steps p.tables e below (s₁.setTop (mkF m 45 #[.val (.ref u0), .val (.int p1), .val (.long q2), .second, .val (.int p3)] [(.int (40 : Int32)), (.long q2), (.int (vs_u0.getD ((p1 + (2 : Int32))).toNatClampNeg 0))])) _
        refine XS.lushr X0.here hx rfl (hb hby d9_45) rfl ?_
        show Steps p.tables e below (s₁.setTop (mkF m 46 #[.val (.ref u0), .val (.int p1), .val (.long q2), .second, .val (.int p3)] [(.long ((q2.toUInt64 >>> ((40 : Int32) &&& 0x3f).toInt64.toUInt64).toInt64)), (.int (vs_u0.getD ((p1 + (2 : Int32))).toNatClampNeg 0))])) _
        refine XS.l2i X0.here hx rfl (hb hby d9_46) rfl ?_
        show Steps p.tables e below (s₁.setTop (mkF m 47 #[.val (.ref u0), .val (.int p1), .val (.long q2), .second, .val (.int p3)] [(.int (((q2.toUInt64 >>> ((40 : Int32) &&& 0x3f).toInt64.toUInt64).toInt64).toInt32)), (.int (vs_u0.getD ((p1 + (2 : Int32))).toNatClampNeg 0))])) _
        refine XS.i2b X0.here hx rfl (hb hby d9_47) rfl ?_
        show Steps p.tables e below (s₁.setTop (mkF m 48 #[.val (.ref u0), .val (.int p1), .val (.long q2), .second, .val (.int p3)] [(.int ((((q2.toUInt64 >>> ((40 : Int32) &&& 0x3f).toInt64.toUInt64).toInt64).toInt32).toInt8.toInt32)), (.int (vs_u0.getD ((p1 + (2 : Int32))).toNatClampNeg 0))])) _
        refine own_ite1 (T := s₁) (c := (vs_u0.getD ((p1 + (2 : Int32))).toNatClampNeg 0) = ((((q2.toUInt64 >>> ((40 : Int32) &&& 0x3f).toInt64.toUInt64).toInt64).toInt32).toInt8.toInt32)) (a0 := (if (vs_u0.getD ((p1 + (3 : Int32))).toNatClampNeg 0) = ((((q2.toUInt64 >>> ((32 : Int32) &&& 0x3f).toInt64.toUInt64).toInt64).toInt32).toInt8.toInt32) then (if (vs_u0.getD ((p1 + (4 : Int32))).toNatClampNeg 0) = ((((q2.toUInt64 >>> ((24 : Int32) &&& 0x3f).toInt64.toUInt64).toInt64).toInt32).toInt8.toInt32) then (if (vs_u0.getD ((p1 + (5 : Int32))).toNatClampNeg 0) = ((((q2.toUInt64 >>> ((16 : Int32) &&& 0x3f).toInt64.toUInt64).toInt64).toInt32).toInt8.toInt32) then (if (vs_u0.getD ((p1 + (6 : Int32))).toNatClampNeg 0) = ((((q2.toUInt64 >>> ((8 : Int32) &&& 0x3f).toInt64.toUInt64).toInt64).toInt32).toInt8.toInt32) then (if (vs_u0.getD ((p1 + (7 : Int32))).toNatClampNeg 0) = ((q2.toInt32).toInt8.toInt32) then (if (vs_u0.getD ((p1 + (8 : Int32))).toNatClampNeg 0) = (((p3.toUInt32 >>> ((24 : Int32) &&& 31).toUInt32).toInt32).toInt8.toInt32) then (if (vs_u0.getD ((p1 + (9 : Int32))).toNatClampNeg 0) = (((p3.toUInt32 >>> ((16 : Int32) &&& 31).toUInt32).toInt32).toInt8.toInt32) then (if (vs_u0.getD ((p1 + (10 : Int32))).toNatClampNeg 0) = (((p3.toUInt32 >>> ((8 : Int32) &&& 31).toUInt32).toInt32).toInt8.toInt32) then (if (vs_u0.getD ((p1 + (11 : Int32))).toNatClampNeg 0) = (p3.toInt8.toInt32) then (1 : Int32) else (0 : Int32)) else (0 : Int32)) else (0 : Int32)) else (0 : Int32)) else (0 : Int32)) else (0 : Int32)) else (0 : Int32)) else (0 : Int32)) else (0 : Int32))) (b0 := (0 : Int32)) (F := fun z13_0 => (mkF m 182 #[.val (.ref u0), .val (.int p1), .val (.long q2), .second, .val (.int p3)] [(.int z13_0)])) ?_ ?_ _ ?_
        · intro hc48_4 t k
          refine XS.icmpNo X0.here hx rfl (hb hby d9_48) rfl (teq hc48_4).2 ?_
          show Steps p.tables e below (s₁.setTop (mkF m 51 #[.val (.ref u0), .val (.int p1), .val (.long q2), .second, .val (.int p3)] [])) _
          refine XS.aloadN X0.here hx rfl (hb hby d9_51) rfl rfl ?_
          show Steps p.tables e below (s₁.setTop (mkF m 52 #[.val (.ref u0), .val (.int p1), .val (.long q2), .second, .val (.int p3)] [(.ref u0)])) _
          refine XS.iloadN X0.here hx rfl (hb hby d9_52) rfl  ?_
          show Steps p.tables e below (s₁.setTop (mkF m 53 #[.val (.ref u0), .val (.int p1), .val (.long q2), .second, .val (.int p3)] [(.int p1), (.ref u0)])) _
          refine XS.iconst X0.here hx rfl (hb hby d9_53) ?_
          show Steps p.tables e below (s₁.setTop (mkF m 54 #[.val (.ref u0), .val (.int p1), .val (.long q2), .second, .val (.int p3)] [(.int (3 : Int32)), (.int p1), (.ref u0)])) _
          refine XS.iadd X0.here hx rfl (hb hby d9_54) rfl ?_
          show Steps p.tables e below (s₁.setTop (mkF m 55 #[.val (.ref u0), .val (.int p1), .val (.long q2), .second, .val (.int p3)] [(.int (p1 + (3 : Int32))), (.ref u0)])) _
          refine own_baload X0 hx hZ e0 V_u0 (own_ix9_55 n_u0 vs_u0 hl_u0 hn_u0 p1 q2 p3 hB hc6_1 hc20_2 hc34_3 hc48_4) (hb hby d9_55) _ ?_
          show Steps p.tables e below (s₁.setTop (mkF m 56 #[.val (.ref u0), .val (.int p1), .val (.long q2), .second, .val (.int p3)] [(.int (vs_u0.getD ((p1 + (3 : Int32))).toNatClampNeg 0))])) _
          refine XS.lloadN X0.here hx rfl (hb hby d9_56) rfl  ?_
          show Steps p.tables e below (s₁.setTop (mkF m 57 #[.val (.ref u0), .val (.int p1), .val (.long q2), .second, .val (.int p3)] [(.long q2), (.int (vs_u0.getD ((p1 + (3 : Int32))).toNatClampNeg 0))])) _
          refine XS.bipush X0.here hx rfl (hb hby d9_57) ?_
          show Steps p.tables e below (s₁.setTop (mkF m 59 #[.val (.ref u0), .val (.int p1), .val (.long q2), .second, .val (.int p3)] [(.int (32 : Int32)), (.long q2), (.int (vs_u0.getD ((p1 + (3 : Int32))).toNatClampNeg 0))])) _
          refine XS.lushr X0.here hx rfl (hb hby d9_59) rfl ?_
          show Steps p.tables e below (s₁.setTop (mkF m 60 #[.val (.ref u0), .val (.int p1), .val (.long q2), .second, .val (.int p3)] [(.long ((q2.toUInt64 >>> ((32 : Int32) &&& 0x3f).toInt64.toUInt64).toInt64)), (.int (vs_u0.getD ((p1 + (3 : Int32))).toNatClampNeg 0))])) _
          refine XS.l2i X0.here hx rfl (hb hby d9_60) rfl ?_
          show Steps p.tables e below (s₁.setTop (mkF m 61 #[.val (.ref u0), .val (.int p1), .val (.long q2), .second, .val (.int p3)] [(.int (((q2.toUInt64 >>> ((32 : Int32) &&& 0x3f).toInt64.toUInt64).toInt64).toInt32)), (.int (vs_u0.getD ((p1 + (3 : Int32))).toNatClampNeg 0))])) _
          refine XS.i2b X0.here hx rfl (hb hby d9_61) rfl ?_
          show Steps p.tables e below (s₁.setTop (mkF m 62 #[.val (.ref u0), .val (.int p1), .val (.long q2), .second, .val (.int p3)] [(.int ((((q2.toUInt64 >>> ((32 : Int32) &&& 0x3f).toInt64.toUInt64).toInt64).toInt32).toInt8.toInt32)), (.int (vs_u0.getD ((p1 + (3 : Int32))).toNatClampNeg 0))])) _
          refine own_ite1 (T := s₁) (c := (vs_u0.getD ((p1 + (3 : Int32))).toNatClampNeg 0) = ((((q2.toUInt64 >>> ((32 : Int32) &&& 0x3f).toInt64.toUInt64).toInt64).toInt32).toInt8.toInt32)) (a0 := (if (vs_u0.getD ((p1 + (4 : Int32))).toNatClampNeg 0) = ((((q2.toUInt64 >>> ((24 : Int32) &&& 0x3f).toInt64.toUInt64).toInt64).toInt32).toInt8.toInt32) then (if (vs_u0.getD ((p1 + (5 : Int32))).toNatClampNeg 0) = ((((q2.toUInt64 >>> ((16 : Int32) &&& 0x3f).toInt64.toUInt64).toInt64).toInt32).toInt8.toInt32) then (if (vs_u0.getD ((p1 + (6 : Int32))).toNatClampNeg 0) = ((((q2.toUInt64 >>> ((8 : Int32) &&& 0x3f).toInt64.toUInt64).toInt64).toInt32).toInt8.toInt32) then (if (vs_u0.getD ((p1 + (7 : Int32))).toNatClampNeg 0) = ((q2.toInt32).toInt8.toInt32) then (if (vs_u0.getD ((p1 + (8 : Int32))).toNatClampNeg 0) = (((p3.toUInt32 >>> ((24 : Int32) &&& 31).toUInt32).toInt32).toInt8.toInt32) then (if (vs_u0.getD ((p1 + (9 : Int32))).toNatClampNeg 0) = (((p3.toUInt32 >>> ((16 : Int32) &&& 31).toUInt32).toInt32).toInt8.toInt32) then (if (vs_u0.getD ((p1 + (10 : Int32))).toNatClampNeg 0) = (((p3.toUInt32 >>> ((8 : Int32) &&& 31).toUInt32).toInt32).toInt8.toInt32) then (if (vs_u0.getD ((p1 + (11 : Int32))).toNatClampNeg 0) = (p3.toInt8.toInt32) then (1 : Int32) else (0 : Int32)) else (0 : Int32)) else (0 : Int32)) else (0 : Int32)) else (0 : Int32)) else (0 : Int32)) else (0 : Int32)) else (0 : Int32))) (b0 := (0 : Int32)) (F := fun z13_0 => (mkF m 182 #[.val (.ref u0), .val (.int p1), .val (.long q2), .second, .val (.int p3)] [(.int z13_0)])) ?_ ?_ _ ?_
          · intro hc62_5 t k
            refine XS.icmpNo X0.here hx rfl (hb hby d9_62) rfl (teq hc62_5).2 ?_
            show Steps p.tables e below (s₁.setTop (mkF m 65 #[.val (.ref u0), .val (.int p1), .val (.long q2), .second, .val (.int p3)] [])) _
            refine XS.aloadN X0.here hx rfl (hb hby d9_65) rfl rfl ?_
            show Steps p.tables e below (s₁.setTop (mkF m 66 #[.val (.ref u0), .val (.int p1), .val (.long q2), .second, .val (.int p3)] [(.ref u0)])) _
            refine XS.iloadN X0.here hx rfl (hb hby d9_66) rfl  ?_
            show Steps p.tables e below (s₁.setTop (mkF m 67 #[.val (.ref u0), .val (.int p1), .val (.long q2), .second, .val (.int p3)] [(.int p1), (.ref u0)])) _
            refine XS.iconst X0.here hx rfl (hb hby d9_67) ?_
            show Steps p.tables e below (s₁.setTop (mkF m 68 #[.val (.ref u0), .val (.int p1), .val (.long q2), .second, .val (.int p3)] [(.int (4 : Int32)), (.int p1), (.ref u0)])) _
            refine XS.iadd X0.here hx rfl (hb hby d9_68) rfl ?_
            show Steps p.tables e below (s₁.setTop (mkF m 69 #[.val (.ref u0), .val (.int p1), .val (.long q2), .second, .val (.int p3)] [(.int (p1 + (4 : Int32))), (.ref u0)])) _
            refine own_baload X0 hx hZ e0 V_u0 (own_ix9_69 n_u0 vs_u0 hl_u0 hn_u0 p1 q2 p3 hB hc6_1 hc20_2 hc34_3 hc48_4 hc62_5) (hb hby d9_69) _ ?_
            show Steps p.tables e below (s₁.setTop (mkF m 70 #[.val (.ref u0), .val (.int p1), .val (.long q2), .second, .val (.int p3)] [(.int (vs_u0.getD ((p1 + (4 : Int32))).toNatClampNeg 0))])) _
            refine XS.lloadN X0.here hx rfl (hb hby d9_70) rfl  ?_
            show Steps p.tables e below (s₁.setTop (mkF m 71 #[.val (.ref u0), .val (.int p1), .val (.long q2), .second, .val (.int p3)] [(.long q2), (.int (vs_u0.getD ((p1 + (4 : Int32))).toNatClampNeg 0))])) _
            refine XS.bipush X0.here hx rfl (hb hby d9_71) ?_
            show Steps p.tables e below (s₁.setTop (mkF m 73 #[.val (.ref u0), .val (.int p1), .val (.long q2), .second, .val (.int p3)] [(.int (24 : Int32)), (.long q2), (.int (vs_u0.getD ((p1 + (4 : Int32))).toNatClampNeg 0))])) _
            refine XS.lushr X0.here hx rfl (hb hby d9_73) rfl ?_
            show Steps p.tables e below (s₁.setTop (mkF m 74 #[.val (.ref u0), .val (.int p1), .val (.long q2), .second, .val (.int p3)] [(.long ((q2.toUInt64 >>> ((24 : Int32) &&& 0x3f).toInt64.toUInt64).toInt64)), (.int (vs_u0.getD ((p1 + (4 : Int32))).toNatClampNeg 0))])) _
            refine XS.l2i X0.here hx rfl (hb hby d9_74) rfl ?_
            show Steps p.tables e below (s₁.setTop (mkF m 75 #[.val (.ref u0), .val (.int p1), .val (.long q2), .second, .val (.int p3)] [(.int (((q2.toUInt64 >>> ((24 : Int32) &&& 0x3f).toInt64.toUInt64).toInt64).toInt32)), (.int (vs_u0.getD ((p1 + (4 : Int32))).toNatClampNeg 0))])) _
            refine XS.i2b X0.here hx rfl (hb hby d9_75) rfl ?_
            show Steps p.tables e below (s₁.setTop (mkF m 76 #[.val (.ref u0), .val (.int p1), .val (.long q2), .second, .val (.int p3)] [(.int ((((q2.toUInt64 >>> ((24 : Int32) &&& 0x3f).toInt64.toUInt64).toInt64).toInt32).toInt8.toInt32)), (.int (vs_u0.getD ((p1 + (4 : Int32))).toNatClampNeg 0))])) _
            refine own_ite1 (T := s₁) (c := (vs_u0.getD ((p1 + (4 : Int32))).toNatClampNeg 0) = ((((q2.toUInt64 >>> ((24 : Int32) &&& 0x3f).toInt64.toUInt64).toInt64).toInt32).toInt8.toInt32)) (a0 := (if (vs_u0.getD ((p1 + (5 : Int32))).toNatClampNeg 0) = ((((q2.toUInt64 >>> ((16 : Int32) &&& 0x3f).toInt64.toUInt64).toInt64).toInt32).toInt8.toInt32) then (if (vs_u0.getD ((p1 + (6 : Int32))).toNatClampNeg 0) = ((((q2.toUInt64 >>> ((8 : Int32) &&& 0x3f).toInt64.toUInt64).toInt64).toInt32).toInt8.toInt32) then (if (vs_u0.getD ((p1 + (7 : Int32))).toNatClampNeg 0) = ((q2.toInt32).toInt8.toInt32) then (if (vs_u0.getD ((p1 + (8 : Int32))).toNatClampNeg 0) = (((p3.toUInt32 >>> ((24 : Int32) &&& 31).toUInt32).toInt32).toInt8.toInt32) then (if (vs_u0.getD ((p1 + (9 : Int32))).toNatClampNeg 0) = (((p3.toUInt32 >>> ((16 : Int32) &&& 31).toUInt32).toInt32).toInt8.toInt32) then (if (vs_u0.getD ((p1 + (10 : Int32))).toNatClampNeg 0) = (((p3.toUInt32 >>> ((8 : Int32) &&& 31).toUInt32).toInt32).toInt8.toInt32) then (if (vs_u0.getD ((p1 + (11 : Int32))).toNatClampNeg 0) = (p3.toInt8.toInt32) then (1 : Int32) else (0 : Int32)) else (0 : Int32)) else (0 : Int32)) else (0 : Int32)) else (0 : Int32)) else (0 : Int32)) else (0 : Int32))) (b0 := (0 : Int32)) (F := fun z13_0 => (mkF m 182 #[.val (.ref u0), .val (.int p1), .val (.long q2), .second, .val (.int p3)] [(.int z13_0)])) ?_ ?_ _ ?_
            · intro hc76_6 t k
              refine XS.icmpNo X0.here hx rfl (hb hby d9_76) rfl (teq hc76_6).2 ?_
              show Steps p.tables e below (s₁.setTop (mkF m 79 #[.val (.ref u0), .val (.int p1), .val (.long q2), .second, .val (.int p3)] [])) _
              refine XS.aloadN X0.here hx rfl (hb hby d9_79) rfl rfl ?_
              show Steps p.tables e below (s₁.setTop (mkF m 80 #[.val (.ref u0), .val (.int p1), .val (.long q2), .second, .val (.int p3)] [(.ref u0)])) _
              refine XS.iloadN X0.here hx rfl (hb hby d9_80) rfl  ?_
              show Steps p.tables e below (s₁.setTop (mkF m 81 #[.val (.ref u0), .val (.int p1), .val (.long q2), .second, .val (.int p3)] [(.int p1), (.ref u0)])) _
              refine XS.iconst X0.here hx rfl (hb hby d9_81) ?_
              show Steps p.tables e below (s₁.setTop (mkF m 82 #[.val (.ref u0), .val (.int p1), .val (.long q2), .second, .val (.int p3)] [(.int (5 : Int32)), (.int p1), (.ref u0)])) _
              refine XS.iadd X0.here hx rfl (hb hby d9_82) rfl ?_
              show Steps p.tables e below (s₁.setTop (mkF m 83 #[.val (.ref u0), .val (.int p1), .val (.long q2), .second, .val (.int p3)] [(.int (p1 + (5 : Int32))), (.ref u0)])) _
              refine own_baload X0 hx hZ e0 V_u0 (own_ix9_83 n_u0 vs_u0 hl_u0 hn_u0 p1 q2 p3 hB hc6_1 hc20_2 hc34_3 hc48_4 hc62_5 hc76_6) (hb hby d9_83) _ ?_
              show Steps p.tables e below (s₁.setTop (mkF m 84 #[.val (.ref u0), .val (.int p1), .val (.long q2), .second, .val (.int p3)] [(.int (vs_u0.getD ((p1 + (5 : Int32))).toNatClampNeg 0))])) _
              refine XS.lloadN X0.here hx rfl (hb hby d9_84) rfl  ?_
              show Steps p.tables e below (s₁.setTop (mkF m 85 #[.val (.ref u0), .val (.int p1), .val (.long q2), .second, .val (.int p3)] [(.long q2), (.int (vs_u0.getD ((p1 + (5 : Int32))).toNatClampNeg 0))])) _
              refine XS.bipush X0.here hx rfl (hb hby d9_85) ?_
              show Steps p.tables e below (s₁.setTop (mkF m 87 #[.val (.ref u0), .val (.int p1), .val (.long q2), .second, .val (.int p3)] [(.int (16 : Int32)), (.long q2), (.int (vs_u0.getD ((p1 + (5 : Int32))).toNatClampNeg 0))])) _
              refine XS.lushr X0.here hx rfl (hb hby d9_87) rfl ?_
              show Steps p.tables e below (s₁.setTop (mkF m 88 #[.val (.ref u0), .val (.int p1), .val (.long q2), .second, .val (.int p3)] [(.long ((q2.toUInt64 >>> ((16 : Int32) &&& 0x3f).toInt64.toUInt64).toInt64)), (.int (vs_u0.getD ((p1 + (5 : Int32))).toNatClampNeg 0))])) _
              refine XS.l2i X0.here hx rfl (hb hby d9_88) rfl ?_
              show Steps p.tables e below (s₁.setTop (mkF m 89 #[.val (.ref u0), .val (.int p1), .val (.long q2), .second, .val (.int p3)] [(.int (((q2.toUInt64 >>> ((16 : Int32) &&& 0x3f).toInt64.toUInt64).toInt64).toInt32)), (.int (vs_u0.getD ((p1 + (5 : Int32))).toNatClampNeg 0))])) _
              refine XS.i2b X0.here hx rfl (hb hby d9_89) rfl ?_
              show Steps p.tables e below (s₁.setTop (mkF m 90 #[.val (.ref u0), .val (.int p1), .val (.long q2), .second, .val (.int p3)] [(.int ((((q2.toUInt64 >>> ((16 : Int32) &&& 0x3f).toInt64.toUInt64).toInt64).toInt32).toInt8.toInt32)), (.int (vs_u0.getD ((p1 + (5 : Int32))).toNatClampNeg 0))])) _
              refine own_ite1 (T := s₁) (c := (vs_u0.getD ((p1 + (5 : Int32))).toNatClampNeg 0) = ((((q2.toUInt64 >>> ((16 : Int32) &&& 0x3f).toInt64.toUInt64).toInt64).toInt32).toInt8.toInt32)) (a0 := (if (vs_u0.getD ((p1 + (6 : Int32))).toNatClampNeg 0) = ((((q2.toUInt64 >>> ((8 : Int32) &&& 0x3f).toInt64.toUInt64).toInt64).toInt32).toInt8.toInt32) then (if (vs_u0.getD ((p1 + (7 : Int32))).toNatClampNeg 0) = ((q2.toInt32).toInt8.toInt32) then (if (vs_u0.getD ((p1 + (8 : Int32))).toNatClampNeg 0) = (((p3.toUInt32 >>> ((24 : Int32) &&& 31).toUInt32).toInt32).toInt8.toInt32) then (if (vs_u0.getD ((p1 + (9 : Int32))).toNatClampNeg 0) = (((p3.toUInt32 >>> ((16 : Int32) &&& 31).toUInt32).toInt32).toInt8.toInt32) then (if (vs_u0.getD ((p1 + (10 : Int32))).toNatClampNeg 0) = (((p3.toUInt32 >>> ((8 : Int32) &&& 31).toUInt32).toInt32).toInt8.toInt32) then (if (vs_u0.getD ((p1 + (11 : Int32))).toNatClampNeg 0) = (p3.toInt8.toInt32) then (1 : Int32) else (0 : Int32)) else (0 : Int32)) else (0 : Int32)) else (0 : Int32)) else (0 : Int32)) else (0 : Int32))) (b0 := (0 : Int32)) (F := fun z13_0 => (mkF m 182 #[.val (.ref u0), .val (.int p1), .val (.long q2), .second, .val (.int p3)] [(.int z13_0)])) ?_ ?_ _ ?_
              · intro hc90_7 t k
                refine XS.icmpNo X0.here hx rfl (hb hby d9_90) rfl (teq hc90_7).2 ?_
                show Steps p.tables e below (s₁.setTop (mkF m 93 #[.val (.ref u0), .val (.int p1), .val (.long q2), .second, .val (.int p3)] [])) _
                refine XS.aloadN X0.here hx rfl (hb hby d9_93) rfl rfl ?_
                show Steps p.tables e below (s₁.setTop (mkF m 94 #[.val (.ref u0), .val (.int p1), .val (.long q2), .second, .val (.int p3)] [(.ref u0)])) _
                refine XS.iloadN X0.here hx rfl (hb hby d9_94) rfl  ?_
                show Steps p.tables e below (s₁.setTop (mkF m 95 #[.val (.ref u0), .val (.int p1), .val (.long q2), .second, .val (.int p3)] [(.int p1), (.ref u0)])) _
                refine XS.bipush X0.here hx rfl (hb hby d9_95) ?_
                show Steps p.tables e below (s₁.setTop (mkF m 97 #[.val (.ref u0), .val (.int p1), .val (.long q2), .second, .val (.int p3)] [(.int (6 : Int32)), (.int p1), (.ref u0)])) _
                refine XS.iadd X0.here hx rfl (hb hby d9_97) rfl ?_
                show Steps p.tables e below (s₁.setTop (mkF m 98 #[.val (.ref u0), .val (.int p1), .val (.long q2), .second, .val (.int p3)] [(.int (p1 + (6 : Int32))), (.ref u0)])) _
                refine own_baload X0 hx hZ e0 V_u0 (own_ix9_98 n_u0 vs_u0 hl_u0 hn_u0 p1 q2 p3 hB hc6_1 hc20_2 hc34_3 hc48_4 hc62_5 hc76_6 hc90_7) (hb hby d9_98) _ ?_
                show Steps p.tables e below (s₁.setTop (mkF m 99 #[.val (.ref u0), .val (.int p1), .val (.long q2), .second, .val (.int p3)] [(.int (vs_u0.getD ((p1 + (6 : Int32))).toNatClampNeg 0))])) _
                refine XS.lloadN X0.here hx rfl (hb hby d9_99) rfl  ?_
                show Steps p.tables e below (s₁.setTop (mkF m 100 #[.val (.ref u0), .val (.int p1), .val (.long q2), .second, .val (.int p3)] [(.long q2), (.int (vs_u0.getD ((p1 + (6 : Int32))).toNatClampNeg 0))])) _
                refine XS.bipush X0.here hx rfl (hb hby d9_100) ?_
                show Steps p.tables e below (s₁.setTop (mkF m 102 #[.val (.ref u0), .val (.int p1), .val (.long q2), .second, .val (.int p3)] [(.int (8 : Int32)), (.long q2), (.int (vs_u0.getD ((p1 + (6 : Int32))).toNatClampNeg 0))])) _
                refine XS.lushr X0.here hx rfl (hb hby d9_102) rfl ?_
                show Steps p.tables e below (s₁.setTop (mkF m 103 #[.val (.ref u0), .val (.int p1), .val (.long q2), .second, .val (.int p3)] [(.long ((q2.toUInt64 >>> ((8 : Int32) &&& 0x3f).toInt64.toUInt64).toInt64)), (.int (vs_u0.getD ((p1 + (6 : Int32))).toNatClampNeg 0))])) _
                refine XS.l2i X0.here hx rfl (hb hby d9_103) rfl ?_
                show Steps p.tables e below (s₁.setTop (mkF m 104 #[.val (.ref u0), .val (.int p1), .val (.long q2), .second, .val (.int p3)] [(.int (((q2.toUInt64 >>> ((8 : Int32) &&& 0x3f).toInt64.toUInt64).toInt64).toInt32)), (.int (vs_u0.getD ((p1 + (6 : Int32))).toNatClampNeg 0))])) _
                refine XS.i2b X0.here hx rfl (hb hby d9_104) rfl ?_
                show Steps p.tables e below (s₁.setTop (mkF m 105 #[.val (.ref u0), .val (.int p1), .val (.long q2), .second, .val (.int p3)] [(.int ((((q2.toUInt64 >>> ((8 : Int32) &&& 0x3f).toInt64.toUInt64).toInt64).toInt32).toInt8.toInt32)), (.int (vs_u0.getD ((p1 + (6 : Int32))).toNatClampNeg 0))])) _
                refine own_ite1 (T := s₁) (c := (vs_u0.getD ((p1 + (6 : Int32))).toNatClampNeg 0) = ((((q2.toUInt64 >>> ((8 : Int32) &&& 0x3f).toInt64.toUInt64).toInt64).toInt32).toInt8.toInt32)) (a0 := (if (vs_u0.getD ((p1 + (7 : Int32))).toNatClampNeg 0) = ((q2.toInt32).toInt8.toInt32) then (if (vs_u0.getD ((p1 + (8 : Int32))).toNatClampNeg 0) = (((p3.toUInt32 >>> ((24 : Int32) &&& 31).toUInt32).toInt32).toInt8.toInt32) then (if (vs_u0.getD ((p1 + (9 : Int32))).toNatClampNeg 0) = (((p3.toUInt32 >>> ((16 : Int32) &&& 31).toUInt32).toInt32).toInt8.toInt32) then (if (vs_u0.getD ((p1 + (10 : Int32))).toNatClampNeg 0) = (((p3.toUInt32 >>> ((8 : Int32) &&& 31).toUInt32).toInt32).toInt8.toInt32) then (if (vs_u0.getD ((p1 + (11 : Int32))).toNatClampNeg 0) = (p3.toInt8.toInt32) then (1 : Int32) else (0 : Int32)) else (0 : Int32)) else (0 : Int32)) else (0 : Int32)) else (0 : Int32))) (b0 := (0 : Int32)) (F := fun z13_0 => (mkF m 182 #[.val (.ref u0), .val (.int p1), .val (.long q2), .second, .val (.int p3)] [(.int z13_0)])) ?_ ?_ _ ?_
                · intro hc105_8 t k
                  refine XS.icmpNo X0.here hx rfl (hb hby d9_105) rfl (teq hc105_8).2 ?_
                  show Steps p.tables e below (s₁.setTop (mkF m 108 #[.val (.ref u0), .val (.int p1), .val (.long q2), .second, .val (.int p3)] [])) _
                  refine XS.aloadN X0.here hx rfl (hb hby d9_108) rfl rfl ?_
                  show Steps p.tables e below (s₁.setTop (mkF m 109 #[.val (.ref u0), .val (.int p1), .val (.long q2), .second, .val (.int p3)] [(.ref u0)])) _
                  refine XS.iloadN X0.here hx rfl (hb hby d9_109) rfl  ?_
                  show Steps p.tables e below (s₁.setTop (mkF m 110 #[.val (.ref u0), .val (.int p1), .val (.long q2), .second, .val (.int p3)] [(.int p1), (.ref u0)])) _
                  refine XS.bipush X0.here hx rfl (hb hby d9_110) ?_
                  show Steps p.tables e below (s₁.setTop (mkF m 112 #[.val (.ref u0), .val (.int p1), .val (.long q2), .second, .val (.int p3)] [(.int (7 : Int32)), (.int p1), (.ref u0)])) _
                  refine XS.iadd X0.here hx rfl (hb hby d9_112) rfl ?_
                  show Steps p.tables e below (s₁.setTop (mkF m 113 #[.val (.ref u0), .val (.int p1), .val (.long q2), .second, .val (.int p3)] [(.int (p1 + (7 : Int32))), (.ref u0)])) _
                  refine own_baload X0 hx hZ e0 V_u0 (own_ix9_113 n_u0 vs_u0 hl_u0 hn_u0 p1 q2 p3 hB hc6_1 hc20_2 hc34_3 hc48_4 hc62_5 hc76_6 hc90_7 hc105_8) (hb hby d9_113) _ ?_
                  show Steps p.tables e below (s₁.setTop (mkF m 114 #[.val (.ref u0), .val (.int p1), .val (.long q2), .second, .val (.int p3)] [(.int (vs_u0.getD ((p1 + (7 : Int32))).toNatClampNeg 0))])) _
                  refine XS.lloadN X0.here hx rfl (hb hby d9_114) rfl  ?_
                  show Steps p.tables e below (s₁.setTop (mkF m 115 #[.val (.ref u0), .val (.int p1), .val (.long q2), .second, .val (.int p3)] [(.long q2), (.int (vs_u0.getD ((p1 + (7 : Int32))).toNatClampNeg 0))])) _
                  refine XS.l2i X0.here hx rfl (hb hby d9_115) rfl ?_
                  show Steps p.tables e below (s₁.setTop (mkF m 116 #[.val (.ref u0), .val (.int p1), .val (.long q2), .second, .val (.int p3)] [(.int (q2.toInt32)), (.int (vs_u0.getD ((p1 + (7 : Int32))).toNatClampNeg 0))])) _
                  refine XS.i2b X0.here hx rfl (hb hby d9_116) rfl ?_
                  show Steps p.tables e below (s₁.setTop (mkF m 117 #[.val (.ref u0), .val (.int p1), .val (.long q2), .second, .val (.int p3)] [(.int ((q2.toInt32).toInt8.toInt32)), (.int (vs_u0.getD ((p1 + (7 : Int32))).toNatClampNeg 0))])) _
                  refine own_ite1 (T := s₁) (c := (vs_u0.getD ((p1 + (7 : Int32))).toNatClampNeg 0) = ((q2.toInt32).toInt8.toInt32)) (a0 := (if (vs_u0.getD ((p1 + (8 : Int32))).toNatClampNeg 0) = (((p3.toUInt32 >>> ((24 : Int32) &&& 31).toUInt32).toInt32).toInt8.toInt32) then (if (vs_u0.getD ((p1 + (9 : Int32))).toNatClampNeg 0) = (((p3.toUInt32 >>> ((16 : Int32) &&& 31).toUInt32).toInt32).toInt8.toInt32) then (if (vs_u0.getD ((p1 + (10 : Int32))).toNatClampNeg 0) = (((p3.toUInt32 >>> ((8 : Int32) &&& 31).toUInt32).toInt32).toInt8.toInt32) then (if (vs_u0.getD ((p1 + (11 : Int32))).toNatClampNeg 0) = (p3.toInt8.toInt32) then (1 : Int32) else (0 : Int32)) else (0 : Int32)) else (0 : Int32)) else (0 : Int32))) (b0 := (0 : Int32)) (F := fun z13_0 => (mkF m 182 #[.val (.ref u0), .val (.int p1), .val (.long q2), .second, .val (.int p3)] [(.int z13_0)])) ?_ ?_ _ ?_
                  · intro hc117_9 t k
                    refine XS.icmpNo X0.here hx rfl (hb hby d9_117) rfl (teq hc117_9).2 ?_
                    show Steps p.tables e below (s₁.setTop (mkF m 120 #[.val (.ref u0), .val (.int p1), .val (.long q2), .second, .val (.int p3)] [])) _
                    refine XS.aloadN X0.here hx rfl (hb hby d9_120) rfl rfl ?_
                    show Steps p.tables e below (s₁.setTop (mkF m 121 #[.val (.ref u0), .val (.int p1), .val (.long q2), .second, .val (.int p3)] [(.ref u0)])) _
                    refine XS.iloadN X0.here hx rfl (hb hby d9_121) rfl  ?_
                    show Steps p.tables e below (s₁.setTop (mkF m 122 #[.val (.ref u0), .val (.int p1), .val (.long q2), .second, .val (.int p3)] [(.int p1), (.ref u0)])) _
                    refine XS.bipush X0.here hx rfl (hb hby d9_122) ?_
                    show Steps p.tables e below (s₁.setTop (mkF m 124 #[.val (.ref u0), .val (.int p1), .val (.long q2), .second, .val (.int p3)] [(.int (8 : Int32)), (.int p1), (.ref u0)])) _
                    refine XS.iadd X0.here hx rfl (hb hby d9_124) rfl ?_
                    show Steps p.tables e below (s₁.setTop (mkF m 125 #[.val (.ref u0), .val (.int p1), .val (.long q2), .second, .val (.int p3)] [(.int (p1 + (8 : Int32))), (.ref u0)])) _
                    refine own_baload X0 hx hZ e0 V_u0 (own_ix9_125 n_u0 vs_u0 hl_u0 hn_u0 p1 q2 p3 hB hc6_1 hc20_2 hc34_3 hc48_4 hc62_5 hc76_6 hc90_7 hc105_8 hc117_9) (hb hby d9_125) _ ?_
                    show Steps p.tables e below (s₁.setTop (mkF m 126 #[.val (.ref u0), .val (.int p1), .val (.long q2), .second, .val (.int p3)] [(.int (vs_u0.getD ((p1 + (8 : Int32))).toNatClampNeg 0))])) _
                    refine XS.iload X0.here hx rfl (hb hby d9_126) rfl  ?_
                    show Steps p.tables e below (s₁.setTop (mkF m 128 #[.val (.ref u0), .val (.int p1), .val (.long q2), .second, .val (.int p3)] [(.int p3), (.int (vs_u0.getD ((p1 + (8 : Int32))).toNatClampNeg 0))])) _
                    refine XS.bipush X0.here hx rfl (hb hby d9_128) ?_
                    show Steps p.tables e below (s₁.setTop (mkF m 130 #[.val (.ref u0), .val (.int p1), .val (.long q2), .second, .val (.int p3)] [(.int (24 : Int32)), (.int p3), (.int (vs_u0.getD ((p1 + (8 : Int32))).toNatClampNeg 0))])) _
                    refine XS.iushr X0.here hx rfl (hb hby d9_130) rfl ?_
                    show Steps p.tables e below (s₁.setTop (mkF m 131 #[.val (.ref u0), .val (.int p1), .val (.long q2), .second, .val (.int p3)] [(.int ((p3.toUInt32 >>> ((24 : Int32) &&& 31).toUInt32).toInt32)), (.int (vs_u0.getD ((p1 + (8 : Int32))).toNatClampNeg 0))])) _
                    refine XS.i2b X0.here hx rfl (hb hby d9_131) rfl ?_
                    show Steps p.tables e below (s₁.setTop (mkF m 132 #[.val (.ref u0), .val (.int p1), .val (.long q2), .second, .val (.int p3)] [(.int (((p3.toUInt32 >>> ((24 : Int32) &&& 31).toUInt32).toInt32).toInt8.toInt32)), (.int (vs_u0.getD ((p1 + (8 : Int32))).toNatClampNeg 0))])) _
                    refine own_ite1 (T := s₁) (c := (vs_u0.getD ((p1 + (8 : Int32))).toNatClampNeg 0) = (((p3.toUInt32 >>> ((24 : Int32) &&& 31).toUInt32).toInt32).toInt8.toInt32)) (a0 := (if (vs_u0.getD ((p1 + (9 : Int32))).toNatClampNeg 0) = (((p3.toUInt32 >>> ((16 : Int32) &&& 31).toUInt32).toInt32).toInt8.toInt32) then (if (vs_u0.getD ((p1 + (10 : Int32))).toNatClampNeg 0) = (((p3.toUInt32 >>> ((8 : Int32) &&& 31).toUInt32).toInt32).toInt8.toInt32) then (if (vs_u0.getD ((p1 + (11 : Int32))).toNatClampNeg 0) = (p3.toInt8.toInt32) then (1 : Int32) else (0 : Int32)) else (0 : Int32)) else (0 : Int32))) (b0 := (0 : Int32)) (F := fun z13_0 => (mkF m 182 #[.val (.ref u0), .val (.int p1), .val (.long q2), .second, .val (.int p3)] [(.int z13_0)])) ?_ ?_ _ ?_
                    · intro hc132_10 t k
                      refine XS.icmpNo X0.here hx rfl (hb hby d9_132) rfl (teq hc132_10).2 ?_
                      show Steps p.tables e below (s₁.setTop (mkF m 135 #[.val (.ref u0), .val (.int p1), .val (.long q2), .second, .val (.int p3)] [])) _
                      refine XS.aloadN X0.here hx rfl (hb hby d9_135) rfl rfl ?_
                      show Steps p.tables e below (s₁.setTop (mkF m 136 #[.val (.ref u0), .val (.int p1), .val (.long q2), .second, .val (.int p3)] [(.ref u0)])) _
                      refine XS.iloadN X0.here hx rfl (hb hby d9_136) rfl  ?_
                      show Steps p.tables e below (s₁.setTop (mkF m 137 #[.val (.ref u0), .val (.int p1), .val (.long q2), .second, .val (.int p3)] [(.int p1), (.ref u0)])) _
                      refine XS.bipush X0.here hx rfl (hb hby d9_137) ?_
                      show Steps p.tables e below (s₁.setTop (mkF m 139 #[.val (.ref u0), .val (.int p1), .val (.long q2), .second, .val (.int p3)] [(.int (9 : Int32)), (.int p1), (.ref u0)])) _
                      refine XS.iadd X0.here hx rfl (hb hby d9_139) rfl ?_
                      show Steps p.tables e below (s₁.setTop (mkF m 140 #[.val (.ref u0), .val (.int p1), .val (.long q2), .second, .val (.int p3)] [(.int (p1 + (9 : Int32))), (.ref u0)])) _
                      refine own_baload X0 hx hZ e0 V_u0 (own_ix9_140 n_u0 vs_u0 hl_u0 hn_u0 p1 q2 p3 hB hc6_1 hc20_2 hc34_3 hc48_4 hc62_5 hc76_6 hc90_7 hc105_8 hc117_9 hc132_10) (hb hby d9_140) _ ?_
                      show Steps p.tables e below (s₁.setTop (mkF m 141 #[.val (.ref u0), .val (.int p1), .val (.long q2), .second, .val (.int p3)] [(.int (vs_u0.getD ((p1 + (9 : Int32))).toNatClampNeg 0))])) _
                      refine XS.iload X0.here hx rfl (hb hby d9_141) rfl  ?_
                      show Steps p.tables e below (s₁.setTop (mkF m 143 #[.val (.ref u0), .val (.int p1), .val (.long q2), .second, .val (.int p3)] [(.int p3), (.int (vs_u0.getD ((p1 + (9 : Int32))).toNatClampNeg 0))])) _
                      refine XS.bipush X0.here hx rfl (hb hby d9_143) ?_
                      show Steps p.tables e below (s₁.setTop (mkF m 145 #[.val (.ref u0), .val (.int p1), .val (.long q2), .second, .val (.int p3)] [(.int (16 : Int32)), (.int p3), (.int (vs_u0.getD ((p1 + (9 : Int32))).toNatClampNeg 0))])) _
                      refine XS.iushr X0.here hx rfl (hb hby d9_145) rfl ?_
                      show Steps p.tables e below (s₁.setTop (mkF m 146 #[.val (.ref u0), .val (.int p1), .val (.long q2), .second, .val (.int p3)] [(.int ((p3.toUInt32 >>> ((16 : Int32) &&& 31).toUInt32).toInt32)), (.int (vs_u0.getD ((p1 + (9 : Int32))).toNatClampNeg 0))])) _
                      refine XS.i2b X0.here hx rfl (hb hby d9_146) rfl ?_
                      show Steps p.tables e below (s₁.setTop (mkF m 147 #[.val (.ref u0), .val (.int p1), .val (.long q2), .second, .val (.int p3)] [(.int (((p3.toUInt32 >>> ((16 : Int32) &&& 31).toUInt32).toInt32).toInt8.toInt32)), (.int (vs_u0.getD ((p1 + (9 : Int32))).toNatClampNeg 0))])) _
                      refine own_ite1 (T := s₁) (c := (vs_u0.getD ((p1 + (9 : Int32))).toNatClampNeg 0) = (((p3.toUInt32 >>> ((16 : Int32) &&& 31).toUInt32).toInt32).toInt8.toInt32)) (a0 := (if (vs_u0.getD ((p1 + (10 : Int32))).toNatClampNeg 0) = (((p3.toUInt32 >>> ((8 : Int32) &&& 31).toUInt32).toInt32).toInt8.toInt32) then (if (vs_u0.getD ((p1 + (11 : Int32))).toNatClampNeg 0) = (p3.toInt8.toInt32) then (1 : Int32) else (0 : Int32)) else (0 : Int32))) (b0 := (0 : Int32)) (F := fun z13_0 => (mkF m 182 #[.val (.ref u0), .val (.int p1), .val (.long q2), .second, .val (.int p3)] [(.int z13_0)])) ?_ ?_ _ ?_
                      · intro hc147_11 t k
                        refine XS.icmpNo X0.here hx rfl (hb hby d9_147) rfl (teq hc147_11).2 ?_
                        show Steps p.tables e below (s₁.setTop (mkF m 150 #[.val (.ref u0), .val (.int p1), .val (.long q2), .second, .val (.int p3)] [])) _
                        refine XS.aloadN X0.here hx rfl (hb hby d9_150) rfl rfl ?_
                        show Steps p.tables e below (s₁.setTop (mkF m 151 #[.val (.ref u0), .val (.int p1), .val (.long q2), .second, .val (.int p3)] [(.ref u0)])) _
                        refine XS.iloadN X0.here hx rfl (hb hby d9_151) rfl  ?_
                        show Steps p.tables e below (s₁.setTop (mkF m 152 #[.val (.ref u0), .val (.int p1), .val (.long q2), .second, .val (.int p3)] [(.int p1), (.ref u0)])) _
                        refine XS.bipush X0.here hx rfl (hb hby d9_152) ?_
                        show Steps p.tables e below (s₁.setTop (mkF m 154 #[.val (.ref u0), .val (.int p1), .val (.long q2), .second, .val (.int p3)] [(.int (10 : Int32)), (.int p1), (.ref u0)])) _
                        refine XS.iadd X0.here hx rfl (hb hby d9_154) rfl ?_
                        show Steps p.tables e below (s₁.setTop (mkF m 155 #[.val (.ref u0), .val (.int p1), .val (.long q2), .second, .val (.int p3)] [(.int (p1 + (10 : Int32))), (.ref u0)])) _
                        refine own_baload X0 hx hZ e0 V_u0 (own_ix9_155 n_u0 vs_u0 hl_u0 hn_u0 p1 q2 p3 hB hc6_1 hc20_2 hc34_3 hc48_4 hc62_5 hc76_6 hc90_7 hc105_8 hc117_9 hc132_10 hc147_11) (hb hby d9_155) _ ?_
                        show Steps p.tables e below (s₁.setTop (mkF m 156 #[.val (.ref u0), .val (.int p1), .val (.long q2), .second, .val (.int p3)] [(.int (vs_u0.getD ((p1 + (10 : Int32))).toNatClampNeg 0))])) _
                        refine XS.iload X0.here hx rfl (hb hby d9_156) rfl  ?_
                        show Steps p.tables e below (s₁.setTop (mkF m 158 #[.val (.ref u0), .val (.int p1), .val (.long q2), .second, .val (.int p3)] [(.int p3), (.int (vs_u0.getD ((p1 + (10 : Int32))).toNatClampNeg 0))])) _
                        refine XS.bipush X0.here hx rfl (hb hby d9_158) ?_
                        show Steps p.tables e below (s₁.setTop (mkF m 160 #[.val (.ref u0), .val (.int p1), .val (.long q2), .second, .val (.int p3)] [(.int (8 : Int32)), (.int p3), (.int (vs_u0.getD ((p1 + (10 : Int32))).toNatClampNeg 0))])) _
                        refine XS.iushr X0.here hx rfl (hb hby d9_160) rfl ?_
                        show Steps p.tables e below (s₁.setTop (mkF m 161 #[.val (.ref u0), .val (.int p1), .val (.long q2), .second, .val (.int p3)] [(.int ((p3.toUInt32 >>> ((8 : Int32) &&& 31).toUInt32).toInt32)), (.int (vs_u0.getD ((p1 + (10 : Int32))).toNatClampNeg 0))])) _
                        refine XS.i2b X0.here hx rfl (hb hby d9_161) rfl ?_
                        show Steps p.tables e below (s₁.setTop (mkF m 162 #[.val (.ref u0), .val (.int p1), .val (.long q2), .second, .val (.int p3)] [(.int (((p3.toUInt32 >>> ((8 : Int32) &&& 31).toUInt32).toInt32).toInt8.toInt32)), (.int (vs_u0.getD ((p1 + (10 : Int32))).toNatClampNeg 0))])) _
                        refine own_ite1 (T := s₁) (c := (vs_u0.getD ((p1 + (10 : Int32))).toNatClampNeg 0) = (((p3.toUInt32 >>> ((8 : Int32) &&& 31).toUInt32).toInt32).toInt8.toInt32)) (a0 := (if (vs_u0.getD ((p1 + (11 : Int32))).toNatClampNeg 0) = (p3.toInt8.toInt32) then (1 : Int32) else (0 : Int32))) (b0 := (0 : Int32)) (F := fun z13_0 => (mkF m 182 #[.val (.ref u0), .val (.int p1), .val (.long q2), .second, .val (.int p3)] [(.int z13_0)])) ?_ ?_ _ ?_
                        · intro hc162_12 t k
                          refine XS.icmpNo X0.here hx rfl (hb hby d9_162) rfl (teq hc162_12).2 ?_
                          show Steps p.tables e below (s₁.setTop (mkF m 165 #[.val (.ref u0), .val (.int p1), .val (.long q2), .second, .val (.int p3)] [])) _
                          refine XS.aloadN X0.here hx rfl (hb hby d9_165) rfl rfl ?_
                          show Steps p.tables e below (s₁.setTop (mkF m 166 #[.val (.ref u0), .val (.int p1), .val (.long q2), .second, .val (.int p3)] [(.ref u0)])) _
                          refine XS.iloadN X0.here hx rfl (hb hby d9_166) rfl  ?_
                          show Steps p.tables e below (s₁.setTop (mkF m 167 #[.val (.ref u0), .val (.int p1), .val (.long q2), .second, .val (.int p3)] [(.int p1), (.ref u0)])) _
                          refine XS.bipush X0.here hx rfl (hb hby d9_167) ?_
                          show Steps p.tables e below (s₁.setTop (mkF m 169 #[.val (.ref u0), .val (.int p1), .val (.long q2), .second, .val (.int p3)] [(.int (11 : Int32)), (.int p1), (.ref u0)])) _
                          refine XS.iadd X0.here hx rfl (hb hby d9_169) rfl ?_
                          show Steps p.tables e below (s₁.setTop (mkF m 170 #[.val (.ref u0), .val (.int p1), .val (.long q2), .second, .val (.int p3)] [(.int (p1 + (11 : Int32))), (.ref u0)])) _
                          refine own_baload X0 hx hZ e0 V_u0 (own_ix9_170 n_u0 vs_u0 hl_u0 hn_u0 p1 q2 p3 hB hc6_1 hc20_2 hc34_3 hc48_4 hc62_5 hc76_6 hc90_7 hc105_8 hc117_9 hc132_10 hc147_11 hc162_12) (hb hby d9_170) _ ?_
                          show Steps p.tables e below (s₁.setTop (mkF m 171 #[.val (.ref u0), .val (.int p1), .val (.long q2), .second, .val (.int p3)] [(.int (vs_u0.getD ((p1 + (11 : Int32))).toNatClampNeg 0))])) _
                          refine XS.iload X0.here hx rfl (hb hby d9_171) rfl  ?_
                          show Steps p.tables e below (s₁.setTop (mkF m 173 #[.val (.ref u0), .val (.int p1), .val (.long q2), .second, .val (.int p3)] [(.int p3), (.int (vs_u0.getD ((p1 + (11 : Int32))).toNatClampNeg 0))])) _
                          refine XS.i2b X0.here hx rfl (hb hby d9_173) rfl ?_
                          show Steps p.tables e below (s₁.setTop (mkF m 174 #[.val (.ref u0), .val (.int p1), .val (.long q2), .second, .val (.int p3)] [(.int (p3.toInt8.toInt32)), (.int (vs_u0.getD ((p1 + (11 : Int32))).toNatClampNeg 0))])) _
                          refine own_ite1 (T := s₁) (c := (vs_u0.getD ((p1 + (11 : Int32))).toNatClampNeg 0) = (p3.toInt8.toInt32)) (a0 := (1 : Int32)) (b0 := (0 : Int32)) (F := fun z13_0 => (mkF m 182 #[.val (.ref u0), .val (.int p1), .val (.long q2), .second, .val (.int p3)] [(.int z13_0)])) ?_ ?_ _ ?_
                          · intro hc174_13 t k
                            refine XS.icmpNo X0.here hx rfl (hb hby d9_174) rfl (teq hc174_13).2 ?_
                            show Steps p.tables e below (s₁.setTop (mkF m 177 #[.val (.ref u0), .val (.int p1), .val (.long q2), .second, .val (.int p3)] [])) _
                            refine XS.iconst X0.here hx rfl (hb hby d9_177) ?_
                            show Steps p.tables e below (s₁.setTop (mkF m 178 #[.val (.ref u0), .val (.int p1), .val (.long q2), .second, .val (.int p3)] [(.int (1 : Int32))])) _
                            refine XS.goto X0.here hx rfl (pc0 := 178) (pc' := 182) rfl (hb hby d9_178) (by decide) (by decide) ?_
                            show Steps p.tables e below (s₁.setTop (mkF m 182 #[.val (.ref u0), .val (.int p1), .val (.long q2), .second, .val (.int p3)] [(.int (1 : Int32))])) _
                            exact k
                          · intro hc174_13 t k
                            refine XS.icmpYes X0.here hx rfl (pc0 := 174) (pc' := 181) rfl (hb hby d9_174) rfl (feq hc174_13).2 (by decide) (by decide) ?_
                            show Steps p.tables e below (s₁.setTop (mkF m 181 #[.val (.ref u0), .val (.int p1), .val (.long q2), .second, .val (.int p3)] [])) _
                            refine XS.iconst X0.here hx rfl (hb hby d9_181) ?_
                            show Steps p.tables e below (s₁.setTop (mkF m 182 #[.val (.ref u0), .val (.int p1), .val (.long q2), .second, .val (.int p3)] [(.int (0 : Int32))])) _
                            exact k
                          show Steps p.tables e below (s₁.setTop (mkF m 182 #[.val (.ref u0), .val (.int p1), .val (.long q2), .second, .val (.int p3)] [(.int (if (vs_u0.getD ((p1 + (11 : Int32))).toNatClampNeg 0) = (p3.toInt8.toInt32) then (1 : Int32) else (0 : Int32)))])) _
                          exact k
                        · intro hc162_12 t k
                          refine XS.icmpYes X0.here hx rfl (pc0 := 162) (pc' := 181) rfl (hb hby d9_162) rfl (feq hc162_12).2 (by decide) (by decide) ?_
                          show Steps p.tables e below (s₁.setTop (mkF m 181 #[.val (.ref u0), .val (.int p1), .val (.long q2), .second, .val (.int p3)] [])) _
                          refine XS.iconst X0.here hx rfl (hb hby d9_181) ?_
                          show Steps p.tables e below (s₁.setTop (mkF m 182 #[.val (.ref u0), .val (.int p1), .val (.long q2), .second, .val (.int p3)] [(.int (0 : Int32))])) _
                          exact k
                        show Steps p.tables e below (s₁.setTop (mkF m 182 #[.val (.ref u0), .val (.int p1), .val (.long q2), .second, .val (.int p3)] [(.int (if (vs_u0.getD ((p1 + (10 : Int32))).toNatClampNeg 0) = (((p3.toUInt32 >>> ((8 : Int32) &&& 31).toUInt32).toInt32).toInt8.toInt32) then (if (vs_u0.getD ((p1 + (11 : Int32))).toNatClampNeg 0) = (p3.toInt8.toInt32) then (1 : Int32) else (0 : Int32)) else (0 : Int32)))])) _
                        exact k
                      · intro hc147_11 t k
                        refine XS.icmpYes X0.here hx rfl (pc0 := 147) (pc' := 181) rfl (hb hby d9_147) rfl (feq hc147_11).2 (by decide) (by decide) ?_
                        show Steps p.tables e below (s₁.setTop (mkF m 181 #[.val (.ref u0), .val (.int p1), .val (.long q2), .second, .val (.int p3)] [])) _
                        refine XS.iconst X0.here hx rfl (hb hby d9_181) ?_
                        show Steps p.tables e below (s₁.setTop (mkF m 182 #[.val (.ref u0), .val (.int p1), .val (.long q2), .second, .val (.int p3)] [(.int (0 : Int32))])) _
                        exact k
                      show Steps p.tables e below (s₁.setTop (mkF m 182 #[.val (.ref u0), .val (.int p1), .val (.long q2), .second, .val (.int p3)] [(.int (if (vs_u0.getD ((p1 + (9 : Int32))).toNatClampNeg 0) = (((p3.toUInt32 >>> ((16 : Int32) &&& 31).toUInt32).toInt32).toInt8.toInt32) then (if (vs_u0.getD ((p1 + (10 : Int32))).toNatClampNeg 0) = (((p3.toUInt32 >>> ((8 : Int32) &&& 31).toUInt32).toInt32).toInt8.toInt32) then (if (vs_u0.getD ((p1 + (11 : Int32))).toNatClampNeg 0) = (p3.toInt8.toInt32) then (1 : Int32) else (0 : Int32)) else (0 : Int32)) else (0 : Int32)))])) _
                      exact k
                    · intro hc132_10 t k
                      refine XS.icmpYes X0.here hx rfl (pc0 := 132) (pc' := 181) rfl (hb hby d9_132) rfl (feq hc132_10).2 (by decide) (by decide) ?_
                      show Steps p.tables e below (s₁.setTop (mkF m 181 #[.val (.ref u0), .val (.int p1), .val (.long q2), .second, .val (.int p3)] [])) _
                      refine XS.iconst X0.here hx rfl (hb hby d9_181) ?_
                      show Steps p.tables e below (s₁.setTop (mkF m 182 #[.val (.ref u0), .val (.int p1), .val (.long q2), .second, .val (.int p3)] [(.int (0 : Int32))])) _
                      exact k
                    show Steps p.tables e below (s₁.setTop (mkF m 182 #[.val (.ref u0), .val (.int p1), .val (.long q2), .second, .val (.int p3)] [(.int (if (vs_u0.getD ((p1 + (8 : Int32))).toNatClampNeg 0) = (((p3.toUInt32 >>> ((24 : Int32) &&& 31).toUInt32).toInt32).toInt8.toInt32) then (if (vs_u0.getD ((p1 + (9 : Int32))).toNatClampNeg 0) = (((p3.toUInt32 >>> ((16 : Int32) &&& 31).toUInt32).toInt32).toInt8.toInt32) then (if (vs_u0.getD ((p1 + (10 : Int32))).toNatClampNeg 0) = (((p3.toUInt32 >>> ((8 : Int32) &&& 31).toUInt32).toInt32).toInt8.toInt32) then (if (vs_u0.getD ((p1 + (11 : Int32))).toNatClampNeg 0) = (p3.toInt8.toInt32) then (1 : Int32) else (0 : Int32)) else (0 : Int32)) else (0 : Int32)) else (0 : Int32)))])) _
                    exact k
                  · intro hc117_9 t k
                    refine XS.icmpYes X0.here hx rfl (pc0 := 117) (pc' := 181) rfl (hb hby d9_117) rfl (feq hc117_9).2 (by decide) (by decide) ?_
                    show Steps p.tables e below (s₁.setTop (mkF m 181 #[.val (.ref u0), .val (.int p1), .val (.long q2), .second, .val (.int p3)] [])) _
                    refine XS.iconst X0.here hx rfl (hb hby d9_181) ?_
                    show Steps p.tables e below (s₁.setTop (mkF m 182 #[.val (.ref u0), .val (.int p1), .val (.long q2), .second, .val (.int p3)] [(.int (0 : Int32))])) _
                    exact k
                  show Steps p.tables e below (s₁.setTop (mkF m 182 #[.val (.ref u0), .val (.int p1), .val (.long q2), .second, .val (.int p3)] [(.int (if (vs_u0.getD ((p1 + (7 : Int32))).toNatClampNeg 0) = ((q2.toInt32).toInt8.toInt32) then (if (vs_u0.getD ((p1 + (8 : Int32))).toNatClampNeg 0) = (((p3.toUInt32 >>> ((24 : Int32) &&& 31).toUInt32).toInt32).toInt8.toInt32) then (if (vs_u0.getD ((p1 + (9 : Int32))).toNatClampNeg 0) = (((p3.toUInt32 >>> ((16 : Int32) &&& 31).toUInt32).toInt32).toInt8.toInt32) then (if (vs_u0.getD ((p1 + (10 : Int32))).toNatClampNeg 0) = (((p3.toUInt32 >>> ((8 : Int32) &&& 31).toUInt32).toInt32).toInt8.toInt32) then (if (vs_u0.getD ((p1 + (11 : Int32))).toNatClampNeg 0) = (p3.toInt8.toInt32) then (1 : Int32) else (0 : Int32)) else (0 : Int32)) else (0 : Int32)) else (0 : Int32)) else (0 : Int32)))])) _
                  exact k
                · intro hc105_8 t k
                  refine XS.icmpYes X0.here hx rfl (pc0 := 105) (pc' := 181) rfl (hb hby d9_105) rfl (feq hc105_8).2 (by decide) (by decide) ?_
                  show Steps p.tables e below (s₁.setTop (mkF m 181 #[.val (.ref u0), .val (.int p1), .val (.long q2), .second, .val (.int p3)] [])) _
                  refine XS.iconst X0.here hx rfl (hb hby d9_181) ?_
                  show Steps p.tables e below (s₁.setTop (mkF m 182 #[.val (.ref u0), .val (.int p1), .val (.long q2), .second, .val (.int p3)] [(.int (0 : Int32))])) _
                  exact k
                show Steps p.tables e below (s₁.setTop (mkF m 182 #[.val (.ref u0), .val (.int p1), .val (.long q2), .second, .val (.int p3)] [(.int (if (vs_u0.getD ((p1 + (6 : Int32))).toNatClampNeg 0) = ((((q2.toUInt64 >>> ((8 : Int32) &&& 0x3f).toInt64.toUInt64).toInt64).toInt32).toInt8.toInt32) then (if (vs_u0.getD ((p1 + (7 : Int32))).toNatClampNeg 0) = ((q2.toInt32).toInt8.toInt32) then (if (vs_u0.getD ((p1 + (8 : Int32))).toNatClampNeg 0) = (((p3.toUInt32 >>> ((24 : Int32) &&& 31).toUInt32).toInt32).toInt8.toInt32) then (if (vs_u0.getD ((p1 + (9 : Int32))).toNatClampNeg 0) = (((p3.toUInt32 >>> ((16 : Int32) &&& 31).toUInt32).toInt32).toInt8.toInt32) then (if (vs_u0.getD ((p1 + (10 : Int32))).toNatClampNeg 0) = (((p3.toUInt32 >>> ((8 : Int32) &&& 31).toUInt32).toInt32).toInt8.toInt32) then (if (vs_u0.getD ((p1 + (11 : Int32))).toNatClampNeg 0) = (p3.toInt8.toInt32) then (1 : Int32) else (0 : Int32)) else (0 : Int32)) else (0 : Int32)) else (0 : Int32)) else (0 : Int32)) else (0 : Int32)))])) _
                exact k
              · intro hc90_7 t k
                refine XS.icmpYes X0.here hx rfl (pc0 := 90) (pc' := 181) rfl (hb hby d9_90) rfl (feq hc90_7).2 (by decide) (by decide) ?_
                show Steps p.tables e below (s₁.setTop (mkF m 181 #[.val (.ref u0), .val (.int p1), .val (.long q2), .second, .val (.int p3)] [])) _
                refine XS.iconst X0.here hx rfl (hb hby d9_181) ?_
                show Steps p.tables e below (s₁.setTop (mkF m 182 #[.val (.ref u0), .val (.int p1), .val (.long q2), .second, .val (.int p3)] [(.int (0 : Int32))])) _
                exact k
              show Steps p.tables e below (s₁.setTop (mkF m 182 #[.val (.ref u0), .val (.int p1), .val (.long q2), .second, .val (.int p3)] [(.int (if (vs_u0.getD ((p1 + (5 : Int32))).toNatClampNeg 0) = ((((q2.toUInt64 >>> ((16 : Int32) &&& 0x3f).toInt64.toUInt64).toInt64).toInt32).toInt8.toInt32) then (if (vs_u0.getD ((p1 + (6 : Int32))).toNatClampNeg 0) = ((((q2.toUInt64 >>> ((8 : Int32) &&& 0x3f).toInt64.toUInt64).toInt64).toInt32).toInt8.toInt32) then (if (vs_u0.getD ((p1 + (7 : Int32))).toNatClampNeg 0) = ((q2.toInt32).toInt8.toInt32) then (if (vs_u0.getD ((p1 + (8 : Int32))).toNatClampNeg 0) = (((p3.toUInt32 >>> ((24 : Int32) &&& 31).toUInt32).toInt32).toInt8.toInt32) then (if (vs_u0.getD ((p1 + (9 : Int32))).toNatClampNeg 0) = (((p3.toUInt32 >>> ((16 : Int32) &&& 31).toUInt32).toInt32).toInt8.toInt32) then (if (vs_u0.getD ((p1 + (10 : Int32))).toNatClampNeg 0) = (((p3.toUInt32 >>> ((8 : Int32) &&& 31).toUInt32).toInt32).toInt8.toInt32) then (if (vs_u0.getD ((p1 + (11 : Int32))).toNatClampNeg 0) = (p3.toInt8.toInt32) then (1 : Int32) else (0 : Int32)) else (0 : Int32)) else (0 : Int32)) else (0 : Int32)) else (0 : Int32)) else (0 : Int32)) else (0 : Int32)))])) _
              exact k
            · intro hc76_6 t k
              refine XS.icmpYes X0.here hx rfl (pc0 := 76) (pc' := 181) rfl (hb hby d9_76) rfl (feq hc76_6).2 (by decide) (by decide) ?_
              show Steps p.tables e below (s₁.setTop (mkF m 181 #[.val (.ref u0), .val (.int p1), .val (.long q2), .second, .val (.int p3)] [])) _
              refine XS.iconst X0.here hx rfl (hb hby d9_181) ?_
              show Steps p.tables e below (s₁.setTop (mkF m 182 #[.val (.ref u0), .val (.int p1), .val (.long q2), .second, .val (.int p3)] [(.int (0 : Int32))])) _
              exact k
            show Steps p.tables e below (s₁.setTop (mkF m 182 #[.val (.ref u0), .val (.int p1), .val (.long q2), .second, .val (.int p3)] [(.int (if (vs_u0.getD ((p1 + (4 : Int32))).toNatClampNeg 0) = ((((q2.toUInt64 >>> ((24 : Int32) &&& 0x3f).toInt64.toUInt64).toInt64).toInt32).toInt8.toInt32) then (if (vs_u0.getD ((p1 + (5 : Int32))).toNatClampNeg 0) = ((((q2.toUInt64 >>> ((16 : Int32) &&& 0x3f).toInt64.toUInt64).toInt64).toInt32).toInt8.toInt32) then (if (vs_u0.getD ((p1 + (6 : Int32))).toNatClampNeg 0) = ((((q2.toUInt64 >>> ((8 : Int32) &&& 0x3f).toInt64.toUInt64).toInt64).toInt32).toInt8.toInt32) then (if (vs_u0.getD ((p1 + (7 : Int32))).toNatClampNeg 0) = ((q2.toInt32).toInt8.toInt32) then (if (vs_u0.getD ((p1 + (8 : Int32))).toNatClampNeg 0) = (((p3.toUInt32 >>> ((24 : Int32) &&& 31).toUInt32).toInt32).toInt8.toInt32) then (if (vs_u0.getD ((p1 + (9 : Int32))).toNatClampNeg 0) = (((p3.toUInt32 >>> ((16 : Int32) &&& 31).toUInt32).toInt32).toInt8.toInt32) then (if (vs_u0.getD ((p1 + (10 : Int32))).toNatClampNeg 0) = (((p3.toUInt32 >>> ((8 : Int32) &&& 31).toUInt32).toInt32).toInt8.toInt32) then (if (vs_u0.getD ((p1 + (11 : Int32))).toNatClampNeg 0) = (p3.toInt8.toInt32) then (1 : Int32) else (0 : Int32)) else (0 : Int32)) else (0 : Int32)) else (0 : Int32)) else (0 : Int32)) else (0 : Int32)) else (0 : Int32)) else (0 : Int32)))])) _
            exact k
          · intro hc62_5 t k
            refine XS.icmpYes X0.here hx rfl (pc0 := 62) (pc' := 181) rfl (hb hby d9_62) rfl (feq hc62_5).2 (by decide) (by decide) ?_
            show Steps p.tables e below (s₁.setTop (mkF m 181 #[.val (.ref u0), .val (.int p1), .val (.long q2), .second, .val (.int p3)] [])) _
            refine XS.iconst X0.here hx rfl (hb hby d9_181) ?_
            show Steps p.tables e below (s₁.setTop (mkF m 182 #[.val (.ref u0), .val (.int p1), .val (.long q2), .second, .val (.int p3)] [(.int (0 : Int32))])) _
            exact k
          show Steps p.tables e below (s₁.setTop (mkF m 182 #[.val (.ref u0), .val (.int p1), .val (.long q2), .second, .val (.int p3)] [(.int (if (vs_u0.getD ((p1 + (3 : Int32))).toNatClampNeg 0) = ((((q2.toUInt64 >>> ((32 : Int32) &&& 0x3f).toInt64.toUInt64).toInt64).toInt32).toInt8.toInt32) then (if (vs_u0.getD ((p1 + (4 : Int32))).toNatClampNeg 0) = ((((q2.toUInt64 >>> ((24 : Int32) &&& 0x3f).toInt64.toUInt64).toInt64).toInt32).toInt8.toInt32) then (if (vs_u0.getD ((p1 + (5 : Int32))).toNatClampNeg 0) = ((((q2.toUInt64 >>> ((16 : Int32) &&& 0x3f).toInt64.toUInt64).toInt64).toInt32).toInt8.toInt32) then (if (vs_u0.getD ((p1 + (6 : Int32))).toNatClampNeg 0) = ((((q2.toUInt64 >>> ((8 : Int32) &&& 0x3f).toInt64.toUInt64).toInt64).toInt32).toInt8.toInt32) then (if (vs_u0.getD ((p1 + (7 : Int32))).toNatClampNeg 0) = ((q2.toInt32).toInt8.toInt32) then (if (vs_u0.getD ((p1 + (8 : Int32))).toNatClampNeg 0) = (((p3.toUInt32 >>> ((24 : Int32) &&& 31).toUInt32).toInt32).toInt8.toInt32) then (if (vs_u0.getD ((p1 + (9 : Int32))).toNatClampNeg 0) = (((p3.toUInt32 >>> ((16 : Int32) &&& 31).toUInt32).toInt32).toInt8.toInt32) then (if (vs_u0.getD ((p1 + (10 : Int32))).toNatClampNeg 0) = (((p3.toUInt32 >>> ((8 : Int32) &&& 31).toUInt32).toInt32).toInt8.toInt32) then (if (vs_u0.getD ((p1 + (11 : Int32))).toNatClampNeg 0) = (p3.toInt8.toInt32) then (1 : Int32) else (0 : Int32)) else (0 : Int32)) else (0 : Int32)) else (0 : Int32)) else (0 : Int32)) else (0 : Int32)) else (0 : Int32)) else (0 : Int32)) else (0 : Int32)))])) _
          exact k
        · intro hc48_4 t k
          refine XS.icmpYes X0.here hx rfl (pc0 := 48) (pc' := 181) rfl (hb hby d9_48) rfl (feq hc48_4).2 (by decide) (by decide) ?_
          show Steps p.tables e below (s₁.setTop (mkF m 181 #[.val (.ref u0), .val (.int p1), .val (.long q2), .second, .val (.int p3)] [])) _
          refine XS.iconst X0.here hx rfl (hb hby d9_181) ?_
          show Steps p.tables e below (s₁.setTop (mkF m 182 #[.val (.ref u0), .val (.int p1), .val (.long q2), .second, .val (.int p3)] [(.int (0 : Int32))])) _
          exact k
        show Steps p.tables e below (s₁.setTop (mkF m 182 #[.val (.ref u0), .val (.int p1), .val (.long q2), .second, .val (.int p3)] [(.int (if (vs_u0.getD ((p1 + (2 : Int32))).toNatClampNeg 0) = ((((q2.toUInt64 >>> ((40 : Int32) &&& 0x3f).toInt64.toUInt64).toInt64).toInt32).toInt8.toInt32) then (if (vs_u0.getD ((p1 + (3 : Int32))).toNatClampNeg 0) = ((((q2.toUInt64 >>> ((32 : Int32) &&& 0x3f).toInt64.toUInt64).toInt64).toInt32).toInt8.toInt32) then (if (vs_u0.getD ((p1 + (4 : Int32))).toNatClampNeg 0) = ((((q2.toUInt64 >>> ((24 : Int32) &&& 0x3f).toInt64.toUInt64).toInt64).toInt32).toInt8.toInt32) then (if (vs_u0.getD ((p1 + (5 : Int32))).toNatClampNeg 0) = ((((q2.toUInt64 >>> ((16 : Int32) &&& 0x3f).toInt64.toUInt64).toInt64).toInt32).toInt8.toInt32) then (if (vs_u0.getD ((p1 + (6 : Int32))).toNatClampNeg 0) = ((((q2.toUInt64 >>> ((8 : Int32) &&& 0x3f).toInt64.toUInt64).toInt64).toInt32).toInt8.toInt32) then (if (vs_u0.getD ((p1 + (7 : Int32))).toNatClampNeg 0) = ((q2.toInt32).toInt8.toInt32) then (if (vs_u0.getD ((p1 + (8 : Int32))).toNatClampNeg 0) = (((p3.toUInt32 >>> ((24 : Int32) &&& 31).toUInt32).toInt32).toInt8.toInt32) then (if (vs_u0.getD ((p1 + (9 : Int32))).toNatClampNeg 0) = (((p3.toUInt32 >>> ((16 : Int32) &&& 31).toUInt32).toInt32).toInt8.toInt32) then (if (vs_u0.getD ((p1 + (10 : Int32))).toNatClampNeg 0) = (((p3.toUInt32 >>> ((8 : Int32) &&& 31).toUInt32).toInt32).toInt8.toInt32) then (if (vs_u0.getD ((p1 + (11 : Int32))).toNatClampNeg 0) = (p3.toInt8.toInt32) then (1 : Int32) else (0 : Int32)) else (0 : Int32)) else (0 : Int32)) else (0 : Int32)) else (0 : Int32)) else (0 : Int32)) else (0 : Int32)) else (0 : Int32)) else (0 : Int32)) else (0 : Int32)))])) _
        exact k
      · intro hc34_3 t k
        refine XS.icmpYes X0.here hx rfl (pc0 := 34) (pc' := 181) rfl (hb hby d9_34) rfl (feq hc34_3).2 (by decide) (by decide) ?_
        show Steps p.tables e below (s₁.setTop (mkF m 181 #[.val (.ref u0), .val (.int p1), .val (.long q2), .second, .val (.int p3)] [])) _
        refine XS.iconst X0.here hx rfl (hb hby d9_181) ?_
        show Steps p.tables e below (s₁.setTop (mkF m 182 #[.val (.ref u0), .val (.int p1), .val (.long q2), .second, .val (.int p3)] [(.int (0 : Int32))])) _
        exact k
      show Steps p.tables e below (s₁.setTop (mkF m 182 #[.val (.ref u0), .val (.int p1), .val (.long q2), .second, .val (.int p3)] [(.int (if (vs_u0.getD ((p1 + (1 : Int32))).toNatClampNeg 0) = ((((q2.toUInt64 >>> ((48 : Int32) &&& 0x3f).toInt64.toUInt64).toInt64).toInt32).toInt8.toInt32) then (if (vs_u0.getD ((p1 + (2 : Int32))).toNatClampNeg 0) = ((((q2.toUInt64 >>> ((40 : Int32) &&& 0x3f).toInt64.toUInt64).toInt64).toInt32).toInt8.toInt32) then (if (vs_u0.getD ((p1 + (3 : Int32))).toNatClampNeg 0) = ((((q2.toUInt64 >>> ((32 : Int32) &&& 0x3f).toInt64.toUInt64).toInt64).toInt32).toInt8.toInt32) then (if (vs_u0.getD ((p1 + (4 : Int32))).toNatClampNeg 0) = ((((q2.toUInt64 >>> ((24 : Int32) &&& 0x3f).toInt64.toUInt64).toInt64).toInt32).toInt8.toInt32) then (if (vs_u0.getD ((p1 + (5 : Int32))).toNatClampNeg 0) = ((((q2.toUInt64 >>> ((16 : Int32) &&& 0x3f).toInt64.toUInt64).toInt64).toInt32).toInt8.toInt32) then (if (vs_u0.getD ((p1 + (6 : Int32))).toNatClampNeg 0) = ((((q2.toUInt64 >>> ((8 : Int32) &&& 0x3f).toInt64.toUInt64).toInt64).toInt32).toInt8.toInt32) then (if (vs_u0.getD ((p1 + (7 : Int32))).toNatClampNeg 0) = ((q2.toInt32).toInt8.toInt32) then (if (vs_u0.getD ((p1 + (8 : Int32))).toNatClampNeg 0) = (((p3.toUInt32 >>> ((24 : Int32) &&& 31).toUInt32).toInt32).toInt8.toInt32) then (if (vs_u0.getD ((p1 + (9 : Int32))).toNatClampNeg 0) = (((p3.toUInt32 >>> ((16 : Int32) &&& 31).toUInt32).toInt32).toInt8.toInt32) then (if (vs_u0.getD ((p1 + (10 : Int32))).toNatClampNeg 0) = (((p3.toUInt32 >>> ((8 : Int32) &&& 31).toUInt32).toInt32).toInt8.toInt32) then (if (vs_u0.getD ((p1 + (11 : Int32))).toNatClampNeg 0) = (p3.toInt8.toInt32) then (1 : Int32) else (0 : Int32)) else (0 : Int32)) else (0 : Int32)) else (0 : Int32)) else (0 : Int32)) else (0 : Int32)) else (0 : Int32)) else (0 : Int32)) else (0 : Int32)) else (0 : Int32)) else (0 : Int32)))])) _
      exact k
    · intro hc20_2 t k
      refine XS.icmpYes X0.here hx rfl (pc0 := 20) (pc' := 181) rfl (hb hby d9_20) rfl (feq hc20_2).2 (by decide) (by decide) ?_
      show Steps p.tables e below (s₁.setTop (mkF m 181 #[.val (.ref u0), .val (.int p1), .val (.long q2), .second, .val (.int p3)] [])) _
      refine XS.iconst X0.here hx rfl (hb hby d9_181) ?_
      show Steps p.tables e below (s₁.setTop (mkF m 182 #[.val (.ref u0), .val (.int p1), .val (.long q2), .second, .val (.int p3)] [(.int (0 : Int32))])) _
      exact k
    show Goes p.tables e below _ (s₁.setTop (mkF m 182 #[.val (.ref u0), .val (.int p1), .val (.long q2), .second, .val (.int p3)] [(.int (if (vs_u0.getD (p1).toNatClampNeg 0) = ((((q2.toUInt64 >>> ((56 : Int32) &&& 0x3f).toInt64.toUInt64).toInt64).toInt32).toInt8.toInt32) then (if (vs_u0.getD ((p1 + (1 : Int32))).toNatClampNeg 0) = ((((q2.toUInt64 >>> ((48 : Int32) &&& 0x3f).toInt64.toUInt64).toInt64).toInt32).toInt8.toInt32) then (if (vs_u0.getD ((p1 + (2 : Int32))).toNatClampNeg 0) = ((((q2.toUInt64 >>> ((40 : Int32) &&& 0x3f).toInt64.toUInt64).toInt64).toInt32).toInt8.toInt32) then (if (vs_u0.getD ((p1 + (3 : Int32))).toNatClampNeg 0) = ((((q2.toUInt64 >>> ((32 : Int32) &&& 0x3f).toInt64.toUInt64).toInt64).toInt32).toInt8.toInt32) then (if (vs_u0.getD ((p1 + (4 : Int32))).toNatClampNeg 0) = ((((q2.toUInt64 >>> ((24 : Int32) &&& 0x3f).toInt64.toUInt64).toInt64).toInt32).toInt8.toInt32) then (if (vs_u0.getD ((p1 + (5 : Int32))).toNatClampNeg 0) = ((((q2.toUInt64 >>> ((16 : Int32) &&& 0x3f).toInt64.toUInt64).toInt64).toInt32).toInt8.toInt32) then (if (vs_u0.getD ((p1 + (6 : Int32))).toNatClampNeg 0) = ((((q2.toUInt64 >>> ((8 : Int32) &&& 0x3f).toInt64.toUInt64).toInt64).toInt32).toInt8.toInt32) then (if (vs_u0.getD ((p1 + (7 : Int32))).toNatClampNeg 0) = ((q2.toInt32).toInt8.toInt32) then (if (vs_u0.getD ((p1 + (8 : Int32))).toNatClampNeg 0) = (((p3.toUInt32 >>> ((24 : Int32) &&& 31).toUInt32).toInt32).toInt8.toInt32) then (if (vs_u0.getD ((p1 + (9 : Int32))).toNatClampNeg 0) = (((p3.toUInt32 >>> ((16 : Int32) &&& 31).toUInt32).toInt32).toInt8.toInt32) then (if (vs_u0.getD ((p1 + (10 : Int32))).toNatClampNeg 0) = (((p3.toUInt32 >>> ((8 : Int32) &&& 31).toUInt32).toInt32).toInt8.toInt32) then (if (vs_u0.getD ((p1 + (11 : Int32))).toNatClampNeg 0) = (p3.toInt8.toInt32) then (1 : Int32) else (0 : Int32)) else (0 : Int32)) else (0 : Int32)) else (0 : Int32)) else (0 : Int32)) else (0 : Int32)) else (0 : Int32)) else (0 : Int32)) else (0 : Int32)) else (0 : Int32)) else (0 : Int32)) else (0 : Int32)))]))
    refine Goes.retN X0 hx Bd.notSynchronized (t := .boolean) Bd.returns (by simp) (hb hby d9_182) (by decide) (by decide) ?_
    refine ⟨congrArg (fun z => some (Value.int z)) ?_, N0, e0⟩
    rw [f9, if_neg hc6_1]
    try rfl
theorem own_nonce (n_u0 : Int32) (vs_u0 : List Int32) (p1 : Int32) (q2 : Int64) (p3 : Int32) (h : ¬ n_u0 < (p1 + (12 : Int32))) (h0 : (vs_u0.getD (p1).toNatClampNeg 0) = ((((q2.toUInt64 >>> ((56 : Int32) &&& 0x3f).toInt64.toUInt64).toInt64).toInt32).toInt8.toInt32)) (h1 : (vs_u0.getD ((p1 + (1 : Int32))).toNatClampNeg 0) = ((((q2.toUInt64 >>> ((48 : Int32) &&& 0x3f).toInt64.toUInt64).toInt64).toInt32).toInt8.toInt32)) (h2 : (vs_u0.getD ((p1 + (2 : Int32))).toNatClampNeg 0) = ((((q2.toUInt64 >>> ((40 : Int32) &&& 0x3f).toInt64.toUInt64).toInt64).toInt32).toInt8.toInt32)) (h3 : (vs_u0.getD ((p1 + (3 : Int32))).toNatClampNeg 0) = ((((q2.toUInt64 >>> ((32 : Int32) &&& 0x3f).toInt64.toUInt64).toInt64).toInt32).toInt8.toInt32)) (h4 : (vs_u0.getD ((p1 + (4 : Int32))).toNatClampNeg 0) = ((((q2.toUInt64 >>> ((24 : Int32) &&& 0x3f).toInt64.toUInt64).toInt64).toInt32).toInt8.toInt32)) (h5 : (vs_u0.getD ((p1 + (5 : Int32))).toNatClampNeg 0) = ((((q2.toUInt64 >>> ((16 : Int32) &&& 0x3f).toInt64.toUInt64).toInt64).toInt32).toInt8.toInt32)) (h6 : (vs_u0.getD ((p1 + (6 : Int32))).toNatClampNeg 0) = ((((q2.toUInt64 >>> ((8 : Int32) &&& 0x3f).toInt64.toUInt64).toInt64).toInt32).toInt8.toInt32)) (h7 : (vs_u0.getD ((p1 + (7 : Int32))).toNatClampNeg 0) = ((q2.toInt32).toInt8.toInt32)) (h8 : (vs_u0.getD ((p1 + (8 : Int32))).toNatClampNeg 0) = (((p3.toUInt32 >>> ((24 : Int32) &&& 31).toUInt32).toInt32).toInt8.toInt32)) (h9 : (vs_u0.getD ((p1 + (9 : Int32))).toNatClampNeg 0) = (((p3.toUInt32 >>> ((16 : Int32) &&& 31).toUInt32).toInt32).toInt8.toInt32)) (h10 : (vs_u0.getD ((p1 + (10 : Int32))).toNatClampNeg 0) = (((p3.toUInt32 >>> ((8 : Int32) &&& 31).toUInt32).toInt32).toInt8.toInt32)) (h11 : (vs_u0.getD ((p1 + (11 : Int32))).toNatClampNeg 0) = (p3.toInt8.toInt32)) : f9 n_u0 vs_u0 p1 q2 p3 = 1 := by
  unfold f9
  rw [if_neg h, if_pos h0, if_pos h1, if_pos h2, if_pos h3, if_pos h4, if_pos h5, if_pos h6, if_pos h7, if_pos h8, if_pos h9, if_pos h10, if_pos h11]
  rfl
theorem own_nb (x : Int32) : nar .byte (x.toInt8.toInt32) = x.toInt8.toInt32 := by
  have a := c_i2b x
  have b := c_i2b (x.toInt8.toInt32)
  apply Int32.toInt_inj.mp
  show (x.toInt8.toInt32.toInt8.toInt32).toInt = _
  omega
theorem own_sh0 (d : Int64) : ((d.toUInt64 >>> ((0 : Int32) &&& 0x3f).toInt64.toUInt64).toInt64) = d := by
  rw [show ((0 : Int32) &&& 0x3f).toInt64.toUInt64 = 0 by decide]
  simp
theorem pd2 : parseMethodDescriptor "()I" = some ⟨[], some .int⟩ := by decide +kernel
theorem d10_0 : decode prog_12_method_9_code 0 = .ok (.aload_n 0, 1) := by decide +kernel
theorem d10_1 : decode prog_12_method_9_code 1 = .ok (.invokevirtual 69, 3) := by decide +kernel
theorem d10_4 : decode prog_12_method_9_code 4 = .ok (.newarray .byte, 2) := by decide +kernel
theorem d10_6 : decode prog_12_method_9_code 6 = .ok (.astore_n 1, 1) := by decide +kernel
theorem d10_7 : decode prog_12_method_9_code 7 = .ok (.aload_n 1, 1) := by decide +kernel
theorem d10_8 : decode prog_12_method_9_code 8 = .ok (.iconst 0, 1) := by decide +kernel
theorem d10_9 : decode prog_12_method_9_code 9 = .ok (.aload_n 0, 1) := by decide +kernel
theorem d10_10 : decode prog_12_method_9_code 10 = .ok (.getfield 11, 3) := by decide +kernel
theorem d10_13 : decode prog_12_method_9_code 13 = .ok (.i2b, 1) := by decide +kernel
theorem d10_14 : decode prog_12_method_9_code 14 = .ok (.bastore, 1) := by decide +kernel
theorem d10_15 : decode prog_12_method_9_code 15 = .ok (.aload_n 0, 1) := by decide +kernel
theorem d10_16 : decode prog_12_method_9_code 16 = .ok (.getfield 11, 3) := by decide +kernel
theorem d10_19 : decode prog_12_method_9_code 19 = .ok (.iconst 2, 1) := by decide +kernel
theorem d10_20 : decode prog_12_method_9_code 20 = .ok (.if_icmp .ne 32, 3) := by decide +kernel
theorem d10_52 : decode prog_12_method_9_code 52 = .ok (.aload_n 0, 1) := by decide +kernel
theorem d10_53 : decode prog_12_method_9_code 53 = .ok (.getfield 19, 3) := by decide +kernel
theorem d10_56 : decode prog_12_method_9_code 56 = .ok (.iconst 0, 1) := by decide +kernel
theorem d10_57 : decode prog_12_method_9_code 57 = .ok (.aload_n 1, 1) := by decide +kernel
theorem d10_58 : decode prog_12_method_9_code 58 = .ok (.aload_n 1, 1) := by decide +kernel
theorem d10_59 : decode prog_12_method_9_code 59 = .ok (.arraylength, 1) := by decide +kernel
theorem d10_60 : decode prog_12_method_9_code 60 = .ok (.bipush 12, 2) := by decide +kernel
theorem d10_62 : decode prog_12_method_9_code 62 = .ok (.isub, 1) := by decide +kernel
theorem d10_63 : decode prog_12_method_9_code 63 = .ok (.bipush 12, 2) := by decide +kernel
theorem d10_65 : decode prog_12_method_9_code 65 = .ok (.invokestatic 73, 3) := by decide +kernel
theorem d10_68 : decode prog_12_method_9_code 68 = .ok (.aload_n 1, 1) := by decide +kernel
theorem d10_69 : decode prog_12_method_9_code 69 = .ok (.areturn, 1) := by decide +kernel
theorem ef10a (m : MethodId) (u0 : Addr) : entryFrame m #[(.ref u0)] 3 = mkF m 0 #[.val (.ref u0), .unset, .unset] [] := by first | (simp [entryFrame, mkF, argsToLocals, Value.category]; done) | rfl
theorem own_case10a_4 (w_generation_u0 : Int64) (n_w_nonce_u0 : Int32) (vs_w_nonce_u0 : List Int32) (hl_w_nonce_u0 : vs_w_nonce_u0.length = n_w_nonce_u0.toNatClampNeg) (hn_w_nonce_u0 : ¬ n_w_nonce_u0 < 0) (hlen : n_w_nonce_u0 = (12 : Int32)) (vs_4 : Int32) (evs_4 : vs_4 = (f6 (1 : Int32))) : vs_4 = (13 : Int32) := by
  rw [evs_4]; rfl
theorem own_s410a_65 (w_generation_u0 : Int64) (n_w_nonce_u0 : Int32) (vs_w_nonce_u0 : List Int32) (hl_w_nonce_u0 : vs_w_nonce_u0.length = n_w_nonce_u0.toNatClampNeg) (hn_w_nonce_u0 : ¬ n_w_nonce_u0 < 0) (hlen : n_w_nonce_u0 = (12 : Int32)) (evs_4 : (13 : Int32) = (f6 (1 : Int32))) : ((0 : Int32)).toNatClampNeg + ((12 : Int32)).toNatClampNeg ≤ (n_w_nonce_u0).toNatClampNeg := by
  rw [hlen]; decide
def Q10a (Z : State) (u0 : Addr) (w_generation_u0 : Int64) (w_nonce_u0 : Addr) (k_w_nonce_u0 : ClassId) (n_w_nonce_u0 : Int32) (vs_w_nonce_u0 : List Int32) (h0 : Heap) (n0 : Nat) (v : Option Value) (h : Heap) (L : List Loc) : Prop := ∃ (r0 : Addr) (kk0 : ClassId), v = some (.ref r0) ∧ Fr n0 L ∧ Keep h0 h [] ∧ h0.size ≤ r0 ∧ AI Z h r0 kk0 .byte (13 : Int32) [(nar .byte ((1 : Int32).toInt8.toInt32)), (vs_w_nonce_u0.getD 0 0), (vs_w_nonce_u0.getD 1 0), (vs_w_nonce_u0.getD 2 0), (vs_w_nonce_u0.getD 3 0), (vs_w_nonce_u0.getD 4 0), (vs_w_nonce_u0.getD 5 0), (vs_w_nonce_u0.getD 6 0), (vs_w_nonce_u0.getD 7 0), (vs_w_nonce_u0.getD 8 0), (vs_w_nonce_u0.getD 9 0), (vs_w_nonce_u0.getD 10 0), (vs_w_nonce_u0.getD 11 0)] ∧ Z.vm.findClass "[B" = some kk0
set_option maxRecDepth 65536 in
set_option maxHeartbeats 40000000 in
theorem rm10a (l : Launch) (Z : State) (a0 : Array Value) (hw : ∀ d ∈ tables_1, d.before a0 Z = true) (ws : List Jvm.Cond) (u0 : Addr) (w_generation_u0 : Int64) (w_nonce_u0 : Addr) (k_w_nonce_u0 : ClassId) (n_w_nonce_u0 : Int32) (vs_w_nonce_u0 : List Int32) (h0 : Heap) (n0 : Nat) (Z0 : n0 ≤ h0.size) (E_u0 : Exa Z h0 u0 "com/example/isopod/isopod/RecordHeader") (F_version_u0 : Fld Z h0 u0 "com/example/isopod/isopod/RecordHeader" "version" "I" (.int (1 : Int32))) (F_generation_u0 : Fld Z h0 u0 "com/example/isopod/isopod/RecordHeader" "generation" "J" (.long w_generation_u0)) (F_nonce_u0 : Fld Z h0 u0 "com/example/isopod/isopod/RecordHeader" "nonce" "[B" (.ref w_nonce_u0)) (V_w_nonce_u0 : AI Z h0 w_nonce_u0 k_w_nonce_u0 .byte n_w_nonce_u0 vs_w_nonce_u0) (hk_w_nonce_u0 : Z.vm.findClass "[B" = some k_w_nonce_u0) (hlen : n_w_nonce_u0 = (12 : Int32)) :
    MetFree l (⟨"com/example/isopod/isopod/RecordHeader", "toBytes", "()[B"⟩ : MethodName) (head1 (Jvm.Cond.code (⟨"com/example/isopod/isopod/RecordHeader", "toBytes", "()[B"⟩ : MethodName) prog_12_method_9_code 3 (some (.array .byte)) :: ws) ({ frames := 2, cells := 1, slots := 13, locals := 25 } : Room)) (fun a U => a = #[(.ref u0)] ∧ Z.Warmed39 U.vm ∧ U.heap = h0) (fun _ _ _ _ _ => True) (fun _ U o U' => ∃ v L, o = .returned v ∧ Q10a Z u0 w_generation_u0 w_nonce_u0 k_w_nonce_u0 n_w_nonce_u0 vs_w_nonce_u0 h0 n0 v U'.heap L ∧ FrameEnd U o U' L ({ frames := 2, cells := 1, slots := 13, locals := 25 } : Room).cells ({ frames := 2, cells := 1, slots := 13, locals := 25 } : Room).slots) := by
  refine MetFree.of_bodySF (plainFor_of_name pn0) hisR ?_
  intro p e s m args below meth c s₁ Bd hml0 hP hK
  obtain ⟨rfl, hZ, hh⟩ := hP
  have hx := Bd.exec
  have hby := Bd.bytes
  have hml : c.maxLocals = 3 := hml0
  have hown : s.vm.findClass "com/example/isopod/isopod/RecordHeader" = some m.cls := findClass_of_methodNamed Bd.named
  have hnm := (name_of_methodNamed Bd.named Bd.method).1
  have X0 : Stand p l e ({ frames := 2, cells := 1, slots := 13, locals := 25 } : Room) s m #[(.ref u0)] below meth c s₁ [] 0 0 := Stand.of_body Bd
  have e0 : s₁.heap = h0 := by rw [← hh, Bd.state]; rfl
  have N0 := Fr.nil n0
  have K0 : Keep h0 h0 [] := Keep.refl _ _
  have hl_w_nonce_u0 : vs_w_nonce_u0.length = n_w_nonce_u0.toNatClampNeg := V_w_nonce_u0.2
  have hn_w_nonce_u0 : ¬ n_w_nonce_u0 < 0 := V_w_nonce_u0.nn
  refine Goes.out (Q := fun o U' => ∃ v L, o = .returned v ∧ Q10a Z u0 w_generation_u0 w_nonce_u0 k_w_nonce_u0 n_w_nonce_u0 vs_w_nonce_u0 h0 n0 v U'.heap L ∧ FrameEnd s o U' L ({ frames := 2, cells := 1, slots := 13, locals := 25 } : Room).cells ({ frames := 2, cells := 1, slots := 13, locals := 25 } : Room).slots) ?_
  refine Goes.step (S' := s₁.setTop (mkF m 0 #[.val (.ref u0), .unset, .unset] [])) (fun _ k => castTop (ef10a m u0) k) ?_
  refine Goes.step (S' := s₁.setTop (mkF m 1 #[.val (.ref u0), .unset, .unset] [(.ref u0)])) (fun _ k => XS.aloadN X0.here hx rfl (hb hby d10_0) rfl rfl k) ?_
  obtain ⟨cq1, kq1, q1a, q1b, q1c⟩ := isOf hZ e0 E_u0
  obtain ⟨_, _, ⟨T1, L1, k1, n1⟩, -, X1, ⟨Lc1, hQ1, l1, y1, z1⟩, st1⟩ := X0.virtualBack hx (y := (⟨"com/example/isopod/isopod/RecordHeader", "length", "()I"⟩ : MethodName)) (z := (⟨"com/example/isopod/isopod/RecordHeader", "length", "()I"⟩ : MethodName)) hown (mvT hZ (hw _ (List.mem_of_getElem? (i := 61) rfl))) (mvT hZ (hw _ (List.mem_of_getElem? (i := 40) rfl))) (notFace_of_selects (args := #[]) (mvT hZ (hw _ (List.mem_of_getElem? (i := 42) rfl)))) (mvT hZ (hw _ (List.mem_of_getElem? (i := 42) rfl))) (mvT hZ (hw _ (List.mem_of_getElem? (i := 41) rfl))) (by decide) (backOf (W := 0) (rm6 l Z a0 hw [] u0 ((1 : Int32)) h0 n0 Z0 E_u0 F_version_u0) hZ (hw _ (List.mem_of_getElem? (i := 43) rfl)) (hw _ (List.mem_of_getElem? (i := 3) rfl)) (by decide) (by decide)) q1a q1c (g := (mkF m 1 #[.val (.ref u0), .unset, .unset] [(.ref u0)])) rfl (by rw [hml]; rfl) (Steps.refl _) (argsL := []) (rest := []) (lenOf pd2 rfl) rfl (by show 2 * 0 + _ ≤ _; exact Nat.le_of_eq rfl) (hb hby d10_1) (fun _ _ => ⟨rfl, e0, (by decide : 0 + 0 ≤ _), (by decide : 0 + 0 ≤ _)⟩)
  dsimp only [Pt.U, Pt.locs, Pt.cells, Pt.slots] at X1 l1 y1 z1 st1 hQ1
  replace X1 := X1.more (Nat.le_of_eq (y1 : k1 = 0)) (Nat.le_of_eq (z1 : n1 = 0))
  obtain ⟨rfl, N1q, e1⟩ := hQ1
  have N2 := own_frapp l1 N0 N1q
  refine Goes.step (S' := T1.setTop (mkF m 4 #[.val (.ref u0), .unset, .unset] [(.int (f6 (1 : Int32)))])) (fun _ k => st1.trans k) ?_
  obtain ⟨vs_4, evs_4⟩ : ∃ z : Int32, z = (f6 (1 : Int32)) := ⟨_, rfl⟩
  rw [← evs_4]
  have hcase := (own_case10a_4 w_generation_u0 n_w_nonce_u0 vs_w_nonce_u0 hl_w_nonce_u0 hn_w_nonce_u0 hlen vs_4 evs_4)
  rcases hcase with rfl
  · obtain ⟨T3, h3, k3, X3, e3, E3, A3, hk3, st3⟩ := own_newB X1 hx hZ (hw _ (List.mem_of_getElem? (i := 0) rfl)) e1 (g := (mkF m 4 #[.val (.ref u0), .unset, .unset] [(.int (13 : Int32))])) rfl (hb hby d10_4) rfl (by decide) (cap := 13) (by decide) (by decide) (by decide) (by decide)
    obtain ⟨b3, g3⟩ : ∃ z, z = h0.size := ⟨_, rfl⟩
    rw [← g3] at A3 st3
    have ne4 : w_nonce_u0 ≠ b3 := Nat.ne_of_lt (Nat.lt_of_lt_of_le V_w_nonce_u0.lt (Nat.le_of_eq g3.symm))
    have ne5 : u0 ≠ b3 := Nat.ne_of_lt (Nat.lt_of_lt_of_le E_u0.lt (Nat.le_of_eq g3.symm))
    have g6 : n0 ≤ b3 := Nat.le_trans Z0 (Nat.le_of_eq g3.symm)
    have Z7 : n0 ≤ h3.size := Nat.le_trans Z0 E3.1
    have O8 : h0.size ≤ b3 := Nat.le_trans K0.1 (Nat.le_of_eq g3.symm)
    have V9 := V_w_nonce_u0.ext E3
    have E_10 := E_u0.ext E3
    have F11 := F_version_u0.ext E3
    have F12 := F_generation_u0.ext E3
    have F13 := F_nonce_u0.ext E3
    have K14 : Keep h0 h3 [] := K0.ext E3
    have V15 : AI Z h3 b3 k3 .byte (13 : Int32) [(0 : Int32), (0 : Int32), (0 : Int32), (0 : Int32), (0 : Int32), (0 : Int32), (0 : Int32), (0 : Int32), (0 : Int32), (0 : Int32), (0 : Int32), (0 : Int32), (0 : Int32)] := own_new A3 (by decide) rfl
    refine Goes.step (S' := T3.setTop (mkF m 6 #[.val (.ref u0), .unset, .unset] [(.ref b3)])) st3 ?_
    refine Goes.step (S' := T3.setTop (mkF m 7 #[.val (.ref u0), .val (.ref b3), .unset] [])) (fun _ k => XS.astoreN X3.here hx rfl (hb hby d10_6) rfl rfl (l' := #[.val (.ref u0), .val (.ref b3), .unset]) rfl k) ?_
    refine Goes.step (S' := T3.setTop (mkF m 8 #[.val (.ref u0), .val (.ref b3), .unset] [(.ref b3)])) (fun _ k => XS.aloadN X3.here hx rfl (hb hby d10_7) rfl rfl k) ?_
    refine Goes.step (S' := T3.setTop (mkF m 9 #[.val (.ref u0), .val (.ref b3), .unset] [(.int (0 : Int32)), (.ref b3)])) (fun _ k => XS.iconst X3.here hx rfl (hb hby d10_8) k) ?_
    refine Goes.step (S' := T3.setTop (mkF m 10 #[.val (.ref u0), .val (.ref b3), .unset] [(.ref u0), (.int (0 : Int32)), (.ref b3)])) (fun _ k => XS.aloadN X3.here hx rfl (hb hby d10_9) rfl rfl k) ?_
    obtain ⟨T16, X16, e16, st16⟩ := getF X3 hx hZ hown (host := "") (Or.inl (hw _ (List.mem_of_getElem? (i := 23) rfl))) Via.refl e3 F11 (g := (mkF m 10 #[.val (.ref u0), .val (.ref b3), .unset] [(.ref u0), (.int (0 : Int32)), (.ref b3)])) rfl rfl (hb hby d10_10)
    refine Goes.step (S' := T16.setTop (mkF m 13 #[.val (.ref u0), .val (.ref b3), .unset] [(.int (1 : Int32)), (.int (0 : Int32)), (.ref b3)])) st16 ?_
    refine Goes.step (S' := T16.setTop (mkF m 14 #[.val (.ref u0), .val (.ref b3), .unset] [(.int ((1 : Int32).toInt8.toInt32)), (.int (0 : Int32)), (.ref b3)])) (fun _ k => XS.i2b X16.here hx rfl (hb hby d10_13) rfl k) ?_
    obtain ⟨T17, h17, X17, e17, W17, V_17, st17⟩ := own_bastore X16 hx hZ e16 V15 ⟨by decide, by decide⟩ (g := (mkF m 14 #[.val (.ref u0), .val (.ref b3), .unset] [(.int ((1 : Int32).toInt8.toInt32)), (.int (0 : Int32)), (.ref b3)])) rfl rfl (hb hby d10_14)
    replace V_17 : AI Z h17 b3 k3 .byte (13 : Int32) [(nar .byte ((1 : Int32).toInt8.toInt32)), (0 : Int32), (0 : Int32), (0 : Int32), (0 : Int32), (0 : Int32), (0 : Int32), (0 : Int32), (0 : Int32), (0 : Int32), (0 : Int32), (0 : Int32), (0 : Int32)] := V_17
    have N18 := Fr.snoc X17 N2 g6
    have Z19 : n0 ≤ h17.size := Nat.le_trans Z7 (Nat.le_of_eq W17.size.symm)
    have V20 := V9.other W17 ne4
    have E_21 := E_10.wr W17
    have F22 := F11.other W17 (Or.inl ne5)
    have F23 := F12.other W17 (Or.inl ne5)
    have F24 := F13.other W17 (Or.inl ne5)
    have K25 : Keep h0 h17 [] := K14.wr W17 (Or.inr O8)
    refine Goes.step (S' := T17.setTop (mkF m 15 #[.val (.ref u0), .val (.ref b3), .unset] [])) st17 ?_
    refine Goes.step (S' := T17.setTop (mkF m 16 #[.val (.ref u0), .val (.ref b3), .unset] [(.ref u0)])) (fun _ k => XS.aloadN X17.here hx rfl (hb hby d10_15) rfl rfl k) ?_
    obtain ⟨T26, X26, e26, st26⟩ := getF X17 hx hZ hown (host := "") (Or.inl (hw _ (List.mem_of_getElem? (i := 23) rfl))) Via.refl e17 F22 (g := (mkF m 16 #[.val (.ref u0), .val (.ref b3), .unset] [(.ref u0)])) rfl rfl (hb hby d10_16)
    refine Goes.step (S' := T26.setTop (mkF m 19 #[.val (.ref u0), .val (.ref b3), .unset] [(.int (1 : Int32))])) st26 ?_
    refine Goes.step (S' := T26.setTop (mkF m 20 #[.val (.ref u0), .val (.ref b3), .unset] [(.int (2 : Int32)), (.int (1 : Int32))])) (fun _ k => XS.iconst X26.here hx rfl (hb hby d10_19) k) ?_
    refine Goes.step (S' := T26.setTop (mkF m 52 #[.val (.ref u0), .val (.ref b3), .unset] [])) (fun _ k => XS.icmpYes X26.here hx rfl (pc0 := 20) (pc' := 52) rfl (hb hby d10_20) rfl (feq (by decide)).2 (by decide) (by decide) k) ?_
    refine Goes.step (S' := T26.setTop (mkF m 53 #[.val (.ref u0), .val (.ref b3), .unset] [(.ref u0)])) (fun _ k => XS.aloadN X26.here hx rfl (hb hby d10_52) rfl rfl k) ?_
    obtain ⟨T27, X27, e27, st27⟩ := getF X26 hx hZ hown (host := "") (Or.inl (hw _ (List.mem_of_getElem? (i := 27) rfl))) Via.refl e26 F24 (g := (mkF m 53 #[.val (.ref u0), .val (.ref b3), .unset] [(.ref u0)])) rfl rfl (hb hby d10_53)
    refine Goes.step (S' := T27.setTop (mkF m 56 #[.val (.ref u0), .val (.ref b3), .unset] [(.ref w_nonce_u0)])) st27 ?_
    refine Goes.step (S' := T27.setTop (mkF m 57 #[.val (.ref u0), .val (.ref b3), .unset] [(.int (0 : Int32)), (.ref w_nonce_u0)])) (fun _ k => XS.iconst X27.here hx rfl (hb hby d10_56) k) ?_
    refine Goes.step (S' := T27.setTop (mkF m 58 #[.val (.ref u0), .val (.ref b3), .unset] [(.ref b3), (.int (0 : Int32)), (.ref w_nonce_u0)])) (fun _ k => XS.aloadN X27.here hx rfl (hb hby d10_57) rfl rfl k) ?_
    refine Goes.step (S' := T27.setTop (mkF m 59 #[.val (.ref u0), .val (.ref b3), .unset] [(.ref b3), (.ref b3), (.int (0 : Int32)), (.ref w_nonce_u0)])) (fun _ k => XS.aloadN X27.here hx rfl (hb hby d10_58) rfl rfl k) ?_
    refine Goes.step (S' := T27.setTop (mkF m 60 #[.val (.ref u0), .val (.ref b3), .unset] [(.int (13 : Int32)), (.ref b3), (.int (0 : Int32)), (.ref w_nonce_u0)])) (fun _ k => own_len X27 hx hZ e27 V_17 (hb hby d10_59) _ k) ?_
    refine Goes.step (S' := T27.setTop (mkF m 62 #[.val (.ref u0), .val (.ref b3), .unset] [(.int (12 : Int32)), (.int (13 : Int32)), (.ref b3), (.int (0 : Int32)), (.ref w_nonce_u0)])) (fun _ k => XS.bipush X27.here hx rfl (hb hby d10_60) k) ?_
    refine Goes.step (S' := T27.setTop (mkF m 63 #[.val (.ref u0), .val (.ref b3), .unset] [(.int (1 : Int32)), (.ref b3), (.int (0 : Int32)), (.ref w_nonce_u0)])) (fun _ k => XS.isub X27.here hx rfl (hb hby d10_62) rfl k) ?_
    refine Goes.step (S' := T27.setTop (mkF m 65 #[.val (.ref u0), .val (.ref b3), .unset] [(.int (12 : Int32)), (.int (1 : Int32)), (.ref b3), (.int (0 : Int32)), (.ref w_nonce_u0)])) (fun _ k => XS.bipush X27.here hx rfl (hb hby d10_63) k) ?_
    obtain ⟨T28, h28, L28, X28, e28, N28, K28, V_28, st28⟩ := own_copy (rl := [(nar .byte ((1 : Int32).toInt8.toInt32)), (vs_w_nonce_u0.getD 0 0), (vs_w_nonce_u0.getD 1 0), (vs_w_nonce_u0.getD 2 0), (vs_w_nonce_u0.getD 3 0), (vs_w_nonce_u0.getD 4 0), (vs_w_nonce_u0.getD 5 0), (vs_w_nonce_u0.getD 6 0), (vs_w_nonce_u0.getD 7 0), (vs_w_nonce_u0.getD 8 0), (vs_w_nonce_u0.getD 9 0), (vs_w_nonce_u0.getD 10 0), (vs_w_nonce_u0.getD 11 0)]) X27 hx hZ hown (hw _ (List.mem_of_getElem? (i := 62) rfl)) (hw _ (List.mem_of_getElem? (i := 65) rfl)) (hw _ (List.mem_of_getElem? (i := 63) rfl)) (hw _ (List.mem_of_getElem? (i := 64) rfl)) e27 V20 V_17 (by decide) (by decide) (by decide) (own_s410a_65 w_generation_u0 n_w_nonce_u0 vs_w_nonce_u0 hl_w_nonce_u0 hn_w_nonce_u0 hlen evs_4) (by decide) rfl N18 g6 (g := (mkF m 65 #[.val (.ref u0), .val (.ref b3), .unset] [(.int (12 : Int32)), (.int (1 : Int32)), (.ref b3), (.int (0 : Int32)), (.ref w_nonce_u0)])) rfl (by rw [hml]; rfl) rfl (hb hby d10_65) (by decide) (W := 0) (by show 2 * 0 + _ ≤ _; exact Nat.le_of_eq rfl) (by decide)
    have V29 := V20.keep K28 (ninS ne4 nin0)
    have E_30 := E_21.keep K28
    have F31 := F22.keep K28 (ninS ne5 nin0)
    have F32 := F23.keep K28 (ninS ne5 nin0)
    have F33 := F24.keep K28 (ninS ne5 nin0)
    have K34 : Keep h0 h28 [] := K25.trans K28 (allS (Or.inr O8) all0)
    have Z35 : n0 ≤ h28.size := Nat.le_trans Z19 K28.1
    refine Goes.step (S' := T28.setTop (mkF m 68 #[.val (.ref u0), .val (.ref b3), .unset] [])) st28 ?_
    refine Goes.step (S' := T28.setTop (mkF m 69 #[.val (.ref u0), .val (.ref b3), .unset] [(.ref b3)])) (fun _ k => XS.aloadN X28.here hx rfl (hb hby d10_68) rfl rfl k) ?_
    refine Goes.retA X28 hx Bd.notSynchronized Bd.returns rfl (hb hby d10_69) (by decide) (by decide) ?_
    refine ⟨b3, k3, rfl, N28, ?_, ?_, ?_, ?_⟩
    · first | exact K34 | (rw [e28]; exact K34)
    · first | exact O8 | (rw [e28]; exact O8)
    · first | exact V_28 | (rw [e28]; exact V_28)
    · first | exact hk3 | (rw [e28]; exact hk3)
theorem d10_23 : decode prog_12_method_9_code 23 = .ok (.iconst 1, 1) := by decide +kernel
theorem d10_24 : decode prog_12_method_9_code 24 = .ok (.istore_n 2, 1) := by decide +kernel
theorem d10_25 : decode prog_12_method_9_code 25 = .ok (.iload_n 2, 1) := by decide +kernel
theorem d10_26 : decode prog_12_method_9_code 26 = .ok (.iconst 4, 1) := by decide +kernel
theorem d10_27 : decode prog_12_method_9_code 27 = .ok (.if_icmp .gt 25, 3) := by decide +kernel
theorem d10_30 : decode prog_12_method_9_code 30 = .ok (.aload_n 1, 1) := by decide +kernel
theorem d10_31 : decode prog_12_method_9_code 31 = .ok (.iload_n 2, 1) := by decide +kernel
theorem d10_32 : decode prog_12_method_9_code 32 = .ok (.aload_n 0, 1) := by decide +kernel
theorem d10_33 : decode prog_12_method_9_code 33 = .ok (.getfield 15, 3) := by decide +kernel
theorem d10_36 : decode prog_12_method_9_code 36 = .ok (.bipush 8, 2) := by decide +kernel
theorem d10_38 : decode prog_12_method_9_code 38 = .ok (.iconst 4, 1) := by decide +kernel
theorem d10_39 : decode prog_12_method_9_code 39 = .ok (.iload_n 2, 1) := by decide +kernel
theorem d10_40 : decode prog_12_method_9_code 40 = .ok (.isub, 1) := by decide +kernel
theorem d10_41 : decode prog_12_method_9_code 41 = .ok (.imul, 1) := by decide +kernel
theorem d10_42 : decode prog_12_method_9_code 42 = .ok (.lushr, 1) := by decide +kernel
theorem d10_43 : decode prog_12_method_9_code 43 = .ok (.l2i, 1) := by decide +kernel
theorem d10_44 : decode prog_12_method_9_code 44 = .ok (.i2b, 1) := by decide +kernel
theorem d10_45 : decode prog_12_method_9_code 45 = .ok (.bastore, 1) := by decide +kernel
theorem d10_46 : decode prog_12_method_9_code 46 = .ok (.iinc 2 1, 3) := by decide +kernel
theorem d10_49 : decode prog_12_method_9_code 49 = .ok (.goto (-24), 3) := by decide +kernel
theorem ef10b (m : MethodId) (u0 : Addr) : entryFrame m #[(.ref u0)] 3 = mkF m 0 #[.val (.ref u0), .unset, .unset] [] := by first | (simp [entryFrame, mkF, argsToLocals, Value.category]; done) | rfl
theorem own_case10b_4 (w_generation_u0 : Int64) (n_w_nonce_u0 : Int32) (vs_w_nonce_u0 : List Int32) (hl_w_nonce_u0 : vs_w_nonce_u0.length = n_w_nonce_u0.toNatClampNeg) (hn_w_nonce_u0 : ¬ n_w_nonce_u0 < 0) (hlen : n_w_nonce_u0 = (12 : Int32)) (vs_4 : Int32) (evs_4 : vs_4 = (f6 (2 : Int32))) : vs_4 = (17 : Int32) := by
  rw [evs_4]; rfl
theorem own_s410b_65 (w_generation_u0 : Int64) (n_w_nonce_u0 : Int32) (vs_w_nonce_u0 : List Int32) (hl_w_nonce_u0 : vs_w_nonce_u0.length = n_w_nonce_u0.toNatClampNeg) (hn_w_nonce_u0 : ¬ n_w_nonce_u0 < 0) (hlen : n_w_nonce_u0 = (12 : Int32)) (evs_4 : (17 : Int32) = (f6 (2 : Int32))) : ((0 : Int32)).toNatClampNeg + ((12 : Int32)).toNatClampNeg ≤ (n_w_nonce_u0).toNatClampNeg := by
  rw [hlen]; decide
def Q10b (Z : State) (u0 : Addr) (w_generation_u0 : Int64) (w_nonce_u0 : Addr) (k_w_nonce_u0 : ClassId) (n_w_nonce_u0 : Int32) (vs_w_nonce_u0 : List Int32) (h0 : Heap) (n0 : Nat) (v : Option Value) (h : Heap) (L : List Loc) : Prop := ∃ (r0 : Addr) (kk0 : ClassId), v = some (.ref r0) ∧ Fr n0 L ∧ Keep h0 h [] ∧ h0.size ≤ r0 ∧ AI Z h r0 kk0 .byte (17 : Int32) [(nar .byte ((2 : Int32).toInt8.toInt32)), (nar .byte ((((w_generation_u0.toUInt64 >>> ((24 : Int32) &&& 0x3f).toInt64.toUInt64).toInt64).toInt32).toInt8.toInt32)), (nar .byte ((((w_generation_u0.toUInt64 >>> ((16 : Int32) &&& 0x3f).toInt64.toUInt64).toInt64).toInt32).toInt8.toInt32)), (nar .byte ((((w_generation_u0.toUInt64 >>> ((8 : Int32) &&& 0x3f).toInt64.toUInt64).toInt64).toInt32).toInt8.toInt32)), (nar .byte ((((w_generation_u0.toUInt64 >>> ((0 : Int32) &&& 0x3f).toInt64.toUInt64).toInt64).toInt32).toInt8.toInt32)), (vs_w_nonce_u0.getD 0 0), (vs_w_nonce_u0.getD 1 0), (vs_w_nonce_u0.getD 2 0), (vs_w_nonce_u0.getD 3 0), (vs_w_nonce_u0.getD 4 0), (vs_w_nonce_u0.getD 5 0), (vs_w_nonce_u0.getD 6 0), (vs_w_nonce_u0.getD 7 0), (vs_w_nonce_u0.getD 8 0), (vs_w_nonce_u0.getD 9 0), (vs_w_nonce_u0.getD 10 0), (vs_w_nonce_u0.getD 11 0)] ∧ Z.vm.findClass "[B" = some kk0
set_option maxRecDepth 65536 in
set_option maxHeartbeats 40000000 in
theorem rm10b (l : Launch) (Z : State) (a0 : Array Value) (hw : ∀ d ∈ tables_1, d.before a0 Z = true) (ws : List Jvm.Cond) (u0 : Addr) (w_generation_u0 : Int64) (w_nonce_u0 : Addr) (k_w_nonce_u0 : ClassId) (n_w_nonce_u0 : Int32) (vs_w_nonce_u0 : List Int32) (h0 : Heap) (n0 : Nat) (Z0 : n0 ≤ h0.size) (E_u0 : Exa Z h0 u0 "com/example/isopod/isopod/RecordHeader") (F_version_u0 : Fld Z h0 u0 "com/example/isopod/isopod/RecordHeader" "version" "I" (.int (2 : Int32))) (F_generation_u0 : Fld Z h0 u0 "com/example/isopod/isopod/RecordHeader" "generation" "J" (.long w_generation_u0)) (F_nonce_u0 : Fld Z h0 u0 "com/example/isopod/isopod/RecordHeader" "nonce" "[B" (.ref w_nonce_u0)) (V_w_nonce_u0 : AI Z h0 w_nonce_u0 k_w_nonce_u0 .byte n_w_nonce_u0 vs_w_nonce_u0) (hk_w_nonce_u0 : Z.vm.findClass "[B" = some k_w_nonce_u0) (hlen : n_w_nonce_u0 = (12 : Int32)) :
    MetFree l (⟨"com/example/isopod/isopod/RecordHeader", "toBytes", "()[B"⟩ : MethodName) (head1 (Jvm.Cond.code (⟨"com/example/isopod/isopod/RecordHeader", "toBytes", "()[B"⟩ : MethodName) prog_12_method_9_code 3 (some (.array .byte)) :: ws) ({ frames := 2, cells := 1, slots := 17, locals := 25 } : Room)) (fun a U => a = #[(.ref u0)] ∧ Z.Warmed39 U.vm ∧ U.heap = h0) (fun _ _ _ _ _ => True) (fun _ U o U' => ∃ v L, o = .returned v ∧ Q10b Z u0 w_generation_u0 w_nonce_u0 k_w_nonce_u0 n_w_nonce_u0 vs_w_nonce_u0 h0 n0 v U'.heap L ∧ FrameEnd U o U' L ({ frames := 2, cells := 1, slots := 17, locals := 25 } : Room).cells ({ frames := 2, cells := 1, slots := 17, locals := 25 } : Room).slots) := by
  refine MetFree.of_bodySF (plainFor_of_name pn0) hisR ?_
  intro p e s m args below meth c s₁ Bd hml0 hP hK
  obtain ⟨rfl, hZ, hh⟩ := hP
  have hx := Bd.exec
  have hby := Bd.bytes
  have hml : c.maxLocals = 3 := hml0
  have hown : s.vm.findClass "com/example/isopod/isopod/RecordHeader" = some m.cls := findClass_of_methodNamed Bd.named
  have hnm := (name_of_methodNamed Bd.named Bd.method).1
  have X0 : Stand p l e ({ frames := 2, cells := 1, slots := 17, locals := 25 } : Room) s m #[(.ref u0)] below meth c s₁ [] 0 0 := Stand.of_body Bd
  have e0 : s₁.heap = h0 := by rw [← hh, Bd.state]; rfl
  have N0 := Fr.nil n0
  have K0 : Keep h0 h0 [] := Keep.refl _ _
  have hl_w_nonce_u0 : vs_w_nonce_u0.length = n_w_nonce_u0.toNatClampNeg := V_w_nonce_u0.2
  have hn_w_nonce_u0 : ¬ n_w_nonce_u0 < 0 := V_w_nonce_u0.nn
  refine Goes.out (Q := fun o U' => ∃ v L, o = .returned v ∧ Q10b Z u0 w_generation_u0 w_nonce_u0 k_w_nonce_u0 n_w_nonce_u0 vs_w_nonce_u0 h0 n0 v U'.heap L ∧ FrameEnd s o U' L ({ frames := 2, cells := 1, slots := 17, locals := 25 } : Room).cells ({ frames := 2, cells := 1, slots := 17, locals := 25 } : Room).slots) ?_
  refine Goes.step (S' := s₁.setTop (mkF m 0 #[.val (.ref u0), .unset, .unset] [])) (fun _ k => castTop (ef10b m u0) k) ?_
  refine Goes.step (S' := s₁.setTop (mkF m 1 #[.val (.ref u0), .unset, .unset] [(.ref u0)])) (fun _ k => XS.aloadN X0.here hx rfl (hb hby d10_0) rfl rfl k) ?_
  obtain ⟨cq1, kq1, q1a, q1b, q1c⟩ := isOf hZ e0 E_u0
  obtain ⟨_, _, ⟨T1, L1, k1, n1⟩, -, X1, ⟨Lc1, hQ1, l1, y1, z1⟩, st1⟩ := X0.virtualBack hx (y := (⟨"com/example/isopod/isopod/RecordHeader", "length", "()I"⟩ : MethodName)) (z := (⟨"com/example/isopod/isopod/RecordHeader", "length", "()I"⟩ : MethodName)) hown (mvT hZ (hw _ (List.mem_of_getElem? (i := 61) rfl))) (mvT hZ (hw _ (List.mem_of_getElem? (i := 40) rfl))) (notFace_of_selects (args := #[]) (mvT hZ (hw _ (List.mem_of_getElem? (i := 42) rfl)))) (mvT hZ (hw _ (List.mem_of_getElem? (i := 42) rfl))) (mvT hZ (hw _ (List.mem_of_getElem? (i := 41) rfl))) (by decide) (backOf (W := 0) (rm6 l Z a0 hw [] u0 ((2 : Int32)) h0 n0 Z0 E_u0 F_version_u0) hZ (hw _ (List.mem_of_getElem? (i := 43) rfl)) (hw _ (List.mem_of_getElem? (i := 3) rfl)) (by decide) (by decide)) q1a q1c (g := (mkF m 1 #[.val (.ref u0), .unset, .unset] [(.ref u0)])) rfl (by rw [hml]; rfl) (Steps.refl _) (argsL := []) (rest := []) (lenOf pd2 rfl) rfl (by show 2 * 0 + _ ≤ _; exact Nat.le_of_eq rfl) (hb hby d10_1) (fun _ _ => ⟨rfl, e0, (by decide : 0 + 0 ≤ _), (by decide : 0 + 0 ≤ _)⟩)
  dsimp only [Pt.U, Pt.locs, Pt.cells, Pt.slots] at X1 l1 y1 z1 st1 hQ1
  replace X1 := X1.more (Nat.le_of_eq (y1 : k1 = 0)) (Nat.le_of_eq (z1 : n1 = 0))
  obtain ⟨rfl, N1q, e1⟩ := hQ1
  have N2 := own_frapp l1 N0 N1q
  refine Goes.step (S' := T1.setTop (mkF m 4 #[.val (.ref u0), .unset, .unset] [(.int (f6 (2 : Int32)))])) (fun _ k => st1.trans k) ?_
  obtain ⟨vs_4, evs_4⟩ : ∃ z : Int32, z = (f6 (2 : Int32)) := ⟨_, rfl⟩
  rw [← evs_4]
  have hcase := (own_case10b_4 w_generation_u0 n_w_nonce_u0 vs_w_nonce_u0 hl_w_nonce_u0 hn_w_nonce_u0 hlen vs_4 evs_4)
  rcases hcase with rfl
  · obtain ⟨T3, h3, k3, X3, e3, E3, A3, hk3, st3⟩ := own_newB X1 hx hZ (hw _ (List.mem_of_getElem? (i := 0) rfl)) e1 (g := (mkF m 4 #[.val (.ref u0), .unset, .unset] [(.int (17 : Int32))])) rfl (hb hby d10_4) rfl (by decide) (cap := 17) (by decide) (by decide) (by decide) (by decide)
    obtain ⟨b3, g3⟩ : ∃ z, z = h0.size := ⟨_, rfl⟩
    rw [← g3] at A3 st3
    have ne4 : w_nonce_u0 ≠ b3 := Nat.ne_of_lt (Nat.lt_of_lt_of_le V_w_nonce_u0.lt (Nat.le_of_eq g3.symm))
    have ne5 : u0 ≠ b3 := Nat.ne_of_lt (Nat.lt_of_lt_of_le E_u0.lt (Nat.le_of_eq g3.symm))
    have g6 : n0 ≤ b3 := Nat.le_trans Z0 (Nat.le_of_eq g3.symm)
    have Z7 : n0 ≤ h3.size := Nat.le_trans Z0 E3.1
    have O8 : h0.size ≤ b3 := Nat.le_trans K0.1 (Nat.le_of_eq g3.symm)
    have V9 := V_w_nonce_u0.ext E3
    have E_10 := E_u0.ext E3
    have F11 := F_version_u0.ext E3
    have F12 := F_generation_u0.ext E3
    have F13 := F_nonce_u0.ext E3
    have K14 : Keep h0 h3 [] := K0.ext E3
    have V15 : AI Z h3 b3 k3 .byte (17 : Int32) [(0 : Int32), (0 : Int32), (0 : Int32), (0 : Int32), (0 : Int32), (0 : Int32), (0 : Int32), (0 : Int32), (0 : Int32), (0 : Int32), (0 : Int32), (0 : Int32), (0 : Int32), (0 : Int32), (0 : Int32), (0 : Int32), (0 : Int32)] := own_new A3 (by decide) rfl
    refine Goes.step (S' := T3.setTop (mkF m 6 #[.val (.ref u0), .unset, .unset] [(.ref b3)])) st3 ?_
    refine Goes.step (S' := T3.setTop (mkF m 7 #[.val (.ref u0), .val (.ref b3), .unset] [])) (fun _ k => XS.astoreN X3.here hx rfl (hb hby d10_6) rfl rfl (l' := #[.val (.ref u0), .val (.ref b3), .unset]) rfl k) ?_
    refine Goes.step (S' := T3.setTop (mkF m 8 #[.val (.ref u0), .val (.ref b3), .unset] [(.ref b3)])) (fun _ k => XS.aloadN X3.here hx rfl (hb hby d10_7) rfl rfl k) ?_
    refine Goes.step (S' := T3.setTop (mkF m 9 #[.val (.ref u0), .val (.ref b3), .unset] [(.int (0 : Int32)), (.ref b3)])) (fun _ k => XS.iconst X3.here hx rfl (hb hby d10_8) k) ?_
    refine Goes.step (S' := T3.setTop (mkF m 10 #[.val (.ref u0), .val (.ref b3), .unset] [(.ref u0), (.int (0 : Int32)), (.ref b3)])) (fun _ k => XS.aloadN X3.here hx rfl (hb hby d10_9) rfl rfl k) ?_
    obtain ⟨T16, X16, e16, st16⟩ := getF X3 hx hZ hown (host := "") (Or.inl (hw _ (List.mem_of_getElem? (i := 23) rfl))) Via.refl e3 F11 (g := (mkF m 10 #[.val (.ref u0), .val (.ref b3), .unset] [(.ref u0), (.int (0 : Int32)), (.ref b3)])) rfl rfl (hb hby d10_10)
    refine Goes.step (S' := T16.setTop (mkF m 13 #[.val (.ref u0), .val (.ref b3), .unset] [(.int (2 : Int32)), (.int (0 : Int32)), (.ref b3)])) st16 ?_
    refine Goes.step (S' := T16.setTop (mkF m 14 #[.val (.ref u0), .val (.ref b3), .unset] [(.int ((2 : Int32).toInt8.toInt32)), (.int (0 : Int32)), (.ref b3)])) (fun _ k => XS.i2b X16.here hx rfl (hb hby d10_13) rfl k) ?_
    obtain ⟨T17, h17, X17, e17, W17, V_17, st17⟩ := own_bastore X16 hx hZ e16 V15 ⟨by decide, by decide⟩ (g := (mkF m 14 #[.val (.ref u0), .val (.ref b3), .unset] [(.int ((2 : Int32).toInt8.toInt32)), (.int (0 : Int32)), (.ref b3)])) rfl rfl (hb hby d10_14)
    replace V_17 : AI Z h17 b3 k3 .byte (17 : Int32) [(nar .byte ((2 : Int32).toInt8.toInt32)), (0 : Int32), (0 : Int32), (0 : Int32), (0 : Int32), (0 : Int32), (0 : Int32), (0 : Int32), (0 : Int32), (0 : Int32), (0 : Int32), (0 : Int32), (0 : Int32), (0 : Int32), (0 : Int32), (0 : Int32), (0 : Int32)] := V_17
    have N18 := Fr.snoc X17 N2 g6
    have Z19 : n0 ≤ h17.size := Nat.le_trans Z7 (Nat.le_of_eq W17.size.symm)
    have V20 := V9.other W17 ne4
    have E_21 := E_10.wr W17
    have F22 := F11.other W17 (Or.inl ne5)
    have F23 := F12.other W17 (Or.inl ne5)
    have F24 := F13.other W17 (Or.inl ne5)
    have K25 : Keep h0 h17 [] := K14.wr W17 (Or.inr O8)
    refine Goes.step (S' := T17.setTop (mkF m 15 #[.val (.ref u0), .val (.ref b3), .unset] [])) st17 ?_
    refine Goes.step (S' := T17.setTop (mkF m 16 #[.val (.ref u0), .val (.ref b3), .unset] [(.ref u0)])) (fun _ k => XS.aloadN X17.here hx rfl (hb hby d10_15) rfl rfl k) ?_
    obtain ⟨T26, X26, e26, st26⟩ := getF X17 hx hZ hown (host := "") (Or.inl (hw _ (List.mem_of_getElem? (i := 23) rfl))) Via.refl e17 F22 (g := (mkF m 16 #[.val (.ref u0), .val (.ref b3), .unset] [(.ref u0)])) rfl rfl (hb hby d10_16)
    refine Goes.step (S' := T26.setTop (mkF m 19 #[.val (.ref u0), .val (.ref b3), .unset] [(.int (2 : Int32))])) st26 ?_
    refine Goes.step (S' := T26.setTop (mkF m 20 #[.val (.ref u0), .val (.ref b3), .unset] [(.int (2 : Int32)), (.int (2 : Int32))])) (fun _ k => XS.iconst X26.here hx rfl (hb hby d10_19) k) ?_
    refine Goes.step (S' := T26.setTop (mkF m 23 #[.val (.ref u0), .val (.ref b3), .unset] [])) (fun _ k => XS.icmpNo X26.here hx rfl (hb hby d10_20) rfl (teq (rfl : (2 : Int32) = (2 : Int32))).2 k) ?_
    refine Goes.step (S' := T26.setTop (mkF m 24 #[.val (.ref u0), .val (.ref b3), .unset] [(.int (1 : Int32))])) (fun _ k => XS.iconst X26.here hx rfl (hb hby d10_23) k) ?_
    refine Goes.step (S' := T26.setTop (mkF m 25 #[.val (.ref u0), .val (.ref b3), .val (.int (1 : Int32))] [])) (fun _ k => XS.istoreN X26.here hx rfl (hb hby d10_24) rfl (l' := #[.val (.ref u0), .val (.ref b3), .val (.int (1 : Int32))]) rfl k) ?_
    refine Goes.step (S' := T26.setTop (mkF m 26 #[.val (.ref u0), .val (.ref b3), .val (.int (1 : Int32))] [(.int (1 : Int32))])) (fun _ k => XS.iloadN X26.here hx rfl (hb hby d10_25) rfl  k) ?_
    refine Goes.step (S' := T26.setTop (mkF m 27 #[.val (.ref u0), .val (.ref b3), .val (.int (1 : Int32))] [(.int (4 : Int32)), (.int (1 : Int32))])) (fun _ k => XS.iconst X26.here hx rfl (hb hby d10_26) k) ?_
    refine Goes.step (S' := T26.setTop (mkF m 30 #[.val (.ref u0), .val (.ref b3), .val (.int (1 : Int32))] [])) (fun _ k => XS.icmpNo X26.here hx rfl (hb hby d10_27) rfl (flt (by decide)).2.2.1 k) ?_
    refine Goes.step (S' := T26.setTop (mkF m 31 #[.val (.ref u0), .val (.ref b3), .val (.int (1 : Int32))] [(.ref b3)])) (fun _ k => XS.aloadN X26.here hx rfl (hb hby d10_30) rfl rfl k) ?_
    refine Goes.step (S' := T26.setTop (mkF m 32 #[.val (.ref u0), .val (.ref b3), .val (.int (1 : Int32))] [(.int (1 : Int32)), (.ref b3)])) (fun _ k => XS.iloadN X26.here hx rfl (hb hby d10_31) rfl  k) ?_
    refine Goes.step (S' := T26.setTop (mkF m 33 #[.val (.ref u0), .val (.ref b3), .val (.int (1 : Int32))] [(.ref u0), (.int (1 : Int32)), (.ref b3)])) (fun _ k => XS.aloadN X26.here hx rfl (hb hby d10_32) rfl rfl k) ?_
    obtain ⟨T27, X27, e27, st27⟩ := getF X26 hx hZ hown (host := "") (Or.inl (hw _ (List.mem_of_getElem? (i := 25) rfl))) Via.refl e26 F23 (g := (mkF m 33 #[.val (.ref u0), .val (.ref b3), .val (.int (1 : Int32))] [(.ref u0), (.int (1 : Int32)), (.ref b3)])) rfl rfl (hb hby d10_33)
    refine Goes.step (S' := T27.setTop (mkF m 36 #[.val (.ref u0), .val (.ref b3), .val (.int (1 : Int32))] [(.long w_generation_u0), (.int (1 : Int32)), (.ref b3)])) st27 ?_
    refine Goes.step (S' := T27.setTop (mkF m 38 #[.val (.ref u0), .val (.ref b3), .val (.int (1 : Int32))] [(.int (8 : Int32)), (.long w_generation_u0), (.int (1 : Int32)), (.ref b3)])) (fun _ k => XS.bipush X27.here hx rfl (hb hby d10_36) k) ?_
    refine Goes.step (S' := T27.setTop (mkF m 39 #[.val (.ref u0), .val (.ref b3), .val (.int (1 : Int32))] [(.int (4 : Int32)), (.int (8 : Int32)), (.long w_generation_u0), (.int (1 : Int32)), (.ref b3)])) (fun _ k => XS.iconst X27.here hx rfl (hb hby d10_38) k) ?_
    refine Goes.step (S' := T27.setTop (mkF m 40 #[.val (.ref u0), .val (.ref b3), .val (.int (1 : Int32))] [(.int (1 : Int32)), (.int (4 : Int32)), (.int (8 : Int32)), (.long w_generation_u0), (.int (1 : Int32)), (.ref b3)])) (fun _ k => XS.iloadN X27.here hx rfl (hb hby d10_39) rfl  k) ?_
    refine Goes.step (S' := T27.setTop (mkF m 41 #[.val (.ref u0), .val (.ref b3), .val (.int (1 : Int32))] [(.int (3 : Int32)), (.int (8 : Int32)), (.long w_generation_u0), (.int (1 : Int32)), (.ref b3)])) (fun _ k => XS.isub X27.here hx rfl (hb hby d10_40) rfl k) ?_
    refine Goes.step (S' := T27.setTop (mkF m 42 #[.val (.ref u0), .val (.ref b3), .val (.int (1 : Int32))] [(.int (24 : Int32)), (.long w_generation_u0), (.int (1 : Int32)), (.ref b3)])) (fun _ k => XS.imul X27.here hx rfl (hb hby d10_41) rfl k) ?_
    refine Goes.step (S' := T27.setTop (mkF m 43 #[.val (.ref u0), .val (.ref b3), .val (.int (1 : Int32))] [(.long ((w_generation_u0.toUInt64 >>> ((24 : Int32) &&& 0x3f).toInt64.toUInt64).toInt64)), (.int (1 : Int32)), (.ref b3)])) (fun _ k => XS.lushr X27.here hx rfl (hb hby d10_42) rfl k) ?_
    refine Goes.step (S' := T27.setTop (mkF m 44 #[.val (.ref u0), .val (.ref b3), .val (.int (1 : Int32))] [(.int (((w_generation_u0.toUInt64 >>> ((24 : Int32) &&& 0x3f).toInt64.toUInt64).toInt64).toInt32)), (.int (1 : Int32)), (.ref b3)])) (fun _ k => XS.l2i X27.here hx rfl (hb hby d10_43) rfl k) ?_
    refine Goes.step (S' := T27.setTop (mkF m 45 #[.val (.ref u0), .val (.ref b3), .val (.int (1 : Int32))] [(.int ((((w_generation_u0.toUInt64 >>> ((24 : Int32) &&& 0x3f).toInt64.toUInt64).toInt64).toInt32).toInt8.toInt32)), (.int (1 : Int32)), (.ref b3)])) (fun _ k => XS.i2b X27.here hx rfl (hb hby d10_44) rfl k) ?_
    obtain ⟨T28, h28, X28, e28, W28, V_28, st28⟩ := own_bastore X27 hx hZ e27 V_17 ⟨by decide, by decide⟩ (g := (mkF m 45 #[.val (.ref u0), .val (.ref b3), .val (.int (1 : Int32))] [(.int ((((w_generation_u0.toUInt64 >>> ((24 : Int32) &&& 0x3f).toInt64.toUInt64).toInt64).toInt32).toInt8.toInt32)), (.int (1 : Int32)), (.ref b3)])) rfl rfl (hb hby d10_45)
    replace V_28 : AI Z h28 b3 k3 .byte (17 : Int32) [(nar .byte ((2 : Int32).toInt8.toInt32)), (nar .byte ((((w_generation_u0.toUInt64 >>> ((24 : Int32) &&& 0x3f).toInt64.toUInt64).toInt64).toInt32).toInt8.toInt32)), (0 : Int32), (0 : Int32), (0 : Int32), (0 : Int32), (0 : Int32), (0 : Int32), (0 : Int32), (0 : Int32), (0 : Int32), (0 : Int32), (0 : Int32), (0 : Int32), (0 : Int32), (0 : Int32), (0 : Int32)] := V_28
    have N29 := Fr.snoc X28 N18 g6
    have Z30 : n0 ≤ h28.size := Nat.le_trans Z19 (Nat.le_of_eq W28.size.symm)
    have V31 := V20.other W28 ne4
    have E_32 := E_21.wr W28
    have F33 := F22.other W28 (Or.inl ne5)
    have F34 := F23.other W28 (Or.inl ne5)
    have F35 := F24.other W28 (Or.inl ne5)
    have K36 : Keep h0 h28 [] := K25.wr W28 (Or.inr O8)
    refine Goes.step (S' := T28.setTop (mkF m 46 #[.val (.ref u0), .val (.ref b3), .val (.int (1 : Int32))] [])) st28 ?_
    refine Goes.step (S' := T28.setTop (mkF m 49 #[.val (.ref u0), .val (.ref b3), .val (.int (2 : Int32))] [])) (fun _ k => XS.iinc X28.here hx rfl (hb hby d10_46) rfl (l' := #[.val (.ref u0), .val (.ref b3), .val (.int (2 : Int32))]) rfl k) ?_
    refine Goes.step (S' := T28.setTop (mkF m 25 #[.val (.ref u0), .val (.ref b3), .val (.int (2 : Int32))] [])) (fun _ k => XS.goto X28.here hx rfl (pc0 := 49) (pc' := 25) rfl (hb hby d10_49) (by decide) (by decide) k) ?_
    refine Goes.step (S' := T28.setTop (mkF m 26 #[.val (.ref u0), .val (.ref b3), .val (.int (2 : Int32))] [(.int (2 : Int32))])) (fun _ k => XS.iloadN X28.here hx rfl (hb hby d10_25) rfl  k) ?_
    refine Goes.step (S' := T28.setTop (mkF m 27 #[.val (.ref u0), .val (.ref b3), .val (.int (2 : Int32))] [(.int (4 : Int32)), (.int (2 : Int32))])) (fun _ k => XS.iconst X28.here hx rfl (hb hby d10_26) k) ?_
    refine Goes.step (S' := T28.setTop (mkF m 30 #[.val (.ref u0), .val (.ref b3), .val (.int (2 : Int32))] [])) (fun _ k => XS.icmpNo X28.here hx rfl (hb hby d10_27) rfl (flt (by decide)).2.2.1 k) ?_
    refine Goes.step (S' := T28.setTop (mkF m 31 #[.val (.ref u0), .val (.ref b3), .val (.int (2 : Int32))] [(.ref b3)])) (fun _ k => XS.aloadN X28.here hx rfl (hb hby d10_30) rfl rfl k) ?_
    refine Goes.step (S' := T28.setTop (mkF m 32 #[.val (.ref u0), .val (.ref b3), .val (.int (2 : Int32))] [(.int (2 : Int32)), (.ref b3)])) (fun _ k => XS.iloadN X28.here hx rfl (hb hby d10_31) rfl  k) ?_
    refine Goes.step (S' := T28.setTop (mkF m 33 #[.val (.ref u0), .val (.ref b3), .val (.int (2 : Int32))] [(.ref u0), (.int (2 : Int32)), (.ref b3)])) (fun _ k => XS.aloadN X28.here hx rfl (hb hby d10_32) rfl rfl k) ?_
    obtain ⟨T37, X37, e37, st37⟩ := getF X28 hx hZ hown (host := "") (Or.inl (hw _ (List.mem_of_getElem? (i := 25) rfl))) Via.refl e28 F34 (g := (mkF m 33 #[.val (.ref u0), .val (.ref b3), .val (.int (2 : Int32))] [(.ref u0), (.int (2 : Int32)), (.ref b3)])) rfl rfl (hb hby d10_33)
    refine Goes.step (S' := T37.setTop (mkF m 36 #[.val (.ref u0), .val (.ref b3), .val (.int (2 : Int32))] [(.long w_generation_u0), (.int (2 : Int32)), (.ref b3)])) st37 ?_
    refine Goes.step (S' := T37.setTop (mkF m 38 #[.val (.ref u0), .val (.ref b3), .val (.int (2 : Int32))] [(.int (8 : Int32)), (.long w_generation_u0), (.int (2 : Int32)), (.ref b3)])) (fun _ k => XS.bipush X37.here hx rfl (hb hby d10_36) k) ?_
    refine Goes.step (S' := T37.setTop (mkF m 39 #[.val (.ref u0), .val (.ref b3), .val (.int (2 : Int32))] [(.int (4 : Int32)), (.int (8 : Int32)), (.long w_generation_u0), (.int (2 : Int32)), (.ref b3)])) (fun _ k => XS.iconst X37.here hx rfl (hb hby d10_38) k) ?_
    refine Goes.step (S' := T37.setTop (mkF m 40 #[.val (.ref u0), .val (.ref b3), .val (.int (2 : Int32))] [(.int (2 : Int32)), (.int (4 : Int32)), (.int (8 : Int32)), (.long w_generation_u0), (.int (2 : Int32)), (.ref b3)])) (fun _ k => XS.iloadN X37.here hx rfl (hb hby d10_39) rfl  k) ?_
    refine Goes.step (S' := T37.setTop (mkF m 41 #[.val (.ref u0), .val (.ref b3), .val (.int (2 : Int32))] [(.int (2 : Int32)), (.int (8 : Int32)), (.long w_generation_u0), (.int (2 : Int32)), (.ref b3)])) (fun _ k => XS.isub X37.here hx rfl (hb hby d10_40) rfl k) ?_
    refine Goes.step (S' := T37.setTop (mkF m 42 #[.val (.ref u0), .val (.ref b3), .val (.int (2 : Int32))] [(.int (16 : Int32)), (.long w_generation_u0), (.int (2 : Int32)), (.ref b3)])) (fun _ k => XS.imul X37.here hx rfl (hb hby d10_41) rfl k) ?_
    refine Goes.step (S' := T37.setTop (mkF m 43 #[.val (.ref u0), .val (.ref b3), .val (.int (2 : Int32))] [(.long ((w_generation_u0.toUInt64 >>> ((16 : Int32) &&& 0x3f).toInt64.toUInt64).toInt64)), (.int (2 : Int32)), (.ref b3)])) (fun _ k => XS.lushr X37.here hx rfl (hb hby d10_42) rfl k) ?_
    refine Goes.step (S' := T37.setTop (mkF m 44 #[.val (.ref u0), .val (.ref b3), .val (.int (2 : Int32))] [(.int (((w_generation_u0.toUInt64 >>> ((16 : Int32) &&& 0x3f).toInt64.toUInt64).toInt64).toInt32)), (.int (2 : Int32)), (.ref b3)])) (fun _ k => XS.l2i X37.here hx rfl (hb hby d10_43) rfl k) ?_
    refine Goes.step (S' := T37.setTop (mkF m 45 #[.val (.ref u0), .val (.ref b3), .val (.int (2 : Int32))] [(.int ((((w_generation_u0.toUInt64 >>> ((16 : Int32) &&& 0x3f).toInt64.toUInt64).toInt64).toInt32).toInt8.toInt32)), (.int (2 : Int32)), (.ref b3)])) (fun _ k => XS.i2b X37.here hx rfl (hb hby d10_44) rfl k) ?_
    obtain ⟨T38, h38, X38, e38, W38, V_38, st38⟩ := own_bastore X37 hx hZ e37 V_28 ⟨by decide, by decide⟩ (g := (mkF m 45 #[.val (.ref u0), .val (.ref b3), .val (.int (2 : Int32))] [(.int ((((w_generation_u0.toUInt64 >>> ((16 : Int32) &&& 0x3f).toInt64.toUInt64).toInt64).toInt32).toInt8.toInt32)), (.int (2 : Int32)), (.ref b3)])) rfl rfl (hb hby d10_45)
    replace V_38 : AI Z h38 b3 k3 .byte (17 : Int32) [(nar .byte ((2 : Int32).toInt8.toInt32)), (nar .byte ((((w_generation_u0.toUInt64 >>> ((24 : Int32) &&& 0x3f).toInt64.toUInt64).toInt64).toInt32).toInt8.toInt32)), (nar .byte ((((w_generation_u0.toUInt64 >>> ((16 : Int32) &&& 0x3f).toInt64.toUInt64).toInt64).toInt32).toInt8.toInt32)), (0 : Int32), (0 : Int32), (0 : Int32), (0 : Int32), (0 : Int32), (0 : Int32), (0 : Int32), (0 : Int32), (0 : Int32), (0 : Int32), (0 : Int32), (0 : Int32), (0 : Int32), (0 : Int32)] := V_38
    have N39 := Fr.snoc X38 N29 g6
    have Z40 : n0 ≤ h38.size := Nat.le_trans Z30 (Nat.le_of_eq W38.size.symm)
    have V41 := V31.other W38 ne4
    have E_42 := E_32.wr W38
    have F43 := F33.other W38 (Or.inl ne5)
    have F44 := F34.other W38 (Or.inl ne5)
    have F45 := F35.other W38 (Or.inl ne5)
    have K46 : Keep h0 h38 [] := K36.wr W38 (Or.inr O8)
    refine Goes.step (S' := T38.setTop (mkF m 46 #[.val (.ref u0), .val (.ref b3), .val (.int (2 : Int32))] [])) st38 ?_
    refine Goes.step (S' := T38.setTop (mkF m 49 #[.val (.ref u0), .val (.ref b3), .val (.int (3 : Int32))] [])) (fun _ k => XS.iinc X38.here hx rfl (hb hby d10_46) rfl (l' := #[.val (.ref u0), .val (.ref b3), .val (.int (3 : Int32))]) rfl k) ?_
    refine Goes.step (S' := T38.setTop (mkF m 25 #[.val (.ref u0), .val (.ref b3), .val (.int (3 : Int32))] [])) (fun _ k => XS.goto X38.here hx rfl (pc0 := 49) (pc' := 25) rfl (hb hby d10_49) (by decide) (by decide) k) ?_
    refine Goes.step (S' := T38.setTop (mkF m 26 #[.val (.ref u0), .val (.ref b3), .val (.int (3 : Int32))] [(.int (3 : Int32))])) (fun _ k => XS.iloadN X38.here hx rfl (hb hby d10_25) rfl  k) ?_
    refine Goes.step (S' := T38.setTop (mkF m 27 #[.val (.ref u0), .val (.ref b3), .val (.int (3 : Int32))] [(.int (4 : Int32)), (.int (3 : Int32))])) (fun _ k => XS.iconst X38.here hx rfl (hb hby d10_26) k) ?_
    refine Goes.step (S' := T38.setTop (mkF m 30 #[.val (.ref u0), .val (.ref b3), .val (.int (3 : Int32))] [])) (fun _ k => XS.icmpNo X38.here hx rfl (hb hby d10_27) rfl (flt (by decide)).2.2.1 k) ?_
    refine Goes.step (S' := T38.setTop (mkF m 31 #[.val (.ref u0), .val (.ref b3), .val (.int (3 : Int32))] [(.ref b3)])) (fun _ k => XS.aloadN X38.here hx rfl (hb hby d10_30) rfl rfl k) ?_
    refine Goes.step (S' := T38.setTop (mkF m 32 #[.val (.ref u0), .val (.ref b3), .val (.int (3 : Int32))] [(.int (3 : Int32)), (.ref b3)])) (fun _ k => XS.iloadN X38.here hx rfl (hb hby d10_31) rfl  k) ?_
    refine Goes.step (S' := T38.setTop (mkF m 33 #[.val (.ref u0), .val (.ref b3), .val (.int (3 : Int32))] [(.ref u0), (.int (3 : Int32)), (.ref b3)])) (fun _ k => XS.aloadN X38.here hx rfl (hb hby d10_32) rfl rfl k) ?_
    obtain ⟨T47, X47, e47, st47⟩ := getF X38 hx hZ hown (host := "") (Or.inl (hw _ (List.mem_of_getElem? (i := 25) rfl))) Via.refl e38 F44 (g := (mkF m 33 #[.val (.ref u0), .val (.ref b3), .val (.int (3 : Int32))] [(.ref u0), (.int (3 : Int32)), (.ref b3)])) rfl rfl (hb hby d10_33)
    refine Goes.step (S' := T47.setTop (mkF m 36 #[.val (.ref u0), .val (.ref b3), .val (.int (3 : Int32))] [(.long w_generation_u0), (.int (3 : Int32)), (.ref b3)])) st47 ?_
    refine Goes.step (S' := T47.setTop (mkF m 38 #[.val (.ref u0), .val (.ref b3), .val (.int (3 : Int32))] [(.int (8 : Int32)), (.long w_generation_u0), (.int (3 : Int32)), (.ref b3)])) (fun _ k => XS.bipush X47.here hx rfl (hb hby d10_36) k) ?_
    refine Goes.step (S' := T47.setTop (mkF m 39 #[.val (.ref u0), .val (.ref b3), .val (.int (3 : Int32))] [(.int (4 : Int32)), (.int (8 : Int32)), (.long w_generation_u0), (.int (3 : Int32)), (.ref b3)])) (fun _ k => XS.iconst X47.here hx rfl (hb hby d10_38) k) ?_
    refine Goes.step (S' := T47.setTop (mkF m 40 #[.val (.ref u0), .val (.ref b3), .val (.int (3 : Int32))] [(.int (3 : Int32)), (.int (4 : Int32)), (.int (8 : Int32)), (.long w_generation_u0), (.int (3 : Int32)), (.ref b3)])) (fun _ k => XS.iloadN X47.here hx rfl (hb hby d10_39) rfl  k) ?_
    refine Goes.step (S' := T47.setTop (mkF m 41 #[.val (.ref u0), .val (.ref b3), .val (.int (3 : Int32))] [(.int (1 : Int32)), (.int (8 : Int32)), (.long w_generation_u0), (.int (3 : Int32)), (.ref b3)])) (fun _ k => XS.isub X47.here hx rfl (hb hby d10_40) rfl k) ?_
    refine Goes.step (S' := T47.setTop (mkF m 42 #[.val (.ref u0), .val (.ref b3), .val (.int (3 : Int32))] [(.int (8 : Int32)), (.long w_generation_u0), (.int (3 : Int32)), (.ref b3)])) (fun _ k => XS.imul X47.here hx rfl (hb hby d10_41) rfl k) ?_
    refine Goes.step (S' := T47.setTop (mkF m 43 #[.val (.ref u0), .val (.ref b3), .val (.int (3 : Int32))] [(.long ((w_generation_u0.toUInt64 >>> ((8 : Int32) &&& 0x3f).toInt64.toUInt64).toInt64)), (.int (3 : Int32)), (.ref b3)])) (fun _ k => XS.lushr X47.here hx rfl (hb hby d10_42) rfl k) ?_
    refine Goes.step (S' := T47.setTop (mkF m 44 #[.val (.ref u0), .val (.ref b3), .val (.int (3 : Int32))] [(.int (((w_generation_u0.toUInt64 >>> ((8 : Int32) &&& 0x3f).toInt64.toUInt64).toInt64).toInt32)), (.int (3 : Int32)), (.ref b3)])) (fun _ k => XS.l2i X47.here hx rfl (hb hby d10_43) rfl k) ?_
    refine Goes.step (S' := T47.setTop (mkF m 45 #[.val (.ref u0), .val (.ref b3), .val (.int (3 : Int32))] [(.int ((((w_generation_u0.toUInt64 >>> ((8 : Int32) &&& 0x3f).toInt64.toUInt64).toInt64).toInt32).toInt8.toInt32)), (.int (3 : Int32)), (.ref b3)])) (fun _ k => XS.i2b X47.here hx rfl (hb hby d10_44) rfl k) ?_
    obtain ⟨T48, h48, X48, e48, W48, V_48, st48⟩ := own_bastore X47 hx hZ e47 V_38 ⟨by decide, by decide⟩ (g := (mkF m 45 #[.val (.ref u0), .val (.ref b3), .val (.int (3 : Int32))] [(.int ((((w_generation_u0.toUInt64 >>> ((8 : Int32) &&& 0x3f).toInt64.toUInt64).toInt64).toInt32).toInt8.toInt32)), (.int (3 : Int32)), (.ref b3)])) rfl rfl (hb hby d10_45)
    replace V_48 : AI Z h48 b3 k3 .byte (17 : Int32) [(nar .byte ((2 : Int32).toInt8.toInt32)), (nar .byte ((((w_generation_u0.toUInt64 >>> ((24 : Int32) &&& 0x3f).toInt64.toUInt64).toInt64).toInt32).toInt8.toInt32)), (nar .byte ((((w_generation_u0.toUInt64 >>> ((16 : Int32) &&& 0x3f).toInt64.toUInt64).toInt64).toInt32).toInt8.toInt32)), (nar .byte ((((w_generation_u0.toUInt64 >>> ((8 : Int32) &&& 0x3f).toInt64.toUInt64).toInt64).toInt32).toInt8.toInt32)), (0 : Int32), (0 : Int32), (0 : Int32), (0 : Int32), (0 : Int32), (0 : Int32), (0 : Int32), (0 : Int32), (0 : Int32), (0 : Int32), (0 : Int32), (0 : Int32), (0 : Int32)] := V_48
    have N49 := Fr.snoc X48 N39 g6
    have Z50 : n0 ≤ h48.size := Nat.le_trans Z40 (Nat.le_of_eq W48.size.symm)
    have V51 := V41.other W48 ne4
    have E_52 := E_42.wr W48
    have F53 := F43.other W48 (Or.inl ne5)
    have F54 := F44.other W48 (Or.inl ne5)
    have F55 := F45.other W48 (Or.inl ne5)
    have K56 : Keep h0 h48 [] := K46.wr W48 (Or.inr O8)
    refine Goes.step (S' := T48.setTop (mkF m 46 #[.val (.ref u0), .val (.ref b3), .val (.int (3 : Int32))] [])) st48 ?_
    refine Goes.step (S' := T48.setTop (mkF m 49 #[.val (.ref u0), .val (.ref b3), .val (.int (4 : Int32))] [])) (fun _ k => XS.iinc X48.here hx rfl (hb hby d10_46) rfl (l' := #[.val (.ref u0), .val (.ref b3), .val (.int (4 : Int32))]) rfl k) ?_
    refine Goes.step (S' := T48.setTop (mkF m 25 #[.val (.ref u0), .val (.ref b3), .val (.int (4 : Int32))] [])) (fun _ k => XS.goto X48.here hx rfl (pc0 := 49) (pc' := 25) rfl (hb hby d10_49) (by decide) (by decide) k) ?_
    refine Goes.step (S' := T48.setTop (mkF m 26 #[.val (.ref u0), .val (.ref b3), .val (.int (4 : Int32))] [(.int (4 : Int32))])) (fun _ k => XS.iloadN X48.here hx rfl (hb hby d10_25) rfl  k) ?_
    refine Goes.step (S' := T48.setTop (mkF m 27 #[.val (.ref u0), .val (.ref b3), .val (.int (4 : Int32))] [(.int (4 : Int32)), (.int (4 : Int32))])) (fun _ k => XS.iconst X48.here hx rfl (hb hby d10_26) k) ?_
    refine Goes.step (S' := T48.setTop (mkF m 30 #[.val (.ref u0), .val (.ref b3), .val (.int (4 : Int32))] [])) (fun _ k => XS.icmpNo X48.here hx rfl (hb hby d10_27) rfl (flt (by decide)).2.2.1 k) ?_
    refine Goes.step (S' := T48.setTop (mkF m 31 #[.val (.ref u0), .val (.ref b3), .val (.int (4 : Int32))] [(.ref b3)])) (fun _ k => XS.aloadN X48.here hx rfl (hb hby d10_30) rfl rfl k) ?_
    refine Goes.step (S' := T48.setTop (mkF m 32 #[.val (.ref u0), .val (.ref b3), .val (.int (4 : Int32))] [(.int (4 : Int32)), (.ref b3)])) (fun _ k => XS.iloadN X48.here hx rfl (hb hby d10_31) rfl  k) ?_
    refine Goes.step (S' := T48.setTop (mkF m 33 #[.val (.ref u0), .val (.ref b3), .val (.int (4 : Int32))] [(.ref u0), (.int (4 : Int32)), (.ref b3)])) (fun _ k => XS.aloadN X48.here hx rfl (hb hby d10_32) rfl rfl k) ?_
    obtain ⟨T57, X57, e57, st57⟩ := getF X48 hx hZ hown (host := "") (Or.inl (hw _ (List.mem_of_getElem? (i := 25) rfl))) Via.refl e48 F54 (g := (mkF m 33 #[.val (.ref u0), .val (.ref b3), .val (.int (4 : Int32))] [(.ref u0), (.int (4 : Int32)), (.ref b3)])) rfl rfl (hb hby d10_33)
    refine Goes.step (S' := T57.setTop (mkF m 36 #[.val (.ref u0), .val (.ref b3), .val (.int (4 : Int32))] [(.long w_generation_u0), (.int (4 : Int32)), (.ref b3)])) st57 ?_
    refine Goes.step (S' := T57.setTop (mkF m 38 #[.val (.ref u0), .val (.ref b3), .val (.int (4 : Int32))] [(.int (8 : Int32)), (.long w_generation_u0), (.int (4 : Int32)), (.ref b3)])) (fun _ k => XS.bipush X57.here hx rfl (hb hby d10_36) k) ?_
    refine Goes.step (S' := T57.setTop (mkF m 39 #[.val (.ref u0), .val (.ref b3), .val (.int (4 : Int32))] [(.int (4 : Int32)), (.int (8 : Int32)), (.long w_generation_u0), (.int (4 : Int32)), (.ref b3)])) (fun _ k => XS.iconst X57.here hx rfl (hb hby d10_38) k) ?_
    refine Goes.step (S' := T57.setTop (mkF m 40 #[.val (.ref u0), .val (.ref b3), .val (.int (4 : Int32))] [(.int (4 : Int32)), (.int (4 : Int32)), (.int (8 : Int32)), (.long w_generation_u0), (.int (4 : Int32)), (.ref b3)])) (fun _ k => XS.iloadN X57.here hx rfl (hb hby d10_39) rfl  k) ?_
    refine Goes.step (S' := T57.setTop (mkF m 41 #[.val (.ref u0), .val (.ref b3), .val (.int (4 : Int32))] [(.int (0 : Int32)), (.int (8 : Int32)), (.long w_generation_u0), (.int (4 : Int32)), (.ref b3)])) (fun _ k => XS.isub X57.here hx rfl (hb hby d10_40) rfl k) ?_
    refine Goes.step (S' := T57.setTop (mkF m 42 #[.val (.ref u0), .val (.ref b3), .val (.int (4 : Int32))] [(.int (0 : Int32)), (.long w_generation_u0), (.int (4 : Int32)), (.ref b3)])) (fun _ k => XS.imul X57.here hx rfl (hb hby d10_41) rfl k) ?_
    refine Goes.step (S' := T57.setTop (mkF m 43 #[.val (.ref u0), .val (.ref b3), .val (.int (4 : Int32))] [(.long ((w_generation_u0.toUInt64 >>> ((0 : Int32) &&& 0x3f).toInt64.toUInt64).toInt64)), (.int (4 : Int32)), (.ref b3)])) (fun _ k => XS.lushr X57.here hx rfl (hb hby d10_42) rfl k) ?_
    refine Goes.step (S' := T57.setTop (mkF m 44 #[.val (.ref u0), .val (.ref b3), .val (.int (4 : Int32))] [(.int (((w_generation_u0.toUInt64 >>> ((0 : Int32) &&& 0x3f).toInt64.toUInt64).toInt64).toInt32)), (.int (4 : Int32)), (.ref b3)])) (fun _ k => XS.l2i X57.here hx rfl (hb hby d10_43) rfl k) ?_
    refine Goes.step (S' := T57.setTop (mkF m 45 #[.val (.ref u0), .val (.ref b3), .val (.int (4 : Int32))] [(.int ((((w_generation_u0.toUInt64 >>> ((0 : Int32) &&& 0x3f).toInt64.toUInt64).toInt64).toInt32).toInt8.toInt32)), (.int (4 : Int32)), (.ref b3)])) (fun _ k => XS.i2b X57.here hx rfl (hb hby d10_44) rfl k) ?_
    obtain ⟨T58, h58, X58, e58, W58, V_58, st58⟩ := own_bastore X57 hx hZ e57 V_48 ⟨by decide, by decide⟩ (g := (mkF m 45 #[.val (.ref u0), .val (.ref b3), .val (.int (4 : Int32))] [(.int ((((w_generation_u0.toUInt64 >>> ((0 : Int32) &&& 0x3f).toInt64.toUInt64).toInt64).toInt32).toInt8.toInt32)), (.int (4 : Int32)), (.ref b3)])) rfl rfl (hb hby d10_45)
    replace V_58 : AI Z h58 b3 k3 .byte (17 : Int32) [(nar .byte ((2 : Int32).toInt8.toInt32)), (nar .byte ((((w_generation_u0.toUInt64 >>> ((24 : Int32) &&& 0x3f).toInt64.toUInt64).toInt64).toInt32).toInt8.toInt32)), (nar .byte ((((w_generation_u0.toUInt64 >>> ((16 : Int32) &&& 0x3f).toInt64.toUInt64).toInt64).toInt32).toInt8.toInt32)), (nar .byte ((((w_generation_u0.toUInt64 >>> ((8 : Int32) &&& 0x3f).toInt64.toUInt64).toInt64).toInt32).toInt8.toInt32)), (nar .byte ((((w_generation_u0.toUInt64 >>> ((0 : Int32) &&& 0x3f).toInt64.toUInt64).toInt64).toInt32).toInt8.toInt32)), (0 : Int32), (0 : Int32), (0 : Int32), (0 : Int32), (0 : Int32), (0 : Int32), (0 : Int32), (0 : Int32), (0 : Int32), (0 : Int32), (0 : Int32), (0 : Int32)] := V_58
    have N59 := Fr.snoc X58 N49 g6
    have Z60 : n0 ≤ h58.size := Nat.le_trans Z50 (Nat.le_of_eq W58.size.symm)
    have V61 := V51.other W58 ne4
    have E_62 := E_52.wr W58
    have F63 := F53.other W58 (Or.inl ne5)
    have F64 := F54.other W58 (Or.inl ne5)
    have F65 := F55.other W58 (Or.inl ne5)
    have K66 : Keep h0 h58 [] := K56.wr W58 (Or.inr O8)
    refine Goes.step (S' := T58.setTop (mkF m 46 #[.val (.ref u0), .val (.ref b3), .val (.int (4 : Int32))] [])) st58 ?_
    refine Goes.step (S' := T58.setTop (mkF m 49 #[.val (.ref u0), .val (.ref b3), .val (.int (5 : Int32))] [])) (fun _ k => XS.iinc X58.here hx rfl (hb hby d10_46) rfl (l' := #[.val (.ref u0), .val (.ref b3), .val (.int (5 : Int32))]) rfl k) ?_
    refine Goes.step (S' := T58.setTop (mkF m 25 #[.val (.ref u0), .val (.ref b3), .val (.int (5 : Int32))] [])) (fun _ k => XS.goto X58.here hx rfl (pc0 := 49) (pc' := 25) rfl (hb hby d10_49) (by decide) (by decide) k) ?_
    refine Goes.step (S' := T58.setTop (mkF m 26 #[.val (.ref u0), .val (.ref b3), .val (.int (5 : Int32))] [(.int (5 : Int32))])) (fun _ k => XS.iloadN X58.here hx rfl (hb hby d10_25) rfl  k) ?_
    refine Goes.step (S' := T58.setTop (mkF m 27 #[.val (.ref u0), .val (.ref b3), .val (.int (5 : Int32))] [(.int (4 : Int32)), (.int (5 : Int32))])) (fun _ k => XS.iconst X58.here hx rfl (hb hby d10_26) k) ?_
    refine Goes.step (S' := T58.setTop (mkF m 52 #[.val (.ref u0), .val (.ref b3), .val (.int (5 : Int32))] [])) (fun _ k => XS.icmpYes X58.here hx rfl (pc0 := 27) (pc' := 52) rfl (hb hby d10_27) rfl (tlt (by decide)).2.2.1 (by decide) (by decide) k) ?_
    refine Goes.step (S' := T58.setTop (mkF m 53 #[.val (.ref u0), .val (.ref b3), .val (.int (5 : Int32))] [(.ref u0)])) (fun _ k => XS.aloadN X58.here hx rfl (hb hby d10_52) rfl rfl k) ?_
    obtain ⟨T67, X67, e67, st67⟩ := getF X58 hx hZ hown (host := "") (Or.inl (hw _ (List.mem_of_getElem? (i := 27) rfl))) Via.refl e58 F65 (g := (mkF m 53 #[.val (.ref u0), .val (.ref b3), .val (.int (5 : Int32))] [(.ref u0)])) rfl rfl (hb hby d10_53)
    refine Goes.step (S' := T67.setTop (mkF m 56 #[.val (.ref u0), .val (.ref b3), .val (.int (5 : Int32))] [(.ref w_nonce_u0)])) st67 ?_
    refine Goes.step (S' := T67.setTop (mkF m 57 #[.val (.ref u0), .val (.ref b3), .val (.int (5 : Int32))] [(.int (0 : Int32)), (.ref w_nonce_u0)])) (fun _ k => XS.iconst X67.here hx rfl (hb hby d10_56) k) ?_
    refine Goes.step (S' := T67.setTop (mkF m 58 #[.val (.ref u0), .val (.ref b3), .val (.int (5 : Int32))] [(.ref b3), (.int (0 : Int32)), (.ref w_nonce_u0)])) (fun _ k => XS.aloadN X67.here hx rfl (hb hby d10_57) rfl rfl k) ?_
    refine Goes.step (S' := T67.setTop (mkF m 59 #[.val (.ref u0), .val (.ref b3), .val (.int (5 : Int32))] [(.ref b3), (.ref b3), (.int (0 : Int32)), (.ref w_nonce_u0)])) (fun _ k => XS.aloadN X67.here hx rfl (hb hby d10_58) rfl rfl k) ?_
    refine Goes.step (S' := T67.setTop (mkF m 60 #[.val (.ref u0), .val (.ref b3), .val (.int (5 : Int32))] [(.int (17 : Int32)), (.ref b3), (.int (0 : Int32)), (.ref w_nonce_u0)])) (fun _ k => own_len X67 hx hZ e67 V_58 (hb hby d10_59) _ k) ?_
    refine Goes.step (S' := T67.setTop (mkF m 62 #[.val (.ref u0), .val (.ref b3), .val (.int (5 : Int32))] [(.int (12 : Int32)), (.int (17 : Int32)), (.ref b3), (.int (0 : Int32)), (.ref w_nonce_u0)])) (fun _ k => XS.bipush X67.here hx rfl (hb hby d10_60) k) ?_
    refine Goes.step (S' := T67.setTop (mkF m 63 #[.val (.ref u0), .val (.ref b3), .val (.int (5 : Int32))] [(.int (5 : Int32)), (.ref b3), (.int (0 : Int32)), (.ref w_nonce_u0)])) (fun _ k => XS.isub X67.here hx rfl (hb hby d10_62) rfl k) ?_
    refine Goes.step (S' := T67.setTop (mkF m 65 #[.val (.ref u0), .val (.ref b3), .val (.int (5 : Int32))] [(.int (12 : Int32)), (.int (5 : Int32)), (.ref b3), (.int (0 : Int32)), (.ref w_nonce_u0)])) (fun _ k => XS.bipush X67.here hx rfl (hb hby d10_63) k) ?_
    obtain ⟨T68, h68, L68, X68, e68, N68, K68, V_68, st68⟩ := own_copy (rl := [(nar .byte ((2 : Int32).toInt8.toInt32)), (nar .byte ((((w_generation_u0.toUInt64 >>> ((24 : Int32) &&& 0x3f).toInt64.toUInt64).toInt64).toInt32).toInt8.toInt32)), (nar .byte ((((w_generation_u0.toUInt64 >>> ((16 : Int32) &&& 0x3f).toInt64.toUInt64).toInt64).toInt32).toInt8.toInt32)), (nar .byte ((((w_generation_u0.toUInt64 >>> ((8 : Int32) &&& 0x3f).toInt64.toUInt64).toInt64).toInt32).toInt8.toInt32)), (nar .byte ((((w_generation_u0.toUInt64 >>> ((0 : Int32) &&& 0x3f).toInt64.toUInt64).toInt64).toInt32).toInt8.toInt32)), (vs_w_nonce_u0.getD 0 0), (vs_w_nonce_u0.getD 1 0), (vs_w_nonce_u0.getD 2 0), (vs_w_nonce_u0.getD 3 0), (vs_w_nonce_u0.getD 4 0), (vs_w_nonce_u0.getD 5 0), (vs_w_nonce_u0.getD 6 0), (vs_w_nonce_u0.getD 7 0), (vs_w_nonce_u0.getD 8 0), (vs_w_nonce_u0.getD 9 0), (vs_w_nonce_u0.getD 10 0), (vs_w_nonce_u0.getD 11 0)]) X67 hx hZ hown (hw _ (List.mem_of_getElem? (i := 62) rfl)) (hw _ (List.mem_of_getElem? (i := 65) rfl)) (hw _ (List.mem_of_getElem? (i := 63) rfl)) (hw _ (List.mem_of_getElem? (i := 64) rfl)) e67 V61 V_58 (by decide) (by decide) (by decide) (own_s410b_65 w_generation_u0 n_w_nonce_u0 vs_w_nonce_u0 hl_w_nonce_u0 hn_w_nonce_u0 hlen evs_4) (by decide) rfl N59 g6 (g := (mkF m 65 #[.val (.ref u0), .val (.ref b3), .val (.int (5 : Int32))] [(.int (12 : Int32)), (.int (5 : Int32)), (.ref b3), (.int (0 : Int32)), (.ref w_nonce_u0)])) rfl (by rw [hml]; rfl) rfl (hb hby d10_65) (by decide) (W := 0) (by show 2 * 0 + _ ≤ _; exact Nat.le_of_eq rfl) (by decide)
    have V69 := V61.keep K68 (ninS ne4 nin0)
    have E_70 := E_62.keep K68
    have F71 := F63.keep K68 (ninS ne5 nin0)
    have F72 := F64.keep K68 (ninS ne5 nin0)
    have F73 := F65.keep K68 (ninS ne5 nin0)
    have K74 : Keep h0 h68 [] := K66.trans K68 (allS (Or.inr O8) all0)
    have Z75 : n0 ≤ h68.size := Nat.le_trans Z60 K68.1
    refine Goes.step (S' := T68.setTop (mkF m 68 #[.val (.ref u0), .val (.ref b3), .val (.int (5 : Int32))] [])) st68 ?_
    refine Goes.step (S' := T68.setTop (mkF m 69 #[.val (.ref u0), .val (.ref b3), .val (.int (5 : Int32))] [(.ref b3)])) (fun _ k => XS.aloadN X68.here hx rfl (hb hby d10_68) rfl rfl k) ?_
    refine Goes.retA X68 hx Bd.notSynchronized Bd.returns rfl (hb hby d10_69) (by decide) (by decide) ?_
    refine ⟨b3, k3, rfl, N68, ?_, ?_, ?_, ?_⟩
    · first | exact K74 | (rw [e68]; exact K74)
    · first | exact O8 | (rw [e68]; exact O8)
    · first | exact V_68 | (rw [e68]; exact V_68)
    · first | exact hk3 | (rw [e68]; exact hk3)
theorem pd3 : parseMethodDescriptor "(J[B)Lcom/example/isopod/isopod/RecordHeader;" = some ⟨[.long, (.array .byte)], some (.object "com/example/isopod/isopod/RecordHeader")⟩ := by decide +kernel
theorem pd4 : parseMethodDescriptor "()J" = some ⟨[], some .long⟩ := by decide +kernel
theorem pd5 : parseMethodDescriptor "()[B" = some ⟨[], some (.array .byte)⟩ := by decide +kernel
theorem pd6 : parseMethodDescriptor "([BIJI)Z" = some ⟨[(.array .byte), .int, .long, .int], some .boolean⟩ := by decide +kernel
theorem ef0 (m : MethodId) (q0 : Int64) (q1 : Int64) (p2 : Int32) (p3 : Int32) : entryFrame m #[(.long q0), (.long q1), (.int p2), (.int p3)] maxLocals = mkF m 0 #[.val (.long q0), .second, .val (.long q1), .second, .val (.int p2), .val (.int p3), .unset, .unset, .unset, .unset, .unset, .unset, .unset, .unset] [] := by first | (simp [entryFrame, mkF, argsToLocals, Value.category, maxLocals]; done) | rfl
theorem own_pr0_148_hver (q0 : Int64) (q1 : Int64) (p2 : Int32) (p3 : Int32) (v6_16 : Int64) (ev6_16 : v6_16 = (if (p3 &&& (1 : Int32)) = (0 : Int32) then (q0 &&& (4294967295 : Int64)) else (0 : Int64))) (hs18 : v6_16 = (0 : Int64)) : (if v6_16 = (0 : Int64) then (1 : Int32) else (2 : Int32)) = (1 : Int32) := by
  first | exact if_pos hs18 | exact if_neg hs18
theorem own_pr0_148_hg0 (q0 : Int64) (q1 : Int64) (p2 : Int32) (p3 : Int32) (v6_16 : Int64) (ev6_16 : v6_16 = (if (p3 &&& (1 : Int32)) = (0 : Int32) then (q0 &&& (4294967295 : Int64)) else (0 : Int64))) (hs18 : v6_16 = (0 : Int64)) : ¬ v6_16 < (0 : Int64) := by
  have m : (q0 &&& 4294967295).toInt = q0.toInt % 4294967296 := c_maskL q0 4294967295 32 (by decide) (by decide)
  have k : 0 ≤ v6_16.toInt ∧ v6_16.toInt ≤ 4294967295 := by
    rw [ev6_16]
    split
    · first | omega | decide
    · first | omega | decide
  simp only [Int64.lt_iff_toInt_lt, Int64.reduceToInt]
  omega
theorem own_pr0_148_hg1 (q0 : Int64) (q1 : Int64) (p2 : Int32) (p3 : Int32) (v6_16 : Int64) (ev6_16 : v6_16 = (if (p3 &&& (1 : Int32)) = (0 : Int32) then (q0 &&& (4294967295 : Int64)) else (0 : Int64))) (hs18 : v6_16 = (0 : Int64)) : ¬ (4294967295 : Int64) < v6_16 := by
  have m : (q0 &&& 4294967295).toInt = q0.toInt % 4294967296 := c_maskL q0 4294967295 32 (by decide) (by decide)
  have k : 0 ≤ v6_16.toInt ∧ v6_16.toInt ≤ 4294967295 := by
    rw [ev6_16]
    split
    · first | omega | decide
    · first | omega | decide
  simp only [Int64.lt_iff_toInt_lt, Int64.reduceToInt]
  omega
theorem own_pr0_148_hlen (q0 : Int64) (q1 : Int64) (p2 : Int32) (p3 : Int32) (v6_16 : Int64) (ev6_16 : v6_16 = (if (p3 &&& (1 : Int32)) = (0 : Int32) then (q0 &&& (4294967295 : Int64)) else (0 : Int64))) (hs18 : v6_16 = (0 : Int64)) : (12 : Int32) = (12 : Int32) := by
  rfl
theorem own_hc0_214 (q0 : Int64) (q1 : Int64) (p2 : Int32) (p3 : Int32) (v6_16 : Int64) (ev6_16 : v6_16 = (if (p3 &&& (1 : Int32)) = (0 : Int32) then (q0 &&& (4294967295 : Int64)) else (0 : Int64))) (hs18 : v6_16 = (0 : Int64)) : (f4 (1 : Int32) v6_16) = (1 : Int32) := by
  rfl
theorem own_hc0_227 (q0 : Int64) (q1 : Int64) (p2 : Int32) (p3 : Int32) (v6_16 : Int64) (ev6_16 : v6_16 = (if (p3 &&& (1 : Int32)) = (0 : Int32) then (q0 &&& (4294967295 : Int64)) else (0 : Int64))) (hs18 : v6_16 = (0 : Int64)) : (f5 (1 : Int32) v6_16) = v6_16 := by
  rfl
theorem own_hc0_239 (q0 : Int64) (q1 : Int64) (p2 : Int32) (p3 : Int32) (v6_16 : Int64) (ev6_16 : v6_16 = (if (p3 &&& (1 : Int32)) = (0 : Int32) then (q0 &&& (4294967295 : Int64)) else (0 : Int64))) (hs18 : v6_16 = (0 : Int64)) : (f6 (1 : Int32)) = (13 : Int32) := by
  rfl
theorem own_pr0_246_hlen (q0 : Int64) (q1 : Int64) (p2 : Int32) (p3 : Int32) (v6_16 : Int64) (ev6_16 : v6_16 = (if (p3 &&& (1 : Int32)) = (0 : Int32) then (q0 &&& (4294967295 : Int64)) else (0 : Int64))) (hs18 : v6_16 = (0 : Int64)) : (12 : Int32) = (12 : Int32) := by
  rfl
theorem own_pr0_265_hB (q0 : Int64) (q1 : Int64) (p2 : Int32) (p3 : Int32) (v6_16 : Int64) (ev6_16 : v6_16 = (if (p3 &&& (1 : Int32)) = (0 : Int32) then (q0 &&& (4294967295 : Int64)) else (0 : Int64))) (hs18 : v6_16 = (0 : Int64)) : ¬ (0 : Int32) < 0 ∧ (0 : Int32) < (100 : Int32) := by
  first | decide | exact ⟨by decide, by decide⟩
theorem own_hc0_268 (q0 : Int64) (q1 : Int64) (p2 : Int32) (p3 : Int32) (v6_16 : Int64) (ev6_16 : v6_16 = (if (p3 &&& (1 : Int32)) = (0 : Int32) then (q0 &&& (4294967295 : Int64)) else (0 : Int64))) (hs18 : v6_16 = (0 : Int64)) : ¬ ((f9 (12 : Int32) [(nar .byte ((((q1.toUInt64 >>> ((56 : Int32) &&& 0x3f).toInt64.toUInt64).toInt64).toInt32).toInt8.toInt32)), (nar .byte ((((q1.toUInt64 >>> ((48 : Int32) &&& 0x3f).toInt64.toUInt64).toInt64).toInt32).toInt8.toInt32)), (nar .byte ((((q1.toUInt64 >>> ((40 : Int32) &&& 0x3f).toInt64.toUInt64).toInt64).toInt32).toInt8.toInt32)), (nar .byte ((((q1.toUInt64 >>> ((32 : Int32) &&& 0x3f).toInt64.toUInt64).toInt64).toInt32).toInt8.toInt32)), (nar .byte ((((q1.toUInt64 >>> ((24 : Int32) &&& 0x3f).toInt64.toUInt64).toInt64).toInt32).toInt8.toInt32)), (nar .byte ((((q1.toUInt64 >>> ((16 : Int32) &&& 0x3f).toInt64.toUInt64).toInt64).toInt32).toInt8.toInt32)), (nar .byte ((((q1.toUInt64 >>> ((8 : Int32) &&& 0x3f).toInt64.toUInt64).toInt64).toInt32).toInt8.toInt32)), (nar .byte ((q1.toInt32).toInt8.toInt32)), (nar .byte (((p2.toUInt32 >>> ((24 : Int32) &&& 31).toUInt32).toInt32).toInt8.toInt32)), (nar .byte (((p2.toUInt32 >>> ((16 : Int32) &&& 31).toUInt32).toInt32).toInt8.toInt32)), (nar .byte (((p2.toUInt32 >>> ((8 : Int32) &&& 31).toUInt32).toInt32).toInt8.toInt32)), (nar .byte (p2.toInt8.toInt32))] (0 : Int32) q1 p2) = (0 : Int32)) := by
  intro h0
  refine absurd ((own_nonce _ _ _ _ _ ?_ ?_ ?_ ?_ ?_ ?_ ?_ ?_ ?_ ?_ ?_ ?_ ?_).symm.trans h0) (by decide)
  · decide
  · exact own_nb _
  · exact own_nb _
  · exact own_nb _
  · exact own_nb _
  · exact own_nb _
  · exact own_nb _
  · exact own_nb _
  · exact own_nb _
  · exact own_nb _
  · exact own_nb _
  · exact own_nb _
  · exact own_nb _
theorem own_pr0_275_hlen (q0 : Int64) (q1 : Int64) (p2 : Int32) (p3 : Int32) (v6_16 : Int64) (ev6_16 : v6_16 = (if (p3 &&& (1 : Int32)) = (0 : Int32) then (q0 &&& (4294967295 : Int64)) else (0 : Int64))) (hs18 : v6_16 = (0 : Int64)) : (12 : Int32) = (12 : Int32) := by
  rfl
theorem own_hc0_297 (q0 : Int64) (q1 : Int64) (p2 : Int32) (p3 : Int32) (v6_16 : Int64) (ev6_16 : v6_16 = (if (p3 &&& (1 : Int32)) = (0 : Int32) then (q0 &&& (4294967295 : Int64)) else (0 : Int64))) (hs18 : v6_16 = (0 : Int64)) : (nar .byte ((1 : Int32).toInt8.toInt32)) = ((1 : Int32).toInt8.toInt32) := by
  exact own_nb _
theorem own_pr0_315_hB (q0 : Int64) (q1 : Int64) (p2 : Int32) (p3 : Int32) (v6_16 : Int64) (ev6_16 : v6_16 = (if (p3 &&& (1 : Int32)) = (0 : Int32) then (q0 &&& (4294967295 : Int64)) else (0 : Int64))) (hs18 : v6_16 = (0 : Int64)) : ¬ (1 : Int32) < 0 ∧ (1 : Int32) < (100 : Int32) := by
  first | decide | exact ⟨by decide, by decide⟩
theorem own_ret0_318 (q0 : Int64) (q1 : Int64) (p2 : Int32) (p3 : Int32) (v6_16 : Int64) (ev6_16 : v6_16 = (if (p3 &&& (1 : Int32)) = (0 : Int32) then (q0 &&& (4294967295 : Int64)) else (0 : Int64))) (hs18 : v6_16 = (0 : Int64)) : (nar .boolean (f9 (13 : Int32) [(nar .byte ((1 : Int32).toInt8.toInt32)), (nar .byte ((((q1.toUInt64 >>> ((56 : Int32) &&& 0x3f).toInt64.toUInt64).toInt64).toInt32).toInt8.toInt32)), (nar .byte ((((q1.toUInt64 >>> ((48 : Int32) &&& 0x3f).toInt64.toUInt64).toInt64).toInt32).toInt8.toInt32)), (nar .byte ((((q1.toUInt64 >>> ((40 : Int32) &&& 0x3f).toInt64.toUInt64).toInt64).toInt32).toInt8.toInt32)), (nar .byte ((((q1.toUInt64 >>> ((32 : Int32) &&& 0x3f).toInt64.toUInt64).toInt64).toInt32).toInt8.toInt32)), (nar .byte ((((q1.toUInt64 >>> ((24 : Int32) &&& 0x3f).toInt64.toUInt64).toInt64).toInt32).toInt8.toInt32)), (nar .byte ((((q1.toUInt64 >>> ((16 : Int32) &&& 0x3f).toInt64.toUInt64).toInt64).toInt32).toInt8.toInt32)), (nar .byte ((((q1.toUInt64 >>> ((8 : Int32) &&& 0x3f).toInt64.toUInt64).toInt64).toInt32).toInt8.toInt32)), (nar .byte ((q1.toInt32).toInt8.toInt32)), (nar .byte (((p2.toUInt32 >>> ((24 : Int32) &&& 31).toUInt32).toInt32).toInt8.toInt32)), (nar .byte (((p2.toUInt32 >>> ((16 : Int32) &&& 31).toUInt32).toInt32).toInt8.toInt32)), (nar .byte (((p2.toUInt32 >>> ((8 : Int32) &&& 31).toUInt32).toInt32).toInt8.toInt32)), (nar .byte (p2.toInt8.toInt32))] (1 : Int32) q1 p2)) = 1 := by
  refine (congrArg (nar .boolean) (own_nonce _ _ _ _ _ ?_ ?_ ?_ ?_ ?_ ?_ ?_ ?_ ?_ ?_ ?_ ?_ ?_)).trans rfl
  · decide
  · exact own_nb _
  · exact own_nb _
  · exact own_nb _
  · exact own_nb _
  · exact own_nb _
  · exact own_nb _
  · exact own_nb _
  · exact own_nb _
  · exact own_nb _
  · exact own_nb _
  · exact own_nb _
  · exact own_nb _
theorem own_pr0_148_hver_2 (q0 : Int64) (q1 : Int64) (p2 : Int32) (p3 : Int32) (v6_16 : Int64) (ev6_16 : v6_16 = (if (p3 &&& (1 : Int32)) = (0 : Int32) then (q0 &&& (4294967295 : Int64)) else (0 : Int64))) (hs18 : ¬ (v6_16 = (0 : Int64))) : (if v6_16 = (0 : Int64) then (1 : Int32) else (2 : Int32)) = (2 : Int32) := by
  first | exact if_pos hs18 | exact if_neg hs18
theorem own_pr0_148_hg0_2 (q0 : Int64) (q1 : Int64) (p2 : Int32) (p3 : Int32) (v6_16 : Int64) (ev6_16 : v6_16 = (if (p3 &&& (1 : Int32)) = (0 : Int32) then (q0 &&& (4294967295 : Int64)) else (0 : Int64))) (hs18 : ¬ (v6_16 = (0 : Int64))) : ¬ v6_16 < (0 : Int64) := by
  have m : (q0 &&& 4294967295).toInt = q0.toInt % 4294967296 := c_maskL q0 4294967295 32 (by decide) (by decide)
  have k : 0 ≤ v6_16.toInt ∧ v6_16.toInt ≤ 4294967295 := by
    rw [ev6_16]
    split
    · first | omega | decide
    · first | omega | decide
  simp only [Int64.lt_iff_toInt_lt, Int64.reduceToInt]
  omega
theorem own_pr0_148_hg1_2 (q0 : Int64) (q1 : Int64) (p2 : Int32) (p3 : Int32) (v6_16 : Int64) (ev6_16 : v6_16 = (if (p3 &&& (1 : Int32)) = (0 : Int32) then (q0 &&& (4294967295 : Int64)) else (0 : Int64))) (hs18 : ¬ (v6_16 = (0 : Int64))) : ¬ (4294967295 : Int64) < v6_16 := by
  have m : (q0 &&& 4294967295).toInt = q0.toInt % 4294967296 := c_maskL q0 4294967295 32 (by decide) (by decide)
  have k : 0 ≤ v6_16.toInt ∧ v6_16.toInt ≤ 4294967295 := by
    rw [ev6_16]
    split
    · first | omega | decide
    · first | omega | decide
  simp only [Int64.lt_iff_toInt_lt, Int64.reduceToInt]
  omega
theorem own_pr0_148_hlen_2 (q0 : Int64) (q1 : Int64) (p2 : Int32) (p3 : Int32) (v6_16 : Int64) (ev6_16 : v6_16 = (if (p3 &&& (1 : Int32)) = (0 : Int32) then (q0 &&& (4294967295 : Int64)) else (0 : Int64))) (hs18 : ¬ (v6_16 = (0 : Int64))) : (12 : Int32) = (12 : Int32) := by
  rfl
theorem own_hc0_214_2 (q0 : Int64) (q1 : Int64) (p2 : Int32) (p3 : Int32) (v6_16 : Int64) (ev6_16 : v6_16 = (if (p3 &&& (1 : Int32)) = (0 : Int32) then (q0 &&& (4294967295 : Int64)) else (0 : Int64))) (hs18 : ¬ (v6_16 = (0 : Int64))) : (f4 (2 : Int32) v6_16) = (2 : Int32) := by
  rfl
theorem own_hc0_227_2 (q0 : Int64) (q1 : Int64) (p2 : Int32) (p3 : Int32) (v6_16 : Int64) (ev6_16 : v6_16 = (if (p3 &&& (1 : Int32)) = (0 : Int32) then (q0 &&& (4294967295 : Int64)) else (0 : Int64))) (hs18 : ¬ (v6_16 = (0 : Int64))) : (f5 (2 : Int32) v6_16) = v6_16 := by
  rfl
theorem own_hc0_239_2 (q0 : Int64) (q1 : Int64) (p2 : Int32) (p3 : Int32) (v6_16 : Int64) (ev6_16 : v6_16 = (if (p3 &&& (1 : Int32)) = (0 : Int32) then (q0 &&& (4294967295 : Int64)) else (0 : Int64))) (hs18 : ¬ (v6_16 = (0 : Int64))) : (f6 (2 : Int32)) = (17 : Int32) := by
  rfl
theorem own_pr0_246_hlen_2 (q0 : Int64) (q1 : Int64) (p2 : Int32) (p3 : Int32) (v6_16 : Int64) (ev6_16 : v6_16 = (if (p3 &&& (1 : Int32)) = (0 : Int32) then (q0 &&& (4294967295 : Int64)) else (0 : Int64))) (hs18 : ¬ (v6_16 = (0 : Int64))) : (12 : Int32) = (12 : Int32) := by
  rfl
theorem own_pr0_265_hB_2 (q0 : Int64) (q1 : Int64) (p2 : Int32) (p3 : Int32) (v6_16 : Int64) (ev6_16 : v6_16 = (if (p3 &&& (1 : Int32)) = (0 : Int32) then (q0 &&& (4294967295 : Int64)) else (0 : Int64))) (hs18 : ¬ (v6_16 = (0 : Int64))) : ¬ (0 : Int32) < 0 ∧ (0 : Int32) < (100 : Int32) := by
  first | decide | exact ⟨by decide, by decide⟩
theorem own_hc0_268_2 (q0 : Int64) (q1 : Int64) (p2 : Int32) (p3 : Int32) (v6_16 : Int64) (ev6_16 : v6_16 = (if (p3 &&& (1 : Int32)) = (0 : Int32) then (q0 &&& (4294967295 : Int64)) else (0 : Int64))) (hs18 : ¬ (v6_16 = (0 : Int64))) : ¬ ((f9 (12 : Int32) [(nar .byte ((((q1.toUInt64 >>> ((56 : Int32) &&& 0x3f).toInt64.toUInt64).toInt64).toInt32).toInt8.toInt32)), (nar .byte ((((q1.toUInt64 >>> ((48 : Int32) &&& 0x3f).toInt64.toUInt64).toInt64).toInt32).toInt8.toInt32)), (nar .byte ((((q1.toUInt64 >>> ((40 : Int32) &&& 0x3f).toInt64.toUInt64).toInt64).toInt32).toInt8.toInt32)), (nar .byte ((((q1.toUInt64 >>> ((32 : Int32) &&& 0x3f).toInt64.toUInt64).toInt64).toInt32).toInt8.toInt32)), (nar .byte ((((q1.toUInt64 >>> ((24 : Int32) &&& 0x3f).toInt64.toUInt64).toInt64).toInt32).toInt8.toInt32)), (nar .byte ((((q1.toUInt64 >>> ((16 : Int32) &&& 0x3f).toInt64.toUInt64).toInt64).toInt32).toInt8.toInt32)), (nar .byte ((((q1.toUInt64 >>> ((8 : Int32) &&& 0x3f).toInt64.toUInt64).toInt64).toInt32).toInt8.toInt32)), (nar .byte ((q1.toInt32).toInt8.toInt32)), (nar .byte (((p2.toUInt32 >>> ((24 : Int32) &&& 31).toUInt32).toInt32).toInt8.toInt32)), (nar .byte (((p2.toUInt32 >>> ((16 : Int32) &&& 31).toUInt32).toInt32).toInt8.toInt32)), (nar .byte (((p2.toUInt32 >>> ((8 : Int32) &&& 31).toUInt32).toInt32).toInt8.toInt32)), (nar .byte (p2.toInt8.toInt32))] (0 : Int32) q1 p2) = (0 : Int32)) := by
  intro h0
  refine absurd ((own_nonce _ _ _ _ _ ?_ ?_ ?_ ?_ ?_ ?_ ?_ ?_ ?_ ?_ ?_ ?_ ?_).symm.trans h0) (by decide)
  · decide
  · exact own_nb _
  · exact own_nb _
  · exact own_nb _
  · exact own_nb _
  · exact own_nb _
  · exact own_nb _
  · exact own_nb _
  · exact own_nb _
  · exact own_nb _
  · exact own_nb _
  · exact own_nb _
  · exact own_nb _
theorem own_pr0_275_hlen_2 (q0 : Int64) (q1 : Int64) (p2 : Int32) (p3 : Int32) (v6_16 : Int64) (ev6_16 : v6_16 = (if (p3 &&& (1 : Int32)) = (0 : Int32) then (q0 &&& (4294967295 : Int64)) else (0 : Int64))) (hs18 : ¬ (v6_16 = (0 : Int64))) : (12 : Int32) = (12 : Int32) := by
  rfl
theorem own_hc0_297_2 (q0 : Int64) (q1 : Int64) (p2 : Int32) (p3 : Int32) (v6_16 : Int64) (ev6_16 : v6_16 = (if (p3 &&& (1 : Int32)) = (0 : Int32) then (q0 &&& (4294967295 : Int64)) else (0 : Int64))) (hs18 : ¬ (v6_16 = (0 : Int64))) : (nar .byte ((2 : Int32).toInt8.toInt32)) = ((2 : Int32).toInt8.toInt32) := by
  exact own_nb _
theorem own_hc0_330 (q0 : Int64) (q1 : Int64) (p2 : Int32) (p3 : Int32) (v6_16 : Int64) (ev6_16 : v6_16 = (if (p3 &&& (1 : Int32)) = (0 : Int32) then (q0 &&& (4294967295 : Int64)) else (0 : Int64))) (hs18 : ¬ (v6_16 = (0 : Int64))) : (nar .byte ((((v6_16.toUInt64 >>> ((24 : Int32) &&& 0x3f).toInt64.toUInt64).toInt64).toInt32).toInt8.toInt32)) = ((((v6_16.toUInt64 >>> ((24 : Int32) &&& 0x3f).toInt64.toUInt64).toInt64).toInt32).toInt8.toInt32) := by
  exact own_nb _
theorem own_hc0_344 (q0 : Int64) (q1 : Int64) (p2 : Int32) (p3 : Int32) (v6_16 : Int64) (ev6_16 : v6_16 = (if (p3 &&& (1 : Int32)) = (0 : Int32) then (q0 &&& (4294967295 : Int64)) else (0 : Int64))) (hs18 : ¬ (v6_16 = (0 : Int64))) : (nar .byte ((((v6_16.toUInt64 >>> ((16 : Int32) &&& 0x3f).toInt64.toUInt64).toInt64).toInt32).toInt8.toInt32)) = ((((v6_16.toUInt64 >>> ((16 : Int32) &&& 0x3f).toInt64.toUInt64).toInt64).toInt32).toInt8.toInt32) := by
  exact own_nb _
theorem own_hc0_358 (q0 : Int64) (q1 : Int64) (p2 : Int32) (p3 : Int32) (v6_16 : Int64) (ev6_16 : v6_16 = (if (p3 &&& (1 : Int32)) = (0 : Int32) then (q0 &&& (4294967295 : Int64)) else (0 : Int64))) (hs18 : ¬ (v6_16 = (0 : Int64))) : (nar .byte ((((v6_16.toUInt64 >>> ((8 : Int32) &&& 0x3f).toInt64.toUInt64).toInt64).toInt32).toInt8.toInt32)) = ((((v6_16.toUInt64 >>> ((8 : Int32) &&& 0x3f).toInt64.toUInt64).toInt64).toInt32).toInt8.toInt32) := by
  exact own_nb _
theorem own_hc0_369 (q0 : Int64) (q1 : Int64) (p2 : Int32) (p3 : Int32) (v6_16 : Int64) (ev6_16 : v6_16 = (if (p3 &&& (1 : Int32)) = (0 : Int32) then (q0 &&& (4294967295 : Int64)) else (0 : Int64))) (hs18 : ¬ (v6_16 = (0 : Int64))) : (nar .byte ((((v6_16.toUInt64 >>> ((0 : Int32) &&& 0x3f).toInt64.toUInt64).toInt64).toInt32).toInt8.toInt32)) = ((v6_16.toInt32).toInt8.toInt32) := by
  rw [own_sh0]; exact own_nb _
theorem own_pr0_378_hB (q0 : Int64) (q1 : Int64) (p2 : Int32) (p3 : Int32) (v6_16 : Int64) (ev6_16 : v6_16 = (if (p3 &&& (1 : Int32)) = (0 : Int32) then (q0 &&& (4294967295 : Int64)) else (0 : Int64))) (hs18 : ¬ (v6_16 = (0 : Int64))) : ¬ (5 : Int32) < 0 ∧ (5 : Int32) < (100 : Int32) := by
  first | decide | exact ⟨by decide, by decide⟩
theorem own_hc0_381 (q0 : Int64) (q1 : Int64) (p2 : Int32) (p3 : Int32) (v6_16 : Int64) (ev6_16 : v6_16 = (if (p3 &&& (1 : Int32)) = (0 : Int32) then (q0 &&& (4294967295 : Int64)) else (0 : Int64))) (hs18 : ¬ (v6_16 = (0 : Int64))) : ¬ ((f9 (17 : Int32) [(nar .byte ((2 : Int32).toInt8.toInt32)), (nar .byte ((((v6_16.toUInt64 >>> ((24 : Int32) &&& 0x3f).toInt64.toUInt64).toInt64).toInt32).toInt8.toInt32)), (nar .byte ((((v6_16.toUInt64 >>> ((16 : Int32) &&& 0x3f).toInt64.toUInt64).toInt64).toInt32).toInt8.toInt32)), (nar .byte ((((v6_16.toUInt64 >>> ((8 : Int32) &&& 0x3f).toInt64.toUInt64).toInt64).toInt32).toInt8.toInt32)), (nar .byte ((((v6_16.toUInt64 >>> ((0 : Int32) &&& 0x3f).toInt64.toUInt64).toInt64).toInt32).toInt8.toInt32)), (nar .byte ((((q1.toUInt64 >>> ((56 : Int32) &&& 0x3f).toInt64.toUInt64).toInt64).toInt32).toInt8.toInt32)), (nar .byte ((((q1.toUInt64 >>> ((48 : Int32) &&& 0x3f).toInt64.toUInt64).toInt64).toInt32).toInt8.toInt32)), (nar .byte ((((q1.toUInt64 >>> ((40 : Int32) &&& 0x3f).toInt64.toUInt64).toInt64).toInt32).toInt8.toInt32)), (nar .byte ((((q1.toUInt64 >>> ((32 : Int32) &&& 0x3f).toInt64.toUInt64).toInt64).toInt32).toInt8.toInt32)), (nar .byte ((((q1.toUInt64 >>> ((24 : Int32) &&& 0x3f).toInt64.toUInt64).toInt64).toInt32).toInt8.toInt32)), (nar .byte ((((q1.toUInt64 >>> ((16 : Int32) &&& 0x3f).toInt64.toUInt64).toInt64).toInt32).toInt8.toInt32)), (nar .byte ((((q1.toUInt64 >>> ((8 : Int32) &&& 0x3f).toInt64.toUInt64).toInt64).toInt32).toInt8.toInt32)), (nar .byte ((q1.toInt32).toInt8.toInt32)), (nar .byte (((p2.toUInt32 >>> ((24 : Int32) &&& 31).toUInt32).toInt32).toInt8.toInt32)), (nar .byte (((p2.toUInt32 >>> ((16 : Int32) &&& 31).toUInt32).toInt32).toInt8.toInt32)), (nar .byte (((p2.toUInt32 >>> ((8 : Int32) &&& 31).toUInt32).toInt32).toInt8.toInt32)), (nar .byte (p2.toInt8.toInt32))] (5 : Int32) q1 p2) = (0 : Int32)) := by
  intro h0
  refine absurd ((own_nonce _ _ _ _ _ ?_ ?_ ?_ ?_ ?_ ?_ ?_ ?_ ?_ ?_ ?_ ?_ ?_).symm.trans h0) (by decide)
  · decide
  · exact own_nb _
  · exact own_nb _
  · exact own_nb _
  · exact own_nb _
  · exact own_nb _
  · exact own_nb _
  · exact own_nb _
  · exact own_nb _
  · exact own_nb _
  · exact own_nb _
  · exact own_nb _
  · exact own_nb _
def Q0 (Z : State) (q0 : Int64) (q1 : Int64) (p2 : Int32) (p3 : Int32) (h0 : Heap) (n0 : Nat) (v : Option Value) (h : Heap) (L : List Loc) : Prop := v = some (.int 1) ∧ Fr n0 L
set_option maxRecDepth 65536 in
set_option maxHeartbeats 40000000 in
theorem rm0 (l : Launch) (Z : State) (a0 : Array Value) (hw : ∀ d ∈ tables_1, d.before a0 Z = true) (ws : List Jvm.Cond) (q0 : Int64) (q1 : Int64) (p2 : Int32) (p3 : Int32) (h0 : Heap) (n0 : Nat) (Z0 : n0 ≤ h0.size) :
    MetFree l x (head1 (Jvm.Cond.code x code maxLocals ret :: ws) room_1) (fun a U => a = #[(.long q0), (.long q1), (.int p2), (.int p3)] ∧ Z.Warmed39 U.vm ∧ U.heap = h0) (fun _ _ _ _ _ => True) (fun _ U o U' => ∃ v L, o = .returned v ∧ Q0 Z q0 q1 p2 p3 h0 n0 v U'.heap L ∧ FrameEnd U o U' L room_1.cells room_1.slots) := by
  refine MetFree.of_bodySF (plainFor_of_name pn1) hisR ?_
  intro p e s m args below meth c s₁ Bd hml0 hP hK
  obtain ⟨rfl, hZ, hh⟩ := hP
  have hx := Bd.exec
  have hby := Bd.bytes
  have hml : c.maxLocals = 14 := hml0
  have hown : s.vm.findClass "com/example/isopod/isopod/RecordHeaderOfPinLaw" = some m.cls := findClass_of_methodNamed Bd.named
  have hnm := (name_of_methodNamed Bd.named Bd.method).1
  have X0 : Stand p l e room_1 s m #[(.long q0), (.long q1), (.int p2), (.int p3)] below meth c s₁ [] 0 0 := Stand.of_body Bd
  have e0 : s₁.heap = h0 := by rw [← hh, Bd.state]; rfl
  have N0 := Fr.nil n0
  refine Goes.out (Q := fun o U' => ∃ v L, o = .returned v ∧ Q0 Z q0 q1 p2 p3 h0 n0 v U'.heap L ∧ FrameEnd s o U' L room_1.cells room_1.slots) ?_
  refine Goes.step (S' := s₁.setTop (mkF m 0 #[.val (.long q0), .second, .val (.long q1), .second, .val (.int p2), .val (.int p3), .unset, .unset, .unset, .unset, .unset, .unset, .unset, .unset] [])) (fun _ k => castTop (ef0 m q0 q1 p2 p3) k) ?_
  refine Goes.step (S' := s₁.setTop (mkF m 2 #[.val (.long q0), .second, .val (.long q1), .second, .val (.int p2), .val (.int p3), .unset, .unset, .unset, .unset, .unset, .unset, .unset, .unset] [(.int p3)])) (fun _ k => XS.iload X0.here hx rfl (hb hby at_0) rfl  k) ?_
  refine Goes.step (S' := s₁.setTop (mkF m 3 #[.val (.long q0), .second, .val (.long q1), .second, .val (.int p2), .val (.int p3), .unset, .unset, .unset, .unset, .unset, .unset, .unset, .unset] [(.int (1 : Int32)), (.int p3)])) (fun _ k => XS.iconst X0.here hx rfl (hb hby at_2) k) ?_
  refine Goes.step (S' := s₁.setTop (mkF m 4 #[.val (.long q0), .second, .val (.long q1), .second, .val (.int p2), .val (.int p3), .unset, .unset, .unset, .unset, .unset, .unset, .unset, .unset] [(.int (p3 &&& (1 : Int32)))])) (fun _ k => XS.iand X0.here hx rfl (hb hby at_3) rfl k) ?_
  refine Goes.step (own_ite1 (T := s₁) (c := (p3 &&& (1 : Int32)) = (0 : Int32)) (a0 := (q0 &&& (4294967295 : Int64))) (b0 := (0 : Int64)) (F := fun z1_0 => (mkF m 16 #[.val (.long q0), .second, .val (.long q1), .second, .val (.int p2), .val (.int p3), .unset, .unset, .unset, .unset, .unset, .unset, .unset, .unset] [(.long z1_0)])) ?_ ?_) ?_
  · intro hc4_1 t k
    refine XS.ifYes X0.here hx rfl (pc0 := 4) (pc' := 11) rfl (hb hby at_4) rfl ((if0 _ _).trans (teq hc4_1).1) (by decide) (by decide) ?_
    show Steps p.tables e below (s₁.setTop (mkF m 11 #[.val (.long q0), .second, .val (.long q1), .second, .val (.int p2), .val (.int p3), .unset, .unset, .unset, .unset, .unset, .unset, .unset, .unset] [])) _
    refine XS.lloadN X0.here hx rfl (hb hby at_11) rfl  ?_
    show Steps p.tables e below (s₁.setTop (mkF m 12 #[.val (.long q0), .second, .val (.long q1), .second, .val (.int p2), .val (.int p3), .unset, .unset, .unset, .unset, .unset, .unset, .unset, .unset] [(.long q0)])) _
    refine X0.ldc2Long hx hown (mvT hZ (hw _ (List.mem_of_getElem? (i := 66) rfl))) (g := (mkF m 12 #[.val (.long q0), .second, .val (.long q1), .second, .val (.int p2), .val (.int p3), .unset, .unset, .unset, .unset, .unset, .unset, .unset, .unset] [(.long q0)])) rfl (hb hby at_12) _ ?_
    show Steps p.tables e below (s₁.setTop (mkF m 15 #[.val (.long q0), .second, .val (.long q1), .second, .val (.int p2), .val (.int p3), .unset, .unset, .unset, .unset, .unset, .unset, .unset, .unset] [(.long (4294967295 : Int64)), (.long q0)])) _
    refine XS.land X0.here hx rfl (hb hby at_15) rfl ?_
    show Steps p.tables e below (s₁.setTop (mkF m 16 #[.val (.long q0), .second, .val (.long q1), .second, .val (.int p2), .val (.int p3), .unset, .unset, .unset, .unset, .unset, .unset, .unset, .unset] [(.long (q0 &&& (4294967295 : Int64)))])) _
    exact k
  · intro hc4_1 t k
    refine XS.ifNo X0.here hx rfl (hb hby at_4) rfl ((if0 _ _).trans (feq hc4_1).1) ?_
    show Steps p.tables e below (s₁.setTop (mkF m 7 #[.val (.long q0), .second, .val (.long q1), .second, .val (.int p2), .val (.int p3), .unset, .unset, .unset, .unset, .unset, .unset, .unset, .unset] [])) _
    refine XS.lconst X0.here hx rfl (hb hby at_7) ?_
    show Steps p.tables e below (s₁.setTop (mkF m 8 #[.val (.long q0), .second, .val (.long q1), .second, .val (.int p2), .val (.int p3), .unset, .unset, .unset, .unset, .unset, .unset, .unset, .unset] [(.long (0 : Int64))])) _
    refine XS.goto X0.here hx rfl (pc0 := 8) (pc' := 16) rfl (hb hby at_8) (by decide) (by decide) ?_
    show Steps p.tables e below (s₁.setTop (mkF m 16 #[.val (.long q0), .second, .val (.long q1), .second, .val (.int p2), .val (.int p3), .unset, .unset, .unset, .unset, .unset, .unset, .unset, .unset] [(.long (0 : Int64))])) _
    exact k
  show Goes p.tables e below _ (s₁.setTop (mkF m 16 #[.val (.long q0), .second, .val (.long q1), .second, .val (.int p2), .val (.int p3), .unset, .unset, .unset, .unset, .unset, .unset, .unset, .unset] [(.long (if (p3 &&& (1 : Int32)) = (0 : Int32) then (q0 &&& (4294967295 : Int64)) else (0 : Int64)))]))
  refine Goes.step (S' := s₁.setTop (mkF m 18 #[.val (.long q0), .second, .val (.long q1), .second, .val (.int p2), .val (.int p3), .val (.long (if (p3 &&& (1 : Int32)) = (0 : Int32) then (q0 &&& (4294967295 : Int64)) else (0 : Int64))), .second, .unset, .unset, .unset, .unset, .unset, .unset] [])) (fun _ k => XS.lstore X0.here hx rfl (hb hby at_16) rfl (l' := #[.val (.long q0), .second, .val (.long q1), .second, .val (.int p2), .val (.int p3), .val (.long (if (p3 &&& (1 : Int32)) = (0 : Int32) then (q0 &&& (4294967295 : Int64)) else (0 : Int64))), .second, .unset, .unset, .unset, .unset, .unset, .unset]) rfl k) ?_
  obtain ⟨v6_16, ev6_16⟩ : ∃ z : Int64, z = (if (p3 &&& (1 : Int32)) = (0 : Int32) then (q0 &&& (4294967295 : Int64)) else (0 : Int64)) := ⟨_, rfl⟩
  rw [← ev6_16]
  by_cases hs18 : v6_16 = (0 : Int64)
  · refine Goes.step (S' := s₁.setTop (mkF m 20 #[.val (.long q0), .second, .val (.long q1), .second, .val (.int p2), .val (.int p3), .val (.long v6_16), .second, .unset, .unset, .unset, .unset, .unset, .unset] [(.int (12 : Int32))])) (fun _ k => XS.bipush X0.here hx rfl (hb hby at_18) k) ?_
    obtain ⟨T1, h1, k1, X1, e1, E1, A1, hk1, st1⟩ := own_newB X0 hx hZ (hw _ (List.mem_of_getElem? (i := 0) rfl)) e0 (g := (mkF m 20 #[.val (.long q0), .second, .val (.long q1), .second, .val (.int p2), .val (.int p3), .val (.long v6_16), .second, .unset, .unset, .unset, .unset, .unset, .unset] [(.int (12 : Int32))])) rfl (hb hby at_20) rfl (by decide) (cap := 12) (by decide) (by decide) (by decide) (by decide)
    obtain ⟨b1, g1⟩ : ∃ z, z = h0.size := ⟨_, rfl⟩
    rw [← g1] at A1 st1
    have g2 : n0 ≤ b1 := Nat.le_trans Z0 (Nat.le_of_eq g1.symm)
    have Z3 : n0 ≤ h1.size := Nat.le_trans Z0 E1.1
    have V4 : AI Z h1 b1 k1 .byte (12 : Int32) [(0 : Int32), (0 : Int32), (0 : Int32), (0 : Int32), (0 : Int32), (0 : Int32), (0 : Int32), (0 : Int32), (0 : Int32), (0 : Int32), (0 : Int32), (0 : Int32)] := own_new A1 (by decide) rfl
    refine Goes.step (S' := T1.setTop (mkF m 22 #[.val (.long q0), .second, .val (.long q1), .second, .val (.int p2), .val (.int p3), .val (.long v6_16), .second, .unset, .unset, .unset, .unset, .unset, .unset] [(.ref b1)])) st1 ?_
    refine Goes.step (S' := T1.setTop (mkF m 24 #[.val (.long q0), .second, .val (.long q1), .second, .val (.int p2), .val (.int p3), .val (.long v6_16), .second, .val (.ref b1), .unset, .unset, .unset, .unset, .unset] [])) (fun _ k => XS.astore X1.here hx rfl (hb hby at_22) rfl rfl (l' := #[.val (.long q0), .second, .val (.long q1), .second, .val (.int p2), .val (.int p3), .val (.long v6_16), .second, .val (.ref b1), .unset, .unset, .unset, .unset, .unset]) rfl k) ?_
    refine Goes.step (S' := T1.setTop (mkF m 26 #[.val (.long q0), .second, .val (.long q1), .second, .val (.int p2), .val (.int p3), .val (.long v6_16), .second, .val (.ref b1), .unset, .unset, .unset, .unset, .unset] [(.ref b1)])) (fun _ k => XS.aload X1.here hx rfl (hb hby at_24) rfl rfl k) ?_
    refine Goes.step (S' := T1.setTop (mkF m 27 #[.val (.long q0), .second, .val (.long q1), .second, .val (.int p2), .val (.int p3), .val (.long v6_16), .second, .val (.ref b1), .unset, .unset, .unset, .unset, .unset] [(.int (0 : Int32)), (.ref b1)])) (fun _ k => XS.iconst X1.here hx rfl (hb hby at_26) k) ?_
    refine Goes.step (S' := T1.setTop (mkF m 28 #[.val (.long q0), .second, .val (.long q1), .second, .val (.int p2), .val (.int p3), .val (.long v6_16), .second, .val (.ref b1), .unset, .unset, .unset, .unset, .unset] [(.long q1), (.int (0 : Int32)), (.ref b1)])) (fun _ k => XS.lloadN X1.here hx rfl (hb hby at_27) rfl  k) ?_
    refine Goes.step (S' := T1.setTop (mkF m 30 #[.val (.long q0), .second, .val (.long q1), .second, .val (.int p2), .val (.int p3), .val (.long v6_16), .second, .val (.ref b1), .unset, .unset, .unset, .unset, .unset] [(.int (56 : Int32)), (.long q1), (.int (0 : Int32)), (.ref b1)])) (fun _ k => XS.bipush X1.here hx rfl (hb hby at_28) k) ?_
    refine Goes.step (S' := T1.setTop (mkF m 31 #[.val (.long q0), .second, .val (.long q1), .second, .val (.int p2), .val (.int p3), .val (.long v6_16), .second, .val (.ref b1), .unset, .unset, .unset, .unset, .unset] [(.long ((q1.toUInt64 >>> ((56 : Int32) &&& 0x3f).toInt64.toUInt64).toInt64)), (.int (0 : Int32)), (.ref b1)])) (fun _ k => XS.lushr X1.here hx rfl (hb hby at_30) rfl k) ?_
    refine Goes.step (S' := T1.setTop (mkF m 32 #[.val (.long q0), .second, .val (.long q1), .second, .val (.int p2), .val (.int p3), .val (.long v6_16), .second, .val (.ref b1), .unset, .unset, .unset, .unset, .unset] [(.int (((q1.toUInt64 >>> ((56 : Int32) &&& 0x3f).toInt64.toUInt64).toInt64).toInt32)), (.int (0 : Int32)), (.ref b1)])) (fun _ k => XS.l2i X1.here hx rfl (hb hby at_31) rfl k) ?_
    refine Goes.step (S' := T1.setTop (mkF m 33 #[.val (.long q0), .second, .val (.long q1), .second, .val (.int p2), .val (.int p3), .val (.long v6_16), .second, .val (.ref b1), .unset, .unset, .unset, .unset, .unset] [(.int ((((q1.toUInt64 >>> ((56 : Int32) &&& 0x3f).toInt64.toUInt64).toInt64).toInt32).toInt8.toInt32)), (.int (0 : Int32)), (.ref b1)])) (fun _ k => XS.i2b X1.here hx rfl (hb hby at_32) rfl k) ?_
    obtain ⟨T5, h5, X5, e5, W5, V_5, st5⟩ := own_bastore X1 hx hZ e1 V4 ⟨by decide, by decide⟩ (g := (mkF m 33 #[.val (.long q0), .second, .val (.long q1), .second, .val (.int p2), .val (.int p3), .val (.long v6_16), .second, .val (.ref b1), .unset, .unset, .unset, .unset, .unset] [(.int ((((q1.toUInt64 >>> ((56 : Int32) &&& 0x3f).toInt64.toUInt64).toInt64).toInt32).toInt8.toInt32)), (.int (0 : Int32)), (.ref b1)])) rfl rfl (hb hby at_33)
    replace V_5 : AI Z h5 b1 k1 .byte (12 : Int32) [(nar .byte ((((q1.toUInt64 >>> ((56 : Int32) &&& 0x3f).toInt64.toUInt64).toInt64).toInt32).toInt8.toInt32)), (0 : Int32), (0 : Int32), (0 : Int32), (0 : Int32), (0 : Int32), (0 : Int32), (0 : Int32), (0 : Int32), (0 : Int32), (0 : Int32), (0 : Int32)] := V_5
    have N6 := Fr.snoc X5 N0 g2
    have Z7 : n0 ≤ h5.size := Nat.le_trans Z3 (Nat.le_of_eq W5.size.symm)
    refine Goes.step (S' := T5.setTop (mkF m 34 #[.val (.long q0), .second, .val (.long q1), .second, .val (.int p2), .val (.int p3), .val (.long v6_16), .second, .val (.ref b1), .unset, .unset, .unset, .unset, .unset] [])) st5 ?_
    refine Goes.step (S' := T5.setTop (mkF m 36 #[.val (.long q0), .second, .val (.long q1), .second, .val (.int p2), .val (.int p3), .val (.long v6_16), .second, .val (.ref b1), .unset, .unset, .unset, .unset, .unset] [(.ref b1)])) (fun _ k => XS.aload X5.here hx rfl (hb hby at_34) rfl rfl k) ?_
    refine Goes.step (S' := T5.setTop (mkF m 37 #[.val (.long q0), .second, .val (.long q1), .second, .val (.int p2), .val (.int p3), .val (.long v6_16), .second, .val (.ref b1), .unset, .unset, .unset, .unset, .unset] [(.int (1 : Int32)), (.ref b1)])) (fun _ k => XS.iconst X5.here hx rfl (hb hby at_36) k) ?_
    refine Goes.step (S' := T5.setTop (mkF m 38 #[.val (.long q0), .second, .val (.long q1), .second, .val (.int p2), .val (.int p3), .val (.long v6_16), .second, .val (.ref b1), .unset, .unset, .unset, .unset, .unset] [(.long q1), (.int (1 : Int32)), (.ref b1)])) (fun _ k => XS.lloadN X5.here hx rfl (hb hby at_37) rfl  k) ?_
    refine Goes.step (S' := T5.setTop (mkF m 40 #[.val (.long q0), .second, .val (.long q1), .second, .val (.int p2), .val (.int p3), .val (.long v6_16), .second, .val (.ref b1), .unset, .unset, .unset, .unset, .unset] [(.int (48 : Int32)), (.long q1), (.int (1 : Int32)), (.ref b1)])) (fun _ k => XS.bipush X5.here hx rfl (hb hby at_38) k) ?_
    refine Goes.step (S' := T5.setTop (mkF m 41 #[.val (.long q0), .second, .val (.long q1), .second, .val (.int p2), .val (.int p3), .val (.long v6_16), .second, .val (.ref b1), .unset, .unset, .unset, .unset, .unset] [(.long ((q1.toUInt64 >>> ((48 : Int32) &&& 0x3f).toInt64.toUInt64).toInt64)), (.int (1 : Int32)), (.ref b1)])) (fun _ k => XS.lushr X5.here hx rfl (hb hby at_40) rfl k) ?_
    refine Goes.step (S' := T5.setTop (mkF m 42 #[.val (.long q0), .second, .val (.long q1), .second, .val (.int p2), .val (.int p3), .val (.long v6_16), .second, .val (.ref b1), .unset, .unset, .unset, .unset, .unset] [(.int (((q1.toUInt64 >>> ((48 : Int32) &&& 0x3f).toInt64.toUInt64).toInt64).toInt32)), (.int (1 : Int32)), (.ref b1)])) (fun _ k => XS.l2i X5.here hx rfl (hb hby at_41) rfl k) ?_
    refine Goes.step (S' := T5.setTop (mkF m 43 #[.val (.long q0), .second, .val (.long q1), .second, .val (.int p2), .val (.int p3), .val (.long v6_16), .second, .val (.ref b1), .unset, .unset, .unset, .unset, .unset] [(.int ((((q1.toUInt64 >>> ((48 : Int32) &&& 0x3f).toInt64.toUInt64).toInt64).toInt32).toInt8.toInt32)), (.int (1 : Int32)), (.ref b1)])) (fun _ k => XS.i2b X5.here hx rfl (hb hby at_42) rfl k) ?_
    obtain ⟨T8, h8, X8, e8, W8, V_8, st8⟩ := own_bastore X5 hx hZ e5 V_5 ⟨by decide, by decide⟩ (g := (mkF m 43 #[.val (.long q0), .second, .val (.long q1), .second, .val (.int p2), .val (.int p3), .val (.long v6_16), .second, .val (.ref b1), .unset, .unset, .unset, .unset, .unset] [(.int ((((q1.toUInt64 >>> ((48 : Int32) &&& 0x3f).toInt64.toUInt64).toInt64).toInt32).toInt8.toInt32)), (.int (1 : Int32)), (.ref b1)])) rfl rfl (hb hby at_43)
    replace V_8 : AI Z h8 b1 k1 .byte (12 : Int32) [(nar .byte ((((q1.toUInt64 >>> ((56 : Int32) &&& 0x3f).toInt64.toUInt64).toInt64).toInt32).toInt8.toInt32)), (nar .byte ((((q1.toUInt64 >>> ((48 : Int32) &&& 0x3f).toInt64.toUInt64).toInt64).toInt32).toInt8.toInt32)), (0 : Int32), (0 : Int32), (0 : Int32), (0 : Int32), (0 : Int32), (0 : Int32), (0 : Int32), (0 : Int32), (0 : Int32), (0 : Int32)] := V_8
    have N9 := Fr.snoc X8 N6 g2
    have Z10 : n0 ≤ h8.size := Nat.le_trans Z7 (Nat.le_of_eq W8.size.symm)
    refine Goes.step (S' := T8.setTop (mkF m 44 #[.val (.long q0), .second, .val (.long q1), .second, .val (.int p2), .val (.int p3), .val (.long v6_16), .second, .val (.ref b1), .unset, .unset, .unset, .unset, .unset] [])) st8 ?_
    refine Goes.step (S' := T8.setTop (mkF m 46 #[.val (.long q0), .second, .val (.long q1), .second, .val (.int p2), .val (.int p3), .val (.long v6_16), .second, .val (.ref b1), .unset, .unset, .unset, .unset, .unset] [(.ref b1)])) (fun _ k => XS.aload X8.here hx rfl (hb hby at_44) rfl rfl k) ?_
    refine Goes.step (S' := T8.setTop (mkF m 47 #[.val (.long q0), .second, .val (.long q1), .second, .val (.int p2), .val (.int p3), .val (.long v6_16), .second, .val (.ref b1), .unset, .unset, .unset, .unset, .unset] [(.int (2 : Int32)), (.ref b1)])) (fun _ k => XS.iconst X8.here hx rfl (hb hby at_46) k) ?_
    refine Goes.step (S' := T8.setTop (mkF m 48 #[.val (.long q0), .second, .val (.long q1), .second, .val (.int p2), .val (.int p3), .val (.long v6_16), .second, .val (.ref b1), .unset, .unset, .unset, .unset, .unset] [(.long q1), (.int (2 : Int32)), (.ref b1)])) (fun _ k => XS.lloadN X8.here hx rfl (hb hby at_47) rfl  k) ?_
    refine Goes.step (S' := T8.setTop (mkF m 50 #[.val (.long q0), .second, .val (.long q1), .second, .val (.int p2), .val (.int p3), .val (.long v6_16), .second, .val (.ref b1), .unset, .unset, .unset, .unset, .unset] [(.int (40 : Int32)), (.long q1), (.int (2 : Int32)), (.ref b1)])) (fun _ k => XS.bipush X8.here hx rfl (hb hby at_48) k) ?_
    refine Goes.step (S' := T8.setTop (mkF m 51 #[.val (.long q0), .second, .val (.long q1), .second, .val (.int p2), .val (.int p3), .val (.long v6_16), .second, .val (.ref b1), .unset, .unset, .unset, .unset, .unset] [(.long ((q1.toUInt64 >>> ((40 : Int32) &&& 0x3f).toInt64.toUInt64).toInt64)), (.int (2 : Int32)), (.ref b1)])) (fun _ k => XS.lushr X8.here hx rfl (hb hby at_50) rfl k) ?_
    refine Goes.step (S' := T8.setTop (mkF m 52 #[.val (.long q0), .second, .val (.long q1), .second, .val (.int p2), .val (.int p3), .val (.long v6_16), .second, .val (.ref b1), .unset, .unset, .unset, .unset, .unset] [(.int (((q1.toUInt64 >>> ((40 : Int32) &&& 0x3f).toInt64.toUInt64).toInt64).toInt32)), (.int (2 : Int32)), (.ref b1)])) (fun _ k => XS.l2i X8.here hx rfl (hb hby at_51) rfl k) ?_
    refine Goes.step (S' := T8.setTop (mkF m 53 #[.val (.long q0), .second, .val (.long q1), .second, .val (.int p2), .val (.int p3), .val (.long v6_16), .second, .val (.ref b1), .unset, .unset, .unset, .unset, .unset] [(.int ((((q1.toUInt64 >>> ((40 : Int32) &&& 0x3f).toInt64.toUInt64).toInt64).toInt32).toInt8.toInt32)), (.int (2 : Int32)), (.ref b1)])) (fun _ k => XS.i2b X8.here hx rfl (hb hby at_52) rfl k) ?_
    obtain ⟨T11, h11, X11, e11, W11, V_11, st11⟩ := own_bastore X8 hx hZ e8 V_8 ⟨by decide, by decide⟩ (g := (mkF m 53 #[.val (.long q0), .second, .val (.long q1), .second, .val (.int p2), .val (.int p3), .val (.long v6_16), .second, .val (.ref b1), .unset, .unset, .unset, .unset, .unset] [(.int ((((q1.toUInt64 >>> ((40 : Int32) &&& 0x3f).toInt64.toUInt64).toInt64).toInt32).toInt8.toInt32)), (.int (2 : Int32)), (.ref b1)])) rfl rfl (hb hby at_53)
    replace V_11 : AI Z h11 b1 k1 .byte (12 : Int32) [(nar .byte ((((q1.toUInt64 >>> ((56 : Int32) &&& 0x3f).toInt64.toUInt64).toInt64).toInt32).toInt8.toInt32)), (nar .byte ((((q1.toUInt64 >>> ((48 : Int32) &&& 0x3f).toInt64.toUInt64).toInt64).toInt32).toInt8.toInt32)), (nar .byte ((((q1.toUInt64 >>> ((40 : Int32) &&& 0x3f).toInt64.toUInt64).toInt64).toInt32).toInt8.toInt32)), (0 : Int32), (0 : Int32), (0 : Int32), (0 : Int32), (0 : Int32), (0 : Int32), (0 : Int32), (0 : Int32), (0 : Int32)] := V_11
    have N12 := Fr.snoc X11 N9 g2
    have Z13 : n0 ≤ h11.size := Nat.le_trans Z10 (Nat.le_of_eq W11.size.symm)
    refine Goes.step (S' := T11.setTop (mkF m 54 #[.val (.long q0), .second, .val (.long q1), .second, .val (.int p2), .val (.int p3), .val (.long v6_16), .second, .val (.ref b1), .unset, .unset, .unset, .unset, .unset] [])) st11 ?_
    refine Goes.step (S' := T11.setTop (mkF m 56 #[.val (.long q0), .second, .val (.long q1), .second, .val (.int p2), .val (.int p3), .val (.long v6_16), .second, .val (.ref b1), .unset, .unset, .unset, .unset, .unset] [(.ref b1)])) (fun _ k => XS.aload X11.here hx rfl (hb hby at_54) rfl rfl k) ?_
    refine Goes.step (S' := T11.setTop (mkF m 57 #[.val (.long q0), .second, .val (.long q1), .second, .val (.int p2), .val (.int p3), .val (.long v6_16), .second, .val (.ref b1), .unset, .unset, .unset, .unset, .unset] [(.int (3 : Int32)), (.ref b1)])) (fun _ k => XS.iconst X11.here hx rfl (hb hby at_56) k) ?_
    refine Goes.step (S' := T11.setTop (mkF m 58 #[.val (.long q0), .second, .val (.long q1), .second, .val (.int p2), .val (.int p3), .val (.long v6_16), .second, .val (.ref b1), .unset, .unset, .unset, .unset, .unset] [(.long q1), (.int (3 : Int32)), (.ref b1)])) (fun _ k => XS.lloadN X11.here hx rfl (hb hby at_57) rfl  k) ?_
    refine Goes.step (S' := T11.setTop (mkF m 60 #[.val (.long q0), .second, .val (.long q1), .second, .val (.int p2), .val (.int p3), .val (.long v6_16), .second, .val (.ref b1), .unset, .unset, .unset, .unset, .unset] [(.int (32 : Int32)), (.long q1), (.int (3 : Int32)), (.ref b1)])) (fun _ k => XS.bipush X11.here hx rfl (hb hby at_58) k) ?_
    refine Goes.step (S' := T11.setTop (mkF m 61 #[.val (.long q0), .second, .val (.long q1), .second, .val (.int p2), .val (.int p3), .val (.long v6_16), .second, .val (.ref b1), .unset, .unset, .unset, .unset, .unset] [(.long ((q1.toUInt64 >>> ((32 : Int32) &&& 0x3f).toInt64.toUInt64).toInt64)), (.int (3 : Int32)), (.ref b1)])) (fun _ k => XS.lushr X11.here hx rfl (hb hby at_60) rfl k) ?_
    refine Goes.step (S' := T11.setTop (mkF m 62 #[.val (.long q0), .second, .val (.long q1), .second, .val (.int p2), .val (.int p3), .val (.long v6_16), .second, .val (.ref b1), .unset, .unset, .unset, .unset, .unset] [(.int (((q1.toUInt64 >>> ((32 : Int32) &&& 0x3f).toInt64.toUInt64).toInt64).toInt32)), (.int (3 : Int32)), (.ref b1)])) (fun _ k => XS.l2i X11.here hx rfl (hb hby at_61) rfl k) ?_
    refine Goes.step (S' := T11.setTop (mkF m 63 #[.val (.long q0), .second, .val (.long q1), .second, .val (.int p2), .val (.int p3), .val (.long v6_16), .second, .val (.ref b1), .unset, .unset, .unset, .unset, .unset] [(.int ((((q1.toUInt64 >>> ((32 : Int32) &&& 0x3f).toInt64.toUInt64).toInt64).toInt32).toInt8.toInt32)), (.int (3 : Int32)), (.ref b1)])) (fun _ k => XS.i2b X11.here hx rfl (hb hby at_62) rfl k) ?_
    obtain ⟨T14, h14, X14, e14, W14, V_14, st14⟩ := own_bastore X11 hx hZ e11 V_11 ⟨by decide, by decide⟩ (g := (mkF m 63 #[.val (.long q0), .second, .val (.long q1), .second, .val (.int p2), .val (.int p3), .val (.long v6_16), .second, .val (.ref b1), .unset, .unset, .unset, .unset, .unset] [(.int ((((q1.toUInt64 >>> ((32 : Int32) &&& 0x3f).toInt64.toUInt64).toInt64).toInt32).toInt8.toInt32)), (.int (3 : Int32)), (.ref b1)])) rfl rfl (hb hby at_63)
    replace V_14 : AI Z h14 b1 k1 .byte (12 : Int32) [(nar .byte ((((q1.toUInt64 >>> ((56 : Int32) &&& 0x3f).toInt64.toUInt64).toInt64).toInt32).toInt8.toInt32)), (nar .byte ((((q1.toUInt64 >>> ((48 : Int32) &&& 0x3f).toInt64.toUInt64).toInt64).toInt32).toInt8.toInt32)), (nar .byte ((((q1.toUInt64 >>> ((40 : Int32) &&& 0x3f).toInt64.toUInt64).toInt64).toInt32).toInt8.toInt32)), (nar .byte ((((q1.toUInt64 >>> ((32 : Int32) &&& 0x3f).toInt64.toUInt64).toInt64).toInt32).toInt8.toInt32)), (0 : Int32), (0 : Int32), (0 : Int32), (0 : Int32), (0 : Int32), (0 : Int32), (0 : Int32), (0 : Int32)] := V_14
    have N15 := Fr.snoc X14 N12 g2
    have Z16 : n0 ≤ h14.size := Nat.le_trans Z13 (Nat.le_of_eq W14.size.symm)
    refine Goes.step (S' := T14.setTop (mkF m 64 #[.val (.long q0), .second, .val (.long q1), .second, .val (.int p2), .val (.int p3), .val (.long v6_16), .second, .val (.ref b1), .unset, .unset, .unset, .unset, .unset] [])) st14 ?_
    refine Goes.step (S' := T14.setTop (mkF m 66 #[.val (.long q0), .second, .val (.long q1), .second, .val (.int p2), .val (.int p3), .val (.long v6_16), .second, .val (.ref b1), .unset, .unset, .unset, .unset, .unset] [(.ref b1)])) (fun _ k => XS.aload X14.here hx rfl (hb hby at_64) rfl rfl k) ?_
    refine Goes.step (S' := T14.setTop (mkF m 67 #[.val (.long q0), .second, .val (.long q1), .second, .val (.int p2), .val (.int p3), .val (.long v6_16), .second, .val (.ref b1), .unset, .unset, .unset, .unset, .unset] [(.int (4 : Int32)), (.ref b1)])) (fun _ k => XS.iconst X14.here hx rfl (hb hby at_66) k) ?_
    refine Goes.step (S' := T14.setTop (mkF m 68 #[.val (.long q0), .second, .val (.long q1), .second, .val (.int p2), .val (.int p3), .val (.long v6_16), .second, .val (.ref b1), .unset, .unset, .unset, .unset, .unset] [(.long q1), (.int (4 : Int32)), (.ref b1)])) (fun _ k => XS.lloadN X14.here hx rfl (hb hby at_67) rfl  k) ?_
    refine Goes.step (S' := T14.setTop (mkF m 70 #[.val (.long q0), .second, .val (.long q1), .second, .val (.int p2), .val (.int p3), .val (.long v6_16), .second, .val (.ref b1), .unset, .unset, .unset, .unset, .unset] [(.int (24 : Int32)), (.long q1), (.int (4 : Int32)), (.ref b1)])) (fun _ k => XS.bipush X14.here hx rfl (hb hby at_68) k) ?_
    refine Goes.step (S' := T14.setTop (mkF m 71 #[.val (.long q0), .second, .val (.long q1), .second, .val (.int p2), .val (.int p3), .val (.long v6_16), .second, .val (.ref b1), .unset, .unset, .unset, .unset, .unset] [(.long ((q1.toUInt64 >>> ((24 : Int32) &&& 0x3f).toInt64.toUInt64).toInt64)), (.int (4 : Int32)), (.ref b1)])) (fun _ k => XS.lushr X14.here hx rfl (hb hby at_70) rfl k) ?_
    refine Goes.step (S' := T14.setTop (mkF m 72 #[.val (.long q0), .second, .val (.long q1), .second, .val (.int p2), .val (.int p3), .val (.long v6_16), .second, .val (.ref b1), .unset, .unset, .unset, .unset, .unset] [(.int (((q1.toUInt64 >>> ((24 : Int32) &&& 0x3f).toInt64.toUInt64).toInt64).toInt32)), (.int (4 : Int32)), (.ref b1)])) (fun _ k => XS.l2i X14.here hx rfl (hb hby at_71) rfl k) ?_
    refine Goes.step (S' := T14.setTop (mkF m 73 #[.val (.long q0), .second, .val (.long q1), .second, .val (.int p2), .val (.int p3), .val (.long v6_16), .second, .val (.ref b1), .unset, .unset, .unset, .unset, .unset] [(.int ((((q1.toUInt64 >>> ((24 : Int32) &&& 0x3f).toInt64.toUInt64).toInt64).toInt32).toInt8.toInt32)), (.int (4 : Int32)), (.ref b1)])) (fun _ k => XS.i2b X14.here hx rfl (hb hby at_72) rfl k) ?_
    obtain ⟨T17, h17, X17, e17, W17, V_17, st17⟩ := own_bastore X14 hx hZ e14 V_14 ⟨by decide, by decide⟩ (g := (mkF m 73 #[.val (.long q0), .second, .val (.long q1), .second, .val (.int p2), .val (.int p3), .val (.long v6_16), .second, .val (.ref b1), .unset, .unset, .unset, .unset, .unset] [(.int ((((q1.toUInt64 >>> ((24 : Int32) &&& 0x3f).toInt64.toUInt64).toInt64).toInt32).toInt8.toInt32)), (.int (4 : Int32)), (.ref b1)])) rfl rfl (hb hby at_73)
    replace V_17 : AI Z h17 b1 k1 .byte (12 : Int32) [(nar .byte ((((q1.toUInt64 >>> ((56 : Int32) &&& 0x3f).toInt64.toUInt64).toInt64).toInt32).toInt8.toInt32)), (nar .byte ((((q1.toUInt64 >>> ((48 : Int32) &&& 0x3f).toInt64.toUInt64).toInt64).toInt32).toInt8.toInt32)), (nar .byte ((((q1.toUInt64 >>> ((40 : Int32) &&& 0x3f).toInt64.toUInt64).toInt64).toInt32).toInt8.toInt32)), (nar .byte ((((q1.toUInt64 >>> ((32 : Int32) &&& 0x3f).toInt64.toUInt64).toInt64).toInt32).toInt8.toInt32)), (nar .byte ((((q1.toUInt64 >>> ((24 : Int32) &&& 0x3f).toInt64.toUInt64).toInt64).toInt32).toInt8.toInt32)), (0 : Int32), (0 : Int32), (0 : Int32), (0 : Int32), (0 : Int32), (0 : Int32), (0 : Int32)] := V_17
    have N18 := Fr.snoc X17 N15 g2
    have Z19 : n0 ≤ h17.size := Nat.le_trans Z16 (Nat.le_of_eq W17.size.symm)
    refine Goes.step (S' := T17.setTop (mkF m 74 #[.val (.long q0), .second, .val (.long q1), .second, .val (.int p2), .val (.int p3), .val (.long v6_16), .second, .val (.ref b1), .unset, .unset, .unset, .unset, .unset] [])) st17 ?_
    refine Goes.step (S' := T17.setTop (mkF m 76 #[.val (.long q0), .second, .val (.long q1), .second, .val (.int p2), .val (.int p3), .val (.long v6_16), .second, .val (.ref b1), .unset, .unset, .unset, .unset, .unset] [(.ref b1)])) (fun _ k => XS.aload X17.here hx rfl (hb hby at_74) rfl rfl k) ?_
    refine Goes.step (S' := T17.setTop (mkF m 77 #[.val (.long q0), .second, .val (.long q1), .second, .val (.int p2), .val (.int p3), .val (.long v6_16), .second, .val (.ref b1), .unset, .unset, .unset, .unset, .unset] [(.int (5 : Int32)), (.ref b1)])) (fun _ k => XS.iconst X17.here hx rfl (hb hby at_76) k) ?_
    refine Goes.step (S' := T17.setTop (mkF m 78 #[.val (.long q0), .second, .val (.long q1), .second, .val (.int p2), .val (.int p3), .val (.long v6_16), .second, .val (.ref b1), .unset, .unset, .unset, .unset, .unset] [(.long q1), (.int (5 : Int32)), (.ref b1)])) (fun _ k => XS.lloadN X17.here hx rfl (hb hby at_77) rfl  k) ?_
    refine Goes.step (S' := T17.setTop (mkF m 80 #[.val (.long q0), .second, .val (.long q1), .second, .val (.int p2), .val (.int p3), .val (.long v6_16), .second, .val (.ref b1), .unset, .unset, .unset, .unset, .unset] [(.int (16 : Int32)), (.long q1), (.int (5 : Int32)), (.ref b1)])) (fun _ k => XS.bipush X17.here hx rfl (hb hby at_78) k) ?_
    refine Goes.step (S' := T17.setTop (mkF m 81 #[.val (.long q0), .second, .val (.long q1), .second, .val (.int p2), .val (.int p3), .val (.long v6_16), .second, .val (.ref b1), .unset, .unset, .unset, .unset, .unset] [(.long ((q1.toUInt64 >>> ((16 : Int32) &&& 0x3f).toInt64.toUInt64).toInt64)), (.int (5 : Int32)), (.ref b1)])) (fun _ k => XS.lushr X17.here hx rfl (hb hby at_80) rfl k) ?_
    refine Goes.step (S' := T17.setTop (mkF m 82 #[.val (.long q0), .second, .val (.long q1), .second, .val (.int p2), .val (.int p3), .val (.long v6_16), .second, .val (.ref b1), .unset, .unset, .unset, .unset, .unset] [(.int (((q1.toUInt64 >>> ((16 : Int32) &&& 0x3f).toInt64.toUInt64).toInt64).toInt32)), (.int (5 : Int32)), (.ref b1)])) (fun _ k => XS.l2i X17.here hx rfl (hb hby at_81) rfl k) ?_
    refine Goes.step (S' := T17.setTop (mkF m 83 #[.val (.long q0), .second, .val (.long q1), .second, .val (.int p2), .val (.int p3), .val (.long v6_16), .second, .val (.ref b1), .unset, .unset, .unset, .unset, .unset] [(.int ((((q1.toUInt64 >>> ((16 : Int32) &&& 0x3f).toInt64.toUInt64).toInt64).toInt32).toInt8.toInt32)), (.int (5 : Int32)), (.ref b1)])) (fun _ k => XS.i2b X17.here hx rfl (hb hby at_82) rfl k) ?_
    obtain ⟨T20, h20, X20, e20, W20, V_20, st20⟩ := own_bastore X17 hx hZ e17 V_17 ⟨by decide, by decide⟩ (g := (mkF m 83 #[.val (.long q0), .second, .val (.long q1), .second, .val (.int p2), .val (.int p3), .val (.long v6_16), .second, .val (.ref b1), .unset, .unset, .unset, .unset, .unset] [(.int ((((q1.toUInt64 >>> ((16 : Int32) &&& 0x3f).toInt64.toUInt64).toInt64).toInt32).toInt8.toInt32)), (.int (5 : Int32)), (.ref b1)])) rfl rfl (hb hby at_83)
    replace V_20 : AI Z h20 b1 k1 .byte (12 : Int32) [(nar .byte ((((q1.toUInt64 >>> ((56 : Int32) &&& 0x3f).toInt64.toUInt64).toInt64).toInt32).toInt8.toInt32)), (nar .byte ((((q1.toUInt64 >>> ((48 : Int32) &&& 0x3f).toInt64.toUInt64).toInt64).toInt32).toInt8.toInt32)), (nar .byte ((((q1.toUInt64 >>> ((40 : Int32) &&& 0x3f).toInt64.toUInt64).toInt64).toInt32).toInt8.toInt32)), (nar .byte ((((q1.toUInt64 >>> ((32 : Int32) &&& 0x3f).toInt64.toUInt64).toInt64).toInt32).toInt8.toInt32)), (nar .byte ((((q1.toUInt64 >>> ((24 : Int32) &&& 0x3f).toInt64.toUInt64).toInt64).toInt32).toInt8.toInt32)), (nar .byte ((((q1.toUInt64 >>> ((16 : Int32) &&& 0x3f).toInt64.toUInt64).toInt64).toInt32).toInt8.toInt32)), (0 : Int32), (0 : Int32), (0 : Int32), (0 : Int32), (0 : Int32), (0 : Int32)] := V_20
    have N21 := Fr.snoc X20 N18 g2
    have Z22 : n0 ≤ h20.size := Nat.le_trans Z19 (Nat.le_of_eq W20.size.symm)
    refine Goes.step (S' := T20.setTop (mkF m 84 #[.val (.long q0), .second, .val (.long q1), .second, .val (.int p2), .val (.int p3), .val (.long v6_16), .second, .val (.ref b1), .unset, .unset, .unset, .unset, .unset] [])) st20 ?_
    refine Goes.step (S' := T20.setTop (mkF m 86 #[.val (.long q0), .second, .val (.long q1), .second, .val (.int p2), .val (.int p3), .val (.long v6_16), .second, .val (.ref b1), .unset, .unset, .unset, .unset, .unset] [(.ref b1)])) (fun _ k => XS.aload X20.here hx rfl (hb hby at_84) rfl rfl k) ?_
    refine Goes.step (S' := T20.setTop (mkF m 88 #[.val (.long q0), .second, .val (.long q1), .second, .val (.int p2), .val (.int p3), .val (.long v6_16), .second, .val (.ref b1), .unset, .unset, .unset, .unset, .unset] [(.int (6 : Int32)), (.ref b1)])) (fun _ k => XS.bipush X20.here hx rfl (hb hby at_86) k) ?_
    refine Goes.step (S' := T20.setTop (mkF m 89 #[.val (.long q0), .second, .val (.long q1), .second, .val (.int p2), .val (.int p3), .val (.long v6_16), .second, .val (.ref b1), .unset, .unset, .unset, .unset, .unset] [(.long q1), (.int (6 : Int32)), (.ref b1)])) (fun _ k => XS.lloadN X20.here hx rfl (hb hby at_88) rfl  k) ?_
    refine Goes.step (S' := T20.setTop (mkF m 91 #[.val (.long q0), .second, .val (.long q1), .second, .val (.int p2), .val (.int p3), .val (.long v6_16), .second, .val (.ref b1), .unset, .unset, .unset, .unset, .unset] [(.int (8 : Int32)), (.long q1), (.int (6 : Int32)), (.ref b1)])) (fun _ k => XS.bipush X20.here hx rfl (hb hby at_89) k) ?_
    refine Goes.step (S' := T20.setTop (mkF m 92 #[.val (.long q0), .second, .val (.long q1), .second, .val (.int p2), .val (.int p3), .val (.long v6_16), .second, .val (.ref b1), .unset, .unset, .unset, .unset, .unset] [(.long ((q1.toUInt64 >>> ((8 : Int32) &&& 0x3f).toInt64.toUInt64).toInt64)), (.int (6 : Int32)), (.ref b1)])) (fun _ k => XS.lushr X20.here hx rfl (hb hby at_91) rfl k) ?_
    refine Goes.step (S' := T20.setTop (mkF m 93 #[.val (.long q0), .second, .val (.long q1), .second, .val (.int p2), .val (.int p3), .val (.long v6_16), .second, .val (.ref b1), .unset, .unset, .unset, .unset, .unset] [(.int (((q1.toUInt64 >>> ((8 : Int32) &&& 0x3f).toInt64.toUInt64).toInt64).toInt32)), (.int (6 : Int32)), (.ref b1)])) (fun _ k => XS.l2i X20.here hx rfl (hb hby at_92) rfl k) ?_
    refine Goes.step (S' := T20.setTop (mkF m 94 #[.val (.long q0), .second, .val (.long q1), .second, .val (.int p2), .val (.int p3), .val (.long v6_16), .second, .val (.ref b1), .unset, .unset, .unset, .unset, .unset] [(.int ((((q1.toUInt64 >>> ((8 : Int32) &&& 0x3f).toInt64.toUInt64).toInt64).toInt32).toInt8.toInt32)), (.int (6 : Int32)), (.ref b1)])) (fun _ k => XS.i2b X20.here hx rfl (hb hby at_93) rfl k) ?_
    obtain ⟨T23, h23, X23, e23, W23, V_23, st23⟩ := own_bastore X20 hx hZ e20 V_20 ⟨by decide, by decide⟩ (g := (mkF m 94 #[.val (.long q0), .second, .val (.long q1), .second, .val (.int p2), .val (.int p3), .val (.long v6_16), .second, .val (.ref b1), .unset, .unset, .unset, .unset, .unset] [(.int ((((q1.toUInt64 >>> ((8 : Int32) &&& 0x3f).toInt64.toUInt64).toInt64).toInt32).toInt8.toInt32)), (.int (6 : Int32)), (.ref b1)])) rfl rfl (hb hby at_94)
    replace V_23 : AI Z h23 b1 k1 .byte (12 : Int32) [(nar .byte ((((q1.toUInt64 >>> ((56 : Int32) &&& 0x3f).toInt64.toUInt64).toInt64).toInt32).toInt8.toInt32)), (nar .byte ((((q1.toUInt64 >>> ((48 : Int32) &&& 0x3f).toInt64.toUInt64).toInt64).toInt32).toInt8.toInt32)), (nar .byte ((((q1.toUInt64 >>> ((40 : Int32) &&& 0x3f).toInt64.toUInt64).toInt64).toInt32).toInt8.toInt32)), (nar .byte ((((q1.toUInt64 >>> ((32 : Int32) &&& 0x3f).toInt64.toUInt64).toInt64).toInt32).toInt8.toInt32)), (nar .byte ((((q1.toUInt64 >>> ((24 : Int32) &&& 0x3f).toInt64.toUInt64).toInt64).toInt32).toInt8.toInt32)), (nar .byte ((((q1.toUInt64 >>> ((16 : Int32) &&& 0x3f).toInt64.toUInt64).toInt64).toInt32).toInt8.toInt32)), (nar .byte ((((q1.toUInt64 >>> ((8 : Int32) &&& 0x3f).toInt64.toUInt64).toInt64).toInt32).toInt8.toInt32)), (0 : Int32), (0 : Int32), (0 : Int32), (0 : Int32), (0 : Int32)] := V_23
    have N24 := Fr.snoc X23 N21 g2
    have Z25 : n0 ≤ h23.size := Nat.le_trans Z22 (Nat.le_of_eq W23.size.symm)
    refine Goes.step (S' := T23.setTop (mkF m 95 #[.val (.long q0), .second, .val (.long q1), .second, .val (.int p2), .val (.int p3), .val (.long v6_16), .second, .val (.ref b1), .unset, .unset, .unset, .unset, .unset] [])) st23 ?_
    refine Goes.step (S' := T23.setTop (mkF m 97 #[.val (.long q0), .second, .val (.long q1), .second, .val (.int p2), .val (.int p3), .val (.long v6_16), .second, .val (.ref b1), .unset, .unset, .unset, .unset, .unset] [(.ref b1)])) (fun _ k => XS.aload X23.here hx rfl (hb hby at_95) rfl rfl k) ?_
    refine Goes.step (S' := T23.setTop (mkF m 99 #[.val (.long q0), .second, .val (.long q1), .second, .val (.int p2), .val (.int p3), .val (.long v6_16), .second, .val (.ref b1), .unset, .unset, .unset, .unset, .unset] [(.int (7 : Int32)), (.ref b1)])) (fun _ k => XS.bipush X23.here hx rfl (hb hby at_97) k) ?_
    refine Goes.step (S' := T23.setTop (mkF m 100 #[.val (.long q0), .second, .val (.long q1), .second, .val (.int p2), .val (.int p3), .val (.long v6_16), .second, .val (.ref b1), .unset, .unset, .unset, .unset, .unset] [(.long q1), (.int (7 : Int32)), (.ref b1)])) (fun _ k => XS.lloadN X23.here hx rfl (hb hby at_99) rfl  k) ?_
    refine Goes.step (S' := T23.setTop (mkF m 101 #[.val (.long q0), .second, .val (.long q1), .second, .val (.int p2), .val (.int p3), .val (.long v6_16), .second, .val (.ref b1), .unset, .unset, .unset, .unset, .unset] [(.int (q1.toInt32)), (.int (7 : Int32)), (.ref b1)])) (fun _ k => XS.l2i X23.here hx rfl (hb hby at_100) rfl k) ?_
    refine Goes.step (S' := T23.setTop (mkF m 102 #[.val (.long q0), .second, .val (.long q1), .second, .val (.int p2), .val (.int p3), .val (.long v6_16), .second, .val (.ref b1), .unset, .unset, .unset, .unset, .unset] [(.int ((q1.toInt32).toInt8.toInt32)), (.int (7 : Int32)), (.ref b1)])) (fun _ k => XS.i2b X23.here hx rfl (hb hby at_101) rfl k) ?_
    obtain ⟨T26, h26, X26, e26, W26, V_26, st26⟩ := own_bastore X23 hx hZ e23 V_23 ⟨by decide, by decide⟩ (g := (mkF m 102 #[.val (.long q0), .second, .val (.long q1), .second, .val (.int p2), .val (.int p3), .val (.long v6_16), .second, .val (.ref b1), .unset, .unset, .unset, .unset, .unset] [(.int ((q1.toInt32).toInt8.toInt32)), (.int (7 : Int32)), (.ref b1)])) rfl rfl (hb hby at_102)
    replace V_26 : AI Z h26 b1 k1 .byte (12 : Int32) [(nar .byte ((((q1.toUInt64 >>> ((56 : Int32) &&& 0x3f).toInt64.toUInt64).toInt64).toInt32).toInt8.toInt32)), (nar .byte ((((q1.toUInt64 >>> ((48 : Int32) &&& 0x3f).toInt64.toUInt64).toInt64).toInt32).toInt8.toInt32)), (nar .byte ((((q1.toUInt64 >>> ((40 : Int32) &&& 0x3f).toInt64.toUInt64).toInt64).toInt32).toInt8.toInt32)), (nar .byte ((((q1.toUInt64 >>> ((32 : Int32) &&& 0x3f).toInt64.toUInt64).toInt64).toInt32).toInt8.toInt32)), (nar .byte ((((q1.toUInt64 >>> ((24 : Int32) &&& 0x3f).toInt64.toUInt64).toInt64).toInt32).toInt8.toInt32)), (nar .byte ((((q1.toUInt64 >>> ((16 : Int32) &&& 0x3f).toInt64.toUInt64).toInt64).toInt32).toInt8.toInt32)), (nar .byte ((((q1.toUInt64 >>> ((8 : Int32) &&& 0x3f).toInt64.toUInt64).toInt64).toInt32).toInt8.toInt32)), (nar .byte ((q1.toInt32).toInt8.toInt32)), (0 : Int32), (0 : Int32), (0 : Int32), (0 : Int32)] := V_26
    have N27 := Fr.snoc X26 N24 g2
    have Z28 : n0 ≤ h26.size := Nat.le_trans Z25 (Nat.le_of_eq W26.size.symm)
    refine Goes.step (S' := T26.setTop (mkF m 103 #[.val (.long q0), .second, .val (.long q1), .second, .val (.int p2), .val (.int p3), .val (.long v6_16), .second, .val (.ref b1), .unset, .unset, .unset, .unset, .unset] [])) st26 ?_
    refine Goes.step (S' := T26.setTop (mkF m 105 #[.val (.long q0), .second, .val (.long q1), .second, .val (.int p2), .val (.int p3), .val (.long v6_16), .second, .val (.ref b1), .unset, .unset, .unset, .unset, .unset] [(.ref b1)])) (fun _ k => XS.aload X26.here hx rfl (hb hby at_103) rfl rfl k) ?_
    refine Goes.step (S' := T26.setTop (mkF m 107 #[.val (.long q0), .second, .val (.long q1), .second, .val (.int p2), .val (.int p3), .val (.long v6_16), .second, .val (.ref b1), .unset, .unset, .unset, .unset, .unset] [(.int (8 : Int32)), (.ref b1)])) (fun _ k => XS.bipush X26.here hx rfl (hb hby at_105) k) ?_
    refine Goes.step (S' := T26.setTop (mkF m 109 #[.val (.long q0), .second, .val (.long q1), .second, .val (.int p2), .val (.int p3), .val (.long v6_16), .second, .val (.ref b1), .unset, .unset, .unset, .unset, .unset] [(.int p2), (.int (8 : Int32)), (.ref b1)])) (fun _ k => XS.iload X26.here hx rfl (hb hby at_107) rfl  k) ?_
    refine Goes.step (S' := T26.setTop (mkF m 111 #[.val (.long q0), .second, .val (.long q1), .second, .val (.int p2), .val (.int p3), .val (.long v6_16), .second, .val (.ref b1), .unset, .unset, .unset, .unset, .unset] [(.int (24 : Int32)), (.int p2), (.int (8 : Int32)), (.ref b1)])) (fun _ k => XS.bipush X26.here hx rfl (hb hby at_109) k) ?_
    refine Goes.step (S' := T26.setTop (mkF m 112 #[.val (.long q0), .second, .val (.long q1), .second, .val (.int p2), .val (.int p3), .val (.long v6_16), .second, .val (.ref b1), .unset, .unset, .unset, .unset, .unset] [(.int ((p2.toUInt32 >>> ((24 : Int32) &&& 31).toUInt32).toInt32)), (.int (8 : Int32)), (.ref b1)])) (fun _ k => XS.iushr X26.here hx rfl (hb hby at_111) rfl k) ?_
    refine Goes.step (S' := T26.setTop (mkF m 113 #[.val (.long q0), .second, .val (.long q1), .second, .val (.int p2), .val (.int p3), .val (.long v6_16), .second, .val (.ref b1), .unset, .unset, .unset, .unset, .unset] [(.int (((p2.toUInt32 >>> ((24 : Int32) &&& 31).toUInt32).toInt32).toInt8.toInt32)), (.int (8 : Int32)), (.ref b1)])) (fun _ k => XS.i2b X26.here hx rfl (hb hby at_112) rfl k) ?_
    obtain ⟨T29, h29, X29, e29, W29, V_29, st29⟩ := own_bastore X26 hx hZ e26 V_26 ⟨by decide, by decide⟩ (g := (mkF m 113 #[.val (.long q0), .second, .val (.long q1), .second, .val (.int p2), .val (.int p3), .val (.long v6_16), .second, .val (.ref b1), .unset, .unset, .unset, .unset, .unset] [(.int (((p2.toUInt32 >>> ((24 : Int32) &&& 31).toUInt32).toInt32).toInt8.toInt32)), (.int (8 : Int32)), (.ref b1)])) rfl rfl (hb hby at_113)
    replace V_29 : AI Z h29 b1 k1 .byte (12 : Int32) [(nar .byte ((((q1.toUInt64 >>> ((56 : Int32) &&& 0x3f).toInt64.toUInt64).toInt64).toInt32).toInt8.toInt32)), (nar .byte ((((q1.toUInt64 >>> ((48 : Int32) &&& 0x3f).toInt64.toUInt64).toInt64).toInt32).toInt8.toInt32)), (nar .byte ((((q1.toUInt64 >>> ((40 : Int32) &&& 0x3f).toInt64.toUInt64).toInt64).toInt32).toInt8.toInt32)), (nar .byte ((((q1.toUInt64 >>> ((32 : Int32) &&& 0x3f).toInt64.toUInt64).toInt64).toInt32).toInt8.toInt32)), (nar .byte ((((q1.toUInt64 >>> ((24 : Int32) &&& 0x3f).toInt64.toUInt64).toInt64).toInt32).toInt8.toInt32)), (nar .byte ((((q1.toUInt64 >>> ((16 : Int32) &&& 0x3f).toInt64.toUInt64).toInt64).toInt32).toInt8.toInt32)), (nar .byte ((((q1.toUInt64 >>> ((8 : Int32) &&& 0x3f).toInt64.toUInt64).toInt64).toInt32).toInt8.toInt32)), (nar .byte ((q1.toInt32).toInt8.toInt32)), (nar .byte (((p2.toUInt32 >>> ((24 : Int32) &&& 31).toUInt32).toInt32).toInt8.toInt32)), (0 : Int32), (0 : Int32), (0 : Int32)] := V_29
    have N30 := Fr.snoc X29 N27 g2
    have Z31 : n0 ≤ h29.size := Nat.le_trans Z28 (Nat.le_of_eq W29.size.symm)
    refine Goes.step (S' := T29.setTop (mkF m 114 #[.val (.long q0), .second, .val (.long q1), .second, .val (.int p2), .val (.int p3), .val (.long v6_16), .second, .val (.ref b1), .unset, .unset, .unset, .unset, .unset] [])) st29 ?_
    refine Goes.step (S' := T29.setTop (mkF m 116 #[.val (.long q0), .second, .val (.long q1), .second, .val (.int p2), .val (.int p3), .val (.long v6_16), .second, .val (.ref b1), .unset, .unset, .unset, .unset, .unset] [(.ref b1)])) (fun _ k => XS.aload X29.here hx rfl (hb hby at_114) rfl rfl k) ?_
    refine Goes.step (S' := T29.setTop (mkF m 118 #[.val (.long q0), .second, .val (.long q1), .second, .val (.int p2), .val (.int p3), .val (.long v6_16), .second, .val (.ref b1), .unset, .unset, .unset, .unset, .unset] [(.int (9 : Int32)), (.ref b1)])) (fun _ k => XS.bipush X29.here hx rfl (hb hby at_116) k) ?_
    refine Goes.step (S' := T29.setTop (mkF m 120 #[.val (.long q0), .second, .val (.long q1), .second, .val (.int p2), .val (.int p3), .val (.long v6_16), .second, .val (.ref b1), .unset, .unset, .unset, .unset, .unset] [(.int p2), (.int (9 : Int32)), (.ref b1)])) (fun _ k => XS.iload X29.here hx rfl (hb hby at_118) rfl  k) ?_
    refine Goes.step (S' := T29.setTop (mkF m 122 #[.val (.long q0), .second, .val (.long q1), .second, .val (.int p2), .val (.int p3), .val (.long v6_16), .second, .val (.ref b1), .unset, .unset, .unset, .unset, .unset] [(.int (16 : Int32)), (.int p2), (.int (9 : Int32)), (.ref b1)])) (fun _ k => XS.bipush X29.here hx rfl (hb hby at_120) k) ?_
    refine Goes.step (S' := T29.setTop (mkF m 123 #[.val (.long q0), .second, .val (.long q1), .second, .val (.int p2), .val (.int p3), .val (.long v6_16), .second, .val (.ref b1), .unset, .unset, .unset, .unset, .unset] [(.int ((p2.toUInt32 >>> ((16 : Int32) &&& 31).toUInt32).toInt32)), (.int (9 : Int32)), (.ref b1)])) (fun _ k => XS.iushr X29.here hx rfl (hb hby at_122) rfl k) ?_
    refine Goes.step (S' := T29.setTop (mkF m 124 #[.val (.long q0), .second, .val (.long q1), .second, .val (.int p2), .val (.int p3), .val (.long v6_16), .second, .val (.ref b1), .unset, .unset, .unset, .unset, .unset] [(.int (((p2.toUInt32 >>> ((16 : Int32) &&& 31).toUInt32).toInt32).toInt8.toInt32)), (.int (9 : Int32)), (.ref b1)])) (fun _ k => XS.i2b X29.here hx rfl (hb hby at_123) rfl k) ?_
    obtain ⟨T32, h32, X32, e32, W32, V_32, st32⟩ := own_bastore X29 hx hZ e29 V_29 ⟨by decide, by decide⟩ (g := (mkF m 124 #[.val (.long q0), .second, .val (.long q1), .second, .val (.int p2), .val (.int p3), .val (.long v6_16), .second, .val (.ref b1), .unset, .unset, .unset, .unset, .unset] [(.int (((p2.toUInt32 >>> ((16 : Int32) &&& 31).toUInt32).toInt32).toInt8.toInt32)), (.int (9 : Int32)), (.ref b1)])) rfl rfl (hb hby at_124)
    replace V_32 : AI Z h32 b1 k1 .byte (12 : Int32) [(nar .byte ((((q1.toUInt64 >>> ((56 : Int32) &&& 0x3f).toInt64.toUInt64).toInt64).toInt32).toInt8.toInt32)), (nar .byte ((((q1.toUInt64 >>> ((48 : Int32) &&& 0x3f).toInt64.toUInt64).toInt64).toInt32).toInt8.toInt32)), (nar .byte ((((q1.toUInt64 >>> ((40 : Int32) &&& 0x3f).toInt64.toUInt64).toInt64).toInt32).toInt8.toInt32)), (nar .byte ((((q1.toUInt64 >>> ((32 : Int32) &&& 0x3f).toInt64.toUInt64).toInt64).toInt32).toInt8.toInt32)), (nar .byte ((((q1.toUInt64 >>> ((24 : Int32) &&& 0x3f).toInt64.toUInt64).toInt64).toInt32).toInt8.toInt32)), (nar .byte ((((q1.toUInt64 >>> ((16 : Int32) &&& 0x3f).toInt64.toUInt64).toInt64).toInt32).toInt8.toInt32)), (nar .byte ((((q1.toUInt64 >>> ((8 : Int32) &&& 0x3f).toInt64.toUInt64).toInt64).toInt32).toInt8.toInt32)), (nar .byte ((q1.toInt32).toInt8.toInt32)), (nar .byte (((p2.toUInt32 >>> ((24 : Int32) &&& 31).toUInt32).toInt32).toInt8.toInt32)), (nar .byte (((p2.toUInt32 >>> ((16 : Int32) &&& 31).toUInt32).toInt32).toInt8.toInt32)), (0 : Int32), (0 : Int32)] := V_32
    have N33 := Fr.snoc X32 N30 g2
    have Z34 : n0 ≤ h32.size := Nat.le_trans Z31 (Nat.le_of_eq W32.size.symm)
    refine Goes.step (S' := T32.setTop (mkF m 125 #[.val (.long q0), .second, .val (.long q1), .second, .val (.int p2), .val (.int p3), .val (.long v6_16), .second, .val (.ref b1), .unset, .unset, .unset, .unset, .unset] [])) st32 ?_
    refine Goes.step (S' := T32.setTop (mkF m 127 #[.val (.long q0), .second, .val (.long q1), .second, .val (.int p2), .val (.int p3), .val (.long v6_16), .second, .val (.ref b1), .unset, .unset, .unset, .unset, .unset] [(.ref b1)])) (fun _ k => XS.aload X32.here hx rfl (hb hby at_125) rfl rfl k) ?_
    refine Goes.step (S' := T32.setTop (mkF m 129 #[.val (.long q0), .second, .val (.long q1), .second, .val (.int p2), .val (.int p3), .val (.long v6_16), .second, .val (.ref b1), .unset, .unset, .unset, .unset, .unset] [(.int (10 : Int32)), (.ref b1)])) (fun _ k => XS.bipush X32.here hx rfl (hb hby at_127) k) ?_
    refine Goes.step (S' := T32.setTop (mkF m 131 #[.val (.long q0), .second, .val (.long q1), .second, .val (.int p2), .val (.int p3), .val (.long v6_16), .second, .val (.ref b1), .unset, .unset, .unset, .unset, .unset] [(.int p2), (.int (10 : Int32)), (.ref b1)])) (fun _ k => XS.iload X32.here hx rfl (hb hby at_129) rfl  k) ?_
    refine Goes.step (S' := T32.setTop (mkF m 133 #[.val (.long q0), .second, .val (.long q1), .second, .val (.int p2), .val (.int p3), .val (.long v6_16), .second, .val (.ref b1), .unset, .unset, .unset, .unset, .unset] [(.int (8 : Int32)), (.int p2), (.int (10 : Int32)), (.ref b1)])) (fun _ k => XS.bipush X32.here hx rfl (hb hby at_131) k) ?_
    refine Goes.step (S' := T32.setTop (mkF m 134 #[.val (.long q0), .second, .val (.long q1), .second, .val (.int p2), .val (.int p3), .val (.long v6_16), .second, .val (.ref b1), .unset, .unset, .unset, .unset, .unset] [(.int ((p2.toUInt32 >>> ((8 : Int32) &&& 31).toUInt32).toInt32)), (.int (10 : Int32)), (.ref b1)])) (fun _ k => XS.iushr X32.here hx rfl (hb hby at_133) rfl k) ?_
    refine Goes.step (S' := T32.setTop (mkF m 135 #[.val (.long q0), .second, .val (.long q1), .second, .val (.int p2), .val (.int p3), .val (.long v6_16), .second, .val (.ref b1), .unset, .unset, .unset, .unset, .unset] [(.int (((p2.toUInt32 >>> ((8 : Int32) &&& 31).toUInt32).toInt32).toInt8.toInt32)), (.int (10 : Int32)), (.ref b1)])) (fun _ k => XS.i2b X32.here hx rfl (hb hby at_134) rfl k) ?_
    obtain ⟨T35, h35, X35, e35, W35, V_35, st35⟩ := own_bastore X32 hx hZ e32 V_32 ⟨by decide, by decide⟩ (g := (mkF m 135 #[.val (.long q0), .second, .val (.long q1), .second, .val (.int p2), .val (.int p3), .val (.long v6_16), .second, .val (.ref b1), .unset, .unset, .unset, .unset, .unset] [(.int (((p2.toUInt32 >>> ((8 : Int32) &&& 31).toUInt32).toInt32).toInt8.toInt32)), (.int (10 : Int32)), (.ref b1)])) rfl rfl (hb hby at_135)
    replace V_35 : AI Z h35 b1 k1 .byte (12 : Int32) [(nar .byte ((((q1.toUInt64 >>> ((56 : Int32) &&& 0x3f).toInt64.toUInt64).toInt64).toInt32).toInt8.toInt32)), (nar .byte ((((q1.toUInt64 >>> ((48 : Int32) &&& 0x3f).toInt64.toUInt64).toInt64).toInt32).toInt8.toInt32)), (nar .byte ((((q1.toUInt64 >>> ((40 : Int32) &&& 0x3f).toInt64.toUInt64).toInt64).toInt32).toInt8.toInt32)), (nar .byte ((((q1.toUInt64 >>> ((32 : Int32) &&& 0x3f).toInt64.toUInt64).toInt64).toInt32).toInt8.toInt32)), (nar .byte ((((q1.toUInt64 >>> ((24 : Int32) &&& 0x3f).toInt64.toUInt64).toInt64).toInt32).toInt8.toInt32)), (nar .byte ((((q1.toUInt64 >>> ((16 : Int32) &&& 0x3f).toInt64.toUInt64).toInt64).toInt32).toInt8.toInt32)), (nar .byte ((((q1.toUInt64 >>> ((8 : Int32) &&& 0x3f).toInt64.toUInt64).toInt64).toInt32).toInt8.toInt32)), (nar .byte ((q1.toInt32).toInt8.toInt32)), (nar .byte (((p2.toUInt32 >>> ((24 : Int32) &&& 31).toUInt32).toInt32).toInt8.toInt32)), (nar .byte (((p2.toUInt32 >>> ((16 : Int32) &&& 31).toUInt32).toInt32).toInt8.toInt32)), (nar .byte (((p2.toUInt32 >>> ((8 : Int32) &&& 31).toUInt32).toInt32).toInt8.toInt32)), (0 : Int32)] := V_35
    have N36 := Fr.snoc X35 N33 g2
    have Z37 : n0 ≤ h35.size := Nat.le_trans Z34 (Nat.le_of_eq W35.size.symm)
    refine Goes.step (S' := T35.setTop (mkF m 136 #[.val (.long q0), .second, .val (.long q1), .second, .val (.int p2), .val (.int p3), .val (.long v6_16), .second, .val (.ref b1), .unset, .unset, .unset, .unset, .unset] [])) st35 ?_
    refine Goes.step (S' := T35.setTop (mkF m 138 #[.val (.long q0), .second, .val (.long q1), .second, .val (.int p2), .val (.int p3), .val (.long v6_16), .second, .val (.ref b1), .unset, .unset, .unset, .unset, .unset] [(.ref b1)])) (fun _ k => XS.aload X35.here hx rfl (hb hby at_136) rfl rfl k) ?_
    refine Goes.step (S' := T35.setTop (mkF m 140 #[.val (.long q0), .second, .val (.long q1), .second, .val (.int p2), .val (.int p3), .val (.long v6_16), .second, .val (.ref b1), .unset, .unset, .unset, .unset, .unset] [(.int (11 : Int32)), (.ref b1)])) (fun _ k => XS.bipush X35.here hx rfl (hb hby at_138) k) ?_
    refine Goes.step (S' := T35.setTop (mkF m 142 #[.val (.long q0), .second, .val (.long q1), .second, .val (.int p2), .val (.int p3), .val (.long v6_16), .second, .val (.ref b1), .unset, .unset, .unset, .unset, .unset] [(.int p2), (.int (11 : Int32)), (.ref b1)])) (fun _ k => XS.iload X35.here hx rfl (hb hby at_140) rfl  k) ?_
    refine Goes.step (S' := T35.setTop (mkF m 143 #[.val (.long q0), .second, .val (.long q1), .second, .val (.int p2), .val (.int p3), .val (.long v6_16), .second, .val (.ref b1), .unset, .unset, .unset, .unset, .unset] [(.int (p2.toInt8.toInt32)), (.int (11 : Int32)), (.ref b1)])) (fun _ k => XS.i2b X35.here hx rfl (hb hby at_142) rfl k) ?_
    obtain ⟨T38, h38, X38, e38, W38, V_38, st38⟩ := own_bastore X35 hx hZ e35 V_35 ⟨by decide, by decide⟩ (g := (mkF m 143 #[.val (.long q0), .second, .val (.long q1), .second, .val (.int p2), .val (.int p3), .val (.long v6_16), .second, .val (.ref b1), .unset, .unset, .unset, .unset, .unset] [(.int (p2.toInt8.toInt32)), (.int (11 : Int32)), (.ref b1)])) rfl rfl (hb hby at_143)
    replace V_38 : AI Z h38 b1 k1 .byte (12 : Int32) [(nar .byte ((((q1.toUInt64 >>> ((56 : Int32) &&& 0x3f).toInt64.toUInt64).toInt64).toInt32).toInt8.toInt32)), (nar .byte ((((q1.toUInt64 >>> ((48 : Int32) &&& 0x3f).toInt64.toUInt64).toInt64).toInt32).toInt8.toInt32)), (nar .byte ((((q1.toUInt64 >>> ((40 : Int32) &&& 0x3f).toInt64.toUInt64).toInt64).toInt32).toInt8.toInt32)), (nar .byte ((((q1.toUInt64 >>> ((32 : Int32) &&& 0x3f).toInt64.toUInt64).toInt64).toInt32).toInt8.toInt32)), (nar .byte ((((q1.toUInt64 >>> ((24 : Int32) &&& 0x3f).toInt64.toUInt64).toInt64).toInt32).toInt8.toInt32)), (nar .byte ((((q1.toUInt64 >>> ((16 : Int32) &&& 0x3f).toInt64.toUInt64).toInt64).toInt32).toInt8.toInt32)), (nar .byte ((((q1.toUInt64 >>> ((8 : Int32) &&& 0x3f).toInt64.toUInt64).toInt64).toInt32).toInt8.toInt32)), (nar .byte ((q1.toInt32).toInt8.toInt32)), (nar .byte (((p2.toUInt32 >>> ((24 : Int32) &&& 31).toUInt32).toInt32).toInt8.toInt32)), (nar .byte (((p2.toUInt32 >>> ((16 : Int32) &&& 31).toUInt32).toInt32).toInt8.toInt32)), (nar .byte (((p2.toUInt32 >>> ((8 : Int32) &&& 31).toUInt32).toInt32).toInt8.toInt32)), (nar .byte (p2.toInt8.toInt32))] := V_38
    have N39 := Fr.snoc X38 N36 g2
    have Z40 : n0 ≤ h38.size := Nat.le_trans Z37 (Nat.le_of_eq W38.size.symm)
    refine Goes.step (S' := T38.setTop (mkF m 144 #[.val (.long q0), .second, .val (.long q1), .second, .val (.int p2), .val (.int p3), .val (.long v6_16), .second, .val (.ref b1), .unset, .unset, .unset, .unset, .unset] [])) st38 ?_
    refine Goes.step (S' := T38.setTop (mkF m 146 #[.val (.long q0), .second, .val (.long q1), .second, .val (.int p2), .val (.int p3), .val (.long v6_16), .second, .val (.ref b1), .unset, .unset, .unset, .unset, .unset] [(.long v6_16)])) (fun _ k => XS.lload X38.here hx rfl (hb hby at_144) rfl  k) ?_
    refine Goes.step (S' := T38.setTop (mkF m 148 #[.val (.long q0), .second, .val (.long q1), .second, .val (.int p2), .val (.int p3), .val (.long v6_16), .second, .val (.ref b1), .unset, .unset, .unset, .unset, .unset] [(.ref b1), (.long v6_16)])) (fun _ k => XS.aload X38.here hx rfl (hb hby at_146) rfl rfl k) ?_
    obtain ⟨_, _, ⟨T41, L41, k41, n41⟩, -, X41, ⟨Lc41, hQ41, l41, y41, z41⟩, st41⟩ := Jvm.LawKit.callS X38 hx (y := (⟨"com/example/isopod/isopod/RecordHeader", "of", "(J[B)Lcom/example/isopod/isopod/RecordHeader;"⟩ : MethodName)) hown (mvT hZ (hw _ (List.mem_of_getElem? (i := 1) rfl))) (mvT hZ (hw _ (List.mem_of_getElem? (i := 2) rfl))) (mvT hZ (hw _ (List.mem_of_getElem? (i := 3) rfl))) (mvT hZ (hw _ (List.mem_of_getElem? (i := 4) rfl))) (by decide) (backOf (W := 0) (rm1 l Z a0 hw [] v6_16 b1 k1 ((12 : Int32)) ([(nar .byte ((((q1.toUInt64 >>> ((56 : Int32) &&& 0x3f).toInt64.toUInt64).toInt64).toInt32).toInt8.toInt32)), (nar .byte ((((q1.toUInt64 >>> ((48 : Int32) &&& 0x3f).toInt64.toUInt64).toInt64).toInt32).toInt8.toInt32)), (nar .byte ((((q1.toUInt64 >>> ((40 : Int32) &&& 0x3f).toInt64.toUInt64).toInt64).toInt32).toInt8.toInt32)), (nar .byte ((((q1.toUInt64 >>> ((32 : Int32) &&& 0x3f).toInt64.toUInt64).toInt64).toInt32).toInt8.toInt32)), (nar .byte ((((q1.toUInt64 >>> ((24 : Int32) &&& 0x3f).toInt64.toUInt64).toInt64).toInt32).toInt8.toInt32)), (nar .byte ((((q1.toUInt64 >>> ((16 : Int32) &&& 0x3f).toInt64.toUInt64).toInt64).toInt32).toInt8.toInt32)), (nar .byte ((((q1.toUInt64 >>> ((8 : Int32) &&& 0x3f).toInt64.toUInt64).toInt64).toInt32).toInt8.toInt32)), (nar .byte ((q1.toInt32).toInt8.toInt32)), (nar .byte (((p2.toUInt32 >>> ((24 : Int32) &&& 31).toUInt32).toInt32).toInt8.toInt32)), (nar .byte (((p2.toUInt32 >>> ((16 : Int32) &&& 31).toUInt32).toInt32).toInt8.toInt32)), (nar .byte (((p2.toUInt32 >>> ((8 : Int32) &&& 31).toUInt32).toInt32).toInt8.toInt32)), (nar .byte (p2.toInt8.toInt32))]) ((1 : Int32)) h38 n0 Z40 V_38 hk1 (own_pr0_148_hver q0 q1 p2 p3 v6_16 ev6_16 hs18) (own_pr0_148_hg0 q0 q1 p2 p3 v6_16 ev6_16 hs18) (own_pr0_148_hg1 q0 q1 p2 p3 v6_16 ev6_16 hs18) (own_pr0_148_hlen q0 q1 p2 p3 v6_16 ev6_16 hs18)) hZ (hw _ (List.mem_of_getElem? (i := 4) rfl)) (hw _ (List.mem_of_getElem? (i := 3) rfl)) (by decide) (by decide)) (g := (mkF m 148 #[.val (.long q0), .second, .val (.long q1), .second, .val (.int p2), .val (.int p3), .val (.long v6_16), .second, .val (.ref b1), .unset, .unset, .unset, .unset, .unset] [(.ref b1), (.long v6_16)])) rfl (by rw [hml]; rfl) (argsL := [(.long v6_16), (.ref b1)]) (rest := []) (lenOf pd3 rfl) rfl (by show 2 * 0 + _ ≤ _; exact Nat.le_of_eq rfl) (hb hby at_148) (fun _ _ => ⟨rfl, e38, (by decide : 1 + 2 ≤ _), (by decide : 12 + 15 ≤ _)⟩)
    dsimp only [Pt.U, Pt.locs, Pt.cells, Pt.slots] at X41 l41 y41 z41 st41 hQ41
    replace X41 := X41.more (Nat.le_of_eq (y41 : k41 = 3)) (Nat.le_of_eq (z41 : n41 = 27))
    obtain ⟨r41_0, r41_1, rk41_0, rfl, N41q, K41q, P42, P43, P44, P45, P46, P47, P48, P49, P50⟩ := hQ41
    have N51 := own_frapp l41 N39 N41q
    have ne52 : b1 ≠ r41_0 := Nat.ne_of_lt (Nat.lt_of_lt_of_le V_38.lt P42)
    have g53 : n0 ≤ r41_0 := Nat.le_trans Z40 P42
    have ne54 : b1 ≠ r41_1 := Nat.ne_of_lt (Nat.lt_of_lt_of_le V_38.lt P47)
    have g55 : n0 ≤ r41_1 := Nat.le_trans Z40 P47
    have V56 := V_38.keep K41q nin0
    have Z57 : n0 ≤ T41.heap.size := Nat.le_trans Z40 K41q.1
    refine Goes.step (S' := T41.setTop (mkF m 151 #[.val (.long q0), .second, .val (.long q1), .second, .val (.int p2), .val (.int p3), .val (.long v6_16), .second, .val (.ref b1), .unset, .unset, .unset, .unset, .unset] [(.ref r41_0)])) st41 ?_
    refine Goes.step (S' := T41.setTop (mkF m 153 #[.val (.long q0), .second, .val (.long q1), .second, .val (.int p2), .val (.int p3), .val (.long v6_16), .second, .val (.ref b1), .val (.ref r41_0), .unset, .unset, .unset, .unset] [])) (fun _ k => XS.astore X41.here hx rfl (hb hby at_151) rfl rfl (l' := #[.val (.long q0), .second, .val (.long q1), .second, .val (.int p2), .val (.int p3), .val (.long v6_16), .second, .val (.ref b1), .val (.ref r41_0), .unset, .unset, .unset, .unset]) rfl k) ?_
    refine Goes.step (S' := T41.setTop (mkF m 155 #[.val (.long q0), .second, .val (.long q1), .second, .val (.int p2), .val (.int p3), .val (.long v6_16), .second, .val (.ref b1), .val (.ref r41_0), .unset, .unset, .unset, .unset] [(.ref b1)])) (fun _ k => XS.aload X41.here hx rfl (hb hby at_153) rfl rfl k) ?_
    refine Goes.step (S' := T41.setTop (mkF m 156 #[.val (.long q0), .second, .val (.long q1), .second, .val (.int p2), .val (.int p3), .val (.long v6_16), .second, .val (.ref b1), .val (.ref r41_0), .unset, .unset, .unset, .unset] [(.int (0 : Int32)), (.ref b1)])) (fun _ k => XS.iconst X41.here hx rfl (hb hby at_155) k) ?_
    refine Goes.step (S' := T41.setTop (mkF m 158 #[.val (.long q0), .second, .val (.long q1), .second, .val (.int p2), .val (.int p3), .val (.long v6_16), .second, .val (.ref b1), .val (.ref r41_0), .unset, .unset, .unset, .unset] [(.ref b1), (.int (0 : Int32)), (.ref b1)])) (fun _ k => XS.aload X41.here hx rfl (hb hby at_156) rfl rfl k) ?_
    refine Goes.step (S' := T41.setTop (mkF m 159 #[.val (.long q0), .second, .val (.long q1), .second, .val (.int p2), .val (.int p3), .val (.long v6_16), .second, .val (.ref b1), .val (.ref r41_0), .unset, .unset, .unset, .unset] [(.int (0 : Int32)), (.ref b1), (.int (0 : Int32)), (.ref b1)])) (fun _ k => XS.iconst X41.here hx rfl (hb hby at_158) k) ?_
    refine Goes.step (S' := T41.setTop (mkF m 160 #[.val (.long q0), .second, .val (.long q1), .second, .val (.int p2), .val (.int p3), .val (.long v6_16), .second, .val (.ref b1), .val (.ref r41_0), .unset, .unset, .unset, .unset] [(.int (nar .byte ((((q1.toUInt64 >>> ((56 : Int32) &&& 0x3f).toInt64.toUInt64).toInt64).toInt32).toInt8.toInt32))), (.int (0 : Int32)), (.ref b1)])) (fun _ k => own_baload X41 hx hZ rfl V56 ⟨by decide, by decide⟩ (hb hby at_159) _ k) ?_
    refine Goes.step (S' := T41.setTop (mkF m 161 #[.val (.long q0), .second, .val (.long q1), .second, .val (.int p2), .val (.int p3), .val (.long v6_16), .second, .val (.ref b1), .val (.ref r41_0), .unset, .unset, .unset, .unset] [(.int (-1 : Int32)), (.int (nar .byte ((((q1.toUInt64 >>> ((56 : Int32) &&& 0x3f).toInt64.toUInt64).toInt64).toInt32).toInt8.toInt32))), (.int (0 : Int32)), (.ref b1)])) (fun _ k => XS.iconst X41.here hx rfl (hb hby at_160) k) ?_
    refine Goes.step (S' := T41.setTop (mkF m 162 #[.val (.long q0), .second, .val (.long q1), .second, .val (.int p2), .val (.int p3), .val (.long v6_16), .second, .val (.ref b1), .val (.ref r41_0), .unset, .unset, .unset, .unset] [(.int ((nar .byte ((((q1.toUInt64 >>> ((56 : Int32) &&& 0x3f).toInt64.toUInt64).toInt64).toInt32).toInt8.toInt32)) ^^^ (-1 : Int32))), (.int (0 : Int32)), (.ref b1)])) (fun _ k => XS.ixor X41.here hx rfl (hb hby at_161) rfl k) ?_
    refine Goes.step (S' := T41.setTop (mkF m 163 #[.val (.long q0), .second, .val (.long q1), .second, .val (.int p2), .val (.int p3), .val (.long v6_16), .second, .val (.ref b1), .val (.ref r41_0), .unset, .unset, .unset, .unset] [(.int (((nar .byte ((((q1.toUInt64 >>> ((56 : Int32) &&& 0x3f).toInt64.toUInt64).toInt64).toInt32).toInt8.toInt32)) ^^^ (-1 : Int32)).toInt8.toInt32)), (.int (0 : Int32)), (.ref b1)])) (fun _ k => XS.i2b X41.here hx rfl (hb hby at_162) rfl k) ?_
    obtain ⟨T58, h58, X58, e58, W58, V_58, st58⟩ := own_bastore X41 hx hZ rfl V56 ⟨by decide, by decide⟩ (g := (mkF m 163 #[.val (.long q0), .second, .val (.long q1), .second, .val (.int p2), .val (.int p3), .val (.long v6_16), .second, .val (.ref b1), .val (.ref r41_0), .unset, .unset, .unset, .unset] [(.int (((nar .byte ((((q1.toUInt64 >>> ((56 : Int32) &&& 0x3f).toInt64.toUInt64).toInt64).toInt32).toInt8.toInt32)) ^^^ (-1 : Int32)).toInt8.toInt32)), (.int (0 : Int32)), (.ref b1)])) rfl rfl (hb hby at_163)
    replace V_58 : AI Z h58 b1 k1 .byte (12 : Int32) [(nar .byte (((nar .byte ((((q1.toUInt64 >>> ((56 : Int32) &&& 0x3f).toInt64.toUInt64).toInt64).toInt32).toInt8.toInt32)) ^^^ (-1 : Int32)).toInt8.toInt32)), (nar .byte ((((q1.toUInt64 >>> ((48 : Int32) &&& 0x3f).toInt64.toUInt64).toInt64).toInt32).toInt8.toInt32)), (nar .byte ((((q1.toUInt64 >>> ((40 : Int32) &&& 0x3f).toInt64.toUInt64).toInt64).toInt32).toInt8.toInt32)), (nar .byte ((((q1.toUInt64 >>> ((32 : Int32) &&& 0x3f).toInt64.toUInt64).toInt64).toInt32).toInt8.toInt32)), (nar .byte ((((q1.toUInt64 >>> ((24 : Int32) &&& 0x3f).toInt64.toUInt64).toInt64).toInt32).toInt8.toInt32)), (nar .byte ((((q1.toUInt64 >>> ((16 : Int32) &&& 0x3f).toInt64.toUInt64).toInt64).toInt32).toInt8.toInt32)), (nar .byte ((((q1.toUInt64 >>> ((8 : Int32) &&& 0x3f).toInt64.toUInt64).toInt64).toInt32).toInt8.toInt32)), (nar .byte ((q1.toInt32).toInt8.toInt32)), (nar .byte (((p2.toUInt32 >>> ((24 : Int32) &&& 31).toUInt32).toInt32).toInt8.toInt32)), (nar .byte (((p2.toUInt32 >>> ((16 : Int32) &&& 31).toUInt32).toInt32).toInt8.toInt32)), (nar .byte (((p2.toUInt32 >>> ((8 : Int32) &&& 31).toUInt32).toInt32).toInt8.toInt32)), (nar .byte (p2.toInt8.toInt32))] := V_58
    have N59 := Fr.snoc X58 N51 g2
    have Z60 : n0 ≤ h58.size := Nat.le_trans Z57 (Nat.le_of_eq W58.size.symm)
    have V61 := P48.other W58 (Ne.symm ne54)
    have E_62 := P43.wr W58
    have F63 := P44.other W58 (Or.inl (Ne.symm ne52))
    have F64 := P45.other W58 (Or.inl (Ne.symm ne52))
    have F65 := P46.other W58 (Or.inl (Ne.symm ne52))
    refine Goes.step (S' := T58.setTop (mkF m 164 #[.val (.long q0), .second, .val (.long q1), .second, .val (.int p2), .val (.int p3), .val (.long v6_16), .second, .val (.ref b1), .val (.ref r41_0), .unset, .unset, .unset, .unset] [])) st58 ?_
    refine Goes.step (S' := T58.setTop (mkF m 166 #[.val (.long q0), .second, .val (.long q1), .second, .val (.int p2), .val (.int p3), .val (.long v6_16), .second, .val (.ref b1), .val (.ref r41_0), .unset, .unset, .unset, .unset] [(.ref b1)])) (fun _ k => XS.aload X58.here hx rfl (hb hby at_164) rfl rfl k) ?_
    refine Goes.step (S' := T58.setTop (mkF m 168 #[.val (.long q0), .second, .val (.long q1), .second, .val (.int p2), .val (.int p3), .val (.long v6_16), .second, .val (.ref b1), .val (.ref r41_0), .unset, .unset, .unset, .unset] [(.int (11 : Int32)), (.ref b1)])) (fun _ k => XS.bipush X58.here hx rfl (hb hby at_166) k) ?_
    refine Goes.step (S' := T58.setTop (mkF m 170 #[.val (.long q0), .second, .val (.long q1), .second, .val (.int p2), .val (.int p3), .val (.long v6_16), .second, .val (.ref b1), .val (.ref r41_0), .unset, .unset, .unset, .unset] [(.ref b1), (.int (11 : Int32)), (.ref b1)])) (fun _ k => XS.aload X58.here hx rfl (hb hby at_168) rfl rfl k) ?_
    refine Goes.step (S' := T58.setTop (mkF m 172 #[.val (.long q0), .second, .val (.long q1), .second, .val (.int p2), .val (.int p3), .val (.long v6_16), .second, .val (.ref b1), .val (.ref r41_0), .unset, .unset, .unset, .unset] [(.int (11 : Int32)), (.ref b1), (.int (11 : Int32)), (.ref b1)])) (fun _ k => XS.bipush X58.here hx rfl (hb hby at_170) k) ?_
    refine Goes.step (S' := T58.setTop (mkF m 173 #[.val (.long q0), .second, .val (.long q1), .second, .val (.int p2), .val (.int p3), .val (.long v6_16), .second, .val (.ref b1), .val (.ref r41_0), .unset, .unset, .unset, .unset] [(.int (nar .byte (p2.toInt8.toInt32))), (.int (11 : Int32)), (.ref b1)])) (fun _ k => own_baload X58 hx hZ e58 V_58 ⟨by decide, by decide⟩ (hb hby at_172) _ k) ?_
    refine Goes.step (S' := T58.setTop (mkF m 174 #[.val (.long q0), .second, .val (.long q1), .second, .val (.int p2), .val (.int p3), .val (.long v6_16), .second, .val (.ref b1), .val (.ref r41_0), .unset, .unset, .unset, .unset] [(.int (-1 : Int32)), (.int (nar .byte (p2.toInt8.toInt32))), (.int (11 : Int32)), (.ref b1)])) (fun _ k => XS.iconst X58.here hx rfl (hb hby at_173) k) ?_
    refine Goes.step (S' := T58.setTop (mkF m 175 #[.val (.long q0), .second, .val (.long q1), .second, .val (.int p2), .val (.int p3), .val (.long v6_16), .second, .val (.ref b1), .val (.ref r41_0), .unset, .unset, .unset, .unset] [(.int ((nar .byte (p2.toInt8.toInt32)) ^^^ (-1 : Int32))), (.int (11 : Int32)), (.ref b1)])) (fun _ k => XS.ixor X58.here hx rfl (hb hby at_174) rfl k) ?_
    refine Goes.step (S' := T58.setTop (mkF m 176 #[.val (.long q0), .second, .val (.long q1), .second, .val (.int p2), .val (.int p3), .val (.long v6_16), .second, .val (.ref b1), .val (.ref r41_0), .unset, .unset, .unset, .unset] [(.int (((nar .byte (p2.toInt8.toInt32)) ^^^ (-1 : Int32)).toInt8.toInt32)), (.int (11 : Int32)), (.ref b1)])) (fun _ k => XS.i2b X58.here hx rfl (hb hby at_175) rfl k) ?_
    obtain ⟨T66, h66, X66, e66, W66, V_66, st66⟩ := own_bastore X58 hx hZ e58 V_58 ⟨by decide, by decide⟩ (g := (mkF m 176 #[.val (.long q0), .second, .val (.long q1), .second, .val (.int p2), .val (.int p3), .val (.long v6_16), .second, .val (.ref b1), .val (.ref r41_0), .unset, .unset, .unset, .unset] [(.int (((nar .byte (p2.toInt8.toInt32)) ^^^ (-1 : Int32)).toInt8.toInt32)), (.int (11 : Int32)), (.ref b1)])) rfl rfl (hb hby at_176)
    replace V_66 : AI Z h66 b1 k1 .byte (12 : Int32) [(nar .byte (((nar .byte ((((q1.toUInt64 >>> ((56 : Int32) &&& 0x3f).toInt64.toUInt64).toInt64).toInt32).toInt8.toInt32)) ^^^ (-1 : Int32)).toInt8.toInt32)), (nar .byte ((((q1.toUInt64 >>> ((48 : Int32) &&& 0x3f).toInt64.toUInt64).toInt64).toInt32).toInt8.toInt32)), (nar .byte ((((q1.toUInt64 >>> ((40 : Int32) &&& 0x3f).toInt64.toUInt64).toInt64).toInt32).toInt8.toInt32)), (nar .byte ((((q1.toUInt64 >>> ((32 : Int32) &&& 0x3f).toInt64.toUInt64).toInt64).toInt32).toInt8.toInt32)), (nar .byte ((((q1.toUInt64 >>> ((24 : Int32) &&& 0x3f).toInt64.toUInt64).toInt64).toInt32).toInt8.toInt32)), (nar .byte ((((q1.toUInt64 >>> ((16 : Int32) &&& 0x3f).toInt64.toUInt64).toInt64).toInt32).toInt8.toInt32)), (nar .byte ((((q1.toUInt64 >>> ((8 : Int32) &&& 0x3f).toInt64.toUInt64).toInt64).toInt32).toInt8.toInt32)), (nar .byte ((q1.toInt32).toInt8.toInt32)), (nar .byte (((p2.toUInt32 >>> ((24 : Int32) &&& 31).toUInt32).toInt32).toInt8.toInt32)), (nar .byte (((p2.toUInt32 >>> ((16 : Int32) &&& 31).toUInt32).toInt32).toInt8.toInt32)), (nar .byte (((p2.toUInt32 >>> ((8 : Int32) &&& 31).toUInt32).toInt32).toInt8.toInt32)), (nar .byte (((nar .byte (p2.toInt8.toInt32)) ^^^ (-1 : Int32)).toInt8.toInt32))] := V_66
    have N67 := Fr.snoc X66 N59 g2
    have Z68 : n0 ≤ h66.size := Nat.le_trans Z60 (Nat.le_of_eq W66.size.symm)
    have V69 := V61.other W66 (Ne.symm ne54)
    have E_70 := E_62.wr W66
    have F71 := F63.other W66 (Or.inl (Ne.symm ne52))
    have F72 := F64.other W66 (Or.inl (Ne.symm ne52))
    have F73 := F65.other W66 (Or.inl (Ne.symm ne52))
    refine Goes.step (S' := T66.setTop (mkF m 177 #[.val (.long q0), .second, .val (.long q1), .second, .val (.int p2), .val (.int p3), .val (.long v6_16), .second, .val (.ref b1), .val (.ref r41_0), .unset, .unset, .unset, .unset] [])) st66 ?_
    refine Goes.step (S' := T66.setTop (mkF m 179 #[.val (.long q0), .second, .val (.long q1), .second, .val (.int p2), .val (.int p3), .val (.long v6_16), .second, .val (.ref b1), .val (.ref r41_0), .unset, .unset, .unset, .unset] [(.long v6_16)])) (fun _ k => XS.lload X66.here hx rfl (hb hby at_177) rfl  k) ?_
    refine Goes.step (S' := T66.setTop (mkF m 180 #[.val (.long q0), .second, .val (.long q1), .second, .val (.int p2), .val (.int p3), .val (.long v6_16), .second, .val (.ref b1), .val (.ref r41_0), .unset, .unset, .unset, .unset] [(.long (0 : Int64)), (.long v6_16)])) (fun _ k => XS.lconst X66.here hx rfl (hb hby at_179) k) ?_
    refine Goes.step (S' := T66.setTop (mkF m 181 #[.val (.long q0), .second, .val (.long q1), .second, .val (.int p2), .val (.int p3), .val (.long v6_16), .second, .val (.ref b1), .val (.ref r41_0), .unset, .unset, .unset, .unset] [(.int (lcmpW v6_16 (0 : Int64)))])) (fun _ k => XS.lcmp X66.here hx rfl (hb hby at_180) rfl k) ?_
    refine Goes.step (S' := T66.setTop (mkF m 184 #[.val (.long q0), .second, .val (.long q1), .second, .val (.int p2), .val (.int p3), .val (.long v6_16), .second, .val (.ref b1), .val (.ref r41_0), .unset, .unset, .unset, .unset] [])) (fun _ k => XS.ifNo X66.here hx rfl (hb hby at_181) rfl ((if0 _ _).trans (teq ((lw_eq v6_16 (0 : Int64)).mpr hs18)).2) k) ?_
    refine Goes.step (S' := T66.setTop (mkF m 185 #[.val (.long q0), .second, .val (.long q1), .second, .val (.int p2), .val (.int p3), .val (.long v6_16), .second, .val (.ref b1), .val (.ref r41_0), .unset, .unset, .unset, .unset] [(.int (1 : Int32))])) (fun _ k => XS.iconst X66.here hx rfl (hb hby at_184) k) ?_
    refine Goes.step (S' := T66.setTop (mkF m 189 #[.val (.long q0), .second, .val (.long q1), .second, .val (.int p2), .val (.int p3), .val (.long v6_16), .second, .val (.ref b1), .val (.ref r41_0), .unset, .unset, .unset, .unset] [(.int (1 : Int32))])) (fun _ k => XS.goto X66.here hx rfl (pc0 := 185) (pc' := 189) rfl (hb hby at_185) (by decide) (by decide) k) ?_
    refine Goes.step (S' := T66.setTop (mkF m 191 #[.val (.long q0), .second, .val (.long q1), .second, .val (.int p2), .val (.int p3), .val (.long v6_16), .second, .val (.ref b1), .val (.ref r41_0), .val (.int (1 : Int32)), .unset, .unset, .unset] [])) (fun _ k => XS.istore X66.here hx rfl (hb hby at_189) rfl (l' := #[.val (.long q0), .second, .val (.long q1), .second, .val (.int p2), .val (.int p3), .val (.long v6_16), .second, .val (.ref b1), .val (.ref r41_0), .val (.int (1 : Int32)), .unset, .unset, .unset]) rfl k) ?_
    refine Goes.step (S' := T66.setTop (mkF m 193 #[.val (.long q0), .second, .val (.long q1), .second, .val (.int p2), .val (.int p3), .val (.long v6_16), .second, .val (.ref b1), .val (.ref r41_0), .val (.int (1 : Int32)), .unset, .unset, .unset] [(.long v6_16)])) (fun _ k => XS.lload X66.here hx rfl (hb hby at_191) rfl  k) ?_
    refine Goes.step (S' := T66.setTop (mkF m 194 #[.val (.long q0), .second, .val (.long q1), .second, .val (.int p2), .val (.int p3), .val (.long v6_16), .second, .val (.ref b1), .val (.ref r41_0), .val (.int (1 : Int32)), .unset, .unset, .unset] [(.long (0 : Int64)), (.long v6_16)])) (fun _ k => XS.lconst X66.here hx rfl (hb hby at_193) k) ?_
    refine Goes.step (S' := T66.setTop (mkF m 195 #[.val (.long q0), .second, .val (.long q1), .second, .val (.int p2), .val (.int p3), .val (.long v6_16), .second, .val (.ref b1), .val (.ref r41_0), .val (.int (1 : Int32)), .unset, .unset, .unset] [(.int (lcmpW v6_16 (0 : Int64)))])) (fun _ k => XS.lcmp X66.here hx rfl (hb hby at_194) rfl k) ?_
    refine Goes.step (S' := T66.setTop (mkF m 198 #[.val (.long q0), .second, .val (.long q1), .second, .val (.int p2), .val (.int p3), .val (.long v6_16), .second, .val (.ref b1), .val (.ref r41_0), .val (.int (1 : Int32)), .unset, .unset, .unset] [])) (fun _ k => XS.ifNo X66.here hx rfl (hb hby at_195) rfl ((if0 _ _).trans (teq ((lw_eq v6_16 (0 : Int64)).mpr hs18)).2) k) ?_
    refine Goes.step (S' := T66.setTop (mkF m 200 #[.val (.long q0), .second, .val (.long q1), .second, .val (.int p2), .val (.int p3), .val (.long v6_16), .second, .val (.ref b1), .val (.ref r41_0), .val (.int (1 : Int32)), .unset, .unset, .unset] [(.int (13 : Int32))])) (fun _ k => XS.bipush X66.here hx rfl (hb hby at_198) k) ?_
    refine Goes.step (S' := T66.setTop (mkF m 205 #[.val (.long q0), .second, .val (.long q1), .second, .val (.int p2), .val (.int p3), .val (.long v6_16), .second, .val (.ref b1), .val (.ref r41_0), .val (.int (1 : Int32)), .unset, .unset, .unset] [(.int (13 : Int32))])) (fun _ k => XS.goto X66.here hx rfl (pc0 := 200) (pc' := 205) rfl (hb hby at_200) (by decide) (by decide) k) ?_
    refine Goes.step (S' := T66.setTop (mkF m 207 #[.val (.long q0), .second, .val (.long q1), .second, .val (.int p2), .val (.int p3), .val (.long v6_16), .second, .val (.ref b1), .val (.ref r41_0), .val (.int (1 : Int32)), .val (.int (13 : Int32)), .unset, .unset] [])) (fun _ k => XS.istore X66.here hx rfl (hb hby at_205) rfl (l' := #[.val (.long q0), .second, .val (.long q1), .second, .val (.int p2), .val (.int p3), .val (.long v6_16), .second, .val (.ref b1), .val (.ref r41_0), .val (.int (1 : Int32)), .val (.int (13 : Int32)), .unset, .unset]) rfl k) ?_
    refine Goes.step (S' := T66.setTop (mkF m 209 #[.val (.long q0), .second, .val (.long q1), .second, .val (.int p2), .val (.int p3), .val (.long v6_16), .second, .val (.ref b1), .val (.ref r41_0), .val (.int (1 : Int32)), .val (.int (13 : Int32)), .unset, .unset] [(.ref r41_0)])) (fun _ k => XS.aload X66.here hx rfl (hb hby at_207) rfl rfl k) ?_
    obtain ⟨cq74, kq74, q74a, q74b, q74c⟩ := isOf hZ e66 E_70
    obtain ⟨_, _, ⟨T74, L74, k74, n74⟩, -, X74, ⟨Lc74, hQ74, l74, y74, z74⟩, st74⟩ := X66.virtualBack hx (y := (⟨"com/example/isopod/isopod/RecordHeader", "version", "()I"⟩ : MethodName)) (z := (⟨"com/example/isopod/isopod/RecordHeader", "version", "()I"⟩ : MethodName)) hown (mvT hZ (hw _ (List.mem_of_getElem? (i := 29) rfl))) (mvT hZ (hw _ (List.mem_of_getElem? (i := 30) rfl))) (notFace_of_selects (args := #[]) (mvT hZ (hw _ (List.mem_of_getElem? (i := 32) rfl)))) (mvT hZ (hw _ (List.mem_of_getElem? (i := 32) rfl))) (mvT hZ (hw _ (List.mem_of_getElem? (i := 31) rfl))) (by decide) (backOf (W := 0) (rm4 l Z a0 hw [] r41_0 ((1 : Int32)) v6_16 h66 n0 Z68 E_70 F73 F71) hZ (hw _ (List.mem_of_getElem? (i := 33) rfl)) (hw _ (List.mem_of_getElem? (i := 3) rfl)) (by decide) (by decide)) q74a q74c (g := (mkF m 209 #[.val (.long q0), .second, .val (.long q1), .second, .val (.int p2), .val (.int p3), .val (.long v6_16), .second, .val (.ref b1), .val (.ref r41_0), .val (.int (1 : Int32)), .val (.int (13 : Int32)), .unset, .unset] [(.ref r41_0)])) rfl (by rw [hml]; rfl) (Steps.refl _) (argsL := []) (rest := []) (lenOf pd2 rfl) rfl (by show 2 * 0 + _ ≤ _; exact Nat.le_of_eq rfl) (hb hby at_209) (fun _ _ => ⟨rfl, e66, (by decide : 3 + 0 ≤ _), (by decide : 27 + 0 ≤ _)⟩)
    dsimp only [Pt.U, Pt.locs, Pt.cells, Pt.slots] at X74 l74 y74 z74 st74 hQ74
    replace X74 := X74.more (Nat.le_of_eq (y74 : k74 = 3)) (Nat.le_of_eq (z74 : n74 = 27))
    obtain ⟨rfl, N74q, e74⟩ := hQ74
    have N75 := own_frapp l74 N67 N74q
    refine Goes.step (S' := T74.setTop (mkF m 212 #[.val (.long q0), .second, .val (.long q1), .second, .val (.int p2), .val (.int p3), .val (.long v6_16), .second, .val (.ref b1), .val (.ref r41_0), .val (.int (1 : Int32)), .val (.int (13 : Int32)), .unset, .unset] [(.int (f4 (1 : Int32) v6_16))])) (fun _ k => st74.trans k) ?_
    refine Goes.step (S' := T74.setTop (mkF m 214 #[.val (.long q0), .second, .val (.long q1), .second, .val (.int p2), .val (.int p3), .val (.long v6_16), .second, .val (.ref b1), .val (.ref r41_0), .val (.int (1 : Int32)), .val (.int (13 : Int32)), .unset, .unset] [(.int (1 : Int32)), (.int (f4 (1 : Int32) v6_16))])) (fun _ k => XS.iload X74.here hx rfl (hb hby at_212) rfl  k) ?_
    refine Goes.step (S' := T74.setTop (mkF m 219 #[.val (.long q0), .second, .val (.long q1), .second, .val (.int p2), .val (.int p3), .val (.long v6_16), .second, .val (.ref b1), .val (.ref r41_0), .val (.int (1 : Int32)), .val (.int (13 : Int32)), .unset, .unset] [])) (fun _ k => XS.icmpYes X74.here hx rfl (pc0 := 214) (pc' := 219) rfl (hb hby at_214) rfl (teq (own_hc0_214 q0 q1 p2 p3 v6_16 ev6_16 hs18)).1 (by decide) (by decide) k) ?_
    refine Goes.step (S' := T74.setTop (mkF m 221 #[.val (.long q0), .second, .val (.long q1), .second, .val (.int p2), .val (.int p3), .val (.long v6_16), .second, .val (.ref b1), .val (.ref r41_0), .val (.int (1 : Int32)), .val (.int (13 : Int32)), .unset, .unset] [(.ref r41_0)])) (fun _ k => XS.aload X74.here hx rfl (hb hby at_219) rfl rfl k) ?_
    obtain ⟨cq76, kq76, q76a, q76b, q76c⟩ := isOf hZ e74 E_70
    obtain ⟨_, _, ⟨T76, L76, k76, n76⟩, -, X76, ⟨Lc76, hQ76, l76, y76, z76⟩, st76⟩ := X74.virtualBack hx (y := (⟨"com/example/isopod/isopod/RecordHeader", "generation", "()J"⟩ : MethodName)) (z := (⟨"com/example/isopod/isopod/RecordHeader", "generation", "()J"⟩ : MethodName)) hown (mvT hZ (hw _ (List.mem_of_getElem? (i := 34) rfl))) (mvT hZ (hw _ (List.mem_of_getElem? (i := 35) rfl))) (notFace_of_selects (args := #[]) (mvT hZ (hw _ (List.mem_of_getElem? (i := 37) rfl)))) (mvT hZ (hw _ (List.mem_of_getElem? (i := 37) rfl))) (mvT hZ (hw _ (List.mem_of_getElem? (i := 36) rfl))) (by decide) (backOf (W := 0) (rm5 l Z a0 hw [] r41_0 ((1 : Int32)) v6_16 h66 n0 Z68 E_70 F73 F71) hZ (hw _ (List.mem_of_getElem? (i := 38) rfl)) (hw _ (List.mem_of_getElem? (i := 3) rfl)) (by decide) (by decide)) q76a q76c (g := (mkF m 221 #[.val (.long q0), .second, .val (.long q1), .second, .val (.int p2), .val (.int p3), .val (.long v6_16), .second, .val (.ref b1), .val (.ref r41_0), .val (.int (1 : Int32)), .val (.int (13 : Int32)), .unset, .unset] [(.ref r41_0)])) rfl (by rw [hml]; rfl) (Steps.refl _) (argsL := []) (rest := []) (lenOf pd4 rfl) rfl (by show 2 * 0 + _ ≤ _; exact Nat.le_of_eq rfl) (hb hby at_221) (fun _ _ => ⟨rfl, e74, (by decide : 3 + 0 ≤ _), (by decide : 27 + 0 ≤ _)⟩)
    dsimp only [Pt.U, Pt.locs, Pt.cells, Pt.slots] at X76 l76 y76 z76 st76 hQ76
    replace X76 := X76.more (Nat.le_of_eq (y76 : k76 = 3)) (Nat.le_of_eq (z76 : n76 = 27))
    obtain ⟨rfl, N76q, e76⟩ := hQ76
    have N77 := own_frapp l76 N75 N76q
    refine Goes.step (S' := T76.setTop (mkF m 224 #[.val (.long q0), .second, .val (.long q1), .second, .val (.int p2), .val (.int p3), .val (.long v6_16), .second, .val (.ref b1), .val (.ref r41_0), .val (.int (1 : Int32)), .val (.int (13 : Int32)), .unset, .unset] [(.long (f5 (1 : Int32) v6_16))])) (fun _ k => st76.trans k) ?_
    refine Goes.step (S' := T76.setTop (mkF m 226 #[.val (.long q0), .second, .val (.long q1), .second, .val (.int p2), .val (.int p3), .val (.long v6_16), .second, .val (.ref b1), .val (.ref r41_0), .val (.int (1 : Int32)), .val (.int (13 : Int32)), .unset, .unset] [(.long v6_16), (.long (f5 (1 : Int32) v6_16))])) (fun _ k => XS.lload X76.here hx rfl (hb hby at_224) rfl  k) ?_
    refine Goes.step (S' := T76.setTop (mkF m 227 #[.val (.long q0), .second, .val (.long q1), .second, .val (.int p2), .val (.int p3), .val (.long v6_16), .second, .val (.ref b1), .val (.ref r41_0), .val (.int (1 : Int32)), .val (.int (13 : Int32)), .unset, .unset] [(.int (lcmpW (f5 (1 : Int32) v6_16) v6_16))])) (fun _ k => XS.lcmp X76.here hx rfl (hb hby at_226) rfl k) ?_
    refine Goes.step (S' := T76.setTop (mkF m 232 #[.val (.long q0), .second, .val (.long q1), .second, .val (.int p2), .val (.int p3), .val (.long v6_16), .second, .val (.ref b1), .val (.ref r41_0), .val (.int (1 : Int32)), .val (.int (13 : Int32)), .unset, .unset] [])) (fun _ k => XS.ifYes X76.here hx rfl (pc0 := 227) (pc' := 232) rfl (hb hby at_227) rfl ((if0 _ _).trans (teq ((lw_eq (f5 (1 : Int32) v6_16) v6_16).mpr (own_hc0_227 q0 q1 p2 p3 v6_16 ev6_16 hs18))).1) (by decide) (by decide) k) ?_
    refine Goes.step (S' := T76.setTop (mkF m 234 #[.val (.long q0), .second, .val (.long q1), .second, .val (.int p2), .val (.int p3), .val (.long v6_16), .second, .val (.ref b1), .val (.ref r41_0), .val (.int (1 : Int32)), .val (.int (13 : Int32)), .unset, .unset] [(.ref r41_0)])) (fun _ k => XS.aload X76.here hx rfl (hb hby at_232) rfl rfl k) ?_
    obtain ⟨cq78, kq78, q78a, q78b, q78c⟩ := isOf hZ e76 E_70
    obtain ⟨_, _, ⟨T78, L78, k78, n78⟩, -, X78, ⟨Lc78, hQ78, l78, y78, z78⟩, st78⟩ := X76.virtualBack hx (y := (⟨"com/example/isopod/isopod/RecordHeader", "length", "()I"⟩ : MethodName)) (z := (⟨"com/example/isopod/isopod/RecordHeader", "length", "()I"⟩ : MethodName)) hown (mvT hZ (hw _ (List.mem_of_getElem? (i := 39) rfl))) (mvT hZ (hw _ (List.mem_of_getElem? (i := 40) rfl))) (notFace_of_selects (args := #[]) (mvT hZ (hw _ (List.mem_of_getElem? (i := 42) rfl)))) (mvT hZ (hw _ (List.mem_of_getElem? (i := 42) rfl))) (mvT hZ (hw _ (List.mem_of_getElem? (i := 41) rfl))) (by decide) (backOf (W := 0) (rm6 l Z a0 hw [] r41_0 ((1 : Int32)) h66 n0 Z68 E_70 F73) hZ (hw _ (List.mem_of_getElem? (i := 43) rfl)) (hw _ (List.mem_of_getElem? (i := 3) rfl)) (by decide) (by decide)) q78a q78c (g := (mkF m 234 #[.val (.long q0), .second, .val (.long q1), .second, .val (.int p2), .val (.int p3), .val (.long v6_16), .second, .val (.ref b1), .val (.ref r41_0), .val (.int (1 : Int32)), .val (.int (13 : Int32)), .unset, .unset] [(.ref r41_0)])) rfl (by rw [hml]; rfl) (Steps.refl _) (argsL := []) (rest := []) (lenOf pd2 rfl) rfl (by show 2 * 0 + _ ≤ _; exact Nat.le_of_eq rfl) (hb hby at_234) (fun _ _ => ⟨rfl, e76, (by decide : 3 + 0 ≤ _), (by decide : 27 + 0 ≤ _)⟩)
    dsimp only [Pt.U, Pt.locs, Pt.cells, Pt.slots] at X78 l78 y78 z78 st78 hQ78
    replace X78 := X78.more (Nat.le_of_eq (y78 : k78 = 3)) (Nat.le_of_eq (z78 : n78 = 27))
    obtain ⟨rfl, N78q, e78⟩ := hQ78
    have N79 := own_frapp l78 N77 N78q
    refine Goes.step (S' := T78.setTop (mkF m 237 #[.val (.long q0), .second, .val (.long q1), .second, .val (.int p2), .val (.int p3), .val (.long v6_16), .second, .val (.ref b1), .val (.ref r41_0), .val (.int (1 : Int32)), .val (.int (13 : Int32)), .unset, .unset] [(.int (f6 (1 : Int32)))])) (fun _ k => st78.trans k) ?_
    refine Goes.step (S' := T78.setTop (mkF m 239 #[.val (.long q0), .second, .val (.long q1), .second, .val (.int p2), .val (.int p3), .val (.long v6_16), .second, .val (.ref b1), .val (.ref r41_0), .val (.int (1 : Int32)), .val (.int (13 : Int32)), .unset, .unset] [(.int (13 : Int32)), (.int (f6 (1 : Int32)))])) (fun _ k => XS.iload X78.here hx rfl (hb hby at_237) rfl  k) ?_
    refine Goes.step (S' := T78.setTop (mkF m 244 #[.val (.long q0), .second, .val (.long q1), .second, .val (.int p2), .val (.int p3), .val (.long v6_16), .second, .val (.ref b1), .val (.ref r41_0), .val (.int (1 : Int32)), .val (.int (13 : Int32)), .unset, .unset] [])) (fun _ k => XS.icmpYes X78.here hx rfl (pc0 := 239) (pc' := 244) rfl (hb hby at_239) rfl (teq (own_hc0_239 q0 q1 p2 p3 v6_16 ev6_16 hs18)).1 (by decide) (by decide) k) ?_
    refine Goes.step (S' := T78.setTop (mkF m 246 #[.val (.long q0), .second, .val (.long q1), .second, .val (.int p2), .val (.int p3), .val (.long v6_16), .second, .val (.ref b1), .val (.ref r41_0), .val (.int (1 : Int32)), .val (.int (13 : Int32)), .unset, .unset] [(.ref r41_0)])) (fun _ k => XS.aload X78.here hx rfl (hb hby at_244) rfl rfl k) ?_
    obtain ⟨cq80, kq80, q80a, q80b, q80c⟩ := isOf hZ e78 E_70
    obtain ⟨_, _, ⟨T80, L80, k80, n80⟩, -, X80, ⟨Lc80, hQ80, l80, y80, z80⟩, st80⟩ := X78.virtualBack hx (y := (⟨"com/example/isopod/isopod/RecordHeader", "nonce", "()[B"⟩ : MethodName)) (z := (⟨"com/example/isopod/isopod/RecordHeader", "nonce", "()[B"⟩ : MethodName)) hown (mvT hZ (hw _ (List.mem_of_getElem? (i := 47) rfl))) (mvT hZ (hw _ (List.mem_of_getElem? (i := 48) rfl))) (notFace_of_selects (args := #[]) (mvT hZ (hw _ (List.mem_of_getElem? (i := 50) rfl)))) (mvT hZ (hw _ (List.mem_of_getElem? (i := 50) rfl))) (mvT hZ (hw _ (List.mem_of_getElem? (i := 49) rfl))) (by decide) (backOf (W := 0) (rm8 l Z a0 hw [] r41_0 r41_1 rk41_0 ((12 : Int32)) ([(nar .byte ((((q1.toUInt64 >>> ((56 : Int32) &&& 0x3f).toInt64.toUInt64).toInt64).toInt32).toInt8.toInt32)), (nar .byte ((((q1.toUInt64 >>> ((48 : Int32) &&& 0x3f).toInt64.toUInt64).toInt64).toInt32).toInt8.toInt32)), (nar .byte ((((q1.toUInt64 >>> ((40 : Int32) &&& 0x3f).toInt64.toUInt64).toInt64).toInt32).toInt8.toInt32)), (nar .byte ((((q1.toUInt64 >>> ((32 : Int32) &&& 0x3f).toInt64.toUInt64).toInt64).toInt32).toInt8.toInt32)), (nar .byte ((((q1.toUInt64 >>> ((24 : Int32) &&& 0x3f).toInt64.toUInt64).toInt64).toInt32).toInt8.toInt32)), (nar .byte ((((q1.toUInt64 >>> ((16 : Int32) &&& 0x3f).toInt64.toUInt64).toInt64).toInt32).toInt8.toInt32)), (nar .byte ((((q1.toUInt64 >>> ((8 : Int32) &&& 0x3f).toInt64.toUInt64).toInt64).toInt32).toInt8.toInt32)), (nar .byte ((q1.toInt32).toInt8.toInt32)), (nar .byte (((p2.toUInt32 >>> ((24 : Int32) &&& 31).toUInt32).toInt32).toInt8.toInt32)), (nar .byte (((p2.toUInt32 >>> ((16 : Int32) &&& 31).toUInt32).toInt32).toInt8.toInt32)), (nar .byte (((p2.toUInt32 >>> ((8 : Int32) &&& 31).toUInt32).toInt32).toInt8.toInt32)), (nar .byte (p2.toInt8.toInt32))]) h66 n0 Z68 E_70 F72 V69 P49 (own_pr0_246_hlen q0 q1 p2 p3 v6_16 ev6_16 hs18)) hZ (hw _ (List.mem_of_getElem? (i := 51) rfl)) (hw _ (List.mem_of_getElem? (i := 3) rfl)) (by decide) (by decide)) q80a q80c (g := (mkF m 246 #[.val (.long q0), .second, .val (.long q1), .second, .val (.int p2), .val (.int p3), .val (.long v6_16), .second, .val (.ref b1), .val (.ref r41_0), .val (.int (1 : Int32)), .val (.int (13 : Int32)), .unset, .unset] [(.ref r41_0)])) rfl (by rw [hml]; rfl) (Steps.refl _) (argsL := []) (rest := []) (lenOf pd5 rfl) rfl (by show 2 * 0 + _ ≤ _; exact Nat.le_of_eq rfl) (hb hby at_246) (fun _ _ => ⟨rfl, e78, (by decide : 3 + 1 ≤ _), (by decide : 27 + 12 ≤ _)⟩)
    dsimp only [Pt.U, Pt.locs, Pt.cells, Pt.slots] at X80 l80 y80 z80 st80 hQ80
    replace X80 := X80.more (Nat.le_of_eq (y80 : k80 = 4)) (Nat.le_of_eq (z80 : n80 = 39))
    obtain ⟨r80_0, rk80_0, rfl, N80q, K80q, P81, P82, P83⟩ := hQ80
    have N84 := own_frapp l80 N79 N80q
    have ne85 : b1 ≠ r80_0 := Nat.ne_of_lt (Nat.lt_of_lt_of_le V_66.lt P81)
    have ne86 : r41_1 ≠ r80_0 := Nat.ne_of_lt (Nat.lt_of_lt_of_le V69.lt P81)
    have ne87 : r41_0 ≠ r80_0 := Nat.ne_of_lt (Nat.lt_of_lt_of_le E_70.lt P81)
    have g88 : n0 ≤ r80_0 := Nat.le_trans Z68 P81
    have V89 := V_66.keep K80q nin0
    have V90 := V69.keep K80q nin0
    have E_91 := E_70.keep K80q
    have F92 := F71.keep K80q nin0
    have F93 := F72.keep K80q nin0
    have F94 := F73.keep K80q nin0
    have Z95 : n0 ≤ T80.heap.size := Nat.le_trans Z68 K80q.1
    refine Goes.step (S' := T80.setTop (mkF m 249 #[.val (.long q0), .second, .val (.long q1), .second, .val (.int p2), .val (.int p3), .val (.long v6_16), .second, .val (.ref b1), .val (.ref r41_0), .val (.int (1 : Int32)), .val (.int (13 : Int32)), .unset, .unset] [(.ref r80_0)])) (fun _ k => st80.trans k) ?_
    refine Goes.step (S' := T80.setTop (mkF m 251 #[.val (.long q0), .second, .val (.long q1), .second, .val (.int p2), .val (.int p3), .val (.long v6_16), .second, .val (.ref b1), .val (.ref r41_0), .val (.int (1 : Int32)), .val (.int (13 : Int32)), .val (.ref r80_0), .unset] [])) (fun _ k => XS.astore X80.here hx rfl (hb hby at_249) rfl rfl (l' := #[.val (.long q0), .second, .val (.long q1), .second, .val (.int p2), .val (.int p3), .val (.long v6_16), .second, .val (.ref b1), .val (.ref r41_0), .val (.int (1 : Int32)), .val (.int (13 : Int32)), .val (.ref r80_0), .unset]) rfl k) ?_
    refine Goes.step (S' := T80.setTop (mkF m 253 #[.val (.long q0), .second, .val (.long q1), .second, .val (.int p2), .val (.int p3), .val (.long v6_16), .second, .val (.ref b1), .val (.ref r41_0), .val (.int (1 : Int32)), .val (.int (13 : Int32)), .val (.ref r80_0), .unset] [(.ref r80_0)])) (fun _ k => XS.aload X80.here hx rfl (hb hby at_251) rfl rfl k) ?_
    refine Goes.step (S' := T80.setTop (mkF m 254 #[.val (.long q0), .second, .val (.long q1), .second, .val (.int p2), .val (.int p3), .val (.long v6_16), .second, .val (.ref b1), .val (.ref r41_0), .val (.int (1 : Int32)), .val (.int (13 : Int32)), .val (.ref r80_0), .unset] [(.int (12 : Int32))])) (fun _ k => own_len X80 hx hZ rfl P82 (hb hby at_253) _ k) ?_
    refine Goes.step (S' := T80.setTop (mkF m 256 #[.val (.long q0), .second, .val (.long q1), .second, .val (.int p2), .val (.int p3), .val (.long v6_16), .second, .val (.ref b1), .val (.ref r41_0), .val (.int (1 : Int32)), .val (.int (13 : Int32)), .val (.ref r80_0), .unset] [(.int (12 : Int32)), (.int (12 : Int32))])) (fun _ k => XS.bipush X80.here hx rfl (hb hby at_254) k) ?_
    refine Goes.step (S' := T80.setTop (mkF m 259 #[.val (.long q0), .second, .val (.long q1), .second, .val (.int p2), .val (.int p3), .val (.long v6_16), .second, .val (.ref b1), .val (.ref r41_0), .val (.int (1 : Int32)), .val (.int (13 : Int32)), .val (.ref r80_0), .unset] [])) (fun _ k => XS.icmpNo X80.here hx rfl (hb hby at_256) rfl (teq (rfl : (12 : Int32) = (12 : Int32))).2 k) ?_
    refine Goes.step (S' := T80.setTop (mkF m 261 #[.val (.long q0), .second, .val (.long q1), .second, .val (.int p2), .val (.int p3), .val (.long v6_16), .second, .val (.ref b1), .val (.ref r41_0), .val (.int (1 : Int32)), .val (.int (13 : Int32)), .val (.ref r80_0), .unset] [(.ref r80_0)])) (fun _ k => XS.aload X80.here hx rfl (hb hby at_259) rfl rfl k) ?_
    refine Goes.step (S' := T80.setTop (mkF m 262 #[.val (.long q0), .second, .val (.long q1), .second, .val (.int p2), .val (.int p3), .val (.long v6_16), .second, .val (.ref b1), .val (.ref r41_0), .val (.int (1 : Int32)), .val (.int (13 : Int32)), .val (.ref r80_0), .unset] [(.int (0 : Int32)), (.ref r80_0)])) (fun _ k => XS.iconst X80.here hx rfl (hb hby at_261) k) ?_
    refine Goes.step (S' := T80.setTop (mkF m 263 #[.val (.long q0), .second, .val (.long q1), .second, .val (.int p2), .val (.int p3), .val (.long v6_16), .second, .val (.ref b1), .val (.ref r41_0), .val (.int (1 : Int32)), .val (.int (13 : Int32)), .val (.ref r80_0), .unset] [(.long q1), (.int (0 : Int32)), (.ref r80_0)])) (fun _ k => XS.lloadN X80.here hx rfl (hb hby at_262) rfl  k) ?_
    refine Goes.step (S' := T80.setTop (mkF m 265 #[.val (.long q0), .second, .val (.long q1), .second, .val (.int p2), .val (.int p3), .val (.long v6_16), .second, .val (.ref b1), .val (.ref r41_0), .val (.int (1 : Int32)), .val (.int (13 : Int32)), .val (.ref r80_0), .unset] [(.int p2), (.long q1), (.int (0 : Int32)), (.ref r80_0)])) (fun _ k => XS.iload X80.here hx rfl (hb hby at_263) rfl  k) ?_
    obtain ⟨_, _, ⟨T96, L96, k96, n96⟩, -, X96, ⟨Lc96, hQ96, l96, y96, z96⟩, st96⟩ := Jvm.LawKit.callS X80 hx (y := (⟨"com/example/isopod/isopod/RecordHeaderOfPinLaw", "nonceAt", "([BIJI)Z"⟩ : MethodName)) hown (mvT hZ (hw _ (List.mem_of_getElem? (i := 52) rfl))) (mvT hZ (hw _ (List.mem_of_getElem? (i := 53) rfl))) (mvT hZ (hw _ (List.mem_of_getElem? (i := 54) rfl))) (mvT hZ (hw _ (List.mem_of_getElem? (i := 55) rfl))) (by decide) (backOf (W := 0) (rm9 l Z a0 hw [] r80_0 (0 : Int32) q1 p2 rk80_0 ((12 : Int32)) ([(nar .byte ((((q1.toUInt64 >>> ((56 : Int32) &&& 0x3f).toInt64.toUInt64).toInt64).toInt32).toInt8.toInt32)), (nar .byte ((((q1.toUInt64 >>> ((48 : Int32) &&& 0x3f).toInt64.toUInt64).toInt64).toInt32).toInt8.toInt32)), (nar .byte ((((q1.toUInt64 >>> ((40 : Int32) &&& 0x3f).toInt64.toUInt64).toInt64).toInt32).toInt8.toInt32)), (nar .byte ((((q1.toUInt64 >>> ((32 : Int32) &&& 0x3f).toInt64.toUInt64).toInt64).toInt32).toInt8.toInt32)), (nar .byte ((((q1.toUInt64 >>> ((24 : Int32) &&& 0x3f).toInt64.toUInt64).toInt64).toInt32).toInt8.toInt32)), (nar .byte ((((q1.toUInt64 >>> ((16 : Int32) &&& 0x3f).toInt64.toUInt64).toInt64).toInt32).toInt8.toInt32)), (nar .byte ((((q1.toUInt64 >>> ((8 : Int32) &&& 0x3f).toInt64.toUInt64).toInt64).toInt32).toInt8.toInt32)), (nar .byte ((q1.toInt32).toInt8.toInt32)), (nar .byte (((p2.toUInt32 >>> ((24 : Int32) &&& 31).toUInt32).toInt32).toInt8.toInt32)), (nar .byte (((p2.toUInt32 >>> ((16 : Int32) &&& 31).toUInt32).toInt32).toInt8.toInt32)), (nar .byte (((p2.toUInt32 >>> ((8 : Int32) &&& 31).toUInt32).toInt32).toInt8.toInt32)), (nar .byte (p2.toInt8.toInt32))]) T80.heap n0 Z95 P82 P83 (own_pr0_265_hB q0 q1 p2 p3 v6_16 ev6_16 hs18)) hZ (hw _ (List.mem_of_getElem? (i := 55) rfl)) (hw _ (List.mem_of_getElem? (i := 54) rfl)) (by decide) (by decide)) (g := (mkF m 265 #[.val (.long q0), .second, .val (.long q1), .second, .val (.int p2), .val (.int p3), .val (.long v6_16), .second, .val (.ref b1), .val (.ref r41_0), .val (.int (1 : Int32)), .val (.int (13 : Int32)), .val (.ref r80_0), .unset] [(.int p2), (.long q1), (.int (0 : Int32)), (.ref r80_0)])) rfl (by rw [hml]; rfl) (argsL := [(.ref r80_0), (.int (0 : Int32)), (.long q1), (.int p2)]) (rest := []) (lenOf pd6 rfl) rfl (by show 2 * 0 + _ ≤ _; exact Nat.le_of_eq rfl) (hb hby at_265) (fun _ _ => ⟨rfl, rfl, (by decide : 4 + 0 ≤ _), (by decide : 39 + 0 ≤ _)⟩)
    dsimp only [Pt.U, Pt.locs, Pt.cells, Pt.slots] at X96 l96 y96 z96 st96 hQ96
    replace X96 := X96.more (Nat.le_of_eq (y96 : k96 = 4)) (Nat.le_of_eq (z96 : n96 = 39))
    obtain ⟨rfl, N96q, e96⟩ := hQ96
    have N97 := own_frapp l96 N84 N96q
    refine Goes.step (S' := T96.setTop (mkF m 268 #[.val (.long q0), .second, .val (.long q1), .second, .val (.int p2), .val (.int p3), .val (.long v6_16), .second, .val (.ref b1), .val (.ref r41_0), .val (.int (1 : Int32)), .val (.int (13 : Int32)), .val (.ref r80_0), .unset] [(.int (f9 (12 : Int32) [(nar .byte ((((q1.toUInt64 >>> ((56 : Int32) &&& 0x3f).toInt64.toUInt64).toInt64).toInt32).toInt8.toInt32)), (nar .byte ((((q1.toUInt64 >>> ((48 : Int32) &&& 0x3f).toInt64.toUInt64).toInt64).toInt32).toInt8.toInt32)), (nar .byte ((((q1.toUInt64 >>> ((40 : Int32) &&& 0x3f).toInt64.toUInt64).toInt64).toInt32).toInt8.toInt32)), (nar .byte ((((q1.toUInt64 >>> ((32 : Int32) &&& 0x3f).toInt64.toUInt64).toInt64).toInt32).toInt8.toInt32)), (nar .byte ((((q1.toUInt64 >>> ((24 : Int32) &&& 0x3f).toInt64.toUInt64).toInt64).toInt32).toInt8.toInt32)), (nar .byte ((((q1.toUInt64 >>> ((16 : Int32) &&& 0x3f).toInt64.toUInt64).toInt64).toInt32).toInt8.toInt32)), (nar .byte ((((q1.toUInt64 >>> ((8 : Int32) &&& 0x3f).toInt64.toUInt64).toInt64).toInt32).toInt8.toInt32)), (nar .byte ((q1.toInt32).toInt8.toInt32)), (nar .byte (((p2.toUInt32 >>> ((24 : Int32) &&& 31).toUInt32).toInt32).toInt8.toInt32)), (nar .byte (((p2.toUInt32 >>> ((16 : Int32) &&& 31).toUInt32).toInt32).toInt8.toInt32)), (nar .byte (((p2.toUInt32 >>> ((8 : Int32) &&& 31).toUInt32).toInt32).toInt8.toInt32)), (nar .byte (p2.toInt8.toInt32))] (0 : Int32) q1 p2))])) st96 ?_
    refine Goes.step (S' := T96.setTop (mkF m 273 #[.val (.long q0), .second, .val (.long q1), .second, .val (.int p2), .val (.int p3), .val (.long v6_16), .second, .val (.ref b1), .val (.ref r41_0), .val (.int (1 : Int32)), .val (.int (13 : Int32)), .val (.ref r80_0), .unset] [])) (fun _ k => XS.ifYes X96.here hx rfl (pc0 := 268) (pc' := 273) rfl (hb hby at_268) rfl ((if0 _ _).trans (feq (own_hc0_268 q0 q1 p2 p3 v6_16 ev6_16 hs18)).2) (by decide) (by decide) k) ?_
    refine Goes.step (S' := T96.setTop (mkF m 275 #[.val (.long q0), .second, .val (.long q1), .second, .val (.int p2), .val (.int p3), .val (.long v6_16), .second, .val (.ref b1), .val (.ref r41_0), .val (.int (1 : Int32)), .val (.int (13 : Int32)), .val (.ref r80_0), .unset] [(.ref r41_0)])) (fun _ k => XS.aload X96.here hx rfl (hb hby at_273) rfl rfl k) ?_
    obtain ⟨cq98, kq98, q98a, q98b, q98c⟩ := isOf hZ e96 E_91
    obtain ⟨_, _, ⟨T98, L98, k98, n98⟩, -, X98, ⟨Lc98, hQ98, l98, y98, z98⟩, st98⟩ := X96.virtualBack hx (y := (⟨"com/example/isopod/isopod/RecordHeader", "toBytes", "()[B"⟩ : MethodName)) (z := (⟨"com/example/isopod/isopod/RecordHeader", "toBytes", "()[B"⟩ : MethodName)) hown (mvT hZ (hw _ (List.mem_of_getElem? (i := 56) rfl))) (mvT hZ (hw _ (List.mem_of_getElem? (i := 57) rfl))) (notFace_of_selects (args := #[]) (mvT hZ (hw _ (List.mem_of_getElem? (i := 59) rfl)))) (mvT hZ (hw _ (List.mem_of_getElem? (i := 59) rfl))) (mvT hZ (hw _ (List.mem_of_getElem? (i := 58) rfl))) (by decide) (backOf (W := 0) (rm10a l Z a0 hw [] r41_0 v6_16 r41_1 rk41_0 ((12 : Int32)) ([(nar .byte ((((q1.toUInt64 >>> ((56 : Int32) &&& 0x3f).toInt64.toUInt64).toInt64).toInt32).toInt8.toInt32)), (nar .byte ((((q1.toUInt64 >>> ((48 : Int32) &&& 0x3f).toInt64.toUInt64).toInt64).toInt32).toInt8.toInt32)), (nar .byte ((((q1.toUInt64 >>> ((40 : Int32) &&& 0x3f).toInt64.toUInt64).toInt64).toInt32).toInt8.toInt32)), (nar .byte ((((q1.toUInt64 >>> ((32 : Int32) &&& 0x3f).toInt64.toUInt64).toInt64).toInt32).toInt8.toInt32)), (nar .byte ((((q1.toUInt64 >>> ((24 : Int32) &&& 0x3f).toInt64.toUInt64).toInt64).toInt32).toInt8.toInt32)), (nar .byte ((((q1.toUInt64 >>> ((16 : Int32) &&& 0x3f).toInt64.toUInt64).toInt64).toInt32).toInt8.toInt32)), (nar .byte ((((q1.toUInt64 >>> ((8 : Int32) &&& 0x3f).toInt64.toUInt64).toInt64).toInt32).toInt8.toInt32)), (nar .byte ((q1.toInt32).toInt8.toInt32)), (nar .byte (((p2.toUInt32 >>> ((24 : Int32) &&& 31).toUInt32).toInt32).toInt8.toInt32)), (nar .byte (((p2.toUInt32 >>> ((16 : Int32) &&& 31).toUInt32).toInt32).toInt8.toInt32)), (nar .byte (((p2.toUInt32 >>> ((8 : Int32) &&& 31).toUInt32).toInt32).toInt8.toInt32)), (nar .byte (p2.toInt8.toInt32))]) T80.heap n0 Z95 E_91 F94 F92 F93 V90 P49 (own_pr0_275_hlen q0 q1 p2 p3 v6_16 ev6_16 hs18)) hZ (hw _ (List.mem_of_getElem? (i := 60) rfl)) (hw _ (List.mem_of_getElem? (i := 3) rfl)) (by decide) (by decide)) q98a q98c (g := (mkF m 275 #[.val (.long q0), .second, .val (.long q1), .second, .val (.int p2), .val (.int p3), .val (.long v6_16), .second, .val (.ref b1), .val (.ref r41_0), .val (.int (1 : Int32)), .val (.int (13 : Int32)), .val (.ref r80_0), .unset] [(.ref r41_0)])) rfl (by rw [hml]; rfl) (Steps.refl _) (argsL := []) (rest := []) (lenOf pd5 rfl) rfl (by show 2 * 0 + _ ≤ _; exact Nat.le_of_eq rfl) (hb hby at_275) (fun _ _ => ⟨rfl, e96, (by decide : 4 + 1 ≤ _), (by decide : 39 + 13 ≤ _)⟩)
    dsimp only [Pt.U, Pt.locs, Pt.cells, Pt.slots] at X98 l98 y98 z98 st98 hQ98
    replace X98 := X98.more (Nat.le_of_eq (y98 : k98 = 5)) (Nat.le_of_eq (z98 : n98 = 52))
    obtain ⟨r98_0, rk98_0, rfl, N98q, K98q, P99, P100, P101⟩ := hQ98
    have N102 := own_frapp l98 N97 N98q
    have ne103 : b1 ≠ r98_0 := Nat.ne_of_lt (Nat.lt_of_lt_of_le V89.lt P99)
    have ne104 : r41_1 ≠ r98_0 := Nat.ne_of_lt (Nat.lt_of_lt_of_le V90.lt P99)
    have ne105 : r80_0 ≠ r98_0 := Nat.ne_of_lt (Nat.lt_of_lt_of_le P82.lt P99)
    have ne106 : r41_0 ≠ r98_0 := Nat.ne_of_lt (Nat.lt_of_lt_of_le E_91.lt P99)
    have g107 : n0 ≤ r98_0 := Nat.le_trans Z95 P99
    have V108 := V89.keep K98q nin0
    have V109 := V90.keep K98q nin0
    have V110 := P82.keep K98q nin0
    have E_111 := E_91.keep K98q
    have F112 := F92.keep K98q nin0
    have F113 := F93.keep K98q nin0
    have F114 := F94.keep K98q nin0
    have Z115 : n0 ≤ T98.heap.size := Nat.le_trans Z95 K98q.1
    refine Goes.step (S' := T98.setTop (mkF m 278 #[.val (.long q0), .second, .val (.long q1), .second, .val (.int p2), .val (.int p3), .val (.long v6_16), .second, .val (.ref b1), .val (.ref r41_0), .val (.int (1 : Int32)), .val (.int (13 : Int32)), .val (.ref r80_0), .unset] [(.ref r98_0)])) (fun _ k => st98.trans k) ?_
    refine Goes.step (S' := T98.setTop (mkF m 280 #[.val (.long q0), .second, .val (.long q1), .second, .val (.int p2), .val (.int p3), .val (.long v6_16), .second, .val (.ref b1), .val (.ref r41_0), .val (.int (1 : Int32)), .val (.int (13 : Int32)), .val (.ref r80_0), .val (.ref r98_0)] [])) (fun _ k => XS.astore X98.here hx rfl (hb hby at_278) rfl rfl (l' := #[.val (.long q0), .second, .val (.long q1), .second, .val (.int p2), .val (.int p3), .val (.long v6_16), .second, .val (.ref b1), .val (.ref r41_0), .val (.int (1 : Int32)), .val (.int (13 : Int32)), .val (.ref r80_0), .val (.ref r98_0)]) rfl k) ?_
    refine Goes.step (S' := T98.setTop (mkF m 282 #[.val (.long q0), .second, .val (.long q1), .second, .val (.int p2), .val (.int p3), .val (.long v6_16), .second, .val (.ref b1), .val (.ref r41_0), .val (.int (1 : Int32)), .val (.int (13 : Int32)), .val (.ref r80_0), .val (.ref r98_0)] [(.ref r98_0)])) (fun _ k => XS.aload X98.here hx rfl (hb hby at_280) rfl rfl k) ?_
    refine Goes.step (S' := T98.setTop (mkF m 283 #[.val (.long q0), .second, .val (.long q1), .second, .val (.int p2), .val (.int p3), .val (.long v6_16), .second, .val (.ref b1), .val (.ref r41_0), .val (.int (1 : Int32)), .val (.int (13 : Int32)), .val (.ref r80_0), .val (.ref r98_0)] [(.int (13 : Int32))])) (fun _ k => own_len X98 hx hZ rfl P100 (hb hby at_282) _ k) ?_
    refine Goes.step (S' := T98.setTop (mkF m 285 #[.val (.long q0), .second, .val (.long q1), .second, .val (.int p2), .val (.int p3), .val (.long v6_16), .second, .val (.ref b1), .val (.ref r41_0), .val (.int (1 : Int32)), .val (.int (13 : Int32)), .val (.ref r80_0), .val (.ref r98_0)] [(.int (13 : Int32)), (.int (13 : Int32))])) (fun _ k => XS.iload X98.here hx rfl (hb hby at_283) rfl  k) ?_
    refine Goes.step (S' := T98.setTop (mkF m 290 #[.val (.long q0), .second, .val (.long q1), .second, .val (.int p2), .val (.int p3), .val (.long v6_16), .second, .val (.ref b1), .val (.ref r41_0), .val (.int (1 : Int32)), .val (.int (13 : Int32)), .val (.ref r80_0), .val (.ref r98_0)] [])) (fun _ k => XS.icmpYes X98.here hx rfl (pc0 := 285) (pc' := 290) rfl (hb hby at_285) rfl (teq (rfl : (13 : Int32) = (13 : Int32))).1 (by decide) (by decide) k) ?_
    refine Goes.step (S' := T98.setTop (mkF m 292 #[.val (.long q0), .second, .val (.long q1), .second, .val (.int p2), .val (.int p3), .val (.long v6_16), .second, .val (.ref b1), .val (.ref r41_0), .val (.int (1 : Int32)), .val (.int (13 : Int32)), .val (.ref r80_0), .val (.ref r98_0)] [(.ref r98_0)])) (fun _ k => XS.aload X98.here hx rfl (hb hby at_290) rfl rfl k) ?_
    refine Goes.step (S' := T98.setTop (mkF m 293 #[.val (.long q0), .second, .val (.long q1), .second, .val (.int p2), .val (.int p3), .val (.long v6_16), .second, .val (.ref b1), .val (.ref r41_0), .val (.int (1 : Int32)), .val (.int (13 : Int32)), .val (.ref r80_0), .val (.ref r98_0)] [(.int (0 : Int32)), (.ref r98_0)])) (fun _ k => XS.iconst X98.here hx rfl (hb hby at_292) k) ?_
    refine Goes.step (S' := T98.setTop (mkF m 294 #[.val (.long q0), .second, .val (.long q1), .second, .val (.int p2), .val (.int p3), .val (.long v6_16), .second, .val (.ref b1), .val (.ref r41_0), .val (.int (1 : Int32)), .val (.int (13 : Int32)), .val (.ref r80_0), .val (.ref r98_0)] [(.int (nar .byte ((1 : Int32).toInt8.toInt32)))])) (fun _ k => own_baload X98 hx hZ rfl P100 ⟨by decide, by decide⟩ (hb hby at_293) _ k) ?_
    refine Goes.step (S' := T98.setTop (mkF m 296 #[.val (.long q0), .second, .val (.long q1), .second, .val (.int p2), .val (.int p3), .val (.long v6_16), .second, .val (.ref b1), .val (.ref r41_0), .val (.int (1 : Int32)), .val (.int (13 : Int32)), .val (.ref r80_0), .val (.ref r98_0)] [(.int (1 : Int32)), (.int (nar .byte ((1 : Int32).toInt8.toInt32)))])) (fun _ k => XS.iload X98.here hx rfl (hb hby at_294) rfl  k) ?_
    refine Goes.step (S' := T98.setTop (mkF m 297 #[.val (.long q0), .second, .val (.long q1), .second, .val (.int p2), .val (.int p3), .val (.long v6_16), .second, .val (.ref b1), .val (.ref r41_0), .val (.int (1 : Int32)), .val (.int (13 : Int32)), .val (.ref r80_0), .val (.ref r98_0)] [(.int ((1 : Int32).toInt8.toInt32)), (.int (nar .byte ((1 : Int32).toInt8.toInt32)))])) (fun _ k => XS.i2b X98.here hx rfl (hb hby at_296) rfl k) ?_
    refine Goes.step (S' := T98.setTop (mkF m 302 #[.val (.long q0), .second, .val (.long q1), .second, .val (.int p2), .val (.int p3), .val (.long v6_16), .second, .val (.ref b1), .val (.ref r41_0), .val (.int (1 : Int32)), .val (.int (13 : Int32)), .val (.ref r80_0), .val (.ref r98_0)] [])) (fun _ k => XS.icmpYes X98.here hx rfl (pc0 := 297) (pc' := 302) rfl (hb hby at_297) rfl (teq (own_hc0_297 q0 q1 p2 p3 v6_16 ev6_16 hs18)).1 (by decide) (by decide) k) ?_
    refine Goes.step (S' := T98.setTop (mkF m 304 #[.val (.long q0), .second, .val (.long q1), .second, .val (.int p2), .val (.int p3), .val (.long v6_16), .second, .val (.ref b1), .val (.ref r41_0), .val (.int (1 : Int32)), .val (.int (13 : Int32)), .val (.ref r80_0), .val (.ref r98_0)] [(.long v6_16)])) (fun _ k => XS.lload X98.here hx rfl (hb hby at_302) rfl  k) ?_
    refine Goes.step (S' := T98.setTop (mkF m 305 #[.val (.long q0), .second, .val (.long q1), .second, .val (.int p2), .val (.int p3), .val (.long v6_16), .second, .val (.ref b1), .val (.ref r41_0), .val (.int (1 : Int32)), .val (.int (13 : Int32)), .val (.ref r80_0), .val (.ref r98_0)] [(.long (0 : Int64)), (.long v6_16)])) (fun _ k => XS.lconst X98.here hx rfl (hb hby at_304) k) ?_
    refine Goes.step (S' := T98.setTop (mkF m 306 #[.val (.long q0), .second, .val (.long q1), .second, .val (.int p2), .val (.int p3), .val (.long v6_16), .second, .val (.ref b1), .val (.ref r41_0), .val (.int (1 : Int32)), .val (.int (13 : Int32)), .val (.ref r80_0), .val (.ref r98_0)] [(.int (lcmpW v6_16 (0 : Int64)))])) (fun _ k => XS.lcmp X98.here hx rfl (hb hby at_305) rfl k) ?_
    refine Goes.step (S' := T98.setTop (mkF m 309 #[.val (.long q0), .second, .val (.long q1), .second, .val (.int p2), .val (.int p3), .val (.long v6_16), .second, .val (.ref b1), .val (.ref r41_0), .val (.int (1 : Int32)), .val (.int (13 : Int32)), .val (.ref r80_0), .val (.ref r98_0)] [])) (fun _ k => XS.ifNo X98.here hx rfl (hb hby at_306) rfl ((if0 _ _).trans (teq ((lw_eq v6_16 (0 : Int64)).mpr hs18)).2) k) ?_
    refine Goes.step (S' := T98.setTop (mkF m 311 #[.val (.long q0), .second, .val (.long q1), .second, .val (.int p2), .val (.int p3), .val (.long v6_16), .second, .val (.ref b1), .val (.ref r41_0), .val (.int (1 : Int32)), .val (.int (13 : Int32)), .val (.ref r80_0), .val (.ref r98_0)] [(.ref r98_0)])) (fun _ k => XS.aload X98.here hx rfl (hb hby at_309) rfl rfl k) ?_
    refine Goes.step (S' := T98.setTop (mkF m 312 #[.val (.long q0), .second, .val (.long q1), .second, .val (.int p2), .val (.int p3), .val (.long v6_16), .second, .val (.ref b1), .val (.ref r41_0), .val (.int (1 : Int32)), .val (.int (13 : Int32)), .val (.ref r80_0), .val (.ref r98_0)] [(.int (1 : Int32)), (.ref r98_0)])) (fun _ k => XS.iconst X98.here hx rfl (hb hby at_311) k) ?_
    refine Goes.step (S' := T98.setTop (mkF m 313 #[.val (.long q0), .second, .val (.long q1), .second, .val (.int p2), .val (.int p3), .val (.long v6_16), .second, .val (.ref b1), .val (.ref r41_0), .val (.int (1 : Int32)), .val (.int (13 : Int32)), .val (.ref r80_0), .val (.ref r98_0)] [(.long q1), (.int (1 : Int32)), (.ref r98_0)])) (fun _ k => XS.lloadN X98.here hx rfl (hb hby at_312) rfl  k) ?_
    refine Goes.step (S' := T98.setTop (mkF m 315 #[.val (.long q0), .second, .val (.long q1), .second, .val (.int p2), .val (.int p3), .val (.long v6_16), .second, .val (.ref b1), .val (.ref r41_0), .val (.int (1 : Int32)), .val (.int (13 : Int32)), .val (.ref r80_0), .val (.ref r98_0)] [(.int p2), (.long q1), (.int (1 : Int32)), (.ref r98_0)])) (fun _ k => XS.iload X98.here hx rfl (hb hby at_313) rfl  k) ?_
    obtain ⟨_, _, ⟨T116, L116, k116, n116⟩, -, X116, ⟨Lc116, hQ116, l116, y116, z116⟩, st116⟩ := Jvm.LawKit.callS X98 hx (y := (⟨"com/example/isopod/isopod/RecordHeaderOfPinLaw", "nonceAt", "([BIJI)Z"⟩ : MethodName)) hown (mvT hZ (hw _ (List.mem_of_getElem? (i := 52) rfl))) (mvT hZ (hw _ (List.mem_of_getElem? (i := 53) rfl))) (mvT hZ (hw _ (List.mem_of_getElem? (i := 54) rfl))) (mvT hZ (hw _ (List.mem_of_getElem? (i := 55) rfl))) (by decide) (backOf (W := 0) (rm9 l Z a0 hw [] r98_0 (1 : Int32) q1 p2 rk98_0 ((13 : Int32)) ([(nar .byte ((1 : Int32).toInt8.toInt32)), (nar .byte ((((q1.toUInt64 >>> ((56 : Int32) &&& 0x3f).toInt64.toUInt64).toInt64).toInt32).toInt8.toInt32)), (nar .byte ((((q1.toUInt64 >>> ((48 : Int32) &&& 0x3f).toInt64.toUInt64).toInt64).toInt32).toInt8.toInt32)), (nar .byte ((((q1.toUInt64 >>> ((40 : Int32) &&& 0x3f).toInt64.toUInt64).toInt64).toInt32).toInt8.toInt32)), (nar .byte ((((q1.toUInt64 >>> ((32 : Int32) &&& 0x3f).toInt64.toUInt64).toInt64).toInt32).toInt8.toInt32)), (nar .byte ((((q1.toUInt64 >>> ((24 : Int32) &&& 0x3f).toInt64.toUInt64).toInt64).toInt32).toInt8.toInt32)), (nar .byte ((((q1.toUInt64 >>> ((16 : Int32) &&& 0x3f).toInt64.toUInt64).toInt64).toInt32).toInt8.toInt32)), (nar .byte ((((q1.toUInt64 >>> ((8 : Int32) &&& 0x3f).toInt64.toUInt64).toInt64).toInt32).toInt8.toInt32)), (nar .byte ((q1.toInt32).toInt8.toInt32)), (nar .byte (((p2.toUInt32 >>> ((24 : Int32) &&& 31).toUInt32).toInt32).toInt8.toInt32)), (nar .byte (((p2.toUInt32 >>> ((16 : Int32) &&& 31).toUInt32).toInt32).toInt8.toInt32)), (nar .byte (((p2.toUInt32 >>> ((8 : Int32) &&& 31).toUInt32).toInt32).toInt8.toInt32)), (nar .byte (p2.toInt8.toInt32))]) T98.heap n0 Z115 P100 P101 (own_pr0_315_hB q0 q1 p2 p3 v6_16 ev6_16 hs18)) hZ (hw _ (List.mem_of_getElem? (i := 55) rfl)) (hw _ (List.mem_of_getElem? (i := 54) rfl)) (by decide) (by decide)) (g := (mkF m 315 #[.val (.long q0), .second, .val (.long q1), .second, .val (.int p2), .val (.int p3), .val (.long v6_16), .second, .val (.ref b1), .val (.ref r41_0), .val (.int (1 : Int32)), .val (.int (13 : Int32)), .val (.ref r80_0), .val (.ref r98_0)] [(.int p2), (.long q1), (.int (1 : Int32)), (.ref r98_0)])) rfl (by rw [hml]; rfl) (argsL := [(.ref r98_0), (.int (1 : Int32)), (.long q1), (.int p2)]) (rest := []) (lenOf pd6 rfl) rfl (by show 2 * 0 + _ ≤ _; exact Nat.le_of_eq rfl) (hb hby at_315) (fun _ _ => ⟨rfl, rfl, (by decide : 5 + 0 ≤ _), (by decide : 52 + 0 ≤ _)⟩)
    dsimp only [Pt.U, Pt.locs, Pt.cells, Pt.slots] at X116 l116 y116 z116 st116 hQ116
    replace X116 := X116.more (Nat.le_of_eq (y116 : k116 = 5)) (Nat.le_of_eq (z116 : n116 = 52))
    obtain ⟨rfl, N116q, e116⟩ := hQ116
    have N117 := own_frapp l116 N102 N116q
    refine Goes.step (S' := T116.setTop (mkF m 318 #[.val (.long q0), .second, .val (.long q1), .second, .val (.int p2), .val (.int p3), .val (.long v6_16), .second, .val (.ref b1), .val (.ref r41_0), .val (.int (1 : Int32)), .val (.int (13 : Int32)), .val (.ref r80_0), .val (.ref r98_0)] [(.int (f9 (13 : Int32) [(nar .byte ((1 : Int32).toInt8.toInt32)), (nar .byte ((((q1.toUInt64 >>> ((56 : Int32) &&& 0x3f).toInt64.toUInt64).toInt64).toInt32).toInt8.toInt32)), (nar .byte ((((q1.toUInt64 >>> ((48 : Int32) &&& 0x3f).toInt64.toUInt64).toInt64).toInt32).toInt8.toInt32)), (nar .byte ((((q1.toUInt64 >>> ((40 : Int32) &&& 0x3f).toInt64.toUInt64).toInt64).toInt32).toInt8.toInt32)), (nar .byte ((((q1.toUInt64 >>> ((32 : Int32) &&& 0x3f).toInt64.toUInt64).toInt64).toInt32).toInt8.toInt32)), (nar .byte ((((q1.toUInt64 >>> ((24 : Int32) &&& 0x3f).toInt64.toUInt64).toInt64).toInt32).toInt8.toInt32)), (nar .byte ((((q1.toUInt64 >>> ((16 : Int32) &&& 0x3f).toInt64.toUInt64).toInt64).toInt32).toInt8.toInt32)), (nar .byte ((((q1.toUInt64 >>> ((8 : Int32) &&& 0x3f).toInt64.toUInt64).toInt64).toInt32).toInt8.toInt32)), (nar .byte ((q1.toInt32).toInt8.toInt32)), (nar .byte (((p2.toUInt32 >>> ((24 : Int32) &&& 31).toUInt32).toInt32).toInt8.toInt32)), (nar .byte (((p2.toUInt32 >>> ((16 : Int32) &&& 31).toUInt32).toInt32).toInt8.toInt32)), (nar .byte (((p2.toUInt32 >>> ((8 : Int32) &&& 31).toUInt32).toInt32).toInt8.toInt32)), (nar .byte (p2.toInt8.toInt32))] (1 : Int32) q1 p2))])) st116 ?_
    refine Goes.retN X116 hx Bd.notSynchronized (t := .boolean) Bd.returns (by simp) (hb hby at_318) (by decide) (by decide) ?_
    exact ⟨congrArg (fun z => some (Value.int z)) (own_ret0_318 q0 q1 p2 p3 v6_16 ev6_16 hs18), N117⟩
  · refine Goes.step (S' := s₁.setTop (mkF m 20 #[.val (.long q0), .second, .val (.long q1), .second, .val (.int p2), .val (.int p3), .val (.long v6_16), .second, .unset, .unset, .unset, .unset, .unset, .unset] [(.int (12 : Int32))])) (fun _ k => XS.bipush X0.here hx rfl (hb hby at_18) k) ?_
    obtain ⟨T118, h118, k118, X118, e118, E118, A118, hk118, st118⟩ := own_newB X0 hx hZ (hw _ (List.mem_of_getElem? (i := 0) rfl)) e0 (g := (mkF m 20 #[.val (.long q0), .second, .val (.long q1), .second, .val (.int p2), .val (.int p3), .val (.long v6_16), .second, .unset, .unset, .unset, .unset, .unset, .unset] [(.int (12 : Int32))])) rfl (hb hby at_20) rfl (by decide) (cap := 12) (by decide) (by decide) (by decide) (by decide)
    obtain ⟨b118, g118⟩ : ∃ z, z = h0.size := ⟨_, rfl⟩
    rw [← g118] at A118 st118
    have g119 : n0 ≤ b118 := Nat.le_trans Z0 (Nat.le_of_eq g118.symm)
    have Z120 : n0 ≤ h118.size := Nat.le_trans Z0 E118.1
    have V121 : AI Z h118 b118 k118 .byte (12 : Int32) [(0 : Int32), (0 : Int32), (0 : Int32), (0 : Int32), (0 : Int32), (0 : Int32), (0 : Int32), (0 : Int32), (0 : Int32), (0 : Int32), (0 : Int32), (0 : Int32)] := own_new A118 (by decide) rfl
    refine Goes.step (S' := T118.setTop (mkF m 22 #[.val (.long q0), .second, .val (.long q1), .second, .val (.int p2), .val (.int p3), .val (.long v6_16), .second, .unset, .unset, .unset, .unset, .unset, .unset] [(.ref b118)])) st118 ?_
    refine Goes.step (S' := T118.setTop (mkF m 24 #[.val (.long q0), .second, .val (.long q1), .second, .val (.int p2), .val (.int p3), .val (.long v6_16), .second, .val (.ref b118), .unset, .unset, .unset, .unset, .unset] [])) (fun _ k => XS.astore X118.here hx rfl (hb hby at_22) rfl rfl (l' := #[.val (.long q0), .second, .val (.long q1), .second, .val (.int p2), .val (.int p3), .val (.long v6_16), .second, .val (.ref b118), .unset, .unset, .unset, .unset, .unset]) rfl k) ?_
    refine Goes.step (S' := T118.setTop (mkF m 26 #[.val (.long q0), .second, .val (.long q1), .second, .val (.int p2), .val (.int p3), .val (.long v6_16), .second, .val (.ref b118), .unset, .unset, .unset, .unset, .unset] [(.ref b118)])) (fun _ k => XS.aload X118.here hx rfl (hb hby at_24) rfl rfl k) ?_
    refine Goes.step (S' := T118.setTop (mkF m 27 #[.val (.long q0), .second, .val (.long q1), .second, .val (.int p2), .val (.int p3), .val (.long v6_16), .second, .val (.ref b118), .unset, .unset, .unset, .unset, .unset] [(.int (0 : Int32)), (.ref b118)])) (fun _ k => XS.iconst X118.here hx rfl (hb hby at_26) k) ?_
    refine Goes.step (S' := T118.setTop (mkF m 28 #[.val (.long q0), .second, .val (.long q1), .second, .val (.int p2), .val (.int p3), .val (.long v6_16), .second, .val (.ref b118), .unset, .unset, .unset, .unset, .unset] [(.long q1), (.int (0 : Int32)), (.ref b118)])) (fun _ k => XS.lloadN X118.here hx rfl (hb hby at_27) rfl  k) ?_
    refine Goes.step (S' := T118.setTop (mkF m 30 #[.val (.long q0), .second, .val (.long q1), .second, .val (.int p2), .val (.int p3), .val (.long v6_16), .second, .val (.ref b118), .unset, .unset, .unset, .unset, .unset] [(.int (56 : Int32)), (.long q1), (.int (0 : Int32)), (.ref b118)])) (fun _ k => XS.bipush X118.here hx rfl (hb hby at_28) k) ?_
    refine Goes.step (S' := T118.setTop (mkF m 31 #[.val (.long q0), .second, .val (.long q1), .second, .val (.int p2), .val (.int p3), .val (.long v6_16), .second, .val (.ref b118), .unset, .unset, .unset, .unset, .unset] [(.long ((q1.toUInt64 >>> ((56 : Int32) &&& 0x3f).toInt64.toUInt64).toInt64)), (.int (0 : Int32)), (.ref b118)])) (fun _ k => XS.lushr X118.here hx rfl (hb hby at_30) rfl k) ?_
    refine Goes.step (S' := T118.setTop (mkF m 32 #[.val (.long q0), .second, .val (.long q1), .second, .val (.int p2), .val (.int p3), .val (.long v6_16), .second, .val (.ref b118), .unset, .unset, .unset, .unset, .unset] [(.int (((q1.toUInt64 >>> ((56 : Int32) &&& 0x3f).toInt64.toUInt64).toInt64).toInt32)), (.int (0 : Int32)), (.ref b118)])) (fun _ k => XS.l2i X118.here hx rfl (hb hby at_31) rfl k) ?_
    refine Goes.step (S' := T118.setTop (mkF m 33 #[.val (.long q0), .second, .val (.long q1), .second, .val (.int p2), .val (.int p3), .val (.long v6_16), .second, .val (.ref b118), .unset, .unset, .unset, .unset, .unset] [(.int ((((q1.toUInt64 >>> ((56 : Int32) &&& 0x3f).toInt64.toUInt64).toInt64).toInt32).toInt8.toInt32)), (.int (0 : Int32)), (.ref b118)])) (fun _ k => XS.i2b X118.here hx rfl (hb hby at_32) rfl k) ?_
    obtain ⟨T122, h122, X122, e122, W122, V_122, st122⟩ := own_bastore X118 hx hZ e118 V121 ⟨by decide, by decide⟩ (g := (mkF m 33 #[.val (.long q0), .second, .val (.long q1), .second, .val (.int p2), .val (.int p3), .val (.long v6_16), .second, .val (.ref b118), .unset, .unset, .unset, .unset, .unset] [(.int ((((q1.toUInt64 >>> ((56 : Int32) &&& 0x3f).toInt64.toUInt64).toInt64).toInt32).toInt8.toInt32)), (.int (0 : Int32)), (.ref b118)])) rfl rfl (hb hby at_33)
    replace V_122 : AI Z h122 b118 k118 .byte (12 : Int32) [(nar .byte ((((q1.toUInt64 >>> ((56 : Int32) &&& 0x3f).toInt64.toUInt64).toInt64).toInt32).toInt8.toInt32)), (0 : Int32), (0 : Int32), (0 : Int32), (0 : Int32), (0 : Int32), (0 : Int32), (0 : Int32), (0 : Int32), (0 : Int32), (0 : Int32), (0 : Int32)] := V_122
    have N123 := Fr.snoc X122 N0 g119
    have Z124 : n0 ≤ h122.size := Nat.le_trans Z120 (Nat.le_of_eq W122.size.symm)
    refine Goes.step (S' := T122.setTop (mkF m 34 #[.val (.long q0), .second, .val (.long q1), .second, .val (.int p2), .val (.int p3), .val (.long v6_16), .second, .val (.ref b118), .unset, .unset, .unset, .unset, .unset] [])) st122 ?_
    refine Goes.step (S' := T122.setTop (mkF m 36 #[.val (.long q0), .second, .val (.long q1), .second, .val (.int p2), .val (.int p3), .val (.long v6_16), .second, .val (.ref b118), .unset, .unset, .unset, .unset, .unset] [(.ref b118)])) (fun _ k => XS.aload X122.here hx rfl (hb hby at_34) rfl rfl k) ?_
    refine Goes.step (S' := T122.setTop (mkF m 37 #[.val (.long q0), .second, .val (.long q1), .second, .val (.int p2), .val (.int p3), .val (.long v6_16), .second, .val (.ref b118), .unset, .unset, .unset, .unset, .unset] [(.int (1 : Int32)), (.ref b118)])) (fun _ k => XS.iconst X122.here hx rfl (hb hby at_36) k) ?_
    refine Goes.step (S' := T122.setTop (mkF m 38 #[.val (.long q0), .second, .val (.long q1), .second, .val (.int p2), .val (.int p3), .val (.long v6_16), .second, .val (.ref b118), .unset, .unset, .unset, .unset, .unset] [(.long q1), (.int (1 : Int32)), (.ref b118)])) (fun _ k => XS.lloadN X122.here hx rfl (hb hby at_37) rfl  k) ?_
    refine Goes.step (S' := T122.setTop (mkF m 40 #[.val (.long q0), .second, .val (.long q1), .second, .val (.int p2), .val (.int p3), .val (.long v6_16), .second, .val (.ref b118), .unset, .unset, .unset, .unset, .unset] [(.int (48 : Int32)), (.long q1), (.int (1 : Int32)), (.ref b118)])) (fun _ k => XS.bipush X122.here hx rfl (hb hby at_38) k) ?_
    refine Goes.step (S' := T122.setTop (mkF m 41 #[.val (.long q0), .second, .val (.long q1), .second, .val (.int p2), .val (.int p3), .val (.long v6_16), .second, .val (.ref b118), .unset, .unset, .unset, .unset, .unset] [(.long ((q1.toUInt64 >>> ((48 : Int32) &&& 0x3f).toInt64.toUInt64).toInt64)), (.int (1 : Int32)), (.ref b118)])) (fun _ k => XS.lushr X122.here hx rfl (hb hby at_40) rfl k) ?_
    refine Goes.step (S' := T122.setTop (mkF m 42 #[.val (.long q0), .second, .val (.long q1), .second, .val (.int p2), .val (.int p3), .val (.long v6_16), .second, .val (.ref b118), .unset, .unset, .unset, .unset, .unset] [(.int (((q1.toUInt64 >>> ((48 : Int32) &&& 0x3f).toInt64.toUInt64).toInt64).toInt32)), (.int (1 : Int32)), (.ref b118)])) (fun _ k => XS.l2i X122.here hx rfl (hb hby at_41) rfl k) ?_
    refine Goes.step (S' := T122.setTop (mkF m 43 #[.val (.long q0), .second, .val (.long q1), .second, .val (.int p2), .val (.int p3), .val (.long v6_16), .second, .val (.ref b118), .unset, .unset, .unset, .unset, .unset] [(.int ((((q1.toUInt64 >>> ((48 : Int32) &&& 0x3f).toInt64.toUInt64).toInt64).toInt32).toInt8.toInt32)), (.int (1 : Int32)), (.ref b118)])) (fun _ k => XS.i2b X122.here hx rfl (hb hby at_42) rfl k) ?_
    obtain ⟨T125, h125, X125, e125, W125, V_125, st125⟩ := own_bastore X122 hx hZ e122 V_122 ⟨by decide, by decide⟩ (g := (mkF m 43 #[.val (.long q0), .second, .val (.long q1), .second, .val (.int p2), .val (.int p3), .val (.long v6_16), .second, .val (.ref b118), .unset, .unset, .unset, .unset, .unset] [(.int ((((q1.toUInt64 >>> ((48 : Int32) &&& 0x3f).toInt64.toUInt64).toInt64).toInt32).toInt8.toInt32)), (.int (1 : Int32)), (.ref b118)])) rfl rfl (hb hby at_43)
    replace V_125 : AI Z h125 b118 k118 .byte (12 : Int32) [(nar .byte ((((q1.toUInt64 >>> ((56 : Int32) &&& 0x3f).toInt64.toUInt64).toInt64).toInt32).toInt8.toInt32)), (nar .byte ((((q1.toUInt64 >>> ((48 : Int32) &&& 0x3f).toInt64.toUInt64).toInt64).toInt32).toInt8.toInt32)), (0 : Int32), (0 : Int32), (0 : Int32), (0 : Int32), (0 : Int32), (0 : Int32), (0 : Int32), (0 : Int32), (0 : Int32), (0 : Int32)] := V_125
    have N126 := Fr.snoc X125 N123 g119
    have Z127 : n0 ≤ h125.size := Nat.le_trans Z124 (Nat.le_of_eq W125.size.symm)
    refine Goes.step (S' := T125.setTop (mkF m 44 #[.val (.long q0), .second, .val (.long q1), .second, .val (.int p2), .val (.int p3), .val (.long v6_16), .second, .val (.ref b118), .unset, .unset, .unset, .unset, .unset] [])) st125 ?_
    refine Goes.step (S' := T125.setTop (mkF m 46 #[.val (.long q0), .second, .val (.long q1), .second, .val (.int p2), .val (.int p3), .val (.long v6_16), .second, .val (.ref b118), .unset, .unset, .unset, .unset, .unset] [(.ref b118)])) (fun _ k => XS.aload X125.here hx rfl (hb hby at_44) rfl rfl k) ?_
    refine Goes.step (S' := T125.setTop (mkF m 47 #[.val (.long q0), .second, .val (.long q1), .second, .val (.int p2), .val (.int p3), .val (.long v6_16), .second, .val (.ref b118), .unset, .unset, .unset, .unset, .unset] [(.int (2 : Int32)), (.ref b118)])) (fun _ k => XS.iconst X125.here hx rfl (hb hby at_46) k) ?_
    refine Goes.step (S' := T125.setTop (mkF m 48 #[.val (.long q0), .second, .val (.long q1), .second, .val (.int p2), .val (.int p3), .val (.long v6_16), .second, .val (.ref b118), .unset, .unset, .unset, .unset, .unset] [(.long q1), (.int (2 : Int32)), (.ref b118)])) (fun _ k => XS.lloadN X125.here hx rfl (hb hby at_47) rfl  k) ?_
    refine Goes.step (S' := T125.setTop (mkF m 50 #[.val (.long q0), .second, .val (.long q1), .second, .val (.int p2), .val (.int p3), .val (.long v6_16), .second, .val (.ref b118), .unset, .unset, .unset, .unset, .unset] [(.int (40 : Int32)), (.long q1), (.int (2 : Int32)), (.ref b118)])) (fun _ k => XS.bipush X125.here hx rfl (hb hby at_48) k) ?_
    refine Goes.step (S' := T125.setTop (mkF m 51 #[.val (.long q0), .second, .val (.long q1), .second, .val (.int p2), .val (.int p3), .val (.long v6_16), .second, .val (.ref b118), .unset, .unset, .unset, .unset, .unset] [(.long ((q1.toUInt64 >>> ((40 : Int32) &&& 0x3f).toInt64.toUInt64).toInt64)), (.int (2 : Int32)), (.ref b118)])) (fun _ k => XS.lushr X125.here hx rfl (hb hby at_50) rfl k) ?_
    refine Goes.step (S' := T125.setTop (mkF m 52 #[.val (.long q0), .second, .val (.long q1), .second, .val (.int p2), .val (.int p3), .val (.long v6_16), .second, .val (.ref b118), .unset, .unset, .unset, .unset, .unset] [(.int (((q1.toUInt64 >>> ((40 : Int32) &&& 0x3f).toInt64.toUInt64).toInt64).toInt32)), (.int (2 : Int32)), (.ref b118)])) (fun _ k => XS.l2i X125.here hx rfl (hb hby at_51) rfl k) ?_
    refine Goes.step (S' := T125.setTop (mkF m 53 #[.val (.long q0), .second, .val (.long q1), .second, .val (.int p2), .val (.int p3), .val (.long v6_16), .second, .val (.ref b118), .unset, .unset, .unset, .unset, .unset] [(.int ((((q1.toUInt64 >>> ((40 : Int32) &&& 0x3f).toInt64.toUInt64).toInt64).toInt32).toInt8.toInt32)), (.int (2 : Int32)), (.ref b118)])) (fun _ k => XS.i2b X125.here hx rfl (hb hby at_52) rfl k) ?_
    obtain ⟨T128, h128, X128, e128, W128, V_128, st128⟩ := own_bastore X125 hx hZ e125 V_125 ⟨by decide, by decide⟩ (g := (mkF m 53 #[.val (.long q0), .second, .val (.long q1), .second, .val (.int p2), .val (.int p3), .val (.long v6_16), .second, .val (.ref b118), .unset, .unset, .unset, .unset, .unset] [(.int ((((q1.toUInt64 >>> ((40 : Int32) &&& 0x3f).toInt64.toUInt64).toInt64).toInt32).toInt8.toInt32)), (.int (2 : Int32)), (.ref b118)])) rfl rfl (hb hby at_53)
    replace V_128 : AI Z h128 b118 k118 .byte (12 : Int32) [(nar .byte ((((q1.toUInt64 >>> ((56 : Int32) &&& 0x3f).toInt64.toUInt64).toInt64).toInt32).toInt8.toInt32)), (nar .byte ((((q1.toUInt64 >>> ((48 : Int32) &&& 0x3f).toInt64.toUInt64).toInt64).toInt32).toInt8.toInt32)), (nar .byte ((((q1.toUInt64 >>> ((40 : Int32) &&& 0x3f).toInt64.toUInt64).toInt64).toInt32).toInt8.toInt32)), (0 : Int32), (0 : Int32), (0 : Int32), (0 : Int32), (0 : Int32), (0 : Int32), (0 : Int32), (0 : Int32), (0 : Int32)] := V_128
    have N129 := Fr.snoc X128 N126 g119
    have Z130 : n0 ≤ h128.size := Nat.le_trans Z127 (Nat.le_of_eq W128.size.symm)
    refine Goes.step (S' := T128.setTop (mkF m 54 #[.val (.long q0), .second, .val (.long q1), .second, .val (.int p2), .val (.int p3), .val (.long v6_16), .second, .val (.ref b118), .unset, .unset, .unset, .unset, .unset] [])) st128 ?_
    refine Goes.step (S' := T128.setTop (mkF m 56 #[.val (.long q0), .second, .val (.long q1), .second, .val (.int p2), .val (.int p3), .val (.long v6_16), .second, .val (.ref b118), .unset, .unset, .unset, .unset, .unset] [(.ref b118)])) (fun _ k => XS.aload X128.here hx rfl (hb hby at_54) rfl rfl k) ?_
    refine Goes.step (S' := T128.setTop (mkF m 57 #[.val (.long q0), .second, .val (.long q1), .second, .val (.int p2), .val (.int p3), .val (.long v6_16), .second, .val (.ref b118), .unset, .unset, .unset, .unset, .unset] [(.int (3 : Int32)), (.ref b118)])) (fun _ k => XS.iconst X128.here hx rfl (hb hby at_56) k) ?_
    refine Goes.step (S' := T128.setTop (mkF m 58 #[.val (.long q0), .second, .val (.long q1), .second, .val (.int p2), .val (.int p3), .val (.long v6_16), .second, .val (.ref b118), .unset, .unset, .unset, .unset, .unset] [(.long q1), (.int (3 : Int32)), (.ref b118)])) (fun _ k => XS.lloadN X128.here hx rfl (hb hby at_57) rfl  k) ?_
    refine Goes.step (S' := T128.setTop (mkF m 60 #[.val (.long q0), .second, .val (.long q1), .second, .val (.int p2), .val (.int p3), .val (.long v6_16), .second, .val (.ref b118), .unset, .unset, .unset, .unset, .unset] [(.int (32 : Int32)), (.long q1), (.int (3 : Int32)), (.ref b118)])) (fun _ k => XS.bipush X128.here hx rfl (hb hby at_58) k) ?_
    refine Goes.step (S' := T128.setTop (mkF m 61 #[.val (.long q0), .second, .val (.long q1), .second, .val (.int p2), .val (.int p3), .val (.long v6_16), .second, .val (.ref b118), .unset, .unset, .unset, .unset, .unset] [(.long ((q1.toUInt64 >>> ((32 : Int32) &&& 0x3f).toInt64.toUInt64).toInt64)), (.int (3 : Int32)), (.ref b118)])) (fun _ k => XS.lushr X128.here hx rfl (hb hby at_60) rfl k) ?_
    refine Goes.step (S' := T128.setTop (mkF m 62 #[.val (.long q0), .second, .val (.long q1), .second, .val (.int p2), .val (.int p3), .val (.long v6_16), .second, .val (.ref b118), .unset, .unset, .unset, .unset, .unset] [(.int (((q1.toUInt64 >>> ((32 : Int32) &&& 0x3f).toInt64.toUInt64).toInt64).toInt32)), (.int (3 : Int32)), (.ref b118)])) (fun _ k => XS.l2i X128.here hx rfl (hb hby at_61) rfl k) ?_
    refine Goes.step (S' := T128.setTop (mkF m 63 #[.val (.long q0), .second, .val (.long q1), .second, .val (.int p2), .val (.int p3), .val (.long v6_16), .second, .val (.ref b118), .unset, .unset, .unset, .unset, .unset] [(.int ((((q1.toUInt64 >>> ((32 : Int32) &&& 0x3f).toInt64.toUInt64).toInt64).toInt32).toInt8.toInt32)), (.int (3 : Int32)), (.ref b118)])) (fun _ k => XS.i2b X128.here hx rfl (hb hby at_62) rfl k) ?_
    obtain ⟨T131, h131, X131, e131, W131, V_131, st131⟩ := own_bastore X128 hx hZ e128 V_128 ⟨by decide, by decide⟩ (g := (mkF m 63 #[.val (.long q0), .second, .val (.long q1), .second, .val (.int p2), .val (.int p3), .val (.long v6_16), .second, .val (.ref b118), .unset, .unset, .unset, .unset, .unset] [(.int ((((q1.toUInt64 >>> ((32 : Int32) &&& 0x3f).toInt64.toUInt64).toInt64).toInt32).toInt8.toInt32)), (.int (3 : Int32)), (.ref b118)])) rfl rfl (hb hby at_63)
    replace V_131 : AI Z h131 b118 k118 .byte (12 : Int32) [(nar .byte ((((q1.toUInt64 >>> ((56 : Int32) &&& 0x3f).toInt64.toUInt64).toInt64).toInt32).toInt8.toInt32)), (nar .byte ((((q1.toUInt64 >>> ((48 : Int32) &&& 0x3f).toInt64.toUInt64).toInt64).toInt32).toInt8.toInt32)), (nar .byte ((((q1.toUInt64 >>> ((40 : Int32) &&& 0x3f).toInt64.toUInt64).toInt64).toInt32).toInt8.toInt32)), (nar .byte ((((q1.toUInt64 >>> ((32 : Int32) &&& 0x3f).toInt64.toUInt64).toInt64).toInt32).toInt8.toInt32)), (0 : Int32), (0 : Int32), (0 : Int32), (0 : Int32), (0 : Int32), (0 : Int32), (0 : Int32), (0 : Int32)] := V_131
    have N132 := Fr.snoc X131 N129 g119
    have Z133 : n0 ≤ h131.size := Nat.le_trans Z130 (Nat.le_of_eq W131.size.symm)
    refine Goes.step (S' := T131.setTop (mkF m 64 #[.val (.long q0), .second, .val (.long q1), .second, .val (.int p2), .val (.int p3), .val (.long v6_16), .second, .val (.ref b118), .unset, .unset, .unset, .unset, .unset] [])) st131 ?_
    refine Goes.step (S' := T131.setTop (mkF m 66 #[.val (.long q0), .second, .val (.long q1), .second, .val (.int p2), .val (.int p3), .val (.long v6_16), .second, .val (.ref b118), .unset, .unset, .unset, .unset, .unset] [(.ref b118)])) (fun _ k => XS.aload X131.here hx rfl (hb hby at_64) rfl rfl k) ?_
    refine Goes.step (S' := T131.setTop (mkF m 67 #[.val (.long q0), .second, .val (.long q1), .second, .val (.int p2), .val (.int p3), .val (.long v6_16), .second, .val (.ref b118), .unset, .unset, .unset, .unset, .unset] [(.int (4 : Int32)), (.ref b118)])) (fun _ k => XS.iconst X131.here hx rfl (hb hby at_66) k) ?_
    refine Goes.step (S' := T131.setTop (mkF m 68 #[.val (.long q0), .second, .val (.long q1), .second, .val (.int p2), .val (.int p3), .val (.long v6_16), .second, .val (.ref b118), .unset, .unset, .unset, .unset, .unset] [(.long q1), (.int (4 : Int32)), (.ref b118)])) (fun _ k => XS.lloadN X131.here hx rfl (hb hby at_67) rfl  k) ?_
    refine Goes.step (S' := T131.setTop (mkF m 70 #[.val (.long q0), .second, .val (.long q1), .second, .val (.int p2), .val (.int p3), .val (.long v6_16), .second, .val (.ref b118), .unset, .unset, .unset, .unset, .unset] [(.int (24 : Int32)), (.long q1), (.int (4 : Int32)), (.ref b118)])) (fun _ k => XS.bipush X131.here hx rfl (hb hby at_68) k) ?_
    refine Goes.step (S' := T131.setTop (mkF m 71 #[.val (.long q0), .second, .val (.long q1), .second, .val (.int p2), .val (.int p3), .val (.long v6_16), .second, .val (.ref b118), .unset, .unset, .unset, .unset, .unset] [(.long ((q1.toUInt64 >>> ((24 : Int32) &&& 0x3f).toInt64.toUInt64).toInt64)), (.int (4 : Int32)), (.ref b118)])) (fun _ k => XS.lushr X131.here hx rfl (hb hby at_70) rfl k) ?_
    refine Goes.step (S' := T131.setTop (mkF m 72 #[.val (.long q0), .second, .val (.long q1), .second, .val (.int p2), .val (.int p3), .val (.long v6_16), .second, .val (.ref b118), .unset, .unset, .unset, .unset, .unset] [(.int (((q1.toUInt64 >>> ((24 : Int32) &&& 0x3f).toInt64.toUInt64).toInt64).toInt32)), (.int (4 : Int32)), (.ref b118)])) (fun _ k => XS.l2i X131.here hx rfl (hb hby at_71) rfl k) ?_
    refine Goes.step (S' := T131.setTop (mkF m 73 #[.val (.long q0), .second, .val (.long q1), .second, .val (.int p2), .val (.int p3), .val (.long v6_16), .second, .val (.ref b118), .unset, .unset, .unset, .unset, .unset] [(.int ((((q1.toUInt64 >>> ((24 : Int32) &&& 0x3f).toInt64.toUInt64).toInt64).toInt32).toInt8.toInt32)), (.int (4 : Int32)), (.ref b118)])) (fun _ k => XS.i2b X131.here hx rfl (hb hby at_72) rfl k) ?_
    obtain ⟨T134, h134, X134, e134, W134, V_134, st134⟩ := own_bastore X131 hx hZ e131 V_131 ⟨by decide, by decide⟩ (g := (mkF m 73 #[.val (.long q0), .second, .val (.long q1), .second, .val (.int p2), .val (.int p3), .val (.long v6_16), .second, .val (.ref b118), .unset, .unset, .unset, .unset, .unset] [(.int ((((q1.toUInt64 >>> ((24 : Int32) &&& 0x3f).toInt64.toUInt64).toInt64).toInt32).toInt8.toInt32)), (.int (4 : Int32)), (.ref b118)])) rfl rfl (hb hby at_73)
    replace V_134 : AI Z h134 b118 k118 .byte (12 : Int32) [(nar .byte ((((q1.toUInt64 >>> ((56 : Int32) &&& 0x3f).toInt64.toUInt64).toInt64).toInt32).toInt8.toInt32)), (nar .byte ((((q1.toUInt64 >>> ((48 : Int32) &&& 0x3f).toInt64.toUInt64).toInt64).toInt32).toInt8.toInt32)), (nar .byte ((((q1.toUInt64 >>> ((40 : Int32) &&& 0x3f).toInt64.toUInt64).toInt64).toInt32).toInt8.toInt32)), (nar .byte ((((q1.toUInt64 >>> ((32 : Int32) &&& 0x3f).toInt64.toUInt64).toInt64).toInt32).toInt8.toInt32)), (nar .byte ((((q1.toUInt64 >>> ((24 : Int32) &&& 0x3f).toInt64.toUInt64).toInt64).toInt32).toInt8.toInt32)), (0 : Int32), (0 : Int32), (0 : Int32), (0 : Int32), (0 : Int32), (0 : Int32), (0 : Int32)] := V_134
    have N135 := Fr.snoc X134 N132 g119
    have Z136 : n0 ≤ h134.size := Nat.le_trans Z133 (Nat.le_of_eq W134.size.symm)
    refine Goes.step (S' := T134.setTop (mkF m 74 #[.val (.long q0), .second, .val (.long q1), .second, .val (.int p2), .val (.int p3), .val (.long v6_16), .second, .val (.ref b118), .unset, .unset, .unset, .unset, .unset] [])) st134 ?_
    refine Goes.step (S' := T134.setTop (mkF m 76 #[.val (.long q0), .second, .val (.long q1), .second, .val (.int p2), .val (.int p3), .val (.long v6_16), .second, .val (.ref b118), .unset, .unset, .unset, .unset, .unset] [(.ref b118)])) (fun _ k => XS.aload X134.here hx rfl (hb hby at_74) rfl rfl k) ?_
    refine Goes.step (S' := T134.setTop (mkF m 77 #[.val (.long q0), .second, .val (.long q1), .second, .val (.int p2), .val (.int p3), .val (.long v6_16), .second, .val (.ref b118), .unset, .unset, .unset, .unset, .unset] [(.int (5 : Int32)), (.ref b118)])) (fun _ k => XS.iconst X134.here hx rfl (hb hby at_76) k) ?_
    refine Goes.step (S' := T134.setTop (mkF m 78 #[.val (.long q0), .second, .val (.long q1), .second, .val (.int p2), .val (.int p3), .val (.long v6_16), .second, .val (.ref b118), .unset, .unset, .unset, .unset, .unset] [(.long q1), (.int (5 : Int32)), (.ref b118)])) (fun _ k => XS.lloadN X134.here hx rfl (hb hby at_77) rfl  k) ?_
    refine Goes.step (S' := T134.setTop (mkF m 80 #[.val (.long q0), .second, .val (.long q1), .second, .val (.int p2), .val (.int p3), .val (.long v6_16), .second, .val (.ref b118), .unset, .unset, .unset, .unset, .unset] [(.int (16 : Int32)), (.long q1), (.int (5 : Int32)), (.ref b118)])) (fun _ k => XS.bipush X134.here hx rfl (hb hby at_78) k) ?_
    refine Goes.step (S' := T134.setTop (mkF m 81 #[.val (.long q0), .second, .val (.long q1), .second, .val (.int p2), .val (.int p3), .val (.long v6_16), .second, .val (.ref b118), .unset, .unset, .unset, .unset, .unset] [(.long ((q1.toUInt64 >>> ((16 : Int32) &&& 0x3f).toInt64.toUInt64).toInt64)), (.int (5 : Int32)), (.ref b118)])) (fun _ k => XS.lushr X134.here hx rfl (hb hby at_80) rfl k) ?_
    refine Goes.step (S' := T134.setTop (mkF m 82 #[.val (.long q0), .second, .val (.long q1), .second, .val (.int p2), .val (.int p3), .val (.long v6_16), .second, .val (.ref b118), .unset, .unset, .unset, .unset, .unset] [(.int (((q1.toUInt64 >>> ((16 : Int32) &&& 0x3f).toInt64.toUInt64).toInt64).toInt32)), (.int (5 : Int32)), (.ref b118)])) (fun _ k => XS.l2i X134.here hx rfl (hb hby at_81) rfl k) ?_
    refine Goes.step (S' := T134.setTop (mkF m 83 #[.val (.long q0), .second, .val (.long q1), .second, .val (.int p2), .val (.int p3), .val (.long v6_16), .second, .val (.ref b118), .unset, .unset, .unset, .unset, .unset] [(.int ((((q1.toUInt64 >>> ((16 : Int32) &&& 0x3f).toInt64.toUInt64).toInt64).toInt32).toInt8.toInt32)), (.int (5 : Int32)), (.ref b118)])) (fun _ k => XS.i2b X134.here hx rfl (hb hby at_82) rfl k) ?_
    obtain ⟨T137, h137, X137, e137, W137, V_137, st137⟩ := own_bastore X134 hx hZ e134 V_134 ⟨by decide, by decide⟩ (g := (mkF m 83 #[.val (.long q0), .second, .val (.long q1), .second, .val (.int p2), .val (.int p3), .val (.long v6_16), .second, .val (.ref b118), .unset, .unset, .unset, .unset, .unset] [(.int ((((q1.toUInt64 >>> ((16 : Int32) &&& 0x3f).toInt64.toUInt64).toInt64).toInt32).toInt8.toInt32)), (.int (5 : Int32)), (.ref b118)])) rfl rfl (hb hby at_83)
    replace V_137 : AI Z h137 b118 k118 .byte (12 : Int32) [(nar .byte ((((q1.toUInt64 >>> ((56 : Int32) &&& 0x3f).toInt64.toUInt64).toInt64).toInt32).toInt8.toInt32)), (nar .byte ((((q1.toUInt64 >>> ((48 : Int32) &&& 0x3f).toInt64.toUInt64).toInt64).toInt32).toInt8.toInt32)), (nar .byte ((((q1.toUInt64 >>> ((40 : Int32) &&& 0x3f).toInt64.toUInt64).toInt64).toInt32).toInt8.toInt32)), (nar .byte ((((q1.toUInt64 >>> ((32 : Int32) &&& 0x3f).toInt64.toUInt64).toInt64).toInt32).toInt8.toInt32)), (nar .byte ((((q1.toUInt64 >>> ((24 : Int32) &&& 0x3f).toInt64.toUInt64).toInt64).toInt32).toInt8.toInt32)), (nar .byte ((((q1.toUInt64 >>> ((16 : Int32) &&& 0x3f).toInt64.toUInt64).toInt64).toInt32).toInt8.toInt32)), (0 : Int32), (0 : Int32), (0 : Int32), (0 : Int32), (0 : Int32), (0 : Int32)] := V_137
    have N138 := Fr.snoc X137 N135 g119
    have Z139 : n0 ≤ h137.size := Nat.le_trans Z136 (Nat.le_of_eq W137.size.symm)
    refine Goes.step (S' := T137.setTop (mkF m 84 #[.val (.long q0), .second, .val (.long q1), .second, .val (.int p2), .val (.int p3), .val (.long v6_16), .second, .val (.ref b118), .unset, .unset, .unset, .unset, .unset] [])) st137 ?_
    refine Goes.step (S' := T137.setTop (mkF m 86 #[.val (.long q0), .second, .val (.long q1), .second, .val (.int p2), .val (.int p3), .val (.long v6_16), .second, .val (.ref b118), .unset, .unset, .unset, .unset, .unset] [(.ref b118)])) (fun _ k => XS.aload X137.here hx rfl (hb hby at_84) rfl rfl k) ?_
    refine Goes.step (S' := T137.setTop (mkF m 88 #[.val (.long q0), .second, .val (.long q1), .second, .val (.int p2), .val (.int p3), .val (.long v6_16), .second, .val (.ref b118), .unset, .unset, .unset, .unset, .unset] [(.int (6 : Int32)), (.ref b118)])) (fun _ k => XS.bipush X137.here hx rfl (hb hby at_86) k) ?_
    refine Goes.step (S' := T137.setTop (mkF m 89 #[.val (.long q0), .second, .val (.long q1), .second, .val (.int p2), .val (.int p3), .val (.long v6_16), .second, .val (.ref b118), .unset, .unset, .unset, .unset, .unset] [(.long q1), (.int (6 : Int32)), (.ref b118)])) (fun _ k => XS.lloadN X137.here hx rfl (hb hby at_88) rfl  k) ?_
    refine Goes.step (S' := T137.setTop (mkF m 91 #[.val (.long q0), .second, .val (.long q1), .second, .val (.int p2), .val (.int p3), .val (.long v6_16), .second, .val (.ref b118), .unset, .unset, .unset, .unset, .unset] [(.int (8 : Int32)), (.long q1), (.int (6 : Int32)), (.ref b118)])) (fun _ k => XS.bipush X137.here hx rfl (hb hby at_89) k) ?_
    refine Goes.step (S' := T137.setTop (mkF m 92 #[.val (.long q0), .second, .val (.long q1), .second, .val (.int p2), .val (.int p3), .val (.long v6_16), .second, .val (.ref b118), .unset, .unset, .unset, .unset, .unset] [(.long ((q1.toUInt64 >>> ((8 : Int32) &&& 0x3f).toInt64.toUInt64).toInt64)), (.int (6 : Int32)), (.ref b118)])) (fun _ k => XS.lushr X137.here hx rfl (hb hby at_91) rfl k) ?_
    refine Goes.step (S' := T137.setTop (mkF m 93 #[.val (.long q0), .second, .val (.long q1), .second, .val (.int p2), .val (.int p3), .val (.long v6_16), .second, .val (.ref b118), .unset, .unset, .unset, .unset, .unset] [(.int (((q1.toUInt64 >>> ((8 : Int32) &&& 0x3f).toInt64.toUInt64).toInt64).toInt32)), (.int (6 : Int32)), (.ref b118)])) (fun _ k => XS.l2i X137.here hx rfl (hb hby at_92) rfl k) ?_
    refine Goes.step (S' := T137.setTop (mkF m 94 #[.val (.long q0), .second, .val (.long q1), .second, .val (.int p2), .val (.int p3), .val (.long v6_16), .second, .val (.ref b118), .unset, .unset, .unset, .unset, .unset] [(.int ((((q1.toUInt64 >>> ((8 : Int32) &&& 0x3f).toInt64.toUInt64).toInt64).toInt32).toInt8.toInt32)), (.int (6 : Int32)), (.ref b118)])) (fun _ k => XS.i2b X137.here hx rfl (hb hby at_93) rfl k) ?_
    obtain ⟨T140, h140, X140, e140, W140, V_140, st140⟩ := own_bastore X137 hx hZ e137 V_137 ⟨by decide, by decide⟩ (g := (mkF m 94 #[.val (.long q0), .second, .val (.long q1), .second, .val (.int p2), .val (.int p3), .val (.long v6_16), .second, .val (.ref b118), .unset, .unset, .unset, .unset, .unset] [(.int ((((q1.toUInt64 >>> ((8 : Int32) &&& 0x3f).toInt64.toUInt64).toInt64).toInt32).toInt8.toInt32)), (.int (6 : Int32)), (.ref b118)])) rfl rfl (hb hby at_94)
    replace V_140 : AI Z h140 b118 k118 .byte (12 : Int32) [(nar .byte ((((q1.toUInt64 >>> ((56 : Int32) &&& 0x3f).toInt64.toUInt64).toInt64).toInt32).toInt8.toInt32)), (nar .byte ((((q1.toUInt64 >>> ((48 : Int32) &&& 0x3f).toInt64.toUInt64).toInt64).toInt32).toInt8.toInt32)), (nar .byte ((((q1.toUInt64 >>> ((40 : Int32) &&& 0x3f).toInt64.toUInt64).toInt64).toInt32).toInt8.toInt32)), (nar .byte ((((q1.toUInt64 >>> ((32 : Int32) &&& 0x3f).toInt64.toUInt64).toInt64).toInt32).toInt8.toInt32)), (nar .byte ((((q1.toUInt64 >>> ((24 : Int32) &&& 0x3f).toInt64.toUInt64).toInt64).toInt32).toInt8.toInt32)), (nar .byte ((((q1.toUInt64 >>> ((16 : Int32) &&& 0x3f).toInt64.toUInt64).toInt64).toInt32).toInt8.toInt32)), (nar .byte ((((q1.toUInt64 >>> ((8 : Int32) &&& 0x3f).toInt64.toUInt64).toInt64).toInt32).toInt8.toInt32)), (0 : Int32), (0 : Int32), (0 : Int32), (0 : Int32), (0 : Int32)] := V_140
    have N141 := Fr.snoc X140 N138 g119
    have Z142 : n0 ≤ h140.size := Nat.le_trans Z139 (Nat.le_of_eq W140.size.symm)
    refine Goes.step (S' := T140.setTop (mkF m 95 #[.val (.long q0), .second, .val (.long q1), .second, .val (.int p2), .val (.int p3), .val (.long v6_16), .second, .val (.ref b118), .unset, .unset, .unset, .unset, .unset] [])) st140 ?_
    refine Goes.step (S' := T140.setTop (mkF m 97 #[.val (.long q0), .second, .val (.long q1), .second, .val (.int p2), .val (.int p3), .val (.long v6_16), .second, .val (.ref b118), .unset, .unset, .unset, .unset, .unset] [(.ref b118)])) (fun _ k => XS.aload X140.here hx rfl (hb hby at_95) rfl rfl k) ?_
    refine Goes.step (S' := T140.setTop (mkF m 99 #[.val (.long q0), .second, .val (.long q1), .second, .val (.int p2), .val (.int p3), .val (.long v6_16), .second, .val (.ref b118), .unset, .unset, .unset, .unset, .unset] [(.int (7 : Int32)), (.ref b118)])) (fun _ k => XS.bipush X140.here hx rfl (hb hby at_97) k) ?_
    refine Goes.step (S' := T140.setTop (mkF m 100 #[.val (.long q0), .second, .val (.long q1), .second, .val (.int p2), .val (.int p3), .val (.long v6_16), .second, .val (.ref b118), .unset, .unset, .unset, .unset, .unset] [(.long q1), (.int (7 : Int32)), (.ref b118)])) (fun _ k => XS.lloadN X140.here hx rfl (hb hby at_99) rfl  k) ?_
    refine Goes.step (S' := T140.setTop (mkF m 101 #[.val (.long q0), .second, .val (.long q1), .second, .val (.int p2), .val (.int p3), .val (.long v6_16), .second, .val (.ref b118), .unset, .unset, .unset, .unset, .unset] [(.int (q1.toInt32)), (.int (7 : Int32)), (.ref b118)])) (fun _ k => XS.l2i X140.here hx rfl (hb hby at_100) rfl k) ?_
    refine Goes.step (S' := T140.setTop (mkF m 102 #[.val (.long q0), .second, .val (.long q1), .second, .val (.int p2), .val (.int p3), .val (.long v6_16), .second, .val (.ref b118), .unset, .unset, .unset, .unset, .unset] [(.int ((q1.toInt32).toInt8.toInt32)), (.int (7 : Int32)), (.ref b118)])) (fun _ k => XS.i2b X140.here hx rfl (hb hby at_101) rfl k) ?_
    obtain ⟨T143, h143, X143, e143, W143, V_143, st143⟩ := own_bastore X140 hx hZ e140 V_140 ⟨by decide, by decide⟩ (g := (mkF m 102 #[.val (.long q0), .second, .val (.long q1), .second, .val (.int p2), .val (.int p3), .val (.long v6_16), .second, .val (.ref b118), .unset, .unset, .unset, .unset, .unset] [(.int ((q1.toInt32).toInt8.toInt32)), (.int (7 : Int32)), (.ref b118)])) rfl rfl (hb hby at_102)
    replace V_143 : AI Z h143 b118 k118 .byte (12 : Int32) [(nar .byte ((((q1.toUInt64 >>> ((56 : Int32) &&& 0x3f).toInt64.toUInt64).toInt64).toInt32).toInt8.toInt32)), (nar .byte ((((q1.toUInt64 >>> ((48 : Int32) &&& 0x3f).toInt64.toUInt64).toInt64).toInt32).toInt8.toInt32)), (nar .byte ((((q1.toUInt64 >>> ((40 : Int32) &&& 0x3f).toInt64.toUInt64).toInt64).toInt32).toInt8.toInt32)), (nar .byte ((((q1.toUInt64 >>> ((32 : Int32) &&& 0x3f).toInt64.toUInt64).toInt64).toInt32).toInt8.toInt32)), (nar .byte ((((q1.toUInt64 >>> ((24 : Int32) &&& 0x3f).toInt64.toUInt64).toInt64).toInt32).toInt8.toInt32)), (nar .byte ((((q1.toUInt64 >>> ((16 : Int32) &&& 0x3f).toInt64.toUInt64).toInt64).toInt32).toInt8.toInt32)), (nar .byte ((((q1.toUInt64 >>> ((8 : Int32) &&& 0x3f).toInt64.toUInt64).toInt64).toInt32).toInt8.toInt32)), (nar .byte ((q1.toInt32).toInt8.toInt32)), (0 : Int32), (0 : Int32), (0 : Int32), (0 : Int32)] := V_143
    have N144 := Fr.snoc X143 N141 g119
    have Z145 : n0 ≤ h143.size := Nat.le_trans Z142 (Nat.le_of_eq W143.size.symm)
    refine Goes.step (S' := T143.setTop (mkF m 103 #[.val (.long q0), .second, .val (.long q1), .second, .val (.int p2), .val (.int p3), .val (.long v6_16), .second, .val (.ref b118), .unset, .unset, .unset, .unset, .unset] [])) st143 ?_
    refine Goes.step (S' := T143.setTop (mkF m 105 #[.val (.long q0), .second, .val (.long q1), .second, .val (.int p2), .val (.int p3), .val (.long v6_16), .second, .val (.ref b118), .unset, .unset, .unset, .unset, .unset] [(.ref b118)])) (fun _ k => XS.aload X143.here hx rfl (hb hby at_103) rfl rfl k) ?_
    refine Goes.step (S' := T143.setTop (mkF m 107 #[.val (.long q0), .second, .val (.long q1), .second, .val (.int p2), .val (.int p3), .val (.long v6_16), .second, .val (.ref b118), .unset, .unset, .unset, .unset, .unset] [(.int (8 : Int32)), (.ref b118)])) (fun _ k => XS.bipush X143.here hx rfl (hb hby at_105) k) ?_
    refine Goes.step (S' := T143.setTop (mkF m 109 #[.val (.long q0), .second, .val (.long q1), .second, .val (.int p2), .val (.int p3), .val (.long v6_16), .second, .val (.ref b118), .unset, .unset, .unset, .unset, .unset] [(.int p2), (.int (8 : Int32)), (.ref b118)])) (fun _ k => XS.iload X143.here hx rfl (hb hby at_107) rfl  k) ?_
    refine Goes.step (S' := T143.setTop (mkF m 111 #[.val (.long q0), .second, .val (.long q1), .second, .val (.int p2), .val (.int p3), .val (.long v6_16), .second, .val (.ref b118), .unset, .unset, .unset, .unset, .unset] [(.int (24 : Int32)), (.int p2), (.int (8 : Int32)), (.ref b118)])) (fun _ k => XS.bipush X143.here hx rfl (hb hby at_109) k) ?_
    refine Goes.step (S' := T143.setTop (mkF m 112 #[.val (.long q0), .second, .val (.long q1), .second, .val (.int p2), .val (.int p3), .val (.long v6_16), .second, .val (.ref b118), .unset, .unset, .unset, .unset, .unset] [(.int ((p2.toUInt32 >>> ((24 : Int32) &&& 31).toUInt32).toInt32)), (.int (8 : Int32)), (.ref b118)])) (fun _ k => XS.iushr X143.here hx rfl (hb hby at_111) rfl k) ?_
    refine Goes.step (S' := T143.setTop (mkF m 113 #[.val (.long q0), .second, .val (.long q1), .second, .val (.int p2), .val (.int p3), .val (.long v6_16), .second, .val (.ref b118), .unset, .unset, .unset, .unset, .unset] [(.int (((p2.toUInt32 >>> ((24 : Int32) &&& 31).toUInt32).toInt32).toInt8.toInt32)), (.int (8 : Int32)), (.ref b118)])) (fun _ k => XS.i2b X143.here hx rfl (hb hby at_112) rfl k) ?_
    obtain ⟨T146, h146, X146, e146, W146, V_146, st146⟩ := own_bastore X143 hx hZ e143 V_143 ⟨by decide, by decide⟩ (g := (mkF m 113 #[.val (.long q0), .second, .val (.long q1), .second, .val (.int p2), .val (.int p3), .val (.long v6_16), .second, .val (.ref b118), .unset, .unset, .unset, .unset, .unset] [(.int (((p2.toUInt32 >>> ((24 : Int32) &&& 31).toUInt32).toInt32).toInt8.toInt32)), (.int (8 : Int32)), (.ref b118)])) rfl rfl (hb hby at_113)
    replace V_146 : AI Z h146 b118 k118 .byte (12 : Int32) [(nar .byte ((((q1.toUInt64 >>> ((56 : Int32) &&& 0x3f).toInt64.toUInt64).toInt64).toInt32).toInt8.toInt32)), (nar .byte ((((q1.toUInt64 >>> ((48 : Int32) &&& 0x3f).toInt64.toUInt64).toInt64).toInt32).toInt8.toInt32)), (nar .byte ((((q1.toUInt64 >>> ((40 : Int32) &&& 0x3f).toInt64.toUInt64).toInt64).toInt32).toInt8.toInt32)), (nar .byte ((((q1.toUInt64 >>> ((32 : Int32) &&& 0x3f).toInt64.toUInt64).toInt64).toInt32).toInt8.toInt32)), (nar .byte ((((q1.toUInt64 >>> ((24 : Int32) &&& 0x3f).toInt64.toUInt64).toInt64).toInt32).toInt8.toInt32)), (nar .byte ((((q1.toUInt64 >>> ((16 : Int32) &&& 0x3f).toInt64.toUInt64).toInt64).toInt32).toInt8.toInt32)), (nar .byte ((((q1.toUInt64 >>> ((8 : Int32) &&& 0x3f).toInt64.toUInt64).toInt64).toInt32).toInt8.toInt32)), (nar .byte ((q1.toInt32).toInt8.toInt32)), (nar .byte (((p2.toUInt32 >>> ((24 : Int32) &&& 31).toUInt32).toInt32).toInt8.toInt32)), (0 : Int32), (0 : Int32), (0 : Int32)] := V_146
    have N147 := Fr.snoc X146 N144 g119
    have Z148 : n0 ≤ h146.size := Nat.le_trans Z145 (Nat.le_of_eq W146.size.symm)
    refine Goes.step (S' := T146.setTop (mkF m 114 #[.val (.long q0), .second, .val (.long q1), .second, .val (.int p2), .val (.int p3), .val (.long v6_16), .second, .val (.ref b118), .unset, .unset, .unset, .unset, .unset] [])) st146 ?_
    refine Goes.step (S' := T146.setTop (mkF m 116 #[.val (.long q0), .second, .val (.long q1), .second, .val (.int p2), .val (.int p3), .val (.long v6_16), .second, .val (.ref b118), .unset, .unset, .unset, .unset, .unset] [(.ref b118)])) (fun _ k => XS.aload X146.here hx rfl (hb hby at_114) rfl rfl k) ?_
    refine Goes.step (S' := T146.setTop (mkF m 118 #[.val (.long q0), .second, .val (.long q1), .second, .val (.int p2), .val (.int p3), .val (.long v6_16), .second, .val (.ref b118), .unset, .unset, .unset, .unset, .unset] [(.int (9 : Int32)), (.ref b118)])) (fun _ k => XS.bipush X146.here hx rfl (hb hby at_116) k) ?_
    refine Goes.step (S' := T146.setTop (mkF m 120 #[.val (.long q0), .second, .val (.long q1), .second, .val (.int p2), .val (.int p3), .val (.long v6_16), .second, .val (.ref b118), .unset, .unset, .unset, .unset, .unset] [(.int p2), (.int (9 : Int32)), (.ref b118)])) (fun _ k => XS.iload X146.here hx rfl (hb hby at_118) rfl  k) ?_
    refine Goes.step (S' := T146.setTop (mkF m 122 #[.val (.long q0), .second, .val (.long q1), .second, .val (.int p2), .val (.int p3), .val (.long v6_16), .second, .val (.ref b118), .unset, .unset, .unset, .unset, .unset] [(.int (16 : Int32)), (.int p2), (.int (9 : Int32)), (.ref b118)])) (fun _ k => XS.bipush X146.here hx rfl (hb hby at_120) k) ?_
    refine Goes.step (S' := T146.setTop (mkF m 123 #[.val (.long q0), .second, .val (.long q1), .second, .val (.int p2), .val (.int p3), .val (.long v6_16), .second, .val (.ref b118), .unset, .unset, .unset, .unset, .unset] [(.int ((p2.toUInt32 >>> ((16 : Int32) &&& 31).toUInt32).toInt32)), (.int (9 : Int32)), (.ref b118)])) (fun _ k => XS.iushr X146.here hx rfl (hb hby at_122) rfl k) ?_
    refine Goes.step (S' := T146.setTop (mkF m 124 #[.val (.long q0), .second, .val (.long q1), .second, .val (.int p2), .val (.int p3), .val (.long v6_16), .second, .val (.ref b118), .unset, .unset, .unset, .unset, .unset] [(.int (((p2.toUInt32 >>> ((16 : Int32) &&& 31).toUInt32).toInt32).toInt8.toInt32)), (.int (9 : Int32)), (.ref b118)])) (fun _ k => XS.i2b X146.here hx rfl (hb hby at_123) rfl k) ?_
    obtain ⟨T149, h149, X149, e149, W149, V_149, st149⟩ := own_bastore X146 hx hZ e146 V_146 ⟨by decide, by decide⟩ (g := (mkF m 124 #[.val (.long q0), .second, .val (.long q1), .second, .val (.int p2), .val (.int p3), .val (.long v6_16), .second, .val (.ref b118), .unset, .unset, .unset, .unset, .unset] [(.int (((p2.toUInt32 >>> ((16 : Int32) &&& 31).toUInt32).toInt32).toInt8.toInt32)), (.int (9 : Int32)), (.ref b118)])) rfl rfl (hb hby at_124)
    replace V_149 : AI Z h149 b118 k118 .byte (12 : Int32) [(nar .byte ((((q1.toUInt64 >>> ((56 : Int32) &&& 0x3f).toInt64.toUInt64).toInt64).toInt32).toInt8.toInt32)), (nar .byte ((((q1.toUInt64 >>> ((48 : Int32) &&& 0x3f).toInt64.toUInt64).toInt64).toInt32).toInt8.toInt32)), (nar .byte ((((q1.toUInt64 >>> ((40 : Int32) &&& 0x3f).toInt64.toUInt64).toInt64).toInt32).toInt8.toInt32)), (nar .byte ((((q1.toUInt64 >>> ((32 : Int32) &&& 0x3f).toInt64.toUInt64).toInt64).toInt32).toInt8.toInt32)), (nar .byte ((((q1.toUInt64 >>> ((24 : Int32) &&& 0x3f).toInt64.toUInt64).toInt64).toInt32).toInt8.toInt32)), (nar .byte ((((q1.toUInt64 >>> ((16 : Int32) &&& 0x3f).toInt64.toUInt64).toInt64).toInt32).toInt8.toInt32)), (nar .byte ((((q1.toUInt64 >>> ((8 : Int32) &&& 0x3f).toInt64.toUInt64).toInt64).toInt32).toInt8.toInt32)), (nar .byte ((q1.toInt32).toInt8.toInt32)), (nar .byte (((p2.toUInt32 >>> ((24 : Int32) &&& 31).toUInt32).toInt32).toInt8.toInt32)), (nar .byte (((p2.toUInt32 >>> ((16 : Int32) &&& 31).toUInt32).toInt32).toInt8.toInt32)), (0 : Int32), (0 : Int32)] := V_149
    have N150 := Fr.snoc X149 N147 g119
    have Z151 : n0 ≤ h149.size := Nat.le_trans Z148 (Nat.le_of_eq W149.size.symm)
    refine Goes.step (S' := T149.setTop (mkF m 125 #[.val (.long q0), .second, .val (.long q1), .second, .val (.int p2), .val (.int p3), .val (.long v6_16), .second, .val (.ref b118), .unset, .unset, .unset, .unset, .unset] [])) st149 ?_
    refine Goes.step (S' := T149.setTop (mkF m 127 #[.val (.long q0), .second, .val (.long q1), .second, .val (.int p2), .val (.int p3), .val (.long v6_16), .second, .val (.ref b118), .unset, .unset, .unset, .unset, .unset] [(.ref b118)])) (fun _ k => XS.aload X149.here hx rfl (hb hby at_125) rfl rfl k) ?_
    refine Goes.step (S' := T149.setTop (mkF m 129 #[.val (.long q0), .second, .val (.long q1), .second, .val (.int p2), .val (.int p3), .val (.long v6_16), .second, .val (.ref b118), .unset, .unset, .unset, .unset, .unset] [(.int (10 : Int32)), (.ref b118)])) (fun _ k => XS.bipush X149.here hx rfl (hb hby at_127) k) ?_
    refine Goes.step (S' := T149.setTop (mkF m 131 #[.val (.long q0), .second, .val (.long q1), .second, .val (.int p2), .val (.int p3), .val (.long v6_16), .second, .val (.ref b118), .unset, .unset, .unset, .unset, .unset] [(.int p2), (.int (10 : Int32)), (.ref b118)])) (fun _ k => XS.iload X149.here hx rfl (hb hby at_129) rfl  k) ?_
    refine Goes.step (S' := T149.setTop (mkF m 133 #[.val (.long q0), .second, .val (.long q1), .second, .val (.int p2), .val (.int p3), .val (.long v6_16), .second, .val (.ref b118), .unset, .unset, .unset, .unset, .unset] [(.int (8 : Int32)), (.int p2), (.int (10 : Int32)), (.ref b118)])) (fun _ k => XS.bipush X149.here hx rfl (hb hby at_131) k) ?_
    refine Goes.step (S' := T149.setTop (mkF m 134 #[.val (.long q0), .second, .val (.long q1), .second, .val (.int p2), .val (.int p3), .val (.long v6_16), .second, .val (.ref b118), .unset, .unset, .unset, .unset, .unset] [(.int ((p2.toUInt32 >>> ((8 : Int32) &&& 31).toUInt32).toInt32)), (.int (10 : Int32)), (.ref b118)])) (fun _ k => XS.iushr X149.here hx rfl (hb hby at_133) rfl k) ?_
    refine Goes.step (S' := T149.setTop (mkF m 135 #[.val (.long q0), .second, .val (.long q1), .second, .val (.int p2), .val (.int p3), .val (.long v6_16), .second, .val (.ref b118), .unset, .unset, .unset, .unset, .unset] [(.int (((p2.toUInt32 >>> ((8 : Int32) &&& 31).toUInt32).toInt32).toInt8.toInt32)), (.int (10 : Int32)), (.ref b118)])) (fun _ k => XS.i2b X149.here hx rfl (hb hby at_134) rfl k) ?_
    obtain ⟨T152, h152, X152, e152, W152, V_152, st152⟩ := own_bastore X149 hx hZ e149 V_149 ⟨by decide, by decide⟩ (g := (mkF m 135 #[.val (.long q0), .second, .val (.long q1), .second, .val (.int p2), .val (.int p3), .val (.long v6_16), .second, .val (.ref b118), .unset, .unset, .unset, .unset, .unset] [(.int (((p2.toUInt32 >>> ((8 : Int32) &&& 31).toUInt32).toInt32).toInt8.toInt32)), (.int (10 : Int32)), (.ref b118)])) rfl rfl (hb hby at_135)
    replace V_152 : AI Z h152 b118 k118 .byte (12 : Int32) [(nar .byte ((((q1.toUInt64 >>> ((56 : Int32) &&& 0x3f).toInt64.toUInt64).toInt64).toInt32).toInt8.toInt32)), (nar .byte ((((q1.toUInt64 >>> ((48 : Int32) &&& 0x3f).toInt64.toUInt64).toInt64).toInt32).toInt8.toInt32)), (nar .byte ((((q1.toUInt64 >>> ((40 : Int32) &&& 0x3f).toInt64.toUInt64).toInt64).toInt32).toInt8.toInt32)), (nar .byte ((((q1.toUInt64 >>> ((32 : Int32) &&& 0x3f).toInt64.toUInt64).toInt64).toInt32).toInt8.toInt32)), (nar .byte ((((q1.toUInt64 >>> ((24 : Int32) &&& 0x3f).toInt64.toUInt64).toInt64).toInt32).toInt8.toInt32)), (nar .byte ((((q1.toUInt64 >>> ((16 : Int32) &&& 0x3f).toInt64.toUInt64).toInt64).toInt32).toInt8.toInt32)), (nar .byte ((((q1.toUInt64 >>> ((8 : Int32) &&& 0x3f).toInt64.toUInt64).toInt64).toInt32).toInt8.toInt32)), (nar .byte ((q1.toInt32).toInt8.toInt32)), (nar .byte (((p2.toUInt32 >>> ((24 : Int32) &&& 31).toUInt32).toInt32).toInt8.toInt32)), (nar .byte (((p2.toUInt32 >>> ((16 : Int32) &&& 31).toUInt32).toInt32).toInt8.toInt32)), (nar .byte (((p2.toUInt32 >>> ((8 : Int32) &&& 31).toUInt32).toInt32).toInt8.toInt32)), (0 : Int32)] := V_152
    have N153 := Fr.snoc X152 N150 g119
    have Z154 : n0 ≤ h152.size := Nat.le_trans Z151 (Nat.le_of_eq W152.size.symm)
    refine Goes.step (S' := T152.setTop (mkF m 136 #[.val (.long q0), .second, .val (.long q1), .second, .val (.int p2), .val (.int p3), .val (.long v6_16), .second, .val (.ref b118), .unset, .unset, .unset, .unset, .unset] [])) st152 ?_
    refine Goes.step (S' := T152.setTop (mkF m 138 #[.val (.long q0), .second, .val (.long q1), .second, .val (.int p2), .val (.int p3), .val (.long v6_16), .second, .val (.ref b118), .unset, .unset, .unset, .unset, .unset] [(.ref b118)])) (fun _ k => XS.aload X152.here hx rfl (hb hby at_136) rfl rfl k) ?_
    refine Goes.step (S' := T152.setTop (mkF m 140 #[.val (.long q0), .second, .val (.long q1), .second, .val (.int p2), .val (.int p3), .val (.long v6_16), .second, .val (.ref b118), .unset, .unset, .unset, .unset, .unset] [(.int (11 : Int32)), (.ref b118)])) (fun _ k => XS.bipush X152.here hx rfl (hb hby at_138) k) ?_
    refine Goes.step (S' := T152.setTop (mkF m 142 #[.val (.long q0), .second, .val (.long q1), .second, .val (.int p2), .val (.int p3), .val (.long v6_16), .second, .val (.ref b118), .unset, .unset, .unset, .unset, .unset] [(.int p2), (.int (11 : Int32)), (.ref b118)])) (fun _ k => XS.iload X152.here hx rfl (hb hby at_140) rfl  k) ?_
    refine Goes.step (S' := T152.setTop (mkF m 143 #[.val (.long q0), .second, .val (.long q1), .second, .val (.int p2), .val (.int p3), .val (.long v6_16), .second, .val (.ref b118), .unset, .unset, .unset, .unset, .unset] [(.int (p2.toInt8.toInt32)), (.int (11 : Int32)), (.ref b118)])) (fun _ k => XS.i2b X152.here hx rfl (hb hby at_142) rfl k) ?_
    obtain ⟨T155, h155, X155, e155, W155, V_155, st155⟩ := own_bastore X152 hx hZ e152 V_152 ⟨by decide, by decide⟩ (g := (mkF m 143 #[.val (.long q0), .second, .val (.long q1), .second, .val (.int p2), .val (.int p3), .val (.long v6_16), .second, .val (.ref b118), .unset, .unset, .unset, .unset, .unset] [(.int (p2.toInt8.toInt32)), (.int (11 : Int32)), (.ref b118)])) rfl rfl (hb hby at_143)
    replace V_155 : AI Z h155 b118 k118 .byte (12 : Int32) [(nar .byte ((((q1.toUInt64 >>> ((56 : Int32) &&& 0x3f).toInt64.toUInt64).toInt64).toInt32).toInt8.toInt32)), (nar .byte ((((q1.toUInt64 >>> ((48 : Int32) &&& 0x3f).toInt64.toUInt64).toInt64).toInt32).toInt8.toInt32)), (nar .byte ((((q1.toUInt64 >>> ((40 : Int32) &&& 0x3f).toInt64.toUInt64).toInt64).toInt32).toInt8.toInt32)), (nar .byte ((((q1.toUInt64 >>> ((32 : Int32) &&& 0x3f).toInt64.toUInt64).toInt64).toInt32).toInt8.toInt32)), (nar .byte ((((q1.toUInt64 >>> ((24 : Int32) &&& 0x3f).toInt64.toUInt64).toInt64).toInt32).toInt8.toInt32)), (nar .byte ((((q1.toUInt64 >>> ((16 : Int32) &&& 0x3f).toInt64.toUInt64).toInt64).toInt32).toInt8.toInt32)), (nar .byte ((((q1.toUInt64 >>> ((8 : Int32) &&& 0x3f).toInt64.toUInt64).toInt64).toInt32).toInt8.toInt32)), (nar .byte ((q1.toInt32).toInt8.toInt32)), (nar .byte (((p2.toUInt32 >>> ((24 : Int32) &&& 31).toUInt32).toInt32).toInt8.toInt32)), (nar .byte (((p2.toUInt32 >>> ((16 : Int32) &&& 31).toUInt32).toInt32).toInt8.toInt32)), (nar .byte (((p2.toUInt32 >>> ((8 : Int32) &&& 31).toUInt32).toInt32).toInt8.toInt32)), (nar .byte (p2.toInt8.toInt32))] := V_155
    have N156 := Fr.snoc X155 N153 g119
    have Z157 : n0 ≤ h155.size := Nat.le_trans Z154 (Nat.le_of_eq W155.size.symm)
    refine Goes.step (S' := T155.setTop (mkF m 144 #[.val (.long q0), .second, .val (.long q1), .second, .val (.int p2), .val (.int p3), .val (.long v6_16), .second, .val (.ref b118), .unset, .unset, .unset, .unset, .unset] [])) st155 ?_
    refine Goes.step (S' := T155.setTop (mkF m 146 #[.val (.long q0), .second, .val (.long q1), .second, .val (.int p2), .val (.int p3), .val (.long v6_16), .second, .val (.ref b118), .unset, .unset, .unset, .unset, .unset] [(.long v6_16)])) (fun _ k => XS.lload X155.here hx rfl (hb hby at_144) rfl  k) ?_
    refine Goes.step (S' := T155.setTop (mkF m 148 #[.val (.long q0), .second, .val (.long q1), .second, .val (.int p2), .val (.int p3), .val (.long v6_16), .second, .val (.ref b118), .unset, .unset, .unset, .unset, .unset] [(.ref b118), (.long v6_16)])) (fun _ k => XS.aload X155.here hx rfl (hb hby at_146) rfl rfl k) ?_
    obtain ⟨_, _, ⟨T158, L158, k158, n158⟩, -, X158, ⟨Lc158, hQ158, l158, y158, z158⟩, st158⟩ := Jvm.LawKit.callS X155 hx (y := (⟨"com/example/isopod/isopod/RecordHeader", "of", "(J[B)Lcom/example/isopod/isopod/RecordHeader;"⟩ : MethodName)) hown (mvT hZ (hw _ (List.mem_of_getElem? (i := 1) rfl))) (mvT hZ (hw _ (List.mem_of_getElem? (i := 2) rfl))) (mvT hZ (hw _ (List.mem_of_getElem? (i := 3) rfl))) (mvT hZ (hw _ (List.mem_of_getElem? (i := 4) rfl))) (by decide) (backOf (W := 0) (rm1 l Z a0 hw [] v6_16 b118 k118 ((12 : Int32)) ([(nar .byte ((((q1.toUInt64 >>> ((56 : Int32) &&& 0x3f).toInt64.toUInt64).toInt64).toInt32).toInt8.toInt32)), (nar .byte ((((q1.toUInt64 >>> ((48 : Int32) &&& 0x3f).toInt64.toUInt64).toInt64).toInt32).toInt8.toInt32)), (nar .byte ((((q1.toUInt64 >>> ((40 : Int32) &&& 0x3f).toInt64.toUInt64).toInt64).toInt32).toInt8.toInt32)), (nar .byte ((((q1.toUInt64 >>> ((32 : Int32) &&& 0x3f).toInt64.toUInt64).toInt64).toInt32).toInt8.toInt32)), (nar .byte ((((q1.toUInt64 >>> ((24 : Int32) &&& 0x3f).toInt64.toUInt64).toInt64).toInt32).toInt8.toInt32)), (nar .byte ((((q1.toUInt64 >>> ((16 : Int32) &&& 0x3f).toInt64.toUInt64).toInt64).toInt32).toInt8.toInt32)), (nar .byte ((((q1.toUInt64 >>> ((8 : Int32) &&& 0x3f).toInt64.toUInt64).toInt64).toInt32).toInt8.toInt32)), (nar .byte ((q1.toInt32).toInt8.toInt32)), (nar .byte (((p2.toUInt32 >>> ((24 : Int32) &&& 31).toUInt32).toInt32).toInt8.toInt32)), (nar .byte (((p2.toUInt32 >>> ((16 : Int32) &&& 31).toUInt32).toInt32).toInt8.toInt32)), (nar .byte (((p2.toUInt32 >>> ((8 : Int32) &&& 31).toUInt32).toInt32).toInt8.toInt32)), (nar .byte (p2.toInt8.toInt32))]) ((2 : Int32)) h155 n0 Z157 V_155 hk118 (own_pr0_148_hver_2 q0 q1 p2 p3 v6_16 ev6_16 hs18) (own_pr0_148_hg0_2 q0 q1 p2 p3 v6_16 ev6_16 hs18) (own_pr0_148_hg1_2 q0 q1 p2 p3 v6_16 ev6_16 hs18) (own_pr0_148_hlen_2 q0 q1 p2 p3 v6_16 ev6_16 hs18)) hZ (hw _ (List.mem_of_getElem? (i := 4) rfl)) (hw _ (List.mem_of_getElem? (i := 3) rfl)) (by decide) (by decide)) (g := (mkF m 148 #[.val (.long q0), .second, .val (.long q1), .second, .val (.int p2), .val (.int p3), .val (.long v6_16), .second, .val (.ref b118), .unset, .unset, .unset, .unset, .unset] [(.ref b118), (.long v6_16)])) rfl (by rw [hml]; rfl) (argsL := [(.long v6_16), (.ref b118)]) (rest := []) (lenOf pd3 rfl) rfl (by show 2 * 0 + _ ≤ _; exact Nat.le_of_eq rfl) (hb hby at_148) (fun _ _ => ⟨rfl, e155, (by decide : 1 + 2 ≤ _), (by decide : 12 + 15 ≤ _)⟩)
    dsimp only [Pt.U, Pt.locs, Pt.cells, Pt.slots] at X158 l158 y158 z158 st158 hQ158
    replace X158 := X158.more (Nat.le_of_eq (y158 : k158 = 3)) (Nat.le_of_eq (z158 : n158 = 27))
    obtain ⟨r158_0, r158_1, rk158_0, rfl, N158q, K158q, P159, P160, P161, P162, P163, P164, P165, P166, P167⟩ := hQ158
    have N168 := own_frapp l158 N156 N158q
    have ne169 : b118 ≠ r158_0 := Nat.ne_of_lt (Nat.lt_of_lt_of_le V_155.lt P159)
    have g170 : n0 ≤ r158_0 := Nat.le_trans Z157 P159
    have ne171 : b118 ≠ r158_1 := Nat.ne_of_lt (Nat.lt_of_lt_of_le V_155.lt P164)
    have g172 : n0 ≤ r158_1 := Nat.le_trans Z157 P164
    have V173 := V_155.keep K158q nin0
    have Z174 : n0 ≤ T158.heap.size := Nat.le_trans Z157 K158q.1
    refine Goes.step (S' := T158.setTop (mkF m 151 #[.val (.long q0), .second, .val (.long q1), .second, .val (.int p2), .val (.int p3), .val (.long v6_16), .second, .val (.ref b118), .unset, .unset, .unset, .unset, .unset] [(.ref r158_0)])) st158 ?_
    refine Goes.step (S' := T158.setTop (mkF m 153 #[.val (.long q0), .second, .val (.long q1), .second, .val (.int p2), .val (.int p3), .val (.long v6_16), .second, .val (.ref b118), .val (.ref r158_0), .unset, .unset, .unset, .unset] [])) (fun _ k => XS.astore X158.here hx rfl (hb hby at_151) rfl rfl (l' := #[.val (.long q0), .second, .val (.long q1), .second, .val (.int p2), .val (.int p3), .val (.long v6_16), .second, .val (.ref b118), .val (.ref r158_0), .unset, .unset, .unset, .unset]) rfl k) ?_
    refine Goes.step (S' := T158.setTop (mkF m 155 #[.val (.long q0), .second, .val (.long q1), .second, .val (.int p2), .val (.int p3), .val (.long v6_16), .second, .val (.ref b118), .val (.ref r158_0), .unset, .unset, .unset, .unset] [(.ref b118)])) (fun _ k => XS.aload X158.here hx rfl (hb hby at_153) rfl rfl k) ?_
    refine Goes.step (S' := T158.setTop (mkF m 156 #[.val (.long q0), .second, .val (.long q1), .second, .val (.int p2), .val (.int p3), .val (.long v6_16), .second, .val (.ref b118), .val (.ref r158_0), .unset, .unset, .unset, .unset] [(.int (0 : Int32)), (.ref b118)])) (fun _ k => XS.iconst X158.here hx rfl (hb hby at_155) k) ?_
    refine Goes.step (S' := T158.setTop (mkF m 158 #[.val (.long q0), .second, .val (.long q1), .second, .val (.int p2), .val (.int p3), .val (.long v6_16), .second, .val (.ref b118), .val (.ref r158_0), .unset, .unset, .unset, .unset] [(.ref b118), (.int (0 : Int32)), (.ref b118)])) (fun _ k => XS.aload X158.here hx rfl (hb hby at_156) rfl rfl k) ?_
    refine Goes.step (S' := T158.setTop (mkF m 159 #[.val (.long q0), .second, .val (.long q1), .second, .val (.int p2), .val (.int p3), .val (.long v6_16), .second, .val (.ref b118), .val (.ref r158_0), .unset, .unset, .unset, .unset] [(.int (0 : Int32)), (.ref b118), (.int (0 : Int32)), (.ref b118)])) (fun _ k => XS.iconst X158.here hx rfl (hb hby at_158) k) ?_
    refine Goes.step (S' := T158.setTop (mkF m 160 #[.val (.long q0), .second, .val (.long q1), .second, .val (.int p2), .val (.int p3), .val (.long v6_16), .second, .val (.ref b118), .val (.ref r158_0), .unset, .unset, .unset, .unset] [(.int (nar .byte ((((q1.toUInt64 >>> ((56 : Int32) &&& 0x3f).toInt64.toUInt64).toInt64).toInt32).toInt8.toInt32))), (.int (0 : Int32)), (.ref b118)])) (fun _ k => own_baload X158 hx hZ rfl V173 ⟨by decide, by decide⟩ (hb hby at_159) _ k) ?_
    refine Goes.step (S' := T158.setTop (mkF m 161 #[.val (.long q0), .second, .val (.long q1), .second, .val (.int p2), .val (.int p3), .val (.long v6_16), .second, .val (.ref b118), .val (.ref r158_0), .unset, .unset, .unset, .unset] [(.int (-1 : Int32)), (.int (nar .byte ((((q1.toUInt64 >>> ((56 : Int32) &&& 0x3f).toInt64.toUInt64).toInt64).toInt32).toInt8.toInt32))), (.int (0 : Int32)), (.ref b118)])) (fun _ k => XS.iconst X158.here hx rfl (hb hby at_160) k) ?_
    refine Goes.step (S' := T158.setTop (mkF m 162 #[.val (.long q0), .second, .val (.long q1), .second, .val (.int p2), .val (.int p3), .val (.long v6_16), .second, .val (.ref b118), .val (.ref r158_0), .unset, .unset, .unset, .unset] [(.int ((nar .byte ((((q1.toUInt64 >>> ((56 : Int32) &&& 0x3f).toInt64.toUInt64).toInt64).toInt32).toInt8.toInt32)) ^^^ (-1 : Int32))), (.int (0 : Int32)), (.ref b118)])) (fun _ k => XS.ixor X158.here hx rfl (hb hby at_161) rfl k) ?_
    refine Goes.step (S' := T158.setTop (mkF m 163 #[.val (.long q0), .second, .val (.long q1), .second, .val (.int p2), .val (.int p3), .val (.long v6_16), .second, .val (.ref b118), .val (.ref r158_0), .unset, .unset, .unset, .unset] [(.int (((nar .byte ((((q1.toUInt64 >>> ((56 : Int32) &&& 0x3f).toInt64.toUInt64).toInt64).toInt32).toInt8.toInt32)) ^^^ (-1 : Int32)).toInt8.toInt32)), (.int (0 : Int32)), (.ref b118)])) (fun _ k => XS.i2b X158.here hx rfl (hb hby at_162) rfl k) ?_
    obtain ⟨T175, h175, X175, e175, W175, V_175, st175⟩ := own_bastore X158 hx hZ rfl V173 ⟨by decide, by decide⟩ (g := (mkF m 163 #[.val (.long q0), .second, .val (.long q1), .second, .val (.int p2), .val (.int p3), .val (.long v6_16), .second, .val (.ref b118), .val (.ref r158_0), .unset, .unset, .unset, .unset] [(.int (((nar .byte ((((q1.toUInt64 >>> ((56 : Int32) &&& 0x3f).toInt64.toUInt64).toInt64).toInt32).toInt8.toInt32)) ^^^ (-1 : Int32)).toInt8.toInt32)), (.int (0 : Int32)), (.ref b118)])) rfl rfl (hb hby at_163)
    replace V_175 : AI Z h175 b118 k118 .byte (12 : Int32) [(nar .byte (((nar .byte ((((q1.toUInt64 >>> ((56 : Int32) &&& 0x3f).toInt64.toUInt64).toInt64).toInt32).toInt8.toInt32)) ^^^ (-1 : Int32)).toInt8.toInt32)), (nar .byte ((((q1.toUInt64 >>> ((48 : Int32) &&& 0x3f).toInt64.toUInt64).toInt64).toInt32).toInt8.toInt32)), (nar .byte ((((q1.toUInt64 >>> ((40 : Int32) &&& 0x3f).toInt64.toUInt64).toInt64).toInt32).toInt8.toInt32)), (nar .byte ((((q1.toUInt64 >>> ((32 : Int32) &&& 0x3f).toInt64.toUInt64).toInt64).toInt32).toInt8.toInt32)), (nar .byte ((((q1.toUInt64 >>> ((24 : Int32) &&& 0x3f).toInt64.toUInt64).toInt64).toInt32).toInt8.toInt32)), (nar .byte ((((q1.toUInt64 >>> ((16 : Int32) &&& 0x3f).toInt64.toUInt64).toInt64).toInt32).toInt8.toInt32)), (nar .byte ((((q1.toUInt64 >>> ((8 : Int32) &&& 0x3f).toInt64.toUInt64).toInt64).toInt32).toInt8.toInt32)), (nar .byte ((q1.toInt32).toInt8.toInt32)), (nar .byte (((p2.toUInt32 >>> ((24 : Int32) &&& 31).toUInt32).toInt32).toInt8.toInt32)), (nar .byte (((p2.toUInt32 >>> ((16 : Int32) &&& 31).toUInt32).toInt32).toInt8.toInt32)), (nar .byte (((p2.toUInt32 >>> ((8 : Int32) &&& 31).toUInt32).toInt32).toInt8.toInt32)), (nar .byte (p2.toInt8.toInt32))] := V_175
    have N176 := Fr.snoc X175 N168 g119
    have Z177 : n0 ≤ h175.size := Nat.le_trans Z174 (Nat.le_of_eq W175.size.symm)
    have V178 := P165.other W175 (Ne.symm ne171)
    have E_179 := P160.wr W175
    have F180 := P161.other W175 (Or.inl (Ne.symm ne169))
    have F181 := P162.other W175 (Or.inl (Ne.symm ne169))
    have F182 := P163.other W175 (Or.inl (Ne.symm ne169))
    refine Goes.step (S' := T175.setTop (mkF m 164 #[.val (.long q0), .second, .val (.long q1), .second, .val (.int p2), .val (.int p3), .val (.long v6_16), .second, .val (.ref b118), .val (.ref r158_0), .unset, .unset, .unset, .unset] [])) st175 ?_
    refine Goes.step (S' := T175.setTop (mkF m 166 #[.val (.long q0), .second, .val (.long q1), .second, .val (.int p2), .val (.int p3), .val (.long v6_16), .second, .val (.ref b118), .val (.ref r158_0), .unset, .unset, .unset, .unset] [(.ref b118)])) (fun _ k => XS.aload X175.here hx rfl (hb hby at_164) rfl rfl k) ?_
    refine Goes.step (S' := T175.setTop (mkF m 168 #[.val (.long q0), .second, .val (.long q1), .second, .val (.int p2), .val (.int p3), .val (.long v6_16), .second, .val (.ref b118), .val (.ref r158_0), .unset, .unset, .unset, .unset] [(.int (11 : Int32)), (.ref b118)])) (fun _ k => XS.bipush X175.here hx rfl (hb hby at_166) k) ?_
    refine Goes.step (S' := T175.setTop (mkF m 170 #[.val (.long q0), .second, .val (.long q1), .second, .val (.int p2), .val (.int p3), .val (.long v6_16), .second, .val (.ref b118), .val (.ref r158_0), .unset, .unset, .unset, .unset] [(.ref b118), (.int (11 : Int32)), (.ref b118)])) (fun _ k => XS.aload X175.here hx rfl (hb hby at_168) rfl rfl k) ?_
    refine Goes.step (S' := T175.setTop (mkF m 172 #[.val (.long q0), .second, .val (.long q1), .second, .val (.int p2), .val (.int p3), .val (.long v6_16), .second, .val (.ref b118), .val (.ref r158_0), .unset, .unset, .unset, .unset] [(.int (11 : Int32)), (.ref b118), (.int (11 : Int32)), (.ref b118)])) (fun _ k => XS.bipush X175.here hx rfl (hb hby at_170) k) ?_
    refine Goes.step (S' := T175.setTop (mkF m 173 #[.val (.long q0), .second, .val (.long q1), .second, .val (.int p2), .val (.int p3), .val (.long v6_16), .second, .val (.ref b118), .val (.ref r158_0), .unset, .unset, .unset, .unset] [(.int (nar .byte (p2.toInt8.toInt32))), (.int (11 : Int32)), (.ref b118)])) (fun _ k => own_baload X175 hx hZ e175 V_175 ⟨by decide, by decide⟩ (hb hby at_172) _ k) ?_
    refine Goes.step (S' := T175.setTop (mkF m 174 #[.val (.long q0), .second, .val (.long q1), .second, .val (.int p2), .val (.int p3), .val (.long v6_16), .second, .val (.ref b118), .val (.ref r158_0), .unset, .unset, .unset, .unset] [(.int (-1 : Int32)), (.int (nar .byte (p2.toInt8.toInt32))), (.int (11 : Int32)), (.ref b118)])) (fun _ k => XS.iconst X175.here hx rfl (hb hby at_173) k) ?_
    refine Goes.step (S' := T175.setTop (mkF m 175 #[.val (.long q0), .second, .val (.long q1), .second, .val (.int p2), .val (.int p3), .val (.long v6_16), .second, .val (.ref b118), .val (.ref r158_0), .unset, .unset, .unset, .unset] [(.int ((nar .byte (p2.toInt8.toInt32)) ^^^ (-1 : Int32))), (.int (11 : Int32)), (.ref b118)])) (fun _ k => XS.ixor X175.here hx rfl (hb hby at_174) rfl k) ?_
    refine Goes.step (S' := T175.setTop (mkF m 176 #[.val (.long q0), .second, .val (.long q1), .second, .val (.int p2), .val (.int p3), .val (.long v6_16), .second, .val (.ref b118), .val (.ref r158_0), .unset, .unset, .unset, .unset] [(.int (((nar .byte (p2.toInt8.toInt32)) ^^^ (-1 : Int32)).toInt8.toInt32)), (.int (11 : Int32)), (.ref b118)])) (fun _ k => XS.i2b X175.here hx rfl (hb hby at_175) rfl k) ?_
    obtain ⟨T183, h183, X183, e183, W183, V_183, st183⟩ := own_bastore X175 hx hZ e175 V_175 ⟨by decide, by decide⟩ (g := (mkF m 176 #[.val (.long q0), .second, .val (.long q1), .second, .val (.int p2), .val (.int p3), .val (.long v6_16), .second, .val (.ref b118), .val (.ref r158_0), .unset, .unset, .unset, .unset] [(.int (((nar .byte (p2.toInt8.toInt32)) ^^^ (-1 : Int32)).toInt8.toInt32)), (.int (11 : Int32)), (.ref b118)])) rfl rfl (hb hby at_176)
    replace V_183 : AI Z h183 b118 k118 .byte (12 : Int32) [(nar .byte (((nar .byte ((((q1.toUInt64 >>> ((56 : Int32) &&& 0x3f).toInt64.toUInt64).toInt64).toInt32).toInt8.toInt32)) ^^^ (-1 : Int32)).toInt8.toInt32)), (nar .byte ((((q1.toUInt64 >>> ((48 : Int32) &&& 0x3f).toInt64.toUInt64).toInt64).toInt32).toInt8.toInt32)), (nar .byte ((((q1.toUInt64 >>> ((40 : Int32) &&& 0x3f).toInt64.toUInt64).toInt64).toInt32).toInt8.toInt32)), (nar .byte ((((q1.toUInt64 >>> ((32 : Int32) &&& 0x3f).toInt64.toUInt64).toInt64).toInt32).toInt8.toInt32)), (nar .byte ((((q1.toUInt64 >>> ((24 : Int32) &&& 0x3f).toInt64.toUInt64).toInt64).toInt32).toInt8.toInt32)), (nar .byte ((((q1.toUInt64 >>> ((16 : Int32) &&& 0x3f).toInt64.toUInt64).toInt64).toInt32).toInt8.toInt32)), (nar .byte ((((q1.toUInt64 >>> ((8 : Int32) &&& 0x3f).toInt64.toUInt64).toInt64).toInt32).toInt8.toInt32)), (nar .byte ((q1.toInt32).toInt8.toInt32)), (nar .byte (((p2.toUInt32 >>> ((24 : Int32) &&& 31).toUInt32).toInt32).toInt8.toInt32)), (nar .byte (((p2.toUInt32 >>> ((16 : Int32) &&& 31).toUInt32).toInt32).toInt8.toInt32)), (nar .byte (((p2.toUInt32 >>> ((8 : Int32) &&& 31).toUInt32).toInt32).toInt8.toInt32)), (nar .byte (((nar .byte (p2.toInt8.toInt32)) ^^^ (-1 : Int32)).toInt8.toInt32))] := V_183
    have N184 := Fr.snoc X183 N176 g119
    have Z185 : n0 ≤ h183.size := Nat.le_trans Z177 (Nat.le_of_eq W183.size.symm)
    have V186 := V178.other W183 (Ne.symm ne171)
    have E_187 := E_179.wr W183
    have F188 := F180.other W183 (Or.inl (Ne.symm ne169))
    have F189 := F181.other W183 (Or.inl (Ne.symm ne169))
    have F190 := F182.other W183 (Or.inl (Ne.symm ne169))
    refine Goes.step (S' := T183.setTop (mkF m 177 #[.val (.long q0), .second, .val (.long q1), .second, .val (.int p2), .val (.int p3), .val (.long v6_16), .second, .val (.ref b118), .val (.ref r158_0), .unset, .unset, .unset, .unset] [])) st183 ?_
    refine Goes.step (S' := T183.setTop (mkF m 179 #[.val (.long q0), .second, .val (.long q1), .second, .val (.int p2), .val (.int p3), .val (.long v6_16), .second, .val (.ref b118), .val (.ref r158_0), .unset, .unset, .unset, .unset] [(.long v6_16)])) (fun _ k => XS.lload X183.here hx rfl (hb hby at_177) rfl  k) ?_
    refine Goes.step (S' := T183.setTop (mkF m 180 #[.val (.long q0), .second, .val (.long q1), .second, .val (.int p2), .val (.int p3), .val (.long v6_16), .second, .val (.ref b118), .val (.ref r158_0), .unset, .unset, .unset, .unset] [(.long (0 : Int64)), (.long v6_16)])) (fun _ k => XS.lconst X183.here hx rfl (hb hby at_179) k) ?_
    refine Goes.step (S' := T183.setTop (mkF m 181 #[.val (.long q0), .second, .val (.long q1), .second, .val (.int p2), .val (.int p3), .val (.long v6_16), .second, .val (.ref b118), .val (.ref r158_0), .unset, .unset, .unset, .unset] [(.int (lcmpW v6_16 (0 : Int64)))])) (fun _ k => XS.lcmp X183.here hx rfl (hb hby at_180) rfl k) ?_
    refine Goes.step (S' := T183.setTop (mkF m 188 #[.val (.long q0), .second, .val (.long q1), .second, .val (.int p2), .val (.int p3), .val (.long v6_16), .second, .val (.ref b118), .val (.ref r158_0), .unset, .unset, .unset, .unset] [])) (fun _ k => XS.ifYes X183.here hx rfl (pc0 := 181) (pc' := 188) rfl (hb hby at_181) rfl ((if0 _ _).trans (feq (mt (lw_eq v6_16 (0 : Int64)).mp hs18)).2) (by decide) (by decide) k) ?_
    refine Goes.step (S' := T183.setTop (mkF m 189 #[.val (.long q0), .second, .val (.long q1), .second, .val (.int p2), .val (.int p3), .val (.long v6_16), .second, .val (.ref b118), .val (.ref r158_0), .unset, .unset, .unset, .unset] [(.int (2 : Int32))])) (fun _ k => XS.iconst X183.here hx rfl (hb hby at_188) k) ?_
    refine Goes.step (S' := T183.setTop (mkF m 191 #[.val (.long q0), .second, .val (.long q1), .second, .val (.int p2), .val (.int p3), .val (.long v6_16), .second, .val (.ref b118), .val (.ref r158_0), .val (.int (2 : Int32)), .unset, .unset, .unset] [])) (fun _ k => XS.istore X183.here hx rfl (hb hby at_189) rfl (l' := #[.val (.long q0), .second, .val (.long q1), .second, .val (.int p2), .val (.int p3), .val (.long v6_16), .second, .val (.ref b118), .val (.ref r158_0), .val (.int (2 : Int32)), .unset, .unset, .unset]) rfl k) ?_
    refine Goes.step (S' := T183.setTop (mkF m 193 #[.val (.long q0), .second, .val (.long q1), .second, .val (.int p2), .val (.int p3), .val (.long v6_16), .second, .val (.ref b118), .val (.ref r158_0), .val (.int (2 : Int32)), .unset, .unset, .unset] [(.long v6_16)])) (fun _ k => XS.lload X183.here hx rfl (hb hby at_191) rfl  k) ?_
    refine Goes.step (S' := T183.setTop (mkF m 194 #[.val (.long q0), .second, .val (.long q1), .second, .val (.int p2), .val (.int p3), .val (.long v6_16), .second, .val (.ref b118), .val (.ref r158_0), .val (.int (2 : Int32)), .unset, .unset, .unset] [(.long (0 : Int64)), (.long v6_16)])) (fun _ k => XS.lconst X183.here hx rfl (hb hby at_193) k) ?_
    refine Goes.step (S' := T183.setTop (mkF m 195 #[.val (.long q0), .second, .val (.long q1), .second, .val (.int p2), .val (.int p3), .val (.long v6_16), .second, .val (.ref b118), .val (.ref r158_0), .val (.int (2 : Int32)), .unset, .unset, .unset] [(.int (lcmpW v6_16 (0 : Int64)))])) (fun _ k => XS.lcmp X183.here hx rfl (hb hby at_194) rfl k) ?_
    refine Goes.step (S' := T183.setTop (mkF m 203 #[.val (.long q0), .second, .val (.long q1), .second, .val (.int p2), .val (.int p3), .val (.long v6_16), .second, .val (.ref b118), .val (.ref r158_0), .val (.int (2 : Int32)), .unset, .unset, .unset] [])) (fun _ k => XS.ifYes X183.here hx rfl (pc0 := 195) (pc' := 203) rfl (hb hby at_195) rfl ((if0 _ _).trans (feq (mt (lw_eq v6_16 (0 : Int64)).mp hs18)).2) (by decide) (by decide) k) ?_
    refine Goes.step (S' := T183.setTop (mkF m 205 #[.val (.long q0), .second, .val (.long q1), .second, .val (.int p2), .val (.int p3), .val (.long v6_16), .second, .val (.ref b118), .val (.ref r158_0), .val (.int (2 : Int32)), .unset, .unset, .unset] [(.int (17 : Int32))])) (fun _ k => XS.bipush X183.here hx rfl (hb hby at_203) k) ?_
    refine Goes.step (S' := T183.setTop (mkF m 207 #[.val (.long q0), .second, .val (.long q1), .second, .val (.int p2), .val (.int p3), .val (.long v6_16), .second, .val (.ref b118), .val (.ref r158_0), .val (.int (2 : Int32)), .val (.int (17 : Int32)), .unset, .unset] [])) (fun _ k => XS.istore X183.here hx rfl (hb hby at_205) rfl (l' := #[.val (.long q0), .second, .val (.long q1), .second, .val (.int p2), .val (.int p3), .val (.long v6_16), .second, .val (.ref b118), .val (.ref r158_0), .val (.int (2 : Int32)), .val (.int (17 : Int32)), .unset, .unset]) rfl k) ?_
    refine Goes.step (S' := T183.setTop (mkF m 209 #[.val (.long q0), .second, .val (.long q1), .second, .val (.int p2), .val (.int p3), .val (.long v6_16), .second, .val (.ref b118), .val (.ref r158_0), .val (.int (2 : Int32)), .val (.int (17 : Int32)), .unset, .unset] [(.ref r158_0)])) (fun _ k => XS.aload X183.here hx rfl (hb hby at_207) rfl rfl k) ?_
    obtain ⟨cq191, kq191, q191a, q191b, q191c⟩ := isOf hZ e183 E_187
    obtain ⟨_, _, ⟨T191, L191, k191, n191⟩, -, X191, ⟨Lc191, hQ191, l191, y191, z191⟩, st191⟩ := X183.virtualBack hx (y := (⟨"com/example/isopod/isopod/RecordHeader", "version", "()I"⟩ : MethodName)) (z := (⟨"com/example/isopod/isopod/RecordHeader", "version", "()I"⟩ : MethodName)) hown (mvT hZ (hw _ (List.mem_of_getElem? (i := 29) rfl))) (mvT hZ (hw _ (List.mem_of_getElem? (i := 30) rfl))) (notFace_of_selects (args := #[]) (mvT hZ (hw _ (List.mem_of_getElem? (i := 32) rfl)))) (mvT hZ (hw _ (List.mem_of_getElem? (i := 32) rfl))) (mvT hZ (hw _ (List.mem_of_getElem? (i := 31) rfl))) (by decide) (backOf (W := 0) (rm4 l Z a0 hw [] r158_0 ((2 : Int32)) v6_16 h183 n0 Z185 E_187 F190 F188) hZ (hw _ (List.mem_of_getElem? (i := 33) rfl)) (hw _ (List.mem_of_getElem? (i := 3) rfl)) (by decide) (by decide)) q191a q191c (g := (mkF m 209 #[.val (.long q0), .second, .val (.long q1), .second, .val (.int p2), .val (.int p3), .val (.long v6_16), .second, .val (.ref b118), .val (.ref r158_0), .val (.int (2 : Int32)), .val (.int (17 : Int32)), .unset, .unset] [(.ref r158_0)])) rfl (by rw [hml]; rfl) (Steps.refl _) (argsL := []) (rest := []) (lenOf pd2 rfl) rfl (by show 2 * 0 + _ ≤ _; exact Nat.le_of_eq rfl) (hb hby at_209) (fun _ _ => ⟨rfl, e183, (by decide : 3 + 0 ≤ _), (by decide : 27 + 0 ≤ _)⟩)
    dsimp only [Pt.U, Pt.locs, Pt.cells, Pt.slots] at X191 l191 y191 z191 st191 hQ191
    replace X191 := X191.more (Nat.le_of_eq (y191 : k191 = 3)) (Nat.le_of_eq (z191 : n191 = 27))
    obtain ⟨rfl, N191q, e191⟩ := hQ191
    have N192 := own_frapp l191 N184 N191q
    refine Goes.step (S' := T191.setTop (mkF m 212 #[.val (.long q0), .second, .val (.long q1), .second, .val (.int p2), .val (.int p3), .val (.long v6_16), .second, .val (.ref b118), .val (.ref r158_0), .val (.int (2 : Int32)), .val (.int (17 : Int32)), .unset, .unset] [(.int (f4 (2 : Int32) v6_16))])) (fun _ k => st191.trans k) ?_
    refine Goes.step (S' := T191.setTop (mkF m 214 #[.val (.long q0), .second, .val (.long q1), .second, .val (.int p2), .val (.int p3), .val (.long v6_16), .second, .val (.ref b118), .val (.ref r158_0), .val (.int (2 : Int32)), .val (.int (17 : Int32)), .unset, .unset] [(.int (2 : Int32)), (.int (f4 (2 : Int32) v6_16))])) (fun _ k => XS.iload X191.here hx rfl (hb hby at_212) rfl  k) ?_
    refine Goes.step (S' := T191.setTop (mkF m 219 #[.val (.long q0), .second, .val (.long q1), .second, .val (.int p2), .val (.int p3), .val (.long v6_16), .second, .val (.ref b118), .val (.ref r158_0), .val (.int (2 : Int32)), .val (.int (17 : Int32)), .unset, .unset] [])) (fun _ k => XS.icmpYes X191.here hx rfl (pc0 := 214) (pc' := 219) rfl (hb hby at_214) rfl (teq (own_hc0_214_2 q0 q1 p2 p3 v6_16 ev6_16 hs18)).1 (by decide) (by decide) k) ?_
    refine Goes.step (S' := T191.setTop (mkF m 221 #[.val (.long q0), .second, .val (.long q1), .second, .val (.int p2), .val (.int p3), .val (.long v6_16), .second, .val (.ref b118), .val (.ref r158_0), .val (.int (2 : Int32)), .val (.int (17 : Int32)), .unset, .unset] [(.ref r158_0)])) (fun _ k => XS.aload X191.here hx rfl (hb hby at_219) rfl rfl k) ?_
    obtain ⟨cq193, kq193, q193a, q193b, q193c⟩ := isOf hZ e191 E_187
    obtain ⟨_, _, ⟨T193, L193, k193, n193⟩, -, X193, ⟨Lc193, hQ193, l193, y193, z193⟩, st193⟩ := X191.virtualBack hx (y := (⟨"com/example/isopod/isopod/RecordHeader", "generation", "()J"⟩ : MethodName)) (z := (⟨"com/example/isopod/isopod/RecordHeader", "generation", "()J"⟩ : MethodName)) hown (mvT hZ (hw _ (List.mem_of_getElem? (i := 34) rfl))) (mvT hZ (hw _ (List.mem_of_getElem? (i := 35) rfl))) (notFace_of_selects (args := #[]) (mvT hZ (hw _ (List.mem_of_getElem? (i := 37) rfl)))) (mvT hZ (hw _ (List.mem_of_getElem? (i := 37) rfl))) (mvT hZ (hw _ (List.mem_of_getElem? (i := 36) rfl))) (by decide) (backOf (W := 0) (rm5 l Z a0 hw [] r158_0 ((2 : Int32)) v6_16 h183 n0 Z185 E_187 F190 F188) hZ (hw _ (List.mem_of_getElem? (i := 38) rfl)) (hw _ (List.mem_of_getElem? (i := 3) rfl)) (by decide) (by decide)) q193a q193c (g := (mkF m 221 #[.val (.long q0), .second, .val (.long q1), .second, .val (.int p2), .val (.int p3), .val (.long v6_16), .second, .val (.ref b118), .val (.ref r158_0), .val (.int (2 : Int32)), .val (.int (17 : Int32)), .unset, .unset] [(.ref r158_0)])) rfl (by rw [hml]; rfl) (Steps.refl _) (argsL := []) (rest := []) (lenOf pd4 rfl) rfl (by show 2 * 0 + _ ≤ _; exact Nat.le_of_eq rfl) (hb hby at_221) (fun _ _ => ⟨rfl, e191, (by decide : 3 + 0 ≤ _), (by decide : 27 + 0 ≤ _)⟩)
    dsimp only [Pt.U, Pt.locs, Pt.cells, Pt.slots] at X193 l193 y193 z193 st193 hQ193
    replace X193 := X193.more (Nat.le_of_eq (y193 : k193 = 3)) (Nat.le_of_eq (z193 : n193 = 27))
    obtain ⟨rfl, N193q, e193⟩ := hQ193
    have N194 := own_frapp l193 N192 N193q
    refine Goes.step (S' := T193.setTop (mkF m 224 #[.val (.long q0), .second, .val (.long q1), .second, .val (.int p2), .val (.int p3), .val (.long v6_16), .second, .val (.ref b118), .val (.ref r158_0), .val (.int (2 : Int32)), .val (.int (17 : Int32)), .unset, .unset] [(.long (f5 (2 : Int32) v6_16))])) (fun _ k => st193.trans k) ?_
    refine Goes.step (S' := T193.setTop (mkF m 226 #[.val (.long q0), .second, .val (.long q1), .second, .val (.int p2), .val (.int p3), .val (.long v6_16), .second, .val (.ref b118), .val (.ref r158_0), .val (.int (2 : Int32)), .val (.int (17 : Int32)), .unset, .unset] [(.long v6_16), (.long (f5 (2 : Int32) v6_16))])) (fun _ k => XS.lload X193.here hx rfl (hb hby at_224) rfl  k) ?_
    refine Goes.step (S' := T193.setTop (mkF m 227 #[.val (.long q0), .second, .val (.long q1), .second, .val (.int p2), .val (.int p3), .val (.long v6_16), .second, .val (.ref b118), .val (.ref r158_0), .val (.int (2 : Int32)), .val (.int (17 : Int32)), .unset, .unset] [(.int (lcmpW (f5 (2 : Int32) v6_16) v6_16))])) (fun _ k => XS.lcmp X193.here hx rfl (hb hby at_226) rfl k) ?_
    refine Goes.step (S' := T193.setTop (mkF m 232 #[.val (.long q0), .second, .val (.long q1), .second, .val (.int p2), .val (.int p3), .val (.long v6_16), .second, .val (.ref b118), .val (.ref r158_0), .val (.int (2 : Int32)), .val (.int (17 : Int32)), .unset, .unset] [])) (fun _ k => XS.ifYes X193.here hx rfl (pc0 := 227) (pc' := 232) rfl (hb hby at_227) rfl ((if0 _ _).trans (teq ((lw_eq (f5 (2 : Int32) v6_16) v6_16).mpr (own_hc0_227_2 q0 q1 p2 p3 v6_16 ev6_16 hs18))).1) (by decide) (by decide) k) ?_
    refine Goes.step (S' := T193.setTop (mkF m 234 #[.val (.long q0), .second, .val (.long q1), .second, .val (.int p2), .val (.int p3), .val (.long v6_16), .second, .val (.ref b118), .val (.ref r158_0), .val (.int (2 : Int32)), .val (.int (17 : Int32)), .unset, .unset] [(.ref r158_0)])) (fun _ k => XS.aload X193.here hx rfl (hb hby at_232) rfl rfl k) ?_
    obtain ⟨cq195, kq195, q195a, q195b, q195c⟩ := isOf hZ e193 E_187
    obtain ⟨_, _, ⟨T195, L195, k195, n195⟩, -, X195, ⟨Lc195, hQ195, l195, y195, z195⟩, st195⟩ := X193.virtualBack hx (y := (⟨"com/example/isopod/isopod/RecordHeader", "length", "()I"⟩ : MethodName)) (z := (⟨"com/example/isopod/isopod/RecordHeader", "length", "()I"⟩ : MethodName)) hown (mvT hZ (hw _ (List.mem_of_getElem? (i := 39) rfl))) (mvT hZ (hw _ (List.mem_of_getElem? (i := 40) rfl))) (notFace_of_selects (args := #[]) (mvT hZ (hw _ (List.mem_of_getElem? (i := 42) rfl)))) (mvT hZ (hw _ (List.mem_of_getElem? (i := 42) rfl))) (mvT hZ (hw _ (List.mem_of_getElem? (i := 41) rfl))) (by decide) (backOf (W := 0) (rm6 l Z a0 hw [] r158_0 ((2 : Int32)) h183 n0 Z185 E_187 F190) hZ (hw _ (List.mem_of_getElem? (i := 43) rfl)) (hw _ (List.mem_of_getElem? (i := 3) rfl)) (by decide) (by decide)) q195a q195c (g := (mkF m 234 #[.val (.long q0), .second, .val (.long q1), .second, .val (.int p2), .val (.int p3), .val (.long v6_16), .second, .val (.ref b118), .val (.ref r158_0), .val (.int (2 : Int32)), .val (.int (17 : Int32)), .unset, .unset] [(.ref r158_0)])) rfl (by rw [hml]; rfl) (Steps.refl _) (argsL := []) (rest := []) (lenOf pd2 rfl) rfl (by show 2 * 0 + _ ≤ _; exact Nat.le_of_eq rfl) (hb hby at_234) (fun _ _ => ⟨rfl, e193, (by decide : 3 + 0 ≤ _), (by decide : 27 + 0 ≤ _)⟩)
    dsimp only [Pt.U, Pt.locs, Pt.cells, Pt.slots] at X195 l195 y195 z195 st195 hQ195
    replace X195 := X195.more (Nat.le_of_eq (y195 : k195 = 3)) (Nat.le_of_eq (z195 : n195 = 27))
    obtain ⟨rfl, N195q, e195⟩ := hQ195
    have N196 := own_frapp l195 N194 N195q
    refine Goes.step (S' := T195.setTop (mkF m 237 #[.val (.long q0), .second, .val (.long q1), .second, .val (.int p2), .val (.int p3), .val (.long v6_16), .second, .val (.ref b118), .val (.ref r158_0), .val (.int (2 : Int32)), .val (.int (17 : Int32)), .unset, .unset] [(.int (f6 (2 : Int32)))])) (fun _ k => st195.trans k) ?_
    refine Goes.step (S' := T195.setTop (mkF m 239 #[.val (.long q0), .second, .val (.long q1), .second, .val (.int p2), .val (.int p3), .val (.long v6_16), .second, .val (.ref b118), .val (.ref r158_0), .val (.int (2 : Int32)), .val (.int (17 : Int32)), .unset, .unset] [(.int (17 : Int32)), (.int (f6 (2 : Int32)))])) (fun _ k => XS.iload X195.here hx rfl (hb hby at_237) rfl  k) ?_
    refine Goes.step (S' := T195.setTop (mkF m 244 #[.val (.long q0), .second, .val (.long q1), .second, .val (.int p2), .val (.int p3), .val (.long v6_16), .second, .val (.ref b118), .val (.ref r158_0), .val (.int (2 : Int32)), .val (.int (17 : Int32)), .unset, .unset] [])) (fun _ k => XS.icmpYes X195.here hx rfl (pc0 := 239) (pc' := 244) rfl (hb hby at_239) rfl (teq (own_hc0_239_2 q0 q1 p2 p3 v6_16 ev6_16 hs18)).1 (by decide) (by decide) k) ?_
    refine Goes.step (S' := T195.setTop (mkF m 246 #[.val (.long q0), .second, .val (.long q1), .second, .val (.int p2), .val (.int p3), .val (.long v6_16), .second, .val (.ref b118), .val (.ref r158_0), .val (.int (2 : Int32)), .val (.int (17 : Int32)), .unset, .unset] [(.ref r158_0)])) (fun _ k => XS.aload X195.here hx rfl (hb hby at_244) rfl rfl k) ?_
    obtain ⟨cq197, kq197, q197a, q197b, q197c⟩ := isOf hZ e195 E_187
    obtain ⟨_, _, ⟨T197, L197, k197, n197⟩, -, X197, ⟨Lc197, hQ197, l197, y197, z197⟩, st197⟩ := X195.virtualBack hx (y := (⟨"com/example/isopod/isopod/RecordHeader", "nonce", "()[B"⟩ : MethodName)) (z := (⟨"com/example/isopod/isopod/RecordHeader", "nonce", "()[B"⟩ : MethodName)) hown (mvT hZ (hw _ (List.mem_of_getElem? (i := 47) rfl))) (mvT hZ (hw _ (List.mem_of_getElem? (i := 48) rfl))) (notFace_of_selects (args := #[]) (mvT hZ (hw _ (List.mem_of_getElem? (i := 50) rfl)))) (mvT hZ (hw _ (List.mem_of_getElem? (i := 50) rfl))) (mvT hZ (hw _ (List.mem_of_getElem? (i := 49) rfl))) (by decide) (backOf (W := 0) (rm8 l Z a0 hw [] r158_0 r158_1 rk158_0 ((12 : Int32)) ([(nar .byte ((((q1.toUInt64 >>> ((56 : Int32) &&& 0x3f).toInt64.toUInt64).toInt64).toInt32).toInt8.toInt32)), (nar .byte ((((q1.toUInt64 >>> ((48 : Int32) &&& 0x3f).toInt64.toUInt64).toInt64).toInt32).toInt8.toInt32)), (nar .byte ((((q1.toUInt64 >>> ((40 : Int32) &&& 0x3f).toInt64.toUInt64).toInt64).toInt32).toInt8.toInt32)), (nar .byte ((((q1.toUInt64 >>> ((32 : Int32) &&& 0x3f).toInt64.toUInt64).toInt64).toInt32).toInt8.toInt32)), (nar .byte ((((q1.toUInt64 >>> ((24 : Int32) &&& 0x3f).toInt64.toUInt64).toInt64).toInt32).toInt8.toInt32)), (nar .byte ((((q1.toUInt64 >>> ((16 : Int32) &&& 0x3f).toInt64.toUInt64).toInt64).toInt32).toInt8.toInt32)), (nar .byte ((((q1.toUInt64 >>> ((8 : Int32) &&& 0x3f).toInt64.toUInt64).toInt64).toInt32).toInt8.toInt32)), (nar .byte ((q1.toInt32).toInt8.toInt32)), (nar .byte (((p2.toUInt32 >>> ((24 : Int32) &&& 31).toUInt32).toInt32).toInt8.toInt32)), (nar .byte (((p2.toUInt32 >>> ((16 : Int32) &&& 31).toUInt32).toInt32).toInt8.toInt32)), (nar .byte (((p2.toUInt32 >>> ((8 : Int32) &&& 31).toUInt32).toInt32).toInt8.toInt32)), (nar .byte (p2.toInt8.toInt32))]) h183 n0 Z185 E_187 F189 V186 P166 (own_pr0_246_hlen_2 q0 q1 p2 p3 v6_16 ev6_16 hs18)) hZ (hw _ (List.mem_of_getElem? (i := 51) rfl)) (hw _ (List.mem_of_getElem? (i := 3) rfl)) (by decide) (by decide)) q197a q197c (g := (mkF m 246 #[.val (.long q0), .second, .val (.long q1), .second, .val (.int p2), .val (.int p3), .val (.long v6_16), .second, .val (.ref b118), .val (.ref r158_0), .val (.int (2 : Int32)), .val (.int (17 : Int32)), .unset, .unset] [(.ref r158_0)])) rfl (by rw [hml]; rfl) (Steps.refl _) (argsL := []) (rest := []) (lenOf pd5 rfl) rfl (by show 2 * 0 + _ ≤ _; exact Nat.le_of_eq rfl) (hb hby at_246) (fun _ _ => ⟨rfl, e195, (by decide : 3 + 1 ≤ _), (by decide : 27 + 12 ≤ _)⟩)
    dsimp only [Pt.U, Pt.locs, Pt.cells, Pt.slots] at X197 l197 y197 z197 st197 hQ197
    replace X197 := X197.more (Nat.le_of_eq (y197 : k197 = 4)) (Nat.le_of_eq (z197 : n197 = 39))
    obtain ⟨r197_0, rk197_0, rfl, N197q, K197q, P198, P199, P200⟩ := hQ197
    have N201 := own_frapp l197 N196 N197q
    have ne202 : b118 ≠ r197_0 := Nat.ne_of_lt (Nat.lt_of_lt_of_le V_183.lt P198)
    have ne203 : r158_1 ≠ r197_0 := Nat.ne_of_lt (Nat.lt_of_lt_of_le V186.lt P198)
    have ne204 : r158_0 ≠ r197_0 := Nat.ne_of_lt (Nat.lt_of_lt_of_le E_187.lt P198)
    have g205 : n0 ≤ r197_0 := Nat.le_trans Z185 P198
    have V206 := V_183.keep K197q nin0
    have V207 := V186.keep K197q nin0
    have E_208 := E_187.keep K197q
    have F209 := F188.keep K197q nin0
    have F210 := F189.keep K197q nin0
    have F211 := F190.keep K197q nin0
    have Z212 : n0 ≤ T197.heap.size := Nat.le_trans Z185 K197q.1
    refine Goes.step (S' := T197.setTop (mkF m 249 #[.val (.long q0), .second, .val (.long q1), .second, .val (.int p2), .val (.int p3), .val (.long v6_16), .second, .val (.ref b118), .val (.ref r158_0), .val (.int (2 : Int32)), .val (.int (17 : Int32)), .unset, .unset] [(.ref r197_0)])) (fun _ k => st197.trans k) ?_
    refine Goes.step (S' := T197.setTop (mkF m 251 #[.val (.long q0), .second, .val (.long q1), .second, .val (.int p2), .val (.int p3), .val (.long v6_16), .second, .val (.ref b118), .val (.ref r158_0), .val (.int (2 : Int32)), .val (.int (17 : Int32)), .val (.ref r197_0), .unset] [])) (fun _ k => XS.astore X197.here hx rfl (hb hby at_249) rfl rfl (l' := #[.val (.long q0), .second, .val (.long q1), .second, .val (.int p2), .val (.int p3), .val (.long v6_16), .second, .val (.ref b118), .val (.ref r158_0), .val (.int (2 : Int32)), .val (.int (17 : Int32)), .val (.ref r197_0), .unset]) rfl k) ?_
    refine Goes.step (S' := T197.setTop (mkF m 253 #[.val (.long q0), .second, .val (.long q1), .second, .val (.int p2), .val (.int p3), .val (.long v6_16), .second, .val (.ref b118), .val (.ref r158_0), .val (.int (2 : Int32)), .val (.int (17 : Int32)), .val (.ref r197_0), .unset] [(.ref r197_0)])) (fun _ k => XS.aload X197.here hx rfl (hb hby at_251) rfl rfl k) ?_
    refine Goes.step (S' := T197.setTop (mkF m 254 #[.val (.long q0), .second, .val (.long q1), .second, .val (.int p2), .val (.int p3), .val (.long v6_16), .second, .val (.ref b118), .val (.ref r158_0), .val (.int (2 : Int32)), .val (.int (17 : Int32)), .val (.ref r197_0), .unset] [(.int (12 : Int32))])) (fun _ k => own_len X197 hx hZ rfl P199 (hb hby at_253) _ k) ?_
    refine Goes.step (S' := T197.setTop (mkF m 256 #[.val (.long q0), .second, .val (.long q1), .second, .val (.int p2), .val (.int p3), .val (.long v6_16), .second, .val (.ref b118), .val (.ref r158_0), .val (.int (2 : Int32)), .val (.int (17 : Int32)), .val (.ref r197_0), .unset] [(.int (12 : Int32)), (.int (12 : Int32))])) (fun _ k => XS.bipush X197.here hx rfl (hb hby at_254) k) ?_
    refine Goes.step (S' := T197.setTop (mkF m 259 #[.val (.long q0), .second, .val (.long q1), .second, .val (.int p2), .val (.int p3), .val (.long v6_16), .second, .val (.ref b118), .val (.ref r158_0), .val (.int (2 : Int32)), .val (.int (17 : Int32)), .val (.ref r197_0), .unset] [])) (fun _ k => XS.icmpNo X197.here hx rfl (hb hby at_256) rfl (teq (rfl : (12 : Int32) = (12 : Int32))).2 k) ?_
    refine Goes.step (S' := T197.setTop (mkF m 261 #[.val (.long q0), .second, .val (.long q1), .second, .val (.int p2), .val (.int p3), .val (.long v6_16), .second, .val (.ref b118), .val (.ref r158_0), .val (.int (2 : Int32)), .val (.int (17 : Int32)), .val (.ref r197_0), .unset] [(.ref r197_0)])) (fun _ k => XS.aload X197.here hx rfl (hb hby at_259) rfl rfl k) ?_
    refine Goes.step (S' := T197.setTop (mkF m 262 #[.val (.long q0), .second, .val (.long q1), .second, .val (.int p2), .val (.int p3), .val (.long v6_16), .second, .val (.ref b118), .val (.ref r158_0), .val (.int (2 : Int32)), .val (.int (17 : Int32)), .val (.ref r197_0), .unset] [(.int (0 : Int32)), (.ref r197_0)])) (fun _ k => XS.iconst X197.here hx rfl (hb hby at_261) k) ?_
    refine Goes.step (S' := T197.setTop (mkF m 263 #[.val (.long q0), .second, .val (.long q1), .second, .val (.int p2), .val (.int p3), .val (.long v6_16), .second, .val (.ref b118), .val (.ref r158_0), .val (.int (2 : Int32)), .val (.int (17 : Int32)), .val (.ref r197_0), .unset] [(.long q1), (.int (0 : Int32)), (.ref r197_0)])) (fun _ k => XS.lloadN X197.here hx rfl (hb hby at_262) rfl  k) ?_
    refine Goes.step (S' := T197.setTop (mkF m 265 #[.val (.long q0), .second, .val (.long q1), .second, .val (.int p2), .val (.int p3), .val (.long v6_16), .second, .val (.ref b118), .val (.ref r158_0), .val (.int (2 : Int32)), .val (.int (17 : Int32)), .val (.ref r197_0), .unset] [(.int p2), (.long q1), (.int (0 : Int32)), (.ref r197_0)])) (fun _ k => XS.iload X197.here hx rfl (hb hby at_263) rfl  k) ?_
    obtain ⟨_, _, ⟨T213, L213, k213, n213⟩, -, X213, ⟨Lc213, hQ213, l213, y213, z213⟩, st213⟩ := Jvm.LawKit.callS X197 hx (y := (⟨"com/example/isopod/isopod/RecordHeaderOfPinLaw", "nonceAt", "([BIJI)Z"⟩ : MethodName)) hown (mvT hZ (hw _ (List.mem_of_getElem? (i := 52) rfl))) (mvT hZ (hw _ (List.mem_of_getElem? (i := 53) rfl))) (mvT hZ (hw _ (List.mem_of_getElem? (i := 54) rfl))) (mvT hZ (hw _ (List.mem_of_getElem? (i := 55) rfl))) (by decide) (backOf (W := 0) (rm9 l Z a0 hw [] r197_0 (0 : Int32) q1 p2 rk197_0 ((12 : Int32)) ([(nar .byte ((((q1.toUInt64 >>> ((56 : Int32) &&& 0x3f).toInt64.toUInt64).toInt64).toInt32).toInt8.toInt32)), (nar .byte ((((q1.toUInt64 >>> ((48 : Int32) &&& 0x3f).toInt64.toUInt64).toInt64).toInt32).toInt8.toInt32)), (nar .byte ((((q1.toUInt64 >>> ((40 : Int32) &&& 0x3f).toInt64.toUInt64).toInt64).toInt32).toInt8.toInt32)), (nar .byte ((((q1.toUInt64 >>> ((32 : Int32) &&& 0x3f).toInt64.toUInt64).toInt64).toInt32).toInt8.toInt32)), (nar .byte ((((q1.toUInt64 >>> ((24 : Int32) &&& 0x3f).toInt64.toUInt64).toInt64).toInt32).toInt8.toInt32)), (nar .byte ((((q1.toUInt64 >>> ((16 : Int32) &&& 0x3f).toInt64.toUInt64).toInt64).toInt32).toInt8.toInt32)), (nar .byte ((((q1.toUInt64 >>> ((8 : Int32) &&& 0x3f).toInt64.toUInt64).toInt64).toInt32).toInt8.toInt32)), (nar .byte ((q1.toInt32).toInt8.toInt32)), (nar .byte (((p2.toUInt32 >>> ((24 : Int32) &&& 31).toUInt32).toInt32).toInt8.toInt32)), (nar .byte (((p2.toUInt32 >>> ((16 : Int32) &&& 31).toUInt32).toInt32).toInt8.toInt32)), (nar .byte (((p2.toUInt32 >>> ((8 : Int32) &&& 31).toUInt32).toInt32).toInt8.toInt32)), (nar .byte (p2.toInt8.toInt32))]) T197.heap n0 Z212 P199 P200 (own_pr0_265_hB_2 q0 q1 p2 p3 v6_16 ev6_16 hs18)) hZ (hw _ (List.mem_of_getElem? (i := 55) rfl)) (hw _ (List.mem_of_getElem? (i := 54) rfl)) (by decide) (by decide)) (g := (mkF m 265 #[.val (.long q0), .second, .val (.long q1), .second, .val (.int p2), .val (.int p3), .val (.long v6_16), .second, .val (.ref b118), .val (.ref r158_0), .val (.int (2 : Int32)), .val (.int (17 : Int32)), .val (.ref r197_0), .unset] [(.int p2), (.long q1), (.int (0 : Int32)), (.ref r197_0)])) rfl (by rw [hml]; rfl) (argsL := [(.ref r197_0), (.int (0 : Int32)), (.long q1), (.int p2)]) (rest := []) (lenOf pd6 rfl) rfl (by show 2 * 0 + _ ≤ _; exact Nat.le_of_eq rfl) (hb hby at_265) (fun _ _ => ⟨rfl, rfl, (by decide : 4 + 0 ≤ _), (by decide : 39 + 0 ≤ _)⟩)
    dsimp only [Pt.U, Pt.locs, Pt.cells, Pt.slots] at X213 l213 y213 z213 st213 hQ213
    replace X213 := X213.more (Nat.le_of_eq (y213 : k213 = 4)) (Nat.le_of_eq (z213 : n213 = 39))
    obtain ⟨rfl, N213q, e213⟩ := hQ213
    have N214 := own_frapp l213 N201 N213q
    refine Goes.step (S' := T213.setTop (mkF m 268 #[.val (.long q0), .second, .val (.long q1), .second, .val (.int p2), .val (.int p3), .val (.long v6_16), .second, .val (.ref b118), .val (.ref r158_0), .val (.int (2 : Int32)), .val (.int (17 : Int32)), .val (.ref r197_0), .unset] [(.int (f9 (12 : Int32) [(nar .byte ((((q1.toUInt64 >>> ((56 : Int32) &&& 0x3f).toInt64.toUInt64).toInt64).toInt32).toInt8.toInt32)), (nar .byte ((((q1.toUInt64 >>> ((48 : Int32) &&& 0x3f).toInt64.toUInt64).toInt64).toInt32).toInt8.toInt32)), (nar .byte ((((q1.toUInt64 >>> ((40 : Int32) &&& 0x3f).toInt64.toUInt64).toInt64).toInt32).toInt8.toInt32)), (nar .byte ((((q1.toUInt64 >>> ((32 : Int32) &&& 0x3f).toInt64.toUInt64).toInt64).toInt32).toInt8.toInt32)), (nar .byte ((((q1.toUInt64 >>> ((24 : Int32) &&& 0x3f).toInt64.toUInt64).toInt64).toInt32).toInt8.toInt32)), (nar .byte ((((q1.toUInt64 >>> ((16 : Int32) &&& 0x3f).toInt64.toUInt64).toInt64).toInt32).toInt8.toInt32)), (nar .byte ((((q1.toUInt64 >>> ((8 : Int32) &&& 0x3f).toInt64.toUInt64).toInt64).toInt32).toInt8.toInt32)), (nar .byte ((q1.toInt32).toInt8.toInt32)), (nar .byte (((p2.toUInt32 >>> ((24 : Int32) &&& 31).toUInt32).toInt32).toInt8.toInt32)), (nar .byte (((p2.toUInt32 >>> ((16 : Int32) &&& 31).toUInt32).toInt32).toInt8.toInt32)), (nar .byte (((p2.toUInt32 >>> ((8 : Int32) &&& 31).toUInt32).toInt32).toInt8.toInt32)), (nar .byte (p2.toInt8.toInt32))] (0 : Int32) q1 p2))])) st213 ?_
    refine Goes.step (S' := T213.setTop (mkF m 273 #[.val (.long q0), .second, .val (.long q1), .second, .val (.int p2), .val (.int p3), .val (.long v6_16), .second, .val (.ref b118), .val (.ref r158_0), .val (.int (2 : Int32)), .val (.int (17 : Int32)), .val (.ref r197_0), .unset] [])) (fun _ k => XS.ifYes X213.here hx rfl (pc0 := 268) (pc' := 273) rfl (hb hby at_268) rfl ((if0 _ _).trans (feq (own_hc0_268_2 q0 q1 p2 p3 v6_16 ev6_16 hs18)).2) (by decide) (by decide) k) ?_
    refine Goes.step (S' := T213.setTop (mkF m 275 #[.val (.long q0), .second, .val (.long q1), .second, .val (.int p2), .val (.int p3), .val (.long v6_16), .second, .val (.ref b118), .val (.ref r158_0), .val (.int (2 : Int32)), .val (.int (17 : Int32)), .val (.ref r197_0), .unset] [(.ref r158_0)])) (fun _ k => XS.aload X213.here hx rfl (hb hby at_273) rfl rfl k) ?_
    obtain ⟨cq215, kq215, q215a, q215b, q215c⟩ := isOf hZ e213 E_208
    obtain ⟨_, _, ⟨T215, L215, k215, n215⟩, -, X215, ⟨Lc215, hQ215, l215, y215, z215⟩, st215⟩ := X213.virtualBack hx (y := (⟨"com/example/isopod/isopod/RecordHeader", "toBytes", "()[B"⟩ : MethodName)) (z := (⟨"com/example/isopod/isopod/RecordHeader", "toBytes", "()[B"⟩ : MethodName)) hown (mvT hZ (hw _ (List.mem_of_getElem? (i := 56) rfl))) (mvT hZ (hw _ (List.mem_of_getElem? (i := 57) rfl))) (notFace_of_selects (args := #[]) (mvT hZ (hw _ (List.mem_of_getElem? (i := 59) rfl)))) (mvT hZ (hw _ (List.mem_of_getElem? (i := 59) rfl))) (mvT hZ (hw _ (List.mem_of_getElem? (i := 58) rfl))) (by decide) (backOf (W := 0) (rm10b l Z a0 hw [] r158_0 v6_16 r158_1 rk158_0 ((12 : Int32)) ([(nar .byte ((((q1.toUInt64 >>> ((56 : Int32) &&& 0x3f).toInt64.toUInt64).toInt64).toInt32).toInt8.toInt32)), (nar .byte ((((q1.toUInt64 >>> ((48 : Int32) &&& 0x3f).toInt64.toUInt64).toInt64).toInt32).toInt8.toInt32)), (nar .byte ((((q1.toUInt64 >>> ((40 : Int32) &&& 0x3f).toInt64.toUInt64).toInt64).toInt32).toInt8.toInt32)), (nar .byte ((((q1.toUInt64 >>> ((32 : Int32) &&& 0x3f).toInt64.toUInt64).toInt64).toInt32).toInt8.toInt32)), (nar .byte ((((q1.toUInt64 >>> ((24 : Int32) &&& 0x3f).toInt64.toUInt64).toInt64).toInt32).toInt8.toInt32)), (nar .byte ((((q1.toUInt64 >>> ((16 : Int32) &&& 0x3f).toInt64.toUInt64).toInt64).toInt32).toInt8.toInt32)), (nar .byte ((((q1.toUInt64 >>> ((8 : Int32) &&& 0x3f).toInt64.toUInt64).toInt64).toInt32).toInt8.toInt32)), (nar .byte ((q1.toInt32).toInt8.toInt32)), (nar .byte (((p2.toUInt32 >>> ((24 : Int32) &&& 31).toUInt32).toInt32).toInt8.toInt32)), (nar .byte (((p2.toUInt32 >>> ((16 : Int32) &&& 31).toUInt32).toInt32).toInt8.toInt32)), (nar .byte (((p2.toUInt32 >>> ((8 : Int32) &&& 31).toUInt32).toInt32).toInt8.toInt32)), (nar .byte (p2.toInt8.toInt32))]) T197.heap n0 Z212 E_208 F211 F209 F210 V207 P166 (own_pr0_275_hlen_2 q0 q1 p2 p3 v6_16 ev6_16 hs18)) hZ (hw _ (List.mem_of_getElem? (i := 60) rfl)) (hw _ (List.mem_of_getElem? (i := 3) rfl)) (by decide) (by decide)) q215a q215c (g := (mkF m 275 #[.val (.long q0), .second, .val (.long q1), .second, .val (.int p2), .val (.int p3), .val (.long v6_16), .second, .val (.ref b118), .val (.ref r158_0), .val (.int (2 : Int32)), .val (.int (17 : Int32)), .val (.ref r197_0), .unset] [(.ref r158_0)])) rfl (by rw [hml]; rfl) (Steps.refl _) (argsL := []) (rest := []) (lenOf pd5 rfl) rfl (by show 2 * 0 + _ ≤ _; exact Nat.le_of_eq rfl) (hb hby at_275) (fun _ _ => ⟨rfl, e213, (by decide : 4 + 1 ≤ _), (by decide : 39 + 17 ≤ _)⟩)
    dsimp only [Pt.U, Pt.locs, Pt.cells, Pt.slots] at X215 l215 y215 z215 st215 hQ215
    replace X215 := X215.more (Nat.le_of_eq (y215 : k215 = 5)) (Nat.le_of_eq (z215 : n215 = 56))
    obtain ⟨r215_0, rk215_0, rfl, N215q, K215q, P216, P217, P218⟩ := hQ215
    have N219 := own_frapp l215 N214 N215q
    have ne220 : b118 ≠ r215_0 := Nat.ne_of_lt (Nat.lt_of_lt_of_le V206.lt P216)
    have ne221 : r158_1 ≠ r215_0 := Nat.ne_of_lt (Nat.lt_of_lt_of_le V207.lt P216)
    have ne222 : r197_0 ≠ r215_0 := Nat.ne_of_lt (Nat.lt_of_lt_of_le P199.lt P216)
    have ne223 : r158_0 ≠ r215_0 := Nat.ne_of_lt (Nat.lt_of_lt_of_le E_208.lt P216)
    have g224 : n0 ≤ r215_0 := Nat.le_trans Z212 P216
    have V225 := V206.keep K215q nin0
    have V226 := V207.keep K215q nin0
    have V227 := P199.keep K215q nin0
    have E_228 := E_208.keep K215q
    have F229 := F209.keep K215q nin0
    have F230 := F210.keep K215q nin0
    have F231 := F211.keep K215q nin0
    have Z232 : n0 ≤ T215.heap.size := Nat.le_trans Z212 K215q.1
    refine Goes.step (S' := T215.setTop (mkF m 278 #[.val (.long q0), .second, .val (.long q1), .second, .val (.int p2), .val (.int p3), .val (.long v6_16), .second, .val (.ref b118), .val (.ref r158_0), .val (.int (2 : Int32)), .val (.int (17 : Int32)), .val (.ref r197_0), .unset] [(.ref r215_0)])) (fun _ k => st215.trans k) ?_
    refine Goes.step (S' := T215.setTop (mkF m 280 #[.val (.long q0), .second, .val (.long q1), .second, .val (.int p2), .val (.int p3), .val (.long v6_16), .second, .val (.ref b118), .val (.ref r158_0), .val (.int (2 : Int32)), .val (.int (17 : Int32)), .val (.ref r197_0), .val (.ref r215_0)] [])) (fun _ k => XS.astore X215.here hx rfl (hb hby at_278) rfl rfl (l' := #[.val (.long q0), .second, .val (.long q1), .second, .val (.int p2), .val (.int p3), .val (.long v6_16), .second, .val (.ref b118), .val (.ref r158_0), .val (.int (2 : Int32)), .val (.int (17 : Int32)), .val (.ref r197_0), .val (.ref r215_0)]) rfl k) ?_
    refine Goes.step (S' := T215.setTop (mkF m 282 #[.val (.long q0), .second, .val (.long q1), .second, .val (.int p2), .val (.int p3), .val (.long v6_16), .second, .val (.ref b118), .val (.ref r158_0), .val (.int (2 : Int32)), .val (.int (17 : Int32)), .val (.ref r197_0), .val (.ref r215_0)] [(.ref r215_0)])) (fun _ k => XS.aload X215.here hx rfl (hb hby at_280) rfl rfl k) ?_
    refine Goes.step (S' := T215.setTop (mkF m 283 #[.val (.long q0), .second, .val (.long q1), .second, .val (.int p2), .val (.int p3), .val (.long v6_16), .second, .val (.ref b118), .val (.ref r158_0), .val (.int (2 : Int32)), .val (.int (17 : Int32)), .val (.ref r197_0), .val (.ref r215_0)] [(.int (17 : Int32))])) (fun _ k => own_len X215 hx hZ rfl P217 (hb hby at_282) _ k) ?_
    refine Goes.step (S' := T215.setTop (mkF m 285 #[.val (.long q0), .second, .val (.long q1), .second, .val (.int p2), .val (.int p3), .val (.long v6_16), .second, .val (.ref b118), .val (.ref r158_0), .val (.int (2 : Int32)), .val (.int (17 : Int32)), .val (.ref r197_0), .val (.ref r215_0)] [(.int (17 : Int32)), (.int (17 : Int32))])) (fun _ k => XS.iload X215.here hx rfl (hb hby at_283) rfl  k) ?_
    refine Goes.step (S' := T215.setTop (mkF m 290 #[.val (.long q0), .second, .val (.long q1), .second, .val (.int p2), .val (.int p3), .val (.long v6_16), .second, .val (.ref b118), .val (.ref r158_0), .val (.int (2 : Int32)), .val (.int (17 : Int32)), .val (.ref r197_0), .val (.ref r215_0)] [])) (fun _ k => XS.icmpYes X215.here hx rfl (pc0 := 285) (pc' := 290) rfl (hb hby at_285) rfl (teq (rfl : (17 : Int32) = (17 : Int32))).1 (by decide) (by decide) k) ?_
    refine Goes.step (S' := T215.setTop (mkF m 292 #[.val (.long q0), .second, .val (.long q1), .second, .val (.int p2), .val (.int p3), .val (.long v6_16), .second, .val (.ref b118), .val (.ref r158_0), .val (.int (2 : Int32)), .val (.int (17 : Int32)), .val (.ref r197_0), .val (.ref r215_0)] [(.ref r215_0)])) (fun _ k => XS.aload X215.here hx rfl (hb hby at_290) rfl rfl k) ?_
    refine Goes.step (S' := T215.setTop (mkF m 293 #[.val (.long q0), .second, .val (.long q1), .second, .val (.int p2), .val (.int p3), .val (.long v6_16), .second, .val (.ref b118), .val (.ref r158_0), .val (.int (2 : Int32)), .val (.int (17 : Int32)), .val (.ref r197_0), .val (.ref r215_0)] [(.int (0 : Int32)), (.ref r215_0)])) (fun _ k => XS.iconst X215.here hx rfl (hb hby at_292) k) ?_
    refine Goes.step (S' := T215.setTop (mkF m 294 #[.val (.long q0), .second, .val (.long q1), .second, .val (.int p2), .val (.int p3), .val (.long v6_16), .second, .val (.ref b118), .val (.ref r158_0), .val (.int (2 : Int32)), .val (.int (17 : Int32)), .val (.ref r197_0), .val (.ref r215_0)] [(.int (nar .byte ((2 : Int32).toInt8.toInt32)))])) (fun _ k => own_baload X215 hx hZ rfl P217 ⟨by decide, by decide⟩ (hb hby at_293) _ k) ?_
    refine Goes.step (S' := T215.setTop (mkF m 296 #[.val (.long q0), .second, .val (.long q1), .second, .val (.int p2), .val (.int p3), .val (.long v6_16), .second, .val (.ref b118), .val (.ref r158_0), .val (.int (2 : Int32)), .val (.int (17 : Int32)), .val (.ref r197_0), .val (.ref r215_0)] [(.int (2 : Int32)), (.int (nar .byte ((2 : Int32).toInt8.toInt32)))])) (fun _ k => XS.iload X215.here hx rfl (hb hby at_294) rfl  k) ?_
    refine Goes.step (S' := T215.setTop (mkF m 297 #[.val (.long q0), .second, .val (.long q1), .second, .val (.int p2), .val (.int p3), .val (.long v6_16), .second, .val (.ref b118), .val (.ref r158_0), .val (.int (2 : Int32)), .val (.int (17 : Int32)), .val (.ref r197_0), .val (.ref r215_0)] [(.int ((2 : Int32).toInt8.toInt32)), (.int (nar .byte ((2 : Int32).toInt8.toInt32)))])) (fun _ k => XS.i2b X215.here hx rfl (hb hby at_296) rfl k) ?_
    refine Goes.step (S' := T215.setTop (mkF m 302 #[.val (.long q0), .second, .val (.long q1), .second, .val (.int p2), .val (.int p3), .val (.long v6_16), .second, .val (.ref b118), .val (.ref r158_0), .val (.int (2 : Int32)), .val (.int (17 : Int32)), .val (.ref r197_0), .val (.ref r215_0)] [])) (fun _ k => XS.icmpYes X215.here hx rfl (pc0 := 297) (pc' := 302) rfl (hb hby at_297) rfl (teq (own_hc0_297_2 q0 q1 p2 p3 v6_16 ev6_16 hs18)).1 (by decide) (by decide) k) ?_
    refine Goes.step (S' := T215.setTop (mkF m 304 #[.val (.long q0), .second, .val (.long q1), .second, .val (.int p2), .val (.int p3), .val (.long v6_16), .second, .val (.ref b118), .val (.ref r158_0), .val (.int (2 : Int32)), .val (.int (17 : Int32)), .val (.ref r197_0), .val (.ref r215_0)] [(.long v6_16)])) (fun _ k => XS.lload X215.here hx rfl (hb hby at_302) rfl  k) ?_
    refine Goes.step (S' := T215.setTop (mkF m 305 #[.val (.long q0), .second, .val (.long q1), .second, .val (.int p2), .val (.int p3), .val (.long v6_16), .second, .val (.ref b118), .val (.ref r158_0), .val (.int (2 : Int32)), .val (.int (17 : Int32)), .val (.ref r197_0), .val (.ref r215_0)] [(.long (0 : Int64)), (.long v6_16)])) (fun _ k => XS.lconst X215.here hx rfl (hb hby at_304) k) ?_
    refine Goes.step (S' := T215.setTop (mkF m 306 #[.val (.long q0), .second, .val (.long q1), .second, .val (.int p2), .val (.int p3), .val (.long v6_16), .second, .val (.ref b118), .val (.ref r158_0), .val (.int (2 : Int32)), .val (.int (17 : Int32)), .val (.ref r197_0), .val (.ref r215_0)] [(.int (lcmpW v6_16 (0 : Int64)))])) (fun _ k => XS.lcmp X215.here hx rfl (hb hby at_305) rfl k) ?_
    refine Goes.step (S' := T215.setTop (mkF m 319 #[.val (.long q0), .second, .val (.long q1), .second, .val (.int p2), .val (.int p3), .val (.long v6_16), .second, .val (.ref b118), .val (.ref r158_0), .val (.int (2 : Int32)), .val (.int (17 : Int32)), .val (.ref r197_0), .val (.ref r215_0)] [])) (fun _ k => XS.ifYes X215.here hx rfl (pc0 := 306) (pc' := 319) rfl (hb hby at_306) rfl ((if0 _ _).trans (feq (mt (lw_eq v6_16 (0 : Int64)).mp hs18)).2) (by decide) (by decide) k) ?_
    refine Goes.step (S' := T215.setTop (mkF m 321 #[.val (.long q0), .second, .val (.long q1), .second, .val (.int p2), .val (.int p3), .val (.long v6_16), .second, .val (.ref b118), .val (.ref r158_0), .val (.int (2 : Int32)), .val (.int (17 : Int32)), .val (.ref r197_0), .val (.ref r215_0)] [(.ref r215_0)])) (fun _ k => XS.aload X215.here hx rfl (hb hby at_319) rfl rfl k) ?_
    refine Goes.step (S' := T215.setTop (mkF m 322 #[.val (.long q0), .second, .val (.long q1), .second, .val (.int p2), .val (.int p3), .val (.long v6_16), .second, .val (.ref b118), .val (.ref r158_0), .val (.int (2 : Int32)), .val (.int (17 : Int32)), .val (.ref r197_0), .val (.ref r215_0)] [(.int (1 : Int32)), (.ref r215_0)])) (fun _ k => XS.iconst X215.here hx rfl (hb hby at_321) k) ?_
    refine Goes.step (S' := T215.setTop (mkF m 323 #[.val (.long q0), .second, .val (.long q1), .second, .val (.int p2), .val (.int p3), .val (.long v6_16), .second, .val (.ref b118), .val (.ref r158_0), .val (.int (2 : Int32)), .val (.int (17 : Int32)), .val (.ref r197_0), .val (.ref r215_0)] [(.int (nar .byte ((((v6_16.toUInt64 >>> ((24 : Int32) &&& 0x3f).toInt64.toUInt64).toInt64).toInt32).toInt8.toInt32)))])) (fun _ k => own_baload X215 hx hZ rfl P217 ⟨by decide, by decide⟩ (hb hby at_322) _ k) ?_
    refine Goes.step (S' := T215.setTop (mkF m 325 #[.val (.long q0), .second, .val (.long q1), .second, .val (.int p2), .val (.int p3), .val (.long v6_16), .second, .val (.ref b118), .val (.ref r158_0), .val (.int (2 : Int32)), .val (.int (17 : Int32)), .val (.ref r197_0), .val (.ref r215_0)] [(.long v6_16), (.int (nar .byte ((((v6_16.toUInt64 >>> ((24 : Int32) &&& 0x3f).toInt64.toUInt64).toInt64).toInt32).toInt8.toInt32)))])) (fun _ k => XS.lload X215.here hx rfl (hb hby at_323) rfl  k) ?_
    refine Goes.step (S' := T215.setTop (mkF m 327 #[.val (.long q0), .second, .val (.long q1), .second, .val (.int p2), .val (.int p3), .val (.long v6_16), .second, .val (.ref b118), .val (.ref r158_0), .val (.int (2 : Int32)), .val (.int (17 : Int32)), .val (.ref r197_0), .val (.ref r215_0)] [(.int (24 : Int32)), (.long v6_16), (.int (nar .byte ((((v6_16.toUInt64 >>> ((24 : Int32) &&& 0x3f).toInt64.toUInt64).toInt64).toInt32).toInt8.toInt32)))])) (fun _ k => XS.bipush X215.here hx rfl (hb hby at_325) k) ?_
    refine Goes.step (S' := T215.setTop (mkF m 328 #[.val (.long q0), .second, .val (.long q1), .second, .val (.int p2), .val (.int p3), .val (.long v6_16), .second, .val (.ref b118), .val (.ref r158_0), .val (.int (2 : Int32)), .val (.int (17 : Int32)), .val (.ref r197_0), .val (.ref r215_0)] [(.long ((v6_16.toUInt64 >>> ((24 : Int32) &&& 0x3f).toInt64.toUInt64).toInt64)), (.int (nar .byte ((((v6_16.toUInt64 >>> ((24 : Int32) &&& 0x3f).toInt64.toUInt64).toInt64).toInt32).toInt8.toInt32)))])) (fun _ k => XS.lushr X215.here hx rfl (hb hby at_327) rfl k) ?_
    refine Goes.step (S' := T215.setTop (mkF m 329 #[.val (.long q0), .second, .val (.long q1), .second, .val (.int p2), .val (.int p3), .val (.long v6_16), .second, .val (.ref b118), .val (.ref r158_0), .val (.int (2 : Int32)), .val (.int (17 : Int32)), .val (.ref r197_0), .val (.ref r215_0)] [(.int (((v6_16.toUInt64 >>> ((24 : Int32) &&& 0x3f).toInt64.toUInt64).toInt64).toInt32)), (.int (nar .byte ((((v6_16.toUInt64 >>> ((24 : Int32) &&& 0x3f).toInt64.toUInt64).toInt64).toInt32).toInt8.toInt32)))])) (fun _ k => XS.l2i X215.here hx rfl (hb hby at_328) rfl k) ?_
    refine Goes.step (S' := T215.setTop (mkF m 330 #[.val (.long q0), .second, .val (.long q1), .second, .val (.int p2), .val (.int p3), .val (.long v6_16), .second, .val (.ref b118), .val (.ref r158_0), .val (.int (2 : Int32)), .val (.int (17 : Int32)), .val (.ref r197_0), .val (.ref r215_0)] [(.int ((((v6_16.toUInt64 >>> ((24 : Int32) &&& 0x3f).toInt64.toUInt64).toInt64).toInt32).toInt8.toInt32)), (.int (nar .byte ((((v6_16.toUInt64 >>> ((24 : Int32) &&& 0x3f).toInt64.toUInt64).toInt64).toInt32).toInt8.toInt32)))])) (fun _ k => XS.i2b X215.here hx rfl (hb hby at_329) rfl k) ?_
    refine Goes.step (S' := T215.setTop (mkF m 333 #[.val (.long q0), .second, .val (.long q1), .second, .val (.int p2), .val (.int p3), .val (.long v6_16), .second, .val (.ref b118), .val (.ref r158_0), .val (.int (2 : Int32)), .val (.int (17 : Int32)), .val (.ref r197_0), .val (.ref r215_0)] [])) (fun _ k => XS.icmpNo X215.here hx rfl (hb hby at_330) rfl (teq (own_hc0_330 q0 q1 p2 p3 v6_16 ev6_16 hs18)).2 k) ?_
    refine Goes.step (S' := T215.setTop (mkF m 335 #[.val (.long q0), .second, .val (.long q1), .second, .val (.int p2), .val (.int p3), .val (.long v6_16), .second, .val (.ref b118), .val (.ref r158_0), .val (.int (2 : Int32)), .val (.int (17 : Int32)), .val (.ref r197_0), .val (.ref r215_0)] [(.ref r215_0)])) (fun _ k => XS.aload X215.here hx rfl (hb hby at_333) rfl rfl k) ?_
    refine Goes.step (S' := T215.setTop (mkF m 336 #[.val (.long q0), .second, .val (.long q1), .second, .val (.int p2), .val (.int p3), .val (.long v6_16), .second, .val (.ref b118), .val (.ref r158_0), .val (.int (2 : Int32)), .val (.int (17 : Int32)), .val (.ref r197_0), .val (.ref r215_0)] [(.int (2 : Int32)), (.ref r215_0)])) (fun _ k => XS.iconst X215.here hx rfl (hb hby at_335) k) ?_
    refine Goes.step (S' := T215.setTop (mkF m 337 #[.val (.long q0), .second, .val (.long q1), .second, .val (.int p2), .val (.int p3), .val (.long v6_16), .second, .val (.ref b118), .val (.ref r158_0), .val (.int (2 : Int32)), .val (.int (17 : Int32)), .val (.ref r197_0), .val (.ref r215_0)] [(.int (nar .byte ((((v6_16.toUInt64 >>> ((16 : Int32) &&& 0x3f).toInt64.toUInt64).toInt64).toInt32).toInt8.toInt32)))])) (fun _ k => own_baload X215 hx hZ rfl P217 ⟨by decide, by decide⟩ (hb hby at_336) _ k) ?_
    refine Goes.step (S' := T215.setTop (mkF m 339 #[.val (.long q0), .second, .val (.long q1), .second, .val (.int p2), .val (.int p3), .val (.long v6_16), .second, .val (.ref b118), .val (.ref r158_0), .val (.int (2 : Int32)), .val (.int (17 : Int32)), .val (.ref r197_0), .val (.ref r215_0)] [(.long v6_16), (.int (nar .byte ((((v6_16.toUInt64 >>> ((16 : Int32) &&& 0x3f).toInt64.toUInt64).toInt64).toInt32).toInt8.toInt32)))])) (fun _ k => XS.lload X215.here hx rfl (hb hby at_337) rfl  k) ?_
    refine Goes.step (S' := T215.setTop (mkF m 341 #[.val (.long q0), .second, .val (.long q1), .second, .val (.int p2), .val (.int p3), .val (.long v6_16), .second, .val (.ref b118), .val (.ref r158_0), .val (.int (2 : Int32)), .val (.int (17 : Int32)), .val (.ref r197_0), .val (.ref r215_0)] [(.int (16 : Int32)), (.long v6_16), (.int (nar .byte ((((v6_16.toUInt64 >>> ((16 : Int32) &&& 0x3f).toInt64.toUInt64).toInt64).toInt32).toInt8.toInt32)))])) (fun _ k => XS.bipush X215.here hx rfl (hb hby at_339) k) ?_
    refine Goes.step (S' := T215.setTop (mkF m 342 #[.val (.long q0), .second, .val (.long q1), .second, .val (.int p2), .val (.int p3), .val (.long v6_16), .second, .val (.ref b118), .val (.ref r158_0), .val (.int (2 : Int32)), .val (.int (17 : Int32)), .val (.ref r197_0), .val (.ref r215_0)] [(.long ((v6_16.toUInt64 >>> ((16 : Int32) &&& 0x3f).toInt64.toUInt64).toInt64)), (.int (nar .byte ((((v6_16.toUInt64 >>> ((16 : Int32) &&& 0x3f).toInt64.toUInt64).toInt64).toInt32).toInt8.toInt32)))])) (fun _ k => XS.lushr X215.here hx rfl (hb hby at_341) rfl k) ?_
    refine Goes.step (S' := T215.setTop (mkF m 343 #[.val (.long q0), .second, .val (.long q1), .second, .val (.int p2), .val (.int p3), .val (.long v6_16), .second, .val (.ref b118), .val (.ref r158_0), .val (.int (2 : Int32)), .val (.int (17 : Int32)), .val (.ref r197_0), .val (.ref r215_0)] [(.int (((v6_16.toUInt64 >>> ((16 : Int32) &&& 0x3f).toInt64.toUInt64).toInt64).toInt32)), (.int (nar .byte ((((v6_16.toUInt64 >>> ((16 : Int32) &&& 0x3f).toInt64.toUInt64).toInt64).toInt32).toInt8.toInt32)))])) (fun _ k => XS.l2i X215.here hx rfl (hb hby at_342) rfl k) ?_
    refine Goes.step (S' := T215.setTop (mkF m 344 #[.val (.long q0), .second, .val (.long q1), .second, .val (.int p2), .val (.int p3), .val (.long v6_16), .second, .val (.ref b118), .val (.ref r158_0), .val (.int (2 : Int32)), .val (.int (17 : Int32)), .val (.ref r197_0), .val (.ref r215_0)] [(.int ((((v6_16.toUInt64 >>> ((16 : Int32) &&& 0x3f).toInt64.toUInt64).toInt64).toInt32).toInt8.toInt32)), (.int (nar .byte ((((v6_16.toUInt64 >>> ((16 : Int32) &&& 0x3f).toInt64.toUInt64).toInt64).toInt32).toInt8.toInt32)))])) (fun _ k => XS.i2b X215.here hx rfl (hb hby at_343) rfl k) ?_
    refine Goes.step (S' := T215.setTop (mkF m 347 #[.val (.long q0), .second, .val (.long q1), .second, .val (.int p2), .val (.int p3), .val (.long v6_16), .second, .val (.ref b118), .val (.ref r158_0), .val (.int (2 : Int32)), .val (.int (17 : Int32)), .val (.ref r197_0), .val (.ref r215_0)] [])) (fun _ k => XS.icmpNo X215.here hx rfl (hb hby at_344) rfl (teq (own_hc0_344 q0 q1 p2 p3 v6_16 ev6_16 hs18)).2 k) ?_
    refine Goes.step (S' := T215.setTop (mkF m 349 #[.val (.long q0), .second, .val (.long q1), .second, .val (.int p2), .val (.int p3), .val (.long v6_16), .second, .val (.ref b118), .val (.ref r158_0), .val (.int (2 : Int32)), .val (.int (17 : Int32)), .val (.ref r197_0), .val (.ref r215_0)] [(.ref r215_0)])) (fun _ k => XS.aload X215.here hx rfl (hb hby at_347) rfl rfl k) ?_
    refine Goes.step (S' := T215.setTop (mkF m 350 #[.val (.long q0), .second, .val (.long q1), .second, .val (.int p2), .val (.int p3), .val (.long v6_16), .second, .val (.ref b118), .val (.ref r158_0), .val (.int (2 : Int32)), .val (.int (17 : Int32)), .val (.ref r197_0), .val (.ref r215_0)] [(.int (3 : Int32)), (.ref r215_0)])) (fun _ k => XS.iconst X215.here hx rfl (hb hby at_349) k) ?_
    refine Goes.step (S' := T215.setTop (mkF m 351 #[.val (.long q0), .second, .val (.long q1), .second, .val (.int p2), .val (.int p3), .val (.long v6_16), .second, .val (.ref b118), .val (.ref r158_0), .val (.int (2 : Int32)), .val (.int (17 : Int32)), .val (.ref r197_0), .val (.ref r215_0)] [(.int (nar .byte ((((v6_16.toUInt64 >>> ((8 : Int32) &&& 0x3f).toInt64.toUInt64).toInt64).toInt32).toInt8.toInt32)))])) (fun _ k => own_baload X215 hx hZ rfl P217 ⟨by decide, by decide⟩ (hb hby at_350) _ k) ?_
    refine Goes.step (S' := T215.setTop (mkF m 353 #[.val (.long q0), .second, .val (.long q1), .second, .val (.int p2), .val (.int p3), .val (.long v6_16), .second, .val (.ref b118), .val (.ref r158_0), .val (.int (2 : Int32)), .val (.int (17 : Int32)), .val (.ref r197_0), .val (.ref r215_0)] [(.long v6_16), (.int (nar .byte ((((v6_16.toUInt64 >>> ((8 : Int32) &&& 0x3f).toInt64.toUInt64).toInt64).toInt32).toInt8.toInt32)))])) (fun _ k => XS.lload X215.here hx rfl (hb hby at_351) rfl  k) ?_
    refine Goes.step (S' := T215.setTop (mkF m 355 #[.val (.long q0), .second, .val (.long q1), .second, .val (.int p2), .val (.int p3), .val (.long v6_16), .second, .val (.ref b118), .val (.ref r158_0), .val (.int (2 : Int32)), .val (.int (17 : Int32)), .val (.ref r197_0), .val (.ref r215_0)] [(.int (8 : Int32)), (.long v6_16), (.int (nar .byte ((((v6_16.toUInt64 >>> ((8 : Int32) &&& 0x3f).toInt64.toUInt64).toInt64).toInt32).toInt8.toInt32)))])) (fun _ k => XS.bipush X215.here hx rfl (hb hby at_353) k) ?_
    refine Goes.step (S' := T215.setTop (mkF m 356 #[.val (.long q0), .second, .val (.long q1), .second, .val (.int p2), .val (.int p3), .val (.long v6_16), .second, .val (.ref b118), .val (.ref r158_0), .val (.int (2 : Int32)), .val (.int (17 : Int32)), .val (.ref r197_0), .val (.ref r215_0)] [(.long ((v6_16.toUInt64 >>> ((8 : Int32) &&& 0x3f).toInt64.toUInt64).toInt64)), (.int (nar .byte ((((v6_16.toUInt64 >>> ((8 : Int32) &&& 0x3f).toInt64.toUInt64).toInt64).toInt32).toInt8.toInt32)))])) (fun _ k => XS.lushr X215.here hx rfl (hb hby at_355) rfl k) ?_
    refine Goes.step (S' := T215.setTop (mkF m 357 #[.val (.long q0), .second, .val (.long q1), .second, .val (.int p2), .val (.int p3), .val (.long v6_16), .second, .val (.ref b118), .val (.ref r158_0), .val (.int (2 : Int32)), .val (.int (17 : Int32)), .val (.ref r197_0), .val (.ref r215_0)] [(.int (((v6_16.toUInt64 >>> ((8 : Int32) &&& 0x3f).toInt64.toUInt64).toInt64).toInt32)), (.int (nar .byte ((((v6_16.toUInt64 >>> ((8 : Int32) &&& 0x3f).toInt64.toUInt64).toInt64).toInt32).toInt8.toInt32)))])) (fun _ k => XS.l2i X215.here hx rfl (hb hby at_356) rfl k) ?_
    refine Goes.step (S' := T215.setTop (mkF m 358 #[.val (.long q0), .second, .val (.long q1), .second, .val (.int p2), .val (.int p3), .val (.long v6_16), .second, .val (.ref b118), .val (.ref r158_0), .val (.int (2 : Int32)), .val (.int (17 : Int32)), .val (.ref r197_0), .val (.ref r215_0)] [(.int ((((v6_16.toUInt64 >>> ((8 : Int32) &&& 0x3f).toInt64.toUInt64).toInt64).toInt32).toInt8.toInt32)), (.int (nar .byte ((((v6_16.toUInt64 >>> ((8 : Int32) &&& 0x3f).toInt64.toUInt64).toInt64).toInt32).toInt8.toInt32)))])) (fun _ k => XS.i2b X215.here hx rfl (hb hby at_357) rfl k) ?_
    refine Goes.step (S' := T215.setTop (mkF m 361 #[.val (.long q0), .second, .val (.long q1), .second, .val (.int p2), .val (.int p3), .val (.long v6_16), .second, .val (.ref b118), .val (.ref r158_0), .val (.int (2 : Int32)), .val (.int (17 : Int32)), .val (.ref r197_0), .val (.ref r215_0)] [])) (fun _ k => XS.icmpNo X215.here hx rfl (hb hby at_358) rfl (teq (own_hc0_358 q0 q1 p2 p3 v6_16 ev6_16 hs18)).2 k) ?_
    refine Goes.step (S' := T215.setTop (mkF m 363 #[.val (.long q0), .second, .val (.long q1), .second, .val (.int p2), .val (.int p3), .val (.long v6_16), .second, .val (.ref b118), .val (.ref r158_0), .val (.int (2 : Int32)), .val (.int (17 : Int32)), .val (.ref r197_0), .val (.ref r215_0)] [(.ref r215_0)])) (fun _ k => XS.aload X215.here hx rfl (hb hby at_361) rfl rfl k) ?_
    refine Goes.step (S' := T215.setTop (mkF m 364 #[.val (.long q0), .second, .val (.long q1), .second, .val (.int p2), .val (.int p3), .val (.long v6_16), .second, .val (.ref b118), .val (.ref r158_0), .val (.int (2 : Int32)), .val (.int (17 : Int32)), .val (.ref r197_0), .val (.ref r215_0)] [(.int (4 : Int32)), (.ref r215_0)])) (fun _ k => XS.iconst X215.here hx rfl (hb hby at_363) k) ?_
    refine Goes.step (S' := T215.setTop (mkF m 365 #[.val (.long q0), .second, .val (.long q1), .second, .val (.int p2), .val (.int p3), .val (.long v6_16), .second, .val (.ref b118), .val (.ref r158_0), .val (.int (2 : Int32)), .val (.int (17 : Int32)), .val (.ref r197_0), .val (.ref r215_0)] [(.int (nar .byte ((((v6_16.toUInt64 >>> ((0 : Int32) &&& 0x3f).toInt64.toUInt64).toInt64).toInt32).toInt8.toInt32)))])) (fun _ k => own_baload X215 hx hZ rfl P217 ⟨by decide, by decide⟩ (hb hby at_364) _ k) ?_
    refine Goes.step (S' := T215.setTop (mkF m 367 #[.val (.long q0), .second, .val (.long q1), .second, .val (.int p2), .val (.int p3), .val (.long v6_16), .second, .val (.ref b118), .val (.ref r158_0), .val (.int (2 : Int32)), .val (.int (17 : Int32)), .val (.ref r197_0), .val (.ref r215_0)] [(.long v6_16), (.int (nar .byte ((((v6_16.toUInt64 >>> ((0 : Int32) &&& 0x3f).toInt64.toUInt64).toInt64).toInt32).toInt8.toInt32)))])) (fun _ k => XS.lload X215.here hx rfl (hb hby at_365) rfl  k) ?_
    refine Goes.step (S' := T215.setTop (mkF m 368 #[.val (.long q0), .second, .val (.long q1), .second, .val (.int p2), .val (.int p3), .val (.long v6_16), .second, .val (.ref b118), .val (.ref r158_0), .val (.int (2 : Int32)), .val (.int (17 : Int32)), .val (.ref r197_0), .val (.ref r215_0)] [(.int (v6_16.toInt32)), (.int (nar .byte ((((v6_16.toUInt64 >>> ((0 : Int32) &&& 0x3f).toInt64.toUInt64).toInt64).toInt32).toInt8.toInt32)))])) (fun _ k => XS.l2i X215.here hx rfl (hb hby at_367) rfl k) ?_
    refine Goes.step (S' := T215.setTop (mkF m 369 #[.val (.long q0), .second, .val (.long q1), .second, .val (.int p2), .val (.int p3), .val (.long v6_16), .second, .val (.ref b118), .val (.ref r158_0), .val (.int (2 : Int32)), .val (.int (17 : Int32)), .val (.ref r197_0), .val (.ref r215_0)] [(.int ((v6_16.toInt32).toInt8.toInt32)), (.int (nar .byte ((((v6_16.toUInt64 >>> ((0 : Int32) &&& 0x3f).toInt64.toUInt64).toInt64).toInt32).toInt8.toInt32)))])) (fun _ k => XS.i2b X215.here hx rfl (hb hby at_368) rfl k) ?_
    refine Goes.step (S' := T215.setTop (mkF m 372 #[.val (.long q0), .second, .val (.long q1), .second, .val (.int p2), .val (.int p3), .val (.long v6_16), .second, .val (.ref b118), .val (.ref r158_0), .val (.int (2 : Int32)), .val (.int (17 : Int32)), .val (.ref r197_0), .val (.ref r215_0)] [])) (fun _ k => XS.icmpNo X215.here hx rfl (hb hby at_369) rfl (teq (own_hc0_369 q0 q1 p2 p3 v6_16 ev6_16 hs18)).2 k) ?_
    refine Goes.step (S' := T215.setTop (mkF m 374 #[.val (.long q0), .second, .val (.long q1), .second, .val (.int p2), .val (.int p3), .val (.long v6_16), .second, .val (.ref b118), .val (.ref r158_0), .val (.int (2 : Int32)), .val (.int (17 : Int32)), .val (.ref r197_0), .val (.ref r215_0)] [(.ref r215_0)])) (fun _ k => XS.aload X215.here hx rfl (hb hby at_372) rfl rfl k) ?_
    refine Goes.step (S' := T215.setTop (mkF m 375 #[.val (.long q0), .second, .val (.long q1), .second, .val (.int p2), .val (.int p3), .val (.long v6_16), .second, .val (.ref b118), .val (.ref r158_0), .val (.int (2 : Int32)), .val (.int (17 : Int32)), .val (.ref r197_0), .val (.ref r215_0)] [(.int (5 : Int32)), (.ref r215_0)])) (fun _ k => XS.iconst X215.here hx rfl (hb hby at_374) k) ?_
    refine Goes.step (S' := T215.setTop (mkF m 376 #[.val (.long q0), .second, .val (.long q1), .second, .val (.int p2), .val (.int p3), .val (.long v6_16), .second, .val (.ref b118), .val (.ref r158_0), .val (.int (2 : Int32)), .val (.int (17 : Int32)), .val (.ref r197_0), .val (.ref r215_0)] [(.long q1), (.int (5 : Int32)), (.ref r215_0)])) (fun _ k => XS.lloadN X215.here hx rfl (hb hby at_375) rfl  k) ?_
    refine Goes.step (S' := T215.setTop (mkF m 378 #[.val (.long q0), .second, .val (.long q1), .second, .val (.int p2), .val (.int p3), .val (.long v6_16), .second, .val (.ref b118), .val (.ref r158_0), .val (.int (2 : Int32)), .val (.int (17 : Int32)), .val (.ref r197_0), .val (.ref r215_0)] [(.int p2), (.long q1), (.int (5 : Int32)), (.ref r215_0)])) (fun _ k => XS.iload X215.here hx rfl (hb hby at_376) rfl  k) ?_
    obtain ⟨_, _, ⟨T233, L233, k233, n233⟩, -, X233, ⟨Lc233, hQ233, l233, y233, z233⟩, st233⟩ := Jvm.LawKit.callS X215 hx (y := (⟨"com/example/isopod/isopod/RecordHeaderOfPinLaw", "nonceAt", "([BIJI)Z"⟩ : MethodName)) hown (mvT hZ (hw _ (List.mem_of_getElem? (i := 52) rfl))) (mvT hZ (hw _ (List.mem_of_getElem? (i := 53) rfl))) (mvT hZ (hw _ (List.mem_of_getElem? (i := 54) rfl))) (mvT hZ (hw _ (List.mem_of_getElem? (i := 55) rfl))) (by decide) (backOf (W := 0) (rm9 l Z a0 hw [] r215_0 (5 : Int32) q1 p2 rk215_0 ((17 : Int32)) ([(nar .byte ((2 : Int32).toInt8.toInt32)), (nar .byte ((((v6_16.toUInt64 >>> ((24 : Int32) &&& 0x3f).toInt64.toUInt64).toInt64).toInt32).toInt8.toInt32)), (nar .byte ((((v6_16.toUInt64 >>> ((16 : Int32) &&& 0x3f).toInt64.toUInt64).toInt64).toInt32).toInt8.toInt32)), (nar .byte ((((v6_16.toUInt64 >>> ((8 : Int32) &&& 0x3f).toInt64.toUInt64).toInt64).toInt32).toInt8.toInt32)), (nar .byte ((((v6_16.toUInt64 >>> ((0 : Int32) &&& 0x3f).toInt64.toUInt64).toInt64).toInt32).toInt8.toInt32)), (nar .byte ((((q1.toUInt64 >>> ((56 : Int32) &&& 0x3f).toInt64.toUInt64).toInt64).toInt32).toInt8.toInt32)), (nar .byte ((((q1.toUInt64 >>> ((48 : Int32) &&& 0x3f).toInt64.toUInt64).toInt64).toInt32).toInt8.toInt32)), (nar .byte ((((q1.toUInt64 >>> ((40 : Int32) &&& 0x3f).toInt64.toUInt64).toInt64).toInt32).toInt8.toInt32)), (nar .byte ((((q1.toUInt64 >>> ((32 : Int32) &&& 0x3f).toInt64.toUInt64).toInt64).toInt32).toInt8.toInt32)), (nar .byte ((((q1.toUInt64 >>> ((24 : Int32) &&& 0x3f).toInt64.toUInt64).toInt64).toInt32).toInt8.toInt32)), (nar .byte ((((q1.toUInt64 >>> ((16 : Int32) &&& 0x3f).toInt64.toUInt64).toInt64).toInt32).toInt8.toInt32)), (nar .byte ((((q1.toUInt64 >>> ((8 : Int32) &&& 0x3f).toInt64.toUInt64).toInt64).toInt32).toInt8.toInt32)), (nar .byte ((q1.toInt32).toInt8.toInt32)), (nar .byte (((p2.toUInt32 >>> ((24 : Int32) &&& 31).toUInt32).toInt32).toInt8.toInt32)), (nar .byte (((p2.toUInt32 >>> ((16 : Int32) &&& 31).toUInt32).toInt32).toInt8.toInt32)), (nar .byte (((p2.toUInt32 >>> ((8 : Int32) &&& 31).toUInt32).toInt32).toInt8.toInt32)), (nar .byte (p2.toInt8.toInt32))]) T215.heap n0 Z232 P217 P218 (own_pr0_378_hB q0 q1 p2 p3 v6_16 ev6_16 hs18)) hZ (hw _ (List.mem_of_getElem? (i := 55) rfl)) (hw _ (List.mem_of_getElem? (i := 54) rfl)) (by decide) (by decide)) (g := (mkF m 378 #[.val (.long q0), .second, .val (.long q1), .second, .val (.int p2), .val (.int p3), .val (.long v6_16), .second, .val (.ref b118), .val (.ref r158_0), .val (.int (2 : Int32)), .val (.int (17 : Int32)), .val (.ref r197_0), .val (.ref r215_0)] [(.int p2), (.long q1), (.int (5 : Int32)), (.ref r215_0)])) rfl (by rw [hml]; rfl) (argsL := [(.ref r215_0), (.int (5 : Int32)), (.long q1), (.int p2)]) (rest := []) (lenOf pd6 rfl) rfl (by show 2 * 0 + _ ≤ _; exact Nat.le_of_eq rfl) (hb hby at_378) (fun _ _ => ⟨rfl, rfl, (by decide : 5 + 0 ≤ _), (by decide : 56 + 0 ≤ _)⟩)
    dsimp only [Pt.U, Pt.locs, Pt.cells, Pt.slots] at X233 l233 y233 z233 st233 hQ233
    replace X233 := X233.more (Nat.le_of_eq (y233 : k233 = 5)) (Nat.le_of_eq (z233 : n233 = 56))
    obtain ⟨rfl, N233q, e233⟩ := hQ233
    have N234 := own_frapp l233 N219 N233q
    refine Goes.step (S' := T233.setTop (mkF m 381 #[.val (.long q0), .second, .val (.long q1), .second, .val (.int p2), .val (.int p3), .val (.long v6_16), .second, .val (.ref b118), .val (.ref r158_0), .val (.int (2 : Int32)), .val (.int (17 : Int32)), .val (.ref r197_0), .val (.ref r215_0)] [(.int (f9 (17 : Int32) [(nar .byte ((2 : Int32).toInt8.toInt32)), (nar .byte ((((v6_16.toUInt64 >>> ((24 : Int32) &&& 0x3f).toInt64.toUInt64).toInt64).toInt32).toInt8.toInt32)), (nar .byte ((((v6_16.toUInt64 >>> ((16 : Int32) &&& 0x3f).toInt64.toUInt64).toInt64).toInt32).toInt8.toInt32)), (nar .byte ((((v6_16.toUInt64 >>> ((8 : Int32) &&& 0x3f).toInt64.toUInt64).toInt64).toInt32).toInt8.toInt32)), (nar .byte ((((v6_16.toUInt64 >>> ((0 : Int32) &&& 0x3f).toInt64.toUInt64).toInt64).toInt32).toInt8.toInt32)), (nar .byte ((((q1.toUInt64 >>> ((56 : Int32) &&& 0x3f).toInt64.toUInt64).toInt64).toInt32).toInt8.toInt32)), (nar .byte ((((q1.toUInt64 >>> ((48 : Int32) &&& 0x3f).toInt64.toUInt64).toInt64).toInt32).toInt8.toInt32)), (nar .byte ((((q1.toUInt64 >>> ((40 : Int32) &&& 0x3f).toInt64.toUInt64).toInt64).toInt32).toInt8.toInt32)), (nar .byte ((((q1.toUInt64 >>> ((32 : Int32) &&& 0x3f).toInt64.toUInt64).toInt64).toInt32).toInt8.toInt32)), (nar .byte ((((q1.toUInt64 >>> ((24 : Int32) &&& 0x3f).toInt64.toUInt64).toInt64).toInt32).toInt8.toInt32)), (nar .byte ((((q1.toUInt64 >>> ((16 : Int32) &&& 0x3f).toInt64.toUInt64).toInt64).toInt32).toInt8.toInt32)), (nar .byte ((((q1.toUInt64 >>> ((8 : Int32) &&& 0x3f).toInt64.toUInt64).toInt64).toInt32).toInt8.toInt32)), (nar .byte ((q1.toInt32).toInt8.toInt32)), (nar .byte (((p2.toUInt32 >>> ((24 : Int32) &&& 31).toUInt32).toInt32).toInt8.toInt32)), (nar .byte (((p2.toUInt32 >>> ((16 : Int32) &&& 31).toUInt32).toInt32).toInt8.toInt32)), (nar .byte (((p2.toUInt32 >>> ((8 : Int32) &&& 31).toUInt32).toInt32).toInt8.toInt32)), (nar .byte (p2.toInt8.toInt32))] (5 : Int32) q1 p2))])) st233 ?_
    refine Goes.step (S' := T233.setTop (mkF m 384 #[.val (.long q0), .second, .val (.long q1), .second, .val (.int p2), .val (.int p3), .val (.long v6_16), .second, .val (.ref b118), .val (.ref r158_0), .val (.int (2 : Int32)), .val (.int (17 : Int32)), .val (.ref r197_0), .val (.ref r215_0)] [])) (fun _ k => XS.ifNo X233.here hx rfl (hb hby at_381) rfl ((if0 _ _).trans (feq (own_hc0_381 q0 q1 p2 p3 v6_16 ev6_16 hs18)).1) k) ?_
    refine Goes.step (S' := T233.setTop (mkF m 385 #[.val (.long q0), .second, .val (.long q1), .second, .val (.int p2), .val (.int p3), .val (.long v6_16), .second, .val (.ref b118), .val (.ref r158_0), .val (.int (2 : Int32)), .val (.int (17 : Int32)), .val (.ref r197_0), .val (.ref r215_0)] [(.int (1 : Int32))])) (fun _ k => XS.iconst X233.here hx rfl (hb hby at_384) k) ?_
    refine Goes.step (S' := T233.setTop (mkF m 389 #[.val (.long q0), .second, .val (.long q1), .second, .val (.int p2), .val (.int p3), .val (.long v6_16), .second, .val (.ref b118), .val (.ref r158_0), .val (.int (2 : Int32)), .val (.int (17 : Int32)), .val (.ref r197_0), .val (.ref r215_0)] [(.int (1 : Int32))])) (fun _ k => XS.goto X233.here hx rfl (pc0 := 385) (pc' := 389) rfl (hb hby at_385) (by decide) (by decide) k) ?_
    refine Goes.retN X233 hx Bd.notSynchronized (t := .boolean) Bd.returns (by simp) (hb hby at_389) (by decide) (by decide) ?_
    exact ⟨rfl, N234⟩
set_option maxRecDepth 65536 in
set_option maxHeartbeats 40000000 in
theorem comes_1 {Post : Tables → Env → Array Value → State → Outcome → State → Prop} (hpost : ∀ tb e args s v u, (limb_1_1.after args s (.returned v) u = true ∧ limb_1_2.after args s (.returned v) u = true ∧ True) → FrameEnd s (.returned v) u (Jvm.fieldLocs frame_1_writes args s ++ Jvm.arrayLocs frame_1_arrays args s ++ Jvm.staticLocs frame_1_statics s) 24 192 → Post tb e args s (.returned v) u) :
    ArmFor flags0 classFile x code maxLocals ret World_1 tables_1 room_1 Calls_1 rest_1 Pre_1 Post := by
  intro l hfl _ _ p e ha hc hk s m args below hf hA hF happ hP
  obtain ⟨hcalls, hrest, hpre⟩ := hP
  obtain ⟨-, -, -, hnamed, -, -, -, hat⟩ := (Spec.applies_iff hf).mp happ
  obtain ⟨hg, hn⟩ := and_e (Cond.before_iff.mp (show (Jvm.Cond.and given_1 narrow_1).before args s = true from hpre))
  obtain ⟨gg1, gg2⟩ := and_e hg
  obtain ⟨gg3, gg4⟩ := and_e gg2
  obtain ⟨gg5, gg6⟩ := and_e gg4
  obtain ⟨gg7, gg8⟩ := and_e gg6
  obtain ⟨w0, w1, w2, w3, rfl⟩ : ∃ w0 w1 w2 w3 : Value, args = #[w0, w1, w2, w3] := by
    have hs : args.size = 4 := by simpa [Cond.value, given_1] using gg1
    obtain ⟨L⟩ := args
    match L, hs with
    | [w0, w1, w2, w3], _ => exact ⟨w0, w1, w2, w3, rfl⟩
  have hw := fun d (hd : d ∈ tables_1) => atoms_spec (ws := Jvm.Cond.code x code maxLocals ret :: tables_1) hat d (List.mem_cons_of_mem _ hd)
  obtain ⟨i0, ei0⟩ := isL_v gg3
  obtain rfl : w0 = (.long i0) := Option.some.inj ei0
  obtain ⟨i1, ei1⟩ := isL_v gg5
  obtain rfl : w1 = (.long i1) := Option.some.inj ei1
  obtain ⟨i2, ei2⟩ := is_v gg7
  obtain rfl : w2 = (.int i2) := Option.some.inj ei2
  obtain ⟨i3, ei3⟩ := is_v gg8
  obtain rfl : w3 = (.int i3) := Option.some.inj ei3
  obtain ⟨n, o, h1, h2, h3, _, L, rfl, ⟨rfl, N⟩, hq⟩ := rm0 l s _ hw tables_1 i0 i1 i2 i3 s.heap s.heap.size (Nat.le_refl _) p e ha hc hk s m _ below hf ((Spec.applies_iff_loose hf).mp happ).1 ⟨rfl, State.Warmed39.refl s, rfl⟩ trivial
  refine ⟨n, _, h1, h2, h3, hpost _ _ _ _ _ _ ⟨Cond.after_iff.mpr rfl, Cond.after_iff.mpr (eq_i res_at (Term.int_eval (1)) rfl), trivial⟩ ⟨hq.1, hq.2.1, (hq.2.2.sift fun y hy => Or.inr (N y hy)).mono (by decide) (by decide)⟩⟩
theorem main_1_1 : Claimed_1_1 := comes_1 fun _ _ _ _ _ _ h hF => ⟨h.1, hF⟩
theorem main_1_2 : Claimed_1_2 := comes_1 fun _ _ _ _ _ _ h hF => ⟨h.2.1, hF⟩
end Jvm.Pilot.@@N@@
namespace Jvm.Pilot.@@N@@
open Jvm Jvm.ClassFile Sem Op Lib Jvm.Free Jvm.Stand Jvm.Pilot.@@N@@.Jvm.D
/-! MADE BY PROGRAM (witnessworld.py) out of the Statement's table words and the real class files: 10 classes; the members and pool entries that the words name. The judged class is class 1, her method 2. -/
namespace start1
open Jvm.ClassFile
def u (s : String) : CpInfo := .utf8 (stringToUtf16 s)
/-- a pool by its gaps: so many unusable entries, then the entry; so many at the end -/
def gap : Nat → List CpInfo → List CpInfo
  | 0, r => r
  | n + 1, r => .unusable :: gap n r
def poolList (es : List (Nat × CpInfo)) (last : Nat) : List CpInfo := es.foldr (fun e r => gap e.1 (e.2 :: r)) (gap last [])
def pool (es : List (Nat × CpInfo)) (last : Nat) : Array CpInfo := ⟨poolList es last⟩
def fileOf (pool : Array CpInfo) (this : Nat) (attrs : Array Attribute := #[]) (ms : Array MethodInfo := #[]) (fl : Nat := 33) (sup : Nat := 0) (ifs : Array Nat := #[]) (fds : Array FieldInfo := #[]) : ClassFile where
  minorVersion := 0
  majorVersion := 65
  constantPool := pool
  accessFlags := fl
  thisClass := this
  superClass := sup
  interfaces := ifs
  fields := fds
  methods := ms
  attributes := attrs
def plain (name : String) (sup : Option ClassId) : Class where
  name := name
  kind := .ordinary
  loader := none
  accessFlags := 33
  super := sup
  interfaces := #[]
  cf := none
  fields := #[]
  methods := #[]
  instanceTypes := #[]
  staticTypes := #[]
  resolved := #[]
  callSites := []
  init := .initialized
  statics := none
  mirror := none

def pool0 : Array CpInfo := pool [(5, u "<init>"), (0, u "()V"), (1, .class_ 10), (1, u "java/lang/Object"), (85, u "clone"), (0, u "()Ljava/lang/Object;")] 26

def k0c0 : Code := { maxStack := 0, maxLocals := 1, code := object_method_1_code, exceptionTable := #[], attributes := #[] }
def k0m0 : Method := { name := "<init>", desc := "()V", sig := { parameters := [], returnType := none }, accessFlags := 1, code := some k0c0 }
def k0m1 : Method := { name := "clone", desc := "()Ljava/lang/Object;", sig := { parameters := [], returnType := some (.object "java/lang/Object") }, accessFlags := 260, code := none }
/-- java/lang/Object -/
def k0 : Class := { plain "java/lang/Object" none with
  accessFlags := 33
  interfaces := #[]
  cf := some (fileOf pool0 8 #[] #[{ accessFlags := 1, nameIndex := 5, descriptorIndex := 6, attributes := #[] }, { accessFlags := 260, nameIndex := 96, descriptorIndex := 97, attributes := #[] }] 33 0 #[] #[])
  fields := #[]
  methods := #[k0m0, k0m1]
  instanceTypes := #[]
  staticTypes := #[]
  resolved := Array.replicate 124 none
  statics := none }

def pool1 : Array CpInfo := pool [(2, .class_ 4), (1, u "java/lang/Object"), (0, u "<init>"), (0, u "()V"), (0, .long 4294967295), (1, .methodref 10 11), (0, .class_ 12), (0, .nameAndType 13 14), (0, u "com/example/isopod/isopod/RecordHeader"), (0, u "of"), (0, u "(J[B)Lcom/example/isopod/isopod/RecordHeader;"), (0, .methodref 10 16), (0, .nameAndType 17 18), (0, u "version"), (0, u "()I"), (0, .methodref 10 20), (0, .nameAndType 21 22), (0, u "generation"), (0, u "()J"), (0, .methodref 10 24), (0, .nameAndType 25 18), (0, u "length"), (0, .methodref 10 27), (0, .nameAndType 28 29), (0, u "nonce"), (0, u "()[B"), (0, .methodref 31 32), (0, .class_ 33), (0, .nameAndType 34 35), (0, u "com/example/isopod/isopod/RecordHeaderOfPinLaw"), (0, u "nonceAt"), (0, u "([BIJI)Z"), (0, .methodref 10 37), (0, .nameAndType 38 29), (0, u "toBytes"), (3, u "law"), (0, u "(JJII)Z")] 4

def k1m0 : Method := { name := "<init>", desc := "()V", sig := { parameters := [], returnType := none }, accessFlags := 2, code := none }
def k1c1 : Code := { maxStack := 4, maxLocals := 5, code := method_2_code, exceptionTable := #[], attributes := #[] }
def k1m1 : Method := { name := "nonceAt", desc := "([BIJI)Z", sig := { parameters := [(.array .byte), .int, .long, .int], returnType := some .boolean }, accessFlags := 10, code := some k1c1 }
def k1c2 : Code := { maxStack := 5, maxLocals := 14, code := code, exceptionTable := #[], attributes := #[] }
def k1m2 : Method := { name := "law", desc := "(JJII)Z", sig := { parameters := [.long, .long, .int, .int], returnType := some .boolean }, accessFlags := 9, code := some k1c2 }
/-- com/example/isopod/isopod/RecordHeaderOfPinLaw -/
def k1 : Class := { plain "com/example/isopod/isopod/RecordHeaderOfPinLaw" (some 0) with
  accessFlags := 49
  interfaces := #[]
  cf := some (fileOf pool1 31 #[] #[{ accessFlags := 2, nameIndex := 5, descriptorIndex := 6, attributes := #[] }, { accessFlags := 10, nameIndex := 34, descriptorIndex := 35, attributes := #[] }, { accessFlags := 9, nameIndex := 42, descriptorIndex := 43, attributes := #[] }] 49 2 #[] #[])
  fields := #[]
  methods := #[k1m0, k1m1, k1m2]
  instanceTypes := #[]
  staticTypes := #[]
  resolved := Array.replicate 48 none
  statics := none }

def pool2 : Array CpInfo := pool [(3, .class_ 4), (0, u "com/example/isopod/isopod/RecordHeader"), (0, .methodref 6 7), (0, .class_ 8), (0, .nameAndType 9 10), (0, u "java/lang/Object"), (0, u "<init>"), (0, u "()V"), (0, .fieldref 3 12), (0, .nameAndType 13 14), (0, u "version"), (0, u "I"), (0, .fieldref 3 16), (0, .nameAndType 17 18), (0, u "generation"), (0, u "J"), (0, .fieldref 3 20), (0, .nameAndType 21 22), (0, u "nonce"), (0, u "[B"), (0, .long 4294967295), (13, .methodref 38 39), (0, .class_ 22), (0, .nameAndType 40 41), (0, u "clone"), (0, u "()Ljava/lang/Object;"), (0, .methodref 3 43), (0, .nameAndType 9 44), (0, u "(IJ[B)V"), (7, .methodref 3 53), (0, .nameAndType 54 55), (0, u "headerLength"), (0, u "(I)I"), (13, .methodref 3 70), (0, .nameAndType 71 72), (0, u "length"), (0, u "()I"), (0, .methodref 74 75), (0, .class_ 76), (0, .nameAndType 77 78), (0, u "java/lang/System"), (0, u "arraycopy"), (0, u "(Ljava/lang/Object;ILjava/lang/Object;II)V"), (0, u "NONCE_LENGTH"), (2, u "TAG_LENGTH"), (1, u "MAX_PLAINTEXT_LENGTH"), (0, u "MAX_GENERATION"), (0, u "VERSION_1"), (1, u "VERSION_2"), (1, u "GENERATION_LENGTH"), (1, u "MAX_RECORD_LENGTH"), (3, u "of"), (0, u "(J[B)Lcom/example/isopod/isopod/RecordHeader;"), (4, u "()J"), (0, u "()[B"), (1, u "toBytes")] 23

def k2c0 : Code := { maxStack := 3, maxLocals := 5, code := prog_12_method_1_code, exceptionTable := #[], attributes := #[] }
def k2m0 : Method := { name := "<init>", desc := "(IJ[B)V", sig := { parameters := [.int, .long, (.array .byte)], returnType := none }, accessFlags := 2, code := some k2c0 }
def k2c1 : Code := { maxStack := 6, maxLocals := 4, code := prog_12_method_2_code, exceptionTable := #[], attributes := #[] }
def k2m1 : Method := { name := "of", desc := "(J[B)Lcom/example/isopod/isopod/RecordHeader;", sig := { parameters := [.long, (.array .byte)], returnType := some (.object "com/example/isopod/isopod/RecordHeader") }, accessFlags := 9, code := some k2c1 }
def k2c2 : Code := { maxStack := 1, maxLocals := 1, code := prog_12_method_4_code, exceptionTable := #[], attributes := #[] }
def k2m2 : Method := { name := "version", desc := "()I", sig := { parameters := [], returnType := some .int }, accessFlags := 1, code := some k2c2 }
def k2c3 : Code := { maxStack := 2, maxLocals := 1, code := prog_12_method_5_code, exceptionTable := #[], attributes := #[] }
def k2m3 : Method := { name := "generation", desc := "()J", sig := { parameters := [], returnType := some .long }, accessFlags := 1, code := some k2c3 }
def k2c4 : Code := { maxStack := 1, maxLocals := 1, code := prog_12_method_6_code, exceptionTable := #[], attributes := #[] }
def k2m4 : Method := { name := "nonce", desc := "()[B", sig := { parameters := [], returnType := some (.array .byte) }, accessFlags := 1, code := some k2c4 }
def k2c5 : Code := { maxStack := 1, maxLocals := 1, code := prog_12_method_7_code, exceptionTable := #[], attributes := #[] }
def k2m5 : Method := { name := "length", desc := "()I", sig := { parameters := [], returnType := some .int }, accessFlags := 1, code := some k2c5 }
def k2c6 : Code := { maxStack := 7, maxLocals := 3, code := prog_12_method_9_code, exceptionTable := #[], attributes := #[] }
def k2m6 : Method := { name := "toBytes", desc := "()[B", sig := { parameters := [], returnType := some (.array .byte) }, accessFlags := 1, code := some k2c6 }
def k2c7 : Code := { maxStack := 2, maxLocals := 2, code := prog_12_method_10_code, exceptionTable := #[], attributes := #[] }
def k2m7 : Method := { name := "headerLength", desc := "(I)I", sig := { parameters := [.int], returnType := some .int }, accessFlags := 10, code := some k2c7 }
/-- com/example/isopod/isopod/RecordHeader -/
def k2 : Class := { plain "com/example/isopod/isopod/RecordHeader" (some 0) with
  accessFlags := 49
  interfaces := #[]
  cf := some (fileOf pool2 3 #[] #[{ accessFlags := 2, nameIndex := 9, descriptorIndex := 44, attributes := #[] }, { accessFlags := 9, nameIndex := 96, descriptorIndex := 97, attributes := #[] }, { accessFlags := 1, nameIndex := 13, descriptorIndex := 72, attributes := #[] }, { accessFlags := 1, nameIndex := 17, descriptorIndex := 102, attributes := #[] }, { accessFlags := 1, nameIndex := 21, descriptorIndex := 103, attributes := #[] }, { accessFlags := 1, nameIndex := 71, descriptorIndex := 72, attributes := #[] }, { accessFlags := 1, nameIndex := 105, descriptorIndex := 103, attributes := #[] }, { accessFlags := 10, nameIndex := 54, descriptorIndex := 55, attributes := #[] }] 49 6 #[] #[{ accessFlags := 25, nameIndex := 79, descriptorIndex := 14, attributes := #[] }, { accessFlags := 25, nameIndex := 82, descriptorIndex := 14, attributes := #[] }, { accessFlags := 25, nameIndex := 84, descriptorIndex := 14, attributes := #[] }, { accessFlags := 25, nameIndex := 85, descriptorIndex := 18, attributes := #[] }, { accessFlags := 26, nameIndex := 86, descriptorIndex := 14, attributes := #[] }, { accessFlags := 26, nameIndex := 88, descriptorIndex := 14, attributes := #[] }, { accessFlags := 26, nameIndex := 90, descriptorIndex := 14, attributes := #[] }, { accessFlags := 25, nameIndex := 92, descriptorIndex := 14, attributes := #[] }, { accessFlags := 18, nameIndex := 13, descriptorIndex := 14, attributes := #[] }, { accessFlags := 18, nameIndex := 17, descriptorIndex := 18, attributes := #[] }, { accessFlags := 18, nameIndex := 21, descriptorIndex := 22, attributes := #[] }])
  fields := #[{ name := "NONCE_LENGTH", type := .int, accessFlags := 25, slot := 0, constantValue := 0 }, { name := "TAG_LENGTH", type := .int, accessFlags := 25, slot := 1, constantValue := 0 }, { name := "MAX_PLAINTEXT_LENGTH", type := .int, accessFlags := 25, slot := 2, constantValue := 0 }, { name := "MAX_GENERATION", type := .long, accessFlags := 25, slot := 3, constantValue := 0 }, { name := "VERSION_1", type := .int, accessFlags := 26, slot := 4, constantValue := 0 }, { name := "VERSION_2", type := .int, accessFlags := 26, slot := 5, constantValue := 0 }, { name := "GENERATION_LENGTH", type := .int, accessFlags := 26, slot := 6, constantValue := 0 }, { name := "MAX_RECORD_LENGTH", type := .int, accessFlags := 25, slot := 7, constantValue := 0 }, { name := "version", type := .int, accessFlags := 18, slot := 0, constantValue := 0 }, { name := "generation", type := .long, accessFlags := 18, slot := 1, constantValue := 0 }, { name := "nonce", type := (.array .byte), accessFlags := 18, slot := 2, constantValue := 0 }]
  methods := #[k2m0, k2m1, k2m2, k2m3, k2m4, k2m5, k2m6, k2m7]
  instanceTypes := #[.int, .long, (.array .byte)]
  staticTypes := #[.int, .int, .int, .long, .int, .int, .int, .int]
  resolved := Array.replicate 129 none
  statics := none }

def pool3 : Array CpInfo := pool [(1, .class_ 2), (0, u "java/lang/Cloneable"), (0, .class_ 4), (0, u "java/lang/Object")] 2

/-- java/lang/Cloneable -/
def k3 : Class := { plain "java/lang/Cloneable" (some 0) with
  accessFlags := 1537
  interfaces := #[]
  cf := some (fileOf pool3 1 #[] #[] 1537 3 #[] #[])
  fields := #[]
  methods := #[]
  instanceTypes := #[]
  staticTypes := #[]
  resolved := Array.replicate 7 none
  statics := none }

def pool4 : Array CpInfo := pool [(2, .class_ 4), (1, u "java/lang/Object"), (0, u "<init>"), (0, u "()V"), (1, .class_ 10), (1, u "java/lang/System"), (0, u "allowSecurityManager"), (0, u "I"), (16, u "cons"), (0, u "Ljava/io/Console;"), (77, .class_ 110), (1, u "java/lang/System$CallersHolder"), (43, u "initialErrStream"), (0, u "Ljava/io/PrintStream;"), (19, u "security"), (0, u "Ljava/lang/SecurityManager;"), (31, .class_ 209), (0, u "java/lang/System$1"), (7, u "props"), (0, u "Ljava/util/Properties;"), (2, u "lineSeparator"), (0, u "Ljava/lang/String;"), (96, .class_ 321), (1, u "java/lang/System$LoggerFinder"), (5, .class_ 328), (0, u "java/lang/System$Logger"), (67, u "err"), (2, u "out"), (91, u "notSupportedJnuEncoding"), (15, u "in"), (17, u "initialIn"), (0, u "Ljava/io/InputStream;"), (35, u "bootLayer"), (0, u "Ljava/lang/ModuleLayer;"), (99, .class_ 664), (0, u "java/lang/System$2"), (9, u "NEVER"), (2, u "MAYBE"), (49, u "arraycopy"), (0, u "(Ljava/lang/Object;ILjava/lang/Object;II)V"), (72, .class_ 802), (0, u "java/lang/System$Logger$Level")] 31

def k4m0 : Method := { name := "<init>", desc := "()V", sig := { parameters := [], returnType := none }, accessFlags := 2, code := none }
def k4m1 : Method := { name := "arraycopy", desc := "(Ljava/lang/Object;ILjava/lang/Object;II)V", sig := { parameters := [(.object "java/lang/Object"), .int, (.object "java/lang/Object"), .int, .int], returnType := none }, accessFlags := 265, code := none }
/-- java/lang/System -/
def k4 : Class := { plain "java/lang/System" (some 0) with
  accessFlags := 49
  interfaces := #[]
  cf := some (fileOf pool4 8 #[.nestMembers #[319, 327, 801, 108, 663, 208]] #[{ accessFlags := 2, nameIndex := 5, descriptorIndex := 6, attributes := #[] }, { accessFlags := 265, nameIndex := 727, descriptorIndex := 728, attributes := #[] }] 49 2 #[] #[{ accessFlags := 25, nameIndex := 507, descriptorIndex := 526, attributes := #[] }, { accessFlags := 25, nameIndex := 399, descriptorIndex := 155, attributes := #[] }, { accessFlags := 25, nameIndex := 396, descriptorIndex := 155, attributes := #[] }, { accessFlags := 10, nameIndex := 525, descriptorIndex := 526, attributes := #[] }, { accessFlags := 26, nameIndex := 674, descriptorIndex := 12, attributes := #[] }, { accessFlags := 26, nameIndex := 677, descriptorIndex := 12, attributes := #[] }, { accessFlags := 10, nameIndex := 11, descriptorIndex := 12, attributes := #[] }, { accessFlags := 74, nameIndex := 175, descriptorIndex := 176, attributes := #[] }, { accessFlags := 10, nameIndex := 491, descriptorIndex := 222, attributes := #[] }, { accessFlags := 74, nameIndex := 29, descriptorIndex := 30, attributes := #[] }, { accessFlags := 74, nameIndex := 154, descriptorIndex := 155, attributes := #[] }, { accessFlags := 10, nameIndex := 217, descriptorIndex := 218, attributes := #[] }, { accessFlags := 10, nameIndex := 221, descriptorIndex := 222, attributes := #[] }, { accessFlags := 8, nameIndex := 562, descriptorIndex := 563, attributes := #[] }])
  fields := #[{ name := "in", type := (.object "java/io/InputStream"), accessFlags := 25, slot := 0, constantValue := 0 }, { name := "out", type := (.object "java/io/PrintStream"), accessFlags := 25, slot := 1, constantValue := 0 }, { name := "err", type := (.object "java/io/PrintStream"), accessFlags := 25, slot := 2, constantValue := 0 }, { name := "initialIn", type := (.object "java/io/InputStream"), accessFlags := 10, slot := 3, constantValue := 0 }, { name := "NEVER", type := .int, accessFlags := 26, slot := 4, constantValue := 0 }, { name := "MAYBE", type := .int, accessFlags := 26, slot := 5, constantValue := 0 }, { name := "allowSecurityManager", type := .int, accessFlags := 10, slot := 6, constantValue := 0 }, { name := "security", type := (.object "java/lang/SecurityManager"), accessFlags := 74, slot := 7, constantValue := 0 }, { name := "notSupportedJnuEncoding", type := (.object "java/lang/String"), accessFlags := 10, slot := 8, constantValue := 0 }, { name := "cons", type := (.object "java/io/Console"), accessFlags := 74, slot := 9, constantValue := 0 }, { name := "initialErrStream", type := (.object "java/io/PrintStream"), accessFlags := 74, slot := 10, constantValue := 0 }, { name := "props", type := (.object "java/util/Properties"), accessFlags := 10, slot := 11, constantValue := 0 }, { name := "lineSeparator", type := (.object "java/lang/String"), accessFlags := 10, slot := 12, constantValue := 0 }, { name := "bootLayer", type := (.object "java/lang/ModuleLayer"), accessFlags := 8, slot := 13, constantValue := 0 }]
  methods := #[k4m0, k4m1]
  instanceTypes := #[]
  staticTypes := #[(.object "java/io/InputStream"), (.object "java/io/PrintStream"), (.object "java/io/PrintStream"), (.object "java/io/InputStream"), .int, .int, .int, (.object "java/lang/SecurityManager"), (.object "java/lang/String"), (.object "java/io/Console"), (.object "java/io/PrintStream"), (.object "java/util/Properties"), (.object "java/lang/String"), (.object "java/lang/ModuleLayer")]
  resolved := Array.replicate 834 none
  statics := none }

def pool5 : Array CpInfo := pool [(1, u "java/io/Serializable"), (0, .class_ 1), (0, u "java/lang/Object"), (0, .class_ 3)] 3

/-- java/io/Serializable -/
def k5 : Class := { plain "java/io/Serializable" (some 0) with
  accessFlags := 1537
  interfaces := #[]
  cf := some (fileOf pool5 2 #[] #[] 1537 4 #[] #[])
  fields := #[]
  methods := #[]
  instanceTypes := #[]
  staticTypes := #[]
  resolved := Array.replicate 8 none
  statics := none }

/-- the primitive byte -/
def k6 : Class := { plain "byte" none with kind := .primitive 'B', accessFlags := 0x411 }
/-- [B -/
def k7 : Class := { plain "[B" (some 0) with kind := .array 6 .byte, interfaces := #[3, 5], accessFlags := 1041 }

/-- the primitive int -/
def k8 : Class := { plain "int" none with kind := .primitive 'I', accessFlags := 0x411 }
/-- [I -/
def k9 : Class := { plain "[I" (some 0) with kind := .array 8 .int, interfaces := #[3, 5], accessFlags := 1041 }

def heap : Heap := #[]
def classes : Array Class := #[k0, k1, k2, k3, k4, k5, k6, k7, k8, k9]
def interned : List (Array UInt16 × Addr) := []
def slotsUsed : Nat := 0
def theMethod : MethodId := ⟨1, 2⟩
def args0 : Array Value := #[.long 5, .long 5, .int 5, .int 5]
def aboutOver (below : List Frame) : State where
  vm := { classes := classes, interned := interned.toArray }
  heap := heap
  slotsUsed := slotsUsed
  threads := #[{ frames := .invoking theMethod args0 :: below }]
def below0 : List Frame := [.native { method := ⟨0, 0⟩, args := #[] }]
def about1 : State := aboutOver below0
def p0 : Program := .bare "" "" ""
def e0 : Env := launch0.env 0 0 0
theorem w_frames : about1.frames = Frame.invoking theMethod args0 :: below0 := rfl
set_option maxRecDepth 65536 in
theorem w_args : argsFit about1.vm theMethod args0 = true := by decide +kernel
set_option maxRecDepth 65536 in
theorem w_heap : heapFits about1 = true := by decide +kernel
set_option maxRecDepth 65536 in
theorem w_runnable : about1.curStatus? = some .runnable := by decide +kernel
set_option maxRecDepth 65536 in
theorem w_alone : about1.alone = true := by decide +kernel
set_option maxRecDepth 65536 in
theorem w_named : about1.methodNamed? x = some theMethod := by decide +kernel
set_option maxRecDepth 65536 in
theorem w_hears : about1.hears theMethod below0 = true := by decide +kernel
set_option maxRecDepth 65536 in
theorem w_ripe : about1.ripe theMethod args0 below0 = true := by decide +kernel
theorem w_running : about1.status = .running := rfl
set_option maxRecDepth 65536 in
theorem w_room : about1.hasRoom e0.platform room_1 = true :=
  launch0.hasRoom_least _ room_1 (by decide +kernel) (by decide +kernel) (by decide +kernel) (by decide +kernel) (by decide +kernel) (by decide +kernel)
theorem allAtoms_all (ts : List Jvm.Cond) (a : Array Jvm.Value) (st : Jvm.State) : (allAtoms ts).before a st = ts.all (fun c => c.before a st) := by
  induction ts with
  | nil => rfl
  | cons c t ih =>
    show (Jvm.Cond.and c (allAtoms t)).before a st = _
    rw [Jvm.Cond.before_and, ih, List.all_cons]
def words1 : List Jvm.Cond := Jvm.Cond.code x code maxLocals ret :: tables_1
/-- a 'code' word, met by the world's own term for the bytes: nothing is compared byte by byte -/
theorem code_word {y : MethodName} {bytes : ByteArray} {mx : Nat} {rt : Option FieldType} {a : Array Value} {s : State} {m : MethodId} {meth : Method} {c : Code} (h1 : s.methodNamed? y = some m) (h2 : s.vm.method? m = some meth) (h3 : meth.code = some c) (h4 : c.code = bytes)
    (h5 : (c.maxLocals == mx && c.exceptionTable.isEmpty && decide (c.maxStack ≤ mostOperands) && decide (meth.sig.returnType = rt) && !meth.locks && decide (parseMethodDescriptor y.desc = some meth.sig)) = true) : (Jvm.Cond.code y bytes mx rt).before a s = true := by
  simp only [Bool.and_eq_true, beq_iff_eq, Bool.not_eq_true', decide_eq_true_eq] at h5
  obtain ⟨⟨⟨⟨⟨g1, g2⟩, g3⟩, g4⟩, g5⟩, g6⟩ := h5
  simp [Cond.before, Cond.holds, Cond.value, h1, h2, h3, h4, g1, g2, g3, g4, g5, g6]
def isCode : Jvm.Cond → Bool
  | .code _ _ _ _ => true
  | _ => false
theorem all_split {L : List Jvm.Cond} {P : Jvm.Cond → Bool} (h1 : L.all (fun c => isCode c || P c) = true) (h2 : ∀ c ∈ L.filter isCode, P c = true) : L.all P = true := by
  refine List.all_eq_true.mpr fun c hc => ?_
  have h := List.all_eq_true.mp h1 c hc
  rcases Bool.eq_false_or_eq_true (isCode c) with hi | hi
  · exact h2 c (List.mem_filter.mpr ⟨hc, hi⟩)
  · simpa [hi] using h
set_option maxRecDepth 65536 in
theorem w_c0 : (Jvm.Cond.code x code maxLocals ret).before args0 about1 = true := code_word (m := ⟨1, 2⟩) (meth := k1m2) (c := k1c2) (by decide +kernel) rfl rfl rfl (by decide +kernel)
set_option maxRecDepth 65536 in
theorem w_c1 : (Jvm.Cond.code ({ cls := "com/example/isopod/isopod/RecordHeader", name := "of", desc := "(J[B)Lcom/example/isopod/isopod/RecordHeader;" } : Jvm.MethodName) prog_12_method_2_code (4 : Nat) (Option.some (Jvm.ClassFile.FieldType.object "com/example/isopod/isopod/RecordHeader"))).before args0 about1 = true := code_word (m := ⟨2, 1⟩) (meth := k2m1) (c := k2c1) (by decide +kernel) rfl rfl rfl (by decide +kernel)
set_option maxRecDepth 65536 in
theorem w_c2 : (Jvm.Cond.code ({ cls := "com/example/isopod/isopod/RecordHeader", name := "<init>", desc := "(IJ[B)V" } : Jvm.MethodName) prog_12_method_1_code (5 : Nat) (Option.none : Option Jvm.ClassFile.FieldType)).before args0 about1 = true := code_word (m := ⟨2, 0⟩) (meth := k2m0) (c := k2c0) (by decide +kernel) rfl rfl rfl (by decide +kernel)
set_option maxRecDepth 65536 in
theorem w_c3 : (Jvm.Cond.code ({ cls := "java/lang/Object", name := "<init>", desc := "()V" } : Jvm.MethodName) object_method_1_code (1 : Nat) (Option.none : Option Jvm.ClassFile.FieldType)).before args0 about1 = true := code_word (m := ⟨0, 0⟩) (meth := k0m0) (c := k0c0) (by decide +kernel) rfl rfl rfl (by decide +kernel)
set_option maxRecDepth 65536 in
theorem w_c4 : (Jvm.Cond.code ({ cls := "com/example/isopod/isopod/RecordHeader", name := "version", desc := "()I" } : Jvm.MethodName) prog_12_method_4_code (1 : Nat) (Option.some Jvm.ClassFile.FieldType.int)).before args0 about1 = true := code_word (m := ⟨2, 2⟩) (meth := k2m2) (c := k2c2) (by decide +kernel) rfl rfl rfl (by decide +kernel)
set_option maxRecDepth 65536 in
theorem w_c5 : (Jvm.Cond.code ({ cls := "com/example/isopod/isopod/RecordHeader", name := "generation", desc := "()J" } : Jvm.MethodName) prog_12_method_5_code (1 : Nat) (Option.some Jvm.ClassFile.FieldType.long)).before args0 about1 = true := code_word (m := ⟨2, 3⟩) (meth := k2m3) (c := k2c3) (by decide +kernel) rfl rfl rfl (by decide +kernel)
set_option maxRecDepth 65536 in
theorem w_c6 : (Jvm.Cond.code ({ cls := "com/example/isopod/isopod/RecordHeader", name := "length", desc := "()I" } : Jvm.MethodName) prog_12_method_7_code (1 : Nat) (Option.some Jvm.ClassFile.FieldType.int)).before args0 about1 = true := code_word (m := ⟨2, 5⟩) (meth := k2m5) (c := k2c5) (by decide +kernel) rfl rfl rfl (by decide +kernel)
set_option maxRecDepth 65536 in
theorem w_c7 : (Jvm.Cond.code ({ cls := "com/example/isopod/isopod/RecordHeader", name := "headerLength", desc := "(I)I" } : Jvm.MethodName) prog_12_method_10_code (2 : Nat) (Option.some Jvm.ClassFile.FieldType.int)).before args0 about1 = true := code_word (m := ⟨2, 7⟩) (meth := k2m7) (c := k2c7) (by decide +kernel) rfl rfl rfl (by decide +kernel)
set_option maxRecDepth 65536 in
theorem w_c8 : (Jvm.Cond.code ({ cls := "com/example/isopod/isopod/RecordHeader", name := "nonce", desc := "()[B" } : Jvm.MethodName) prog_12_method_6_code (1 : Nat) (Option.some (Jvm.ClassFile.FieldType.array Jvm.ClassFile.FieldType.byte))).before args0 about1 = true := code_word (m := ⟨2, 4⟩) (meth := k2m4) (c := k2c4) (by decide +kernel) rfl rfl rfl (by decide +kernel)
set_option maxRecDepth 65536 in
theorem w_c9 : (Jvm.Cond.code ({ cls := "com/example/isopod/isopod/RecordHeaderOfPinLaw", name := "nonceAt", desc := "([BIJI)Z" } : Jvm.MethodName) method_2_code (5 : Nat) (Option.some Jvm.ClassFile.FieldType.boolean)).before args0 about1 = true := code_word (m := ⟨1, 1⟩) (meth := k1m1) (c := k1c1) (by decide +kernel) rfl rfl rfl (by decide +kernel)
set_option maxRecDepth 65536 in
theorem w_c10 : (Jvm.Cond.code ({ cls := "com/example/isopod/isopod/RecordHeader", name := "toBytes", desc := "()[B" } : Jvm.MethodName) prog_12_method_9_code (3 : Nat) (Option.some (Jvm.ClassFile.FieldType.array Jvm.ClassFile.FieldType.byte))).before args0 about1 = true := code_word (m := ⟨2, 6⟩) (meth := k2m6) (c := k2c6) (by decide +kernel) rfl rfl rfl (by decide +kernel)
def codes1 : List Jvm.Cond := [Jvm.Cond.code x code maxLocals ret, Jvm.Cond.code ({ cls := "com/example/isopod/isopod/RecordHeader", name := "of", desc := "(J[B)Lcom/example/isopod/isopod/RecordHeader;" } : Jvm.MethodName) prog_12_method_2_code (4 : Nat) (Option.some (Jvm.ClassFile.FieldType.object "com/example/isopod/isopod/RecordHeader")), Jvm.Cond.code ({ cls := "com/example/isopod/isopod/RecordHeader", name := "<init>", desc := "(IJ[B)V" } : Jvm.MethodName) prog_12_method_1_code (5 : Nat) (Option.none : Option Jvm.ClassFile.FieldType), Jvm.Cond.code ({ cls := "java/lang/Object", name := "<init>", desc := "()V" } : Jvm.MethodName) object_method_1_code (1 : Nat) (Option.none : Option Jvm.ClassFile.FieldType), Jvm.Cond.code ({ cls := "com/example/isopod/isopod/RecordHeader", name := "version", desc := "()I" } : Jvm.MethodName) prog_12_method_4_code (1 : Nat) (Option.some Jvm.ClassFile.FieldType.int), Jvm.Cond.code ({ cls := "com/example/isopod/isopod/RecordHeader", name := "generation", desc := "()J" } : Jvm.MethodName) prog_12_method_5_code (1 : Nat) (Option.some Jvm.ClassFile.FieldType.long), Jvm.Cond.code ({ cls := "com/example/isopod/isopod/RecordHeader", name := "length", desc := "()I" } : Jvm.MethodName) prog_12_method_7_code (1 : Nat) (Option.some Jvm.ClassFile.FieldType.int), Jvm.Cond.code ({ cls := "com/example/isopod/isopod/RecordHeader", name := "headerLength", desc := "(I)I" } : Jvm.MethodName) prog_12_method_10_code (2 : Nat) (Option.some Jvm.ClassFile.FieldType.int), Jvm.Cond.code ({ cls := "com/example/isopod/isopod/RecordHeader", name := "nonce", desc := "()[B" } : Jvm.MethodName) prog_12_method_6_code (1 : Nat) (Option.some (Jvm.ClassFile.FieldType.array Jvm.ClassFile.FieldType.byte)), Jvm.Cond.code ({ cls := "com/example/isopod/isopod/RecordHeaderOfPinLaw", name := "nonceAt", desc := "([BIJI)Z" } : Jvm.MethodName) method_2_code (5 : Nat) (Option.some Jvm.ClassFile.FieldType.boolean), Jvm.Cond.code ({ cls := "com/example/isopod/isopod/RecordHeader", name := "toBytes", desc := "()[B" } : Jvm.MethodName) prog_12_method_9_code (3 : Nat) (Option.some (Jvm.ClassFile.FieldType.array Jvm.ClassFile.FieldType.byte))]
set_option maxRecDepth 65536 in
theorem codes_eq : words1.filter isCode = codes1 := rfl
theorem w_codes : ∀ c ∈ words1.filter isCode, c.before args0 about1 = true := by
  rw [codes_eq]
  intro c hc
  simp only [codes1, List.mem_cons, List.not_mem_nil, or_false] at hc
  rcases hc with rfl | rfl | rfl | rfl | rfl | rfl | rfl | rfl | rfl | rfl | rfl
  · exact w_c0
  · exact w_c1
  · exact w_c2
  · exact w_c3
  · exact w_c4
  · exact w_c5
  · exact w_c6
  · exact w_c7
  · exact w_c8
  · exact w_c9
  · exact w_c10
set_option maxRecDepth 65536 in
theorem w_t1 : (words1.take 24).all (fun c => isCode c || c.before args0 about1) = true := by decide +kernel
set_option maxRecDepth 65536 in
theorem w_t2 : ((words1.drop 24).take 24).all (fun c => isCode c || c.before args0 about1) = true := by decide +kernel
set_option maxRecDepth 65536 in
theorem w_t3 : ((words1.drop 24).drop 24).all (fun c => isCode c || c.before args0 about1) = true := by decide +kernel
theorem w_tables : (allAtoms (Jvm.Cond.code x code maxLocals ret :: tables_1)).before args0 about1 = true := by
  rw [allAtoms_all]
  show words1.all (fun c => c.before args0 about1) = true
  refine all_split ?_ w_codes
  rw [← List.take_append_drop 24 words1, List.all_append, w_t1, ← List.take_append_drop 24 (words1.drop 24), List.all_append, w_t2, w_t3]
  rfl
set_option maxRecDepth 65536 in
theorem w_case : (Jvm.Cond.and given_1 narrow_1).before args0 about1 = true := by decide +kernel
theorem w_applies : (headSpec (Jvm.Cond.code x code maxLocals ret :: tables_1) room_1).applies x e0.platform about1 = true :=
  (Spec.applies_iff w_frames).mpr ⟨w_running, w_runnable, w_alone, w_named, w_hears, w_ripe, w_room, w_tables⟩
theorem atStart : AtStart classFile x code maxLocals ret World_1 tables_1 room_1 Calls_1 rest_1 Pre_1 launch0 p0 e0 about1 theMethod args0 below0 :=
  ⟨lists_1, trivial, launch0.admits_env _ _ _, launch0.least_env, fairChoices_fair.cas, fairChoices_fair.clock, w_frames, w_args, w_heap, w_applies, trivial, trivial, w_case⟩
end start1
theorem witness_1 : WitnessClaimed_1 := ⟨start1.p0, start1.e0, start1.about1, start1.theMethod, start1.args0, start1.below0, start1.atStart⟩
end Jvm.Pilot.@@N@@
