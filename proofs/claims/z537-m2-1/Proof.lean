import JvmDerived
import JvmDerived.Pilot.@@N@@Statement
import JvmDerived.Pilot.@@N@@Code
set_option linter.unusedVariables false
set_option linter.unusedSimpArgs false
namespace Jvm.Wk
open Sem ClassFile Op Lib Jvm.Stand Jvm.Free Jvm.LawKit Jvm.RoadKit
/-- a boolean as an int -/
def b2 (P : Prop) [Decidable P] : Int32 := if P then 1 else 0
theorem b2_t {P : Prop} [Decidable P] (h : P) : b2 P = 1 := if_pos h
theorem b2_f {P : Prop} [Decidable P] (h : ¬ P) : b2 P = 0 := if_neg h
theorem b2_01 (P : Prop) [Decidable P] : b2 P = 0 ∨ b2 P = 1 := by by_cases h : P <;> simp [b2, h]
theorem b2_congr {P P' : Prop} [Decidable P] [Decidable P'] (h : P ↔ P') : b2 P = b2 P' := by simp only [b2, h]
theorem b2_int (P : Prop) [Decidable P] : (b2 P).toInt = if P then 1 else 0 := by by_cases h : P <;> simp [b2, h]
theorem b2_ne0 (P : Prop) [Decidable P] : (b2 P).toInt ≠ 0 ↔ P := by by_cases h : P <;> simp [b2, h]
theorem b2_eq0 (P : Prop) [Decidable P] : (b2 P).toInt = 0 ↔ ¬ P := by by_cases h : P <;> simp [b2, h]
theorem b2_inj (P P' : Prop) [Decidable P] [Decidable P'] : (b2 P).toInt = (b2 P').toInt ↔ (P ↔ P') := by by_cases h : P <;> by_cases h' : P' <;> simp [b2, h, h']
theorem eqI {x y : Int32} (h : x.toInt = y.toInt) : x = y := Int32.toInt_inj.mp h
theorem eqL {x y : Int64} (h : x.toInt = y.toInt) : x = y := Int64.toInt_inj.mp h
/-- from the frame f, with the heap h and so many cells and slots made, the body ends as Q says -/
def Go (p : Program) (l : Launch) (e : Env) (R : Room) (s : State) (m : MethodId) (args : Array Value) (below : List Frame) (meth : Method) (c : Code) (n0 : Nat) (Q : Option Value → Heap → Prop) (h : Heap) (kc ks : Nat) (f : JFrame) : Prop :=
  ∀ (T : State) (locs : List Loc), Stand p l e R s m args below meth c T locs kc ks → T.heap = h → Fr n0 locs →
    ∃ s₂ o, Steps p.tables e below (T.setTop f) s₂ ∧ s₂.status = .running ∧ Ended s₂ below o ∧ ∃ v L, o = .returned v ∧ (Q v s₂.heap ∧ Fr n0 L) ∧ FrameEnd s o s₂ L R.cells R.slots
/-- the ambient of a body's walk, hidden behind G -/
def Cx (l : Launch) (R : Room) (Z : State) (n0 : Nat) (Q : Option Value → Heap → Prop) (own nm : String) (bytes : ByteArray) (maxL : Nat) (ret : Option FieldType) (m : MethodId) (G : Heap → Nat → Nat → JFrame → Prop) : Prop :=
  ∃ (p : Program) (e : Env) (s : State) (args : Array Value) (below : List Frame) (meth : Method) (c : Code), G = Go p l e R s m args below meth c n0 Q ∧ p.tables.exec = Jvm.exec ∧ c.code = bytes ∧ c.maxLocals = maxL ∧ s.vm.findClass own = some m.cls ∧ Z.Warmed39 s.vm ∧ meth.sig.returnType = ret ∧ meth.locks = false ∧ meth.name = nm
/-- the contract of a body, asked with these arguments at this heap -/
def MeetsW (l : Launch) (Z : State) (n0 : Nat) (y : MethodName) (bytes : ByteArray) (maxL : Nat) (ret : Option FieldType) (rm : Room) (as' : Array Value) (h0 : Heap) (Q : Option Value → Heap → Prop) : Prop :=
  ∀ ws : List Cond, MetFree l y (head1 (Cond.code y bytes maxL ret :: ws) rm) (fun a U => a = as' ∧ Z.Warmed39 U.vm ∧ U.heap = h0) (fun _ _ _ _ _ => True) (fun _ U o U' => ∃ v L, o = .returned v ∧ (Q v U'.heap ∧ Fr n0 L) ∧ FrameEnd U o U' L rm.cells rm.slots)
/-- an array with just these values -/
def Ary (Z : State) (h : Heap) (a : Addr) (ty : FieldType) (vs : List Value) : Prop := ∃ c : Cell, Arr Z h a c ty ∧ c.slots.toList = vs ∧ vs.length < 2 ^ 31
section Facts
variable {Z : State} {h h' : Heap} {a b : Addr} {ty : FieldType} {vs : List Value} {v : Value} {sl : Nat} {ws : List Addr}
theorem Ary.lt (A : Ary Z h a ty vs) : a < h.size := by obtain ⟨c, A, -⟩ := A; exact A.lt
theorem Ary.ext (A : Ary Z h a ty vs) (E : Ext h h') : Ary Z h' a ty vs := by obtain ⟨c, A, r⟩ := A; exact ⟨c, A.ext E, r⟩
theorem Ary.other (A : Ary Z h b ty vs) (W : Wr h h' a sl v) (q : b ≠ a) : Ary Z h' b ty vs := by obtain ⟨c, A, r⟩ := A; exact ⟨c, A.other W q, r⟩
theorem Ary.keep (A : Ary Z h a ty vs) (K : Keep h h' ws) (q : a ∉ ws) : Ary Z h' a ty vs := by obtain ⟨c, A, r⟩ := A; exact ⟨c, ⟨K.2.1 a c A.1 q, A.2⟩, r⟩
theorem Ary.same (A : Ary Z h a ty vs) (W : Wr h h' a sl v) : Ary Z h' a ty (vs.set sl v) := by
  obtain ⟨c, A, r, r'⟩ := A
  refine ⟨_, A.same W, ?_, by rw [List.length_set]; exact r'⟩
  show (c.slots.setIfInBounds sl v).toList = _
  rw [Array.toList_setIfInBounds, r]
theorem clamp_of {j : Int32} {i : Nat} (hj : j.toInt = i) : j.toNatClampNeg = i := by simp only [Int32.toNatClampNeg, hj]; rfl
theorem in_of {c : Cell} {j : Int32} {i : Nat} (hj : j.toInt = i) (hi : i < c.slots.toList.length) : ¬ (j < 0 ∨ c.slots.size ≤ j.toNatClampNeg) := by
  rw [clamp_of hj]
  have h0 : ¬ j < 0 := by rw [Int32.lt_iff_toInt_lt, hj, show (0 : Int32).toInt = 0 from rfl]; omega
  rw [Array.length_toList] at hi
  intro q; rcases q with q | q
  · exact h0 q
  · omega
theorem at_of {c : Cell} {j : Int32} {i : Nat} {v : Value} (hj : j.toInt = i) (hv : c.slots.toList[i]? = some v) : c.slots[j.toNatClampNeg]? = some v := by
  rw [clamp_of hj, ← Array.getElem?_toList]; exact hv
theorem len_int {n : Nat} (h : n < 2 ^ 31) : n.toInt32.toInt = n := len_toInt h
theorem nar_byte_of {x : Int32} (h : -128 ≤ x.toInt ∧ x.toInt < 128) : nar .byte x = x := by
  apply Int32.toInt_inj.mp
  have q := c_i2b x
  show x.toInt8.toInt32.toInt = _
  omega
theorem nar_char_of {x : Int32} (h : 0 ≤ x.toInt ∧ x.toInt < 65536) : nar .char x = x := by
  apply Int32.toInt_inj.mp
  have q := c_i2c x
  show x.toUInt32.toUInt16.toUInt32.toInt32.toInt = _
  omega
theorem Ary.toArv {d : Value} (A : Ary Z h a ty vs) (hf : ∀ v ∈ vs, fits ty v = true) (hd : fits ty d = true) : ∃ (k : ClassId) (z : Int32), z.toInt = ((vs.length : Nat) : Int) ∧ Arv Z h a k ty z vs d := by
  obtain ⟨c, Ar, rfl, hlt⟩ := A
  have hl : c.slots.size < 2 ^ 31 := by rwa [Array.length_toList] at hlt
  refine ⟨c.cls, c.slots.size.toInt32, by rw [Array.length_toList]; exact len_int hl, c, Ar, rfl, by rw [clamp_of (len_int hl)], ?_, ?_, ?_⟩
  · rw [Int32.lt_iff_toInt_lt, len_int hl, show (0 : Int32).toInt = 0 from rfl]; omega
  · intro k hk; simp [List.getD_eq_getElem?_getD, hk]
  · intro i hi
    have q : c.slots.toList.getD i d = c.slots[i] := by simp [List.getD_eq_getElem?_getD, hi]
    rw [q]; exact hf _ (by simp)
theorem Arv.toAry {d : Value} {k : ClassId} {z : Int32} (F : Arv Z h a k ty z vs d) (hz : z.toInt = (vs.length : Nat)) : Ary Z h a ty vs := by
  obtain ⟨c, Ar, -, S, -, H, -⟩ := F
  rw [clamp_of hz] at S
  refine ⟨c, Ar, ?_, by have := z.toInt_lt; omega⟩
  apply List.ext_getElem?
  intro i
  by_cases hi : i < c.slots.size
  · rw [Array.getElem?_toList, H i hi, List.getD_eq_getElem?_getD]
    have hi' : i < vs.length := by omega
    simp [hi']
  · rw [List.getElem?_eq_none (by rw [Array.length_toList]; omega), List.getElem?_eq_none (by omega)]
theorem Fld.keepO {C n d : String} (F : Fld Z h a C n d v) (K : Keep h h' ws) (q : a ∉ ws) : Fld Z h' a C n d v := F.keep K q
theorem Keep.of_ext (E : Ext h h') : Keep h h' ws := (Keep.refl h ws).ext E
end Facts
section Steps
variable {l : Launch} {R : Room} {Z : State} {n0 : Nat} {Q : Option Value → Heap → Prop} {own nm : String} {bytes : ByteArray} {maxL : Nat} {ret : Option FieldType} {m : MethodId} {G : Heap → Nat → Nat → JFrame → Prop} {h : Heap} {kc ks pc pc' pc1 pc2 : Nat} {L L' : Array Slot} {S : List Value} {a0 : Array Value}
theorem MeetsW.intro {y : MethodName} {rm : Room} {as' : Array Value} {h0 : Heap} (hpl : plainFor y = true) {L0 : Array Slot} (hef : ∀ m, entryFrame m as' maxL = mkF m 0 L0 [])
    (body : ∀ m G, Cx l rm Z n0 Q y.cls y.name bytes maxL ret m G → G h0 0 0 (mkF m 0 L0 [])) : MeetsW l Z n0 y bytes maxL ret rm as' h0 Q := by
  intro ws
  refine MetFree.of_bodySF hpl hisR ?_
  intro p e s m args below meth c s₁ Bd hml0 hP hK
  obtain ⟨rfl, hZ, hh⟩ := hP
  have hnm := (name_of_methodNamed Bd.named Bd.method).1
  have X0 : Stand p l e rm s m args below meth c s₁ [] 0 0 := Stand.of_body Bd
  have e0 : s₁.heap = h0 := by rw [← hh, Bd.state]; rfl
  have q := body m _ ⟨p, e, s, args, below, meth, c, rfl, Bd.exec, Bd.bytes, hml0, findClass_of_methodNamed Bd.named, hZ, Bd.returns, Bd.notSynchronized, hnm⟩ s₁ [] X0 e0 (Fr.nil n0)
  rw [hef]; exact q
theorem Cx.step (K : Cx l R Z n0 Q own nm bytes maxL ret m G) {f f' : JFrame}
    (hs : ∀ (p : Program) (e : Env) (below : List Frame) (T : State) (c : Code), At T m c below → p.tables.exec = Jvm.exec → c.code = bytes → ∀ t, Steps p.tables e below (T.setTop f') t → Steps p.tables e below (T.setTop f) t)
    (hr : G h kc ks f') : G h kc ks f := by
  obtain ⟨p, e, s, args, below, meth, c, rfl, hx, hby, hml, hown, hZ, hret, hlk, hn⟩ := K
  intro T locs X eT N
  obtain ⟨s₂, o, h1, h2⟩ := hr T locs X eT N
  exact ⟨s₂, o, hs p e below T c X.here hx hby _ h1, h2⟩
theorem Cx.stepX (K : Cx l R Z n0 Q own nm bytes maxL ret m G) {f f' : JFrame} {h' : Heap}
    (hs : ∀ (p : Program) (e : Env) (s : State) (args : Array Value) (below : List Frame) (meth : Method) (c : Code) (T : State) (locs : List Loc), Stand p l e R s m args below meth c T locs kc ks → T.heap = h → p.tables.exec = Jvm.exec → c.code = bytes → s.vm.findClass own = some m.cls → Z.Warmed39 s.vm → ∃ T', Stand p l e R s m args below meth c T' locs kc ks ∧ T'.heap = h ∧ ∀ t, Steps p.tables e below (T'.setTop f') t → Steps p.tables e below (T.setTop f) t)
    (hr : G h kc ks f') : G h kc ks f := by
  obtain ⟨p, e, s, args, below, meth, c, rfl, hx, hby, hml, hown, hZ, hret, hlk, hn⟩ := K
  intro T locs X eT N
  obtain ⟨T', X', e', st⟩ := hs p e s args below meth c T locs X eT hx hby hown hZ
  obtain ⟨s₂, o, h1, h2⟩ := hr T' locs X' e' N
  exact ⟨s₂, o, st _ h1, h2⟩
theorem Cx.cast (K : Cx l R Z n0 Q own nm bytes maxL ret m G) {f f' : JFrame} (q : f = f') (hr : G h kc ks f') : G h kc ks f := q ▸ hr
theorem Cx.iloadN (K : Cx l R Z n0 Q own nm bytes maxL ret m G) {k : Fin 4} {v : Int32} (hd : decode bytes pc = .ok (.iload_n k, 1)) (hp : pc + 1 = pc') (hl : L[k.val]? = some (.val (.int v))) (hr : G h kc ks (mkF m pc' L (.int v :: S))) : G h kc ks (mkF m pc L (S)) := by
  subst hp
  exact K.step (fun p e below T c h hx hb0 t hr => XS.iloadN h hx rfl (hb hb0 hd) hl hr) hr
theorem Cx.iload (K : Cx l R Z n0 Q own nm bytes maxL ret m G) {k : Nat} {v : Int32} (hd : decode bytes pc = .ok (.iload k, 2)) (hp : pc + 2 = pc') (hl : L[k]? = some (.val (.int v))) (hr : G h kc ks (mkF m pc' L (.int v :: S))) : G h kc ks (mkF m pc L (S)) := by
  subst hp
  exact K.step (fun p e below T c h hx hb0 t hr => XS.iload h hx rfl (hb hb0 hd) hl hr) hr
theorem Cx.istoreN (K : Cx l R Z n0 Q own nm bytes maxL ret m G) {k : Fin 4} {x : Int32} (hd : decode bytes pc = .ok (.istore_n k, 1)) (hp : pc + 1 = pc') (hl : storeLocals L k.val (.int x) = some L') (hr : G h kc ks (mkF m pc' L' (S))) : G h kc ks (mkF m pc L (.int x :: S)) := by
  subst hp
  exact K.step (fun p e below T c h hx hb0 t hr => XS.istoreN h hx rfl (hb hb0 hd) rfl hl hr) hr
theorem Cx.istore (K : Cx l R Z n0 Q own nm bytes maxL ret m G) {k : Nat} {x : Int32} (hd : decode bytes pc = .ok (.istore k, 2)) (hp : pc + 2 = pc') (hl : storeLocals L k (.int x) = some L') (hr : G h kc ks (mkF m pc' L' (S))) : G h kc ks (mkF m pc L (.int x :: S)) := by
  subst hp
  exact K.step (fun p e below T c h hx hb0 t hr => XS.istore h hx rfl (hb hb0 hd) rfl hl hr) hr
theorem Cx.lloadN (K : Cx l R Z n0 Q own nm bytes maxL ret m G) {k : Fin 4} {v : Int64} (hd : decode bytes pc = .ok (.lload_n k, 1)) (hp : pc + 1 = pc') (hl : L[k.val]? = some (.val (.long v))) (hr : G h kc ks (mkF m pc' L (.long v :: S))) : G h kc ks (mkF m pc L (S)) := by
  subst hp
  exact K.step (fun p e below T c h hx hb0 t hr => XS.lloadN h hx rfl (hb hb0 hd) hl hr) hr
theorem Cx.lload (K : Cx l R Z n0 Q own nm bytes maxL ret m G) {k : Nat} {v : Int64} (hd : decode bytes pc = .ok (.lload k, 2)) (hp : pc + 2 = pc') (hl : L[k]? = some (.val (.long v))) (hr : G h kc ks (mkF m pc' L (.long v :: S))) : G h kc ks (mkF m pc L (S)) := by
  subst hp
  exact K.step (fun p e below T c h hx hb0 t hr => XS.lload h hx rfl (hb hb0 hd) hl hr) hr
theorem Cx.lstoreN (K : Cx l R Z n0 Q own nm bytes maxL ret m G) {k : Fin 4} {x : Int64} (hd : decode bytes pc = .ok (.lstore_n k, 1)) (hp : pc + 1 = pc') (hl : storeLocals L k.val (.long x) = some L') (hr : G h kc ks (mkF m pc' L' (S))) : G h kc ks (mkF m pc L (.long x :: S)) := by
  subst hp
  exact K.step (fun p e below T c h hx hb0 t hr => XS.lstoreN h hx rfl (hb hb0 hd) rfl hl hr) hr
theorem Cx.lstore (K : Cx l R Z n0 Q own nm bytes maxL ret m G) {k : Nat} {x : Int64} (hd : decode bytes pc = .ok (.lstore k, 2)) (hp : pc + 2 = pc') (hl : storeLocals L k (.long x) = some L') (hr : G h kc ks (mkF m pc' L' (S))) : G h kc ks (mkF m pc L (.long x :: S)) := by
  subst hp
  exact K.step (fun p e below T c h hx hb0 t hr => XS.lstore h hx rfl (hb hb0 hd) rfl hl hr) hr
theorem Cx.aloadN (K : Cx l R Z n0 Q own nm bytes maxL ret m G) {k : Fin 4} {v : Value} (hd : decode bytes pc = .ok (.aload_n k, 1)) (hp : pc + 1 = pc') (hl : L[k.val]? = some (.val v)) (hv : v.isRef = true) (hr : G h kc ks (mkF m pc' L (v :: S))) : G h kc ks (mkF m pc L (S)) := by
  subst hp
  exact K.step (fun p e below T c h hx hb0 t hr => XS.aloadN h hx rfl (hb hb0 hd) hl hv hr) hr
theorem Cx.aload (K : Cx l R Z n0 Q own nm bytes maxL ret m G) {k : Nat} {v : Value} (hd : decode bytes pc = .ok (.aload k, 2)) (hp : pc + 2 = pc') (hl : L[k]? = some (.val v)) (hv : v.isRef = true) (hr : G h kc ks (mkF m pc' L (v :: S))) : G h kc ks (mkF m pc L (S)) := by
  subst hp
  exact K.step (fun p e below T c h hx hb0 t hr => XS.aload h hx rfl (hb hb0 hd) hl hv hr) hr
theorem Cx.astoreN (K : Cx l R Z n0 Q own nm bytes maxL ret m G) {k : Fin 4} {x : Value} (hd : decode bytes pc = .ok (.astore_n k, 1)) (hp : pc + 1 = pc') (hv : x.isRef = true) (hl : storeLocals L k.val x = some L') (hr : G h kc ks (mkF m pc' L' (S))) : G h kc ks (mkF m pc L (x :: S)) := by
  subst hp
  exact K.step (fun p e below T c h hx hb0 t hr => XS.astoreN h hx rfl (hb hb0 hd) rfl hv hl hr) hr
theorem Cx.astore (K : Cx l R Z n0 Q own nm bytes maxL ret m G) {k : Nat} {x : Value} (hd : decode bytes pc = .ok (.astore k, 2)) (hp : pc + 2 = pc') (hv : x.isRef = true) (hl : storeLocals L k x = some L') (hr : G h kc ks (mkF m pc' L' (S))) : G h kc ks (mkF m pc L (x :: S)) := by
  subst hp
  exact K.step (fun p e below T c h hx hb0 t hr => XS.astore h hx rfl (hb hb0 hd) rfl hv hl hr) hr
theorem Cx.dloadN (K : Cx l R Z n0 Q own nm bytes maxL ret m G) {k : Fin 4} {v : UInt64} (hd : decode bytes pc = .ok (.dload_n k, 1)) (hp : pc + 1 = pc') (hl : L[k.val]? = some (.val (.double v))) (hr : G h kc ks (mkF m pc' L (.double v :: S))) : G h kc ks (mkF m pc L (S)) := by
  subst hp
  exact K.step (fun p e below T c h hx hb0 t hr => XS.dloadN h hx rfl (hb hb0 hd) hl hr) hr
theorem Cx.dload (K : Cx l R Z n0 Q own nm bytes maxL ret m G) {k : Nat} {v : UInt64} (hd : decode bytes pc = .ok (.dload k, 2)) (hp : pc + 2 = pc') (hl : L[k]? = some (.val (.double v))) (hr : G h kc ks (mkF m pc' L (.double v :: S))) : G h kc ks (mkF m pc L (S)) := by
  subst hp
  exact K.step (fun p e below T c h hx hb0 t hr => XS.dload h hx rfl (hb hb0 hd) hl hr) hr
theorem Cx.dstoreN (K : Cx l R Z n0 Q own nm bytes maxL ret m G) {k : Fin 4} {x : UInt64} (hd : decode bytes pc = .ok (.dstore_n k, 1)) (hp : pc + 1 = pc') (hl : storeLocals L k.val (.double x) = some L') (hr : G h kc ks (mkF m pc' L' (S))) : G h kc ks (mkF m pc L (.double x :: S)) := by
  subst hp
  exact K.step (fun p e below T c h hx hb0 t hr => XS.dstoreN h hx rfl (hb hb0 hd) rfl hl hr) hr
theorem Cx.dstore (K : Cx l R Z n0 Q own nm bytes maxL ret m G) {k : Nat} {x : UInt64} (hd : decode bytes pc = .ok (.dstore k, 2)) (hp : pc + 2 = pc') (hl : storeLocals L k (.double x) = some L') (hr : G h kc ks (mkF m pc' L' (S))) : G h kc ks (mkF m pc L (.double x :: S)) := by
  subst hp
  exact K.step (fun p e below T c h hx hb0 t hr => XS.dstore h hx rfl (hb hb0 hd) rfl hl hr) hr
theorem Cx.dconst0 (K : Cx l R Z n0 Q own nm bytes maxL ret m G) {z : UInt64} (hd : decode bytes pc = .ok (.dconst 0, 1)) (hp : pc + 1 = pc') (hz : FP.dconst0 = z) (hr : G h kc ks (mkF m pc' L (.double z :: S))) : G h kc ks (mkF m pc L (S)) := by
  subst hp hz
  exact K.step (fun p e below T c h hx hb0 t hr => XS.dconst0 h hx rfl (hb hb0 hd) rfl hr) hr
theorem Cx.dconst1 (K : Cx l R Z n0 Q own nm bytes maxL ret m G) {z : UInt64} (hd : decode bytes pc = .ok (.dconst 1, 1)) (hp : pc + 1 = pc') (hz : FP.dconst1 = z) (hr : G h kc ks (mkF m pc' L (.double z :: S))) : G h kc ks (mkF m pc L (S)) := by
  subst hp hz
  exact K.step (fun p e below T c h hx hb0 t hr => XS.dconst1 h hx rfl (hb hb0 hd) rfl hr) hr
theorem Cx.i2d (K : Cx l R Z n0 Q own nm bytes maxL ret m G) {x : Int32} {z : UInt64} (hd : decode bytes pc = .ok (.i2d, 1)) (hp : pc + 1 = pc') (hz : FP.i2d x = z) (hr : G h kc ks (mkF m pc' L (.double z :: S))) : G h kc ks (mkF m pc L (.int x :: S)) := by
  subst hp hz
  exact K.step (fun p e below T c h hx hb0 t hr => XS.i2dS h hx rfl (hb hb0 hd) rfl rfl hr) hr
theorem Cx.l2d (K : Cx l R Z n0 Q own nm bytes maxL ret m G) {x : Int64} {z : UInt64} (hd : decode bytes pc = .ok (.l2d, 1)) (hp : pc + 1 = pc') (hz : FP.l2d x = z) (hr : G h kc ks (mkF m pc' L (.double z :: S))) : G h kc ks (mkF m pc L (.long x :: S)) := by
  subst hp hz
  exact K.step (fun p e below T c h hx hb0 t hr => XS.l2dS h hx rfl (hb hb0 hd) rfl rfl hr) hr
theorem Cx.d2l (K : Cx l R Z n0 Q own nm bytes maxL ret m G) {x : UInt64} {z : Int64} (hd : decode bytes pc = .ok (.d2l, 1)) (hp : pc + 1 = pc') (hz : FP.d2l x = z) (hr : G h kc ks (mkF m pc' L (.long z :: S))) : G h kc ks (mkF m pc L (.double x :: S)) := by
  subst hp hz
  exact K.step (fun p e below T c h hx hb0 t hr => XS.d2lS h hx rfl (hb hb0 hd) rfl rfl hr) hr
theorem Cx.dadd (K : Cx l R Z n0 Q own nm bytes maxL ret m G) {x y z : UInt64} (hd : decode bytes pc = .ok (.dadd, 1)) (hp : pc + 1 = pc') (hn : Jvm.Free.Fl.NoNaN64 (FP.dadd x y)) (hz : FP.dadd x y = z) (hr : G h kc ks (mkF m pc' L (.double z :: S))) : G h kc ks (mkF m pc L (.double y :: .double x :: S)) := by
  subst hp hz
  exact K.step (fun p e below T c h hx hb0 t hr => XS.daddS h hx rfl (hb hb0 hd) rfl hn rfl hr) hr
theorem Cx.dmul (K : Cx l R Z n0 Q own nm bytes maxL ret m G) {x y z : UInt64} (hd : decode bytes pc = .ok (.dmul, 1)) (hp : pc + 1 = pc') (hn : Jvm.Free.Fl.NoNaN64 (FP.dmul x y)) (hz : FP.dmul x y = z) (hr : G h kc ks (mkF m pc' L (.double z :: S))) : G h kc ks (mkF m pc L (.double y :: .double x :: S)) := by
  subst hp hz
  exact K.step (fun p e below T c h hx hb0 t hr => XS.dmulS h hx rfl (hb hb0 hd) rfl hn rfl hr) hr
theorem Cx.ddiv (K : Cx l R Z n0 Q own nm bytes maxL ret m G) {x y z : UInt64} (hd : decode bytes pc = .ok (.ddiv, 1)) (hp : pc + 1 = pc') (hn : Jvm.Free.Fl.NoNaN64 (FP.ddiv x y)) (hz : FP.ddiv x y = z) (hr : G h kc ks (mkF m pc' L (.double z :: S))) : G h kc ks (mkF m pc L (.double y :: .double x :: S)) := by
  subst hp hz
  exact K.step (fun p e below T c h hx hb0 t hr => XS.ddivS h hx rfl (hb hb0 hd) rfl hn rfl hr) hr
theorem Cx.dsub (K : Cx l R Z n0 Q own nm bytes maxL ret m G) {x y z : UInt64} (hd : decode bytes pc = .ok (.dsub, 1)) (hp : pc + 1 = pc') (hn : Jvm.Free.Fl.NoNaN64 (FP.dsub x y)) (hz : FP.dsub x y = z) (hr : G h kc ks (mkF m pc' L (.double z :: S))) : G h kc ks (mkF m pc L (.double y :: .double x :: S)) := by
  subst hp hz
  exact K.step (fun p e below T c h hx hb0 t hr => XS.dsubS h hx rfl (hb hb0 hd) rfl hn rfl hr) hr
theorem Cx.dcmp (K : Cx l R Z n0 Q own nm bytes maxL ret m G) {o : CmpOp} {x y : UInt64} {z : Int32} (hd : decode bytes pc = .ok (.dcmp o, 1)) (hp : pc + 1 = pc') (hz : cmpValue (FP.dcmp x y) o = z) (hr : G h kc ks (mkF m pc' L (.int z :: S))) : G h kc ks (mkF m pc L (.double y :: .double x :: S)) := by
  subst hp hz
  exact K.step (fun p e below T c h hx hb0 t hr => XS.dcmpS h hx rfl (hb hb0 hd) rfl rfl hr) hr
theorem Cx.iconst (K : Cx l R Z n0 Q own nm bytes maxL ret m G) {i : Int} {z : Int32} (hd : decode bytes pc = .ok (.iconst i, 1)) (hp : pc + 1 = pc') (hz : Int32.ofInt i = z) (hr : G h kc ks (mkF m pc' L (.int z :: S))) : G h kc ks (mkF m pc L (S)) := by
  subst hp hz
  exact K.step (fun p e below T c h hx hb0 t hr => XS.iconst h hx rfl (hb hb0 hd) hr) hr
theorem Cx.bipush (K : Cx l R Z n0 Q own nm bytes maxL ret m G) {i : Int} {z : Int32} (hd : decode bytes pc = .ok (.bipush i, 2)) (hp : pc + 2 = pc') (hz : (Int8.ofInt i).toInt32 = z) (hr : G h kc ks (mkF m pc' L (.int z :: S))) : G h kc ks (mkF m pc L (S)) := by
  subst hp hz
  exact K.step (fun p e below T c h hx hb0 t hr => XS.bipush h hx rfl (hb hb0 hd) hr) hr
theorem Cx.sipush (K : Cx l R Z n0 Q own nm bytes maxL ret m G) {i : Int} {z : Int32} (hd : decode bytes pc = .ok (.sipush i, 3)) (hp : pc + 3 = pc') (hz : (Int16.ofInt i).toInt32 = z) (hr : G h kc ks (mkF m pc' L (.int z :: S))) : G h kc ks (mkF m pc L (S)) := by
  subst hp hz
  exact K.step (fun p e below T c h hx hb0 t hr => XS.sipush h hx rfl (hb hb0 hd) hr) hr
theorem Cx.lconst (K : Cx l R Z n0 Q own nm bytes maxL ret m G) {k : Fin 2} {z : Int64} (hd : decode bytes pc = .ok (.lconst k, 1)) (hp : pc + 1 = pc') (hz : Int64.ofNat k = z) (hr : G h kc ks (mkF m pc' L (.long z :: S))) : G h kc ks (mkF m pc L (S)) := by
  subst hp hz
  exact K.step (fun p e below T c h hx hb0 t hr => XS.lconst h hx rfl (hb hb0 hd) hr) hr
theorem Cx.anull (K : Cx l R Z n0 Q own nm bytes maxL ret m G) (hd : decode bytes pc = .ok (.aconst_null, 1)) (hp : pc + 1 = pc')  (hr : G h kc ks (mkF m pc' L (.null :: S))) : G h kc ks (mkF m pc L (S)) := by
  subst hp
  exact K.step (fun p e below T c h hx hb0 t hr => XS.aconstNull h hx rfl (hb hb0 hd) hr) hr
theorem Cx.iadd (K : Cx l R Z n0 Q own nm bytes maxL ret m G) {x y z : Int32} (hd : decode bytes pc = .ok (.iadd, 1)) (hp : pc + 1 = pc') (hz : x + y = z) (hr : G h kc ks (mkF m pc' L (.int z :: S))) : G h kc ks (mkF m pc L (.int y :: .int x :: S)) := by
  subst hp hz
  exact K.step (fun p e below T c h hx hb0 t hr => XS.iadd h hx rfl (hb hb0 hd) rfl hr) hr
theorem Cx.ladd (K : Cx l R Z n0 Q own nm bytes maxL ret m G) {x y z : Int64} (hd : decode bytes pc = .ok (.ladd, 1)) (hp : pc + 1 = pc') (hz : x + y = z) (hr : G h kc ks (mkF m pc' L (.long z :: S))) : G h kc ks (mkF m pc L (.long y :: .long x :: S)) := by
  subst hp hz
  exact K.step (fun p e below T c h hx hb0 t hr => XS.ladd h hx rfl (hb hb0 hd) rfl hr) hr
theorem Cx.isub (K : Cx l R Z n0 Q own nm bytes maxL ret m G) {x y z : Int32} (hd : decode bytes pc = .ok (.isub, 1)) (hp : pc + 1 = pc') (hz : x - y = z) (hr : G h kc ks (mkF m pc' L (.int z :: S))) : G h kc ks (mkF m pc L (.int y :: .int x :: S)) := by
  subst hp hz
  exact K.step (fun p e below T c h hx hb0 t hr => XS.isub h hx rfl (hb hb0 hd) rfl hr) hr
theorem Cx.lsub (K : Cx l R Z n0 Q own nm bytes maxL ret m G) {x y z : Int64} (hd : decode bytes pc = .ok (.lsub, 1)) (hp : pc + 1 = pc') (hz : x - y = z) (hr : G h kc ks (mkF m pc' L (.long z :: S))) : G h kc ks (mkF m pc L (.long y :: .long x :: S)) := by
  subst hp hz
  exact K.step (fun p e below T c h hx hb0 t hr => XS.lsub h hx rfl (hb hb0 hd) rfl hr) hr
theorem Cx.imul (K : Cx l R Z n0 Q own nm bytes maxL ret m G) {x y z : Int32} (hd : decode bytes pc = .ok (.imul, 1)) (hp : pc + 1 = pc') (hz : x * y = z) (hr : G h kc ks (mkF m pc' L (.int z :: S))) : G h kc ks (mkF m pc L (.int y :: .int x :: S)) := by
  subst hp hz
  exact K.step (fun p e below T c h hx hb0 t hr => XS.imul h hx rfl (hb hb0 hd) rfl hr) hr
theorem Cx.lmul (K : Cx l R Z n0 Q own nm bytes maxL ret m G) {x y z : Int64} (hd : decode bytes pc = .ok (.lmul, 1)) (hp : pc + 1 = pc') (hz : x * y = z) (hr : G h kc ks (mkF m pc' L (.long z :: S))) : G h kc ks (mkF m pc L (.long y :: .long x :: S)) := by
  subst hp hz
  exact K.step (fun p e below T c h hx hb0 t hr => XS.lmul h hx rfl (hb hb0 hd) rfl hr) hr
theorem Cx.iand (K : Cx l R Z n0 Q own nm bytes maxL ret m G) {x y z : Int32} (hd : decode bytes pc = .ok (.iand, 1)) (hp : pc + 1 = pc') (hz : x &&& y = z) (hr : G h kc ks (mkF m pc' L (.int z :: S))) : G h kc ks (mkF m pc L (.int y :: .int x :: S)) := by
  subst hp hz
  exact K.step (fun p e below T c h hx hb0 t hr => XS.iand h hx rfl (hb hb0 hd) rfl hr) hr
theorem Cx.land (K : Cx l R Z n0 Q own nm bytes maxL ret m G) {x y z : Int64} (hd : decode bytes pc = .ok (.land, 1)) (hp : pc + 1 = pc') (hz : x &&& y = z) (hr : G h kc ks (mkF m pc' L (.long z :: S))) : G h kc ks (mkF m pc L (.long y :: .long x :: S)) := by
  subst hp hz
  exact K.step (fun p e below T c h hx hb0 t hr => XS.land h hx rfl (hb hb0 hd) rfl hr) hr
theorem Cx.ior (K : Cx l R Z n0 Q own nm bytes maxL ret m G) {x y z : Int32} (hd : decode bytes pc = .ok (.ior, 1)) (hp : pc + 1 = pc') (hz : x ||| y = z) (hr : G h kc ks (mkF m pc' L (.int z :: S))) : G h kc ks (mkF m pc L (.int y :: .int x :: S)) := by
  subst hp hz
  exact K.step (fun p e below T c h hx hb0 t hr => XS.ior h hx rfl (hb hb0 hd) rfl hr) hr
theorem Cx.lor (K : Cx l R Z n0 Q own nm bytes maxL ret m G) {x y z : Int64} (hd : decode bytes pc = .ok (.lor, 1)) (hp : pc + 1 = pc') (hz : x ||| y = z) (hr : G h kc ks (mkF m pc' L (.long z :: S))) : G h kc ks (mkF m pc L (.long y :: .long x :: S)) := by
  subst hp hz
  exact K.step (fun p e below T c h hx hb0 t hr => XS.lor h hx rfl (hb hb0 hd) rfl hr) hr
theorem Cx.ixor (K : Cx l R Z n0 Q own nm bytes maxL ret m G) {x y z : Int32} (hd : decode bytes pc = .ok (.ixor, 1)) (hp : pc + 1 = pc') (hz : x ^^^ y = z) (hr : G h kc ks (mkF m pc' L (.int z :: S))) : G h kc ks (mkF m pc L (.int y :: .int x :: S)) := by
  subst hp hz
  exact K.step (fun p e below T c h hx hb0 t hr => XS.ixor h hx rfl (hb hb0 hd) rfl hr) hr
theorem Cx.lxor (K : Cx l R Z n0 Q own nm bytes maxL ret m G) {x y z : Int64} (hd : decode bytes pc = .ok (.lxor, 1)) (hp : pc + 1 = pc') (hz : x ^^^ y = z) (hr : G h kc ks (mkF m pc' L (.long z :: S))) : G h kc ks (mkF m pc L (.long y :: .long x :: S)) := by
  subst hp hz
  exact K.step (fun p e below T c h hx hb0 t hr => XS.lxor h hx rfl (hb hb0 hd) rfl hr) hr
theorem Cx.ishl (K : Cx l R Z n0 Q own nm bytes maxL ret m G) {x y z : Int32} (hd : decode bytes pc = .ok (.ishl, 1)) (hp : pc + 1 = pc') (hz : x <<< (y &&& 31) = z) (hr : G h kc ks (mkF m pc' L (.int z :: S))) : G h kc ks (mkF m pc L (.int y :: .int x :: S)) := by
  subst hp hz
  exact K.step (fun p e below T c h hx hb0 t hr => XS.ishl h hx rfl (hb hb0 hd) rfl hr) hr
theorem Cx.ishr (K : Cx l R Z n0 Q own nm bytes maxL ret m G) {x y z : Int32} (hd : decode bytes pc = .ok (.ishr, 1)) (hp : pc + 1 = pc') (hz : x >>> (y &&& 31) = z) (hr : G h kc ks (mkF m pc' L (.int z :: S))) : G h kc ks (mkF m pc L (.int y :: .int x :: S)) := by
  subst hp hz
  exact K.step (fun p e below T c h hx hb0 t hr => XS.ishr h hx rfl (hb hb0 hd) rfl hr) hr
theorem Cx.iushr (K : Cx l R Z n0 Q own nm bytes maxL ret m G) {x y z : Int32} (hd : decode bytes pc = .ok (.iushr, 1)) (hp : pc + 1 = pc') (hz : (x.toUInt32 >>> (y &&& 31).toUInt32).toInt32 = z) (hr : G h kc ks (mkF m pc' L (.int z :: S))) : G h kc ks (mkF m pc L (.int y :: .int x :: S)) := by
  subst hp hz
  exact K.step (fun p e below T c h hx hb0 t hr => XS.iushr h hx rfl (hb hb0 hd) rfl hr) hr
theorem Cx.lshl (K : Cx l R Z n0 Q own nm bytes maxL ret m G) {x z : Int64} {y : Int32} (hd : decode bytes pc = .ok (.lshl, 1)) (hp : pc + 1 = pc') (hz : x <<< (y &&& 0x3f).toInt64 = z) (hr : G h kc ks (mkF m pc' L (.long z :: S))) : G h kc ks (mkF m pc L (.int y :: .long x :: S)) := by
  subst hp hz
  exact K.step (fun p e below T c h hx hb0 t hr => XS.lshl h hx rfl (hb hb0 hd) rfl hr) hr
theorem Cx.lshr (K : Cx l R Z n0 Q own nm bytes maxL ret m G) {x z : Int64} {y : Int32} (hd : decode bytes pc = .ok (.lshr, 1)) (hp : pc + 1 = pc') (hz : x >>> (y &&& 0x3f).toInt64 = z) (hr : G h kc ks (mkF m pc' L (.long z :: S))) : G h kc ks (mkF m pc L (.int y :: .long x :: S)) := by
  subst hp hz
  exact K.step (fun p e below T c h hx hb0 t hr => XS.lshr h hx rfl (hb hb0 hd) rfl hr) hr
theorem Cx.lushr (K : Cx l R Z n0 Q own nm bytes maxL ret m G) {x z : Int64} {y : Int32} (hd : decode bytes pc = .ok (.lushr, 1)) (hp : pc + 1 = pc') (hz : (x.toUInt64 >>> (y &&& 0x3f).toInt64.toUInt64).toInt64 = z) (hr : G h kc ks (mkF m pc' L (.long z :: S))) : G h kc ks (mkF m pc L (.int y :: .long x :: S)) := by
  subst hp hz
  exact K.step (fun p e below T c h hx hb0 t hr => XS.lushr h hx rfl (hb hb0 hd) rfl hr) hr
theorem Cx.idiv (K : Cx l R Z n0 Q own nm bytes maxL ret m G) {x y z : Int32} (hd : decode bytes pc = .ok (.idiv, 1)) (hp : pc + 1 = pc') (hy : y ≠ 0) (hz : x / y = z) (hr : G h kc ks (mkF m pc' L (.int z :: S))) : G h kc ks (mkF m pc L (.int y :: .int x :: S)) := by
  subst hp hz
  exact K.step (fun p e below T c h hx hb0 t hr => XS.idiv h hx rfl (hb hb0 hd) rfl hy hr) hr
theorem Cx.ldiv (K : Cx l R Z n0 Q own nm bytes maxL ret m G) {x y z : Int64} (hd : decode bytes pc = .ok (.ldiv, 1)) (hp : pc + 1 = pc') (hy : y ≠ 0) (hz : x / y = z) (hr : G h kc ks (mkF m pc' L (.long z :: S))) : G h kc ks (mkF m pc L (.long y :: .long x :: S)) := by
  subst hp hz
  exact K.step (fun p e below T c h hx hb0 t hr => XS.ldiv h hx rfl (hb hb0 hd) rfl hy hr) hr
theorem Cx.irem (K : Cx l R Z n0 Q own nm bytes maxL ret m G) {x y z : Int32} (hd : decode bytes pc = .ok (.irem, 1)) (hp : pc + 1 = pc') (hy : y ≠ 0) (hz : x % y = z) (hr : G h kc ks (mkF m pc' L (.int z :: S))) : G h kc ks (mkF m pc L (.int y :: .int x :: S)) := by
  subst hp hz
  exact K.step (fun p e below T c h hx hb0 t hr => XS.irem h hx rfl (hb hb0 hd) rfl hy (by rw [irem_eq_mod]; exact hr)) hr
theorem Cx.lrem (K : Cx l R Z n0 Q own nm bytes maxL ret m G) {x y z : Int64} (hd : decode bytes pc = .ok (.lrem, 1)) (hp : pc + 1 = pc') (hy : y ≠ 0) (hz : x % y = z) (hr : G h kc ks (mkF m pc' L (.long z :: S))) : G h kc ks (mkF m pc L (.long y :: .long x :: S)) := by
  subst hp hz
  exact K.step (fun p e below T c h hx hb0 t hr => XS.lrem h hx rfl (hb hb0 hd) rfl hy (by rw [lrem_mod]; exact hr)) hr
theorem Cx.ineg (K : Cx l R Z n0 Q own nm bytes maxL ret m G) {x z : Int32} (hd : decode bytes pc = .ok (.ineg, 1)) (hp : pc + 1 = pc') (hz : -x = z) (hr : G h kc ks (mkF m pc' L (.int z :: S))) : G h kc ks (mkF m pc L (.int x :: S)) := by
  subst hp hz
  exact K.step (fun p e below T c h hx hb0 t hr => XS.ineg h hx rfl (hb hb0 hd) rfl hr) hr
theorem Cx.lneg (K : Cx l R Z n0 Q own nm bytes maxL ret m G) {x z : Int64} (hd : decode bytes pc = .ok (.lneg, 1)) (hp : pc + 1 = pc') (hz : -x = z) (hr : G h kc ks (mkF m pc' L (.long z :: S))) : G h kc ks (mkF m pc L (.long x :: S)) := by
  subst hp hz
  exact K.step (fun p e below T c h hx hb0 t hr => XS.lneg h hx rfl (hb hb0 hd) rfl hr) hr
theorem Cx.i2b (K : Cx l R Z n0 Q own nm bytes maxL ret m G) {x : Int32} {z : Int32} (hd : decode bytes pc = .ok (.i2b, 1)) (hp : pc + 1 = pc') (hz : x.toInt8.toInt32 = z) (hr : G h kc ks (mkF m pc' L (.int z :: S))) : G h kc ks (mkF m pc L (.int x :: S)) := by
  subst hp hz
  exact K.step (fun p e below T c h hx hb0 t hr => XS.i2b h hx rfl (hb hb0 hd) rfl hr) hr
theorem Cx.i2c (K : Cx l R Z n0 Q own nm bytes maxL ret m G) {x : Int32} {z : Int32} (hd : decode bytes pc = .ok (.i2c, 1)) (hp : pc + 1 = pc') (hz : x.toUInt32.toUInt16.toUInt32.toInt32 = z) (hr : G h kc ks (mkF m pc' L (.int z :: S))) : G h kc ks (mkF m pc L (.int x :: S)) := by
  subst hp hz
  exact K.step (fun p e below T c h hx hb0 t hr => XS.i2c h hx rfl (hb hb0 hd) rfl hr) hr
theorem Cx.i2s (K : Cx l R Z n0 Q own nm bytes maxL ret m G) {x : Int32} {z : Int32} (hd : decode bytes pc = .ok (.i2s, 1)) (hp : pc + 1 = pc') (hz : x.toInt16.toInt32 = z) (hr : G h kc ks (mkF m pc' L (.int z :: S))) : G h kc ks (mkF m pc L (.int x :: S)) := by
  subst hp hz
  exact K.step (fun p e below T c h hx hb0 t hr => XS.i2s h hx rfl (hb hb0 hd) rfl hr) hr
theorem Cx.i2l (K : Cx l R Z n0 Q own nm bytes maxL ret m G) {x : Int32} {z : Int64} (hd : decode bytes pc = .ok (.i2l, 1)) (hp : pc + 1 = pc') (hz : x.toInt64 = z) (hr : G h kc ks (mkF m pc' L (.long z :: S))) : G h kc ks (mkF m pc L (.int x :: S)) := by
  subst hp hz
  exact K.step (fun p e below T c h hx hb0 t hr => XS.i2l h hx rfl (hb hb0 hd) rfl hr) hr
theorem Cx.l2i (K : Cx l R Z n0 Q own nm bytes maxL ret m G) {x : Int64} {z : Int32} (hd : decode bytes pc = .ok (.l2i, 1)) (hp : pc + 1 = pc') (hz : x.toInt32 = z) (hr : G h kc ks (mkF m pc' L (.int z :: S))) : G h kc ks (mkF m pc L (.long x :: S)) := by
  subst hp hz
  exact K.step (fun p e below T c h hx hb0 t hr => XS.l2i h hx rfl (hb hb0 hd) rfl hr) hr
theorem Cx.iinc (K : Cx l R Z n0 Q own nm bytes maxL ret m G) {k : Nat} {cst : Int} {x z : Int32} (hd : decode bytes pc = .ok (.iinc k cst, 3)) (hp : pc + 3 = pc') (hl : L[k]? = some (.val (.int x))) (hz : x + Int32.ofInt cst = z) (hl' : storeLocals L k (.int z) = some L') (hr : G h kc ks (mkF m pc' L' (S))) : G h kc ks (mkF m pc L (S)) := by
  subst hp hz
  exact K.step (fun p e below T c h hx hb0 t hr => XS.iinc h hx rfl (hb hb0 hd) hl hl' hr) hr
theorem Cx.dup (K : Cx l R Z n0 Q own nm bytes maxL ret m G) {x : Value} (hd : decode bytes pc = .ok (.dup, 1)) (hp : pc + 1 = pc') (hc : x.category = 1) (hr : G h kc ks (mkF m pc' L (x :: x :: S))) : G h kc ks (mkF m pc L (x :: S)) := by
  subst hp
  exact K.step (fun p e below T c h hx hb0 t hr => XS.dup h hx rfl (hb hb0 hd) rfl hc hr) hr
theorem Cx.pop (K : Cx l R Z n0 Q own nm bytes maxL ret m G) {x : Value} (hd : decode bytes pc = .ok (.pop, 1)) (hp : pc + 1 = pc') (hc : x.category = 1) (hr : G h kc ks (mkF m pc' L (S))) : G h kc ks (mkF m pc L (x :: S)) := by
  subst hp
  exact K.step (fun p e below T c h hx hb0 t hr => XS.pop h hx rfl (hb hb0 hd) rfl hc hr) hr
theorem Cx.dupX1 (K : Cx l R Z n0 Q own nm bytes maxL ret m G) {x y : Value} (hd : decode bytes pc = .ok (.dup_x1, 1)) (hp : pc + 1 = pc') (hc : x.category = 1) (hc2 : y.category = 1) (hr : G h kc ks (mkF m pc' L (x :: y :: x :: S))) : G h kc ks (mkF m pc L (x :: y :: S)) := by
  subst hp
  exact K.step (fun p e below T c h hx hb0 t hr => XS.dupX1 h hx rfl (hb hb0 hd) rfl hc hc2 hr) hr
theorem Cx.goto (K : Cx l R Z n0 Q own nm bytes maxL ret m G) {o : Int} (hd : decode bytes pc = .ok (.goto o, 3)) (ho : 0 ≤ (pc : Int) + o) (hp : ((pc : Int) + o).toNat = pc') (hr : G h kc ks (mkF m pc' L S)) : G h kc ks (mkF m pc L S) :=
  K.step (fun p e below T c h hx hb0 t hr => XS.goto h hx rfl (pc0 := pc) (pc' := pc') rfl (hb hb0 hd) ho hp hr) hr
theorem icmpW (cd : ClassFile.Cond) {x y : Int32} {a b : Int} (ha : x.toInt = a) (hb : y.toInt = b) : if_icmp.holds cd x y = (match cd with | .lt => decide (a < b) | .ge => decide (b ≤ a) | .gt => decide (b < a) | .le => decide (a ≤ b) | .eq => decide (a = b) | .ne => decide (a ≠ b)) := by
  subst ha hb
  cases cd <;> rw [Bool.eq_iff_iff] <;> simp [if_icmp.holds, Int32.lt_iff_toInt_lt, Int32.le_iff_toInt_le, Int32.toInt_inj]
theorem lcmpW0 (cd : ClassFile.Cond) {x y : Int64} {a b : Int} (ha : x.toInt = a) (hb : y.toInt = b) : ifCond.holds cd (if x > y then 1 else if x = y then 0 else -1) = (match cd with | .lt => decide (a < b) | .ge => decide (b ≤ a) | .gt => decide (b < a) | .le => decide (a ≤ b) | .eq => decide (a = b) | .ne => decide (a ≠ b)) := by
  subst ha hb
  rcases Int.lt_trichotomy x.toInt y.toInt with h | h | h
  · have e : (if x > y then (1 : Int32) else if x = y then 0 else -1) = -1 := by rw [if_neg (by rw [gt_iff_lt, Int64.lt_iff_toInt_lt]; omega), if_neg (by rw [← Int64.toInt_inj]; omega)]
    rw [e, if0, icmpW cd (a := -1) (b := 0) rfl rfl]
    cases cd <;> exact decide_eq_decide.mpr (by omega)
  · have e : (if x > y then (1 : Int32) else if x = y then 0 else -1) = 0 := by rw [if_neg (by rw [gt_iff_lt, Int64.lt_iff_toInt_lt]; omega), if_pos (by rw [← Int64.toInt_inj]; omega)]
    rw [e, if0, icmpW cd (a := 0) (b := 0) rfl rfl]
    cases cd <;> exact decide_eq_decide.mpr (by omega)
  · have e : (if x > y then (1 : Int32) else if x = y then 0 else -1) = 1 := by rw [if_pos (by rw [gt_iff_lt, Int64.lt_iff_toInt_lt]; omega)]
    rw [e, if0, icmpW cd (a := 1) (b := 0) rfl rfl]
    cases cd <;> exact decide_eq_decide.mpr (by omega)
theorem Cx.icmp_lt (K : Cx l R Z n0 Q own nm bytes maxL ret m G) {o : Int} {x y : Int32} {a b : Int} (hd : decode bytes pc = .ok (.if_icmp .lt o, 3)) (hp : pc + 3 = pc1) (ho : 0 ≤ (pc : Int) + o) (hq : ((pc : Int) + o).toNat = pc2) (ha : x.toInt = a) (hb' : y.toInt = b) (ht : a < b → G h kc ks (mkF m pc2 L S)) (hf : b ≤ a → G h kc ks (mkF m pc1 L S)) : G h kc ks (mkF m pc L (.int y :: .int x :: S)) := by
  subst hp
  have q := icmpW .lt ha hb'
  by_cases hc : a < b
  · exact K.step (fun p e below T c h hx hb0 t hr => XS.icmpYes h hx rfl (pc0 := pc) (pc' := pc2) rfl (hb hb0 hd) rfl (q.trans (decide_eq_true hc)) ho hq hr) (ht hc)
  · exact K.step (fun p e below T c h hx hb0 t hr => XS.icmpNo h hx rfl (hb hb0 hd) rfl (q.trans (decide_eq_false hc)) hr) (hf (by omega))
theorem Cx.if_lt (K : Cx l R Z n0 Q own nm bytes maxL ret m G) {o : Int} {x : Int32} {a : Int} (hd : decode bytes pc = .ok (.ifCond .lt o, 3)) (hp : pc + 3 = pc1) (ho : 0 ≤ (pc : Int) + o) (hq : ((pc : Int) + o).toNat = pc2) (ha : x.toInt = a) (ht : a < 0 → G h kc ks (mkF m pc2 L S)) (hf : 0 ≤ a → G h kc ks (mkF m pc1 L S)) : G h kc ks (mkF m pc L (.int x :: S)) := by
  subst hp
  have q := (if0 .lt x).trans (icmpW .lt ha (b := 0) rfl)
  by_cases hc : a < 0
  · exact K.step (fun p e below T c h hx hb0 t hr => XS.ifYes h hx rfl (pc0 := pc) (pc' := pc2) rfl (hb hb0 hd) rfl (q.trans (decide_eq_true hc)) ho hq hr) (ht hc)
  · exact K.step (fun p e below T c h hx hb0 t hr => XS.ifNo h hx rfl (hb hb0 hd) rfl (q.trans (decide_eq_false hc)) hr) (hf (by omega))
theorem Cx.lcmp_lt (K : Cx l R Z n0 Q own nm bytes maxL ret m G) {o : Int} {x y : Int64} {a b : Int} (hd0 : decode bytes pc = .ok (.lcmp, 1)) (hd : decode bytes (pc + 1) = .ok (.ifCond .lt o, 3)) (hp : pc + 4 = pc1) (ho : 0 ≤ ((pc + 1 : Nat) : Int) + o) (hq : (((pc + 1 : Nat) : Int) + o).toNat = pc2) (ha : x.toInt = a) (hb' : y.toInt = b) (ht : a < b → G h kc ks (mkF m pc2 L S)) (hf : b ≤ a → G h kc ks (mkF m pc1 L S)) : G h kc ks (mkF m pc L (.long y :: .long x :: S)) := by
  subst hp
  have q := lcmpW0 .lt ha hb'
  refine K.step (f' := mkF m (pc + 1) L (.int (if x > y then 1 else if x = y then 0 else -1) :: S)) (fun p e below T c h hx hb0 t hr => XS.lcmp h hx rfl (hb hb0 hd0) rfl hr) ?_
  by_cases hc : a < b
  · exact K.step (fun p e below T c h hx hb0 t hr => XS.ifYes h hx rfl (pc0 := pc + 1) (pc' := pc2) rfl (hb hb0 hd) rfl (q.trans (decide_eq_true hc)) ho hq hr) (ht hc)
  · exact K.step (fun p e below T c h hx hb0 t hr => XS.ifNo h hx rfl (hb hb0 hd) rfl (q.trans (decide_eq_false hc)) hr) (hf (by omega))
theorem Cx.icmp_ge (K : Cx l R Z n0 Q own nm bytes maxL ret m G) {o : Int} {x y : Int32} {a b : Int} (hd : decode bytes pc = .ok (.if_icmp .ge o, 3)) (hp : pc + 3 = pc1) (ho : 0 ≤ (pc : Int) + o) (hq : ((pc : Int) + o).toNat = pc2) (ha : x.toInt = a) (hb' : y.toInt = b) (ht : b ≤ a → G h kc ks (mkF m pc2 L S)) (hf : a < b → G h kc ks (mkF m pc1 L S)) : G h kc ks (mkF m pc L (.int y :: .int x :: S)) := by
  subst hp
  have q := icmpW .ge ha hb'
  by_cases hc : b ≤ a
  · exact K.step (fun p e below T c h hx hb0 t hr => XS.icmpYes h hx rfl (pc0 := pc) (pc' := pc2) rfl (hb hb0 hd) rfl (q.trans (decide_eq_true hc)) ho hq hr) (ht hc)
  · exact K.step (fun p e below T c h hx hb0 t hr => XS.icmpNo h hx rfl (hb hb0 hd) rfl (q.trans (decide_eq_false hc)) hr) (hf (by omega))
theorem Cx.if_ge (K : Cx l R Z n0 Q own nm bytes maxL ret m G) {o : Int} {x : Int32} {a : Int} (hd : decode bytes pc = .ok (.ifCond .ge o, 3)) (hp : pc + 3 = pc1) (ho : 0 ≤ (pc : Int) + o) (hq : ((pc : Int) + o).toNat = pc2) (ha : x.toInt = a) (ht : 0 ≤ a → G h kc ks (mkF m pc2 L S)) (hf : a < 0 → G h kc ks (mkF m pc1 L S)) : G h kc ks (mkF m pc L (.int x :: S)) := by
  subst hp
  have q := (if0 .ge x).trans (icmpW .ge ha (b := 0) rfl)
  by_cases hc : 0 ≤ a
  · exact K.step (fun p e below T c h hx hb0 t hr => XS.ifYes h hx rfl (pc0 := pc) (pc' := pc2) rfl (hb hb0 hd) rfl (q.trans (decide_eq_true hc)) ho hq hr) (ht hc)
  · exact K.step (fun p e below T c h hx hb0 t hr => XS.ifNo h hx rfl (hb hb0 hd) rfl (q.trans (decide_eq_false hc)) hr) (hf (by omega))
theorem Cx.lcmp_ge (K : Cx l R Z n0 Q own nm bytes maxL ret m G) {o : Int} {x y : Int64} {a b : Int} (hd0 : decode bytes pc = .ok (.lcmp, 1)) (hd : decode bytes (pc + 1) = .ok (.ifCond .ge o, 3)) (hp : pc + 4 = pc1) (ho : 0 ≤ ((pc + 1 : Nat) : Int) + o) (hq : (((pc + 1 : Nat) : Int) + o).toNat = pc2) (ha : x.toInt = a) (hb' : y.toInt = b) (ht : b ≤ a → G h kc ks (mkF m pc2 L S)) (hf : a < b → G h kc ks (mkF m pc1 L S)) : G h kc ks (mkF m pc L (.long y :: .long x :: S)) := by
  subst hp
  have q := lcmpW0 .ge ha hb'
  refine K.step (f' := mkF m (pc + 1) L (.int (if x > y then 1 else if x = y then 0 else -1) :: S)) (fun p e below T c h hx hb0 t hr => XS.lcmp h hx rfl (hb hb0 hd0) rfl hr) ?_
  by_cases hc : b ≤ a
  · exact K.step (fun p e below T c h hx hb0 t hr => XS.ifYes h hx rfl (pc0 := pc + 1) (pc' := pc2) rfl (hb hb0 hd) rfl (q.trans (decide_eq_true hc)) ho hq hr) (ht hc)
  · exact K.step (fun p e below T c h hx hb0 t hr => XS.ifNo h hx rfl (hb hb0 hd) rfl (q.trans (decide_eq_false hc)) hr) (hf (by omega))
theorem Cx.icmp_gt (K : Cx l R Z n0 Q own nm bytes maxL ret m G) {o : Int} {x y : Int32} {a b : Int} (hd : decode bytes pc = .ok (.if_icmp .gt o, 3)) (hp : pc + 3 = pc1) (ho : 0 ≤ (pc : Int) + o) (hq : ((pc : Int) + o).toNat = pc2) (ha : x.toInt = a) (hb' : y.toInt = b) (ht : b < a → G h kc ks (mkF m pc2 L S)) (hf : a ≤ b → G h kc ks (mkF m pc1 L S)) : G h kc ks (mkF m pc L (.int y :: .int x :: S)) := by
  subst hp
  have q := icmpW .gt ha hb'
  by_cases hc : b < a
  · exact K.step (fun p e below T c h hx hb0 t hr => XS.icmpYes h hx rfl (pc0 := pc) (pc' := pc2) rfl (hb hb0 hd) rfl (q.trans (decide_eq_true hc)) ho hq hr) (ht hc)
  · exact K.step (fun p e below T c h hx hb0 t hr => XS.icmpNo h hx rfl (hb hb0 hd) rfl (q.trans (decide_eq_false hc)) hr) (hf (by omega))
theorem Cx.if_gt (K : Cx l R Z n0 Q own nm bytes maxL ret m G) {o : Int} {x : Int32} {a : Int} (hd : decode bytes pc = .ok (.ifCond .gt o, 3)) (hp : pc + 3 = pc1) (ho : 0 ≤ (pc : Int) + o) (hq : ((pc : Int) + o).toNat = pc2) (ha : x.toInt = a) (ht : 0 < a → G h kc ks (mkF m pc2 L S)) (hf : a ≤ 0 → G h kc ks (mkF m pc1 L S)) : G h kc ks (mkF m pc L (.int x :: S)) := by
  subst hp
  have q := (if0 .gt x).trans (icmpW .gt ha (b := 0) rfl)
  by_cases hc : 0 < a
  · exact K.step (fun p e below T c h hx hb0 t hr => XS.ifYes h hx rfl (pc0 := pc) (pc' := pc2) rfl (hb hb0 hd) rfl (q.trans (decide_eq_true hc)) ho hq hr) (ht hc)
  · exact K.step (fun p e below T c h hx hb0 t hr => XS.ifNo h hx rfl (hb hb0 hd) rfl (q.trans (decide_eq_false hc)) hr) (hf (by omega))
theorem Cx.lcmp_gt (K : Cx l R Z n0 Q own nm bytes maxL ret m G) {o : Int} {x y : Int64} {a b : Int} (hd0 : decode bytes pc = .ok (.lcmp, 1)) (hd : decode bytes (pc + 1) = .ok (.ifCond .gt o, 3)) (hp : pc + 4 = pc1) (ho : 0 ≤ ((pc + 1 : Nat) : Int) + o) (hq : (((pc + 1 : Nat) : Int) + o).toNat = pc2) (ha : x.toInt = a) (hb' : y.toInt = b) (ht : b < a → G h kc ks (mkF m pc2 L S)) (hf : a ≤ b → G h kc ks (mkF m pc1 L S)) : G h kc ks (mkF m pc L (.long y :: .long x :: S)) := by
  subst hp
  have q := lcmpW0 .gt ha hb'
  refine K.step (f' := mkF m (pc + 1) L (.int (if x > y then 1 else if x = y then 0 else -1) :: S)) (fun p e below T c h hx hb0 t hr => XS.lcmp h hx rfl (hb hb0 hd0) rfl hr) ?_
  by_cases hc : b < a
  · exact K.step (fun p e below T c h hx hb0 t hr => XS.ifYes h hx rfl (pc0 := pc + 1) (pc' := pc2) rfl (hb hb0 hd) rfl (q.trans (decide_eq_true hc)) ho hq hr) (ht hc)
  · exact K.step (fun p e below T c h hx hb0 t hr => XS.ifNo h hx rfl (hb hb0 hd) rfl (q.trans (decide_eq_false hc)) hr) (hf (by omega))
theorem Cx.icmp_le (K : Cx l R Z n0 Q own nm bytes maxL ret m G) {o : Int} {x y : Int32} {a b : Int} (hd : decode bytes pc = .ok (.if_icmp .le o, 3)) (hp : pc + 3 = pc1) (ho : 0 ≤ (pc : Int) + o) (hq : ((pc : Int) + o).toNat = pc2) (ha : x.toInt = a) (hb' : y.toInt = b) (ht : a ≤ b → G h kc ks (mkF m pc2 L S)) (hf : b < a → G h kc ks (mkF m pc1 L S)) : G h kc ks (mkF m pc L (.int y :: .int x :: S)) := by
  subst hp
  have q := icmpW .le ha hb'
  by_cases hc : a ≤ b
  · exact K.step (fun p e below T c h hx hb0 t hr => XS.icmpYes h hx rfl (pc0 := pc) (pc' := pc2) rfl (hb hb0 hd) rfl (q.trans (decide_eq_true hc)) ho hq hr) (ht hc)
  · exact K.step (fun p e below T c h hx hb0 t hr => XS.icmpNo h hx rfl (hb hb0 hd) rfl (q.trans (decide_eq_false hc)) hr) (hf (by omega))
theorem Cx.if_le (K : Cx l R Z n0 Q own nm bytes maxL ret m G) {o : Int} {x : Int32} {a : Int} (hd : decode bytes pc = .ok (.ifCond .le o, 3)) (hp : pc + 3 = pc1) (ho : 0 ≤ (pc : Int) + o) (hq : ((pc : Int) + o).toNat = pc2) (ha : x.toInt = a) (ht : a ≤ 0 → G h kc ks (mkF m pc2 L S)) (hf : 0 < a → G h kc ks (mkF m pc1 L S)) : G h kc ks (mkF m pc L (.int x :: S)) := by
  subst hp
  have q := (if0 .le x).trans (icmpW .le ha (b := 0) rfl)
  by_cases hc : a ≤ 0
  · exact K.step (fun p e below T c h hx hb0 t hr => XS.ifYes h hx rfl (pc0 := pc) (pc' := pc2) rfl (hb hb0 hd) rfl (q.trans (decide_eq_true hc)) ho hq hr) (ht hc)
  · exact K.step (fun p e below T c h hx hb0 t hr => XS.ifNo h hx rfl (hb hb0 hd) rfl (q.trans (decide_eq_false hc)) hr) (hf (by omega))
theorem Cx.lcmp_le (K : Cx l R Z n0 Q own nm bytes maxL ret m G) {o : Int} {x y : Int64} {a b : Int} (hd0 : decode bytes pc = .ok (.lcmp, 1)) (hd : decode bytes (pc + 1) = .ok (.ifCond .le o, 3)) (hp : pc + 4 = pc1) (ho : 0 ≤ ((pc + 1 : Nat) : Int) + o) (hq : (((pc + 1 : Nat) : Int) + o).toNat = pc2) (ha : x.toInt = a) (hb' : y.toInt = b) (ht : a ≤ b → G h kc ks (mkF m pc2 L S)) (hf : b < a → G h kc ks (mkF m pc1 L S)) : G h kc ks (mkF m pc L (.long y :: .long x :: S)) := by
  subst hp
  have q := lcmpW0 .le ha hb'
  refine K.step (f' := mkF m (pc + 1) L (.int (if x > y then 1 else if x = y then 0 else -1) :: S)) (fun p e below T c h hx hb0 t hr => XS.lcmp h hx rfl (hb hb0 hd0) rfl hr) ?_
  by_cases hc : a ≤ b
  · exact K.step (fun p e below T c h hx hb0 t hr => XS.ifYes h hx rfl (pc0 := pc + 1) (pc' := pc2) rfl (hb hb0 hd) rfl (q.trans (decide_eq_true hc)) ho hq hr) (ht hc)
  · exact K.step (fun p e below T c h hx hb0 t hr => XS.ifNo h hx rfl (hb hb0 hd) rfl (q.trans (decide_eq_false hc)) hr) (hf (by omega))
theorem Cx.icmp_eq (K : Cx l R Z n0 Q own nm bytes maxL ret m G) {o : Int} {x y : Int32} {a b : Int} (hd : decode bytes pc = .ok (.if_icmp .eq o, 3)) (hp : pc + 3 = pc1) (ho : 0 ≤ (pc : Int) + o) (hq : ((pc : Int) + o).toNat = pc2) (ha : x.toInt = a) (hb' : y.toInt = b) (ht : a = b → G h kc ks (mkF m pc2 L S)) (hf : a ≠ b → G h kc ks (mkF m pc1 L S)) : G h kc ks (mkF m pc L (.int y :: .int x :: S)) := by
  subst hp
  have q := icmpW .eq ha hb'
  by_cases hc : a = b
  · exact K.step (fun p e below T c h hx hb0 t hr => XS.icmpYes h hx rfl (pc0 := pc) (pc' := pc2) rfl (hb hb0 hd) rfl (q.trans (decide_eq_true hc)) ho hq hr) (ht hc)
  · exact K.step (fun p e below T c h hx hb0 t hr => XS.icmpNo h hx rfl (hb hb0 hd) rfl (q.trans (decide_eq_false hc)) hr) (hf (by omega))
theorem Cx.if_eq (K : Cx l R Z n0 Q own nm bytes maxL ret m G) {o : Int} {x : Int32} {a : Int} (hd : decode bytes pc = .ok (.ifCond .eq o, 3)) (hp : pc + 3 = pc1) (ho : 0 ≤ (pc : Int) + o) (hq : ((pc : Int) + o).toNat = pc2) (ha : x.toInt = a) (ht : a = 0 → G h kc ks (mkF m pc2 L S)) (hf : a ≠ 0 → G h kc ks (mkF m pc1 L S)) : G h kc ks (mkF m pc L (.int x :: S)) := by
  subst hp
  have q := (if0 .eq x).trans (icmpW .eq ha (b := 0) rfl)
  by_cases hc : a = 0
  · exact K.step (fun p e below T c h hx hb0 t hr => XS.ifYes h hx rfl (pc0 := pc) (pc' := pc2) rfl (hb hb0 hd) rfl (q.trans (decide_eq_true hc)) ho hq hr) (ht hc)
  · exact K.step (fun p e below T c h hx hb0 t hr => XS.ifNo h hx rfl (hb hb0 hd) rfl (q.trans (decide_eq_false hc)) hr) (hf (by omega))
theorem Cx.lcmp_eq (K : Cx l R Z n0 Q own nm bytes maxL ret m G) {o : Int} {x y : Int64} {a b : Int} (hd0 : decode bytes pc = .ok (.lcmp, 1)) (hd : decode bytes (pc + 1) = .ok (.ifCond .eq o, 3)) (hp : pc + 4 = pc1) (ho : 0 ≤ ((pc + 1 : Nat) : Int) + o) (hq : (((pc + 1 : Nat) : Int) + o).toNat = pc2) (ha : x.toInt = a) (hb' : y.toInt = b) (ht : a = b → G h kc ks (mkF m pc2 L S)) (hf : a ≠ b → G h kc ks (mkF m pc1 L S)) : G h kc ks (mkF m pc L (.long y :: .long x :: S)) := by
  subst hp
  have q := lcmpW0 .eq ha hb'
  refine K.step (f' := mkF m (pc + 1) L (.int (if x > y then 1 else if x = y then 0 else -1) :: S)) (fun p e below T c h hx hb0 t hr => XS.lcmp h hx rfl (hb hb0 hd0) rfl hr) ?_
  by_cases hc : a = b
  · exact K.step (fun p e below T c h hx hb0 t hr => XS.ifYes h hx rfl (pc0 := pc + 1) (pc' := pc2) rfl (hb hb0 hd) rfl (q.trans (decide_eq_true hc)) ho hq hr) (ht hc)
  · exact K.step (fun p e below T c h hx hb0 t hr => XS.ifNo h hx rfl (hb hb0 hd) rfl (q.trans (decide_eq_false hc)) hr) (hf (by omega))
theorem Cx.icmp_ne (K : Cx l R Z n0 Q own nm bytes maxL ret m G) {o : Int} {x y : Int32} {a b : Int} (hd : decode bytes pc = .ok (.if_icmp .ne o, 3)) (hp : pc + 3 = pc1) (ho : 0 ≤ (pc : Int) + o) (hq : ((pc : Int) + o).toNat = pc2) (ha : x.toInt = a) (hb' : y.toInt = b) (ht : a ≠ b → G h kc ks (mkF m pc2 L S)) (hf : a = b → G h kc ks (mkF m pc1 L S)) : G h kc ks (mkF m pc L (.int y :: .int x :: S)) := by
  subst hp
  have q := icmpW .ne ha hb'
  by_cases hc : a ≠ b
  · exact K.step (fun p e below T c h hx hb0 t hr => XS.icmpYes h hx rfl (pc0 := pc) (pc' := pc2) rfl (hb hb0 hd) rfl (q.trans (decide_eq_true hc)) ho hq hr) (ht hc)
  · exact K.step (fun p e below T c h hx hb0 t hr => XS.icmpNo h hx rfl (hb hb0 hd) rfl (q.trans (decide_eq_false hc)) hr) (hf (by omega))
theorem Cx.if_ne (K : Cx l R Z n0 Q own nm bytes maxL ret m G) {o : Int} {x : Int32} {a : Int} (hd : decode bytes pc = .ok (.ifCond .ne o, 3)) (hp : pc + 3 = pc1) (ho : 0 ≤ (pc : Int) + o) (hq : ((pc : Int) + o).toNat = pc2) (ha : x.toInt = a) (ht : a ≠ 0 → G h kc ks (mkF m pc2 L S)) (hf : a = 0 → G h kc ks (mkF m pc1 L S)) : G h kc ks (mkF m pc L (.int x :: S)) := by
  subst hp
  have q := (if0 .ne x).trans (icmpW .ne ha (b := 0) rfl)
  by_cases hc : a ≠ 0
  · exact K.step (fun p e below T c h hx hb0 t hr => XS.ifYes h hx rfl (pc0 := pc) (pc' := pc2) rfl (hb hb0 hd) rfl (q.trans (decide_eq_true hc)) ho hq hr) (ht hc)
  · exact K.step (fun p e below T c h hx hb0 t hr => XS.ifNo h hx rfl (hb hb0 hd) rfl (q.trans (decide_eq_false hc)) hr) (hf (by omega))
theorem Cx.lcmp_ne (K : Cx l R Z n0 Q own nm bytes maxL ret m G) {o : Int} {x y : Int64} {a b : Int} (hd0 : decode bytes pc = .ok (.lcmp, 1)) (hd : decode bytes (pc + 1) = .ok (.ifCond .ne o, 3)) (hp : pc + 4 = pc1) (ho : 0 ≤ ((pc + 1 : Nat) : Int) + o) (hq : (((pc + 1 : Nat) : Int) + o).toNat = pc2) (ha : x.toInt = a) (hb' : y.toInt = b) (ht : a ≠ b → G h kc ks (mkF m pc2 L S)) (hf : a = b → G h kc ks (mkF m pc1 L S)) : G h kc ks (mkF m pc L (.long y :: .long x :: S)) := by
  subst hp
  have q := lcmpW0 .ne ha hb'
  refine K.step (f' := mkF m (pc + 1) L (.int (if x > y then 1 else if x = y then 0 else -1) :: S)) (fun p e below T c h hx hb0 t hr => XS.lcmp h hx rfl (hb hb0 hd0) rfl hr) ?_
  by_cases hc : a ≠ b
  · exact K.step (fun p e below T c h hx hb0 t hr => XS.ifYes h hx rfl (pc0 := pc + 1) (pc' := pc2) rfl (hb hb0 hd) rfl (q.trans (decide_eq_true hc)) ho hq hr) (ht hc)
  · exact K.step (fun p e below T c h hx hb0 t hr => XS.ifNo h hx rfl (hb hb0 hd) rfl (q.trans (decide_eq_false hc)) hr) (hf (by omega))
theorem Cx.ifneB (K : Cx l R Z n0 Q own nm bytes maxL ret m G) {o : Int} {P : Prop} [Decidable P] (hd : decode bytes pc = .ok (.ifCond .ne o, 3)) (hp : pc + 3 = pc1) (ho : 0 ≤ (pc : Int) + o) (hq : ((pc : Int) + o).toNat = pc2) (ht : P → G h kc ks (mkF m pc2 L S)) (hf : ¬ P → G h kc ks (mkF m pc1 L S)) : G h kc ks (mkF m pc L (.int (b2 P) :: S)) :=
  K.if_ne hd hp ho hq rfl (fun q => ht ((b2_ne0 P).mp q)) (fun q => hf ((b2_eq0 P).mp q))
theorem Cx.ifeqB (K : Cx l R Z n0 Q own nm bytes maxL ret m G) {o : Int} {P : Prop} [Decidable P] (hd : decode bytes pc = .ok (.ifCond .eq o, 3)) (hp : pc + 3 = pc1) (ho : 0 ≤ (pc : Int) + o) (hq : ((pc : Int) + o).toNat = pc2) (ht : ¬ P → G h kc ks (mkF m pc2 L S)) (hf : P → G h kc ks (mkF m pc1 L S)) : G h kc ks (mkF m pc L (.int (b2 P) :: S)) :=
  K.if_eq hd hp ho hq rfl (fun q => ht ((b2_eq0 P).mp q)) (fun q => hf ((b2_ne0 P).mp q))
theorem Cx.icmpneB (K : Cx l R Z n0 Q own nm bytes maxL ret m G) {o : Int} {P P' : Prop} [Decidable P] [Decidable P'] (hd : decode bytes pc = .ok (.if_icmp .ne o, 3)) (hp : pc + 3 = pc1) (ho : 0 ≤ (pc : Int) + o) (hq : ((pc : Int) + o).toNat = pc2) (ht : ¬ (P ↔ P') → G h kc ks (mkF m pc2 L S)) (hf : (P ↔ P') → G h kc ks (mkF m pc1 L S)) : G h kc ks (mkF m pc L (.int (b2 P') :: .int (b2 P) :: S)) :=
  K.icmp_ne hd hp ho hq rfl rfl (fun q => ht (fun z => q ((b2_inj P P').mpr z))) (fun q => hf ((b2_inj P P').mp q))
theorem Cx.icmpeqB (K : Cx l R Z n0 Q own nm bytes maxL ret m G) {o : Int} {P P' : Prop} [Decidable P] [Decidable P'] (hd : decode bytes pc = .ok (.if_icmp .eq o, 3)) (hp : pc + 3 = pc1) (ho : 0 ≤ (pc : Int) + o) (hq : ((pc : Int) + o).toNat = pc2) (ht : (P ↔ P') → G h kc ks (mkF m pc2 L S)) (hf : ¬ (P ↔ P') → G h kc ks (mkF m pc1 L S)) : G h kc ks (mkF m pc L (.int (b2 P') :: .int (b2 P) :: S)) :=
  K.icmp_eq hd hp ho hq rfl rfl (fun q => ht ((b2_inj P P').mp q)) (fun q => hf (fun z => q ((b2_inj P P').mpr z)))
theorem Cx.ifnull0 (K : Cx l R Z n0 Q own nm bytes maxL ret m G) {o : Int} (hd : decode bytes pc = .ok (.ifnull o, 3)) (ho : 0 ≤ (pc : Int) + o) (hq : ((pc : Int) + o).toNat = pc2) (hr : G h kc ks (mkF m pc2 L S)) : G h kc ks (mkF m pc L (.null :: S)) :=
  K.step (fun p e below T c h hx hb0 t hr => XS.ifnullYes h hx rfl (pc0 := pc) (pc' := pc2) rfl (hb hb0 hd) rfl ho hq hr) hr
theorem Cx.ifnull1 (K : Cx l R Z n0 Q own nm bytes maxL ret m G) {o : Int} {b : Addr} (hd : decode bytes pc = .ok (.ifnull o, 3)) (hp : pc + 3 = pc') (hr : G h kc ks (mkF m pc' L S)) : G h kc ks (mkF m pc L (.ref b :: S)) := by
  subst hp
  exact K.step (fun p e below T c h hx hb0 t hr => XS.ifnullNo h hx rfl (hb hb0 hd) rfl hr) hr
theorem Cx.ifnonnull1 (K : Cx l R Z n0 Q own nm bytes maxL ret m G) {o : Int} {b : Addr} (hd : decode bytes pc = .ok (.ifnonnull o, 3)) (ho : 0 ≤ (pc : Int) + o) (hq : ((pc : Int) + o).toNat = pc2) (hr : G h kc ks (mkF m pc2 L S)) : G h kc ks (mkF m pc L (.ref b :: S)) :=
  K.step (fun p e below T c h hx hb0 t hr => XS.ifnonnullYes h hx rfl (pc0 := pc) (pc' := pc2) rfl (hb hb0 hd) rfl ho hq hr) hr
theorem Cx.ifnonnull0 (K : Cx l R Z n0 Q own nm bytes maxL ret m G) {o : Int} (hd : decode bytes pc = .ok (.ifnonnull o, 3)) (hp : pc + 3 = pc') (hr : G h kc ks (mkF m pc' L S)) : G h kc ks (mkF m pc L (.null :: S)) := by
  subst hp
  exact K.step (fun p e below T c h hx hb0 t hr => XS.ifnonnullNo h hx rfl (hb hb0 hd) rfl hr) hr
theorem Cx.acmpNe (K : Cx l R Z n0 Q own nm bytes maxL ret m G) {o : Int} {a b : Addr} (hd : decode bytes pc = .ok (.if_acmp .ne o, 3)) (hp : pc + 3 = pc1) (ho : 0 ≤ (pc : Int) + o) (hq : ((pc : Int) + o).toNat = pc2) (ht : a ≠ b → G h kc ks (mkF m pc2 L S)) (hf : a = b → G h kc ks (mkF m pc1 L S)) : G h kc ks (mkF m pc L (.ref b :: .ref a :: S)) := by
  subst hp
  by_cases hc : a = b
  · exact K.step (fun p e below T c h hx hb0 t hr => XS.acmpNo h hx rfl (hb hb0 hd) rfl (by simp [if_acmp.holds, hc]) hr) (hf hc)
  · exact K.step (fun p e below T c h hx hb0 t hr => XS.acmpYes h hx rfl (pc0 := pc) (pc' := pc2) rfl (hb hb0 hd) rfl (by simp [if_acmp.holds, hc]) ho hq hr) (ht hc)
theorem Cx.acmpEq (K : Cx l R Z n0 Q own nm bytes maxL ret m G) {o : Int} {a b : Addr} (hd : decode bytes pc = .ok (.if_acmp .eq o, 3)) (hp : pc + 3 = pc1) (ho : 0 ≤ (pc : Int) + o) (hq : ((pc : Int) + o).toNat = pc2) (ht : a = b → G h kc ks (mkF m pc2 L S)) (hf : a ≠ b → G h kc ks (mkF m pc1 L S)) : G h kc ks (mkF m pc L (.ref b :: .ref a :: S)) := by
  subst hp
  by_cases hc : a = b
  · exact K.step (fun p e below T c h hx hb0 t hr => XS.acmpYes h hx rfl (pc0 := pc) (pc' := pc2) rfl (hb hb0 hd) rfl (by simp [if_acmp.holds, hc]) ho hq hr) (ht hc)
  · exact K.step (fun p e below T c h hx hb0 t hr => XS.acmpNo h hx rfl (hb hb0 hd) rfl (by simp [if_acmp.holds, hc]) hr) (hf hc)
theorem Cx.lsHit (K : Cx l R Z n0 Q own nm bytes maxL ret m G) {dflt : Int} {pairs : Array (Int × Int)} {len : Nat} {k : Int32} {a off : Int} (hd : decode bytes pc = .ok (.lookupswitch dflt pairs, len)) (hsorted : (pairs.toList.zip (pairs.toList.drop 1)).all (fun (a, next) => a.1 < next.1) = true) (hfind : pairs.find? (·.1 == k.toInt) = some (a, off)) (ho : 0 ≤ (pc : Int) + off) (hq : ((pc : Int) + off).toNat = pc2) (hr : G h kc ks (mkF m pc2 L S)) : G h kc ks (mkF m pc L (.int k :: S)) := by
  subst hq
  exact K.stepX (h' := h) (fun p e s args below meth c T locs X eT hx hb0 hown hZ => ⟨T, X, eT, fun t hr => X.lookupswitchHit hx (g := mkF m pc L (.int k :: S)) rfl rfl (hb hb0 hd) hsorted hfind ho _ hr⟩) hr
theorem Cx.lsMiss (K : Cx l R Z n0 Q own nm bytes maxL ret m G) {dflt : Int} {pairs : Array (Int × Int)} {len : Nat} {k : Int32} (hd : decode bytes pc = .ok (.lookupswitch dflt pairs, len)) (hsorted : (pairs.toList.zip (pairs.toList.drop 1)).all (fun (a, next) => a.1 < next.1) = true) (hfind : ∀ p ∈ pairs.toList, p.1 ≠ k.toInt) (ho : 0 ≤ (pc : Int) + dflt) (hq : ((pc : Int) + dflt).toNat = pc2) (hr : G h kc ks (mkF m pc2 L S)) : G h kc ks (mkF m pc L (.int k :: S)) := by
  subst hq
  exact K.stepX (h' := h) (fun p e s args below meth c T locs X eT hx hb0 hown hZ => ⟨T, X, eT, fun t hr => X.lookupswitchMiss hx (g := mkF m pc L (.int k :: S)) rfl rfl (hb hb0 hd) hsorted (find_miss hfind) ho _ hr⟩) hr
theorem Cx.ldcI (K : Cx l R Z n0 Q own nm bytes maxL ret m G) {index : Nat} {v : Int32} (hd : decode bytes pc = .ok (.ldc index, 2)) (hp : pc + 2 = pc') (w : (Cond.constant own index v).before a0 Z = true) (hr : G h kc ks (mkF m pc' L (.int v :: S))) : G h kc ks (mkF m pc L S) := by
  subst hp
  exact K.stepX (h' := h) (fun p e s args below meth c T locs X eT hx hb0 hown hZ => ⟨T, X, eT, X.ldcInt hx hown (mvT hZ w) (g := mkF m pc L S) rfl (hb hb0 hd)⟩) hr
theorem Cx.ldcwI (K : Cx l R Z n0 Q own nm bytes maxL ret m G) {index : Nat} {v : Int32} (hd : decode bytes pc = .ok (.ldc_w index, 3)) (hp : pc + 3 = pc') (w : (Cond.constant own index v).before a0 Z = true) (hr : G h kc ks (mkF m pc' L (.int v :: S))) : G h kc ks (mkF m pc L S) := by
  subst hp
  exact K.stepX (h' := h) (fun p e s args below meth c T locs X eT hx hb0 hown hZ => ⟨T, X, eT, X.ldcwInt hx hown (mvT hZ w) (g := mkF m pc L S) rfl (hb hb0 hd)⟩) hr
theorem Cx.ldc2J (K : Cx l R Z n0 Q own nm bytes maxL ret m G) {index : Nat} {v : Int64} (hd : decode bytes pc = .ok (.ldc2_w index, 3)) (hp : pc + 3 = pc') (w : (Cond.constantLong own index v).before a0 Z = true) (hr : G h kc ks (mkF m pc' L (.long v :: S))) : G h kc ks (mkF m pc L S) := by
  subst hp
  exact K.stepX (h' := h) (fun p e s args below meth c T locs X eT hx hb0 hown hZ => ⟨T, X, eT, X.ldc2Long hx hown (mvT hZ w) (g := mkF m pc L S) rfl (hb hb0 hd)⟩) hr
theorem Cx.ldc2D (K : Cx l R Z n0 Q own nm bytes maxL ret m G) {index : Nat} {v : UInt64} (hd : decode bytes pc = .ok (.ldc2_w index, 3)) (hp : pc + 3 = pc') (w : (Cond.constantDouble own index v).before a0 Z = true) (hr : G h kc ks (mkF m pc' L (.double v :: S))) : G h kc ks (mkF m pc L S) := by
  subst hp
  exact K.stepX (h' := h) (fun p e s args below meth c T locs X eT hx hb0 hown hZ => ⟨T, X, eT, X.ldc2DoubleC hx hown (mvT hZ w) (g := mkF m pc L S) rfl (hb hb0 hd)⟩) hr
theorem Cx.getf (K : Cx l R Z n0 Q own nm bytes maxL ret m G) {R0 O n d host : String} {index : Nat} {a : Addr} {v : Value} (hd : decode bytes pc = .ok (.getfield index, 3)) (hp : pc + 3 = pc') (w : (Cond.fieldLink own index R0 n d).before a0 Z = true ∨ (Cond.fieldLinkNest own index R0 n d host).before a0 Z = true) (via : Via Z R0 O n d) (F : Fld Z h a O n d v) (hr : G h kc ks (mkF m pc' L (v :: S))) : G h kc ks (mkF m pc L (.ref a :: S)) := by
  subst hp
  exact K.stepX (h' := h) (fun p e s args below meth c T locs X eT hx hb0 hown hZ => RoadKit.getF X hx hZ hown w via eT F (g := mkF m pc L (.ref a :: S)) rfl rfl (hb hb0 hd)) hr
theorem Cx.gets (K : Cx l R Z n0 Q own nm bytes maxL ret m G) {R0 O n d host : String} {index : Nat} {v : Value} (hd : decode bytes pc = .ok (.getstatic index, 3)) (hp : pc + 3 = pc') (w : (Cond.fieldLink own index R0 n d).before a0 Z = true ∨ (Cond.fieldLinkNest own index R0 n d host).before a0 Z = true) (via : Via Z R0 O n d) (F : Sta Z h O n d v) (hr : G h kc ks (mkF m pc' L (v :: S))) : G h kc ks (mkF m pc L S) := by
  subst hp
  exact K.stepX (h' := h) (fun p e s args below meth c T locs X eT hx hb0 hown hZ => RoadKit.getS2 X hx hZ hown w via eT F (g := mkF m pc L S) rfl (hb hb0 hd)) hr
theorem Cx.putf (K : Cx l R Z n0 Q own nm bytes maxL ret m G) {R0 O n d host C : String} {index kk : Nat} {ty : FieldType} {a : Addr} {v old : Value} (hd : decode bytes pc = .ok (.putfield index, 3)) (hp : pc + 3 = pc') (w : (Cond.fieldLink own index R0 n d).before a0 Z = true ∨ (Cond.fieldLinkNest own index R0 n d host).before a0 Z = true) (via : Via Z R0 O n d) (F : Fld Z h a O n d old) (E : Exa Z h a C)
    (LL : (Cond.lays C O n d).before a0 Z = true ∨ ((Cond.laysFinal C O n d).before a0 Z = true ∧ own = O ∧ nm = "<init>")) (wi : (Cond.instantiable C kk).before a0 Z = true) (hty : parseFieldDescriptor d = some ty) (hn : narrow ty v = v) (hf : fits ty v = true) (ga : n0 ≤ a)
    (hr : ∀ h', Wr h h' a (Jvm.RoadKit.slotOf Z O n d) v → G h' kc ks (mkF m pc' L S)) : G h kc ks (mkF m pc L (v :: .ref a :: S)) := by
  obtain ⟨p, e, s, args, below, meth, c, rfl, hx, hby, hml, hown, hZ, hret, hlk, hnm⟩ := K
  subst hp
  intro T locs X eT N
  obtain ⟨T', h', X', e', W, st⟩ := RoadKit.putF X hx hZ hown w via eT F E (LL.imp id fun q => ⟨q.1, q.2.1, hnm.trans q.2.2⟩) wi hty hn hf (g := mkF m pc L (v :: .ref a :: S)) rfl rfl (hb hby hd)
  obtain ⟨s₂, o, h1, h2⟩ := hr h' W T' _ X' e' (Fr.snoc X' N ga)
  exact ⟨s₂, o, st _ h1, h2⟩
theorem Cx.newo (K : Cx l R Z n0 Q own nm bytes maxL ret m G) {C : String} {index n : Nat} (hd : decode bytes pc = .ok (.new index, 3)) (hp : pc + 3 = pc') (w : (Cond.classLink own index C).before a0 Z = true) (wi : (Cond.instantiable C n).before a0 Z = true) (wz : (Cond.initialized C).before a0 Z = true) (hc : kc + 1 ≤ R.cells) (hl : ks + n ≤ R.slots)
    (hr : ∀ h' a, a = h.size → Ext h h' → Exa Z h' a C → (∀ {O nm d : String} {ty : FieldType}, Laid Z a0 C O nm d → parseFieldDescriptor d = some ty → Fld Z h' a O nm d (defaultValue ty)) → G h' (kc + 1) (ks + n) (mkF m pc' L (.ref a :: S))) : G h kc ks (mkF m pc L S) := by
  obtain ⟨p, e, s, args, below, meth, c, rfl, hx, hby, hml, hown, hZ, hret, hlk, hnm⟩ := K
  subst hp
  intro T locs X eT N
  obtain ⟨T', h', X', e', E, A, D, -, st⟩ := RoadKit.newO X hx hZ hown w wi wz eT (g := mkF m pc L S) rfl (hb hby hd) hc hl
  obtain ⟨s₂, o, h1, h2⟩ := hr h' _ rfl E A D T' _ X' e' N
  exact ⟨s₂, o, st _ h1, h2⟩
theorem Cx.newa (K : Cx l R Z n0 Q own nm bytes maxL ret m G) {aty : ArrayType} {n : Int32} {k cap : Nat} (hd : decode bytes pc = .ok (.newarray aty, 2)) (hp : pc + 2 = pc') (w : (Cond.arrayClass (newarray.typeOf aty)).before a0 Z = true) (hn : n.toInt = (k : Nat)) (hk : k ≤ cap) (hbig : cap * 8 ≤ 536870912) (hc : kc + 1 ≤ R.cells) (hl : ks + cap ≤ R.slots) {ad : String} (had : "[" ++ (newarray.typeOf aty).toString = ad)
    (hr : ∀ h' a, a = h.size → Ext h h' → Ary Z h' a (newarray.typeOf aty) (List.replicate k (defaultValue (newarray.typeOf aty))) → Exa Z h' a ad → G h' (kc + 1) (ks + cap) (mkF m pc' L (.ref a :: S))) : G h kc ks (mkF m pc L (.int n :: S)) := by
  obtain ⟨p, e, s, args, below, meth, c, rfl, hx, hby, hml, hown, hZ, hret, hlk, hnm⟩ := K
  subst hp
  intro T locs X eT N
  have hn0 : ¬ n < 0 := by rw [Int32.lt_iff_toInt_lt, hn, show (0 : Int32).toInt = 0 from rfl]; omega
  obtain ⟨T', h', cA, X', e', E, A, EX, st⟩ := RoadKit.newPE X hx hZ w eT (g := mkF m pc L (.int n :: S)) rfl (hb hby hd) rfl hn0 (cap := cap) (by rw [clamp_of hn]; exact hk) hbig hc hl had
  obtain ⟨s₂, o, h1, h2⟩ := hr h' _ rfl E ⟨_, A, by simp [newA, clamp_of hn], by rw [List.length_replicate]; have := n.toInt_lt; omega⟩ EX T' _ X' e' N
  exact ⟨s₂, o, st _ h1, h2⟩
theorem Cx.iald (K : Cx l R Z n0 Q own nm bytes maxL ret m G) {a : Addr} {vs : List Value} {j : Int32} {i : Nat} {v : Value} (hd : decode bytes pc = .ok (.iaload, 1)) (hp : pc + 1 = pc') (A : Ary Z h a .int vs) (hj : j.toInt = (i : Nat)) (hv : vs[i]? = some v) (hr : G h kc ks (mkF m pc' L (v :: S))) : G h kc ks (mkF m pc L (.int j :: .ref a :: S)) := by
  subst hp
  obtain ⟨cl, Ar, rfl, hlt⟩ := A
  have hi : i < cl.slots.toList.length := (List.getElem?_eq_some_iff.mp hv).1
  exact K.stepX (h' := h) (fun p e s args below meth c T locs X eT hx hb0 hown hZ => ⟨T, X, eT, fun t hr => X.iaload hx (j := j) (v := v) (by rw [eT]; exact Ar.1) (State.isArrayOf_alike hZ.alike Ar.2.1) Ar.2.2 (in_of hj hi) (at_of hj hv) (g := mkF m pc L (.int j :: .ref a :: S)) rfl rfl (hb hb0 hd) _ hr⟩) hr
theorem Cx.lald (K : Cx l R Z n0 Q own nm bytes maxL ret m G) {a : Addr} {vs : List Value} {j : Int32} {i : Nat} {v : Value} (hd : decode bytes pc = .ok (.laload, 1)) (hp : pc + 1 = pc') (A : Ary Z h a .long vs) (hj : j.toInt = (i : Nat)) (hv : vs[i]? = some v) (hr : G h kc ks (mkF m pc' L (v :: S))) : G h kc ks (mkF m pc L (.int j :: .ref a :: S)) := by
  subst hp
  obtain ⟨cl, Ar, rfl, hlt⟩ := A
  have hi : i < cl.slots.toList.length := (List.getElem?_eq_some_iff.mp hv).1
  exact K.stepX (h' := h) (fun p e s args below meth c T locs X eT hx hb0 hown hZ => ⟨T, X, eT, fun t hr => X.laload hx (j := j) (v := v) (by rw [eT]; exact Ar.1) (State.isArrayOf_alike hZ.alike Ar.2.1) Ar.2.2 (in_of hj hi) (at_of hj hv) (g := mkF m pc L (.int j :: .ref a :: S)) rfl rfl (hb hb0 hd) _ hr⟩) hr
theorem Cx.cald (K : Cx l R Z n0 Q own nm bytes maxL ret m G) {a : Addr} {vs : List Value} {j : Int32} {i : Nat} {v : Value} (hd : decode bytes pc = .ok (.caload, 1)) (hp : pc + 1 = pc') (A : Ary Z h a .char vs) (hj : j.toInt = (i : Nat)) (hv : vs[i]? = some v) (hr : G h kc ks (mkF m pc' L (v :: S))) : G h kc ks (mkF m pc L (.int j :: .ref a :: S)) := by
  subst hp
  obtain ⟨cl, Ar, rfl, hlt⟩ := A
  have hi : i < cl.slots.toList.length := (List.getElem?_eq_some_iff.mp hv).1
  exact K.stepX (h' := h) (fun p e s args below meth c T locs X eT hx hb0 hown hZ => ⟨T, X, eT, fun t hr => X.caload hx (j := j) (v := v) (by rw [eT]; exact Ar.1) (State.isArrayOf_alike hZ.alike Ar.2.1) Ar.2.2 (in_of hj hi) (at_of hj hv) (g := mkF m pc L (.int j :: .ref a :: S)) rfl rfl (hb hb0 hd) _ hr⟩) hr
theorem Cx.bald (K : Cx l R Z n0 Q own nm bytes maxL ret m G) {a : Addr} {vs : List Value} {j : Int32} {i : Nat} {v : Value} (hd : decode bytes pc = .ok (.baload, 1)) (hp : pc + 1 = pc') (A : Ary Z h a .byte vs) (hj : j.toInt = (i : Nat)) (hv : vs[i]? = some v) (hr : G h kc ks (mkF m pc' L (v :: S))) : G h kc ks (mkF m pc L (.int j :: .ref a :: S)) := by
  subst hp
  obtain ⟨cl, Ar, rfl, hlt⟩ := A
  have hi : i < cl.slots.toList.length := (List.getElem?_eq_some_iff.mp hv).1
  exact K.stepX (h' := h) (fun p e s args below meth c T locs X eT hx hb0 hown hZ => ⟨T, X, eT, fun t hr => X.baloadBytes hx (j := j) (v := v) (by rw [eT]; exact Ar.1) (State.isArrayOf_alike hZ.alike Ar.2.1) Ar.2.2 (in_of hj hi) (at_of hj hv) (g := mkF m pc L (.int j :: .ref a :: S)) rfl rfl (hb hb0 hd) _ hr⟩) hr
theorem Cx.alen (K : Cx l R Z n0 Q own nm bytes maxL ret m G) {a : Addr} {vs : List Value} {ty : FieldType} (hd : decode bytes pc = .ok (.arraylength, 1)) (hp : pc + 1 = pc') (A : Ary Z h a ty vs) (hr : ∀ z : Int32, z.toInt = (vs.length : Nat) → G h kc ks (mkF m pc' L (.int z :: S))) : G h kc ks (mkF m pc L (.ref a :: S)) := by
  subst hp
  obtain ⟨cl, Ar, rfl, hlt⟩ := A
  refine K.stepX (h' := h) (f' := mkF m (pc + 1) L (.int cl.slots.size.toInt32 :: S)) (fun p e s args below meth c T locs X eT hx hb0 hown hZ => ⟨T, X, eT, fun t hr => X.arraylength hx (by rw [eT]; exact Ar.1) (State.isArrayOf_alike hZ.alike Ar.2.1) (g := mkF m pc L (.ref a :: S)) rfl rfl (hb hb0 hd) _ hr⟩) (hr _ ?_)
  rw [Array.length_toList] at hlt ⊢
  exact len_int hlt
theorem Cx.iast (K : Cx l R Z n0 Q own nm bytes maxL ret m G) {a : Addr} {vs : List Value} {j : Int32} {x : Int32} {i : Nat} (hd : decode bytes pc = .ok (.iastore, 1)) (hp : pc + 1 = pc') (A : Ary Z h a .int vs) (hj : j.toInt = (i : Nat)) (hi : i < vs.length) (ga : n0 ≤ a) (hr : ∀ h', Wr h h' a i (.int x) → Ary Z h' a .int (vs.set i (.int x)) → G h' kc ks (mkF m pc' L S)) : G h kc ks (mkF m pc L (.int x :: .int j :: .ref a :: S)) := by
  obtain ⟨p, e, s, args, below, meth, c, rfl, hx, hby, hml, hown, hZ, hret, hlk, hnm⟩ := K
  subst hp
  intro T locs X eT N
  have A0 := A
  obtain ⟨cl, Ar, rfl, hlt⟩ := A
  obtain ⟨T', h', X', e', W, st⟩ := RoadKit.stI X hx hZ eT Ar (j := j) (in_of hj hi) (g := mkF m pc L (.int x :: .int j :: .ref a :: S)) rfl rfl (hb hby hd)
  have W' := W
  rw [clamp_of hj] at W'
  obtain ⟨s₂, o, h1, h2⟩ := hr h' W' (A0.same W') T' _ X' e' (Fr.snoc X' N ga)
  exact ⟨s₂, o, st _ h1, h2⟩
theorem Cx.last (K : Cx l R Z n0 Q own nm bytes maxL ret m G) {a : Addr} {vs : List Value} {j : Int32} {x : Int64} {i : Nat} (hd : decode bytes pc = .ok (.lastore, 1)) (hp : pc + 1 = pc') (A : Ary Z h a .long vs) (hj : j.toInt = (i : Nat)) (hi : i < vs.length) (ga : n0 ≤ a) (hr : ∀ h', Wr h h' a i (.long x) → Ary Z h' a .long (vs.set i (.long x)) → G h' kc ks (mkF m pc' L S)) : G h kc ks (mkF m pc L (.long x :: .int j :: .ref a :: S)) := by
  obtain ⟨p, e, s, args, below, meth, c, rfl, hx, hby, hml, hown, hZ, hret, hlk, hnm⟩ := K
  subst hp
  intro T locs X eT N
  have A0 := A
  obtain ⟨cl, Ar, rfl, hlt⟩ := A
  obtain ⟨T', h', X', e', W, st⟩ := RoadKit.stJ X hx hZ eT Ar (j := j) (in_of hj hi) (g := mkF m pc L (.long x :: .int j :: .ref a :: S)) rfl rfl (hb hby hd)
  have W' := W
  rw [clamp_of hj] at W'
  obtain ⟨s₂, o, h1, h2⟩ := hr h' W' (A0.same W') T' _ X' e' (Fr.snoc X' N ga)
  exact ⟨s₂, o, st _ h1, h2⟩
theorem Cx.cast_ (K : Cx l R Z n0 Q own nm bytes maxL ret m G) {a : Addr} {vs : List Value} {j : Int32} {x : Int32} {i : Nat} (hd : decode bytes pc = .ok (.castore, 1)) (hp : pc + 1 = pc') (A : Ary Z h a .char vs) (hj : j.toInt = (i : Nat)) (hi : i < vs.length) (ga : n0 ≤ a) (hr : ∀ h', Wr h h' a i (.int (nar .char x)) → Ary Z h' a .char (vs.set i (.int (nar .char x))) → G h' kc ks (mkF m pc' L S)) : G h kc ks (mkF m pc L (.int x :: .int j :: .ref a :: S)) := by
  obtain ⟨p, e, s, args, below, meth, c, rfl, hx, hby, hml, hown, hZ, hret, hlk, hnm⟩ := K
  subst hp
  intro T locs X eT N
  have A0 := A
  obtain ⟨cl, Ar, rfl, hlt⟩ := A
  obtain ⟨T', h', X', e', W, st⟩ := RoadKit.stC X hx hZ eT Ar (j := j) (in_of hj hi) (g := mkF m pc L (.int x :: .int j :: .ref a :: S)) rfl rfl (hb hby hd)
  have W' := W
  rw [clamp_of hj] at W'
  obtain ⟨s₂, o, h1, h2⟩ := hr h' W' (A0.same W') T' _ X' e' (Fr.snoc X' N ga)
  exact ⟨s₂, o, st _ h1, h2⟩
theorem Cx.bast (K : Cx l R Z n0 Q own nm bytes maxL ret m G) {a : Addr} {vs : List Value} {j : Int32} {x : Int32} {i : Nat} (hd : decode bytes pc = .ok (.bastore, 1)) (hp : pc + 1 = pc') (A : Ary Z h a .byte vs) (hj : j.toInt = (i : Nat)) (hi : i < vs.length) (ga : n0 ≤ a) (hr : ∀ h', Wr h h' a i (.int (nar .byte x)) → Ary Z h' a .byte (vs.set i (.int (nar .byte x))) → G h' kc ks (mkF m pc' L S)) : G h kc ks (mkF m pc L (.int x :: .int j :: .ref a :: S)) := by
  obtain ⟨p, e, s, args, below, meth, c, rfl, hx, hby, hml, hown, hZ, hret, hlk, hnm⟩ := K
  subst hp
  intro T locs X eT N
  have A0 := A
  obtain ⟨cl, Ar, rfl, hlt⟩ := A
  obtain ⟨T', h', X', e', W, st⟩ := RoadKit.stB X hx hZ eT Ar (j := j) (in_of hj hi) (g := mkF m pc L (.int x :: .int j :: .ref a :: S)) rfl rfl (hb hby hd)
  have W' := W
  rw [clamp_of hj] at W'
  obtain ⟨s₂, o, h1, h2⟩ := hr h' W' (A0.same W') T' _ X' e' (Fr.snoc X' N ga)
  exact ⟨s₂, o, st _ h1, h2⟩
theorem Cx.init0 (K : Cx l R Z n0 Q own nm bytes maxL ret m G) {idx W : Nat} {a : Addr} (hd : decode bytes pc = .ok (.invokespecial idx, 3)) (hp : pc + 3 = pc') (w1 : (Cond.methodLink own idx Lib.objectInit).before a0 Z = true) (w2 : (Cond.instanceMethod Lib.objectInit).before a0 Z = true) (w3 : (Cond.code Lib.objectInit ⟨#[0xb1]⟩ 1 none).before a0 Z = true) (hL : L.size = maxL) (hf : 1 ≤ R.frames) (hW : (S.map fun v => v.category).sum ≤ W) (hl : W + 12 ≤ R.locals)
    (hr : G h kc ks (mkF m pc' L S)) : G h kc ks (mkF m pc L (.ref a :: S)) := by
  obtain ⟨p, e, s, args, below, meth, c, rfl, hx, hby, hml, hown, hZ, hret, hlk, hnm⟩ := K
  subst hp
  intro T locs X eT N
  obtain ⟨T', X', e', st⟩ := RoadKit.initO X hx hZ hown w1 w2 w3 eT (g := mkF m pc L (.ref a :: S)) rfl (by rw [hml]; exact hL) rfl (hb hby hd) hf (W := W) (by show 2 * 0 + _ ≤ _; omega) hl
  obtain ⟨s₂, o, h1, h2⟩ := hr T' _ X' e' N
  exact ⟨s₂, o, st _ h1, h2⟩
theorem Cx.calls (K : Cx l R Z n0 Q own nm bytes maxL ret m G) {y : MethodName} {b' : ByteArray} {ml' : Nat} {rt' r : Option FieldType} {rm : Room} {Qc : Option Value → Heap → Prop} {index : Nat} {argsL rest : List Value} {W : Nat} {ps : List FieldType} (hd : decode bytes pc = .ok (.invokestatic index, 3)) (hp : pc + 3 = pc') (M : MeetsW l Z n0 y b' ml' rt' rm argsL.toArray h Qc) (w1 : (Cond.methodLink own index y).before a0 Z = true) (w2 : (Cond.static y).before a0 Z = true) (w3 : (Cond.initialized y.cls).before a0 Z = true) (w4 : (Cond.code y b' ml' rt').before a0 Z = true) (hy : y.cls ≠ "java/lang/invoke/MethodHandle" ∧ y.cls ≠ "java/lang/invoke/VarHandle") (hpd : parseMethodDescriptor y.desc = some ⟨ps, r⟩) (hlen : argsL.length = ps.length) (hL : L.size = maxL) (hW : (rest.map fun v => v.category).sum ≤ W) (hf : rm.frames + 1 ≤ R.frames) (hl : W + (ml' + 11) + rm.locals ≤ R.locals) (hc : kc + rm.cells ≤ R.cells) (hsl : ks + rm.slots ≤ R.slots) (hr : ∀ v h', Qc v h' → G h' (kc + rm.cells) (ks + rm.slots) (mkF m pc' L (v.toList ++ rest))) : G h kc ks (mkF m pc L (argsL.reverse ++ rest)) := by
  obtain ⟨p, e, s, args, below, meth, c, rfl, hx, hby, hml, hown, hZ, hret, hlk, hnm⟩ := K
  subst hp
  intro T locs X eT N
  obtain ⟨v, _, ⟨T', Lo, ko, no⟩, -, X', ⟨Lc, hQ, l', y', z'⟩, st⟩ := Jvm.LawKit.callS X hx (y := y) hown (mvT hZ w1) (mvT hZ w2) (mvT hZ w3) (mvT hZ w4) hy (backOf (Q := fun v h L => Qc v h ∧ Fr n0 L) (W := W) (M []) hZ w4 w3 hf hl) (g := mkF m pc L (argsL.reverse ++ rest)) rfl (by rw [hml]; exact hL) (argsL := argsL) (rest := rest) (lenOf hpd hlen) rfl (by show 2 * 0 + _ ≤ _; omega) (hb hby hd) (fun _ _ => ⟨rfl, eT, hc, hsl⟩)
  dsimp only [Pt.U, Pt.locs, Pt.cells, Pt.slots] at X' l' y' z' st hQ
  subst l' y' z'
  obtain ⟨s₂, o, h1, h2⟩ := hr v T'.heap hQ.1 T' _ X' rfl (Fr.app N hQ.2)
  exact ⟨s₂, o, st _ h1, h2⟩
theorem Cx.callc (K : Cx l R Z n0 Q own nm bytes maxL ret m G) {y : MethodName} {b' : ByteArray} {ml' : Nat} {r : Option FieldType} {rm : Room} {Qc : Option Value → Heap → Prop} {index : Nat} {argsL rest : List Value} {W : Nat} {ps : List FieldType} {a : Addr} (hd : decode bytes pc = .ok (.invokespecial index, 3)) (hp : pc + 3 = pc') (hi : y.name = "<init>") (M : MeetsW l Z n0 y b' ml' none rm (Value.ref a :: argsL).toArray h Qc) (w1 : (Cond.methodLink own index y).before a0 Z = true) (w2 : (Cond.instanceMethod y).before a0 Z = true) (w3 : (Cond.initialized y.cls).before a0 Z = true) (w4 : (Cond.code y b' ml' none).before a0 Z = true) (hy : y.cls ≠ "java/lang/invoke/MethodHandle" ∧ y.cls ≠ "java/lang/invoke/VarHandle") (hpd : parseMethodDescriptor y.desc = some ⟨ps, r⟩) (hlen : argsL.length = ps.length) (hL : L.size = maxL) (hW : (rest.map fun v => v.category).sum ≤ W) (hf : rm.frames + 1 ≤ R.frames) (hl : W + (ml' + 11) + rm.locals ≤ R.locals) (hc : kc + rm.cells ≤ R.cells) (hsl : ks + rm.slots ≤ R.slots) (hr : ∀ v h', Qc v h' → G h' (kc + rm.cells) (ks + rm.slots) (mkF m pc' L (v.toList ++ rest))) : G h kc ks (mkF m pc L (argsL.reverse ++ .ref a :: rest)) := by
  obtain ⟨p, e, s, args, below, meth, c, rfl, hx, hby, hml, hown, hZ, hret, hlk, hnm⟩ := K
  subst hp
  intro T locs X eT N
  obtain ⟨v, _, ⟨T', Lo, ko, no⟩, -, X', ⟨Lc, hQ, l', y', z'⟩, st⟩ := X.specialBack hx (y := y) hi hown (mvT hZ w1) (mvT hZ w2) (mvT hZ w4) hy (backOf (Q := fun v h L => Qc v h ∧ Fr n0 L) (W := W) (M []) hZ w4 w3 hf hl) (g := mkF m pc L (argsL.reverse ++ .ref a :: rest)) rfl (by rw [hml]; exact hL) (Steps.refl _) (a := a) (argsL := argsL) (rest := rest) (lenOf hpd hlen) rfl (by show 2 * 0 + _ ≤ _; omega) (hb hby hd) (fun _ _ => ⟨rfl, eT, hc, hsl⟩)
  dsimp only [Pt.U, Pt.locs, Pt.cells, Pt.slots] at X' l' y' z' st hQ
  subst l' y' z'
  obtain ⟨s₂, o, h1, h2⟩ := hr v T'.heap hQ.1 T' _ X' rfl (Fr.app N hQ.2)
  exact ⟨s₂, o, st.trans h1, h2⟩
theorem Cx.callv (K : Cx l R Z n0 Q own nm bytes maxL ret m G) {y z : MethodName} {b' : ByteArray} {ml' : Nat} {rt' r : Option FieldType} {rm : Room} {Qc : Option Value → Heap → Prop} {index : Nat} {argsL rest : List Value} {W : Nat} {ps : List FieldType} {C : String} {a : Addr} (hd : decode bytes pc = .ok (.invokevirtual index, 3)) (hp : pc + 3 = pc') (M : MeetsW l Z n0 z b' ml' rt' rm (Value.ref a :: argsL).toArray h Qc) (E : Exa Z h a C) (w1 : (Cond.methodLink own index y).before a0 Z = true) (w5 : (Cond.declares y).before a0 Z = true) (nf : ∀ s : State, Z.Warmed39 s.vm → NotFace s y) (w6 : (Cond.selects C y z).before a0 Z = true) (w2 : (Cond.instanceMethod z).before a0 Z = true) (w3 : (Cond.initialized z.cls).before a0 Z = true) (w4 : (Cond.code z b' ml' rt').before a0 Z = true) (hy : y.cls ≠ "java/lang/invoke/MethodHandle" ∧ y.cls ≠ "java/lang/invoke/VarHandle") (hpd : parseMethodDescriptor y.desc = some ⟨ps, r⟩) (hlen : argsL.length = ps.length) (hL : L.size = maxL) (hW : (rest.map fun v => v.category).sum ≤ W) (hf : rm.frames + 1 ≤ R.frames) (hl : W + (ml' + 11) + rm.locals ≤ R.locals) (hc : kc + rm.cells ≤ R.cells) (hsl : ks + rm.slots ≤ R.slots) (hr : ∀ v h', Qc v h' → G h' (kc + rm.cells) (ks + rm.slots) (mkF m pc' L (v.toList ++ rest))) : G h kc ks (mkF m pc L (argsL.reverse ++ .ref a :: rest)) := by
  obtain ⟨p, e, s, args, below, meth, c, rfl, hx, hby, hml, hown, hZ, hret, hlk, hnm⟩ := K
  subst hp
  intro T locs X eT N
  obtain ⟨cq, kq, qa, qb, qc⟩ := isOf hZ eT E
  obtain ⟨v, _, ⟨T', Lo, ko, no⟩, -, X', ⟨Lc, hQ, l', y', z'⟩, st⟩ := X.virtualBack hx (y := y) (z := z) hown (mvT hZ w1) (mvT hZ w5) (nf s hZ) (mvT hZ w6) (mvT hZ w2) hy (backOf (Q := fun v h L => Qc v h ∧ Fr n0 L) (W := W) (M []) hZ w4 w3 hf hl) qa qc (g := mkF m pc L (argsL.reverse ++ .ref a :: rest)) rfl (by rw [hml]; exact hL) (Steps.refl _) (argsL := argsL) (rest := rest) (lenOf hpd hlen) rfl (by show 2 * 0 + _ ≤ _; omega) (hb hby hd) (fun _ _ => ⟨rfl, eT, hc, hsl⟩)
  dsimp only [Pt.U, Pt.locs, Pt.cells, Pt.slots] at X' l' y' z' st hQ
  subst l' y' z'
  obtain ⟨s₂, o, h1, h2⟩ := hr v T'.heap hQ.1 T' _ X' rfl (Fr.app N hQ.2)
  exact ⟨s₂, o, st.trans h1, h2⟩
theorem nf_sel {y z : MethodName} {C : String} (w : (Cond.selects C y z).before a0 Z = true) (hyz : y = z) : ∀ s : State, Z.Warmed39 s.vm → NotFace s y := fun s hZ => by subst hyz; exact notFace_of_selects (args := #[]) (mvT hZ w)
theorem Cx.callp (K : Cx l R Z n0 Q own nm bytes maxL ret m G) {y : MethodName} {b' : ByteArray} {ml' : Nat} {rt' r : Option FieldType} {rm : Room} {Qc : Option Value → Heap → Prop} {index : Nat} {argsL rest : List Value} {W : Nat} {ps : List FieldType} {C : String} {a : Addr} (hd : decode bytes pc = .ok (.invokevirtual index, 3)) (hp : pc + 3 = pc') (M : MeetsW l Z n0 y b' ml' rt' rm (Value.ref a :: argsL).toArray h Qc) (E : Exa Z h a C) (w1 : (Cond.methodLink own index y).before a0 Z = true) (w2 : (Cond.instanceMethod y).before a0 Z = true) {kk : Nat} (wi : (Cond.instantiable y.cls kk).before a0 Z = true) (w7 : (Cond.privateMethod y).before a0 Z = true) (w3 : (Cond.initialized y.cls).before a0 Z = true) (w4 : (Cond.code y b' ml' rt').before a0 Z = true) (hy : y.cls ≠ "java/lang/invoke/MethodHandle" ∧ y.cls ≠ "java/lang/invoke/VarHandle") (hpd : parseMethodDescriptor y.desc = some ⟨ps, r⟩) (hlen : argsL.length = ps.length) (hL : L.size = maxL) (hW : (rest.map fun v => v.category).sum ≤ W) (hf : rm.frames + 1 ≤ R.frames) (hl : W + (ml' + 11) + rm.locals ≤ R.locals) (hc : kc + rm.cells ≤ R.cells) (hsl : ks + rm.slots ≤ R.slots) (hr : ∀ v h', Qc v h' → G h' (kc + rm.cells) (ks + rm.slots) (mkF m pc' L (v.toList ++ rest))) : G h kc ks (mkF m pc L (argsL.reverse ++ .ref a :: rest)) := by
  obtain ⟨p, e, s, args, below, meth, c, rfl, hx, hby, hml, hown, hZ, hret, hlk, hnm⟩ := K
  subst hp
  intro T locs X eT N
  obtain ⟨cq, q1, q2⟩ := E.cell
  have hpriv : s.PrivateAt y := Cond.privateMethod_at (mvP hZ w7 (args := #[]))
  obtain ⟨c0, k0, i1, i2, i3, i4, -⟩ := Cond.instantiable_spec (show (Cond.instantiable y.cls kk).before args s = true from mvT hZ wi)
  have w6 : (Cond.selects y.cls y y).before args s = true := selects_self_of_private i1 i2 (by simp only [Bool.or_eq_false_iff] at i4; exact i4.1) hpriv (mvT hZ w2) hy
  obtain ⟨v, _, ⟨T', Lo, ko, no⟩, -, X', ⟨Lc, hQ, l', y', z'⟩, st⟩ := X.privateBack hx (y := y) hown (mvT hZ w1) (mvT hZ w2) w6 hpriv (mvT hZ w4) hy (backOf (Q := fun v h L => Qc v h ∧ Fr n0 L) (W := W) (M []) hZ w4 w3 hf hl) (g := mkF m pc L (argsL.reverse ++ .ref a :: rest)) rfl (by rw [hml]; exact hL) (Steps.refl _) (a := a) (by rw [eT]; exact q1) q2 (argsL := argsL) (rest := rest) (lenOf hpd hlen) rfl (by show 2 * 0 + _ ≤ _; omega) (hb hby hd) (fun _ _ => ⟨rfl, eT, hc, hsl⟩)
  dsimp only [Pt.U, Pt.locs, Pt.cells, Pt.slots] at X' l' y' z' st hQ
  subst l' y' z'
  obtain ⟨s₂, o, h1, h2⟩ := hr v T'.heap hQ.1 T' _ X' rfl (Fr.app N hQ.2)
  exact ⟨s₂, o, st.trans h1, h2⟩
theorem Cx.acopy (K : Cx l R Z n0 Q own nm bytes maxL ret m G) {index W i j k : Nat} {a b : Addr} {ty : FieldType} {vs vd : List Value} {sp dp nn : Int32} (dv : Value) (hd : decode bytes pc = .ok (.invokestatic index, 3)) (hp : pc + 3 = pc') (w1 : (Cond.methodLink own index Jvm.Stand.acN).before a0 Z = true) (w2 : (Cond.native Jvm.Stand.acN).before a0 Z = true) (w3 : (Cond.static Jvm.Stand.acN).before a0 Z = true) (w4 : (Cond.initialized "java/lang/System").before a0 Z = true)
    (A : Ary Z h a ty vs) (B : Ary Z h b ty vd) (hpr : refKind ty = false) (hfa : ∀ v ∈ vs, fits ty v = true) (hfb : ∀ v ∈ vd, fits ty v = true) (hdv : fits ty dv = true) (hi : sp.toInt = (i : Nat)) (hj : dp.toInt = (j : Nat)) (hk : nn.toInt = (k : Nat)) (h4 : i + k ≤ vs.length) (h5 : j + k ≤ vd.length) (gb : n0 ≤ b)
    (hL : L.size = maxL) (hf : 1 ≤ R.frames) (hW : (S.map fun v => v.category).sum ≤ W) (hlo : W + (nativeFrameWords "java/lang/System" "arraycopy" 5 + 11) ≤ R.locals)
    (hr : ∀ h', Keep h h' [b] → Ary Z h' b ty (vd.take j ++ ((List.range k).map fun t => vs.getD (i + t) dv) ++ vd.drop (j + k)) → G h' kc ks (mkF m pc' L S)) : G h kc ks (mkF m pc L (.int nn :: .int dp :: .ref b :: .int sp :: .ref a :: S)) := by
  obtain ⟨p, e, s, args, below, meth, c, rfl, hx, hby, hml, hown, hZ, hret, hlk, hnm⟩ := K
  subst hp
  intro T locs X eT N
  obtain ⟨ka, za, ea, VA⟩ := A.toArv hfa hdv
  obtain ⟨kb, zb, eb, VB⟩ := B.toArv hfb hdv
  have neg : ∀ {x : Int32} {n : Nat}, x.toInt = (n : Nat) → ¬ x < 0 := fun {x n} q => by rw [Int32.lt_iff_toInt_lt, q, show (0 : Int32).toInt = 0 from rfl]; omega
  obtain ⟨T', h', Lc, X', e', N', Kp, V, st⟩ := RoadKit.cpA X hx hZ hown w1 w2 w3 w4 eT VA VB (Or.inl ⟨rfl, hpr⟩) (neg hi) (neg hj) (neg hk) (by rw [clamp_of hi, clamp_of hk, clamp_of ea]; exact h4) (by rw [clamp_of hj, clamp_of hk, clamp_of eb]; exact h5) rfl (by rw [clamp_of hj, clamp_of hk]; exact h5) N gb (g := mkF m pc L (.int nn :: .int dp :: .ref b :: .int sp :: .ref a :: S)) rfl (by rw [hml]; exact hL) rfl (hb hby hd) hf (W := W) (by show 2 * 0 + _ ≤ _; omega) hlo
  rw [clamp_of hi, clamp_of hj, clamp_of hk] at V
  obtain ⟨s₂, o, h1, h2⟩ := hr h' Kp (Arv.toAry V (by rw [eb]; simp; omega)) T' _ X' e' N'
  exact ⟨s₂, o, st _ h1, h2⟩
theorem Cx.clone (K : Cx l R Z n0 Q own nm bytes maxL ret m G) {index W cap : Nat} {a : Addr} {ad : String} {ty : FieldType} {vs : List Value} (dv : Value) (hd : decode bytes pc = .ok (.invokevirtual index, 3)) (hp : pc + 3 = pc')
    (w1 : (Cond.methodLink own index ⟨ad, "clone", "()Ljava/lang/Object;"⟩).before a0 Z = true) (w2 : (Cond.sameMethod ad "java/lang/Object" "clone" "()Ljava/lang/Object;").before a0 Z = true) (w3 : (Cond.native ⟨"java/lang/Object", "clone", "()Ljava/lang/Object;"⟩).before a0 Z = true)
    (w4 : (Cond.instanceMethod ⟨"java/lang/Object", "clone", "()Ljava/lang/Object;"⟩).before a0 Z = true) (w5 : (Cond.selects ad ⟨ad, "clone", "()Ljava/lang/Object;"⟩ ⟨"java/lang/Object", "clone", "()Ljava/lang/Object;"⟩).before a0 Z = true) (w6 : (Cond.castable ad "java/lang/Cloneable").before a0 Z = true)
    (A : Ary Z h a ty vs) (E : Exa Z h a ad) (hfv : ∀ v ∈ vs, fits ty v = true) (hdv : fits ty dv = true) (hL : L.size = maxL) (hf : 1 ≤ R.frames) (hW : (S.map fun v => v.category).sum ≤ W) (hl : W + 14 ≤ R.locals) (hcap : vs.length ≤ cap) (hc : kc + 1 ≤ R.cells) (hsl : ks + cap ≤ R.slots)
    (hr : ∀ h' b, b = h.size → Ext h h' → Ary Z h' b ty vs → Exa Z h' b ad → G h' (kc + 1) (ks + cap) (mkF m pc' L (.ref b :: S))) : G h kc ks (mkF m pc L (.ref a :: S)) := by
  obtain ⟨p, e, s, args, below, meth, c, rfl, hx, hby, hml, hown, hZ, hret, hlk, hnm⟩ := K
  subst hp
  intro T locs X eT N
  obtain ⟨ka, za, ea, VA⟩ := A.toArv hfv hdv
  obtain ⟨T', h', X', e', Ex', V, EX, st⟩ := RoadKit.cloneH X hx hZ hown w1 w2 w3 w4 w5 w6 eT VA.arh E (g := mkF m pc L (.ref a :: S)) rfl (by rw [hml]; exact hL) rfl (hb hby hd) hf (W := W) (cap := cap) (by show 2 * 0 + _ ≤ _; omega) hl (by rw [clamp_of ea]; exact hcap) hc hsl
  obtain ⟨s₂, o, h1, h2⟩ := hr h' _ rfl Ex' (Arv.toAry (show Arv Z h' h.size ka ty za vs dv from V) ea) EX T' _ X' e' N
  exact ⟨s₂, o, st _ h1, h2⟩
theorem Cx.ccast (K : Cx l R Z n0 Q own nm bytes maxL ret m G) {index : Nat} {Kc : String} {a : Addr} (hd : decode bytes pc = .ok (.checkcast index, 3)) (hp : pc + 3 = pc') (w : (Cond.classLink own index Kc).before a0 Z = true) (F : Ins Z h a Kc true) (hr : G h kc ks (mkF m pc' L (.ref a :: S))) : G h kc ks (mkF m pc L (.ref a :: S)) := by
  subst hp
  exact K.stepX (h' := h) (fun p e s args below meth c T locs X eT hx hb0 hown hZ => RoadKit.castY X hx hZ hown w eT F (g := mkF m pc L (.ref a :: S)) rfl rfl (hb hb0 hd)) hr
theorem Cx.reti (K : Cx l R Z n0 Q own nm bytes maxL (some .int) m G) {z : Int32} (hd : decode bytes pc = .ok (.ireturn, 1)) (hc : kc ≤ R.cells) (hs : ks ≤ R.slots) (hQ : Q (some (.int z)) h) : G h kc ks (mkF m pc L (.int z :: S)) := by
  obtain ⟨p, e, s, args, below, meth, c, rfl, hx, hby, hml, hown, hZ, hret, hlk, hnm⟩ := K
  intro T locs X eT N
  obtain ⟨fs, hr, hrun, hended, hW, hsame⟩ := X.leave (v := some (.int z)) (fun h => by rw [hret] at h; cases h) hlk
  refine ⟨_, _, ?_, hrun, hended, _, _, rfl, ⟨?_, N⟩, ⟨_, rfl⟩, hW, hsame.mono hc hs⟩
  · exact retOut X hx hret rfl (Or.inl ⟨rfl, Or.inl rfl, _, rfl⟩) (hb hby hd) hr
  · show Q _ T.heap
    rw [eT]; exact hQ
theorem Cx.retz (K : Cx l R Z n0 Q own nm bytes maxL (some .boolean) m G) {z : Int32} (hd : decode bytes pc = .ok (.ireturn, 1)) (hz : z = 0 ∨ z = 1) (hc : kc ≤ R.cells) (hs : ks ≤ R.slots) (hQ : Q (some (.int z)) h) : G h kc ks (mkF m pc L (.int z :: S)) := by
  obtain ⟨p, e, s, args, below, meth, c, rfl, hx, hby, hml, hown, hZ, hret, hlk, hnm⟩ := K
  intro T locs X eT N
  obtain ⟨fs, hr, hrun, hended, hW, hsame⟩ := X.leave (v := some (.int z)) (fun h => by rw [hret] at h; cases h) hlk
  refine ⟨_, _, ?_, hrun, hended, _, _, rfl, ⟨?_, N⟩, ⟨_, rfl⟩, hW, hsame.mono hc hs⟩
  · exact retOut X hx hret (by rcases hz with rfl | rfl <;> rfl) (Or.inl ⟨rfl, Or.inr (Or.inl rfl), _, rfl⟩) (hb hby hd) hr
  · show Q _ T.heap
    rw [eT]; exact hQ
theorem Cx.retl (K : Cx l R Z n0 Q own nm bytes maxL (some .long) m G) {z : Int64} (hd : decode bytes pc = .ok (.lreturn, 1)) (hc : kc ≤ R.cells) (hs : ks ≤ R.slots) (hQ : Q (some (.long z)) h) : G h kc ks (mkF m pc L (.long z :: S)) := by
  obtain ⟨p, e, s, args, below, meth, c, rfl, hx, hby, hml, hown, hZ, hret, hlk, hnm⟩ := K
  intro T locs X eT N
  obtain ⟨fs, hr, hrun, hended, hW, hsame⟩ := X.leave (v := some (.long z)) (fun h => by rw [hret] at h; cases h) hlk
  refine ⟨_, _, ?_, hrun, hended, _, _, rfl, ⟨?_, N⟩, ⟨_, rfl⟩, hW, hsame.mono hc hs⟩
  · exact retOut X hx hret rfl (Or.inr (Or.inl ⟨rfl, rfl, _, rfl⟩)) (hb hby hd) hr
  · show Q _ T.heap
    rw [eT]; exact hQ
theorem Cx.reta {t : FieldType} (K : Cx l R Z n0 Q own nm bytes maxL (some t) m G) {v : Value} (hd : decode bytes pc = .ok (.areturn, 1)) (ht : t.isReference = true) (hn : narrow t v = v) (hv : v.isRef = true) (hc : kc ≤ R.cells) (hs : ks ≤ R.slots) (hQ : Q (some v) h) : G h kc ks (mkF m pc L (v :: S)) := by
  obtain ⟨p, e, s, args, below, meth, c, rfl, hx, hby, hml, hown, hZ, hret, hlk, hnm⟩ := K
  intro T locs X eT N
  obtain ⟨fs, hr, hrun, hended, hW, hsame⟩ := X.leave (v := some v) (fun h => by rw [hret] at h; cases h) hlk
  refine ⟨_, _, ?_, hrun, hended, _, _, rfl, ⟨?_, N⟩, ⟨_, rfl⟩, hW, hsame.mono hc hs⟩
  · exact retOut X hx hret hn (Or.inr (Or.inr (Or.inr (Or.inr ⟨rfl, ht, hv⟩)))) (hb hby hd) hr
  · show Q _ T.heap
    rw [eT]; exact hQ
theorem Cx.retd (K : Cx l R Z n0 Q own nm bytes maxL (some .double) m G) {z : UInt64} (hd : decode bytes pc = .ok (.dreturn, 1)) (hc : kc ≤ R.cells) (hs : ks ≤ R.slots) (hQ : Q (some (.double z)) h) : G h kc ks (mkF m pc L (.double z :: S)) := by
  obtain ⟨p, e, s, args, below, meth, c, rfl, hx, hby, hml, hown, hZ, hret, hlk, hnm⟩ := K
  intro T locs X eT N
  obtain ⟨fs, hr, hrun, hended, hW, hsame⟩ := X.leave (v := some (.double z)) (fun h => by rw [hret] at h; cases h) hlk
  refine ⟨_, _, ?_, hrun, hended, _, _, rfl, ⟨?_, N⟩, ⟨_, rfl⟩, hW, hsame.mono hc hs⟩
  · exact retOut X hx hret rfl (Or.inr (Or.inr (Or.inl ⟨rfl, rfl, _, rfl⟩))) (hb hby hd) hr
  · show Q _ T.heap
    rw [eT]; exact hQ
theorem Cx.ret0 (K : Cx l R Z n0 Q own nm bytes maxL none m G) (hd : decode bytes pc = .ok (.return_, 1)) (hc : kc ≤ R.cells) (hs : ks ≤ R.slots) (hQ : Q none h) : G h kc ks (mkF m pc L []) := by
  obtain ⟨p, e, s, args, below, meth, c, rfl, hx, hby, hml, hown, hZ, hret, hlk, hnm⟩ := K
  intro T locs X eT N
  obtain ⟨fs, hr, hrun, hended, hW, hsame⟩ := X.leave (v := none) (fun h => rfl) hlk
  refine ⟨_, _, ?_, hrun, hended, _, _, rfl, ⟨?_, N⟩, ⟨_, rfl⟩, hW, hsame.mono hc hs⟩
  · exact X.returnOut hx hret (hb hby hd) hr
  · show Q _ T.heap
    rw [eT]; exact hQ
end Steps
end Jvm.Wk
namespace Jvm.Pilot.@@N@@
open Jvm Jvm.ClassFile Sem Op Lib Jvm.Free Jvm.Stand Jvm.LawKit Jvm.RoadKit Jvm.Wk Bundle Jvm.Pilot.@@N@@.Jvm.D
theorem d1_0 : decode prog_29_method_1_code 0 = .ok (.aload_n 0, 1) := by decide +kernel
theorem d1_1 : decode prog_29_method_1_code 1 = .ok (.invokespecial 1, 3) := by decide +kernel
theorem d1_4 : decode prog_29_method_1_code 4 = .ok (.aload_n 0, 1) := by decide +kernel
theorem d1_5 : decode prog_29_method_1_code 5 = .ok (.aload_n 1, 1) := by decide +kernel
theorem d1_6 : decode prog_29_method_1_code 6 = .ok (.putfield 7, 3) := by decide +kernel
theorem d1_9 : decode prog_29_method_1_code 9 = .ok (.aload_n 0, 1) := by decide +kernel
theorem d1_10 : decode prog_29_method_1_code 10 = .ok (.iload_n 2, 1) := by decide +kernel
theorem d1_11 : decode prog_29_method_1_code 11 = .ok (.putfield 13, 3) := by decide +kernel
theorem d1_14 : decode prog_29_method_1_code 14 = .ok (.return_, 1) := by decide +kernel
theorem pn_com_example_woodlark_woodlark_io_NumberBuffer_Reader : plainName "com/example/woodlark/woodlark/io/NumberBuffer$Reader" = true := by first | (simp [plainName, overriddenIn]; done) | decide +kernel
set_option maxRecDepth 65536 in
set_option maxHeartbeats 40000000 in
theorem c_new (l : Launch) (Z : State) (a0 : Array Value) (hw : ∀ d ∈ tables_1, d.before a0 Z = true) (n0 : Nat) (h : Heap) (a : Addr) (b : Addr) (n : Int32) (P1 : Exa Z h a "com/example/woodlark/woodlark/io/NumberBuffer$Reader") (P2 : Fld Z h a "com/example/woodlark/woodlark/io/NumberBuffer$Reader" "bytes" "[B" .null) (P3 : Fld Z h a "com/example/woodlark/woodlark/io/NumberBuffer$Reader" "end" "I" (.int (0 : Int32))) (P4 : Fld Z h a "com/example/woodlark/woodlark/io/NumberBuffer$Reader" "position" "I" (.int (0 : Int32))) (P5 : n0 ≤ a) : MeetsW l Z n0 (⟨"com/example/woodlark/woodlark/io/NumberBuffer$Reader", "<init>", "([BI)V"⟩ : MethodName) prog_29_method_1_code 3 none ({ frames := 1, cells := 0, slots := 0, locals := 12 } : Room) #[(.ref a), (.ref b), (.int n)] h (fun v h' => v = none ∧ Keep h h' [a] ∧ Fld Z h' a "com/example/woodlark/woodlark/io/NumberBuffer$Reader" "bytes" "[B" (.ref b) ∧ Fld Z h' a "com/example/woodlark/woodlark/io/NumberBuffer$Reader" "end" "I" (.int n) ∧ Fld Z h' a "com/example/woodlark/woodlark/io/NumberBuffer$Reader" "position" "I" (.int (0 : Int32))) := by
  refine MeetsW.intro (plainFor_of_name pn_com_example_woodlark_woodlark_io_NumberBuffer_Reader) (L0 := #[.val (.ref a), .val (.ref b), .val (.int n)]) (fun m => by first | (simp [entryFrame, mkF, argsToLocals, Value.category]; done) | rfl) ?_
  intro m G K0
  have K : Cx l ({ frames := 1, cells := 0, slots := 0, locals := 12 } : Room) Z n0 _ "com/example/woodlark/woodlark/io/NumberBuffer$Reader" "<init>" prog_29_method_1_code 3 none m G := K0
  refine K.aloadN d1_0 (pc' := 1) rfl rfl rfl ?_
  refine K.init0 d1_1 (pc' := 4) rfl (hw _ (List.mem_of_getElem? (i := 8) rfl)) (hw _ (List.mem_of_getElem? (i := 9) rfl)) (hw _ (List.mem_of_getElem? (i := 10) rfl)) rfl (by decide) (W := 0) (by simp [Value.category]) (by decide) ?_
  refine K.aloadN d1_4 (pc' := 5) rfl rfl rfl ?_
  refine K.aloadN d1_5 (pc' := 6) rfl rfl rfl ?_
  refine K.putf d1_6 (pc' := 9) rfl (host := "") (Or.inl (hw _ (List.mem_of_getElem? (i := 11) rfl))) Via.refl P2 P1 (Or.inr ⟨(hw _ (List.mem_of_getElem? (i := 12) rfl)), rfl, rfl⟩) (hw _ (List.mem_of_getElem? (i := 3) rfl)) (ty := (.array .byte)) (by decide) rfl rfl P5 (fun h_1 W_2 => ?_)
  have f_3 : Exa Z h_1 a "com/example/woodlark/woodlark/io/NumberBuffer$Reader" := P1.wr W_2
  have f_4 : Fld Z h_1 a "com/example/woodlark/woodlark/io/NumberBuffer$Reader" "bytes" "[B" (.ref b) := P2.same W_2
  have f_5 : Fld Z h_1 a "com/example/woodlark/woodlark/io/NumberBuffer$Reader" "end" "I" (.int (0 : Int32)) := P3.other W_2 (Or.inr (slot_ne (Or.inr (hw _ (List.mem_of_getElem? (i := 14) rfl))) (Or.inr (hw _ (List.mem_of_getElem? (i := 12) rfl))) (by decide) (t := .int) (t' := (.array .byte)) (by decide) (by decide)))
  have f_6 : Fld Z h_1 a "com/example/woodlark/woodlark/io/NumberBuffer$Reader" "position" "I" (.int (0 : Int32)) := P4.other W_2 (Or.inr (slot_ne (Or.inl (hw _ (List.mem_of_getElem? (i := 21) rfl))) (Or.inr (hw _ (List.mem_of_getElem? (i := 12) rfl))) (by decide) (t := .int) (t' := (.array .byte)) (by decide) (by decide)))
  have kp_7 : Keep h h_1 [a] := (Keep.refl h [a]).wr W_2 (Or.inl (by simp))
  refine K.aloadN d1_9 (pc' := 10) rfl rfl rfl ?_
  refine K.iloadN d1_10 (pc' := 11) rfl rfl ?_
  refine K.putf d1_11 (pc' := 14) rfl (host := "") (Or.inl (hw _ (List.mem_of_getElem? (i := 13) rfl))) Via.refl f_5 f_3 (Or.inr ⟨(hw _ (List.mem_of_getElem? (i := 14) rfl)), rfl, rfl⟩) (hw _ (List.mem_of_getElem? (i := 3) rfl)) (ty := .int) (by decide) rfl rfl P5 (fun h_8 W_9 => ?_)
  have f_10 : Exa Z h_8 a "com/example/woodlark/woodlark/io/NumberBuffer$Reader" := f_3.wr W_9
  have f_11 : Fld Z h_8 a "com/example/woodlark/woodlark/io/NumberBuffer$Reader" "bytes" "[B" (.ref b) := f_4.other W_9 (Or.inr (slot_ne (Or.inr (hw _ (List.mem_of_getElem? (i := 12) rfl))) (Or.inr (hw _ (List.mem_of_getElem? (i := 14) rfl))) (by decide) (t := (.array .byte)) (t' := .int) (by decide) (by decide)))
  have f_12 : Fld Z h_8 a "com/example/woodlark/woodlark/io/NumberBuffer$Reader" "end" "I" (.int n) := f_5.same W_9
  have f_13 : Fld Z h_8 a "com/example/woodlark/woodlark/io/NumberBuffer$Reader" "position" "I" (.int (0 : Int32)) := f_6.other W_9 (Or.inr (slot_ne (Or.inl (hw _ (List.mem_of_getElem? (i := 21) rfl))) (Or.inr (hw _ (List.mem_of_getElem? (i := 14) rfl))) (by decide) (t := .int) (t' := .int) (by decide) (by decide)))
  have kp_14 : Keep h h_8 [a] := kp_7.wr W_9 (Or.inl (by simp))
  exact K.ret0 d1_14 (by decide) (by decide) ⟨rfl, kp_14, f_11, f_12, f_13⟩
theorem d3_0 : decode prog_29_method_2_code 0 = .ok (.aload_n 0, 1) := by decide +kernel
theorem d3_1 : decode prog_29_method_2_code 1 = .ok (.getfield 17, 3) := by decide +kernel
theorem d3_4 : decode prog_29_method_2_code 4 = .ok (.aload_n 0, 1) := by decide +kernel
theorem d3_5 : decode prog_29_method_2_code 5 = .ok (.getfield 13, 3) := by decide +kernel
theorem d3_8 : decode prog_29_method_2_code 8 = .ok (.if_icmp .ge 7, 3) := by decide +kernel
theorem d3_15 : decode prog_29_method_2_code 15 = .ok (.iconst 0, 1) := by decide +kernel
theorem d3_16 : decode prog_29_method_2_code 16 = .ok (.ireturn, 1) := by decide +kernel
theorem d3_11 : decode prog_29_method_2_code 11 = .ok (.iconst 1, 1) := by decide +kernel
theorem d3_12 : decode prog_29_method_2_code 12 = .ok (.goto 4, 3) := by decide +kernel
set_option maxRecDepth 65536 in
set_option maxHeartbeats 40000000 in
theorem c_has (l : Launch) (Z : State) (a0 : Array Value) (hw : ∀ d ∈ tables_1, d.before a0 Z = true) (n0 : Nat) (h : Heap) (a : Addr) (w1 : Int32) (w2 : Int32) (P1 : Exa Z h a "com/example/woodlark/woodlark/io/NumberBuffer$Reader") (P2 : Fld Z h a "com/example/woodlark/woodlark/io/NumberBuffer$Reader" "position" "I" (.int w1)) (P3 : Fld Z h a "com/example/woodlark/woodlark/io/NumberBuffer$Reader" "end" "I" (.int w2)) : MeetsW l Z n0 (⟨"com/example/woodlark/woodlark/io/NumberBuffer$Reader", "hasRemaining", "()Z"⟩ : MethodName) prog_29_method_2_code 1 (some .boolean) ({ frames := 0, cells := 0, slots := 0, locals := 0 } : Room) #[(.ref a)] h (fun v h' => v = some (.int (b2 (w1.toInt < w2.toInt))) ∧ h = h') := by
  refine MeetsW.intro (plainFor_of_name pn_com_example_woodlark_woodlark_io_NumberBuffer_Reader) (L0 := #[.val (.ref a)]) (fun m => by first | (simp [entryFrame, mkF, argsToLocals, Value.category]; done) | rfl) ?_
  intro m G K0
  have K : Cx l ({ frames := 0, cells := 0, slots := 0, locals := 0 } : Room) Z n0 _ "com/example/woodlark/woodlark/io/NumberBuffer$Reader" "hasRemaining" prog_29_method_2_code 1 (some .boolean) m G := K0
  refine K.aloadN d3_0 (pc' := 1) rfl rfl rfl ?_
  refine K.getf d3_1 (pc' := 4) rfl (host := "") (Or.inl (hw _ (List.mem_of_getElem? (i := 20) rfl))) Via.refl P2 ?_
  refine K.aloadN d3_4 (pc' := 5) rfl rfl rfl ?_
  refine K.getf d3_5 (pc' := 8) rfl (host := "") (Or.inl (hw _ (List.mem_of_getElem? (i := 13) rfl))) Via.refl P3 ?_
  refine K.icmp_ge d3_8 (pc1 := 11) rfl (by decide) (pc2 := 15) (by decide) (a := w1.toInt) (b := w2.toInt) rfl rfl (fun c8 => ?_) (fun c8 => ?_)
  · refine K.iconst d3_15 (pc' := 16) rfl (z := 0) rfl ?_
    exact K.retz d3_16 (Or.inl rfl) (by decide) (by decide) ⟨by rw [b2_f (by omega)], rfl⟩
  · refine K.iconst d3_11 (pc' := 12) rfl (z := 1) rfl ?_
    refine K.goto d3_12 (by decide) (pc' := 16) (by decide) ?_
    exact K.retz d3_16 (Or.inr rfl) (by decide) (by decide) ⟨by rw [b2_t (by omega)], rfl⟩
theorem d5_0 : decode prog_29_method_4_code 0 = .ok (.lconst 0, 1) := by decide +kernel
theorem d5_1 : decode prog_29_method_4_code 1 = .ok (.lstore_n 1, 1) := by decide +kernel
theorem d5_2 : decode prog_29_method_4_code 2 = .ok (.iconst 0, 1) := by decide +kernel
theorem d5_3 : decode prog_29_method_4_code 3 = .ok (.istore_n 3, 1) := by decide +kernel
theorem d5_4 : decode prog_29_method_4_code 4 = .ok (.iload_n 3, 1) := by decide +kernel
theorem d5_5 : decode prog_29_method_4_code 5 = .ok (.bipush 28, 2) := by decide +kernel
theorem d5_7 : decode prog_29_method_4_code 7 = .ok (.if_icmp .gt 77, 3) := by decide +kernel
theorem d5_10 : decode prog_29_method_4_code 10 = .ok (.aload_n 0, 1) := by decide +kernel
theorem d5_11 : decode prog_29_method_4_code 11 = .ok (.getfield 17, 3) := by decide +kernel
theorem d5_14 : decode prog_29_method_4_code 14 = .ok (.aload_n 0, 1) := by decide +kernel
theorem d5_15 : decode prog_29_method_4_code 15 = .ok (.getfield 13, 3) := by decide +kernel
theorem d5_18 : decode prog_29_method_4_code 18 = .ok (.if_icmp .ne 11, 3) := by decide +kernel
theorem d5_29 : decode prog_29_method_4_code 29 = .ok (.aload_n 0, 1) := by decide +kernel
theorem d5_30 : decode prog_29_method_4_code 30 = .ok (.getfield 7, 3) := by decide +kernel
theorem d5_33 : decode prog_29_method_4_code 33 = .ok (.aload_n 0, 1) := by decide +kernel
theorem d5_34 : decode prog_29_method_4_code 34 = .ok (.dup, 1) := by decide +kernel
theorem d5_35 : decode prog_29_method_4_code 35 = .ok (.getfield 17, 3) := by decide +kernel
theorem d5_38 : decode prog_29_method_4_code 38 = .ok (.dup_x1, 1) := by decide +kernel
theorem d5_39 : decode prog_29_method_4_code 39 = .ok (.iconst 1, 1) := by decide +kernel
theorem d5_40 : decode prog_29_method_4_code 40 = .ok (.iadd, 1) := by decide +kernel
theorem d5_41 : decode prog_29_method_4_code 41 = .ok (.putfield 17, 3) := by decide +kernel
theorem d5_44 : decode prog_29_method_4_code 44 = .ok (.baload, 1) := by decide +kernel
theorem d5_45 : decode prog_29_method_4_code 45 = .ok (.istore 4, 2) := by decide +kernel
theorem d5_47 : decode prog_29_method_4_code 47 = .ok (.lload_n 1, 1) := by decide +kernel
theorem d5_48 : decode prog_29_method_4_code 48 = .ok (.iload 4, 2) := by decide +kernel
theorem d5_50 : decode prog_29_method_4_code 50 = .ok (.bipush 127, 2) := by decide +kernel
theorem d5_52 : decode prog_29_method_4_code 52 = .ok (.iand, 1) := by decide +kernel
theorem d5_53 : decode prog_29_method_4_code 53 = .ok (.i2l, 1) := by decide +kernel
theorem d5_54 : decode prog_29_method_4_code 54 = .ok (.iload_n 3, 1) := by decide +kernel
theorem d5_55 : decode prog_29_method_4_code 55 = .ok (.lshl, 1) := by decide +kernel
theorem d5_56 : decode prog_29_method_4_code 56 = .ok (.lor, 1) := by decide +kernel
theorem d5_57 : decode prog_29_method_4_code 57 = .ok (.lstore_n 1, 1) := by decide +kernel
theorem d5_58 : decode prog_29_method_4_code 58 = .ok (.iload 4, 2) := by decide +kernel
theorem d5_60 : decode prog_29_method_4_code 60 = .ok (.ifCond .lt 18, 3) := by decide +kernel
theorem d5_78 : decode prog_29_method_4_code 78 = .ok (.iinc 3 7, 3) := by decide +kernel
theorem d5_81 : decode prog_29_method_4_code 81 = .ok (.goto (-77), 3) := by decide +kernel
theorem d5_63 : decode prog_29_method_4_code 63 = .ok (.lload_n 1, 1) := by decide +kernel
theorem d5_64 : decode prog_29_method_4_code 64 = .ok (.ldc2_w 31, 3) := by decide +kernel
theorem d5_67 : decode prog_29_method_4_code 67 = .ok (.lcmp, 1) := by decide +kernel
theorem d5_68 : decode prog_29_method_4_code 68 = .ok (.ifCond .gt 8, 3) := by decide +kernel
theorem d5_76 : decode prog_29_method_4_code 76 = .ok (.iconst 0, 1) := by decide +kernel
theorem d5_77 : decode prog_29_method_4_code 77 = .ok (.ireturn, 1) := by decide +kernel
theorem d5_71 : decode prog_29_method_4_code 71 = .ok (.lload_n 1, 1) := by decide +kernel
theorem d5_72 : decode prog_29_method_4_code 72 = .ok (.l2i, 1) := by decide +kernel
theorem d5_73 : decode prog_29_method_4_code 73 = .ok (.goto 4, 3) := by decide +kernel
set_option maxRecDepth 65536 in
set_option maxHeartbeats 40000000 in
theorem c_next (l : Launch) (Z : State) (a0 : Array Value) (hw : ∀ d ∈ tables_1, d.before a0 Z = true) (n0 : Nat) (h : Heap) (a : Addr) (b : Addr) (n : Int32) (p : Int32) (t : Int32) (x0 : Int32) (x1 : Int32) (x2 : Int32) (x3 : Int32) (P1 : Exa Z h a "com/example/woodlark/woodlark/io/NumberBuffer$Reader") (P2 : Fld Z h a "com/example/woodlark/woodlark/io/NumberBuffer$Reader" "bytes" "[B" (.ref b)) (P3 : Fld Z h a "com/example/woodlark/woodlark/io/NumberBuffer$Reader" "end" "I" (.int n)) (P4 : Fld Z h a "com/example/woodlark/woodlark/io/NumberBuffer$Reader" "position" "I" (.int p)) (P5 : Ary Z h b .byte [(.int x0), (.int x1), (.int x2), (.int x3)]) (P6 : n0 ≤ a) (P7 : b ≠ a) (hp : 0 ≤ p.toInt ∧ p.toInt ≤ t.toInt) (ht : t.toInt < n.toInt ∧ n.toInt ≤ 4) (hs : (¬ (p.toInt ≤ 0 ∧ 0 < t.toInt) ∨ x0.toInt < 0) ∧ (t.toInt ≠ 0 ∨ 0 ≤ x0.toInt) ∧ (¬ (p.toInt ≤ 1 ∧ 1 < t.toInt) ∨ x1.toInt < 0) ∧ (t.toInt ≠ 1 ∨ 0 ≤ x1.toInt) ∧ (¬ (p.toInt ≤ 2 ∧ 2 < t.toInt) ∨ x2.toInt < 0) ∧ (t.toInt ≠ 2 ∨ 0 ≤ x2.toInt) ∧ (¬ (p.toInt ≤ 3 ∧ 3 < t.toInt) ∨ x3.toInt < 0) ∧ (t.toInt ≠ 3 ∨ 0 ≤ x3.toInt)) : MeetsW l Z n0 (⟨"com/example/woodlark/woodlark/io/NumberBuffer$Reader", "next", "()I"⟩ : MethodName) prog_29_method_4_code 5 (some .int) ({ frames := 0, cells := 0, slots := 0, locals := 0 } : Room) #[(.ref a)] h (fun v h' => ∃ (z : Int32) (ps : Int32), v = some (.int z) ∧ (ps.toInt = t.toInt + 1) ∧ Keep h h' [a] ∧ Fld Z h' a "com/example/woodlark/woodlark/io/NumberBuffer$Reader" "position" "I" (.int ps) ∧ Fld Z h' a "com/example/woodlark/woodlark/io/NumberBuffer$Reader" "bytes" "[B" (.ref b) ∧ Fld Z h' a "com/example/woodlark/woodlark/io/NumberBuffer$Reader" "end" "I" (.int n)) := by
  refine MeetsW.intro (plainFor_of_name pn_com_example_woodlark_woodlark_io_NumberBuffer_Reader) (L0 := #[.val (.ref a), .unset, .unset, .unset, .unset]) (fun m => by first | (simp [entryFrame, mkF, argsToLocals, Value.category]; done) | rfl) ?_
  intro m G K0
  have K : Cx l ({ frames := 0, cells := 0, slots := 0, locals := 0 } : Room) Z n0 _ "com/example/woodlark/woodlark/io/NumberBuffer$Reader" "next" prog_29_method_4_code 5 (some .int) m G := K0
  have cs_p : p = 0 ∨ p = 1 ∨ p = 2 ∨ p = 3 := by
    have q : p.toInt = 0 ∨ p.toInt = 1 ∨ p.toInt = 2 ∨ p.toInt = 3 := by omega
    rcases q with q | q | q | q
    · exact Or.inl (eqI q)
    · exact Or.inr (Or.inl (eqI q))
    · exact Or.inr (Or.inr (Or.inl (eqI q)))
    · exact Or.inr (Or.inr (Or.inr (eqI q)))
  rcases cs_p with rfl | rfl | rfl | rfl
  · simp only [Int32.reduceToInt] at hp hs
    refine K.lconst d5_0 (pc' := 1) rfl (z := 0) rfl ?_
    refine K.lstoreN d5_1 (pc' := 2) rfl (L' := #[.val (.ref a), .val (.long (0 : Int64)), .second, .unset, .unset]) rfl ?_
    refine K.iconst d5_2 (pc' := 3) rfl (z := 0) rfl ?_
    refine K.istoreN d5_3 (pc' := 4) rfl (L' := #[.val (.ref a), .val (.long (0 : Int64)), .second, .val (.int (0 : Int32)), .unset]) rfl ?_
    refine K.iloadN d5_4 (pc' := 5) rfl rfl ?_
    refine K.bipush d5_5 (pc' := 7) rfl (z := 28) rfl ?_
    refine K.icmp_gt d5_7 (pc1 := 10) rfl (by decide) (pc2 := 84) (by decide) (a := 0) (b := 28) rfl rfl (fun c7 => ?_) (fun c7 => ?_)
    · exfalso; omega
    · refine K.aloadN d5_10 (pc' := 11) rfl rfl rfl ?_
      refine K.getf d5_11 (pc' := 14) rfl (host := "") (Or.inl (hw _ (List.mem_of_getElem? (i := 20) rfl))) Via.refl P4 ?_
      refine K.aloadN d5_14 (pc' := 15) rfl rfl rfl ?_
      refine K.getf d5_15 (pc' := 18) rfl (host := "") (Or.inl (hw _ (List.mem_of_getElem? (i := 13) rfl))) Via.refl P3 ?_
      refine K.icmp_ne d5_18 (pc1 := 21) rfl (by decide) (pc2 := 29) (by decide) (a := 0) (b := n.toInt) rfl rfl (fun c18 => ?_) (fun c18 => ?_)
      · refine K.aloadN d5_29 (pc' := 30) rfl rfl rfl ?_
        refine K.getf d5_30 (pc' := 33) rfl (host := "") (Or.inl (hw _ (List.mem_of_getElem? (i := 11) rfl))) Via.refl P2 ?_
        refine K.aloadN d5_33 (pc' := 34) rfl rfl rfl ?_
        refine K.dup d5_34 (pc' := 35) rfl rfl ?_
        refine K.getf d5_35 (pc' := 38) rfl (host := "") (Or.inl (hw _ (List.mem_of_getElem? (i := 20) rfl))) Via.refl P4 ?_
        refine K.dupX1 d5_38 (pc' := 39) rfl rfl rfl ?_
        refine K.iconst d5_39 (pc' := 40) rfl (z := 1) rfl ?_
        refine K.iadd d5_40 (pc' := 41) rfl (z := (1 : Int32)) (by decide) ?_
        refine K.putf d5_41 (pc' := 44) rfl (host := "") (Or.inl (hw _ (List.mem_of_getElem? (i := 20) rfl))) Via.refl P4 P1 (Or.inl (hw _ (List.mem_of_getElem? (i := 21) rfl))) (hw _ (List.mem_of_getElem? (i := 3) rfl)) (ty := .int) (by decide) rfl rfl P6 (fun h_1 W_2 => ?_)
        have f_3 : Exa Z h_1 a "com/example/woodlark/woodlark/io/NumberBuffer$Reader" := P1.wr W_2
        have f_4 : Fld Z h_1 a "com/example/woodlark/woodlark/io/NumberBuffer$Reader" "bytes" "[B" (.ref b) := P2.other W_2 (Or.inr (slot_ne (Or.inr (hw _ (List.mem_of_getElem? (i := 12) rfl))) (Or.inl (hw _ (List.mem_of_getElem? (i := 21) rfl))) (by decide) (t := (.array .byte)) (t' := .int) (by decide) (by decide)))
        have f_5 : Fld Z h_1 a "com/example/woodlark/woodlark/io/NumberBuffer$Reader" "end" "I" (.int n) := P3.other W_2 (Or.inr (slot_ne (Or.inr (hw _ (List.mem_of_getElem? (i := 14) rfl))) (Or.inl (hw _ (List.mem_of_getElem? (i := 21) rfl))) (by decide) (t := .int) (t' := .int) (by decide) (by decide)))
        have f_6 : Fld Z h_1 a "com/example/woodlark/woodlark/io/NumberBuffer$Reader" "position" "I" (.int (1 : Int32)) := P4.same W_2
        have f_7 : Ary Z h_1 b .byte [(.int x0), (.int x1), (.int x2), (.int x3)] := P5.other W_2 P7
        have kp_8 : Keep h h_1 [a] := (Keep.refl h [a]).wr W_2 (Or.inl (by simp))
        refine K.bald d5_44 (pc' := 45) rfl f_7 (i := 0) rfl rfl ?_
        refine K.istore d5_45 (pc' := 47) rfl (L' := #[.val (.ref a), .val (.long (0 : Int64)), .second, .val (.int (0 : Int32)), .val (.int x0)]) rfl ?_
        refine K.lloadN d5_47 (pc' := 48) rfl rfl ?_
        refine K.iload d5_48 (pc' := 50) rfl rfl ?_
        refine K.bipush d5_50 (pc' := 52) rfl (z := 127) rfl ?_
        obtain ⟨z52, e_z52⟩ : ∃ z, x0 &&& (127 : Int32) = z := ⟨_, rfl⟩
        refine K.iand d5_52 (pc' := 53) rfl e_z52 ?_
        obtain ⟨z53, e_z53⟩ : ∃ z, z52.toInt64 = z := ⟨_, rfl⟩
        refine K.i2l d5_53 (pc' := 54) rfl e_z53 ?_
        refine K.iloadN d5_54 (pc' := 55) rfl rfl ?_
        obtain ⟨z55, e_z55⟩ : ∃ z, z53 <<< ((0 : Int32) &&& 0x3f).toInt64 = z := ⟨_, rfl⟩
        refine K.lshl d5_55 (pc' := 56) rfl e_z55 ?_
        obtain ⟨z56, e_z56⟩ : ∃ z, (0 : Int64) ||| z55 = z := ⟨_, rfl⟩
        refine K.lor d5_56 (pc' := 57) rfl e_z56 ?_
        refine K.lstoreN d5_57 (pc' := 58) rfl (L' := #[.val (.ref a), .val (.long z56), .second, .val (.int (0 : Int32)), .val (.int x0)]) rfl ?_
        refine K.iload d5_58 (pc' := 60) rfl rfl ?_
        refine K.if_lt d5_60 (pc1 := 63) rfl (by decide) (pc2 := 78) (by decide) (a := x0.toInt) rfl (fun c60 => ?_) (fun c60 => ?_)
        · refine K.iinc d5_78 (pc' := 81) rfl rfl (z := (7 : Int32)) rfl (L' := #[.val (.ref a), .val (.long z56), .second, .val (.int (7 : Int32)), .val (.int x0)]) rfl ?_
          refine K.goto d5_81 (by decide) (pc' := 4) (by decide) ?_
          refine K.iloadN d5_4 (pc' := 5) rfl rfl ?_
          refine K.bipush d5_5 (pc' := 7) rfl (z := 28) rfl ?_
          refine K.icmp_gt d5_7 (pc1 := 10) rfl (by decide) (pc2 := 84) (by decide) (a := 7) (b := 28) rfl rfl (fun c7_1 => ?_) (fun c7_1 => ?_)
          · exfalso; omega
          · refine K.aloadN d5_10 (pc' := 11) rfl rfl rfl ?_
            refine K.getf d5_11 (pc' := 14) rfl (host := "") (Or.inl (hw _ (List.mem_of_getElem? (i := 20) rfl))) Via.refl f_6 ?_
            refine K.aloadN d5_14 (pc' := 15) rfl rfl rfl ?_
            refine K.getf d5_15 (pc' := 18) rfl (host := "") (Or.inl (hw _ (List.mem_of_getElem? (i := 13) rfl))) Via.refl f_5 ?_
            refine K.icmp_ne d5_18 (pc1 := 21) rfl (by decide) (pc2 := 29) (by decide) (a := 1) (b := n.toInt) rfl rfl (fun c18_1 => ?_) (fun c18_1 => ?_)
            · refine K.aloadN d5_29 (pc' := 30) rfl rfl rfl ?_
              refine K.getf d5_30 (pc' := 33) rfl (host := "") (Or.inl (hw _ (List.mem_of_getElem? (i := 11) rfl))) Via.refl f_4 ?_
              refine K.aloadN d5_33 (pc' := 34) rfl rfl rfl ?_
              refine K.dup d5_34 (pc' := 35) rfl rfl ?_
              refine K.getf d5_35 (pc' := 38) rfl (host := "") (Or.inl (hw _ (List.mem_of_getElem? (i := 20) rfl))) Via.refl f_6 ?_
              refine K.dupX1 d5_38 (pc' := 39) rfl rfl rfl ?_
              refine K.iconst d5_39 (pc' := 40) rfl (z := 1) rfl ?_
              refine K.iadd d5_40 (pc' := 41) rfl (z := (2 : Int32)) (by decide) ?_
              refine K.putf d5_41 (pc' := 44) rfl (host := "") (Or.inl (hw _ (List.mem_of_getElem? (i := 20) rfl))) Via.refl f_6 f_3 (Or.inl (hw _ (List.mem_of_getElem? (i := 21) rfl))) (hw _ (List.mem_of_getElem? (i := 3) rfl)) (ty := .int) (by decide) rfl rfl P6 (fun h_9 W_10 => ?_)
              have f_11 : Exa Z h_9 a "com/example/woodlark/woodlark/io/NumberBuffer$Reader" := f_3.wr W_10
              have f_12 : Fld Z h_9 a "com/example/woodlark/woodlark/io/NumberBuffer$Reader" "bytes" "[B" (.ref b) := f_4.other W_10 (Or.inr (slot_ne (Or.inr (hw _ (List.mem_of_getElem? (i := 12) rfl))) (Or.inl (hw _ (List.mem_of_getElem? (i := 21) rfl))) (by decide) (t := (.array .byte)) (t' := .int) (by decide) (by decide)))
              have f_13 : Fld Z h_9 a "com/example/woodlark/woodlark/io/NumberBuffer$Reader" "end" "I" (.int n) := f_5.other W_10 (Or.inr (slot_ne (Or.inr (hw _ (List.mem_of_getElem? (i := 14) rfl))) (Or.inl (hw _ (List.mem_of_getElem? (i := 21) rfl))) (by decide) (t := .int) (t' := .int) (by decide) (by decide)))
              have f_14 : Fld Z h_9 a "com/example/woodlark/woodlark/io/NumberBuffer$Reader" "position" "I" (.int (2 : Int32)) := f_6.same W_10
              have f_15 : Ary Z h_9 b .byte [(.int x0), (.int x1), (.int x2), (.int x3)] := f_7.other W_10 P7
              have kp_16 : Keep h h_9 [a] := kp_8.wr W_10 (Or.inl (by simp))
              refine K.bald d5_44 (pc' := 45) rfl f_15 (i := 1) rfl rfl ?_
              refine K.istore d5_45 (pc' := 47) rfl (L' := #[.val (.ref a), .val (.long z56), .second, .val (.int (7 : Int32)), .val (.int x1)]) rfl ?_
              refine K.lloadN d5_47 (pc' := 48) rfl rfl ?_
              refine K.iload d5_48 (pc' := 50) rfl rfl ?_
              refine K.bipush d5_50 (pc' := 52) rfl (z := 127) rfl ?_
              obtain ⟨z52_1, e_z52_1⟩ : ∃ z, x1 &&& (127 : Int32) = z := ⟨_, rfl⟩
              refine K.iand d5_52 (pc' := 53) rfl e_z52_1 ?_
              obtain ⟨z53_1, e_z53_1⟩ : ∃ z, z52_1.toInt64 = z := ⟨_, rfl⟩
              refine K.i2l d5_53 (pc' := 54) rfl e_z53_1 ?_
              refine K.iloadN d5_54 (pc' := 55) rfl rfl ?_
              obtain ⟨z55_1, e_z55_1⟩ : ∃ z, z53_1 <<< ((7 : Int32) &&& 0x3f).toInt64 = z := ⟨_, rfl⟩
              refine K.lshl d5_55 (pc' := 56) rfl e_z55_1 ?_
              obtain ⟨z56_1, e_z56_1⟩ : ∃ z, z56 ||| z55_1 = z := ⟨_, rfl⟩
              refine K.lor d5_56 (pc' := 57) rfl e_z56_1 ?_
              refine K.lstoreN d5_57 (pc' := 58) rfl (L' := #[.val (.ref a), .val (.long z56_1), .second, .val (.int (7 : Int32)), .val (.int x1)]) rfl ?_
              refine K.iload d5_58 (pc' := 60) rfl rfl ?_
              refine K.if_lt d5_60 (pc1 := 63) rfl (by decide) (pc2 := 78) (by decide) (a := x1.toInt) rfl (fun c60_1 => ?_) (fun c60_1 => ?_)
              · refine K.iinc d5_78 (pc' := 81) rfl rfl (z := (14 : Int32)) rfl (L' := #[.val (.ref a), .val (.long z56_1), .second, .val (.int (14 : Int32)), .val (.int x1)]) rfl ?_
                refine K.goto d5_81 (by decide) (pc' := 4) (by decide) ?_
                refine K.iloadN d5_4 (pc' := 5) rfl rfl ?_
                refine K.bipush d5_5 (pc' := 7) rfl (z := 28) rfl ?_
                refine K.icmp_gt d5_7 (pc1 := 10) rfl (by decide) (pc2 := 84) (by decide) (a := 14) (b := 28) rfl rfl (fun c7_2 => ?_) (fun c7_2 => ?_)
                · exfalso; omega
                · refine K.aloadN d5_10 (pc' := 11) rfl rfl rfl ?_
                  refine K.getf d5_11 (pc' := 14) rfl (host := "") (Or.inl (hw _ (List.mem_of_getElem? (i := 20) rfl))) Via.refl f_14 ?_
                  refine K.aloadN d5_14 (pc' := 15) rfl rfl rfl ?_
                  refine K.getf d5_15 (pc' := 18) rfl (host := "") (Or.inl (hw _ (List.mem_of_getElem? (i := 13) rfl))) Via.refl f_13 ?_
                  refine K.icmp_ne d5_18 (pc1 := 21) rfl (by decide) (pc2 := 29) (by decide) (a := 2) (b := n.toInt) rfl rfl (fun c18_2 => ?_) (fun c18_2 => ?_)
                  · refine K.aloadN d5_29 (pc' := 30) rfl rfl rfl ?_
                    refine K.getf d5_30 (pc' := 33) rfl (host := "") (Or.inl (hw _ (List.mem_of_getElem? (i := 11) rfl))) Via.refl f_12 ?_
                    refine K.aloadN d5_33 (pc' := 34) rfl rfl rfl ?_
                    refine K.dup d5_34 (pc' := 35) rfl rfl ?_
                    refine K.getf d5_35 (pc' := 38) rfl (host := "") (Or.inl (hw _ (List.mem_of_getElem? (i := 20) rfl))) Via.refl f_14 ?_
                    refine K.dupX1 d5_38 (pc' := 39) rfl rfl rfl ?_
                    refine K.iconst d5_39 (pc' := 40) rfl (z := 1) rfl ?_
                    refine K.iadd d5_40 (pc' := 41) rfl (z := (3 : Int32)) (by decide) ?_
                    refine K.putf d5_41 (pc' := 44) rfl (host := "") (Or.inl (hw _ (List.mem_of_getElem? (i := 20) rfl))) Via.refl f_14 f_11 (Or.inl (hw _ (List.mem_of_getElem? (i := 21) rfl))) (hw _ (List.mem_of_getElem? (i := 3) rfl)) (ty := .int) (by decide) rfl rfl P6 (fun h_17 W_18 => ?_)
                    have f_19 : Exa Z h_17 a "com/example/woodlark/woodlark/io/NumberBuffer$Reader" := f_11.wr W_18
                    have f_20 : Fld Z h_17 a "com/example/woodlark/woodlark/io/NumberBuffer$Reader" "bytes" "[B" (.ref b) := f_12.other W_18 (Or.inr (slot_ne (Or.inr (hw _ (List.mem_of_getElem? (i := 12) rfl))) (Or.inl (hw _ (List.mem_of_getElem? (i := 21) rfl))) (by decide) (t := (.array .byte)) (t' := .int) (by decide) (by decide)))
                    have f_21 : Fld Z h_17 a "com/example/woodlark/woodlark/io/NumberBuffer$Reader" "end" "I" (.int n) := f_13.other W_18 (Or.inr (slot_ne (Or.inr (hw _ (List.mem_of_getElem? (i := 14) rfl))) (Or.inl (hw _ (List.mem_of_getElem? (i := 21) rfl))) (by decide) (t := .int) (t' := .int) (by decide) (by decide)))
                    have f_22 : Fld Z h_17 a "com/example/woodlark/woodlark/io/NumberBuffer$Reader" "position" "I" (.int (3 : Int32)) := f_14.same W_18
                    have f_23 : Ary Z h_17 b .byte [(.int x0), (.int x1), (.int x2), (.int x3)] := f_15.other W_18 P7
                    have kp_24 : Keep h h_17 [a] := kp_16.wr W_18 (Or.inl (by simp))
                    refine K.bald d5_44 (pc' := 45) rfl f_23 (i := 2) rfl rfl ?_
                    refine K.istore d5_45 (pc' := 47) rfl (L' := #[.val (.ref a), .val (.long z56_1), .second, .val (.int (14 : Int32)), .val (.int x2)]) rfl ?_
                    refine K.lloadN d5_47 (pc' := 48) rfl rfl ?_
                    refine K.iload d5_48 (pc' := 50) rfl rfl ?_
                    refine K.bipush d5_50 (pc' := 52) rfl (z := 127) rfl ?_
                    obtain ⟨z52_2, e_z52_2⟩ : ∃ z, x2 &&& (127 : Int32) = z := ⟨_, rfl⟩
                    refine K.iand d5_52 (pc' := 53) rfl e_z52_2 ?_
                    obtain ⟨z53_2, e_z53_2⟩ : ∃ z, z52_2.toInt64 = z := ⟨_, rfl⟩
                    refine K.i2l d5_53 (pc' := 54) rfl e_z53_2 ?_
                    refine K.iloadN d5_54 (pc' := 55) rfl rfl ?_
                    obtain ⟨z55_2, e_z55_2⟩ : ∃ z, z53_2 <<< ((14 : Int32) &&& 0x3f).toInt64 = z := ⟨_, rfl⟩
                    refine K.lshl d5_55 (pc' := 56) rfl e_z55_2 ?_
                    obtain ⟨z56_2, e_z56_2⟩ : ∃ z, z56_1 ||| z55_2 = z := ⟨_, rfl⟩
                    refine K.lor d5_56 (pc' := 57) rfl e_z56_2 ?_
                    refine K.lstoreN d5_57 (pc' := 58) rfl (L' := #[.val (.ref a), .val (.long z56_2), .second, .val (.int (14 : Int32)), .val (.int x2)]) rfl ?_
                    refine K.iload d5_58 (pc' := 60) rfl rfl ?_
                    refine K.if_lt d5_60 (pc1 := 63) rfl (by decide) (pc2 := 78) (by decide) (a := x2.toInt) rfl (fun c60_2 => ?_) (fun c60_2 => ?_)
                    · refine K.iinc d5_78 (pc' := 81) rfl rfl (z := (21 : Int32)) rfl (L' := #[.val (.ref a), .val (.long z56_2), .second, .val (.int (21 : Int32)), .val (.int x2)]) rfl ?_
                      refine K.goto d5_81 (by decide) (pc' := 4) (by decide) ?_
                      refine K.iloadN d5_4 (pc' := 5) rfl rfl ?_
                      refine K.bipush d5_5 (pc' := 7) rfl (z := 28) rfl ?_
                      refine K.icmp_gt d5_7 (pc1 := 10) rfl (by decide) (pc2 := 84) (by decide) (a := 21) (b := 28) rfl rfl (fun c7_3 => ?_) (fun c7_3 => ?_)
                      · exfalso; omega
                      · refine K.aloadN d5_10 (pc' := 11) rfl rfl rfl ?_
                        refine K.getf d5_11 (pc' := 14) rfl (host := "") (Or.inl (hw _ (List.mem_of_getElem? (i := 20) rfl))) Via.refl f_22 ?_
                        refine K.aloadN d5_14 (pc' := 15) rfl rfl rfl ?_
                        refine K.getf d5_15 (pc' := 18) rfl (host := "") (Or.inl (hw _ (List.mem_of_getElem? (i := 13) rfl))) Via.refl f_21 ?_
                        refine K.icmp_ne d5_18 (pc1 := 21) rfl (by decide) (pc2 := 29) (by decide) (a := 3) (b := n.toInt) rfl rfl (fun c18_3 => ?_) (fun c18_3 => ?_)
                        · refine K.aloadN d5_29 (pc' := 30) rfl rfl rfl ?_
                          refine K.getf d5_30 (pc' := 33) rfl (host := "") (Or.inl (hw _ (List.mem_of_getElem? (i := 11) rfl))) Via.refl f_20 ?_
                          refine K.aloadN d5_33 (pc' := 34) rfl rfl rfl ?_
                          refine K.dup d5_34 (pc' := 35) rfl rfl ?_
                          refine K.getf d5_35 (pc' := 38) rfl (host := "") (Or.inl (hw _ (List.mem_of_getElem? (i := 20) rfl))) Via.refl f_22 ?_
                          refine K.dupX1 d5_38 (pc' := 39) rfl rfl rfl ?_
                          refine K.iconst d5_39 (pc' := 40) rfl (z := 1) rfl ?_
                          refine K.iadd d5_40 (pc' := 41) rfl (z := (4 : Int32)) (by decide) ?_
                          refine K.putf d5_41 (pc' := 44) rfl (host := "") (Or.inl (hw _ (List.mem_of_getElem? (i := 20) rfl))) Via.refl f_22 f_19 (Or.inl (hw _ (List.mem_of_getElem? (i := 21) rfl))) (hw _ (List.mem_of_getElem? (i := 3) rfl)) (ty := .int) (by decide) rfl rfl P6 (fun h_25 W_26 => ?_)
                          have f_27 : Exa Z h_25 a "com/example/woodlark/woodlark/io/NumberBuffer$Reader" := f_19.wr W_26
                          have f_28 : Fld Z h_25 a "com/example/woodlark/woodlark/io/NumberBuffer$Reader" "bytes" "[B" (.ref b) := f_20.other W_26 (Or.inr (slot_ne (Or.inr (hw _ (List.mem_of_getElem? (i := 12) rfl))) (Or.inl (hw _ (List.mem_of_getElem? (i := 21) rfl))) (by decide) (t := (.array .byte)) (t' := .int) (by decide) (by decide)))
                          have f_29 : Fld Z h_25 a "com/example/woodlark/woodlark/io/NumberBuffer$Reader" "end" "I" (.int n) := f_21.other W_26 (Or.inr (slot_ne (Or.inr (hw _ (List.mem_of_getElem? (i := 14) rfl))) (Or.inl (hw _ (List.mem_of_getElem? (i := 21) rfl))) (by decide) (t := .int) (t' := .int) (by decide) (by decide)))
                          have f_30 : Fld Z h_25 a "com/example/woodlark/woodlark/io/NumberBuffer$Reader" "position" "I" (.int (4 : Int32)) := f_22.same W_26
                          have f_31 : Ary Z h_25 b .byte [(.int x0), (.int x1), (.int x2), (.int x3)] := f_23.other W_26 P7
                          have kp_32 : Keep h h_25 [a] := kp_24.wr W_26 (Or.inl (by simp))
                          refine K.bald d5_44 (pc' := 45) rfl f_31 (i := 3) rfl rfl ?_
                          refine K.istore d5_45 (pc' := 47) rfl (L' := #[.val (.ref a), .val (.long z56_2), .second, .val (.int (21 : Int32)), .val (.int x3)]) rfl ?_
                          refine K.lloadN d5_47 (pc' := 48) rfl rfl ?_
                          refine K.iload d5_48 (pc' := 50) rfl rfl ?_
                          refine K.bipush d5_50 (pc' := 52) rfl (z := 127) rfl ?_
                          obtain ⟨z52_3, e_z52_3⟩ : ∃ z, x3 &&& (127 : Int32) = z := ⟨_, rfl⟩
                          refine K.iand d5_52 (pc' := 53) rfl e_z52_3 ?_
                          obtain ⟨z53_3, e_z53_3⟩ : ∃ z, z52_3.toInt64 = z := ⟨_, rfl⟩
                          refine K.i2l d5_53 (pc' := 54) rfl e_z53_3 ?_
                          refine K.iloadN d5_54 (pc' := 55) rfl rfl ?_
                          obtain ⟨z55_3, e_z55_3⟩ : ∃ z, z53_3 <<< ((21 : Int32) &&& 0x3f).toInt64 = z := ⟨_, rfl⟩
                          refine K.lshl d5_55 (pc' := 56) rfl e_z55_3 ?_
                          obtain ⟨z56_3, e_z56_3⟩ : ∃ z, z56_2 ||| z55_3 = z := ⟨_, rfl⟩
                          refine K.lor d5_56 (pc' := 57) rfl e_z56_3 ?_
                          refine K.lstoreN d5_57 (pc' := 58) rfl (L' := #[.val (.ref a), .val (.long z56_3), .second, .val (.int (21 : Int32)), .val (.int x3)]) rfl ?_
                          refine K.iload d5_58 (pc' := 60) rfl rfl ?_
                          refine K.if_lt d5_60 (pc1 := 63) rfl (by decide) (pc2 := 78) (by decide) (a := x3.toInt) rfl (fun c60_3 => ?_) (fun c60_3 => ?_)
                          · exfalso; omega
                          · refine K.lloadN d5_63 (pc' := 64) rfl rfl ?_
                            refine K.ldc2J d5_64 (pc' := 67) rfl (hw _ (List.mem_of_getElem? (i := 31) rfl)) ?_
                            refine K.lcmp_gt d5_67 d5_68 (pc1 := 71) rfl (by decide) (pc2 := 76) (by decide) (a := z56_3.toInt) (b := 2147483647) rfl rfl (fun c67 => ?_) (fun c67 => ?_)
                            · refine K.iconst d5_76 (pc' := 77) rfl (z := 0) rfl ?_
                              exact K.reti d5_77 (by decide) (by decide) ⟨(0 : Int32), (4 : Int32), rfl, by have ev : (0 : Int32).toInt = 0 := rfl; first | omega | ((try simp only [Int32.reduceToInt] at *); omega), kp_32, f_30, f_28, f_29⟩
                            · refine K.lloadN d5_71 (pc' := 72) rfl rfl ?_
                              obtain ⟨z72, e_z72⟩ : ∃ z, z56_3.toInt32 = z := ⟨_, rfl⟩
                              refine K.l2i d5_72 (pc' := 73) rfl e_z72 ?_
                              refine K.goto d5_73 (by decide) (pc' := 77) (by decide) ?_
                              exact K.reti d5_77 (by decide) (by decide) ⟨z72, (4 : Int32), rfl, by (try simp only [Int32.reduceToInt] at *); omega, kp_32, f_30, f_28, f_29⟩
                        · exfalso; omega
                    · refine K.lloadN d5_63 (pc' := 64) rfl rfl ?_
                      refine K.ldc2J d5_64 (pc' := 67) rfl (hw _ (List.mem_of_getElem? (i := 31) rfl)) ?_
                      refine K.lcmp_gt d5_67 d5_68 (pc1 := 71) rfl (by decide) (pc2 := 76) (by decide) (a := z56_2.toInt) (b := 2147483647) rfl rfl (fun c67 => ?_) (fun c67 => ?_)
                      · refine K.iconst d5_76 (pc' := 77) rfl (z := 0) rfl ?_
                        exact K.reti d5_77 (by decide) (by decide) ⟨(0 : Int32), (3 : Int32), rfl, by have ev : (0 : Int32).toInt = 0 := rfl; first | omega | ((try simp only [Int32.reduceToInt] at *); omega), kp_24, f_22, f_20, f_21⟩
                      · refine K.lloadN d5_71 (pc' := 72) rfl rfl ?_
                        obtain ⟨z72, e_z72⟩ : ∃ z, z56_2.toInt32 = z := ⟨_, rfl⟩
                        refine K.l2i d5_72 (pc' := 73) rfl e_z72 ?_
                        refine K.goto d5_73 (by decide) (pc' := 77) (by decide) ?_
                        exact K.reti d5_77 (by decide) (by decide) ⟨z72, (3 : Int32), rfl, by (try simp only [Int32.reduceToInt] at *); omega, kp_24, f_22, f_20, f_21⟩
                  · exfalso; omega
              · refine K.lloadN d5_63 (pc' := 64) rfl rfl ?_
                refine K.ldc2J d5_64 (pc' := 67) rfl (hw _ (List.mem_of_getElem? (i := 31) rfl)) ?_
                refine K.lcmp_gt d5_67 d5_68 (pc1 := 71) rfl (by decide) (pc2 := 76) (by decide) (a := z56_1.toInt) (b := 2147483647) rfl rfl (fun c67 => ?_) (fun c67 => ?_)
                · refine K.iconst d5_76 (pc' := 77) rfl (z := 0) rfl ?_
                  exact K.reti d5_77 (by decide) (by decide) ⟨(0 : Int32), (2 : Int32), rfl, by have ev : (0 : Int32).toInt = 0 := rfl; first | omega | ((try simp only [Int32.reduceToInt] at *); omega), kp_16, f_14, f_12, f_13⟩
                · refine K.lloadN d5_71 (pc' := 72) rfl rfl ?_
                  obtain ⟨z72, e_z72⟩ : ∃ z, z56_1.toInt32 = z := ⟨_, rfl⟩
                  refine K.l2i d5_72 (pc' := 73) rfl e_z72 ?_
                  refine K.goto d5_73 (by decide) (pc' := 77) (by decide) ?_
                  exact K.reti d5_77 (by decide) (by decide) ⟨z72, (2 : Int32), rfl, by (try simp only [Int32.reduceToInt] at *); omega, kp_16, f_14, f_12, f_13⟩
            · exfalso; omega
        · refine K.lloadN d5_63 (pc' := 64) rfl rfl ?_
          refine K.ldc2J d5_64 (pc' := 67) rfl (hw _ (List.mem_of_getElem? (i := 31) rfl)) ?_
          refine K.lcmp_gt d5_67 d5_68 (pc1 := 71) rfl (by decide) (pc2 := 76) (by decide) (a := z56.toInt) (b := 2147483647) rfl rfl (fun c67 => ?_) (fun c67 => ?_)
          · refine K.iconst d5_76 (pc' := 77) rfl (z := 0) rfl ?_
            exact K.reti d5_77 (by decide) (by decide) ⟨(0 : Int32), (1 : Int32), rfl, by have ev : (0 : Int32).toInt = 0 := rfl; first | omega | ((try simp only [Int32.reduceToInt] at *); omega), kp_8, f_6, f_4, f_5⟩
          · refine K.lloadN d5_71 (pc' := 72) rfl rfl ?_
            obtain ⟨z72, e_z72⟩ : ∃ z, z56.toInt32 = z := ⟨_, rfl⟩
            refine K.l2i d5_72 (pc' := 73) rfl e_z72 ?_
            refine K.goto d5_73 (by decide) (pc' := 77) (by decide) ?_
            exact K.reti d5_77 (by decide) (by decide) ⟨z72, (1 : Int32), rfl, by (try simp only [Int32.reduceToInt] at *); omega, kp_8, f_6, f_4, f_5⟩
      · exfalso; omega
  · simp only [Int32.reduceToInt] at hp hs
    refine K.lconst d5_0 (pc' := 1) rfl (z := 0) rfl ?_
    refine K.lstoreN d5_1 (pc' := 2) rfl (L' := #[.val (.ref a), .val (.long (0 : Int64)), .second, .unset, .unset]) rfl ?_
    refine K.iconst d5_2 (pc' := 3) rfl (z := 0) rfl ?_
    refine K.istoreN d5_3 (pc' := 4) rfl (L' := #[.val (.ref a), .val (.long (0 : Int64)), .second, .val (.int (0 : Int32)), .unset]) rfl ?_
    refine K.iloadN d5_4 (pc' := 5) rfl rfl ?_
    refine K.bipush d5_5 (pc' := 7) rfl (z := 28) rfl ?_
    refine K.icmp_gt d5_7 (pc1 := 10) rfl (by decide) (pc2 := 84) (by decide) (a := 0) (b := 28) rfl rfl (fun c7 => ?_) (fun c7 => ?_)
    · exfalso; omega
    · refine K.aloadN d5_10 (pc' := 11) rfl rfl rfl ?_
      refine K.getf d5_11 (pc' := 14) rfl (host := "") (Or.inl (hw _ (List.mem_of_getElem? (i := 20) rfl))) Via.refl P4 ?_
      refine K.aloadN d5_14 (pc' := 15) rfl rfl rfl ?_
      refine K.getf d5_15 (pc' := 18) rfl (host := "") (Or.inl (hw _ (List.mem_of_getElem? (i := 13) rfl))) Via.refl P3 ?_
      refine K.icmp_ne d5_18 (pc1 := 21) rfl (by decide) (pc2 := 29) (by decide) (a := 1) (b := n.toInt) rfl rfl (fun c18 => ?_) (fun c18 => ?_)
      · refine K.aloadN d5_29 (pc' := 30) rfl rfl rfl ?_
        refine K.getf d5_30 (pc' := 33) rfl (host := "") (Or.inl (hw _ (List.mem_of_getElem? (i := 11) rfl))) Via.refl P2 ?_
        refine K.aloadN d5_33 (pc' := 34) rfl rfl rfl ?_
        refine K.dup d5_34 (pc' := 35) rfl rfl ?_
        refine K.getf d5_35 (pc' := 38) rfl (host := "") (Or.inl (hw _ (List.mem_of_getElem? (i := 20) rfl))) Via.refl P4 ?_
        refine K.dupX1 d5_38 (pc' := 39) rfl rfl rfl ?_
        refine K.iconst d5_39 (pc' := 40) rfl (z := 1) rfl ?_
        refine K.iadd d5_40 (pc' := 41) rfl (z := (2 : Int32)) (by decide) ?_
        refine K.putf d5_41 (pc' := 44) rfl (host := "") (Or.inl (hw _ (List.mem_of_getElem? (i := 20) rfl))) Via.refl P4 P1 (Or.inl (hw _ (List.mem_of_getElem? (i := 21) rfl))) (hw _ (List.mem_of_getElem? (i := 3) rfl)) (ty := .int) (by decide) rfl rfl P6 (fun h_33 W_34 => ?_)
        have f_35 : Exa Z h_33 a "com/example/woodlark/woodlark/io/NumberBuffer$Reader" := P1.wr W_34
        have f_36 : Fld Z h_33 a "com/example/woodlark/woodlark/io/NumberBuffer$Reader" "bytes" "[B" (.ref b) := P2.other W_34 (Or.inr (slot_ne (Or.inr (hw _ (List.mem_of_getElem? (i := 12) rfl))) (Or.inl (hw _ (List.mem_of_getElem? (i := 21) rfl))) (by decide) (t := (.array .byte)) (t' := .int) (by decide) (by decide)))
        have f_37 : Fld Z h_33 a "com/example/woodlark/woodlark/io/NumberBuffer$Reader" "end" "I" (.int n) := P3.other W_34 (Or.inr (slot_ne (Or.inr (hw _ (List.mem_of_getElem? (i := 14) rfl))) (Or.inl (hw _ (List.mem_of_getElem? (i := 21) rfl))) (by decide) (t := .int) (t' := .int) (by decide) (by decide)))
        have f_38 : Fld Z h_33 a "com/example/woodlark/woodlark/io/NumberBuffer$Reader" "position" "I" (.int (2 : Int32)) := P4.same W_34
        have f_39 : Ary Z h_33 b .byte [(.int x0), (.int x1), (.int x2), (.int x3)] := P5.other W_34 P7
        have kp_40 : Keep h h_33 [a] := (Keep.refl h [a]).wr W_34 (Or.inl (by simp))
        refine K.bald d5_44 (pc' := 45) rfl f_39 (i := 1) rfl rfl ?_
        refine K.istore d5_45 (pc' := 47) rfl (L' := #[.val (.ref a), .val (.long (0 : Int64)), .second, .val (.int (0 : Int32)), .val (.int x1)]) rfl ?_
        refine K.lloadN d5_47 (pc' := 48) rfl rfl ?_
        refine K.iload d5_48 (pc' := 50) rfl rfl ?_
        refine K.bipush d5_50 (pc' := 52) rfl (z := 127) rfl ?_
        obtain ⟨z52, e_z52⟩ : ∃ z, x1 &&& (127 : Int32) = z := ⟨_, rfl⟩
        refine K.iand d5_52 (pc' := 53) rfl e_z52 ?_
        obtain ⟨z53, e_z53⟩ : ∃ z, z52.toInt64 = z := ⟨_, rfl⟩
        refine K.i2l d5_53 (pc' := 54) rfl e_z53 ?_
        refine K.iloadN d5_54 (pc' := 55) rfl rfl ?_
        obtain ⟨z55, e_z55⟩ : ∃ z, z53 <<< ((0 : Int32) &&& 0x3f).toInt64 = z := ⟨_, rfl⟩
        refine K.lshl d5_55 (pc' := 56) rfl e_z55 ?_
        obtain ⟨z56, e_z56⟩ : ∃ z, (0 : Int64) ||| z55 = z := ⟨_, rfl⟩
        refine K.lor d5_56 (pc' := 57) rfl e_z56 ?_
        refine K.lstoreN d5_57 (pc' := 58) rfl (L' := #[.val (.ref a), .val (.long z56), .second, .val (.int (0 : Int32)), .val (.int x1)]) rfl ?_
        refine K.iload d5_58 (pc' := 60) rfl rfl ?_
        refine K.if_lt d5_60 (pc1 := 63) rfl (by decide) (pc2 := 78) (by decide) (a := x1.toInt) rfl (fun c60 => ?_) (fun c60 => ?_)
        · refine K.iinc d5_78 (pc' := 81) rfl rfl (z := (7 : Int32)) rfl (L' := #[.val (.ref a), .val (.long z56), .second, .val (.int (7 : Int32)), .val (.int x1)]) rfl ?_
          refine K.goto d5_81 (by decide) (pc' := 4) (by decide) ?_
          refine K.iloadN d5_4 (pc' := 5) rfl rfl ?_
          refine K.bipush d5_5 (pc' := 7) rfl (z := 28) rfl ?_
          refine K.icmp_gt d5_7 (pc1 := 10) rfl (by decide) (pc2 := 84) (by decide) (a := 7) (b := 28) rfl rfl (fun c7_1 => ?_) (fun c7_1 => ?_)
          · exfalso; omega
          · refine K.aloadN d5_10 (pc' := 11) rfl rfl rfl ?_
            refine K.getf d5_11 (pc' := 14) rfl (host := "") (Or.inl (hw _ (List.mem_of_getElem? (i := 20) rfl))) Via.refl f_38 ?_
            refine K.aloadN d5_14 (pc' := 15) rfl rfl rfl ?_
            refine K.getf d5_15 (pc' := 18) rfl (host := "") (Or.inl (hw _ (List.mem_of_getElem? (i := 13) rfl))) Via.refl f_37 ?_
            refine K.icmp_ne d5_18 (pc1 := 21) rfl (by decide) (pc2 := 29) (by decide) (a := 2) (b := n.toInt) rfl rfl (fun c18_1 => ?_) (fun c18_1 => ?_)
            · refine K.aloadN d5_29 (pc' := 30) rfl rfl rfl ?_
              refine K.getf d5_30 (pc' := 33) rfl (host := "") (Or.inl (hw _ (List.mem_of_getElem? (i := 11) rfl))) Via.refl f_36 ?_
              refine K.aloadN d5_33 (pc' := 34) rfl rfl rfl ?_
              refine K.dup d5_34 (pc' := 35) rfl rfl ?_
              refine K.getf d5_35 (pc' := 38) rfl (host := "") (Or.inl (hw _ (List.mem_of_getElem? (i := 20) rfl))) Via.refl f_38 ?_
              refine K.dupX1 d5_38 (pc' := 39) rfl rfl rfl ?_
              refine K.iconst d5_39 (pc' := 40) rfl (z := 1) rfl ?_
              refine K.iadd d5_40 (pc' := 41) rfl (z := (3 : Int32)) (by decide) ?_
              refine K.putf d5_41 (pc' := 44) rfl (host := "") (Or.inl (hw _ (List.mem_of_getElem? (i := 20) rfl))) Via.refl f_38 f_35 (Or.inl (hw _ (List.mem_of_getElem? (i := 21) rfl))) (hw _ (List.mem_of_getElem? (i := 3) rfl)) (ty := .int) (by decide) rfl rfl P6 (fun h_41 W_42 => ?_)
              have f_43 : Exa Z h_41 a "com/example/woodlark/woodlark/io/NumberBuffer$Reader" := f_35.wr W_42
              have f_44 : Fld Z h_41 a "com/example/woodlark/woodlark/io/NumberBuffer$Reader" "bytes" "[B" (.ref b) := f_36.other W_42 (Or.inr (slot_ne (Or.inr (hw _ (List.mem_of_getElem? (i := 12) rfl))) (Or.inl (hw _ (List.mem_of_getElem? (i := 21) rfl))) (by decide) (t := (.array .byte)) (t' := .int) (by decide) (by decide)))
              have f_45 : Fld Z h_41 a "com/example/woodlark/woodlark/io/NumberBuffer$Reader" "end" "I" (.int n) := f_37.other W_42 (Or.inr (slot_ne (Or.inr (hw _ (List.mem_of_getElem? (i := 14) rfl))) (Or.inl (hw _ (List.mem_of_getElem? (i := 21) rfl))) (by decide) (t := .int) (t' := .int) (by decide) (by decide)))
              have f_46 : Fld Z h_41 a "com/example/woodlark/woodlark/io/NumberBuffer$Reader" "position" "I" (.int (3 : Int32)) := f_38.same W_42
              have f_47 : Ary Z h_41 b .byte [(.int x0), (.int x1), (.int x2), (.int x3)] := f_39.other W_42 P7
              have kp_48 : Keep h h_41 [a] := kp_40.wr W_42 (Or.inl (by simp))
              refine K.bald d5_44 (pc' := 45) rfl f_47 (i := 2) rfl rfl ?_
              refine K.istore d5_45 (pc' := 47) rfl (L' := #[.val (.ref a), .val (.long z56), .second, .val (.int (7 : Int32)), .val (.int x2)]) rfl ?_
              refine K.lloadN d5_47 (pc' := 48) rfl rfl ?_
              refine K.iload d5_48 (pc' := 50) rfl rfl ?_
              refine K.bipush d5_50 (pc' := 52) rfl (z := 127) rfl ?_
              obtain ⟨z52_1, e_z52_1⟩ : ∃ z, x2 &&& (127 : Int32) = z := ⟨_, rfl⟩
              refine K.iand d5_52 (pc' := 53) rfl e_z52_1 ?_
              obtain ⟨z53_1, e_z53_1⟩ : ∃ z, z52_1.toInt64 = z := ⟨_, rfl⟩
              refine K.i2l d5_53 (pc' := 54) rfl e_z53_1 ?_
              refine K.iloadN d5_54 (pc' := 55) rfl rfl ?_
              obtain ⟨z55_1, e_z55_1⟩ : ∃ z, z53_1 <<< ((7 : Int32) &&& 0x3f).toInt64 = z := ⟨_, rfl⟩
              refine K.lshl d5_55 (pc' := 56) rfl e_z55_1 ?_
              obtain ⟨z56_1, e_z56_1⟩ : ∃ z, z56 ||| z55_1 = z := ⟨_, rfl⟩
              refine K.lor d5_56 (pc' := 57) rfl e_z56_1 ?_
              refine K.lstoreN d5_57 (pc' := 58) rfl (L' := #[.val (.ref a), .val (.long z56_1), .second, .val (.int (7 : Int32)), .val (.int x2)]) rfl ?_
              refine K.iload d5_58 (pc' := 60) rfl rfl ?_
              refine K.if_lt d5_60 (pc1 := 63) rfl (by decide) (pc2 := 78) (by decide) (a := x2.toInt) rfl (fun c60_1 => ?_) (fun c60_1 => ?_)
              · refine K.iinc d5_78 (pc' := 81) rfl rfl (z := (14 : Int32)) rfl (L' := #[.val (.ref a), .val (.long z56_1), .second, .val (.int (14 : Int32)), .val (.int x2)]) rfl ?_
                refine K.goto d5_81 (by decide) (pc' := 4) (by decide) ?_
                refine K.iloadN d5_4 (pc' := 5) rfl rfl ?_
                refine K.bipush d5_5 (pc' := 7) rfl (z := 28) rfl ?_
                refine K.icmp_gt d5_7 (pc1 := 10) rfl (by decide) (pc2 := 84) (by decide) (a := 14) (b := 28) rfl rfl (fun c7_2 => ?_) (fun c7_2 => ?_)
                · exfalso; omega
                · refine K.aloadN d5_10 (pc' := 11) rfl rfl rfl ?_
                  refine K.getf d5_11 (pc' := 14) rfl (host := "") (Or.inl (hw _ (List.mem_of_getElem? (i := 20) rfl))) Via.refl f_46 ?_
                  refine K.aloadN d5_14 (pc' := 15) rfl rfl rfl ?_
                  refine K.getf d5_15 (pc' := 18) rfl (host := "") (Or.inl (hw _ (List.mem_of_getElem? (i := 13) rfl))) Via.refl f_45 ?_
                  refine K.icmp_ne d5_18 (pc1 := 21) rfl (by decide) (pc2 := 29) (by decide) (a := 3) (b := n.toInt) rfl rfl (fun c18_2 => ?_) (fun c18_2 => ?_)
                  · refine K.aloadN d5_29 (pc' := 30) rfl rfl rfl ?_
                    refine K.getf d5_30 (pc' := 33) rfl (host := "") (Or.inl (hw _ (List.mem_of_getElem? (i := 11) rfl))) Via.refl f_44 ?_
                    refine K.aloadN d5_33 (pc' := 34) rfl rfl rfl ?_
                    refine K.dup d5_34 (pc' := 35) rfl rfl ?_
                    refine K.getf d5_35 (pc' := 38) rfl (host := "") (Or.inl (hw _ (List.mem_of_getElem? (i := 20) rfl))) Via.refl f_46 ?_
                    refine K.dupX1 d5_38 (pc' := 39) rfl rfl rfl ?_
                    refine K.iconst d5_39 (pc' := 40) rfl (z := 1) rfl ?_
                    refine K.iadd d5_40 (pc' := 41) rfl (z := (4 : Int32)) (by decide) ?_
                    refine K.putf d5_41 (pc' := 44) rfl (host := "") (Or.inl (hw _ (List.mem_of_getElem? (i := 20) rfl))) Via.refl f_46 f_43 (Or.inl (hw _ (List.mem_of_getElem? (i := 21) rfl))) (hw _ (List.mem_of_getElem? (i := 3) rfl)) (ty := .int) (by decide) rfl rfl P6 (fun h_49 W_50 => ?_)
                    have f_51 : Exa Z h_49 a "com/example/woodlark/woodlark/io/NumberBuffer$Reader" := f_43.wr W_50
                    have f_52 : Fld Z h_49 a "com/example/woodlark/woodlark/io/NumberBuffer$Reader" "bytes" "[B" (.ref b) := f_44.other W_50 (Or.inr (slot_ne (Or.inr (hw _ (List.mem_of_getElem? (i := 12) rfl))) (Or.inl (hw _ (List.mem_of_getElem? (i := 21) rfl))) (by decide) (t := (.array .byte)) (t' := .int) (by decide) (by decide)))
                    have f_53 : Fld Z h_49 a "com/example/woodlark/woodlark/io/NumberBuffer$Reader" "end" "I" (.int n) := f_45.other W_50 (Or.inr (slot_ne (Or.inr (hw _ (List.mem_of_getElem? (i := 14) rfl))) (Or.inl (hw _ (List.mem_of_getElem? (i := 21) rfl))) (by decide) (t := .int) (t' := .int) (by decide) (by decide)))
                    have f_54 : Fld Z h_49 a "com/example/woodlark/woodlark/io/NumberBuffer$Reader" "position" "I" (.int (4 : Int32)) := f_46.same W_50
                    have f_55 : Ary Z h_49 b .byte [(.int x0), (.int x1), (.int x2), (.int x3)] := f_47.other W_50 P7
                    have kp_56 : Keep h h_49 [a] := kp_48.wr W_50 (Or.inl (by simp))
                    refine K.bald d5_44 (pc' := 45) rfl f_55 (i := 3) rfl rfl ?_
                    refine K.istore d5_45 (pc' := 47) rfl (L' := #[.val (.ref a), .val (.long z56_1), .second, .val (.int (14 : Int32)), .val (.int x3)]) rfl ?_
                    refine K.lloadN d5_47 (pc' := 48) rfl rfl ?_
                    refine K.iload d5_48 (pc' := 50) rfl rfl ?_
                    refine K.bipush d5_50 (pc' := 52) rfl (z := 127) rfl ?_
                    obtain ⟨z52_2, e_z52_2⟩ : ∃ z, x3 &&& (127 : Int32) = z := ⟨_, rfl⟩
                    refine K.iand d5_52 (pc' := 53) rfl e_z52_2 ?_
                    obtain ⟨z53_2, e_z53_2⟩ : ∃ z, z52_2.toInt64 = z := ⟨_, rfl⟩
                    refine K.i2l d5_53 (pc' := 54) rfl e_z53_2 ?_
                    refine K.iloadN d5_54 (pc' := 55) rfl rfl ?_
                    obtain ⟨z55_2, e_z55_2⟩ : ∃ z, z53_2 <<< ((14 : Int32) &&& 0x3f).toInt64 = z := ⟨_, rfl⟩
                    refine K.lshl d5_55 (pc' := 56) rfl e_z55_2 ?_
                    obtain ⟨z56_2, e_z56_2⟩ : ∃ z, z56_1 ||| z55_2 = z := ⟨_, rfl⟩
                    refine K.lor d5_56 (pc' := 57) rfl e_z56_2 ?_
                    refine K.lstoreN d5_57 (pc' := 58) rfl (L' := #[.val (.ref a), .val (.long z56_2), .second, .val (.int (14 : Int32)), .val (.int x3)]) rfl ?_
                    refine K.iload d5_58 (pc' := 60) rfl rfl ?_
                    refine K.if_lt d5_60 (pc1 := 63) rfl (by decide) (pc2 := 78) (by decide) (a := x3.toInt) rfl (fun c60_2 => ?_) (fun c60_2 => ?_)
                    · exfalso; omega
                    · refine K.lloadN d5_63 (pc' := 64) rfl rfl ?_
                      refine K.ldc2J d5_64 (pc' := 67) rfl (hw _ (List.mem_of_getElem? (i := 31) rfl)) ?_
                      refine K.lcmp_gt d5_67 d5_68 (pc1 := 71) rfl (by decide) (pc2 := 76) (by decide) (a := z56_2.toInt) (b := 2147483647) rfl rfl (fun c67 => ?_) (fun c67 => ?_)
                      · refine K.iconst d5_76 (pc' := 77) rfl (z := 0) rfl ?_
                        exact K.reti d5_77 (by decide) (by decide) ⟨(0 : Int32), (4 : Int32), rfl, by have ev : (0 : Int32).toInt = 0 := rfl; first | omega | ((try simp only [Int32.reduceToInt] at *); omega), kp_56, f_54, f_52, f_53⟩
                      · refine K.lloadN d5_71 (pc' := 72) rfl rfl ?_
                        obtain ⟨z72, e_z72⟩ : ∃ z, z56_2.toInt32 = z := ⟨_, rfl⟩
                        refine K.l2i d5_72 (pc' := 73) rfl e_z72 ?_
                        refine K.goto d5_73 (by decide) (pc' := 77) (by decide) ?_
                        exact K.reti d5_77 (by decide) (by decide) ⟨z72, (4 : Int32), rfl, by (try simp only [Int32.reduceToInt] at *); omega, kp_56, f_54, f_52, f_53⟩
                  · exfalso; omega
              · refine K.lloadN d5_63 (pc' := 64) rfl rfl ?_
                refine K.ldc2J d5_64 (pc' := 67) rfl (hw _ (List.mem_of_getElem? (i := 31) rfl)) ?_
                refine K.lcmp_gt d5_67 d5_68 (pc1 := 71) rfl (by decide) (pc2 := 76) (by decide) (a := z56_1.toInt) (b := 2147483647) rfl rfl (fun c67 => ?_) (fun c67 => ?_)
                · refine K.iconst d5_76 (pc' := 77) rfl (z := 0) rfl ?_
                  exact K.reti d5_77 (by decide) (by decide) ⟨(0 : Int32), (3 : Int32), rfl, by have ev : (0 : Int32).toInt = 0 := rfl; first | omega | ((try simp only [Int32.reduceToInt] at *); omega), kp_48, f_46, f_44, f_45⟩
                · refine K.lloadN d5_71 (pc' := 72) rfl rfl ?_
                  obtain ⟨z72, e_z72⟩ : ∃ z, z56_1.toInt32 = z := ⟨_, rfl⟩
                  refine K.l2i d5_72 (pc' := 73) rfl e_z72 ?_
                  refine K.goto d5_73 (by decide) (pc' := 77) (by decide) ?_
                  exact K.reti d5_77 (by decide) (by decide) ⟨z72, (3 : Int32), rfl, by (try simp only [Int32.reduceToInt] at *); omega, kp_48, f_46, f_44, f_45⟩
            · exfalso; omega
        · refine K.lloadN d5_63 (pc' := 64) rfl rfl ?_
          refine K.ldc2J d5_64 (pc' := 67) rfl (hw _ (List.mem_of_getElem? (i := 31) rfl)) ?_
          refine K.lcmp_gt d5_67 d5_68 (pc1 := 71) rfl (by decide) (pc2 := 76) (by decide) (a := z56.toInt) (b := 2147483647) rfl rfl (fun c67 => ?_) (fun c67 => ?_)
          · refine K.iconst d5_76 (pc' := 77) rfl (z := 0) rfl ?_
            exact K.reti d5_77 (by decide) (by decide) ⟨(0 : Int32), (2 : Int32), rfl, by have ev : (0 : Int32).toInt = 0 := rfl; first | omega | ((try simp only [Int32.reduceToInt] at *); omega), kp_40, f_38, f_36, f_37⟩
          · refine K.lloadN d5_71 (pc' := 72) rfl rfl ?_
            obtain ⟨z72, e_z72⟩ : ∃ z, z56.toInt32 = z := ⟨_, rfl⟩
            refine K.l2i d5_72 (pc' := 73) rfl e_z72 ?_
            refine K.goto d5_73 (by decide) (pc' := 77) (by decide) ?_
            exact K.reti d5_77 (by decide) (by decide) ⟨z72, (2 : Int32), rfl, by (try simp only [Int32.reduceToInt] at *); omega, kp_40, f_38, f_36, f_37⟩
      · exfalso; omega
  · simp only [Int32.reduceToInt] at hp hs
    refine K.lconst d5_0 (pc' := 1) rfl (z := 0) rfl ?_
    refine K.lstoreN d5_1 (pc' := 2) rfl (L' := #[.val (.ref a), .val (.long (0 : Int64)), .second, .unset, .unset]) rfl ?_
    refine K.iconst d5_2 (pc' := 3) rfl (z := 0) rfl ?_
    refine K.istoreN d5_3 (pc' := 4) rfl (L' := #[.val (.ref a), .val (.long (0 : Int64)), .second, .val (.int (0 : Int32)), .unset]) rfl ?_
    refine K.iloadN d5_4 (pc' := 5) rfl rfl ?_
    refine K.bipush d5_5 (pc' := 7) rfl (z := 28) rfl ?_
    refine K.icmp_gt d5_7 (pc1 := 10) rfl (by decide) (pc2 := 84) (by decide) (a := 0) (b := 28) rfl rfl (fun c7 => ?_) (fun c7 => ?_)
    · exfalso; omega
    · refine K.aloadN d5_10 (pc' := 11) rfl rfl rfl ?_
      refine K.getf d5_11 (pc' := 14) rfl (host := "") (Or.inl (hw _ (List.mem_of_getElem? (i := 20) rfl))) Via.refl P4 ?_
      refine K.aloadN d5_14 (pc' := 15) rfl rfl rfl ?_
      refine K.getf d5_15 (pc' := 18) rfl (host := "") (Or.inl (hw _ (List.mem_of_getElem? (i := 13) rfl))) Via.refl P3 ?_
      refine K.icmp_ne d5_18 (pc1 := 21) rfl (by decide) (pc2 := 29) (by decide) (a := 2) (b := n.toInt) rfl rfl (fun c18 => ?_) (fun c18 => ?_)
      · refine K.aloadN d5_29 (pc' := 30) rfl rfl rfl ?_
        refine K.getf d5_30 (pc' := 33) rfl (host := "") (Or.inl (hw _ (List.mem_of_getElem? (i := 11) rfl))) Via.refl P2 ?_
        refine K.aloadN d5_33 (pc' := 34) rfl rfl rfl ?_
        refine K.dup d5_34 (pc' := 35) rfl rfl ?_
        refine K.getf d5_35 (pc' := 38) rfl (host := "") (Or.inl (hw _ (List.mem_of_getElem? (i := 20) rfl))) Via.refl P4 ?_
        refine K.dupX1 d5_38 (pc' := 39) rfl rfl rfl ?_
        refine K.iconst d5_39 (pc' := 40) rfl (z := 1) rfl ?_
        refine K.iadd d5_40 (pc' := 41) rfl (z := (3 : Int32)) (by decide) ?_
        refine K.putf d5_41 (pc' := 44) rfl (host := "") (Or.inl (hw _ (List.mem_of_getElem? (i := 20) rfl))) Via.refl P4 P1 (Or.inl (hw _ (List.mem_of_getElem? (i := 21) rfl))) (hw _ (List.mem_of_getElem? (i := 3) rfl)) (ty := .int) (by decide) rfl rfl P6 (fun h_57 W_58 => ?_)
        have f_59 : Exa Z h_57 a "com/example/woodlark/woodlark/io/NumberBuffer$Reader" := P1.wr W_58
        have f_60 : Fld Z h_57 a "com/example/woodlark/woodlark/io/NumberBuffer$Reader" "bytes" "[B" (.ref b) := P2.other W_58 (Or.inr (slot_ne (Or.inr (hw _ (List.mem_of_getElem? (i := 12) rfl))) (Or.inl (hw _ (List.mem_of_getElem? (i := 21) rfl))) (by decide) (t := (.array .byte)) (t' := .int) (by decide) (by decide)))
        have f_61 : Fld Z h_57 a "com/example/woodlark/woodlark/io/NumberBuffer$Reader" "end" "I" (.int n) := P3.other W_58 (Or.inr (slot_ne (Or.inr (hw _ (List.mem_of_getElem? (i := 14) rfl))) (Or.inl (hw _ (List.mem_of_getElem? (i := 21) rfl))) (by decide) (t := .int) (t' := .int) (by decide) (by decide)))
        have f_62 : Fld Z h_57 a "com/example/woodlark/woodlark/io/NumberBuffer$Reader" "position" "I" (.int (3 : Int32)) := P4.same W_58
        have f_63 : Ary Z h_57 b .byte [(.int x0), (.int x1), (.int x2), (.int x3)] := P5.other W_58 P7
        have kp_64 : Keep h h_57 [a] := (Keep.refl h [a]).wr W_58 (Or.inl (by simp))
        refine K.bald d5_44 (pc' := 45) rfl f_63 (i := 2) rfl rfl ?_
        refine K.istore d5_45 (pc' := 47) rfl (L' := #[.val (.ref a), .val (.long (0 : Int64)), .second, .val (.int (0 : Int32)), .val (.int x2)]) rfl ?_
        refine K.lloadN d5_47 (pc' := 48) rfl rfl ?_
        refine K.iload d5_48 (pc' := 50) rfl rfl ?_
        refine K.bipush d5_50 (pc' := 52) rfl (z := 127) rfl ?_
        obtain ⟨z52, e_z52⟩ : ∃ z, x2 &&& (127 : Int32) = z := ⟨_, rfl⟩
        refine K.iand d5_52 (pc' := 53) rfl e_z52 ?_
        obtain ⟨z53, e_z53⟩ : ∃ z, z52.toInt64 = z := ⟨_, rfl⟩
        refine K.i2l d5_53 (pc' := 54) rfl e_z53 ?_
        refine K.iloadN d5_54 (pc' := 55) rfl rfl ?_
        obtain ⟨z55, e_z55⟩ : ∃ z, z53 <<< ((0 : Int32) &&& 0x3f).toInt64 = z := ⟨_, rfl⟩
        refine K.lshl d5_55 (pc' := 56) rfl e_z55 ?_
        obtain ⟨z56, e_z56⟩ : ∃ z, (0 : Int64) ||| z55 = z := ⟨_, rfl⟩
        refine K.lor d5_56 (pc' := 57) rfl e_z56 ?_
        refine K.lstoreN d5_57 (pc' := 58) rfl (L' := #[.val (.ref a), .val (.long z56), .second, .val (.int (0 : Int32)), .val (.int x2)]) rfl ?_
        refine K.iload d5_58 (pc' := 60) rfl rfl ?_
        refine K.if_lt d5_60 (pc1 := 63) rfl (by decide) (pc2 := 78) (by decide) (a := x2.toInt) rfl (fun c60 => ?_) (fun c60 => ?_)
        · refine K.iinc d5_78 (pc' := 81) rfl rfl (z := (7 : Int32)) rfl (L' := #[.val (.ref a), .val (.long z56), .second, .val (.int (7 : Int32)), .val (.int x2)]) rfl ?_
          refine K.goto d5_81 (by decide) (pc' := 4) (by decide) ?_
          refine K.iloadN d5_4 (pc' := 5) rfl rfl ?_
          refine K.bipush d5_5 (pc' := 7) rfl (z := 28) rfl ?_
          refine K.icmp_gt d5_7 (pc1 := 10) rfl (by decide) (pc2 := 84) (by decide) (a := 7) (b := 28) rfl rfl (fun c7_1 => ?_) (fun c7_1 => ?_)
          · exfalso; omega
          · refine K.aloadN d5_10 (pc' := 11) rfl rfl rfl ?_
            refine K.getf d5_11 (pc' := 14) rfl (host := "") (Or.inl (hw _ (List.mem_of_getElem? (i := 20) rfl))) Via.refl f_62 ?_
            refine K.aloadN d5_14 (pc' := 15) rfl rfl rfl ?_
            refine K.getf d5_15 (pc' := 18) rfl (host := "") (Or.inl (hw _ (List.mem_of_getElem? (i := 13) rfl))) Via.refl f_61 ?_
            refine K.icmp_ne d5_18 (pc1 := 21) rfl (by decide) (pc2 := 29) (by decide) (a := 3) (b := n.toInt) rfl rfl (fun c18_1 => ?_) (fun c18_1 => ?_)
            · refine K.aloadN d5_29 (pc' := 30) rfl rfl rfl ?_
              refine K.getf d5_30 (pc' := 33) rfl (host := "") (Or.inl (hw _ (List.mem_of_getElem? (i := 11) rfl))) Via.refl f_60 ?_
              refine K.aloadN d5_33 (pc' := 34) rfl rfl rfl ?_
              refine K.dup d5_34 (pc' := 35) rfl rfl ?_
              refine K.getf d5_35 (pc' := 38) rfl (host := "") (Or.inl (hw _ (List.mem_of_getElem? (i := 20) rfl))) Via.refl f_62 ?_
              refine K.dupX1 d5_38 (pc' := 39) rfl rfl rfl ?_
              refine K.iconst d5_39 (pc' := 40) rfl (z := 1) rfl ?_
              refine K.iadd d5_40 (pc' := 41) rfl (z := (4 : Int32)) (by decide) ?_
              refine K.putf d5_41 (pc' := 44) rfl (host := "") (Or.inl (hw _ (List.mem_of_getElem? (i := 20) rfl))) Via.refl f_62 f_59 (Or.inl (hw _ (List.mem_of_getElem? (i := 21) rfl))) (hw _ (List.mem_of_getElem? (i := 3) rfl)) (ty := .int) (by decide) rfl rfl P6 (fun h_65 W_66 => ?_)
              have f_67 : Exa Z h_65 a "com/example/woodlark/woodlark/io/NumberBuffer$Reader" := f_59.wr W_66
              have f_68 : Fld Z h_65 a "com/example/woodlark/woodlark/io/NumberBuffer$Reader" "bytes" "[B" (.ref b) := f_60.other W_66 (Or.inr (slot_ne (Or.inr (hw _ (List.mem_of_getElem? (i := 12) rfl))) (Or.inl (hw _ (List.mem_of_getElem? (i := 21) rfl))) (by decide) (t := (.array .byte)) (t' := .int) (by decide) (by decide)))
              have f_69 : Fld Z h_65 a "com/example/woodlark/woodlark/io/NumberBuffer$Reader" "end" "I" (.int n) := f_61.other W_66 (Or.inr (slot_ne (Or.inr (hw _ (List.mem_of_getElem? (i := 14) rfl))) (Or.inl (hw _ (List.mem_of_getElem? (i := 21) rfl))) (by decide) (t := .int) (t' := .int) (by decide) (by decide)))
              have f_70 : Fld Z h_65 a "com/example/woodlark/woodlark/io/NumberBuffer$Reader" "position" "I" (.int (4 : Int32)) := f_62.same W_66
              have f_71 : Ary Z h_65 b .byte [(.int x0), (.int x1), (.int x2), (.int x3)] := f_63.other W_66 P7
              have kp_72 : Keep h h_65 [a] := kp_64.wr W_66 (Or.inl (by simp))
              refine K.bald d5_44 (pc' := 45) rfl f_71 (i := 3) rfl rfl ?_
              refine K.istore d5_45 (pc' := 47) rfl (L' := #[.val (.ref a), .val (.long z56), .second, .val (.int (7 : Int32)), .val (.int x3)]) rfl ?_
              refine K.lloadN d5_47 (pc' := 48) rfl rfl ?_
              refine K.iload d5_48 (pc' := 50) rfl rfl ?_
              refine K.bipush d5_50 (pc' := 52) rfl (z := 127) rfl ?_
              obtain ⟨z52_1, e_z52_1⟩ : ∃ z, x3 &&& (127 : Int32) = z := ⟨_, rfl⟩
              refine K.iand d5_52 (pc' := 53) rfl e_z52_1 ?_
              obtain ⟨z53_1, e_z53_1⟩ : ∃ z, z52_1.toInt64 = z := ⟨_, rfl⟩
              refine K.i2l d5_53 (pc' := 54) rfl e_z53_1 ?_
              refine K.iloadN d5_54 (pc' := 55) rfl rfl ?_
              obtain ⟨z55_1, e_z55_1⟩ : ∃ z, z53_1 <<< ((7 : Int32) &&& 0x3f).toInt64 = z := ⟨_, rfl⟩
              refine K.lshl d5_55 (pc' := 56) rfl e_z55_1 ?_
              obtain ⟨z56_1, e_z56_1⟩ : ∃ z, z56 ||| z55_1 = z := ⟨_, rfl⟩
              refine K.lor d5_56 (pc' := 57) rfl e_z56_1 ?_
              refine K.lstoreN d5_57 (pc' := 58) rfl (L' := #[.val (.ref a), .val (.long z56_1), .second, .val (.int (7 : Int32)), .val (.int x3)]) rfl ?_
              refine K.iload d5_58 (pc' := 60) rfl rfl ?_
              refine K.if_lt d5_60 (pc1 := 63) rfl (by decide) (pc2 := 78) (by decide) (a := x3.toInt) rfl (fun c60_1 => ?_) (fun c60_1 => ?_)
              · exfalso; omega
              · refine K.lloadN d5_63 (pc' := 64) rfl rfl ?_
                refine K.ldc2J d5_64 (pc' := 67) rfl (hw _ (List.mem_of_getElem? (i := 31) rfl)) ?_
                refine K.lcmp_gt d5_67 d5_68 (pc1 := 71) rfl (by decide) (pc2 := 76) (by decide) (a := z56_1.toInt) (b := 2147483647) rfl rfl (fun c67 => ?_) (fun c67 => ?_)
                · refine K.iconst d5_76 (pc' := 77) rfl (z := 0) rfl ?_
                  exact K.reti d5_77 (by decide) (by decide) ⟨(0 : Int32), (4 : Int32), rfl, by have ev : (0 : Int32).toInt = 0 := rfl; first | omega | ((try simp only [Int32.reduceToInt] at *); omega), kp_72, f_70, f_68, f_69⟩
                · refine K.lloadN d5_71 (pc' := 72) rfl rfl ?_
                  obtain ⟨z72, e_z72⟩ : ∃ z, z56_1.toInt32 = z := ⟨_, rfl⟩
                  refine K.l2i d5_72 (pc' := 73) rfl e_z72 ?_
                  refine K.goto d5_73 (by decide) (pc' := 77) (by decide) ?_
                  exact K.reti d5_77 (by decide) (by decide) ⟨z72, (4 : Int32), rfl, by (try simp only [Int32.reduceToInt] at *); omega, kp_72, f_70, f_68, f_69⟩
            · exfalso; omega
        · refine K.lloadN d5_63 (pc' := 64) rfl rfl ?_
          refine K.ldc2J d5_64 (pc' := 67) rfl (hw _ (List.mem_of_getElem? (i := 31) rfl)) ?_
          refine K.lcmp_gt d5_67 d5_68 (pc1 := 71) rfl (by decide) (pc2 := 76) (by decide) (a := z56.toInt) (b := 2147483647) rfl rfl (fun c67 => ?_) (fun c67 => ?_)
          · refine K.iconst d5_76 (pc' := 77) rfl (z := 0) rfl ?_
            exact K.reti d5_77 (by decide) (by decide) ⟨(0 : Int32), (3 : Int32), rfl, by have ev : (0 : Int32).toInt = 0 := rfl; first | omega | ((try simp only [Int32.reduceToInt] at *); omega), kp_64, f_62, f_60, f_61⟩
          · refine K.lloadN d5_71 (pc' := 72) rfl rfl ?_
            obtain ⟨z72, e_z72⟩ : ∃ z, z56.toInt32 = z := ⟨_, rfl⟩
            refine K.l2i d5_72 (pc' := 73) rfl e_z72 ?_
            refine K.goto d5_73 (by decide) (pc' := 77) (by decide) ?_
            exact K.reti d5_77 (by decide) (by decide) ⟨z72, (3 : Int32), rfl, by (try simp only [Int32.reduceToInt] at *); omega, kp_64, f_62, f_60, f_61⟩
      · exfalso; omega
  · simp only [Int32.reduceToInt] at hp hs
    refine K.lconst d5_0 (pc' := 1) rfl (z := 0) rfl ?_
    refine K.lstoreN d5_1 (pc' := 2) rfl (L' := #[.val (.ref a), .val (.long (0 : Int64)), .second, .unset, .unset]) rfl ?_
    refine K.iconst d5_2 (pc' := 3) rfl (z := 0) rfl ?_
    refine K.istoreN d5_3 (pc' := 4) rfl (L' := #[.val (.ref a), .val (.long (0 : Int64)), .second, .val (.int (0 : Int32)), .unset]) rfl ?_
    refine K.iloadN d5_4 (pc' := 5) rfl rfl ?_
    refine K.bipush d5_5 (pc' := 7) rfl (z := 28) rfl ?_
    refine K.icmp_gt d5_7 (pc1 := 10) rfl (by decide) (pc2 := 84) (by decide) (a := 0) (b := 28) rfl rfl (fun c7 => ?_) (fun c7 => ?_)
    · exfalso; omega
    · refine K.aloadN d5_10 (pc' := 11) rfl rfl rfl ?_
      refine K.getf d5_11 (pc' := 14) rfl (host := "") (Or.inl (hw _ (List.mem_of_getElem? (i := 20) rfl))) Via.refl P4 ?_
      refine K.aloadN d5_14 (pc' := 15) rfl rfl rfl ?_
      refine K.getf d5_15 (pc' := 18) rfl (host := "") (Or.inl (hw _ (List.mem_of_getElem? (i := 13) rfl))) Via.refl P3 ?_
      refine K.icmp_ne d5_18 (pc1 := 21) rfl (by decide) (pc2 := 29) (by decide) (a := 3) (b := n.toInt) rfl rfl (fun c18 => ?_) (fun c18 => ?_)
      · refine K.aloadN d5_29 (pc' := 30) rfl rfl rfl ?_
        refine K.getf d5_30 (pc' := 33) rfl (host := "") (Or.inl (hw _ (List.mem_of_getElem? (i := 11) rfl))) Via.refl P2 ?_
        refine K.aloadN d5_33 (pc' := 34) rfl rfl rfl ?_
        refine K.dup d5_34 (pc' := 35) rfl rfl ?_
        refine K.getf d5_35 (pc' := 38) rfl (host := "") (Or.inl (hw _ (List.mem_of_getElem? (i := 20) rfl))) Via.refl P4 ?_
        refine K.dupX1 d5_38 (pc' := 39) rfl rfl rfl ?_
        refine K.iconst d5_39 (pc' := 40) rfl (z := 1) rfl ?_
        refine K.iadd d5_40 (pc' := 41) rfl (z := (4 : Int32)) (by decide) ?_
        refine K.putf d5_41 (pc' := 44) rfl (host := "") (Or.inl (hw _ (List.mem_of_getElem? (i := 20) rfl))) Via.refl P4 P1 (Or.inl (hw _ (List.mem_of_getElem? (i := 21) rfl))) (hw _ (List.mem_of_getElem? (i := 3) rfl)) (ty := .int) (by decide) rfl rfl P6 (fun h_73 W_74 => ?_)
        have f_75 : Exa Z h_73 a "com/example/woodlark/woodlark/io/NumberBuffer$Reader" := P1.wr W_74
        have f_76 : Fld Z h_73 a "com/example/woodlark/woodlark/io/NumberBuffer$Reader" "bytes" "[B" (.ref b) := P2.other W_74 (Or.inr (slot_ne (Or.inr (hw _ (List.mem_of_getElem? (i := 12) rfl))) (Or.inl (hw _ (List.mem_of_getElem? (i := 21) rfl))) (by decide) (t := (.array .byte)) (t' := .int) (by decide) (by decide)))
        have f_77 : Fld Z h_73 a "com/example/woodlark/woodlark/io/NumberBuffer$Reader" "end" "I" (.int n) := P3.other W_74 (Or.inr (slot_ne (Or.inr (hw _ (List.mem_of_getElem? (i := 14) rfl))) (Or.inl (hw _ (List.mem_of_getElem? (i := 21) rfl))) (by decide) (t := .int) (t' := .int) (by decide) (by decide)))
        have f_78 : Fld Z h_73 a "com/example/woodlark/woodlark/io/NumberBuffer$Reader" "position" "I" (.int (4 : Int32)) := P4.same W_74
        have f_79 : Ary Z h_73 b .byte [(.int x0), (.int x1), (.int x2), (.int x3)] := P5.other W_74 P7
        have kp_80 : Keep h h_73 [a] := (Keep.refl h [a]).wr W_74 (Or.inl (by simp))
        refine K.bald d5_44 (pc' := 45) rfl f_79 (i := 3) rfl rfl ?_
        refine K.istore d5_45 (pc' := 47) rfl (L' := #[.val (.ref a), .val (.long (0 : Int64)), .second, .val (.int (0 : Int32)), .val (.int x3)]) rfl ?_
        refine K.lloadN d5_47 (pc' := 48) rfl rfl ?_
        refine K.iload d5_48 (pc' := 50) rfl rfl ?_
        refine K.bipush d5_50 (pc' := 52) rfl (z := 127) rfl ?_
        obtain ⟨z52, e_z52⟩ : ∃ z, x3 &&& (127 : Int32) = z := ⟨_, rfl⟩
        refine K.iand d5_52 (pc' := 53) rfl e_z52 ?_
        obtain ⟨z53, e_z53⟩ : ∃ z, z52.toInt64 = z := ⟨_, rfl⟩
        refine K.i2l d5_53 (pc' := 54) rfl e_z53 ?_
        refine K.iloadN d5_54 (pc' := 55) rfl rfl ?_
        obtain ⟨z55, e_z55⟩ : ∃ z, z53 <<< ((0 : Int32) &&& 0x3f).toInt64 = z := ⟨_, rfl⟩
        refine K.lshl d5_55 (pc' := 56) rfl e_z55 ?_
        obtain ⟨z56, e_z56⟩ : ∃ z, (0 : Int64) ||| z55 = z := ⟨_, rfl⟩
        refine K.lor d5_56 (pc' := 57) rfl e_z56 ?_
        refine K.lstoreN d5_57 (pc' := 58) rfl (L' := #[.val (.ref a), .val (.long z56), .second, .val (.int (0 : Int32)), .val (.int x3)]) rfl ?_
        refine K.iload d5_58 (pc' := 60) rfl rfl ?_
        refine K.if_lt d5_60 (pc1 := 63) rfl (by decide) (pc2 := 78) (by decide) (a := x3.toInt) rfl (fun c60 => ?_) (fun c60 => ?_)
        · exfalso; omega
        · refine K.lloadN d5_63 (pc' := 64) rfl rfl ?_
          refine K.ldc2J d5_64 (pc' := 67) rfl (hw _ (List.mem_of_getElem? (i := 31) rfl)) ?_
          refine K.lcmp_gt d5_67 d5_68 (pc1 := 71) rfl (by decide) (pc2 := 76) (by decide) (a := z56.toInt) (b := 2147483647) rfl rfl (fun c67 => ?_) (fun c67 => ?_)
          · refine K.iconst d5_76 (pc' := 77) rfl (z := 0) rfl ?_
            exact K.reti d5_77 (by decide) (by decide) ⟨(0 : Int32), (4 : Int32), rfl, by have ev : (0 : Int32).toInt = 0 := rfl; first | omega | ((try simp only [Int32.reduceToInt] at *); omega), kp_80, f_78, f_76, f_77⟩
          · refine K.lloadN d5_71 (pc' := 72) rfl rfl ?_
            obtain ⟨z72, e_z72⟩ : ∃ z, z56.toInt32 = z := ⟨_, rfl⟩
            refine K.l2i d5_72 (pc' := 73) rfl e_z72 ?_
            refine K.goto d5_73 (by decide) (pc' := 77) (by decide) ?_
            exact K.reti d5_77 (by decide) (by decide) ⟨z72, (4 : Int32), rfl, by (try simp only [Int32.reduceToInt] at *); omega, kp_80, f_78, f_76, f_77⟩
      · exfalso; omega
theorem d4_71 : decode method_2_code 71 = .ok (.iconst (-1), 1) := by decide +kernel
theorem d4_72 : decode method_2_code 72 = .ok (.ireturn, 1) := by decide +kernel
theorem d4_53 : decode method_2_code 53 = .ok (.iload_n 1, 1) := by decide +kernel
theorem d4_54 : decode method_2_code 54 = .ok (.iconst 3, 1) := by decide +kernel
theorem d4_55 : decode method_2_code 55 = .ok (.if_icmp .gt 16, 3) := by decide +kernel
theorem d4_58 : decode method_2_code 58 = .ok (.iconst 3, 1) := by decide +kernel
theorem d4_59 : decode method_2_code 59 = .ok (.iload_n 2, 1) := by decide +kernel
theorem d4_60 : decode method_2_code 60 = .ok (.if_icmp .ge 11, 3) := by decide +kernel
theorem d4_63 : decode method_2_code 63 = .ok (.aload_n 0, 1) := by decide +kernel
theorem d4_64 : decode method_2_code 64 = .ok (.iconst 3, 1) := by decide +kernel
theorem d4_65 : decode method_2_code 65 = .ok (.baload, 1) := by decide +kernel
theorem d4_66 : decode method_2_code 66 = .ok (.ifCond .lt 5, 3) := by decide +kernel
theorem d4_69 : decode method_2_code 69 = .ok (.iconst 3, 1) := by decide +kernel
theorem d4_70 : decode method_2_code 70 = .ok (.ireturn, 1) := by decide +kernel
theorem d4_35 : decode method_2_code 35 = .ok (.iload_n 1, 1) := by decide +kernel
theorem d4_36 : decode method_2_code 36 = .ok (.iconst 2, 1) := by decide +kernel
theorem d4_37 : decode method_2_code 37 = .ok (.if_icmp .gt 16, 3) := by decide +kernel
theorem d4_40 : decode method_2_code 40 = .ok (.iconst 2, 1) := by decide +kernel
theorem d4_41 : decode method_2_code 41 = .ok (.iload_n 2, 1) := by decide +kernel
theorem d4_42 : decode method_2_code 42 = .ok (.if_icmp .ge 11, 3) := by decide +kernel
theorem d4_45 : decode method_2_code 45 = .ok (.aload_n 0, 1) := by decide +kernel
theorem d4_46 : decode method_2_code 46 = .ok (.iconst 2, 1) := by decide +kernel
theorem d4_47 : decode method_2_code 47 = .ok (.baload, 1) := by decide +kernel
theorem d4_48 : decode method_2_code 48 = .ok (.ifCond .lt 5, 3) := by decide +kernel
theorem d4_51 : decode method_2_code 51 = .ok (.iconst 2, 1) := by decide +kernel
theorem d4_52 : decode method_2_code 52 = .ok (.ireturn, 1) := by decide +kernel
theorem d4_17 : decode method_2_code 17 = .ok (.iload_n 1, 1) := by decide +kernel
theorem d4_18 : decode method_2_code 18 = .ok (.iconst 1, 1) := by decide +kernel
theorem d4_19 : decode method_2_code 19 = .ok (.if_icmp .gt 16, 3) := by decide +kernel
theorem d4_22 : decode method_2_code 22 = .ok (.iconst 1, 1) := by decide +kernel
theorem d4_23 : decode method_2_code 23 = .ok (.iload_n 2, 1) := by decide +kernel
theorem d4_24 : decode method_2_code 24 = .ok (.if_icmp .ge 11, 3) := by decide +kernel
theorem d4_27 : decode method_2_code 27 = .ok (.aload_n 0, 1) := by decide +kernel
theorem d4_28 : decode method_2_code 28 = .ok (.iconst 1, 1) := by decide +kernel
theorem d4_29 : decode method_2_code 29 = .ok (.baload, 1) := by decide +kernel
theorem d4_30 : decode method_2_code 30 = .ok (.ifCond .lt 5, 3) := by decide +kernel
theorem d4_33 : decode method_2_code 33 = .ok (.iconst 1, 1) := by decide +kernel
theorem d4_34 : decode method_2_code 34 = .ok (.ireturn, 1) := by decide +kernel
theorem d4_0 : decode method_2_code 0 = .ok (.iload_n 1, 1) := by decide +kernel
theorem d4_1 : decode method_2_code 1 = .ok (.ifCond .gt 16, 3) := by decide +kernel
theorem d4_4 : decode method_2_code 4 = .ok (.iconst 0, 1) := by decide +kernel
theorem d4_5 : decode method_2_code 5 = .ok (.iload_n 2, 1) := by decide +kernel
theorem d4_6 : decode method_2_code 6 = .ok (.if_icmp .ge 11, 3) := by decide +kernel
theorem d4_9 : decode method_2_code 9 = .ok (.aload_n 0, 1) := by decide +kernel
theorem d4_10 : decode method_2_code 10 = .ok (.iconst 0, 1) := by decide +kernel
theorem d4_11 : decode method_2_code 11 = .ok (.baload, 1) := by decide +kernel
theorem d4_12 : decode method_2_code 12 = .ok (.ifCond .lt 5, 3) := by decide +kernel
theorem d4_15 : decode method_2_code 15 = .ok (.iconst 0, 1) := by decide +kernel
theorem d4_16 : decode method_2_code 16 = .ok (.ireturn, 1) := by decide +kernel
theorem pn_com_example_woodlark_woodlark_io_ReaderHasRemainingPinLaw : plainName "com/example/woodlark/woodlark/io/ReaderHasRemainingPinLaw" = true := by first | (simp [plainName, overriddenIn]; done) | decide +kernel
set_option maxRecDepth 65536 in
set_option maxHeartbeats 40000000 in
theorem c_term (l : Launch) (Z : State) (a0 : Array Value) (hw : ∀ d ∈ tables_1, d.before a0 Z = true) (n0 : Nat) (h : Heap) (b : Addr) (p : Int32) (n : Int32) (x0 : Int32) (x1 : Int32) (x2 : Int32) (x3 : Int32) (P1 : Ary Z h b .byte [(.int x0), (.int x1), (.int x2), (.int x3)]) : MeetsW l Z n0 (⟨"com/example/woodlark/woodlark/io/ReaderHasRemainingPinLaw", "term", "([BII)I"⟩ : MethodName) method_2_code 3 (some .int) ({ frames := 0, cells := 0, slots := 0, locals := 0 } : Room) #[(.ref b), (.int p), (.int n)] h (fun v h' => ∃ (t : Int32), v = some (.int t) ∧ ((t.toInt = -1 ∧ (¬ (p.toInt ≤ 0 ∧ 0 < n.toInt) ∨ x0.toInt < 0) ∧ (¬ (p.toInt ≤ 1 ∧ 1 < n.toInt) ∨ x1.toInt < 0) ∧ (¬ (p.toInt ≤ 2 ∧ 2 < n.toInt) ∨ x2.toInt < 0) ∧ (¬ (p.toInt ≤ 3 ∧ 3 < n.toInt) ∨ x3.toInt < 0)) ∨ (t.toInt = 0 ∧ p.toInt ≤ 0 ∧ 0 < n.toInt ∧ 0 ≤ x0.toInt) ∨ (t.toInt = 1 ∧ p.toInt ≤ 1 ∧ 1 < n.toInt ∧ 0 ≤ x1.toInt ∧ (¬ p.toInt ≤ 0 ∨ x0.toInt < 0)) ∨ (t.toInt = 2 ∧ p.toInt ≤ 2 ∧ 2 < n.toInt ∧ 0 ≤ x2.toInt ∧ (¬ p.toInt ≤ 0 ∨ x0.toInt < 0) ∧ (¬ p.toInt ≤ 1 ∨ x1.toInt < 0)) ∨ (t.toInt = 3 ∧ p.toInt ≤ 3 ∧ 3 < n.toInt ∧ 0 ≤ x3.toInt ∧ (¬ p.toInt ≤ 0 ∨ x0.toInt < 0) ∧ (¬ p.toInt ≤ 1 ∨ x1.toInt < 0) ∧ (¬ p.toInt ≤ 2 ∨ x2.toInt < 0))) ∧ h = h') := by
  refine MeetsW.intro (plainFor_of_name pn_com_example_woodlark_woodlark_io_ReaderHasRemainingPinLaw) (L0 := #[.val (.ref b), .val (.int p), .val (.int n)]) (fun m => by first | (simp [entryFrame, mkF, argsToLocals, Value.category]; done) | rfl) ?_
  intro m G K0
  have K : Cx l ({ frames := 0, cells := 0, slots := 0, locals := 0 } : Room) Z n0 _ "com/example/woodlark/woodlark/io/ReaderHasRemainingPinLaw" "term" method_2_code 3 (some .int) m G := K0
  have J17 : ((¬ (p.toInt ≤ 0 ∧ 0 < n.toInt) ∨ x0.toInt < 0)) → G h 0 0 (mkF m 17 #[.val (.ref b), .val (.int p), .val (.int n)] []) := by
    intro  hj17
    have J35 : ((¬ (p.toInt ≤ 1 ∧ 1 < n.toInt) ∨ x1.toInt < 0)) → G h 0 0 (mkF m 35 #[.val (.ref b), .val (.int p), .val (.int n)] []) := by
      intro  hj35
      have J53 : ((¬ (p.toInt ≤ 2 ∧ 2 < n.toInt) ∨ x2.toInt < 0)) → G h 0 0 (mkF m 53 #[.val (.ref b), .val (.int p), .val (.int n)] []) := by
        intro  hj53
        have J71 : ((¬ (p.toInt ≤ 3 ∧ 3 < n.toInt) ∨ x3.toInt < 0)) → G h 0 0 (mkF m 71 #[.val (.ref b), .val (.int p), .val (.int n)] []) := by
          intro  hj71
          refine K.iconst d4_71 (pc' := 72) rfl (z := -1) rfl ?_
          exact K.reti d4_72 (by decide) (by decide) ⟨(-1 : Int32), rfl, by have ev : (-1 : Int32).toInt = -1 := rfl; first | omega | ((try simp only [Int32.reduceToInt]); omega), rfl⟩
        refine K.iloadN d4_53 (pc' := 54) rfl rfl ?_
        refine K.iconst d4_54 (pc' := 55) rfl (z := 3) rfl ?_
        refine K.icmp_gt d4_55 (pc1 := 58) rfl (by decide) (pc2 := 71) (by decide) (a := p.toInt) (b := 3) rfl rfl (fun c55 => ?_) (fun c55 => ?_)
        · exact J71  (by omega)
        · refine K.iconst d4_58 (pc' := 59) rfl (z := 3) rfl ?_
          refine K.iloadN d4_59 (pc' := 60) rfl rfl ?_
          refine K.icmp_ge d4_60 (pc1 := 63) rfl (by decide) (pc2 := 71) (by decide) (a := 3) (b := n.toInt) rfl rfl (fun c60 => ?_) (fun c60 => ?_)
          · exact J71  (by omega)
          · refine K.aloadN d4_63 (pc' := 64) rfl rfl rfl ?_
            refine K.iconst d4_64 (pc' := 65) rfl (z := 3) rfl ?_
            refine K.bald d4_65 (pc' := 66) rfl P1 (i := 3) rfl rfl ?_
            refine K.if_lt d4_66 (pc1 := 69) rfl (by decide) (pc2 := 71) (by decide) (a := x3.toInt) rfl (fun c66 => ?_) (fun c66 => ?_)
            · exact J71  (by omega)
            · refine K.iconst d4_69 (pc' := 70) rfl (z := 3) rfl ?_
              exact K.reti d4_70 (by decide) (by decide) ⟨(3 : Int32), rfl, by have ev : (3 : Int32).toInt = 3 := rfl; first | omega | ((try simp only [Int32.reduceToInt]); omega), rfl⟩
      refine K.iloadN d4_35 (pc' := 36) rfl rfl ?_
      refine K.iconst d4_36 (pc' := 37) rfl (z := 2) rfl ?_
      refine K.icmp_gt d4_37 (pc1 := 40) rfl (by decide) (pc2 := 53) (by decide) (a := p.toInt) (b := 2) rfl rfl (fun c37 => ?_) (fun c37 => ?_)
      · exact J53  (by omega)
      · refine K.iconst d4_40 (pc' := 41) rfl (z := 2) rfl ?_
        refine K.iloadN d4_41 (pc' := 42) rfl rfl ?_
        refine K.icmp_ge d4_42 (pc1 := 45) rfl (by decide) (pc2 := 53) (by decide) (a := 2) (b := n.toInt) rfl rfl (fun c42 => ?_) (fun c42 => ?_)
        · exact J53  (by omega)
        · refine K.aloadN d4_45 (pc' := 46) rfl rfl rfl ?_
          refine K.iconst d4_46 (pc' := 47) rfl (z := 2) rfl ?_
          refine K.bald d4_47 (pc' := 48) rfl P1 (i := 2) rfl rfl ?_
          refine K.if_lt d4_48 (pc1 := 51) rfl (by decide) (pc2 := 53) (by decide) (a := x2.toInt) rfl (fun c48 => ?_) (fun c48 => ?_)
          · exact J53  (by omega)
          · refine K.iconst d4_51 (pc' := 52) rfl (z := 2) rfl ?_
            exact K.reti d4_52 (by decide) (by decide) ⟨(2 : Int32), rfl, by have ev : (2 : Int32).toInt = 2 := rfl; first | omega | ((try simp only [Int32.reduceToInt]); omega), rfl⟩
    refine K.iloadN d4_17 (pc' := 18) rfl rfl ?_
    refine K.iconst d4_18 (pc' := 19) rfl (z := 1) rfl ?_
    refine K.icmp_gt d4_19 (pc1 := 22) rfl (by decide) (pc2 := 35) (by decide) (a := p.toInt) (b := 1) rfl rfl (fun c19 => ?_) (fun c19 => ?_)
    · exact J35  (by omega)
    · refine K.iconst d4_22 (pc' := 23) rfl (z := 1) rfl ?_
      refine K.iloadN d4_23 (pc' := 24) rfl rfl ?_
      refine K.icmp_ge d4_24 (pc1 := 27) rfl (by decide) (pc2 := 35) (by decide) (a := 1) (b := n.toInt) rfl rfl (fun c24 => ?_) (fun c24 => ?_)
      · exact J35  (by omega)
      · refine K.aloadN d4_27 (pc' := 28) rfl rfl rfl ?_
        refine K.iconst d4_28 (pc' := 29) rfl (z := 1) rfl ?_
        refine K.bald d4_29 (pc' := 30) rfl P1 (i := 1) rfl rfl ?_
        refine K.if_lt d4_30 (pc1 := 33) rfl (by decide) (pc2 := 35) (by decide) (a := x1.toInt) rfl (fun c30 => ?_) (fun c30 => ?_)
        · exact J35  (by omega)
        · refine K.iconst d4_33 (pc' := 34) rfl (z := 1) rfl ?_
          exact K.reti d4_34 (by decide) (by decide) ⟨(1 : Int32), rfl, by have ev : (1 : Int32).toInt = 1 := rfl; first | omega | ((try simp only [Int32.reduceToInt]); omega), rfl⟩
  refine K.iloadN d4_0 (pc' := 1) rfl rfl ?_
  refine K.if_gt d4_1 (pc1 := 4) rfl (by decide) (pc2 := 17) (by decide) (a := p.toInt) rfl (fun c1 => ?_) (fun c1 => ?_)
  · exact J17  (by omega)
  · refine K.iconst d4_4 (pc' := 5) rfl (z := 0) rfl ?_
    refine K.iloadN d4_5 (pc' := 6) rfl rfl ?_
    refine K.icmp_ge d4_6 (pc1 := 9) rfl (by decide) (pc2 := 17) (by decide) (a := 0) (b := n.toInt) rfl rfl (fun c6 => ?_) (fun c6 => ?_)
    · exact J17  (by omega)
    · refine K.aloadN d4_9 (pc' := 10) rfl rfl rfl ?_
      refine K.iconst d4_10 (pc' := 11) rfl (z := 0) rfl ?_
      refine K.bald d4_11 (pc' := 12) rfl P1 (i := 0) rfl rfl ?_
      refine K.if_lt d4_12 (pc1 := 15) rfl (by decide) (pc2 := 17) (by decide) (a := x0.toInt) rfl (fun c12 => ?_) (fun c12 => ?_)
      · exact J17  (by omega)
      · refine K.iconst d4_15 (pc' := 16) rfl (z := 0) rfl ?_
        exact K.reti d4_16 (by decide) (by decide) ⟨(0 : Int32), rfl, by have ev : (0 : Int32).toInt = 0 := rfl; first | omega | ((try simp only [Int32.reduceToInt]); omega), rfl⟩
theorem pd_0 : parseMethodDescriptor "([BI)V" = some ⟨[(.array .byte), .int], none⟩ := by decide +kernel
theorem pd_1 : parseMethodDescriptor "()Z" = some ⟨[], some .boolean⟩ := by decide +kernel
theorem pd_2 : parseMethodDescriptor "([BII)I" = some ⟨[(.array .byte), .int, .int], some .int⟩ := by decide +kernel
theorem pd_3 : parseMethodDescriptor "()I" = some ⟨[], some .int⟩ := by decide +kernel
set_option maxRecDepth 65536 in
set_option maxHeartbeats 40000000 in
theorem c_law (l : Launch) (Z : State) (a0 : Array Value) (hw : ∀ d ∈ tables_1, d.before a0 Z = true) (n0 : Nat) (h : Heap) (a : Int32) (b : Int32) (c : Int32) (d : Int32) (e : Int32) (Z0 : n0 ≤ h.size) : MeetsW l Z n0 x code maxLocals ret room_1 #[(.int a), (.int b), (.int c), (.int d), (.int e)] h (fun v h' => v = some (.int 1)) := by
  refine MeetsW.intro (plainFor_of_name pn_com_example_woodlark_woodlark_io_ReaderHasRemainingPinLaw) (L0 := #[.val (.int a), .val (.int b), .val (.int c), .val (.int d), .val (.int e), .unset, .unset, .unset, .unset, .unset]) (fun m => by first | (simp [entryFrame, mkF, argsToLocals, Value.category, maxLocals]; done) | rfl) ?_
  intro m G K0
  have K : Cx l room_1 Z n0 _ "com/example/woodlark/woodlark/io/ReaderHasRemainingPinLaw" "law" code 10 (some .boolean) m G := K0
  refine K.iconst at_0 (pc' := 1) rfl (z := 4) rfl ?_
  refine K.newa at_1 (pc' := 3) rfl (hw _ (List.mem_of_getElem? (i := 0) rfl)) (k := 4) (cap := 4) rfl (by decide) (by decide) (by decide) (by decide) (ad := "[B") (by decide) (fun h_2 a_1 g_a_1 E_3 A_4 x_a_1 => ?_)
  have ge_a_1 : n0 ≤ a_1 := g_a_1 ▸ Z0
  have sz_5 : n0 ≤ h_2.size := Nat.le_trans Z0 E_3.1
  have A_6 : Ary Z h_2 a_1 .byte [(.int (0 : Int32)), (.int (0 : Int32)), (.int (0 : Int32)), (.int (0 : Int32))] := A_4
  refine K.dup at_3 (pc' := 4) rfl rfl ?_
  refine K.iconst at_4 (pc' := 5) rfl (z := 0) rfl ?_
  refine K.iloadN at_5 (pc' := 6) rfl rfl ?_
  obtain ⟨x0, e_x0⟩ : ∃ z, a.toInt8.toInt32 = z := ⟨_, rfl⟩
  have r_x0 : (x0.toInt - a.toInt) % 256 = 0 ∧ -128 ≤ x0.toInt ∧ x0.toInt < 128 := by have q := c_i2b a; rw [e_x0] at q; exact q
  refine K.i2b at_6 (pc' := 7) rfl e_x0 ?_
  refine K.bast at_7 (pc' := 8) rfl A_6 (i := 0) rfl (show 0 < 4 by decide) ge_a_1 (fun h_7 W_8 A_9 => ?_)
  rw [show nar .byte x0 = x0 from nar_byte_of (by omega)] at W_8 A_9
  have sz_11 : n0 ≤ h_7.size := Nat.le_trans sz_5 (Keep.of_wr W_8).1
  have A_12 : Ary Z h_7 a_1 .byte [(.int x0), (.int (0 : Int32)), (.int (0 : Int32)), (.int (0 : Int32))] := A_9
  refine K.dup at_8 (pc' := 9) rfl rfl ?_
  refine K.iconst at_9 (pc' := 10) rfl (z := 1) rfl ?_
  refine K.iloadN at_10 (pc' := 11) rfl rfl ?_
  obtain ⟨x1, e_x1⟩ : ∃ z, b.toInt8.toInt32 = z := ⟨_, rfl⟩
  have r_x1 : (x1.toInt - b.toInt) % 256 = 0 ∧ -128 ≤ x1.toInt ∧ x1.toInt < 128 := by have q := c_i2b b; rw [e_x1] at q; exact q
  refine K.i2b at_11 (pc' := 12) rfl e_x1 ?_
  refine K.bast at_12 (pc' := 13) rfl A_12 (i := 1) rfl (show 1 < 4 by decide) ge_a_1 (fun h_13 W_14 A_15 => ?_)
  rw [show nar .byte x1 = x1 from nar_byte_of (by omega)] at W_14 A_15
  have sz_17 : n0 ≤ h_13.size := Nat.le_trans sz_11 (Keep.of_wr W_14).1
  have A_18 : Ary Z h_13 a_1 .byte [(.int x0), (.int x1), (.int (0 : Int32)), (.int (0 : Int32))] := A_15
  refine K.dup at_13 (pc' := 14) rfl rfl ?_
  refine K.iconst at_14 (pc' := 15) rfl (z := 2) rfl ?_
  refine K.iloadN at_15 (pc' := 16) rfl rfl ?_
  obtain ⟨x2, e_x2⟩ : ∃ z, c.toInt8.toInt32 = z := ⟨_, rfl⟩
  have r_x2 : (x2.toInt - c.toInt) % 256 = 0 ∧ -128 ≤ x2.toInt ∧ x2.toInt < 128 := by have q := c_i2b c; rw [e_x2] at q; exact q
  refine K.i2b at_16 (pc' := 17) rfl e_x2 ?_
  refine K.bast at_17 (pc' := 18) rfl A_18 (i := 2) rfl (show 2 < 4 by decide) ge_a_1 (fun h_19 W_20 A_21 => ?_)
  rw [show nar .byte x2 = x2 from nar_byte_of (by omega)] at W_20 A_21
  have sz_23 : n0 ≤ h_19.size := Nat.le_trans sz_17 (Keep.of_wr W_20).1
  have A_24 : Ary Z h_19 a_1 .byte [(.int x0), (.int x1), (.int x2), (.int (0 : Int32))] := A_21
  refine K.dup at_18 (pc' := 19) rfl rfl ?_
  refine K.iconst at_19 (pc' := 20) rfl (z := 3) rfl ?_
  refine K.iloadN at_20 (pc' := 21) rfl rfl ?_
  obtain ⟨x3, e_x3⟩ : ∃ z, d.toInt8.toInt32 = z := ⟨_, rfl⟩
  have r_x3 : (x3.toInt - d.toInt) % 256 = 0 ∧ -128 ≤ x3.toInt ∧ x3.toInt < 128 := by have q := c_i2b d; rw [e_x3] at q; exact q
  refine K.i2b at_21 (pc' := 22) rfl e_x3 ?_
  refine K.bast at_22 (pc' := 23) rfl A_24 (i := 3) rfl (show 3 < 4 by decide) ge_a_1 (fun h_25 W_26 A_27 => ?_)
  rw [show nar .byte x3 = x3 from nar_byte_of (by omega)] at W_26 A_27
  have sz_29 : n0 ≤ h_25.size := Nat.le_trans sz_23 (Keep.of_wr W_26).1
  have A_30 : Ary Z h_25 a_1 .byte [(.int x0), (.int x1), (.int x2), (.int x3)] := A_27
  refine K.astore at_23 (pc' := 25) rfl rfl (L' := #[.val (.int a), .val (.int b), .val (.int c), .val (.int d), .val (.int e), .val (.ref a_1), .unset, .unset, .unset, .unset]) rfl ?_
  refine K.iload at_25 (pc' := 27) rfl rfl ?_
  refine K.ldcI at_27 (pc' := 29) rfl (hw _ (List.mem_of_getElem? (i := 1) rfl)) ?_
  obtain ⟨z29, e_z29⟩ : ∃ z, e &&& (2147483647 : Int32) = z := ⟨_, rfl⟩
  have r_z29 : z29.toInt = e.toInt % 2147483648 := by have q := c_mask e (2147483647 : Int32) 31 (by decide) (by decide); rw [e_z29] at q; exact q
  refine K.iand at_29 (pc' := 30) rfl e_z29 ?_
  refine K.iconst at_30 (pc' := 31) rfl (z := 5) rfl ?_
  obtain ⟨n, e_n⟩ : ∃ z, z29 % (5 : Int32) = z := ⟨_, rfl⟩
  have r_n : (0 ≤ z29.toInt → n.toInt = z29.toInt % 5) ∧ (z29.toInt < 0 → n.toInt = -((-z29.toInt) % 5)) := by have q := c_irem z29 (5 : Int32) 5 rfl; rw [e_n] at q; exact q
  have t_n : 0 ≤ n.toInt ∧ n.toInt ≤ 4 := by omega
  clear r_n
  refine K.irem at_31 (pc' := 32) rfl (by decide) e_n ?_
  refine K.istore at_32 (pc' := 34) rfl (L' := #[.val (.int a), .val (.int b), .val (.int c), .val (.int d), .val (.int e), .val (.ref a_1), .val (.int n), .unset, .unset, .unset]) rfl ?_
  refine K.newo at_34 (pc' := 37) rfl (hw _ (List.mem_of_getElem? (i := 2) rfl)) (hw _ (List.mem_of_getElem? (i := 3) rfl)) (hw _ (List.mem_of_getElem? (i := 4) rfl)) (by decide) (by decide) (fun h_32 o_31 g_o_31 E_33 x_o_31 D_o_31 => ?_)
  have ne_a_1_o_31 : a_1 ≠ o_31 := Nat.ne_of_lt (g_o_31 ▸ A_30.lt)
  have ge_o_31 : n0 ≤ o_31 := g_o_31 ▸ sz_29
  have f_34 : Ary Z h_32 a_1 .byte [(.int x0), (.int x1), (.int x2), (.int x3)] := A_30.ext E_33
  have sz_35 : n0 ≤ h_32.size := Nat.le_trans sz_29 E_33.1
  have f_36 : Fld Z h_32 o_31 "com/example/woodlark/woodlark/io/NumberBuffer$Reader" "bytes" "[B" .null := D_o_31 (Or.inr (hw _ (List.mem_of_getElem? (i := 12) rfl))) (ty := (.array .byte)) (by decide)
  have f_37 : Fld Z h_32 o_31 "com/example/woodlark/woodlark/io/NumberBuffer$Reader" "end" "I" (.int (0 : Int32)) := D_o_31 (Or.inr (hw _ (List.mem_of_getElem? (i := 14) rfl))) (ty := .int) (by decide)
  have f_38 : Fld Z h_32 o_31 "com/example/woodlark/woodlark/io/NumberBuffer$Reader" "position" "I" (.int (0 : Int32)) := D_o_31 (Or.inl (hw _ (List.mem_of_getElem? (i := 21) rfl))) (ty := .int) (by decide)
  refine K.dup at_37 (pc' := 38) rfl rfl ?_
  refine K.aload at_38 (pc' := 40) rfl rfl rfl ?_
  refine K.iload at_40 (pc' := 42) rfl rfl ?_
  refine K.callc (argsL := [(.ref a_1), (.int n)]) (rest := [(.ref o_31)]) at_42 (pc' := 45) rfl rfl (c_new l Z a0 hw n0 h_32 (a := o_31) (b := a_1) (n := n) x_o_31 f_36 f_37 f_38 ge_o_31) (hw _ (List.mem_of_getElem? (i := 5) rfl)) (hw _ (List.mem_of_getElem? (i := 6) rfl)) (hw _ (List.mem_of_getElem? (i := 4) rfl)) (hw _ (List.mem_of_getElem? (i := 7) rfl)) (by decide) pd_0 rfl rfl (W := 1) (by simp [Value.category]) (by decide) (by decide) (by decide) (by decide) (fun v_41 h_39 q_40 => ?_)
  obtain ⟨rfl, K_43, f_44, f_45, f_46⟩ := q_40
  have f_47 : Ary Z h_39 a_1 .byte [(.int x0), (.int x1), (.int x2), (.int x3)] := f_34.keep K_43 (ninS ne_a_1_o_31 nin0)
  have f_48 : Exa Z h_39 o_31 "com/example/woodlark/woodlark/io/NumberBuffer$Reader" := x_o_31.keep K_43
  have sz_52 : n0 ≤ h_39.size := Nat.le_trans sz_35 K_43.1
  show G h_39 2 7 (mkF m 45 #[.val (.int a), .val (.int b), .val (.int c), .val (.int d), .val (.int e), .val (.ref a_1), .val (.int n), .unset, .unset, .unset] [(.ref o_31)])
  refine K.astore at_45 (pc' := 47) rfl rfl (L' := #[.val (.int a), .val (.int b), .val (.int c), .val (.int d), .val (.int e), .val (.ref a_1), .val (.int n), .val (.ref o_31), .unset, .unset]) rfl ?_
  refine K.aload at_47 (pc' := 49) rfl rfl rfl ?_
  refine K.callv (z := (⟨"com/example/woodlark/woodlark/io/NumberBuffer$Reader", "hasRemaining", "()Z"⟩ : MethodName)) (argsL := []) (rest := []) at_49 (pc' := 52) rfl (c_has l Z a0 hw n0 h_39 (a := o_31) (w1 := (0 : Int32)) (w2 := n) f_48 f_46 f_45) f_48 (hw _ (List.mem_of_getElem? (i := 15) rfl)) (hw _ (List.mem_of_getElem? (i := 16) rfl)) (nf_sel (hw _ (List.mem_of_getElem? (i := 18) rfl)) rfl) (hw _ (List.mem_of_getElem? (i := 18) rfl)) (hw _ (List.mem_of_getElem? (i := 17) rfl)) (hw _ (List.mem_of_getElem? (i := 4) rfl)) (hw _ (List.mem_of_getElem? (i := 19) rfl)) (by decide) pd_1 rfl rfl (W := 0) (by simp [Value.category]) (by decide) (by decide) (by decide) (by decide) (fun v_55 h_53 q_54 => ?_)
  obtain ⟨rfl, rfl⟩ := q_54
  show G h_39 2 7 (mkF m 52 #[.val (.int a), .val (.int b), .val (.int c), .val (.int d), .val (.int e), .val (.ref a_1), .val (.int n), .val (.ref o_31), .unset, .unset] [(.int (b2 (0 < n.toInt)))])
  have J63 : ∀ jb : Int32, jb = b2 (0 < n.toInt) → G h_39 2 7 (mkF m 63 #[.val (.int a), .val (.int b), .val (.int c), .val (.int d), .val (.int e), .val (.ref a_1), .val (.int n), .val (.ref o_31), .unset, .unset] [(.int jb), (.int (b2 (0 < n.toInt)))]) := by
    intro jb hjb; subst hjb
    refine K.icmpeqB at_63 (pc1 := 66) rfl (by decide) (pc2 := 68) (by decide) (fun c63 => ?_) (fun c63 => ?_)
    · refine K.aload at_68 (pc' := 70) rfl rfl rfl ?_
      refine K.callv (z := (⟨"com/example/woodlark/woodlark/io/NumberBuffer$Reader", "hasRemaining", "()Z"⟩ : MethodName)) (argsL := []) (rest := []) at_70 (pc' := 73) rfl (c_has l Z a0 hw n0 h_39 (a := o_31) (w1 := (0 : Int32)) (w2 := n) f_48 f_46 f_45) f_48 (hw _ (List.mem_of_getElem? (i := 15) rfl)) (hw _ (List.mem_of_getElem? (i := 16) rfl)) (nf_sel (hw _ (List.mem_of_getElem? (i := 18) rfl)) rfl) (hw _ (List.mem_of_getElem? (i := 18) rfl)) (hw _ (List.mem_of_getElem? (i := 17) rfl)) (hw _ (List.mem_of_getElem? (i := 4) rfl)) (hw _ (List.mem_of_getElem? (i := 19) rfl)) (by decide) pd_1 rfl rfl (W := 0) (by simp [Value.category]) (by decide) (by decide) (by decide) (by decide) (fun v_59 h_57 q_58 => ?_)
      obtain ⟨rfl, rfl⟩ := q_58
      show G h_39 2 7 (mkF m 73 #[.val (.int a), .val (.int b), .val (.int c), .val (.int d), .val (.int e), .val (.ref a_1), .val (.int n), .val (.ref o_31), .unset, .unset] [(.int (b2 (0 < n.toInt)))])
      have J84 : ∀ jb : Int32, jb = b2 (0 < n.toInt) → G h_39 2 7 (mkF m 84 #[.val (.int a), .val (.int b), .val (.int c), .val (.int d), .val (.int e), .val (.ref a_1), .val (.int n), .val (.ref o_31), .unset, .unset] [(.int jb), (.int (b2 (0 < n.toInt)))]) := by
        intro jb hjb; subst hjb
        refine K.icmpeqB at_84 (pc1 := 87) rfl (by decide) (pc2 := 89) (by decide) (fun c84 => ?_) (fun c84 => ?_)
        · refine K.iconst at_89 (pc' := 90) rfl (z := 0) rfl ?_
          refine K.istore at_90 (pc' := 92) rfl (L' := #[.val (.int a), .val (.int b), .val (.int c), .val (.int d), .val (.int e), .val (.ref a_1), .val (.int n), .val (.ref o_31), .val (.int (0 : Int32)), .unset]) rfl ?_
          refine K.aload at_92 (pc' := 94) rfl rfl rfl ?_
          refine K.iload at_94 (pc' := 96) rfl rfl ?_
          refine K.iload at_96 (pc' := 98) rfl rfl ?_
          refine K.calls (argsL := [(.ref a_1), (.int (0 : Int32)), (.int n)]) (rest := []) at_98 (pc' := 101) rfl (c_term l Z a0 hw n0 h_39 (b := a_1) (p := (0 : Int32)) (n := n) (x0 := x0) (x1 := x1) (x2 := x2) (x3 := x3) f_47) (hw _ (List.mem_of_getElem? (i := 22) rfl)) (hw _ (List.mem_of_getElem? (i := 23) rfl)) (hw _ (List.mem_of_getElem? (i := 24) rfl)) (hw _ (List.mem_of_getElem? (i := 25) rfl)) (by decide) pd_2 rfl rfl (W := 0) (by simp [Value.category]) (by decide) (by decide) (by decide) (by decide) (fun v_63 h_61 q_62 => ?_)
          obtain ⟨t0, rfl, t_t0, rfl⟩ := q_62
          show G h_39 2 7 (mkF m 101 #[.val (.int a), .val (.int b), .val (.int c), .val (.int d), .val (.int e), .val (.ref a_1), .val (.int n), .val (.ref o_31), .val (.int (0 : Int32)), .unset] [(.int t0)])
          refine K.istore at_101 (pc' := 103) rfl (L' := #[.val (.int a), .val (.int b), .val (.int c), .val (.int d), .val (.int e), .val (.ref a_1), .val (.int n), .val (.ref o_31), .val (.int (0 : Int32)), .val (.int t0)]) rfl ?_
          refine K.iload at_103 (pc' := 105) rfl rfl ?_
          refine K.if_ge at_105 (pc1 := 108) rfl (by decide) (pc2 := 134) (by decide) (a := t0.toInt) rfl (fun c105 => ?_) (fun c105 => ?_)
          · refine K.aload at_134 (pc' := 136) rfl rfl rfl ?_
            refine K.callv (z := (⟨"com/example/woodlark/woodlark/io/NumberBuffer$Reader", "next", "()I"⟩ : MethodName)) (argsL := []) (rest := []) at_136 (pc' := 139) rfl (c_next l Z a0 hw n0 h_39 (a := o_31) (b := a_1) (n := n) (p := (0 : Int32)) (t := t0) (x0 := x0) (x1 := x1) (x2 := x2) (x3 := x3) f_48 f_44 f_45 f_46 f_47 ge_o_31 ne_a_1_o_31 (by have z0 : ((0 : Int32)).toInt = 0 := rfl; omega) (by have z0 : ((0 : Int32)).toInt = 0 := rfl; omega) (by have z0 : ((0 : Int32)).toInt = 0 := rfl; omega)) f_48 (hw _ (List.mem_of_getElem? (i := 26) rfl)) (hw _ (List.mem_of_getElem? (i := 27) rfl)) (nf_sel (hw _ (List.mem_of_getElem? (i := 29) rfl)) rfl) (hw _ (List.mem_of_getElem? (i := 29) rfl)) (hw _ (List.mem_of_getElem? (i := 28) rfl)) (hw _ (List.mem_of_getElem? (i := 4) rfl)) (hw _ (List.mem_of_getElem? (i := 30) rfl)) (by decide) pd_3 rfl rfl (W := 0) (by simp [Value.category]) (by decide) (by decide) (by decide) (by decide) (fun v_66 h_64 q_65 => ?_)
            obtain ⟨u0, ps0, rfl, t_u0, K_67, f_68, f_69, f_70⟩ := q_65
            have f_71 : Ary Z h_64 a_1 .byte [(.int x0), (.int x1), (.int x2), (.int x3)] := f_47.keep K_67 (ninS ne_a_1_o_31 nin0)
            have f_72 : Exa Z h_64 o_31 "com/example/woodlark/woodlark/io/NumberBuffer$Reader" := f_48.keep K_67
            have sz_76 : n0 ≤ h_64.size := Nat.le_trans sz_52 K_67.1
            show G h_64 2 7 (mkF m 139 #[.val (.int a), .val (.int b), .val (.int c), .val (.int d), .val (.int e), .val (.ref a_1), .val (.int n), .val (.ref o_31), .val (.int (0 : Int32)), .val (.int t0)] [(.int u0)])
            refine K.pop at_139 (pc' := 140) rfl rfl ?_
            refine K.iload at_140 (pc' := 142) rfl rfl ?_
            refine K.iconst at_142 (pc' := 143) rfl (z := 1) rfl ?_
            obtain ⟨p0, e_p0⟩ : ∃ z, t0 + (1 : Int32) = z := ⟨_, rfl⟩
            have r_p0 : (p0.toInt - (t0.toInt + 1)) % 4294967296 = 0 := by have q := c_iadd t0 (1 : Int32); rw [e_p0] at q; exact q
            have g_p0 := rng32 p0
            have t_p0 : p0.toInt = t0.toInt + 1 := by omega
            clear r_p0
            refine K.iadd at_143 (pc' := 144) rfl e_p0 ?_
            refine K.istore at_144 (pc' := 146) rfl (L' := #[.val (.int a), .val (.int b), .val (.int c), .val (.int d), .val (.int e), .val (.ref a_1), .val (.int n), .val (.ref o_31), .val (.int p0), .val (.int t0)]) rfl ?_
            refine K.aload at_146 (pc' := 148) rfl rfl rfl ?_
            refine K.callv (z := (⟨"com/example/woodlark/woodlark/io/NumberBuffer$Reader", "hasRemaining", "()Z"⟩ : MethodName)) (argsL := []) (rest := []) at_148 (pc' := 151) rfl (c_has l Z a0 hw n0 h_64 (a := o_31) (w1 := ps0) (w2 := n) f_72 f_68 f_70) f_72 (hw _ (List.mem_of_getElem? (i := 15) rfl)) (hw _ (List.mem_of_getElem? (i := 16) rfl)) (nf_sel (hw _ (List.mem_of_getElem? (i := 18) rfl)) rfl) (hw _ (List.mem_of_getElem? (i := 18) rfl)) (hw _ (List.mem_of_getElem? (i := 17) rfl)) (hw _ (List.mem_of_getElem? (i := 4) rfl)) (hw _ (List.mem_of_getElem? (i := 19) rfl)) (by decide) pd_1 rfl rfl (W := 0) (by simp [Value.category]) (by decide) (by decide) (by decide) (by decide) (fun v_79 h_77 q_78 => ?_)
            obtain ⟨rfl, rfl⟩ := q_78
            show G h_64 2 7 (mkF m 151 #[.val (.int a), .val (.int b), .val (.int c), .val (.int d), .val (.int e), .val (.ref a_1), .val (.int n), .val (.ref o_31), .val (.int p0), .val (.int t0)] [(.int (b2 (ps0.toInt < n.toInt)))])
            have J163 : ∀ jb : Int32, jb = b2 (p0.toInt < n.toInt) → G h_64 2 7 (mkF m 163 #[.val (.int a), .val (.int b), .val (.int c), .val (.int d), .val (.int e), .val (.ref a_1), .val (.int n), .val (.ref o_31), .val (.int p0), .val (.int t0)] [(.int jb), (.int (b2 (ps0.toInt < n.toInt)))]) := by
              intro jb hjb; subst hjb
              refine K.icmpeqB at_163 (pc1 := 166) rfl (by decide) (pc2 := 168) (by decide) (fun c163 => ?_) (fun c163 => ?_)
              · refine K.aload at_168 (pc' := 170) rfl rfl rfl ?_
                refine K.iload at_170 (pc' := 172) rfl rfl ?_
                refine K.iload at_172 (pc' := 174) rfl rfl ?_
                refine K.calls (argsL := [(.ref a_1), (.int p0), (.int n)]) (rest := []) at_174 (pc' := 177) rfl (c_term l Z a0 hw n0 h_64 (b := a_1) (p := p0) (n := n) (x0 := x0) (x1 := x1) (x2 := x2) (x3 := x3) f_71) (hw _ (List.mem_of_getElem? (i := 22) rfl)) (hw _ (List.mem_of_getElem? (i := 23) rfl)) (hw _ (List.mem_of_getElem? (i := 24) rfl)) (hw _ (List.mem_of_getElem? (i := 25) rfl)) (by decide) pd_2 rfl rfl (W := 0) (by simp [Value.category]) (by decide) (by decide) (by decide) (by decide) (fun v_83 h_81 q_82 => ?_)
                obtain ⟨t1, rfl, t_t1, rfl⟩ := q_82
                show G h_64 2 7 (mkF m 177 #[.val (.int a), .val (.int b), .val (.int c), .val (.int d), .val (.int e), .val (.ref a_1), .val (.int n), .val (.ref o_31), .val (.int p0), .val (.int t0)] [(.int t1)])
                refine K.istore at_177 (pc' := 179) rfl (L' := #[.val (.int a), .val (.int b), .val (.int c), .val (.int d), .val (.int e), .val (.ref a_1), .val (.int n), .val (.ref o_31), .val (.int p0), .val (.int t1)]) rfl ?_
                refine K.iload at_179 (pc' := 181) rfl rfl ?_
                refine K.if_ge at_181 (pc1 := 184) rfl (by decide) (pc2 := 210) (by decide) (a := t1.toInt) rfl (fun c181 => ?_) (fun c181 => ?_)
                · refine K.aload at_210 (pc' := 212) rfl rfl rfl ?_
                  refine K.callv (z := (⟨"com/example/woodlark/woodlark/io/NumberBuffer$Reader", "next", "()I"⟩ : MethodName)) (argsL := []) (rest := []) at_212 (pc' := 215) rfl (c_next l Z a0 hw n0 h_64 (a := o_31) (b := a_1) (n := n) (p := ps0) (t := t1) (x0 := x0) (x1 := x1) (x2 := x2) (x3 := x3) f_72 f_69 f_70 f_68 f_71 ge_o_31 ne_a_1_o_31 (by have z0 : ((0 : Int32)).toInt = 0 := rfl; omega) (by have z0 : ((0 : Int32)).toInt = 0 := rfl; omega) (by have z0 : ((0 : Int32)).toInt = 0 := rfl; omega)) f_72 (hw _ (List.mem_of_getElem? (i := 26) rfl)) (hw _ (List.mem_of_getElem? (i := 27) rfl)) (nf_sel (hw _ (List.mem_of_getElem? (i := 29) rfl)) rfl) (hw _ (List.mem_of_getElem? (i := 29) rfl)) (hw _ (List.mem_of_getElem? (i := 28) rfl)) (hw _ (List.mem_of_getElem? (i := 4) rfl)) (hw _ (List.mem_of_getElem? (i := 30) rfl)) (by decide) pd_3 rfl rfl (W := 0) (by simp [Value.category]) (by decide) (by decide) (by decide) (by decide) (fun v_86 h_84 q_85 => ?_)
                  obtain ⟨u1, ps1, rfl, t_u1, K_87, f_88, f_89, f_90⟩ := q_85
                  have f_91 : Ary Z h_84 a_1 .byte [(.int x0), (.int x1), (.int x2), (.int x3)] := f_71.keep K_87 (ninS ne_a_1_o_31 nin0)
                  have f_92 : Exa Z h_84 o_31 "com/example/woodlark/woodlark/io/NumberBuffer$Reader" := f_72.keep K_87
                  have sz_96 : n0 ≤ h_84.size := Nat.le_trans sz_76 K_87.1
                  show G h_84 2 7 (mkF m 215 #[.val (.int a), .val (.int b), .val (.int c), .val (.int d), .val (.int e), .val (.ref a_1), .val (.int n), .val (.ref o_31), .val (.int p0), .val (.int t1)] [(.int u1)])
                  refine K.pop at_215 (pc' := 216) rfl rfl ?_
                  refine K.iload at_216 (pc' := 218) rfl rfl ?_
                  refine K.iconst at_218 (pc' := 219) rfl (z := 1) rfl ?_
                  obtain ⟨p1, e_p1⟩ : ∃ z, t1 + (1 : Int32) = z := ⟨_, rfl⟩
                  have r_p1 : (p1.toInt - (t1.toInt + 1)) % 4294967296 = 0 := by have q := c_iadd t1 (1 : Int32); rw [e_p1] at q; exact q
                  have g_p1 := rng32 p1
                  have t_p1 : p1.toInt = t1.toInt + 1 := by omega
                  clear r_p1
                  refine K.iadd at_219 (pc' := 220) rfl e_p1 ?_
                  refine K.istore at_220 (pc' := 222) rfl (L' := #[.val (.int a), .val (.int b), .val (.int c), .val (.int d), .val (.int e), .val (.ref a_1), .val (.int n), .val (.ref o_31), .val (.int p1), .val (.int t1)]) rfl ?_
                  refine K.aload at_222 (pc' := 224) rfl rfl rfl ?_
                  refine K.callv (z := (⟨"com/example/woodlark/woodlark/io/NumberBuffer$Reader", "hasRemaining", "()Z"⟩ : MethodName)) (argsL := []) (rest := []) at_224 (pc' := 227) rfl (c_has l Z a0 hw n0 h_84 (a := o_31) (w1 := ps1) (w2 := n) f_92 f_88 f_90) f_92 (hw _ (List.mem_of_getElem? (i := 15) rfl)) (hw _ (List.mem_of_getElem? (i := 16) rfl)) (nf_sel (hw _ (List.mem_of_getElem? (i := 18) rfl)) rfl) (hw _ (List.mem_of_getElem? (i := 18) rfl)) (hw _ (List.mem_of_getElem? (i := 17) rfl)) (hw _ (List.mem_of_getElem? (i := 4) rfl)) (hw _ (List.mem_of_getElem? (i := 19) rfl)) (by decide) pd_1 rfl rfl (W := 0) (by simp [Value.category]) (by decide) (by decide) (by decide) (by decide) (fun v_99 h_97 q_98 => ?_)
                  obtain ⟨rfl, rfl⟩ := q_98
                  show G h_84 2 7 (mkF m 227 #[.val (.int a), .val (.int b), .val (.int c), .val (.int d), .val (.int e), .val (.ref a_1), .val (.int n), .val (.ref o_31), .val (.int p1), .val (.int t1)] [(.int (b2 (ps1.toInt < n.toInt)))])
                  have J239 : ∀ jb : Int32, jb = b2 (p1.toInt < n.toInt) → G h_84 2 7 (mkF m 239 #[.val (.int a), .val (.int b), .val (.int c), .val (.int d), .val (.int e), .val (.ref a_1), .val (.int n), .val (.ref o_31), .val (.int p1), .val (.int t1)] [(.int jb), (.int (b2 (ps1.toInt < n.toInt)))]) := by
                    intro jb hjb; subst hjb
                    refine K.icmpeqB at_239 (pc1 := 242) rfl (by decide) (pc2 := 244) (by decide) (fun c239 => ?_) (fun c239 => ?_)
                    · refine K.aload at_244 (pc' := 246) rfl rfl rfl ?_
                      refine K.iload at_246 (pc' := 248) rfl rfl ?_
                      refine K.iload at_248 (pc' := 250) rfl rfl ?_
                      refine K.calls (argsL := [(.ref a_1), (.int p1), (.int n)]) (rest := []) at_250 (pc' := 253) rfl (c_term l Z a0 hw n0 h_84 (b := a_1) (p := p1) (n := n) (x0 := x0) (x1 := x1) (x2 := x2) (x3 := x3) f_91) (hw _ (List.mem_of_getElem? (i := 22) rfl)) (hw _ (List.mem_of_getElem? (i := 23) rfl)) (hw _ (List.mem_of_getElem? (i := 24) rfl)) (hw _ (List.mem_of_getElem? (i := 25) rfl)) (by decide) pd_2 rfl rfl (W := 0) (by simp [Value.category]) (by decide) (by decide) (by decide) (by decide) (fun v_103 h_101 q_102 => ?_)
                      obtain ⟨t2, rfl, t_t2, rfl⟩ := q_102
                      show G h_84 2 7 (mkF m 253 #[.val (.int a), .val (.int b), .val (.int c), .val (.int d), .val (.int e), .val (.ref a_1), .val (.int n), .val (.ref o_31), .val (.int p1), .val (.int t1)] [(.int t2)])
                      refine K.istore at_253 (pc' := 255) rfl (L' := #[.val (.int a), .val (.int b), .val (.int c), .val (.int d), .val (.int e), .val (.ref a_1), .val (.int n), .val (.ref o_31), .val (.int p1), .val (.int t2)]) rfl ?_
                      refine K.iload at_255 (pc' := 257) rfl rfl ?_
                      refine K.if_ge at_257 (pc1 := 260) rfl (by decide) (pc2 := 286) (by decide) (a := t2.toInt) rfl (fun c257 => ?_) (fun c257 => ?_)
                      · refine K.aload at_286 (pc' := 288) rfl rfl rfl ?_
                        refine K.callv (z := (⟨"com/example/woodlark/woodlark/io/NumberBuffer$Reader", "next", "()I"⟩ : MethodName)) (argsL := []) (rest := []) at_288 (pc' := 291) rfl (c_next l Z a0 hw n0 h_84 (a := o_31) (b := a_1) (n := n) (p := ps1) (t := t2) (x0 := x0) (x1 := x1) (x2 := x2) (x3 := x3) f_92 f_89 f_90 f_88 f_91 ge_o_31 ne_a_1_o_31 (by have z0 : ((0 : Int32)).toInt = 0 := rfl; omega) (by have z0 : ((0 : Int32)).toInt = 0 := rfl; omega) (by have z0 : ((0 : Int32)).toInt = 0 := rfl; omega)) f_92 (hw _ (List.mem_of_getElem? (i := 26) rfl)) (hw _ (List.mem_of_getElem? (i := 27) rfl)) (nf_sel (hw _ (List.mem_of_getElem? (i := 29) rfl)) rfl) (hw _ (List.mem_of_getElem? (i := 29) rfl)) (hw _ (List.mem_of_getElem? (i := 28) rfl)) (hw _ (List.mem_of_getElem? (i := 4) rfl)) (hw _ (List.mem_of_getElem? (i := 30) rfl)) (by decide) pd_3 rfl rfl (W := 0) (by simp [Value.category]) (by decide) (by decide) (by decide) (by decide) (fun v_106 h_104 q_105 => ?_)
                        obtain ⟨u2, ps2, rfl, t_u2, K_107, f_108, f_109, f_110⟩ := q_105
                        have f_111 : Ary Z h_104 a_1 .byte [(.int x0), (.int x1), (.int x2), (.int x3)] := f_91.keep K_107 (ninS ne_a_1_o_31 nin0)
                        have f_112 : Exa Z h_104 o_31 "com/example/woodlark/woodlark/io/NumberBuffer$Reader" := f_92.keep K_107
                        have sz_116 : n0 ≤ h_104.size := Nat.le_trans sz_96 K_107.1
                        show G h_104 2 7 (mkF m 291 #[.val (.int a), .val (.int b), .val (.int c), .val (.int d), .val (.int e), .val (.ref a_1), .val (.int n), .val (.ref o_31), .val (.int p1), .val (.int t2)] [(.int u2)])
                        refine K.pop at_291 (pc' := 292) rfl rfl ?_
                        refine K.iload at_292 (pc' := 294) rfl rfl ?_
                        refine K.iconst at_294 (pc' := 295) rfl (z := 1) rfl ?_
                        obtain ⟨p2, e_p2⟩ : ∃ z, t2 + (1 : Int32) = z := ⟨_, rfl⟩
                        have r_p2 : (p2.toInt - (t2.toInt + 1)) % 4294967296 = 0 := by have q := c_iadd t2 (1 : Int32); rw [e_p2] at q; exact q
                        have g_p2 := rng32 p2
                        have t_p2 : p2.toInt = t2.toInt + 1 := by omega
                        clear r_p2
                        refine K.iadd at_295 (pc' := 296) rfl e_p2 ?_
                        refine K.istore at_296 (pc' := 298) rfl (L' := #[.val (.int a), .val (.int b), .val (.int c), .val (.int d), .val (.int e), .val (.ref a_1), .val (.int n), .val (.ref o_31), .val (.int p2), .val (.int t2)]) rfl ?_
                        refine K.aload at_298 (pc' := 300) rfl rfl rfl ?_
                        refine K.callv (z := (⟨"com/example/woodlark/woodlark/io/NumberBuffer$Reader", "hasRemaining", "()Z"⟩ : MethodName)) (argsL := []) (rest := []) at_300 (pc' := 303) rfl (c_has l Z a0 hw n0 h_104 (a := o_31) (w1 := ps2) (w2 := n) f_112 f_108 f_110) f_112 (hw _ (List.mem_of_getElem? (i := 15) rfl)) (hw _ (List.mem_of_getElem? (i := 16) rfl)) (nf_sel (hw _ (List.mem_of_getElem? (i := 18) rfl)) rfl) (hw _ (List.mem_of_getElem? (i := 18) rfl)) (hw _ (List.mem_of_getElem? (i := 17) rfl)) (hw _ (List.mem_of_getElem? (i := 4) rfl)) (hw _ (List.mem_of_getElem? (i := 19) rfl)) (by decide) pd_1 rfl rfl (W := 0) (by simp [Value.category]) (by decide) (by decide) (by decide) (by decide) (fun v_119 h_117 q_118 => ?_)
                        obtain ⟨rfl, rfl⟩ := q_118
                        show G h_104 2 7 (mkF m 303 #[.val (.int a), .val (.int b), .val (.int c), .val (.int d), .val (.int e), .val (.ref a_1), .val (.int n), .val (.ref o_31), .val (.int p2), .val (.int t2)] [(.int (b2 (ps2.toInt < n.toInt)))])
                        have J315 : ∀ jb : Int32, jb = b2 (p2.toInt < n.toInt) → G h_104 2 7 (mkF m 315 #[.val (.int a), .val (.int b), .val (.int c), .val (.int d), .val (.int e), .val (.ref a_1), .val (.int n), .val (.ref o_31), .val (.int p2), .val (.int t2)] [(.int jb), (.int (b2 (ps2.toInt < n.toInt)))]) := by
                          intro jb hjb; subst hjb
                          refine K.icmpeqB at_315 (pc1 := 318) rfl (by decide) (pc2 := 320) (by decide) (fun c315 => ?_) (fun c315 => ?_)
                          · refine K.aload at_320 (pc' := 322) rfl rfl rfl ?_
                            refine K.iload at_322 (pc' := 324) rfl rfl ?_
                            refine K.iload at_324 (pc' := 326) rfl rfl ?_
                            refine K.calls (argsL := [(.ref a_1), (.int p2), (.int n)]) (rest := []) at_326 (pc' := 329) rfl (c_term l Z a0 hw n0 h_104 (b := a_1) (p := p2) (n := n) (x0 := x0) (x1 := x1) (x2 := x2) (x3 := x3) f_111) (hw _ (List.mem_of_getElem? (i := 22) rfl)) (hw _ (List.mem_of_getElem? (i := 23) rfl)) (hw _ (List.mem_of_getElem? (i := 24) rfl)) (hw _ (List.mem_of_getElem? (i := 25) rfl)) (by decide) pd_2 rfl rfl (W := 0) (by simp [Value.category]) (by decide) (by decide) (by decide) (by decide) (fun v_123 h_121 q_122 => ?_)
                            obtain ⟨t3, rfl, t_t3, rfl⟩ := q_122
                            show G h_104 2 7 (mkF m 329 #[.val (.int a), .val (.int b), .val (.int c), .val (.int d), .val (.int e), .val (.ref a_1), .val (.int n), .val (.ref o_31), .val (.int p2), .val (.int t2)] [(.int t3)])
                            refine K.istore at_329 (pc' := 331) rfl (L' := #[.val (.int a), .val (.int b), .val (.int c), .val (.int d), .val (.int e), .val (.ref a_1), .val (.int n), .val (.ref o_31), .val (.int p2), .val (.int t3)]) rfl ?_
                            refine K.iload at_331 (pc' := 333) rfl rfl ?_
                            refine K.if_ge at_333 (pc1 := 336) rfl (by decide) (pc2 := 362) (by decide) (a := t3.toInt) rfl (fun c333 => ?_) (fun c333 => ?_)
                            · refine K.aload at_362 (pc' := 364) rfl rfl rfl ?_
                              refine K.callv (z := (⟨"com/example/woodlark/woodlark/io/NumberBuffer$Reader", "next", "()I"⟩ : MethodName)) (argsL := []) (rest := []) at_364 (pc' := 367) rfl (c_next l Z a0 hw n0 h_104 (a := o_31) (b := a_1) (n := n) (p := ps2) (t := t3) (x0 := x0) (x1 := x1) (x2 := x2) (x3 := x3) f_112 f_109 f_110 f_108 f_111 ge_o_31 ne_a_1_o_31 (by have z0 : ((0 : Int32)).toInt = 0 := rfl; omega) (by have z0 : ((0 : Int32)).toInt = 0 := rfl; omega) (by have z0 : ((0 : Int32)).toInt = 0 := rfl; omega)) f_112 (hw _ (List.mem_of_getElem? (i := 26) rfl)) (hw _ (List.mem_of_getElem? (i := 27) rfl)) (nf_sel (hw _ (List.mem_of_getElem? (i := 29) rfl)) rfl) (hw _ (List.mem_of_getElem? (i := 29) rfl)) (hw _ (List.mem_of_getElem? (i := 28) rfl)) (hw _ (List.mem_of_getElem? (i := 4) rfl)) (hw _ (List.mem_of_getElem? (i := 30) rfl)) (by decide) pd_3 rfl rfl (W := 0) (by simp [Value.category]) (by decide) (by decide) (by decide) (by decide) (fun v_126 h_124 q_125 => ?_)
                              obtain ⟨u3, ps3, rfl, t_u3, K_127, f_128, f_129, f_130⟩ := q_125
                              have f_131 : Ary Z h_124 a_1 .byte [(.int x0), (.int x1), (.int x2), (.int x3)] := f_111.keep K_127 (ninS ne_a_1_o_31 nin0)
                              have f_132 : Exa Z h_124 o_31 "com/example/woodlark/woodlark/io/NumberBuffer$Reader" := f_112.keep K_127
                              have sz_136 : n0 ≤ h_124.size := Nat.le_trans sz_116 K_127.1
                              show G h_124 2 7 (mkF m 367 #[.val (.int a), .val (.int b), .val (.int c), .val (.int d), .val (.int e), .val (.ref a_1), .val (.int n), .val (.ref o_31), .val (.int p2), .val (.int t3)] [(.int u3)])
                              refine K.pop at_367 (pc' := 368) rfl rfl ?_
                              refine K.iload at_368 (pc' := 370) rfl rfl ?_
                              refine K.iconst at_370 (pc' := 371) rfl (z := 1) rfl ?_
                              obtain ⟨p3, e_p3⟩ : ∃ z, t3 + (1 : Int32) = z := ⟨_, rfl⟩
                              have r_p3 : (p3.toInt - (t3.toInt + 1)) % 4294967296 = 0 := by have q := c_iadd t3 (1 : Int32); rw [e_p3] at q; exact q
                              have g_p3 := rng32 p3
                              have t_p3 : p3.toInt = t3.toInt + 1 := by omega
                              clear r_p3
                              refine K.iadd at_371 (pc' := 372) rfl e_p3 ?_
                              refine K.istore at_372 (pc' := 374) rfl (L' := #[.val (.int a), .val (.int b), .val (.int c), .val (.int d), .val (.int e), .val (.ref a_1), .val (.int n), .val (.ref o_31), .val (.int p3), .val (.int t3)]) rfl ?_
                              refine K.aload at_374 (pc' := 376) rfl rfl rfl ?_
                              refine K.callv (z := (⟨"com/example/woodlark/woodlark/io/NumberBuffer$Reader", "hasRemaining", "()Z"⟩ : MethodName)) (argsL := []) (rest := []) at_376 (pc' := 379) rfl (c_has l Z a0 hw n0 h_124 (a := o_31) (w1 := ps3) (w2 := n) f_132 f_128 f_130) f_132 (hw _ (List.mem_of_getElem? (i := 15) rfl)) (hw _ (List.mem_of_getElem? (i := 16) rfl)) (nf_sel (hw _ (List.mem_of_getElem? (i := 18) rfl)) rfl) (hw _ (List.mem_of_getElem? (i := 18) rfl)) (hw _ (List.mem_of_getElem? (i := 17) rfl)) (hw _ (List.mem_of_getElem? (i := 4) rfl)) (hw _ (List.mem_of_getElem? (i := 19) rfl)) (by decide) pd_1 rfl rfl (W := 0) (by simp [Value.category]) (by decide) (by decide) (by decide) (by decide) (fun v_139 h_137 q_138 => ?_)
                              obtain ⟨rfl, rfl⟩ := q_138
                              show G h_124 2 7 (mkF m 379 #[.val (.int a), .val (.int b), .val (.int c), .val (.int d), .val (.int e), .val (.ref a_1), .val (.int n), .val (.ref o_31), .val (.int p3), .val (.int t3)] [(.int (b2 (ps3.toInt < n.toInt)))])
                              have J391 : ∀ jb : Int32, jb = b2 (p3.toInt < n.toInt) → G h_124 2 7 (mkF m 391 #[.val (.int a), .val (.int b), .val (.int c), .val (.int d), .val (.int e), .val (.ref a_1), .val (.int n), .val (.ref o_31), .val (.int p3), .val (.int t3)] [(.int jb), (.int (b2 (ps3.toInt < n.toInt)))]) := by
                                intro jb hjb; subst hjb
                                refine K.icmpneB at_391 (pc1 := 394) rfl (by decide) (pc2 := 398) (by decide) (fun c391 => ?_) (fun c391 => ?_)
                                · exfalso; omega
                                · refine K.iconst at_394 (pc' := 395) rfl (z := 1) rfl ?_
                                  refine K.goto at_395 (by decide) (pc' := 399) (by decide) ?_
                                  exact K.retz at_399 (Or.inr rfl) (by decide) (by decide) rfl
                              refine K.iload at_379 (pc' := 381) rfl rfl ?_
                              refine K.iload at_381 (pc' := 383) rfl rfl ?_
                              refine K.icmp_ge at_383 (pc1 := 386) rfl (by decide) (pc2 := 390) (by decide) (a := p3.toInt) (b := n.toInt) rfl rfl (fun c383 => ?_) (fun c383 => ?_)
                              · refine K.iconst at_390 (pc' := 391) rfl (z := 0) rfl ?_
                                exact J391 _ (b2_f (by omega)).symm
                              · refine K.iconst at_386 (pc' := 387) rfl (z := 1) rfl ?_
                                refine K.goto at_387 (by decide) (pc' := 391) (by decide) ?_
                                exact J391 _ (b2_t (by omega)).symm
                            · refine K.aload at_336 (pc' := 338) rfl rfl rfl ?_
                              refine K.callv (z := (⟨"com/example/woodlark/woodlark/io/NumberBuffer$Reader", "hasRemaining", "()Z"⟩ : MethodName)) (argsL := []) (rest := []) at_338 (pc' := 341) rfl (c_has l Z a0 hw n0 h_104 (a := o_31) (w1 := ps2) (w2 := n) f_112 f_108 f_110) f_112 (hw _ (List.mem_of_getElem? (i := 15) rfl)) (hw _ (List.mem_of_getElem? (i := 16) rfl)) (nf_sel (hw _ (List.mem_of_getElem? (i := 18) rfl)) rfl) (hw _ (List.mem_of_getElem? (i := 18) rfl)) (hw _ (List.mem_of_getElem? (i := 17) rfl)) (hw _ (List.mem_of_getElem? (i := 4) rfl)) (hw _ (List.mem_of_getElem? (i := 19) rfl)) (by decide) pd_1 rfl rfl (W := 0) (by simp [Value.category]) (by decide) (by decide) (by decide) (by decide) (fun v_143 h_141 q_142 => ?_)
                              obtain ⟨rfl, rfl⟩ := q_142
                              show G h_104 2 7 (mkF m 341 #[.val (.int a), .val (.int b), .val (.int c), .val (.int d), .val (.int e), .val (.ref a_1), .val (.int n), .val (.ref o_31), .val (.int p2), .val (.int t3)] [(.int (b2 (ps2.toInt < n.toInt)))])
                              have J353 : ∀ jb : Int32, jb = b2 (p2.toInt < n.toInt) → G h_104 2 7 (mkF m 353 #[.val (.int a), .val (.int b), .val (.int c), .val (.int d), .val (.int e), .val (.ref a_1), .val (.int n), .val (.ref o_31), .val (.int p2), .val (.int t3)] [(.int jb), (.int (b2 (ps2.toInt < n.toInt)))]) := by
                                intro jb hjb; subst hjb
                                refine K.icmpneB at_353 (pc1 := 356) rfl (by decide) (pc2 := 360) (by decide) (fun c353 => ?_) (fun c353 => ?_)
                                · exfalso; omega
                                · refine K.iconst at_356 (pc' := 357) rfl (z := 1) rfl ?_
                                  refine K.goto at_357 (by decide) (pc' := 361) (by decide) ?_
                                  exact K.retz at_361 (Or.inr rfl) (by decide) (by decide) rfl
                              refine K.iload at_341 (pc' := 343) rfl rfl ?_
                              refine K.iload at_343 (pc' := 345) rfl rfl ?_
                              refine K.icmp_ge at_345 (pc1 := 348) rfl (by decide) (pc2 := 352) (by decide) (a := p2.toInt) (b := n.toInt) rfl rfl (fun c345 => ?_) (fun c345 => ?_)
                              · refine K.iconst at_352 (pc' := 353) rfl (z := 0) rfl ?_
                                exact J353 _ (b2_f (by omega)).symm
                              · refine K.iconst at_348 (pc' := 349) rfl (z := 1) rfl ?_
                                refine K.goto at_349 (by decide) (pc' := 353) (by decide) ?_
                                exact J353 _ (b2_t (by omega)).symm
                          · exfalso; omega
                        refine K.iload at_303 (pc' := 305) rfl rfl ?_
                        refine K.iload at_305 (pc' := 307) rfl rfl ?_
                        refine K.icmp_ge at_307 (pc1 := 310) rfl (by decide) (pc2 := 314) (by decide) (a := p2.toInt) (b := n.toInt) rfl rfl (fun c307 => ?_) (fun c307 => ?_)
                        · refine K.iconst at_314 (pc' := 315) rfl (z := 0) rfl ?_
                          exact J315 _ (b2_f (by omega)).symm
                        · refine K.iconst at_310 (pc' := 311) rfl (z := 1) rfl ?_
                          refine K.goto at_311 (by decide) (pc' := 315) (by decide) ?_
                          exact J315 _ (b2_t (by omega)).symm
                      · refine K.aload at_260 (pc' := 262) rfl rfl rfl ?_
                        refine K.callv (z := (⟨"com/example/woodlark/woodlark/io/NumberBuffer$Reader", "hasRemaining", "()Z"⟩ : MethodName)) (argsL := []) (rest := []) at_262 (pc' := 265) rfl (c_has l Z a0 hw n0 h_84 (a := o_31) (w1 := ps1) (w2 := n) f_92 f_88 f_90) f_92 (hw _ (List.mem_of_getElem? (i := 15) rfl)) (hw _ (List.mem_of_getElem? (i := 16) rfl)) (nf_sel (hw _ (List.mem_of_getElem? (i := 18) rfl)) rfl) (hw _ (List.mem_of_getElem? (i := 18) rfl)) (hw _ (List.mem_of_getElem? (i := 17) rfl)) (hw _ (List.mem_of_getElem? (i := 4) rfl)) (hw _ (List.mem_of_getElem? (i := 19) rfl)) (by decide) pd_1 rfl rfl (W := 0) (by simp [Value.category]) (by decide) (by decide) (by decide) (by decide) (fun v_147 h_145 q_146 => ?_)
                        obtain ⟨rfl, rfl⟩ := q_146
                        show G h_84 2 7 (mkF m 265 #[.val (.int a), .val (.int b), .val (.int c), .val (.int d), .val (.int e), .val (.ref a_1), .val (.int n), .val (.ref o_31), .val (.int p1), .val (.int t2)] [(.int (b2 (ps1.toInt < n.toInt)))])
                        have J277 : ∀ jb : Int32, jb = b2 (p1.toInt < n.toInt) → G h_84 2 7 (mkF m 277 #[.val (.int a), .val (.int b), .val (.int c), .val (.int d), .val (.int e), .val (.ref a_1), .val (.int n), .val (.ref o_31), .val (.int p1), .val (.int t2)] [(.int jb), (.int (b2 (ps1.toInt < n.toInt)))]) := by
                          intro jb hjb; subst hjb
                          refine K.icmpneB at_277 (pc1 := 280) rfl (by decide) (pc2 := 284) (by decide) (fun c277 => ?_) (fun c277 => ?_)
                          · exfalso; omega
                          · refine K.iconst at_280 (pc' := 281) rfl (z := 1) rfl ?_
                            refine K.goto at_281 (by decide) (pc' := 285) (by decide) ?_
                            exact K.retz at_285 (Or.inr rfl) (by decide) (by decide) rfl
                        refine K.iload at_265 (pc' := 267) rfl rfl ?_
                        refine K.iload at_267 (pc' := 269) rfl rfl ?_
                        refine K.icmp_ge at_269 (pc1 := 272) rfl (by decide) (pc2 := 276) (by decide) (a := p1.toInt) (b := n.toInt) rfl rfl (fun c269 => ?_) (fun c269 => ?_)
                        · refine K.iconst at_276 (pc' := 277) rfl (z := 0) rfl ?_
                          exact J277 _ (b2_f (by omega)).symm
                        · refine K.iconst at_272 (pc' := 273) rfl (z := 1) rfl ?_
                          refine K.goto at_273 (by decide) (pc' := 277) (by decide) ?_
                          exact J277 _ (b2_t (by omega)).symm
                    · exfalso; omega
                  refine K.iload at_227 (pc' := 229) rfl rfl ?_
                  refine K.iload at_229 (pc' := 231) rfl rfl ?_
                  refine K.icmp_ge at_231 (pc1 := 234) rfl (by decide) (pc2 := 238) (by decide) (a := p1.toInt) (b := n.toInt) rfl rfl (fun c231 => ?_) (fun c231 => ?_)
                  · refine K.iconst at_238 (pc' := 239) rfl (z := 0) rfl ?_
                    exact J239 _ (b2_f (by omega)).symm
                  · refine K.iconst at_234 (pc' := 235) rfl (z := 1) rfl ?_
                    refine K.goto at_235 (by decide) (pc' := 239) (by decide) ?_
                    exact J239 _ (b2_t (by omega)).symm
                · refine K.aload at_184 (pc' := 186) rfl rfl rfl ?_
                  refine K.callv (z := (⟨"com/example/woodlark/woodlark/io/NumberBuffer$Reader", "hasRemaining", "()Z"⟩ : MethodName)) (argsL := []) (rest := []) at_186 (pc' := 189) rfl (c_has l Z a0 hw n0 h_64 (a := o_31) (w1 := ps0) (w2 := n) f_72 f_68 f_70) f_72 (hw _ (List.mem_of_getElem? (i := 15) rfl)) (hw _ (List.mem_of_getElem? (i := 16) rfl)) (nf_sel (hw _ (List.mem_of_getElem? (i := 18) rfl)) rfl) (hw _ (List.mem_of_getElem? (i := 18) rfl)) (hw _ (List.mem_of_getElem? (i := 17) rfl)) (hw _ (List.mem_of_getElem? (i := 4) rfl)) (hw _ (List.mem_of_getElem? (i := 19) rfl)) (by decide) pd_1 rfl rfl (W := 0) (by simp [Value.category]) (by decide) (by decide) (by decide) (by decide) (fun v_151 h_149 q_150 => ?_)
                  obtain ⟨rfl, rfl⟩ := q_150
                  show G h_64 2 7 (mkF m 189 #[.val (.int a), .val (.int b), .val (.int c), .val (.int d), .val (.int e), .val (.ref a_1), .val (.int n), .val (.ref o_31), .val (.int p0), .val (.int t1)] [(.int (b2 (ps0.toInt < n.toInt)))])
                  have J201 : ∀ jb : Int32, jb = b2 (p0.toInt < n.toInt) → G h_64 2 7 (mkF m 201 #[.val (.int a), .val (.int b), .val (.int c), .val (.int d), .val (.int e), .val (.ref a_1), .val (.int n), .val (.ref o_31), .val (.int p0), .val (.int t1)] [(.int jb), (.int (b2 (ps0.toInt < n.toInt)))]) := by
                    intro jb hjb; subst hjb
                    refine K.icmpneB at_201 (pc1 := 204) rfl (by decide) (pc2 := 208) (by decide) (fun c201 => ?_) (fun c201 => ?_)
                    · exfalso; omega
                    · refine K.iconst at_204 (pc' := 205) rfl (z := 1) rfl ?_
                      refine K.goto at_205 (by decide) (pc' := 209) (by decide) ?_
                      exact K.retz at_209 (Or.inr rfl) (by decide) (by decide) rfl
                  refine K.iload at_189 (pc' := 191) rfl rfl ?_
                  refine K.iload at_191 (pc' := 193) rfl rfl ?_
                  refine K.icmp_ge at_193 (pc1 := 196) rfl (by decide) (pc2 := 200) (by decide) (a := p0.toInt) (b := n.toInt) rfl rfl (fun c193 => ?_) (fun c193 => ?_)
                  · refine K.iconst at_200 (pc' := 201) rfl (z := 0) rfl ?_
                    exact J201 _ (b2_f (by omega)).symm
                  · refine K.iconst at_196 (pc' := 197) rfl (z := 1) rfl ?_
                    refine K.goto at_197 (by decide) (pc' := 201) (by decide) ?_
                    exact J201 _ (b2_t (by omega)).symm
              · exfalso; omega
            refine K.iload at_151 (pc' := 153) rfl rfl ?_
            refine K.iload at_153 (pc' := 155) rfl rfl ?_
            refine K.icmp_ge at_155 (pc1 := 158) rfl (by decide) (pc2 := 162) (by decide) (a := p0.toInt) (b := n.toInt) rfl rfl (fun c155 => ?_) (fun c155 => ?_)
            · refine K.iconst at_162 (pc' := 163) rfl (z := 0) rfl ?_
              exact J163 _ (b2_f (by omega)).symm
            · refine K.iconst at_158 (pc' := 159) rfl (z := 1) rfl ?_
              refine K.goto at_159 (by decide) (pc' := 163) (by decide) ?_
              exact J163 _ (b2_t (by omega)).symm
          · refine K.aload at_108 (pc' := 110) rfl rfl rfl ?_
            refine K.callv (z := (⟨"com/example/woodlark/woodlark/io/NumberBuffer$Reader", "hasRemaining", "()Z"⟩ : MethodName)) (argsL := []) (rest := []) at_110 (pc' := 113) rfl (c_has l Z a0 hw n0 h_39 (a := o_31) (w1 := (0 : Int32)) (w2 := n) f_48 f_46 f_45) f_48 (hw _ (List.mem_of_getElem? (i := 15) rfl)) (hw _ (List.mem_of_getElem? (i := 16) rfl)) (nf_sel (hw _ (List.mem_of_getElem? (i := 18) rfl)) rfl) (hw _ (List.mem_of_getElem? (i := 18) rfl)) (hw _ (List.mem_of_getElem? (i := 17) rfl)) (hw _ (List.mem_of_getElem? (i := 4) rfl)) (hw _ (List.mem_of_getElem? (i := 19) rfl)) (by decide) pd_1 rfl rfl (W := 0) (by simp [Value.category]) (by decide) (by decide) (by decide) (by decide) (fun v_155 h_153 q_154 => ?_)
            obtain ⟨rfl, rfl⟩ := q_154
            show G h_39 2 7 (mkF m 113 #[.val (.int a), .val (.int b), .val (.int c), .val (.int d), .val (.int e), .val (.ref a_1), .val (.int n), .val (.ref o_31), .val (.int (0 : Int32)), .val (.int t0)] [(.int (b2 (0 < n.toInt)))])
            have J125 : ∀ jb : Int32, jb = b2 (0 < n.toInt) → G h_39 2 7 (mkF m 125 #[.val (.int a), .val (.int b), .val (.int c), .val (.int d), .val (.int e), .val (.ref a_1), .val (.int n), .val (.ref o_31), .val (.int (0 : Int32)), .val (.int t0)] [(.int jb), (.int (b2 (0 < n.toInt)))]) := by
              intro jb hjb; subst hjb
              refine K.icmpneB at_125 (pc1 := 128) rfl (by decide) (pc2 := 132) (by decide) (fun c125 => ?_) (fun c125 => ?_)
              · exfalso; omega
              · refine K.iconst at_128 (pc' := 129) rfl (z := 1) rfl ?_
                refine K.goto at_129 (by decide) (pc' := 133) (by decide) ?_
                exact K.retz at_133 (Or.inr rfl) (by decide) (by decide) rfl
            refine K.iload at_113 (pc' := 115) rfl rfl ?_
            refine K.iload at_115 (pc' := 117) rfl rfl ?_
            refine K.icmp_ge at_117 (pc1 := 120) rfl (by decide) (pc2 := 124) (by decide) (a := 0) (b := n.toInt) rfl rfl (fun c117 => ?_) (fun c117 => ?_)
            · refine K.iconst at_124 (pc' := 125) rfl (z := 0) rfl ?_
              exact J125 _ (b2_f (by omega)).symm
            · refine K.iconst at_120 (pc' := 121) rfl (z := 1) rfl ?_
              refine K.goto at_121 (by decide) (pc' := 125) (by decide) ?_
              exact J125 _ (b2_t (by omega)).symm
        · exfalso; omega
      refine K.iconst at_73 (pc' := 74) rfl (z := 0) rfl ?_
      refine K.iload at_74 (pc' := 76) rfl rfl ?_
      refine K.icmp_ge at_76 (pc1 := 79) rfl (by decide) (pc2 := 83) (by decide) (a := 0) (b := n.toInt) rfl rfl (fun c76 => ?_) (fun c76 => ?_)
      · refine K.iconst at_83 (pc' := 84) rfl (z := 0) rfl ?_
        exact J84 _ (b2_f (by omega)).symm
      · refine K.iconst at_79 (pc' := 80) rfl (z := 1) rfl ?_
        refine K.goto at_80 (by decide) (pc' := 84) (by decide) ?_
        exact J84 _ (b2_t (by omega)).symm
    · exfalso; omega
  refine K.iconst at_52 (pc' := 53) rfl (z := 0) rfl ?_
  refine K.iload at_53 (pc' := 55) rfl rfl ?_
  refine K.icmp_ge at_55 (pc1 := 58) rfl (by decide) (pc2 := 62) (by decide) (a := 0) (b := n.toInt) rfl rfl (fun c55 => ?_) (fun c55 => ?_)
  · refine K.iconst at_62 (pc' := 63) rfl (z := 0) rfl ?_
    exact J63 _ (b2_f (by omega)).symm
  · refine K.iconst at_58 (pc' := 59) rfl (z := 1) rfl ?_
    refine K.goto at_59 (by decide) (pc' := 63) (by decide) ?_
    exact J63 _ (b2_t (by omega)).symm
set_option maxRecDepth 65536 in
set_option maxHeartbeats 40000000 in
theorem comes_1 {Post : Tables → Env → Array Value → State → Outcome → State → Prop} (hpost : ∀ tb e args s v u, (limb_1_1.after args s (.returned v) u = true ∧ limb_1_2.after args s (.returned v) u = true ∧ True) → FrameEnd s (.returned v) u (Jvm.fieldLocs frame_1_writes args s ++ Jvm.arrayLocs frame_1_arrays args s ++ Jvm.staticLocs frame_1_statics s) 16 128 → Post tb e args s (.returned v) u) :
    ArmFor flags0 classFile x code maxLocals ret World_1 tables_1 room_1 Calls_1 rest_1 Pre_1 Post := by
  intro l hfl _ _ p e ha hc hk s m args below hf hA hF happ hP
  obtain ⟨hcalls, hrest, hpre⟩ := hP
  obtain ⟨-, -, -, hnamed, -, -, -, hat⟩ := (Spec.applies_iff hf).mp happ
  obtain ⟨hg, hn⟩ := and_e (Cond.before_iff.mp (show (Jvm.Cond.and given_1 narrow_1).before args s = true from hpre))
  obtain ⟨k0, j0⟩ := and_e hg
  obtain ⟨k1, j1⟩ := and_e j0
  obtain ⟨k2, j2⟩ := and_e j1
  obtain ⟨k3, j3⟩ := and_e j2
  obtain ⟨k4, j4⟩ := and_e j3
  obtain ⟨w0, w1, w2, w3, w4, rfl⟩ : ∃ w0 w1 w2 w3 w4 : Value, args = #[w0, w1, w2, w3, w4] := by
    have hs : args.size = 5 := by simpa [Cond.value, given_1] using k0
    obtain ⟨L⟩ := args
    match L, hs with
    | [w0, w1, w2, w3, w4], _ => exact ⟨w0, w1, w2, w3, w4, rfl⟩
  have hw := fun d (hd : d ∈ tables_1) => atoms_spec (ws := Jvm.Cond.code x code maxLocals ret :: tables_1) hat d (List.mem_cons_of_mem _ hd)
  have hfit : Fit s := fun {y c} hc i hi => by
    obtain ⟨ha, rfl⟩ := Array.getElem?_eq_some_iff.mp hc
    have q := List.all_eq_true.mp ((Array.all_eq_true_iff_forall_mem.mp hF) _ (Array.getElem_mem ha)) i (List.mem_range.mpr hi)
    simpa [Array.getElem?_eq_getElem hi] using q
  obtain ⟨i0, ei0⟩ := is_v k1
  obtain rfl : w0 = (.int i0) := Option.some.inj ei0
  obtain ⟨i1, ei1⟩ := is_v k2
  obtain rfl : w1 = (.int i1) := Option.some.inj ei1
  obtain ⟨i2, ei2⟩ := is_v k3
  obtain rfl : w2 = (.int i2) := Option.some.inj ei2
  obtain ⟨i3, ei3⟩ := is_v k4
  obtain rfl : w3 = (.int i3) := Option.some.inj ei3
  obtain ⟨i4, ei4⟩ := is_v j4
  obtain rfl : w4 = (.int i4) := Option.some.inj ei4
  obtain ⟨n, o, h1, h2, h3, _, L, rfl, ⟨rfl, N⟩, hq⟩ := c_law l s _ hw s.heap.size s.heap i0 i1 i2 i3 i4 (Nat.le_refl _)  tables_1 p e ha hc hk s m _ below hf ((Spec.applies_iff_loose hf).mp happ).1 ⟨rfl, State.Warmed39.refl s, rfl⟩ trivial
  refine ⟨n, _, h1, h2, h3, hpost _ _ _ _ _ _ ⟨Cond.after_iff.mpr rfl, Cond.after_iff.mpr (eq_i res_at (Term.int_eval (1)) rfl), trivial⟩ ⟨hq.1, hq.2.1, (hq.2.2.sift fun y hy => Or.inr (N y hy)).mono (by decide) (by decide)⟩⟩
theorem main_1_1 : Claimed_1_1 := comes_1 fun _ _ _ _ _ _ h hF => ⟨h.1, hF⟩
theorem main_1_2 : Claimed_1_2 := comes_1 fun _ _ _ _ _ _ h hF => ⟨h.2.1, hF⟩
end Jvm.Pilot.@@N@@
namespace Jvm.Pilot.@@N@@
open Jvm Jvm.ClassFile Sem Op Lib Jvm.Free Jvm.Stand Jvm.Pilot.@@N@@.Jvm.D
/-! MADE BY PROGRAM (witnessworld.py) out of the Statement's table words and the real class files: 9 classes; the members and pool entries that the words name. The judged class is class 1, her method 2. -/
namespace start1
open Jvm.ClassFile
def u (s : String) : CpInfo := .utf8 (stringToUtf16 s)
/-- a pool by its gaps: so many unusable entries, then the entry; so many at the end -/
def gap : Nat → List CpInfo → List CpInfo
  | 0, r => r
  | n + 1, r => .unusable :: gap n r
def poolList (es : List (Nat × CpInfo)) (last : Nat) : List CpInfo := es.foldr (fun e r => gap e.1 (e.2 :: r)) (gap last [])
def pool (es : List (Nat × CpInfo)) (last : Nat) : Array CpInfo := ⟨poolList es last⟩
def fileOf (pool : Array CpInfo) (this : Nat) (attrs : Array Attribute := #[]) (ms : Array MethodInfo := #[]) (fl : Nat := 33) (sup : Nat := 0) (ifs : Array Nat := #[]) (fds : Array FieldInfo := #[]) : ClassFile where
  minorVersion := 0
  majorVersion := 65
  constantPool := pool
  accessFlags := fl
  thisClass := this
  superClass := sup
  interfaces := ifs
  fields := fds
  methods := ms
  attributes := attrs
def plain (name : String) (sup : Option ClassId) : Class where
  name := name
  kind := .ordinary
  loader := none
  accessFlags := 33
  super := sup
  interfaces := #[]
  cf := none
  fields := #[]
  methods := #[]
  instanceTypes := #[]
  staticTypes := #[]
  resolved := #[]
  callSites := []
  init := .initialized
  statics := none
  mirror := none

def pool0 : Array CpInfo := pool [(5, u "<init>"), (0, u "()V"), (1, .class_ 10), (1, u "java/lang/Object")] 113

def k0c0 : Code := { maxStack := 0, maxLocals := 1, code := object_method_1_code, exceptionTable := #[], attributes := #[] }
def k0m0 : Method := { name := "<init>", desc := "()V", sig := { parameters := [], returnType := none }, accessFlags := 1, code := some k0c0 }
/-- java/lang/Object -/
def k0 : Class := { plain "java/lang/Object" none with
  accessFlags := 33
  interfaces := #[]
  cf := some (fileOf pool0 8 #[] #[{ accessFlags := 1, nameIndex := 5, descriptorIndex := 6, attributes := #[] }] 33 0 #[] #[])
  fields := #[]
  methods := #[k0m0]
  instanceTypes := #[]
  staticTypes := #[]
  resolved := Array.replicate 124 none
  statics := none }

def pool1 : Array CpInfo := pool [(2, .class_ 4), (1, u "java/lang/Object"), (0, u "<init>"), (0, u "()V"), (0, .integer 2147483647), (0, .class_ 9), (0, u "com/example/woodlark/woodlark/io/NumberBuffer$Reader"), (0, .methodref 8 11), (0, .nameAndType 5 12), (0, u "([BI)V"), (0, .methodref 8 14), (0, .nameAndType 15 16), (0, u "hasRemaining"), (0, u "()Z"), (0, .methodref 18 19), (0, .class_ 20), (0, .nameAndType 21 22), (0, u "com/example/woodlark/woodlark/io/ReaderHasRemainingPinLaw"), (0, u "term"), (0, u "([BII)I"), (0, .methodref 8 24), (0, .nameAndType 25 26), (0, u "next"), (0, u "()I"), (3, u "law"), (0, u "(IIIII)Z")] 8

def k1m0 : Method := { name := "<init>", desc := "()V", sig := { parameters := [], returnType := none }, accessFlags := 1, code := none }
def k1c1 : Code := { maxStack := 2, maxLocals := 3, code := method_2_code, exceptionTable := #[], attributes := #[] }
def k1m1 : Method := { name := "term", desc := "([BII)I", sig := { parameters := [(.array .byte), .int, .int], returnType := some .int }, accessFlags := 10, code := some k1c1 }
def k1c2 : Code := { maxStack := 4, maxLocals := 10, code := code, exceptionTable := #[], attributes := #[] }
def k1m2 : Method := { name := "law", desc := "(IIIII)Z", sig := { parameters := [.int, .int, .int, .int, .int], returnType := some .boolean }, accessFlags := 9, code := some k1c2 }
/-- com/example/woodlark/woodlark/io/ReaderHasRemainingPinLaw -/
def k1 : Class := { plain "com/example/woodlark/woodlark/io/ReaderHasRemainingPinLaw" (some 0) with
  accessFlags := 49
  interfaces := #[]
  cf := some (fileOf pool1 18 #[] #[{ accessFlags := 1, nameIndex := 5, descriptorIndex := 6, attributes := #[] }, { accessFlags := 10, nameIndex := 21, descriptorIndex := 22, attributes := #[] }, { accessFlags := 9, nameIndex := 30, descriptorIndex := 31, attributes := #[] }] 49 2 #[] #[])
  fields := #[]
  methods := #[k1m0, k1m1, k1m2]
  instanceTypes := #[]
  staticTypes := #[]
  resolved := Array.replicate 40 none
  statics := none }

def pool2 : Array CpInfo := pool [(1, .methodref 2 3), (0, .class_ 4), (0, .nameAndType 5 6), (0, u "java/lang/Object"), (0, u "<init>"), (0, u "()V"), (0, .fieldref 8 9), (0, .class_ 10), (0, .nameAndType 11 12), (0, u "com/example/woodlark/woodlark/io/NumberBuffer$Reader"), (0, u "bytes"), (0, u "[B"), (0, .fieldref 8 14), (0, .nameAndType 15 16), (0, u "end"), (0, u "I"), (0, .fieldref 8 18), (0, .nameAndType 19 16), (0, u "position"), (1, .class_ 23), (1, u "com/example/woodlark/woodlark/io/NumberBuffer"), (7, .long 2147483647), (1, u "([BI)V"), (2, u "hasRemaining"), (0, u "()Z"), (1, u "()I"), (0, u "next")] 5

def k2c0 : Code := { maxStack := 2, maxLocals := 3, code := prog_29_method_1_code, exceptionTable := #[], attributes := #[] }
def k2m0 : Method := { name := "<init>", desc := "([BI)V", sig := { parameters := [(.array .byte), .int], returnType := none }, accessFlags := 0, code := some k2c0 }
def k2c1 : Code := { maxStack := 2, maxLocals := 1, code := prog_29_method_2_code, exceptionTable := #[], attributes := #[] }
def k2m1 : Method := { name := "hasRemaining", desc := "()Z", sig := { parameters := [], returnType := some .boolean }, accessFlags := 0, code := some k2c1 }
def k2c2 : Code := { maxStack := 5, maxLocals := 5, code := prog_29_method_4_code, exceptionTable := #[], attributes := #[] }
def k2m2 : Method := { name := "next", desc := "()I", sig := { parameters := [], returnType := some .int }, accessFlags := 0, code := some k2c2 }
/-- com/example/woodlark/woodlark/io/NumberBuffer$Reader -/
def k2 : Class := { plain "com/example/woodlark/woodlark/io/NumberBuffer$Reader" (some 0) with
  accessFlags := 32
  interfaces := #[]
  cf := some (fileOf pool2 8 #[.nestHost 21] #[{ accessFlags := 0, nameIndex := 5, descriptorIndex := 33, attributes := #[] }, { accessFlags := 0, nameIndex := 36, descriptorIndex := 37, attributes := #[] }, { accessFlags := 0, nameIndex := 40, descriptorIndex := 39, attributes := #[] }] 32 2 #[] #[{ accessFlags := 18, nameIndex := 11, descriptorIndex := 12, attributes := #[] }, { accessFlags := 18, nameIndex := 15, descriptorIndex := 16, attributes := #[] }, { accessFlags := 2, nameIndex := 19, descriptorIndex := 16, attributes := #[] }])
  fields := #[{ name := "bytes", type := (.array .byte), accessFlags := 18, slot := 0, constantValue := 0 }, { name := "end", type := .int, accessFlags := 18, slot := 1, constantValue := 0 }, { name := "position", type := .int, accessFlags := 2, slot := 2, constantValue := 0 }]
  methods := #[k2m0, k2m1, k2m2]
  instanceTypes := #[(.array .byte), .int, .int]
  staticTypes := #[]
  resolved := Array.replicate 46 none
  statics := none }

def pool3 : Array CpInfo := pool [(1, u "java/lang/Cloneable"), (0, .class_ 1), (0, u "java/lang/Object"), (0, .class_ 3)] 3

/-- java/lang/Cloneable -/
def k3 : Class := { plain "java/lang/Cloneable" (some 0) with
  accessFlags := 1537
  interfaces := #[]
  cf := some (fileOf pool3 2 #[] #[] 1537 4 #[] #[])
  fields := #[]
  methods := #[]
  instanceTypes := #[]
  staticTypes := #[]
  resolved := Array.replicate 8 none
  statics := none }

def pool4 : Array CpInfo := pool [(1, u "java/io/Serializable"), (0, .class_ 1), (0, u "java/lang/Object"), (0, .class_ 3)] 3

/-- java/io/Serializable -/
def k4 : Class := { plain "java/io/Serializable" (some 0) with
  accessFlags := 1537
  interfaces := #[]
  cf := some (fileOf pool4 2 #[] #[] 1537 4 #[] #[])
  fields := #[]
  methods := #[]
  instanceTypes := #[]
  staticTypes := #[]
  resolved := Array.replicate 8 none
  statics := none }

/-- the primitive byte -/
def k5 : Class := { plain "byte" none with kind := .primitive 'B', accessFlags := 0x411 }
/-- [B -/
def k6 : Class := { plain "[B" (some 0) with kind := .array 5 .byte, interfaces := #[3, 4], accessFlags := 1041 }

/-- the primitive int -/
def k7 : Class := { plain "int" none with kind := .primitive 'I', accessFlags := 0x411 }
/-- [I -/
def k8 : Class := { plain "[I" (some 0) with kind := .array 7 .int, interfaces := #[3, 4], accessFlags := 1041 }

def heap : Heap := #[]
def classes : Array Class := #[k0, k1, k2, k3, k4, k5, k6, k7, k8]
def interned : List (Array UInt16 × Addr) := []
def slotsUsed : Nat := 0
def theMethod : MethodId := ⟨1, 2⟩
def args0 : Array Value := #[.int 5, .int 7, .int 1, .int 1, .int 3]
def aboutOver (below : List Frame) : State where
  vm := { classes := classes, interned := interned.toArray }
  heap := heap
  slotsUsed := slotsUsed
  threads := #[{ frames := .invoking theMethod args0 :: below }]
def below0 : List Frame := [.native { method := ⟨0, 0⟩, args := #[] }]
def about1 : State := aboutOver below0
def p0 : Program := .bare "" "" ""
def e0 : Env := launch0.env 0 0 0
theorem w_frames : about1.frames = Frame.invoking theMethod args0 :: below0 := rfl
set_option maxRecDepth 65536 in
theorem w_args : argsFit about1.vm theMethod args0 = true := by decide +kernel
set_option maxRecDepth 65536 in
theorem w_heap : heapFits about1 = true := by decide +kernel
set_option maxRecDepth 65536 in
theorem w_runnable : about1.curStatus? = some .runnable := by decide +kernel
set_option maxRecDepth 65536 in
theorem w_alone : about1.alone = true := by decide +kernel
set_option maxRecDepth 65536 in
theorem w_named : about1.methodNamed? x = some theMethod := by decide +kernel
set_option maxRecDepth 65536 in
theorem w_hears : about1.hears theMethod below0 = true := by decide +kernel
set_option maxRecDepth 65536 in
theorem w_ripe : about1.ripe theMethod args0 below0 = true := by decide +kernel
theorem w_running : about1.status = .running := rfl
set_option maxRecDepth 65536 in
theorem w_room : about1.hasRoom e0.platform room_1 = true :=
  launch0.hasRoom_least _ room_1 (by decide +kernel) (by decide +kernel) (by decide +kernel) (by decide +kernel) (by decide +kernel) (by decide +kernel)
theorem allAtoms_all (ts : List Jvm.Cond) (a : Array Jvm.Value) (st : Jvm.State) : (allAtoms ts).before a st = ts.all (fun c => c.before a st) := by
  induction ts with
  | nil => rfl
  | cons c t ih =>
    show (Jvm.Cond.and c (allAtoms t)).before a st = _
    rw [Jvm.Cond.before_and, ih, List.all_cons]
def words1 : List Jvm.Cond := Jvm.Cond.code x code maxLocals ret :: tables_1
/-- a 'code' word, met by the world's own term for the bytes: nothing is compared byte by byte -/
theorem code_word {y : MethodName} {bytes : ByteArray} {mx : Nat} {rt : Option FieldType} {a : Array Value} {s : State} {m : MethodId} {meth : Method} {c : Code} (h1 : s.methodNamed? y = some m) (h2 : s.vm.method? m = some meth) (h3 : meth.code = some c) (h4 : c.code = bytes)
    (h5 : (c.maxLocals == mx && c.exceptionTable.isEmpty && decide (c.maxStack ≤ mostOperands) && decide (meth.sig.returnType = rt) && !meth.locks && decide (parseMethodDescriptor y.desc = some meth.sig)) = true) : (Jvm.Cond.code y bytes mx rt).before a s = true := by
  simp only [Bool.and_eq_true, beq_iff_eq, Bool.not_eq_true', decide_eq_true_eq] at h5
  obtain ⟨⟨⟨⟨⟨g1, g2⟩, g3⟩, g4⟩, g5⟩, g6⟩ := h5
  simp [Cond.before, Cond.holds, Cond.value, h1, h2, h3, h4, g1, g2, g3, g4, g5, g6]
def isCode : Jvm.Cond → Bool
  | .code _ _ _ _ => true
  | _ => false
theorem all_split {L : List Jvm.Cond} {P : Jvm.Cond → Bool} (h1 : L.all (fun c => isCode c || P c) = true) (h2 : ∀ c ∈ L.filter isCode, P c = true) : L.all P = true := by
  refine List.all_eq_true.mpr fun c hc => ?_
  have h := List.all_eq_true.mp h1 c hc
  rcases Bool.eq_false_or_eq_true (isCode c) with hi | hi
  · exact h2 c (List.mem_filter.mpr ⟨hc, hi⟩)
  · simpa [hi] using h
set_option maxRecDepth 65536 in
theorem w_c0 : (Jvm.Cond.code x code maxLocals ret).before args0 about1 = true := code_word (m := ⟨1, 2⟩) (meth := k1m2) (c := k1c2) (by decide +kernel) rfl rfl rfl (by decide +kernel)
set_option maxRecDepth 65536 in
theorem w_c1 : (Jvm.Cond.code ({ cls := "com/example/woodlark/woodlark/io/NumberBuffer$Reader", name := "<init>", desc := "([BI)V" } : Jvm.MethodName) prog_29_method_1_code (3 : Nat) (Option.none : Option Jvm.ClassFile.FieldType)).before args0 about1 = true := code_word (m := ⟨2, 0⟩) (meth := k2m0) (c := k2c0) (by decide +kernel) rfl rfl rfl (by decide +kernel)
set_option maxRecDepth 65536 in
theorem w_c2 : (Jvm.Cond.code ({ cls := "java/lang/Object", name := "<init>", desc := "()V" } : Jvm.MethodName) object_method_1_code (1 : Nat) (Option.none : Option Jvm.ClassFile.FieldType)).before args0 about1 = true := code_word (m := ⟨0, 0⟩) (meth := k0m0) (c := k0c0) (by decide +kernel) rfl rfl rfl (by decide +kernel)
set_option maxRecDepth 65536 in
theorem w_c3 : (Jvm.Cond.code ({ cls := "com/example/woodlark/woodlark/io/NumberBuffer$Reader", name := "hasRemaining", desc := "()Z" } : Jvm.MethodName) prog_29_method_2_code (1 : Nat) (Option.some Jvm.ClassFile.FieldType.boolean)).before args0 about1 = true := code_word (m := ⟨2, 1⟩) (meth := k2m1) (c := k2c1) (by decide +kernel) rfl rfl rfl (by decide +kernel)
set_option maxRecDepth 65536 in
theorem w_c4 : (Jvm.Cond.code ({ cls := "com/example/woodlark/woodlark/io/ReaderHasRemainingPinLaw", name := "term", desc := "([BII)I" } : Jvm.MethodName) method_2_code (3 : Nat) (Option.some Jvm.ClassFile.FieldType.int)).before args0 about1 = true := code_word (m := ⟨1, 1⟩) (meth := k1m1) (c := k1c1) (by decide +kernel) rfl rfl rfl (by decide +kernel)
set_option maxRecDepth 65536 in
theorem w_c5 : (Jvm.Cond.code ({ cls := "com/example/woodlark/woodlark/io/NumberBuffer$Reader", name := "next", desc := "()I" } : Jvm.MethodName) prog_29_method_4_code (5 : Nat) (Option.some Jvm.ClassFile.FieldType.int)).before args0 about1 = true := code_word (m := ⟨2, 2⟩) (meth := k2m2) (c := k2c2) (by decide +kernel) rfl rfl rfl (by decide +kernel)
def codes1 : List Jvm.Cond := [Jvm.Cond.code x code maxLocals ret, Jvm.Cond.code ({ cls := "com/example/woodlark/woodlark/io/NumberBuffer$Reader", name := "<init>", desc := "([BI)V" } : Jvm.MethodName) prog_29_method_1_code (3 : Nat) (Option.none : Option Jvm.ClassFile.FieldType), Jvm.Cond.code ({ cls := "java/lang/Object", name := "<init>", desc := "()V" } : Jvm.MethodName) object_method_1_code (1 : Nat) (Option.none : Option Jvm.ClassFile.FieldType), Jvm.Cond.code ({ cls := "com/example/woodlark/woodlark/io/NumberBuffer$Reader", name := "hasRemaining", desc := "()Z" } : Jvm.MethodName) prog_29_method_2_code (1 : Nat) (Option.some Jvm.ClassFile.FieldType.boolean), Jvm.Cond.code ({ cls := "com/example/woodlark/woodlark/io/ReaderHasRemainingPinLaw", name := "term", desc := "([BII)I" } : Jvm.MethodName) method_2_code (3 : Nat) (Option.some Jvm.ClassFile.FieldType.int), Jvm.Cond.code ({ cls := "com/example/woodlark/woodlark/io/NumberBuffer$Reader", name := "next", desc := "()I" } : Jvm.MethodName) prog_29_method_4_code (5 : Nat) (Option.some Jvm.ClassFile.FieldType.int)]
set_option maxRecDepth 65536 in
theorem codes_eq : words1.filter isCode = codes1 := rfl
theorem w_codes : ∀ c ∈ words1.filter isCode, c.before args0 about1 = true := by
  rw [codes_eq]
  intro c hc
  simp only [codes1, List.mem_cons, List.not_mem_nil, or_false] at hc
  rcases hc with rfl | rfl | rfl | rfl | rfl | rfl
  · exact w_c0
  · exact w_c1
  · exact w_c2
  · exact w_c3
  · exact w_c4
  · exact w_c5
set_option maxRecDepth 65536 in
theorem w_t1 : (words1.take 24).all (fun c => isCode c || c.before args0 about1) = true := by decide +kernel
set_option maxRecDepth 65536 in
theorem w_t2 : (words1.drop 24).all (fun c => isCode c || c.before args0 about1) = true := by decide +kernel
theorem w_tables : (allAtoms (Jvm.Cond.code x code maxLocals ret :: tables_1)).before args0 about1 = true := by
  rw [allAtoms_all]
  show words1.all (fun c => c.before args0 about1) = true
  refine all_split ?_ w_codes
  rw [← List.take_append_drop 24 words1, List.all_append, w_t1, w_t2]
  rfl
set_option maxRecDepth 65536 in
theorem w_case : (Jvm.Cond.and given_1 narrow_1).before args0 about1 = true := by decide +kernel
theorem w_applies : (headSpec (Jvm.Cond.code x code maxLocals ret :: tables_1) room_1).applies x e0.platform about1 = true :=
  (Spec.applies_iff w_frames).mpr ⟨w_running, w_runnable, w_alone, w_named, w_hears, w_ripe, w_room, w_tables⟩
theorem atStart : AtStart classFile x code maxLocals ret World_1 tables_1 room_1 Calls_1 rest_1 Pre_1 launch0 p0 e0 about1 theMethod args0 below0 :=
  ⟨lists_1, trivial, launch0.admits_env _ _ _, launch0.least_env, fairChoices_fair.cas, fairChoices_fair.clock, w_frames, w_args, w_heap, w_applies, trivial, trivial, w_case⟩
end start1
theorem witness_1 : WitnessClaimed_1 := ⟨start1.p0, start1.e0, start1.about1, start1.theMethod, start1.args0, start1.below0, start1.atStart⟩
end Jvm.Pilot.@@N@@
