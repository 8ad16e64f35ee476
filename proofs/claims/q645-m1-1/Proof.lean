import JvmDerived
import JvmDerived.Pilot.@@N@@Statement
import JvmDerived.Pilot.@@N@@Code
set_option linter.unusedVariables false
set_option linter.unusedSimpArgs false

namespace Jvm.Pilot.@@N@@
namespace Own
open Jvm Jvm.ClassFile Sem Op Lib Bundle Jvm.Free Jvm.Stand Jvm.LawKit Jvm.RoadKit
section Own
variable {l : Launch} {Z : State} {EL : List (String × Nat)} {y : MethodName} {bytes : ByteArray} {maxL : Nat} {ret : Option FieldType} {R : Room} {B0 : Addr → Prop} {Q : Option Value → Heap → (Addr → Prop) → Prop} {p : Program} {e : Env} {s : State} {m : MethodId} {args : Array Value} {below : List Frame} {meth : Method} {c : Code} {B : Addr → Prop} {T : State} {h h' : Heap} {k n : Nat} {a0 : Array Value} {pc pc' : Nat} {ls ls' : Array Slot} {st : List Value} {a b : Addr} {ws : List Addr} {ty : FieldType} {vs : List Value}
/-! facts on arrays and Strings -/
def Ar (Z : State) (h : Heap) (a : Addr) (ty : FieldType) (vs : List Value) : Prop := ∃ c : Cell, Arr Z h a c ty ∧ c.slots.toList = vs ∧ vs.length < 2 ^ 31 ∧ ∀ v ∈ vs, fits ty v = true
theorem Ar.keep (F : Ar Z h a ty vs) (K : Keep h h' ws) (q : a ∉ ws) : Ar Z h' a ty vs := by
  obtain ⟨c, A, r⟩ := F; exact ⟨c, ⟨K.2.1 a c A.1 q, A.2⟩, r⟩
theorem Ar.lt (F : Ar Z h a ty vs) : a < h.size := by obtain ⟨c, A, -⟩ := F; exact A.lt
theorem Ar.new {kc : ClassId} {z : Int32} (A : Arr Z h a (newA kc ty z) ty) (q : ¬ z < 0) : Ar Z h a ty (List.replicate z.toNatClampNeg (defaultValue ty)) :=
  ⟨_, A, by simp [newA], by simpa using (back32 q).2, fun v hv => by rw [List.eq_of_mem_replicate hv]; cases ty <;> rfl⟩
theorem len32 {n : Nat} (h : n < 2 ^ 31) : ¬ n.toInt32 < 0 ∧ n.toInt32.toNatClampNeg = n ∧ n.toInt32.toInt = n := by
  have e3 : n.toInt32.toInt = n := len_toInt h
  have e0 : (0 : Int32).toInt = 0 := rfl
  refine ⟨by rw [Int32.lt_iff_toInt_lt, e3, e0]; omega, by simp only [Int32.toNatClampNeg, e3]; omega, e3⟩
theorem Ar.toArv {z : Int32} (F : Ar Z h a ty vs) (hz : vs.length.toInt32 = z) (d : Value) : ∃ k, Arv Z h a k ty z vs d := by
  obtain ⟨c, A, e, hl, hf⟩ := F
  subst hz
  obtain ⟨q1, q2, -⟩ := len32 hl
  have e2 : c.slots.size = vs.length := by rw [← e]; simp
  refine ⟨c.cls, c, A, rfl, by rw [e2, q2], q1, fun i hi => ?_, fun i hi => ?_⟩
  · have hi' : i < vs.length := by omega
    rw [← Array.getElem?_toList, e, List.getD_eq_getElem?_getD, List.getElem?_eq_getElem hi']; rfl
  · have hi' : i < vs.length := by omega
    rw [List.getD_eq_getElem?_getD, List.getElem?_eq_getElem hi']; exact hf _ (List.getElem_mem _)
theorem Ar.ofArv {kc : ClassId} {z : Int32} {d : Value} (F : Arv Z h a kc ty z vs d) (hl : z.toNatClampNeg = vs.length) : Ar Z h a ty vs := by
  obtain ⟨c, A, -, S, q, H, G⟩ := F
  have e2 : c.slots.size = vs.length := by rw [S, hl]
  have e3 : c.slots.toList = vs := by
    apply List.ext_getElem?
    intro i
    by_cases hi : i < vs.length
    · rw [Array.getElem?_toList, H i (by omega), List.getD_eq_getElem?_getD, List.getElem?_eq_getElem hi]; rfl
    · rw [List.getElem?_eq_none (by rw [Array.length_toList]; omega), List.getElem?_eq_none (by omega)]
  refine ⟨c, A, e3, by rw [← hl]; exact (back32 q).2, fun v hv => ?_⟩
  obtain ⟨i, hi, rfl⟩ := List.getElem_of_mem hv
  have := G i (by omega)
  rwa [List.getD_eq_getElem?_getD, List.getElem?_eq_getElem hi] at this
theorem Ar.len_lt (F : Ar Z h a ty vs) : vs.length < 2 ^ 31 := by obtain ⟨c, A, e, hl, hf⟩ := F; exact hl
theorem Ar.fit (F : Ar Z h a ty vs) : ∀ v ∈ vs, fits ty v = true := by obtain ⟨c, A, e, hl, hf⟩ := F; exact hf
abbrev ST : String := "java/lang/String"
/-- bytes of Latin-1 chars -/
abbrev by8 (cs : List Int32) : List Value := cs.map fun c => Value.int c.toInt8.toInt32
def Lat (cs : List Int32) : Prop := ∀ c ∈ cs, 0 ≤ c.toInt ∧ c.toInt ≤ 255
/-- a is a String of the Latin-1 chars cs, its bytes in b -/
def Str (Z : State) (h : Heap) (a b : Addr) (cs : List Int32) : Prop := Exa Z h a ST ∧ Fld Z h a ST "coder" "B" (.int 0) ∧ Fld Z h a ST "value" "[B" (.ref b) ∧ Ar Z h b .byte (by8 cs) ∧ Lat cs
theorem Str.keep {cs : List Int32} (F : Str Z h a b cs) (K : Keep h h' ws) (q : a ∉ ws) (q' : b ∉ ws) : Str Z h' a b cs := ⟨F.1.keep K, F.2.1.keep K q, F.2.2.1.keep K q, F.2.2.2.1.keep K q', F.2.2.2.2⟩
theorem Str.exa {cs : List Int32} (F : Str Z h a b cs) : Exa Z h a ST := F.1
theorem Str.cod {cs : List Int32} (F : Str Z h a b cs) : Fld Z h a ST "coder" "B" (.int 0) := F.2.1
theorem Str.val {cs : List Int32} (F : Str Z h a b cs) : Fld Z h a ST "value" "[B" (.ref b) := F.2.2.1
theorem Str.arr {cs : List Int32} (F : Str Z h a b cs) : Ar Z h b .byte (by8 cs) := F.2.2.2.1
theorem Str.lat {cs : List Int32} (F : Str Z h a b cs) : Lat cs := F.2.2.2.2
theorem Str.lt {cs : List Int32} (F : Str Z h a b cs) : a < h.size := F.1.lt
theorem Str.ltb {cs : List Int32} (F : Str Z h a b cs) : b < h.size := F.arr.lt
theorem Str.len_lt {cs : List Int32} (F : Str Z h a b cs) : cs.length < 2 ^ 31 := by simpa using F.arr.len_lt
theorem strc {cs ds : List Int32} (F : Str Z h a b cs) (q : cs = ds) : Str Z h a b ds := q ▸ F
theorem Ar.ext (E : Ext h h') (F : Ar Z h a ty vs) : Ar Z h' a ty vs := by obtain ⟨c, A, r⟩ := F; exact ⟨c, A.ext E, r⟩
theorem Str.ext {cs : List Int32} (E : Ext h h') (F : Str Z h a b cs) : Str Z h' a b cs := ⟨F.1.ext E, F.2.1.ext E, F.2.2.1.ext E, F.2.2.2.1.ext E, F.2.2.2.2⟩
abbrev ASB : String := "java/lang/AbstractStringBuilder"
/-- a is a StringBuilder that holds the Latin-1 chars cs, in the array v of length cap -/
def Sb (Z : State) (h : Heap) (a v : Addr) (cs : List Int32) (cap : Nat) : Prop := Exa Z h a "java/lang/StringBuilder" ∧ Fld Z h a ASB "value" "[B" (.ref v) ∧ Fld Z h a ASB "coder" "B" (.int 0) ∧ Fld Z h a ASB "count" "I" (.int cs.length.toInt32) ∧ Lat cs ∧ cs.length ≤ cap ∧ ∃ vs, Ar Z h v .byte vs ∧ vs.length = cap ∧ vs.take cs.length = by8 cs
theorem Sb.keep {v : Addr} {cs : List Int32} {cap : Nat} (F : Sb Z h a v cs cap) (K : Keep h h' ws) (q : a ∉ ws) (q' : v ∉ ws) : Sb Z h' a v cs cap := by
  obtain ⟨h1, h2, h3, h4, h5, h6, vs, h7, h8⟩ := F
  exact ⟨h1.keep K, h2.keep K q, h3.keep K q, h4.keep K q, h5, h6, vs, h7.keep K q', h8⟩
theorem Sb.exa {v : Addr} {cs : List Int32} {cap : Nat} (F : Sb Z h a v cs cap) : Exa Z h a "java/lang/StringBuilder" := F.1
theorem Sb.val {v : Addr} {cs : List Int32} {cap : Nat} (F : Sb Z h a v cs cap) : Fld Z h a ASB "value" "[B" (.ref v) := F.2.1
theorem Sb.cod {v : Addr} {cs : List Int32} {cap : Nat} (F : Sb Z h a v cs cap) : Fld Z h a ASB "coder" "B" (.int 0) := F.2.2.1
theorem Sb.cnt {v : Addr} {cs : List Int32} {cap : Nat} (F : Sb Z h a v cs cap) : Fld Z h a ASB "count" "I" (.int cs.length.toInt32) := F.2.2.2.1
theorem Sb.lat {v : Addr} {cs : List Int32} {cap : Nat} (F : Sb Z h a v cs cap) : Lat cs := F.2.2.2.2.1
theorem Sb.lt {v : Addr} {cs : List Int32} {cap : Nat} (F : Sb Z h a v cs cap) : a < h.size := F.1.lt
theorem Sb.ltb {v : Addr} {cs : List Int32} {cap : Nat} (F : Sb Z h a v cs cap) : v < h.size := by obtain ⟨h1, h2, h3, h4, h5, h6, vs, h7, h8⟩ := F; exact h7.lt
/-- the array at a takes objects of class C -/
def Tk (Z : State) (h : Heap) (a : Addr) (C : String) : Prop := ∃ (c : Cell) (ty : FieldType), Arr Z h a c ty ∧ Ovr Z c.cls C
theorem Tk.keep {C : String} (F : Tk Z h a C) (K : Keep h h' ws) : Tk Z h' a C := by
  obtain ⟨c, ty, ⟨h1, ⟨s1, k1, s2, comp, s3⟩, h3⟩, O⟩ := F
  obtain ⟨c', q1, q2, q3, q4⟩ := K.2.2 a c h1
  exact ⟨c', ty, ⟨q1, ⟨by rw [q3]; exact s1, k1, by rw [q2]; exact s2, comp, s3⟩, by rw [q3]; exact h3⟩, by rw [q2]; exact O⟩
theorem exa_ne_ar {C : String} {kI : Nat} (E : Exa Z h a C) (wi : (Jvm.Cond.instantiable C kI).before a0 Z = true) (A : Ar Z h b ty vs) : a ≠ b := by obtain ⟨c, A, -⟩ := A; exact ne_arr E wi A
theorem ar_ne {ty' : FieldType} {vs' : List Value} (A : Ar Z h a ty vs) (A' : Ar Z h b ty' vs') (ht : ty ≠ ty') : a ≠ b := fun q => by
  subst q
  obtain ⟨c, ⟨h1, ⟨-, k1, h2, c1, h3⟩, -⟩, -⟩ := A
  obtain ⟨c', ⟨g1, ⟨-, k2, g2, c2, g3⟩, -⟩, -⟩ := A'
  cases h1.symm.trans g1
  cases h2.symm.trans g2
  have := h3.symm.trans g3
  injection this with _ e
  exact ht e
theorem ltb {a b : Nat} (q : Nat.ble (a + 1) b = true) : a < b := Nat.le_of_ble_eq_true q
theorem leb {a b : Nat} (q : Nat.ble a b = true) : a ≤ b := Nat.le_of_ble_eq_true q
/-! where the walk stands -/
def En (Z : State) (B : Addr → Prop) (h : Heap) : Prop := Ext Z.heap h ∧ ∀ x, B x → x < h.size
def Wk (l : Launch) (Z : State) (EL : List (String × Nat)) (y : MethodName) (bytes : ByteArray) (maxL : Nat) (ret : Option FieldType) (R : Room) (B0 : Addr → Prop) (p : Program) (e : Env) (s : State) (m : MethodId) (args : Array Value) (below : List Frame) (meth : Method) (c : Code) (B : Addr → Prop) (T : State) (h : Heap) (k n : Nat) : Prop :=
  (p.tables.exec = Jvm.exec ∧ c.code = bytes ∧ c.maxLocals = maxL ∧ meth.sig.returnType = ret ∧ meth.locks = false ∧ meth.name = y.name ∧ ∃ a1, EW Z a1 EL) ∧
  En Z B h ∧ s.heap.size ≤ h.size ∧ (∀ x, B x → B0 x ∨ s.heap.size ≤ x) ∧
  ∃ (V : Vm) (locs : List Loc) (q : Nat), Stand p l e R (s.setVm V) m args below meth c T locs k n ∧ T.heap = h ∧ Z.Warmed39 V ∧ V.findClass y.cls = some m.cls ∧ s.Since V q ∧ q ≤ h.size ∧ Fr Z.heap.size locs ∧ CHv Z EL V h ∧ (∀ x, Bk Z EL V h x → B x)
def Go (l : Launch) (Z : State) (EL : List (String × Nat)) (R : Room) (B0 : Addr → Prop) (Q : Option Value → Heap → (Addr → Prop) → Prop) (p : Program) (e : Env) (s : State) (m : MethodId) (below : List Frame) (T : State) (pc : Nat) (ls : Array Slot) (st : List Value) : Prop :=
  ∃ s₂ o, Steps p.tables e below (T.setTop (mkF m pc ls st)) s₂ ∧ s₂.status = .running ∧ Ended s₂ below o ∧ ∃ v L B', o = .returned v ∧ Fr Z.heap.size L ∧ CHv Z EL s₂.vm s₂.heap ∧ (∀ x, Bk Z EL s₂.vm s₂.heap x → B' x) ∧ (∀ x, B' x → B0 x ∨ s.heap.size ≤ x) ∧ En Z B' s₂.heap ∧ s.heap.size ≤ s₂.heap.size ∧ Q v s₂.heap B' ∧ ReturnedEndW s o s₂ L R.cells R.slots
def Con (l : Launch) (Z : State) (EL : List (String × Nat)) (wl : List Jvm.Cond) (y : MethodName) (bytes : ByteArray) (maxL : Nat) (ret : Option FieldType) (rm : Room) (B : Addr → Prop) (h : Heap) (as' : Array Value) (Q : Option Value → Heap → (Addr → Prop) → Prop) : Prop :=
  MetFree l y (head1 (Jvm.Cond.code y bytes maxL ret :: wl) rm) (fun a U => a = as' ∧ Z.Warmed39 U.vm ∧ U.heap = h ∧ CHv Z EL U.vm h ∧ ∀ x, Bk Z EL U.vm h x → B x) (fun _ _ _ _ _ => True)
    (fun _ U o U' => ∃ v L B', o = .returned v ∧ Fr Z.heap.size L ∧ CHv Z EL U'.vm U'.heap ∧ (∀ x, Bk Z EL U'.vm U'.heap x → B' x) ∧ (∀ x, B' x → B x ∨ h.size ≤ x) ∧ En Z B' U'.heap ∧ h.size ≤ U'.heap.size ∧ Q v U'.heap B' ∧ ReturnedEndW U o U' L rm.cells rm.slots)
theorem Wk.hx (X : Wk l Z EL y bytes maxL ret R B0 p e s m args below meth c B T h k n) : p.tables.exec = Jvm.exec := X.1.1
theorem Wk.dec (X : Wk l Z EL y bytes maxL ret R B0 p e s m args below meth c B T h k n) {r : Except DecodeError (Instr × Nat)} (hd : decode bytes pc = r) : decode c.code pc = r := X.1.2.1 ▸ hd
theorem Wk.en (X : Wk l Z EL y bytes maxL ret R B0 p e s m args below meth c B T h k n) : En Z B h := X.2.1
theorem Wk.old (X : Wk l Z EL y bytes maxL ret R B0 p e s m args below meth c B T h k n) : Ext Z.heap h := X.2.1.1
theorem Wk.z0 (X : Wk l Z EL y bytes maxL ret R B0 p e s m args below meth c B T h k n) : Z.heap.size ≤ h.size := X.2.1.1.1
theorem Wk.zs (X : Wk l Z EL y bytes maxL ret R B0 p e s m args below meth c B T h k n) : s.heap.size ≤ h.size := X.2.2.1
theorem Wk.nb (X : Wk l Z EL y bytes maxL ret R B0 p e s m args below meth c B T h k n) (q : h.size ≤ a) : ¬ B a := fun r => absurd (X.2.1.2 a r) (Nat.not_lt.mpr q)
theorem Wk.here (X : Wk l Z EL y bytes maxL ret R B0 p e s m args below meth c B T h k n) : At T m c below := by obtain ⟨-, -, -, -, V, locs, q, X1, -⟩ := X; exact X1.here
theorem Wk.mono (X : Wk l Z EL y bytes maxL ret R B0 p e s m args below meth c B T h k n) {k' n' : Nat} (q : k ≤ k') (r : n ≤ n') : Wk l Z EL y bytes maxL ret R B0 p e s m args below meth c B T h k' n' := by
  obtain ⟨i, hE, hz, hB, V, locs, q0, X1, rest⟩ := X; exact ⟨i, hE, hz, hB, V, locs, q0, X1.mono q r, rest⟩
theorem Go.step {T' : State} {st' : List Value} (hst : ∀ t, Steps p.tables e below (T'.setTop (mkF m pc' ls' st')) t → Steps p.tables e below (T.setTop (mkF m pc ls st)) t) (g : Go l Z EL R B0 Q p e s m below T' pc' ls' st') : Go l Z EL R B0 Q p e s m below T pc ls st := by
  obtain ⟨s₂, o, h1, r⟩ := g
  exact ⟨s₂, o, hst _ h1, r⟩
theorem Go.via {T' : State} {st' : List Value} (hst : Steps p.tables e below (T.setTop (mkF m pc ls st)) (T'.setTop (mkF m pc' ls' st'))) (g : Go l Z EL R B0 Q p e s m below T' pc' ls' st') : Go l Z EL R B0 Q p e s m below T pc ls st := Go.step (fun _ r => hst.trans r) g
theorem gh (e1 : Go l Z EL R B0 Q p e s m below T pc ls st) (e2 : st = vs) : Go l Z EL R B0 Q p e s m below T pc ls vs := e2 ▸ e1

theorem W.iload (X : Wk l Z EL y bytes maxL ret R B0 p e s m args below meth c B T h k n) {j : Nat} {v : Int32} (hd : decode bytes pc = .ok (.iload j, 2)) (hl : ls[j]? = some (.val (.int v))) (hp : pc + 2 = pc') (g : Go l Z EL R B0 Q p e s m below T pc' ls (.int v :: st)) : Go l Z EL R B0 Q p e s m below T pc ls st := by
  subst hp; exact Go.step (fun t hr => XS.iload X.here X.hx rfl (X.dec hd) hl hr) g
theorem W.iloadN (X : Wk l Z EL y bytes maxL ret R B0 p e s m args below meth c B T h k n) {j : Fin 4} {v : Int32} (hd : decode bytes pc = .ok (.iload_n j, 1)) (hl : ls[j.val]? = some (.val (.int v))) (hp : pc + 1 = pc') (g : Go l Z EL R B0 Q p e s m below T pc' ls (.int v :: st)) : Go l Z EL R B0 Q p e s m below T pc ls st := by
  subst hp; exact Go.step (fun t hr => XS.iloadN X.here X.hx rfl (X.dec hd) hl hr) g
theorem W.istore (X : Wk l Z EL y bytes maxL ret R B0 p e s m args below meth c B T h k n) {j : Nat} {v : Int32} (hd : decode bytes pc = .ok (.istore j, 2)) (hl : storeLocals ls j (.int v) = some ls') (hp : pc + 2 = pc') (g : Go l Z EL R B0 Q p e s m below T pc' ls' st) : Go l Z EL R B0 Q p e s m below T pc ls (.int v :: st) := by
  subst hp; exact Go.step (fun t hr => XS.istore X.here X.hx rfl (X.dec hd) rfl hl hr) g
theorem W.istoreN (X : Wk l Z EL y bytes maxL ret R B0 p e s m args below meth c B T h k n) {j : Fin 4} {v : Int32} (hd : decode bytes pc = .ok (.istore_n j, 1)) (hl : storeLocals ls j.val (.int v) = some ls') (hp : pc + 1 = pc') (g : Go l Z EL R B0 Q p e s m below T pc' ls' st) : Go l Z EL R B0 Q p e s m below T pc ls (.int v :: st) := by
  subst hp; exact Go.step (fun t hr => XS.istoreN X.here X.hx rfl (X.dec hd) rfl hl hr) g
theorem W.lload (X : Wk l Z EL y bytes maxL ret R B0 p e s m args below meth c B T h k n) {j : Nat} {v : Int64} (hd : decode bytes pc = .ok (.lload j, 2)) (hl : ls[j]? = some (.val (.long v))) (hp : pc + 2 = pc') (g : Go l Z EL R B0 Q p e s m below T pc' ls (.long v :: st)) : Go l Z EL R B0 Q p e s m below T pc ls st := by
  subst hp; exact Go.step (fun t hr => XT.lload X.here X.hx rfl (X.dec hd) hl hr) g
theorem W.lloadN (X : Wk l Z EL y bytes maxL ret R B0 p e s m args below meth c B T h k n) {j : Fin 4} {v : Int64} (hd : decode bytes pc = .ok (.lload_n j, 1)) (hl : ls[j.val]? = some (.val (.long v))) (hp : pc + 1 = pc') (g : Go l Z EL R B0 Q p e s m below T pc' ls (.long v :: st)) : Go l Z EL R B0 Q p e s m below T pc ls st := by
  subst hp; exact Go.step (fun t hr => XT.lloadN X.here X.hx rfl (X.dec hd) hl hr) g
theorem W.lstore (X : Wk l Z EL y bytes maxL ret R B0 p e s m args below meth c B T h k n) {j : Nat} {v : Int64} (hd : decode bytes pc = .ok (.lstore j, 2)) (hl : storeLocals ls j (.long v) = some ls') (hp : pc + 2 = pc') (g : Go l Z EL R B0 Q p e s m below T pc' ls' st) : Go l Z EL R B0 Q p e s m below T pc ls (.long v :: st) := by
  subst hp; exact Go.step (fun t hr => XT.lstore X.here X.hx rfl (X.dec hd) rfl hl hr) g
theorem W.lstoreN (X : Wk l Z EL y bytes maxL ret R B0 p e s m args below meth c B T h k n) {j : Fin 4} {v : Int64} (hd : decode bytes pc = .ok (.lstore_n j, 1)) (hl : storeLocals ls j.val (.long v) = some ls') (hp : pc + 1 = pc') (g : Go l Z EL R B0 Q p e s m below T pc' ls' st) : Go l Z EL R B0 Q p e s m below T pc ls (.long v :: st) := by
  subst hp; exact Go.step (fun t hr => XT.lstoreN X.here X.hx rfl (X.dec hd) rfl hl hr) g
theorem W.aload (X : Wk l Z EL y bytes maxL ret R B0 p e s m args below meth c B T h k n) {j : Nat} {v : Value} (hd : decode bytes pc = .ok (.aload j, 2)) (hl : ls[j]? = some (.val v)) (hv : v.isRef = true) (hp : pc + 2 = pc') (g : Go l Z EL R B0 Q p e s m below T pc' ls (v :: st)) : Go l Z EL R B0 Q p e s m below T pc ls st := by
  subst hp; exact Go.step (fun t hr => XS.aload X.here X.hx rfl (X.dec hd) hl hv hr) g
theorem W.aloadN (X : Wk l Z EL y bytes maxL ret R B0 p e s m args below meth c B T h k n) {j : Fin 4} {v : Value} (hd : decode bytes pc = .ok (.aload_n j, 1)) (hl : ls[j.val]? = some (.val v)) (hv : v.isRef = true) (hp : pc + 1 = pc') (g : Go l Z EL R B0 Q p e s m below T pc' ls (v :: st)) : Go l Z EL R B0 Q p e s m below T pc ls st := by
  subst hp; exact Go.step (fun t hr => XS.aloadN X.here X.hx rfl (X.dec hd) hl hv hr) g
theorem W.astore (X : Wk l Z EL y bytes maxL ret R B0 p e s m args below meth c B T h k n) {j : Nat} {v : Value} (hd : decode bytes pc = .ok (.astore j, 2)) (hv : v.isRef = true) (hl : storeLocals ls j v = some ls') (hp : pc + 2 = pc') (g : Go l Z EL R B0 Q p e s m below T pc' ls' st) : Go l Z EL R B0 Q p e s m below T pc ls (v :: st) := by
  subst hp; exact Go.step (fun t hr => XS.astore X.here X.hx rfl (X.dec hd) rfl hv hl hr) g
theorem W.astoreN (X : Wk l Z EL y bytes maxL ret R B0 p e s m args below meth c B T h k n) {j : Fin 4} {v : Value} (hd : decode bytes pc = .ok (.astore_n j, 1)) (hv : v.isRef = true) (hl : storeLocals ls j.val v = some ls') (hp : pc + 1 = pc') (g : Go l Z EL R B0 Q p e s m below T pc' ls' st) : Go l Z EL R B0 Q p e s m below T pc ls (v :: st) := by
  subst hp; exact Go.step (fun t hr => XS.astoreN X.here X.hx rfl (X.dec hd) rfl hv hl hr) g
theorem W.iconst (X : Wk l Z EL y bytes maxL ret R B0 p e s m args below meth c B T h k n) {i : Int} (v : Int32) (hd : decode bytes pc = .ok (.iconst i, 1)) (hv : Int32.ofInt i = v) (hp : pc + 1 = pc') (g : Go l Z EL R B0 Q p e s m below T pc' ls (.int v :: st)) : Go l Z EL R B0 Q p e s m below T pc ls st := by
  subst hp; exact Go.step (fun t hr => XT.iconstV X.here X.hx rfl v (X.dec hd) hv hr) g
theorem W.bipush (X : Wk l Z EL y bytes maxL ret R B0 p e s m args below meth c B T h k n) {i : Int} (v : Int32) (hd : decode bytes pc = .ok (.bipush i, 2)) (hv : (Int8.ofInt i).toInt32 = v) (hp : pc + 2 = pc') (g : Go l Z EL R B0 Q p e s m below T pc' ls (.int v :: st)) : Go l Z EL R B0 Q p e s m below T pc ls st := by
  subst hp; exact Go.step (fun t hr => XT.bipushV X.here X.hx rfl v (X.dec hd) hv hr) g
theorem W.sipush (X : Wk l Z EL y bytes maxL ret R B0 p e s m args below meth c B T h k n) {i : Int} (v : Int32) (hd : decode bytes pc = .ok (.sipush i, 3)) (hv : (Int16.ofInt i).toInt32 = v) (hp : pc + 3 = pc') (g : Go l Z EL R B0 Q p e s m below T pc' ls (.int v :: st)) : Go l Z EL R B0 Q p e s m below T pc ls st := by
  subst hp; exact Go.step (fun t hr => XT.sipushV X.here X.hx rfl v (X.dec hd) hv hr) g
theorem W.lconst (X : Wk l Z EL y bytes maxL ret R B0 p e s m args below meth c B T h k n) {i : Fin 2} (v : Int64) (hd : decode bytes pc = .ok (.lconst i, 1)) (hv : Int64.ofNat i = v) (hp : pc + 1 = pc') (g : Go l Z EL R B0 Q p e s m below T pc' ls (.long v :: st)) : Go l Z EL R B0 Q p e s m below T pc ls st := by
  subst hp; exact Go.step (fun t hr => XT.lconstV X.here X.hx rfl v (X.dec hd) hv hr) g
theorem W.aconst_null (X : Wk l Z EL y bytes maxL ret R B0 p e s m args below meth c B T h k n)  (hd : decode bytes pc = .ok (.aconst_null, 1))  (hp : pc + 1 = pc') (g : Go l Z EL R B0 Q p e s m below T pc' ls (.null :: st)) : Go l Z EL R B0 Q p e s m below T pc ls st := by
  subst hp; exact Go.step (fun t hr => XS.aconstNull X.here X.hx rfl (X.dec hd) hr) g
theorem W.iadd (X : Wk l Z EL y bytes maxL ret R B0 p e s m args below meth c B T h k n) {x z : Int32} {w : Int32} (hd : decode bytes pc = .ok (.iadd, 1)) (hw : x + z = w) (hp : pc + 1 = pc') (g : Go l Z EL R B0 Q p e s m below T pc' ls (.int w :: st)) : Go l Z EL R B0 Q p e s m below T pc ls (.int z :: .int x :: st) := by
  subst hp; exact Go.step (fun t hr => by subst hw; exact XS.iadd X.here X.hx rfl (X.dec hd) rfl hr) g
theorem W.isub (X : Wk l Z EL y bytes maxL ret R B0 p e s m args below meth c B T h k n) {x z : Int32} {w : Int32} (hd : decode bytes pc = .ok (.isub, 1)) (hw : x - z = w) (hp : pc + 1 = pc') (g : Go l Z EL R B0 Q p e s m below T pc' ls (.int w :: st)) : Go l Z EL R B0 Q p e s m below T pc ls (.int z :: .int x :: st) := by
  subst hp; exact Go.step (fun t hr => by subst hw; exact XS.isub X.here X.hx rfl (X.dec hd) rfl hr) g
theorem W.iand (X : Wk l Z EL y bytes maxL ret R B0 p e s m args below meth c B T h k n) {x z : Int32} {w : Int32} (hd : decode bytes pc = .ok (.iand, 1)) (hw : x &&& z = w) (hp : pc + 1 = pc') (g : Go l Z EL R B0 Q p e s m below T pc' ls (.int w :: st)) : Go l Z EL R B0 Q p e s m below T pc ls (.int z :: .int x :: st) := by
  subst hp; exact Go.step (fun t hr => by subst hw; exact XS.iand X.here X.hx rfl (X.dec hd) rfl hr) g
theorem W.imul (X : Wk l Z EL y bytes maxL ret R B0 p e s m args below meth c B T h k n) {x z : Int32} {w : Int32} (hd : decode bytes pc = .ok (.imul, 1)) (hw : x * z = w) (hp : pc + 1 = pc') (g : Go l Z EL R B0 Q p e s m below T pc' ls (.int w :: st)) : Go l Z EL R B0 Q p e s m below T pc ls (.int z :: .int x :: st) := by
  subst hp; exact Go.step (fun t hr => by subst hw; exact XS.imul X.here X.hx rfl (X.dec hd) rfl hr) g
theorem W.ixor (X : Wk l Z EL y bytes maxL ret R B0 p e s m args below meth c B T h k n) {x z : Int32} {w : Int32} (hd : decode bytes pc = .ok (.ixor, 1)) (hw : x ^^^ z = w) (hp : pc + 1 = pc') (g : Go l Z EL R B0 Q p e s m below T pc' ls (.int w :: st)) : Go l Z EL R B0 Q p e s m below T pc ls (.int z :: .int x :: st) := by
  subst hp; exact Go.step (fun t hr => by subst hw; exact XT.ixor X.here X.hx rfl (X.dec hd) rfl hr) g
theorem W.ior (X : Wk l Z EL y bytes maxL ret R B0 p e s m args below meth c B T h k n) {x z : Int32} {w : Int32} (hd : decode bytes pc = .ok (.ior, 1)) (hw : x ||| z = w) (hp : pc + 1 = pc') (g : Go l Z EL R B0 Q p e s m below T pc' ls (.int w :: st)) : Go l Z EL R B0 Q p e s m below T pc ls (.int z :: .int x :: st) := by
  subst hp; exact Go.step (fun t hr => by subst hw; exact XT.ior X.here X.hx rfl (X.dec hd) rfl hr) g
theorem W.ishl (X : Wk l Z EL y bytes maxL ret R B0 p e s m args below meth c B T h k n) {x z : Int32} {w : Int32} (hd : decode bytes pc = .ok (.ishl, 1)) (hw : x <<< (z &&& 31) = w) (hp : pc + 1 = pc') (g : Go l Z EL R B0 Q p e s m below T pc' ls (.int w :: st)) : Go l Z EL R B0 Q p e s m below T pc ls (.int z :: .int x :: st) := by
  subst hp; exact Go.step (fun t hr => by subst hw; exact XT.ishl X.here X.hx rfl (X.dec hd) rfl hr) g
theorem W.ishr (X : Wk l Z EL y bytes maxL ret R B0 p e s m args below meth c B T h k n) {x z : Int32} {w : Int32} (hd : decode bytes pc = .ok (.ishr, 1)) (hw : x >>> (z &&& 31) = w) (hp : pc + 1 = pc') (g : Go l Z EL R B0 Q p e s m below T pc' ls (.int w :: st)) : Go l Z EL R B0 Q p e s m below T pc ls (.int z :: .int x :: st) := by
  subst hp; exact Go.step (fun t hr => by subst hw; exact XT.ishr X.here X.hx rfl (X.dec hd) rfl hr) g
theorem W.iushr (X : Wk l Z EL y bytes maxL ret R B0 p e s m args below meth c B T h k n) {x z : Int32} {w : Int32} (hd : decode bytes pc = .ok (.iushr, 1)) (hw : XT.ushr x z = w) (hp : pc + 1 = pc') (g : Go l Z EL R B0 Q p e s m below T pc' ls (.int w :: st)) : Go l Z EL R B0 Q p e s m below T pc ls (.int z :: .int x :: st) := by
  subst hp; exact Go.step (fun t hr => by subst hw; exact XT.iushr X.here X.hx rfl (X.dec hd) rfl hr) g
theorem W.idiv (X : Wk l Z EL y bytes maxL ret R B0 p e s m args below meth c B T h k n) {x z : Int32} {w : Int32} (hd : decode bytes pc = .ok (.idiv, 1)) (hz : z ≠ 0) (hw : x / z = w) (hp : pc + 1 = pc') (g : Go l Z EL R B0 Q p e s m below T pc' ls (.int w :: st)) : Go l Z EL R B0 Q p e s m below T pc ls (.int z :: .int x :: st) := by
  subst hp; exact Go.step (fun t hr => by subst hw; exact XS.idiv X.here X.hx rfl (X.dec hd) rfl hz hr) g
theorem W.irem (X : Wk l Z EL y bytes maxL ret R B0 p e s m args below meth c B T h k n) {x z : Int32} {w : Int32} (hd : decode bytes pc = .ok (.irem, 1)) (hz : z ≠ 0) (hw : x % z = w) (hp : pc + 1 = pc') (g : Go l Z EL R B0 Q p e s m below T pc' ls (.int w :: st)) : Go l Z EL R B0 Q p e s m below T pc ls (.int z :: .int x :: st) := by
  subst hp; exact Go.step (fun t hr => by subst hw; exact XS.irem X.here X.hx rfl (X.dec hd) rfl hz (by rw [Jvm.irem_eq_mod]; exact hr)) g
theorem W.ineg (X : Wk l Z EL y bytes maxL ret R B0 p e s m args below meth c B T h k n) {x : Int32} {w : Int32} (hd : decode bytes pc = .ok (.ineg, 1)) (hw : -x = w) (hp : pc + 1 = pc') (g : Go l Z EL R B0 Q p e s m below T pc' ls (.int w :: st)) : Go l Z EL R B0 Q p e s m below T pc ls (.int x :: st) := by
  subst hp; exact Go.step (fun t hr => by subst hw; exact XS.ineg X.here X.hx rfl (X.dec hd) rfl hr) g
theorem W.ladd (X : Wk l Z EL y bytes maxL ret R B0 p e s m args below meth c B T h k n) {x z : Int64} {w : Int64} (hd : decode bytes pc = .ok (.ladd, 1)) (hw : x + z = w) (hp : pc + 1 = pc') (g : Go l Z EL R B0 Q p e s m below T pc' ls (.long w :: st)) : Go l Z EL R B0 Q p e s m below T pc ls (.long z :: .long x :: st) := by
  subst hp; exact Go.step (fun t hr => by subst hw; exact XT.ladd X.here X.hx rfl (X.dec hd) rfl hr) g
theorem W.lsub (X : Wk l Z EL y bytes maxL ret R B0 p e s m args below meth c B T h k n) {x z : Int64} {w : Int64} (hd : decode bytes pc = .ok (.lsub, 1)) (hw : x - z = w) (hp : pc + 1 = pc') (g : Go l Z EL R B0 Q p e s m below T pc' ls (.long w :: st)) : Go l Z EL R B0 Q p e s m below T pc ls (.long z :: .long x :: st) := by
  subst hp; exact Go.step (fun t hr => by subst hw; exact XT.lsub X.here X.hx rfl (X.dec hd) rfl hr) g
theorem W.land (X : Wk l Z EL y bytes maxL ret R B0 p e s m args below meth c B T h k n) {x z : Int64} {w : Int64} (hd : decode bytes pc = .ok (.land, 1)) (hw : x &&& z = w) (hp : pc + 1 = pc') (g : Go l Z EL R B0 Q p e s m below T pc' ls (.long w :: st)) : Go l Z EL R B0 Q p e s m below T pc ls (.long z :: .long x :: st) := by
  subst hp; exact Go.step (fun t hr => by subst hw; exact XT.land X.here X.hx rfl (X.dec hd) rfl hr) g
theorem W.lmul (X : Wk l Z EL y bytes maxL ret R B0 p e s m args below meth c B T h k n) {x z : Int64} {w : Int64} (hd : decode bytes pc = .ok (.lmul, 1)) (hw : x * z = w) (hp : pc + 1 = pc') (g : Go l Z EL R B0 Q p e s m below T pc' ls (.long w :: st)) : Go l Z EL R B0 Q p e s m below T pc ls (.long z :: .long x :: st) := by
  subst hp; exact Go.step (fun t hr => by subst hw; exact XT.lmul X.here X.hx rfl (X.dec hd) rfl hr) g
theorem W.lor (X : Wk l Z EL y bytes maxL ret R B0 p e s m args below meth c B T h k n) {x z : Int64} {w : Int64} (hd : decode bytes pc = .ok (.lor, 1)) (hw : x ||| z = w) (hp : pc + 1 = pc') (g : Go l Z EL R B0 Q p e s m below T pc' ls (.long w :: st)) : Go l Z EL R B0 Q p e s m below T pc ls (.long z :: .long x :: st) := by
  subst hp; exact Go.step (fun t hr => by subst hw; exact XT.lor X.here X.hx rfl (X.dec hd) rfl hr) g
theorem W.ldiv (X : Wk l Z EL y bytes maxL ret R B0 p e s m args below meth c B T h k n) {x z : Int64} {w : Int64} (hd : decode bytes pc = .ok (.ldiv, 1)) (hz : z ≠ 0) (hw : x / z = w) (hp : pc + 1 = pc') (g : Go l Z EL R B0 Q p e s m below T pc' ls (.long w :: st)) : Go l Z EL R B0 Q p e s m below T pc ls (.long z :: .long x :: st) := by
  subst hp; exact Go.step (fun t hr => by subst hw; exact XT.ldiv X.here X.hx rfl (X.dec hd) rfl hz hr) g
theorem W.lrem (X : Wk l Z EL y bytes maxL ret R B0 p e s m args below meth c B T h k n) {x z : Int64} {w : Int64} (hd : decode bytes pc = .ok (.lrem, 1)) (hz : z ≠ 0) (hw : x - (x / z) * z = w) (hp : pc + 1 = pc') (g : Go l Z EL R B0 Q p e s m below T pc' ls (.long w :: st)) : Go l Z EL R B0 Q p e s m below T pc ls (.long z :: .long x :: st) := by
  subst hp; exact Go.step (fun t hr => by subst hw; exact XT.lrem X.here X.hx rfl (X.dec hd) rfl hz hr) g
theorem W.lneg (X : Wk l Z EL y bytes maxL ret R B0 p e s m args below meth c B T h k n) {x : Int64} {w : Int64} (hd : decode bytes pc = .ok (.lneg, 1)) (hw : -x = w) (hp : pc + 1 = pc') (g : Go l Z EL R B0 Q p e s m below T pc' ls (.long w :: st)) : Go l Z EL R B0 Q p e s m below T pc ls (.long x :: st) := by
  subst hp; exact Go.step (fun t hr => by subst hw; exact XT.lneg X.here X.hx rfl (X.dec hd) rfl hr) g
theorem W.lushr (X : Wk l Z EL y bytes maxL ret R B0 p e s m args below meth c B T h k n) {x : Int64} {z : Int32} {w : Int64} (hd : decode bytes pc = .ok (.lushr, 1)) (hw : XT.ushrL x z = w) (hp : pc + 1 = pc') (g : Go l Z EL R B0 Q p e s m below T pc' ls (.long w :: st)) : Go l Z EL R B0 Q p e s m below T pc ls (.int z :: .long x :: st) := by
  subst hp; exact Go.step (fun t hr => by subst hw; exact XT.lushr X.here X.hx rfl (X.dec hd) rfl hr) g
theorem W.lcmp (X : Wk l Z EL y bytes maxL ret R B0 p e s m args below meth c B T h k n) {x z : Int64} {w : Int32} (hd : decode bytes pc = .ok (.lcmp, 1)) (hw : XT.cmpL x z = w) (hp : pc + 1 = pc') (g : Go l Z EL R B0 Q p e s m below T pc' ls (.int w :: st)) : Go l Z EL R B0 Q p e s m below T pc ls (.long z :: .long x :: st) := by
  subst hp; exact Go.step (fun t hr => by subst hw; exact XT.lcmp X.here X.hx rfl (X.dec hd) rfl hr) g
theorem W.i2l (X : Wk l Z EL y bytes maxL ret R B0 p e s m args below meth c B T h k n) {x : Int32} {w : Int64} (hd : decode bytes pc = .ok (.i2l, 1)) (hw : x.toInt64 = w) (hp : pc + 1 = pc') (g : Go l Z EL R B0 Q p e s m below T pc' ls (.long w :: st)) : Go l Z EL R B0 Q p e s m below T pc ls (.int x :: st) := by
  subst hp; exact Go.step (fun t hr => by subst hw; exact XT.i2l X.here X.hx rfl (X.dec hd) rfl hr) g
theorem W.l2i (X : Wk l Z EL y bytes maxL ret R B0 p e s m args below meth c B T h k n) {x : Int64} {w : Int32} (hd : decode bytes pc = .ok (.l2i, 1)) (hw : x.toInt32 = w) (hp : pc + 1 = pc') (g : Go l Z EL R B0 Q p e s m below T pc' ls (.int w :: st)) : Go l Z EL R B0 Q p e s m below T pc ls (.long x :: st) := by
  subst hp; exact Go.step (fun t hr => by subst hw; exact XT.l2i X.here X.hx rfl (X.dec hd) rfl hr) g
theorem W.i2b (X : Wk l Z EL y bytes maxL ret R B0 p e s m args below meth c B T h k n) {x : Int32} {w : Int32} (hd : decode bytes pc = .ok (.i2b, 1)) (hw : x.toInt8.toInt32 = w) (hp : pc + 1 = pc') (g : Go l Z EL R B0 Q p e s m below T pc' ls (.int w :: st)) : Go l Z EL R B0 Q p e s m below T pc ls (.int x :: st) := by
  subst hp; exact Go.step (fun t hr => by subst hw; exact XT.i2b X.here X.hx rfl (X.dec hd) rfl hr) g
theorem W.i2c (X : Wk l Z EL y bytes maxL ret R B0 p e s m args below meth c B T h k n) {x : Int32} {w : Int32} (hd : decode bytes pc = .ok (.i2c, 1)) (hw : x.toUInt32.toUInt16.toUInt32.toInt32 = w) (hp : pc + 1 = pc') (g : Go l Z EL R B0 Q p e s m below T pc' ls (.int w :: st)) : Go l Z EL R B0 Q p e s m below T pc ls (.int x :: st) := by
  subst hp; exact Go.step (fun t hr => by subst hw; exact XT.i2c X.here X.hx rfl (X.dec hd) rfl hr) g
theorem W.iinc (X : Wk l Z EL y bytes maxL ret R B0 p e s m args below meth c B T h k n) {j : Nat} {cst : Int} {x : Int32} (v : Int32) {w : Int32} (hd : decode bytes pc = .ok (.iinc j cst, 3)) (hv : Int32.ofInt cst = v) (hl : ls[j]? = some (.val (.int x))) (hw : x + v = w) (hl' : storeLocals ls j (.int w) = some ls') (hp : pc + 3 = pc') (g : Go l Z EL R B0 Q p e s m below T pc' ls' st) : Go l Z EL R B0 Q p e s m below T pc ls st := by
  subst hp; exact Go.step (fun t hr => by subst hw; exact XT.iincV X.here X.hx rfl v (X.dec hd) hv hl hl' hr) g
theorem W.popV (X : Wk l Z EL y bytes maxL ret R B0 p e s m args below meth c B T h k n) {v : Value} (hd : decode bytes pc = .ok (.pop, 1)) (hc : v.category = 1) (hp : pc + 1 = pc') (g : Go l Z EL R B0 Q p e s m below T pc' ls st) : Go l Z EL R B0 Q p e s m below T pc ls (v :: st) := by
  subst hp; exact Go.step (fun t hr => XT.pop X.here X.hx rfl (X.dec hd) rfl hc hr) g
theorem W.dup (X : Wk l Z EL y bytes maxL ret R B0 p e s m args below meth c B T h k n) {v : Value} (hd : decode bytes pc = .ok (.dup, 1)) (hc : v.category = 1) (hp : pc + 1 = pc') (g : Go l Z EL R B0 Q p e s m below T pc' ls (v :: v :: st)) : Go l Z EL R B0 Q p e s m below T pc ls (v :: st) := by
  subst hp; exact Go.step (fun t hr => XS.dup X.here X.hx rfl (X.dec hd) rfl hc hr) g
theorem W.dup_x1 (X : Wk l Z EL y bytes maxL ret R B0 p e s m args below meth c B T h k n) {v w : Value} (hd : decode bytes pc = .ok (.dup_x1, 1)) (hc : v.category = 1) (hc' : w.category = 1) (hp : pc + 1 = pc') (g : Go l Z EL R B0 Q p e s m below T pc' ls (v :: w :: v :: st)) : Go l Z EL R B0 Q p e s m below T pc ls (v :: w :: st) := by
  subst hp; exact Go.step (fun t hr => XT.dupX1 X.here X.hx rfl (X.dec hd) rfl hc hc' hr) g
theorem W.dup2 (X : Wk l Z EL y bytes maxL ret R B0 p e s m args below meth c B T h k n) {v w : Value} (hd : decode bytes pc = .ok (.dup2, 1)) (hc : v.category = 1) (hc' : w.category = 1) (hp : pc + 1 = pc') (g : Go l Z EL R B0 Q p e s m below T pc' ls (v :: w :: v :: w :: st)) : Go l Z EL R B0 Q p e s m below T pc ls (v :: w :: st) := by
  subst hp; exact Go.step (fun t hr => XT.dup2 X.here X.hx rfl (X.dec hd) rfl hc hc' hr) g
theorem W.dup2L (X : Wk l Z EL y bytes maxL ret R B0 p e s m args below meth c B T h k n) {v : Int64} (hd : decode bytes pc = .ok (.dup2, 1))  (hp : pc + 1 = pc') (g : Go l Z EL R B0 Q p e s m below T pc' ls (.long v :: .long v :: st)) : Go l Z EL R B0 Q p e s m below T pc ls (.long v :: st) := by
  subst hp; exact Go.step (fun t hr => XT.dup2L X.here X.hx rfl (X.dec hd) rfl hr) g
theorem W.goto (X : Wk l Z EL y bytes maxL ret R B0 p e s m args below meth c B T h k n)  {o : Int} (hd : decode bytes pc = .ok (.goto o, 3))  (ho : 0 ≤ (pc : Int) + o) (hp : ((pc : Int) + o).toNat = pc') (g : Go l Z EL R B0 Q p e s m below T pc' ls st) : Go l Z EL R B0 Q p e s m below T pc ls st :=
  Go.step (fun t hr => XS.goto X.here X.hx rfl rfl (X.dec hd) ho hp hr) g
theorem W.ifT (X : Wk l Z EL y bytes maxL ret R B0 p e s m args below meth c B T h k n) {cd : ClassFile.Cond} {x : Int32} {o : Int} (hd : decode bytes pc = .ok (.ifCond cd o, 3)) (hc : ifCond.holds cd x = true) (ho : 0 ≤ (pc : Int) + o) (hp : ((pc : Int) + o).toNat = pc') (g : Go l Z EL R B0 Q p e s m below T pc' ls st) : Go l Z EL R B0 Q p e s m below T pc ls (.int x :: st) :=
  Go.step (fun t hr => XS.ifYes X.here X.hx rfl rfl (X.dec hd) rfl hc ho hp hr) g
theorem W.ifF (X : Wk l Z EL y bytes maxL ret R B0 p e s m args below meth c B T h k n) {cd : ClassFile.Cond} {o : Int} {x : Int32} (hd : decode bytes pc = .ok (.ifCond cd o, 3)) (hc : ifCond.holds cd x = false) (hp : pc + 3 = pc') (g : Go l Z EL R B0 Q p e s m below T pc' ls st) : Go l Z EL R B0 Q p e s m below T pc ls (.int x :: st) := by
  subst hp; exact Go.step (fun t hr => XS.ifNo X.here X.hx rfl (X.dec hd) rfl hc hr) g
theorem W.icT (X : Wk l Z EL y bytes maxL ret R B0 p e s m args below meth c B T h k n) {cd : ClassFile.Cond} {x z : Int32} {o : Int} (hd : decode bytes pc = .ok (.if_icmp cd o, 3)) (hc : if_icmp.holds cd x z = true) (ho : 0 ≤ (pc : Int) + o) (hp : ((pc : Int) + o).toNat = pc') (g : Go l Z EL R B0 Q p e s m below T pc' ls st) : Go l Z EL R B0 Q p e s m below T pc ls (.int z :: .int x :: st) :=
  Go.step (fun t hr => XS.icmpYes X.here X.hx rfl rfl (X.dec hd) rfl hc ho hp hr) g
theorem W.icF (X : Wk l Z EL y bytes maxL ret R B0 p e s m args below meth c B T h k n) {cd : ClassFile.Cond} {o : Int} {x z : Int32} (hd : decode bytes pc = .ok (.if_icmp cd o, 3)) (hc : if_icmp.holds cd x z = false) (hp : pc + 3 = pc') (g : Go l Z EL R B0 Q p e s m below T pc' ls st) : Go l Z EL R B0 Q p e s m below T pc ls (.int z :: .int x :: st) := by
  subst hp; exact Go.step (fun t hr => XS.icmpNo X.here X.hx rfl (X.dec hd) rfl hc hr) g
theorem W.acT (X : Wk l Z EL y bytes maxL ret R B0 p e s m args below meth c B T h k n) {cd : ClassFile.ACond} {x z : Value} {o : Int} (hd : decode bytes pc = .ok (.if_acmp cd o, 3)) (h1 : x.isRef = true) (h2 : z.isRef = true) (hc : XT.acmp cd x z = true) (ho : 0 ≤ (pc : Int) + o) (hp : ((pc : Int) + o).toNat = pc') (g : Go l Z EL R B0 Q p e s m below T pc' ls st) : Go l Z EL R B0 Q p e s m below T pc ls (z :: x :: st) :=
  Go.step (fun t hr => XT.acmpYes X.here X.hx rfl rfl (X.dec hd) rfl h1 h2 hc ho hp hr) g
theorem W.acF (X : Wk l Z EL y bytes maxL ret R B0 p e s m args below meth c B T h k n) {cd : ClassFile.ACond} {o : Int} {x z : Value} (hd : decode bytes pc = .ok (.if_acmp cd o, 3)) (h1 : x.isRef = true) (h2 : z.isRef = true) (hc : XT.acmp cd x z = false) (hp : pc + 3 = pc') (g : Go l Z EL R B0 Q p e s m below T pc' ls st) : Go l Z EL R B0 Q p e s m below T pc ls (z :: x :: st) := by
  subst hp; exact Go.step (fun t hr => XT.acmpNo X.here X.hx rfl (X.dec hd) rfl h1 h2 hc hr) g
theorem W.nullT (X : Wk l Z EL y bytes maxL ret R B0 p e s m args below meth c B T h k n)  {o : Int} (hd : decode bytes pc = .ok (.ifnull o, 3))  (ho : 0 ≤ (pc : Int) + o) (hp : ((pc : Int) + o).toNat = pc') (g : Go l Z EL R B0 Q p e s m below T pc' ls st) : Go l Z EL R B0 Q p e s m below T pc ls (.null :: st) :=
  Go.step (fun t hr => XS.ifnullYes X.here X.hx rfl rfl (X.dec hd) rfl ho hp hr) g
theorem W.nullF (X : Wk l Z EL y bytes maxL ret R B0 p e s m args below meth c B T h k n) {o : Int} {r : Addr} (hd : decode bytes pc = .ok (.ifnull o, 3))  (hp : pc + 3 = pc') (g : Go l Z EL R B0 Q p e s m below T pc' ls st) : Go l Z EL R B0 Q p e s m below T pc ls (.ref r :: st) := by
  subst hp; exact Go.step (fun t hr => XS.ifnullNo X.here X.hx rfl (X.dec hd) rfl hr) g
theorem W.nonnullT (X : Wk l Z EL y bytes maxL ret R B0 p e s m args below meth c B T h k n) {r : Addr} {o : Int} (hd : decode bytes pc = .ok (.ifnonnull o, 3))  (ho : 0 ≤ (pc : Int) + o) (hp : ((pc : Int) + o).toNat = pc') (g : Go l Z EL R B0 Q p e s m below T pc' ls st) : Go l Z EL R B0 Q p e s m below T pc ls (.ref r :: st) :=
  Go.step (fun t hr => XT.ifnonnullYes X.here X.hx rfl rfl (X.dec hd) rfl ho hp hr) g
theorem W.nonnullF (X : Wk l Z EL y bytes maxL ret R B0 p e s m args below meth c B T h k n) {o : Int} (hd : decode bytes pc = .ok (.ifnonnull o, 3))  (hp : pc + 3 = pc') (g : Go l Z EL R B0 Q p e s m below T pc' ls st) : Go l Z EL R B0 Q p e s m below T pc ls (.null :: st) := by
  subst hp; exact Go.step (fun t hr => XT.ifnonnullNo X.here X.hx rfl (X.dec hd) rfl hr) g
theorem W.tsw (X : Wk l Z EL y bytes maxL ret R B0 p e s m args below meth c B T h k n) {dflt low high : Int} {offs : Array Int} {len : Nat} {o : Int} {i : Int32} (hd : decode bytes pc = .ok (.tableswitch dflt low high offs, len)) (hin : ¬ (i.toInt < low ∨ i.toInt > high)) (hoff : offs[(i.toInt - low).toNat]? = some o) (ho : 0 ≤ (pc : Int) + o) (hp : ((pc : Int) + o).toNat = pc') (g : Go l Z EL R B0 Q p e s m below T pc' ls st) : Go l Z EL R B0 Q p e s m below T pc ls (.int i :: st) :=
  Go.step (fun t hr => XS.tswIn X.here X.hx rfl rfl (X.dec hd) rfl hin hoff ho hp hr) g
theorem W.ldcI (X : Wk l Z EL y bytes maxL ret R B0 p e s m args below meth c B T h k n) {index : Nat} {v : Int32} (w : (Jvm.Cond.constant y.cls index v).before a0 Z = true) (hd : decode bytes pc = .ok (.ldc index, 2)) (hp : pc + 2 = pc') (g : Go l Z EL R B0 Q p e s m below T pc' ls (.int v :: st)) : Go l Z EL R B0 Q p e s m below T pc ls st := by
  obtain ⟨i0, hE, hz, hB, V, locs, q0, X1, eT, hZ, hown, hS, hq, hF, hC, hK⟩ := X
  subst hp
  exact Go.step (fun t hr => Jvm.Stand.ldcI (g := mkF m pc ls st) X1 i0.1 hown (mv (s := s.setVm V) hZ w) rfl (i0.2.1 ▸ hd) hr) g
theorem W.ldcJ (X : Wk l Z EL y bytes maxL ret R B0 p e s m args below meth c B T h k n) {index : Nat} {v : Int64} (w : (Jvm.Cond.constantLong y.cls index v).before a0 Z = true) (hd : decode bytes pc = .ok (.ldc2_w index, 3)) (hp : pc + 3 = pc') (g : Go l Z EL R B0 Q p e s m below T pc' ls (.long v :: st)) : Go l Z EL R B0 Q p e s m below T pc ls st := by
  obtain ⟨i0, hE, hz, hB, V, locs, q0, X1, eT, hZ, hown, hS, hq, hF, hC, hK⟩ := X
  subst hp
  exact Go.step (fun t hr => Jvm.Stand.ldc2J (g := mkF m pc ls st) X1 i0.1 hown (mv (s := s.setVm V) hZ w) rfl (i0.2.1 ▸ hd) hr) g
theorem W.getF (X : Wk l Z EL y bytes maxL ret R B0 p e s m args below meth c B T h k n) {index : Nat} {R0 O nm d : String} {v : Value} (w : (Jvm.Cond.fieldLink y.cls index R0 nm d).before a0 Z = true) (via : Via Z R0 O nm d) (F : Fld Z h a O nm d v) (hd : decode bytes pc = .ok (.getfield index, 3)) (hp : pc + 3 = pc') (g : ∀ T', Wk l Z EL y bytes maxL ret R B0 p e s m args below meth c B T' h k n → Go l Z EL R B0 Q p e s m below T' pc' ls (v :: st)) : Go l Z EL R B0 Q p e s m below T pc ls (.ref a :: st) := by
  obtain ⟨i0, hE, hz, hB, V, locs, q0, X1, eT, hZ, hown, hS, hq, hF, hC, hK⟩ := X
  obtain ⟨T', X', e', st'⟩ := RoadKit.getF X1 i0.1 hZ hown (host := "") (Or.inl w) via eT F (g := mkF m pc ls (.ref a :: st)) rfl rfl (i0.2.1 ▸ hd)
  subst hp
  exact Go.step st' (g T' ⟨i0, hE, hz, hB, V, locs, q0, X', e', hZ, hown, hS, hq, hF, hC, hK⟩)
theorem W.getS (X : Wk l Z EL y bytes maxL ret R B0 p e s m args below meth c B T h k n) {index : Nat} {R0 O nm d host : String} {v : Value} (w : (Jvm.Cond.fieldLink y.cls index R0 nm d).before a0 Z = true ∨ (Jvm.Cond.fieldLinkNest y.cls index R0 nm d host).before a0 Z = true) (via : Via Z R0 O nm d) (F : Sta Z Z.heap O nm d v) (hd : decode bytes pc = .ok (.getstatic index, 3)) (hp : pc + 3 = pc') (g : ∀ T', Wk l Z EL y bytes maxL ret R B0 p e s m args below meth c B T' h k n → Go l Z EL R B0 Q p e s m below T' pc' ls (v :: st)) : Go l Z EL R B0 Q p e s m below T pc ls st := by
  obtain ⟨i0, hE, hz, hB, V, locs, q0, X1, eT, hZ, hown, hS, hq, hF, hC, hK⟩ := X
  obtain ⟨T', X', e', st'⟩ := RoadKit.getS2 X1 i0.1 hZ hown w via eT (F.ext hE.1) (g := mkF m pc ls st) rfl (i0.2.1 ▸ hd)
  subst hp
  exact Go.step st' (g T' ⟨i0, hE, hz, hB, V, locs, q0, X', e', hZ, hown, hS, hq, hF, hC, hK⟩)
theorem En.wr {sl : Nat} {v : Value} (E : En Z B h) (W : Wr h h' a sl v) (q : Z.heap.size ≤ a) : En Z B h' := ⟨(Old.wr (n0 := Z.heap.size) ⟨rfl, E.1⟩ W q).2, fun x r => by rw [W.size]; exact E.2 x r⟩
theorem W.putF (X : Wk l Z EL y bytes maxL ret R B0 p e s m args below meth c B T h k n) {index kk : Nat} {R0 O nm d C : String} {v old : Value} {ty : FieldType} (w : (Jvm.Cond.fieldLink y.cls index R0 nm d).before a0 Z = true) (via : Via Z R0 O nm d) (F : Fld Z h a O nm d old) (E : Exa Z h a C) (L : (Jvm.Cond.lays C O nm d).before a0 Z = true ∨ ((Jvm.Cond.laysFinal C O nm d).before a0 Z = true ∧ y.cls = O ∧ y.name = "<init>")) (wi : (Jvm.Cond.instantiable C kk).before a0 Z = true)
    (hty : parseFieldDescriptor d = some ty) (hn : narrow ty v = v) (hf : fits ty v = true) (ha : Z.heap.size ≤ a) (hnb : ¬ B a) (hd : decode bytes pc = .ok (.putfield index, 3)) (hp : pc + 3 = pc') (g : ∀ T' h', Wk l Z EL y bytes maxL ret R B0 p e s m args below meth c B T' h' k n → Wr h h' a (RoadKit.slotOf Z O nm d) v → Go l Z EL R B0 Q p e s m below T' pc' ls st) : Go l Z EL R B0 Q p e s m below T pc ls (v :: .ref a :: st) := by
  obtain ⟨i0, hE, hz, hB, V, locs, q0, X1, eT, hZ, hown, hS, hq, hF, hC, hK⟩ := X
  obtain ⟨T', h', X', e', W, st'⟩ := RoadKit.putF X1 i0.1 hZ hown (host := "") (Or.inl w) via eT F E (L.imp id fun q => ⟨q.1, q.2.1, i0.2.2.2.2.2.1.trans q.2.2⟩) wi hty hn hf (g := mkF m pc ls (v :: .ref a :: st)) rfl rfl (i0.2.1 ▸ hd)
  subst hp
  have S : Safe Z EL V h a := fun r => hnb (hK a r)
  exact Go.step st' (g T' h' ⟨i0, hE.wr W ha, by rw [W.size]; exact hz, hB, V, _, q0, X', e', hZ, hown, hS, by rw [W.size]; exact hq, Fr.snoc X' hF ha, hC.wr W S, fun x r => hK x ((hC.wrStep W S).2 x r)⟩ W)
theorem W.cast (X : Wk l Z EL y bytes maxL ret R B0 p e s m args below meth c B T h k n) {index : Nat} {K : String} (w : (Jvm.Cond.classLink y.cls index K).before a0 Z = true) (F : Ins Z h a K true) (hd : decode bytes pc = .ok (.checkcast index, 3)) (hp : pc + 3 = pc') (g : ∀ T', Wk l Z EL y bytes maxL ret R B0 p e s m args below meth c B T' h k n → Go l Z EL R B0 Q p e s m below T' pc' ls (.ref a :: st)) : Go l Z EL R B0 Q p e s m below T pc ls (.ref a :: st) := by
  obtain ⟨i0, hE, hz, hB, V, locs, q0, X1, eT, hZ, hown, hS, hq, hF, hC, hK⟩ := X
  obtain ⟨T', X', e', st'⟩ := RoadKit.castY X1 i0.1 hZ hown w eT F (g := mkF m pc ls (.ref a :: st)) rfl rfl (i0.2.1 ▸ hd)
  subst hp
  exact Go.step st' (g T' ⟨i0, hE, hz, hB, V, locs, q0, X', e', hZ, hown, hS, hq, hF, hC, hK⟩)
theorem W.instY (X : Wk l Z EL y bytes maxL ret R B0 p e s m args below meth c B T h k n) {index : Nat} {K : String} (w : (Jvm.Cond.classLink y.cls index K).before a0 Z = true) (F : Ins Z h a K true) (hd : decode bytes pc = .ok (.instanceof index, 3)) (hp : pc + 3 = pc') (g : ∀ T', Wk l Z EL y bytes maxL ret R B0 p e s m args below meth c B T' h k n → Go l Z EL R B0 Q p e s m below T' pc' ls (.int 1 :: st)) : Go l Z EL R B0 Q p e s m below T pc ls (.ref a :: st) := by
  obtain ⟨i0, hE, hz, hB, V, locs, q0, X1, eT, hZ, hown, hS, hq, hF, hC, hK⟩ := X
  obtain ⟨T', X', e', st'⟩ := RoadKit.instY X1 i0.1 hZ hown w eT F (g := mkF m pc ls (.ref a :: st)) rfl rfl (i0.2.1 ▸ hd)
  subst hp
  exact Go.step st' (g T' ⟨i0, hE, hz, hB, V, locs, q0, X', e', hZ, hown, hS, hq, hF, hC, hK⟩)
theorem W.instN (X : Wk l Z EL y bytes maxL ret R B0 p e s m args below meth c B T h k n) {index : Nat} {K C : String} (w : (Jvm.Cond.classLink y.cls index K).before a0 Z = true) (E : Exa Z h a C) (F : ∃ c t, Z.vm.findClass C = some c ∧ Z.vm.findClass K = some t ∧ Z.vm.assignable c t = false) (hd : decode bytes pc = .ok (.instanceof index, 3)) (hp : pc + 3 = pc') (g : ∀ T', Wk l Z EL y bytes maxL ret R B0 p e s m args below meth c B T' h k n → Go l Z EL R B0 Q p e s m below T' pc' ls (.int 0 :: st)) : Go l Z EL R B0 Q p e s m below T pc ls (.ref a :: st) := by
  obtain ⟨i0, hE, hz, hB, V, locs, q0, X1, eT, hZ, hown, hS, hq, hF, hC, hK⟩ := X
  obtain ⟨T', X', e', st'⟩ := RoadKit.instNo X1 i0.1 hZ hown w eT E F (g := mkF m pc ls (.ref a :: st)) rfl rfl (i0.2.1 ▸ hd)
  subst hp
  exact Go.step st' (g T' ⟨i0, hE, hz, hB, V, locs, q0, X', e', hZ, hown, hS, hq, hF, hC, hK⟩)
theorem W.instNull (X : Wk l Z EL y bytes maxL ret R B0 p e s m args below meth c B T h k n) {index : Nat} (hd : decode bytes pc = .ok (.instanceof index, 3)) (hp : pc + 3 = pc') (g : Go l Z EL R B0 Q p e s m below T pc' ls (.int 0 :: st)) : Go l Z EL R B0 Q p e s m below T pc ls (.null :: st) := by
  obtain ⟨i0, hE, hz, hB, V, locs, q0, X1, eT, hZ, hown, hS, hq, hF, hC, hK⟩ := X
  subst hp
  exact Go.step (fun t hr => Jvm.Stand.instanceofNull X1 i0.1 (g := mkF m pc ls (.null :: st)) rfl rfl (i0.2.1 ▸ hd) t hr) g
theorem inst_ord {K : String} {n : Nat} (w : (Jvm.Cond.instantiable K n).before a0 Z = true) : ∃ t k, Z.vm.findClass K = some t ∧ Z.vm.classes[t]? = some k ∧ k.kind = .ordinary ∧ k.isInterface = false := by
  simp only [Cond.before, Cond.holds, Cond.value] at w
  cases ht : Z.vm.findClass K with
  | none => simp [ht] at w
  | some t =>
    cases hk : Z.vm.classes[t]? with
    | none => simp [ht, hk] at w
    | some k =>
      simp [ht, hk] at w
      exact ⟨t, k, rfl, hk, w.1.1.1, w.1.1.2.1⟩
theorem nsRoot {O K : String} {n : Nat} (wo : (Jvm.Cond.noSuperclass O).before a0 Z = true) (wk : (Jvm.Cond.instantiable K n).before a0 Z = true) (hn' : O ≠ K) : NS Z O K := by
  obtain ⟨t, kt, g0, g2, g5, g7⟩ := inst_ord wk
  obtain ⟨c, k, h1, h2, h3, -, -⟩ := Cond.noSuperclass_spec wo
  have ne := ids_ne h1 g0 hn'
  refine ⟨c, t, h1, g0, fun fuel => ?_⟩
  cases fuel with
  | zero => rfl
  | succ f => simp [Vm.isSubclassAux, ne, h2, h3]
theorem nsNo {C S K : String} {n : Nat} (w : (Jvm.Cond.superclass C S).before a0 Z = true) (wk : (Jvm.Cond.instantiable K n).before a0 Z = true) (N : NS Z S K) (hn : C ≠ K) : ∃ c t, Z.vm.findClass C = some c ∧ Z.vm.findClass K = some t ∧ Z.vm.assignable c t = false := by
  obtain ⟨t, kt, g0, g2, g5, g7⟩ := inst_ord wk
  obtain ⟨c, t', h0, g0', n3⟩ := NS.step w N hn
  cases g0.symm.trans g0'
  obtain ⟨p, k, kp, h1, h2, h3, h4, h5, -, h7⟩ := Cond.superclass_spec h0 w
  have ne := ids_ne h0 g0 hn
  refine ⟨c, t, h0, g0, ?_⟩
  show Z.vm.assignableAux (255 + 1) c t = false
  simp [Vm.assignableAux, ne, h2, g2, h5, g5, g7, Vm.isSubclass, n3]
theorem En.ext (E : En Z B h) (W : Ext h h') : En Z B h' := ⟨⟨Nat.le_trans E.1.1 W.1, fun x c q => W.2 x c (E.1.2 x c q)⟩, fun x r => Nat.lt_of_lt_of_le (E.2 x r) W.1⟩
theorem keepE (E : Ext h h') : Keep h h' [] := (Keep.refl h []).ext E
theorem W.new (X : Wk l Z EL y bytes maxL ret R B0 p e s m args below meth c B T h k n) {index sz : Nat} {C : String} (w : (Jvm.Cond.classLink y.cls index C).before a0 Z = true) (wi : (Jvm.Cond.instantiable C sz).before a0 Z = true) (wz : (Jvm.Cond.initialized C).before a0 Z = true) (hd : decode bytes pc = .ok (.new index, 3)) (hp : pc + 3 = pc') {k' n' : Nat} (hk : k + 1 ≤ k') (hn : n + sz ≤ n') (hk' : k' ≤ R.cells) (hn' : n' ≤ R.slots)
    (g : ∀ T' h' a, Wk l Z EL y bytes maxL ret R B0 p e s m args below meth c B T' h' k' n' → Keep h h' [] → h.size ≤ a → Z.heap.size ≤ a → ¬ B a → Exa Z h' a C → (∀ {O nm d : String} {ty : FieldType}, Laid Z a0 C O nm d → parseFieldDescriptor d = some ty → Fld Z h' a O nm d (defaultValue ty)) → Go l Z EL R B0 Q p e s m below T' pc' ls (.ref a :: st)) : Go l Z EL R B0 Q p e s m below T pc ls st := by
  have X0 := X
  obtain ⟨i0, hE, hz, hB, V, locs, q0, X1, eT, hZ, hown, hS, hq, hF, hC, hK⟩ := X
  obtain ⟨T', h', X', e', E, A, D, -, st'⟩ := RoadKit.newO X1 i0.1 hZ hown w wi wz eT (g := mkF m pc ls st) rfl (i0.2.1 ▸ hd) (Nat.le_trans hk hk') (Nat.le_trans hn hn')
  subst hp
  exact Go.step st' (g T' h' h.size ⟨i0, hE.ext E, Nat.le_trans hz E.1, hB, V, locs, q0, X'.mono hk hn, e', hZ, hown, hS, Nat.le_trans hq E.1, hF, hC.ext E, fun x r => hK x ((hC.step fun _ _ _ q => E.2 _ _ q).2 x r)⟩ (keepE E) (Nat.le_refl _) X0.z0 (X0.nb (Nat.le_refl _)) A D)
theorem W.newA (X : Wk l Z EL y bytes maxL ret R B0 p e s m args below meth c B T h k n) {aty : ArrayType} {z : Int32} {cap : Nat} (w : (Jvm.Cond.arrayClass (newarray.typeOf aty)).before a0 Z = true) (hd : decode bytes pc = .ok (.newarray aty, 2)) (hz0 : ¬ z < 0) (hcap : z.toNatClampNeg ≤ cap) (hcb : cap * 8 ≤ 536870912) (hp : pc + 2 = pc') {k' n' : Nat} (hk : k + 1 ≤ k') (hn : n + cap ≤ n') (hk' : k' ≤ R.cells) (hn' : n' ≤ R.slots)
    (g : ∀ T' h' a, Wk l Z EL y bytes maxL ret R B0 p e s m args below meth c B T' h' k' n' → Keep h h' [] → h.size ≤ a → Z.heap.size ≤ a → ¬ B a → Ar Z h' a (newarray.typeOf aty) (List.replicate z.toNatClampNeg (defaultValue (newarray.typeOf aty))) → Go l Z EL R B0 Q p e s m below T' pc' ls (.ref a :: st)) : Go l Z EL R B0 Q p e s m below T pc ls (.int z :: st) := by
  have X0 := X
  obtain ⟨i0, hE, hz, hB, V, locs, q0, X1, eT, hZ, hown, hS, hq, hF, hC, hK⟩ := X
  obtain ⟨T', h', cA, X', e', E, A, st'⟩ := RoadKit.newP X1 i0.1 hZ w eT (g := mkF m pc ls (.int z :: st)) rfl (i0.2.1 ▸ hd) rfl hz0 hcap hcb (Nat.le_trans hk hk') (Nat.le_trans hn hn')
  subst hp
  exact Go.step st' (g T' h' h.size ⟨i0, hE.ext E, Nat.le_trans hz E.1, hB, V, locs, q0, X'.mono hk hn, e', hZ, hown, hS, Nat.le_trans hq E.1, hF, hC.ext E, fun x r => hK x ((hC.step fun _ _ _ q => E.2 _ _ q).2 x r)⟩ (keepE E) (Nat.le_refl _) X0.z0 (X0.nb (Nat.le_refl _)) (Ar.new A hz0))
theorem W.newR (X : Wk l Z EL y bytes maxL ret R B0 p e s m args below meth c B T h k n) {index : Nat} {C : String} {z : Int32} {cap : Nat} (w1 : (Jvm.Cond.classLink y.cls index C).before a0 Z = true) (w2 : (Jvm.Cond.arrayOver (.object C)).before a0 Z = true) (hd : decode bytes pc = .ok (.anewarray index, 3)) (hz0 : ¬ z < 0) (hcap : z.toNatClampNeg ≤ cap) (hcb : cap * 8 ≤ 536870912) (hp : pc + 3 = pc') {k' n' : Nat} (hk : k + 1 ≤ k') (hn : n + cap ≤ n') (hk' : k' ≤ R.cells) (hn' : n' ≤ R.slots)
    (g : ∀ T' h' a, Wk l Z EL y bytes maxL ret R B0 p e s m args below meth c B T' h' k' n' → Keep h h' [] → h.size ≤ a → Z.heap.size ≤ a → ¬ B a → Ar Z h' a (.object C) (List.replicate z.toNatClampNeg .null) → Tk Z h' a C → Go l Z EL R B0 Q p e s m below T' pc' ls (.ref a :: st)) : Go l Z EL R B0 Q p e s m below T pc ls (.int z :: st) := by
  have X0 := X
  obtain ⟨i0, hE, hz, hB, V, locs, q0, X1, eT, hZ, hown, hS, hq, hF, hC, hK⟩ := X
  obtain ⟨T', h', cA, X', e', E, A, O, st'⟩ := RoadKit.newR X1 i0.1 hZ hown w1 w2 eT (g := mkF m pc ls (.int z :: st)) rfl (i0.2.1 ▸ hd) rfl hz0 hcap hcb (Nat.le_trans hk hk') (Nat.le_trans hn hn')
  subst hp
  exact Go.step st' (g T' h' h.size ⟨i0, hE.ext E, Nat.le_trans hz E.1, hB, V, locs, q0, X'.mono hk hn, e', hZ, hown, hS, Nat.le_trans hq E.1, hF, hC.ext E, fun x r => hK x ((hC.step fun _ _ _ q => E.2 _ _ q).2 x r)⟩ (keepE E) (Nat.le_refl _) X0.z0 (X0.nb (Nat.le_refl _)) (Ar.new A hz0) ⟨_, _, A, O⟩)
theorem W.alen (X : Wk l Z EL y bytes maxL ret R B0 p e s m args below meth c B T h k n) {z : Int32} (A : Ar Z h a ty vs) (hv : vs.length.toInt32 = z) (hd : decode bytes pc = .ok (.arraylength, 1)) (hp : pc + 1 = pc') (g : Go l Z EL R B0 Q p e s m below T pc' ls (.int z :: st)) : Go l Z EL R B0 Q p e s m below T pc ls (.ref a :: st) := by
  obtain ⟨i0, hE, hz, hB, V, locs, q0, X1, eT, hZ, hown, hS, hq, hF, hC, hK⟩ := X
  obtain ⟨cl, A, e1, -, -⟩ := A
  have e2 : cl.slots.size = vs.length := by rw [← e1]; simp
  subst hp hv
  rw [← e2] at g
  exact Go.step (fun t hr => X1.arraylength i0.1 (by rw [eT]; exact A.1) (State.isArrayOf_alike hZ.alike A.2.1) (g := mkF m pc ls (.ref a :: st)) rfl rfl (i0.2.1 ▸ hd) t hr) g
theorem W.caload (X : Wk l Z EL y bytes maxL ret R B0 p e s m args below meth c B T h k n) {j : Int32} {v : Value} (A : Ar Z h a .char vs) (hj : ¬ j < 0) (hv : vs[j.toNatClampNeg]? = some v) (hd : decode bytes pc = .ok (.caload, 1)) (hp : pc + 1 = pc') (g : Go l Z EL R B0 Q p e s m below T pc' ls (v :: st)) : Go l Z EL R B0 Q p e s m below T pc ls (.int j :: .ref a :: st) := by
  obtain ⟨i0, hE, hz, hB, V, locs, q0, X1, eT, hZ, hown, hS, hq, hF, hC, hK⟩ := X
  obtain ⟨cl, A, e1, -, -⟩ := A
  have e2 : cl.slots.size = vs.length := by rw [← e1]; simp
  have hlt : j.toNatClampNeg < vs.length := (List.getElem?_eq_some_iff.mp hv).1
  subst hp
  exact Go.step (fun t hr => X1.caload i0.1 (by rw [eT]; exact A.1) (State.isArrayOf_alike hZ.alike A.2.1) A.2.2 (fun r => r.elim hj fun z => by omega) (by rw [← Array.getElem?_toList, e1]; exact hv) (g := mkF m pc ls (.int j :: .ref a :: st)) rfl rfl (i0.2.1 ▸ hd) t hr) g
theorem W.baload (X : Wk l Z EL y bytes maxL ret R B0 p e s m args below meth c B T h k n) {j : Int32} {v : Value} (A : Ar Z h a .byte vs) (hj : ¬ j < 0) (hv : vs[j.toNatClampNeg]? = some v) (hd : decode bytes pc = .ok (.baload, 1)) (hp : pc + 1 = pc') (g : Go l Z EL R B0 Q p e s m below T pc' ls (v :: st)) : Go l Z EL R B0 Q p e s m below T pc ls (.int j :: .ref a :: st) := by
  obtain ⟨i0, hE, hz, hB, V, locs, q0, X1, eT, hZ, hown, hS, hq, hF, hC, hK⟩ := X
  obtain ⟨cl, A, e1, -, -⟩ := A
  have e2 : cl.slots.size = vs.length := by rw [← e1]; simp
  have hlt : j.toNatClampNeg < vs.length := (List.getElem?_eq_some_iff.mp hv).1
  subst hp
  exact Go.step (fun t hr => X1.baloadBytes i0.1 (by rw [eT]; exact A.1) (State.isArrayOf_alike hZ.alike A.2.1) A.2.2 (fun r => r.elim hj fun z => by omega) (by rw [← Array.getElem?_toList, e1]; exact hv) (g := mkF m pc ls (.int j :: .ref a :: st)) rfl rfl (i0.2.1 ▸ hd) t hr) g
theorem W.iaload (X : Wk l Z EL y bytes maxL ret R B0 p e s m args below meth c B T h k n) {j : Int32} {v : Value} (A : Ar Z h a .int vs) (hj : ¬ j < 0) (hv : vs[j.toNatClampNeg]? = some v) (hd : decode bytes pc = .ok (.iaload, 1)) (hp : pc + 1 = pc') (g : Go l Z EL R B0 Q p e s m below T pc' ls (v :: st)) : Go l Z EL R B0 Q p e s m below T pc ls (.int j :: .ref a :: st) := by
  obtain ⟨i0, hE, hz, hB, V, locs, q0, X1, eT, hZ, hown, hS, hq, hF, hC, hK⟩ := X
  obtain ⟨cl, A, e1, -, -⟩ := A
  have e2 : cl.slots.size = vs.length := by rw [← e1]; simp
  have hlt : j.toNatClampNeg < vs.length := (List.getElem?_eq_some_iff.mp hv).1
  subst hp
  exact Go.step (fun t hr => X1.iaload i0.1 (by rw [eT]; exact A.1) (State.isArrayOf_alike hZ.alike A.2.1) A.2.2 (fun r => r.elim hj fun z => by omega) (by rw [← Array.getElem?_toList, e1]; exact hv) (g := mkF m pc ls (.int j :: .ref a :: st)) rfl rfl (i0.2.1 ▸ hd) t hr) g
theorem W.laload (X : Wk l Z EL y bytes maxL ret R B0 p e s m args below meth c B T h k n) {j : Int32} {v : Value} (A : Ar Z h a .long vs) (hj : ¬ j < 0) (hv : vs[j.toNatClampNeg]? = some v) (hd : decode bytes pc = .ok (.laload, 1)) (hp : pc + 1 = pc') (g : Go l Z EL R B0 Q p e s m below T pc' ls (v :: st)) : Go l Z EL R B0 Q p e s m below T pc ls (.int j :: .ref a :: st) := by
  obtain ⟨i0, hE, hz, hB, V, locs, q0, X1, eT, hZ, hown, hS, hq, hF, hC, hK⟩ := X
  obtain ⟨cl, A, e1, -, -⟩ := A
  have e2 : cl.slots.size = vs.length := by rw [← e1]; simp
  have hlt : j.toNatClampNeg < vs.length := (List.getElem?_eq_some_iff.mp hv).1
  subst hp
  exact Go.step (fun t hr => X1.laload i0.1 (by rw [eT]; exact A.1) (State.isArrayOf_alike hZ.alike A.2.1) A.2.2 (fun r => r.elim hj fun z => by omega) (by rw [← Array.getElem?_toList, e1]; exact hv) (g := mkF m pc ls (.int j :: .ref a :: st)) rfl rfl (i0.2.1 ▸ hd) t hr) g
theorem W.zaload (X : Wk l Z EL y bytes maxL ret R B0 p e s m args below meth c B T h k n) {j : Int32} {v : Value} (A : Ar Z h a .boolean vs) (hj : ¬ j < 0) (hv : vs[j.toNatClampNeg]? = some v) (hd : decode bytes pc = .ok (.baload, 1)) (hp : pc + 1 = pc') (g : Go l Z EL R B0 Q p e s m below T pc' ls (v :: st)) : Go l Z EL R B0 Q p e s m below T pc ls (.int j :: .ref a :: st) := by
  obtain ⟨i0, hE, hz, hB, V, locs, q0, X1, eT, hZ, hown, hS, hq, hF, hC, hK⟩ := X
  obtain ⟨cl, A, e1, -, -⟩ := A
  have e2 : cl.slots.size = vs.length := by rw [← e1]; simp
  have hlt : j.toNatClampNeg < vs.length := (List.getElem?_eq_some_iff.mp hv).1
  subst hp
  exact Go.step (fun t hr => X1.baloadBooleans i0.1 (by rw [eT]; exact A.1) (State.isArrayOf_alike hZ.alike A.2.1) A.2.2 (fun r => r.elim hj fun z => by omega) (by rw [← Array.getElem?_toList, e1]; exact hv) (g := mkF m pc ls (.int j :: .ref a :: st)) rfl rfl (i0.2.1 ▸ hd) t hr) g
theorem W.aaload (X : Wk l Z EL y bytes maxL ret R B0 p e s m args below meth c B T h k n) {j : Int32} {v : Value} (A : Ar Z h a ty vs) (hty : ty.isReference = true) (hj : ¬ j < 0) (hv : vs[j.toNatClampNeg]? = some v) (hd : decode bytes pc = .ok (.aaload, 1)) (hp : pc + 1 = pc') (g : Go l Z EL R B0 Q p e s m below T pc' ls (v :: st)) : Go l Z EL R B0 Q p e s m below T pc ls (.int j :: .ref a :: st) := by
  obtain ⟨i0, hE, hz, hB, V, locs, q0, X1, eT, hZ, hown, hS, hq, hF, hC, hK⟩ := X
  obtain ⟨cl, A, e1, -, -⟩ := A
  have e2 : cl.slots.size = vs.length := by rw [← e1]; simp
  have hlt : j.toNatClampNeg < vs.length := (List.getElem?_eq_some_iff.mp hv).1
  subst hp
  exact Go.step (fun t hr => X1.aaload i0.1 (by rw [eT]; exact A.1) (State.isArrayOf_alike hZ.alike A.2.1) hty A.2.2 (fun r => r.elim hj fun z => by omega) (by rw [← Array.getElem?_toList, e1]; exact hv) (g := mkF m pc ls (.int j :: .ref a :: st)) rfl rfl (i0.2.1 ▸ hd) t hr) g
theorem Ar.set {cl : Cell} {i : Nat} {v : Value} (A : Arr Z h a cl ty) (e1 : cl.slots.toList = vs) (hl : vs.length < 2 ^ 31) (hf : ∀ v ∈ vs, fits ty v = true) (hv : fits ty v = true) (W : Wr h h' a i v) : Ar Z h' a ty (vs.set i v) :=
  ⟨_, A.same W, by simp [Cell.setSlot, ← e1], by simpa using hl, fun w hw => (List.mem_or_eq_of_mem_set hw).elim (hf w) fun q => q ▸ hv⟩
theorem W.castore (X : Wk l Z EL y bytes maxL ret R B0 p e s m args below meth c B T h k n) {j : Int32} {x x' : Int32} {i : Nat} (A : Ar Z h a .char vs) (hj : ¬ j < 0) (hi : j.toNatClampNeg = i) (hl : i < vs.length) (hx : nar .char x = x') (ha : Z.heap.size ≤ a) (hnb : ¬ B a) (hd : decode bytes pc = .ok (.castore, 1)) (hp : pc + 1 = pc') (g : ∀ T' h', Wk l Z EL y bytes maxL ret R B0 p e s m args below meth c B T' h' k n → Keep h h' [a] → Ar Z h' a .char (vs.set i (.int x')) → Go l Z EL R B0 Q p e s m below T' pc' ls st) : Go l Z EL R B0 Q p e s m below T pc ls (.int x :: .int j :: .ref a :: st) := by
  obtain ⟨i0, hE, hz, hB, V, locs, q0, X1, eT, hZ, hown, hS, hq, hF, hC, hK⟩ := X
  obtain ⟨cl, A, e1, hl31, hfit⟩ := A
  have e2 : cl.slots.size = vs.length := by rw [← e1]; simp
  subst hi hx
  obtain ⟨T', h', X', e', W, st'⟩ := RoadKit.stC X1 i0.1 hZ eT A (fun r => r.elim hj fun z => by omega) (g := mkF m pc ls (.int x :: .int j :: .ref a :: st)) rfl rfl (i0.2.1 ▸ hd)
  subst hp
  have S : Safe Z EL V h a := fun r => hnb (hK a r)
  exact Go.step st' (g T' h' ⟨i0, hE.wr W ha, by rw [W.size]; exact hz, hB, V, _, q0, X', e', hZ, hown, hS, by rw [W.size]; exact hq, Fr.snoc X' hF ha, hC.wr W S, fun x r => hK x ((hC.wrStep W S).2 x r)⟩ (Keep.of_wr W) (Ar.set A e1 hl31 hfit (fits_nar_char x) W))
theorem W.bastore (X : Wk l Z EL y bytes maxL ret R B0 p e s m args below meth c B T h k n) {j : Int32} {x x' : Int32} {i : Nat} (A : Ar Z h a .byte vs) (hj : ¬ j < 0) (hi : j.toNatClampNeg = i) (hl : i < vs.length) (hx : nar .byte x = x') (ha : Z.heap.size ≤ a) (hnb : ¬ B a) (hd : decode bytes pc = .ok (.bastore, 1)) (hp : pc + 1 = pc') (g : ∀ T' h', Wk l Z EL y bytes maxL ret R B0 p e s m args below meth c B T' h' k n → Keep h h' [a] → Ar Z h' a .byte (vs.set i (.int x')) → Go l Z EL R B0 Q p e s m below T' pc' ls st) : Go l Z EL R B0 Q p e s m below T pc ls (.int x :: .int j :: .ref a :: st) := by
  obtain ⟨i0, hE, hz, hB, V, locs, q0, X1, eT, hZ, hown, hS, hq, hF, hC, hK⟩ := X
  obtain ⟨cl, A, e1, hl31, hfit⟩ := A
  have e2 : cl.slots.size = vs.length := by rw [← e1]; simp
  subst hi hx
  obtain ⟨T', h', X', e', W, st'⟩ := RoadKit.stB X1 i0.1 hZ eT A (fun r => r.elim hj fun z => by omega) (g := mkF m pc ls (.int x :: .int j :: .ref a :: st)) rfl rfl (i0.2.1 ▸ hd)
  subst hp
  have S : Safe Z EL V h a := fun r => hnb (hK a r)
  exact Go.step st' (g T' h' ⟨i0, hE.wr W ha, by rw [W.size]; exact hz, hB, V, _, q0, X', e', hZ, hown, hS, by rw [W.size]; exact hq, Fr.snoc X' hF ha, hC.wr W S, fun x r => hK x ((hC.wrStep W S).2 x r)⟩ (Keep.of_wr W) (Ar.set A e1 hl31 hfit (fits_nar_byte x) W))
theorem W.iastore (X : Wk l Z EL y bytes maxL ret R B0 p e s m args below meth c B T h k n) {j : Int32} {x x' : Int32} {i : Nat} (A : Ar Z h a .int vs) (hj : ¬ j < 0) (hi : j.toNatClampNeg = i) (hl : i < vs.length) (hx : x = x') (ha : Z.heap.size ≤ a) (hnb : ¬ B a) (hd : decode bytes pc = .ok (.iastore, 1)) (hp : pc + 1 = pc') (g : ∀ T' h', Wk l Z EL y bytes maxL ret R B0 p e s m args below meth c B T' h' k n → Keep h h' [a] → Ar Z h' a .int (vs.set i (.int x')) → Go l Z EL R B0 Q p e s m below T' pc' ls st) : Go l Z EL R B0 Q p e s m below T pc ls (.int x :: .int j :: .ref a :: st) := by
  obtain ⟨i0, hE, hz, hB, V, locs, q0, X1, eT, hZ, hown, hS, hq, hF, hC, hK⟩ := X
  obtain ⟨cl, A, e1, hl31, hfit⟩ := A
  have e2 : cl.slots.size = vs.length := by rw [← e1]; simp
  subst hi hx
  obtain ⟨T', h', X', e', W, st'⟩ := RoadKit.stI X1 i0.1 hZ eT A (fun r => r.elim hj fun z => by omega) (g := mkF m pc ls (.int x :: .int j :: .ref a :: st)) rfl rfl (i0.2.1 ▸ hd)
  subst hp
  have S : Safe Z EL V h a := fun r => hnb (hK a r)
  exact Go.step st' (g T' h' ⟨i0, hE.wr W ha, by rw [W.size]; exact hz, hB, V, _, q0, X', e', hZ, hown, hS, by rw [W.size]; exact hq, Fr.snoc X' hF ha, hC.wr W S, fun x r => hK x ((hC.wrStep W S).2 x r)⟩ (Keep.of_wr W) (Ar.set A e1 hl31 hfit (rfl) W))
theorem W.lastore (X : Wk l Z EL y bytes maxL ret R B0 p e s m args below meth c B T h k n) {j : Int32} {x x' : Int64} {i : Nat} (A : Ar Z h a .long vs) (hj : ¬ j < 0) (hi : j.toNatClampNeg = i) (hl : i < vs.length) (hx : x = x') (ha : Z.heap.size ≤ a) (hnb : ¬ B a) (hd : decode bytes pc = .ok (.lastore, 1)) (hp : pc + 1 = pc') (g : ∀ T' h', Wk l Z EL y bytes maxL ret R B0 p e s m args below meth c B T' h' k n → Keep h h' [a] → Ar Z h' a .long (vs.set i (.long x')) → Go l Z EL R B0 Q p e s m below T' pc' ls st) : Go l Z EL R B0 Q p e s m below T pc ls (.long x :: .int j :: .ref a :: st) := by
  obtain ⟨i0, hE, hz, hB, V, locs, q0, X1, eT, hZ, hown, hS, hq, hF, hC, hK⟩ := X
  obtain ⟨cl, A, e1, hl31, hfit⟩ := A
  have e2 : cl.slots.size = vs.length := by rw [← e1]; simp
  subst hi hx
  obtain ⟨T', h', X', e', W, st'⟩ := RoadKit.stJ X1 i0.1 hZ eT A (fun r => r.elim hj fun z => by omega) (g := mkF m pc ls (.long x :: .int j :: .ref a :: st)) rfl rfl (i0.2.1 ▸ hd)
  subst hp
  have S : Safe Z EL V h a := fun r => hnb (hK a r)
  exact Go.step st' (g T' h' ⟨i0, hE.wr W ha, by rw [W.size]; exact hz, hB, V, _, q0, X', e', hZ, hown, hS, by rw [W.size]; exact hq, Fr.snoc X' hF ha, hC.wr W S, fun x r => hK x ((hC.wrStep W S).2 x r)⟩ (Keep.of_wr W) (Ar.set A e1 hl31 hfit (rfl) W))
theorem W.aastore (X : Wk l Z EL y bytes maxL ret R B0 p e s m args below meth c B T h k n) {j : Int32} {v : Value} {i : Nat} (A : Ar Z h a ty vs) (hj : ¬ j < 0) (hi : j.toNatClampNeg = i) (hl : i < vs.length) (hty : ty.isReference = true) (F : Sto Z h a v) (hvf : fits ty v = true) (ha : Z.heap.size ≤ a) (hnb : ¬ B a) (hd : decode bytes pc = .ok (.aastore, 1)) (hp : pc + 1 = pc') (g : ∀ T' h', Wk l Z EL y bytes maxL ret R B0 p e s m args below meth c B T' h' k n → Keep h h' [a] → Ar Z h' a ty (vs.set i v) → Go l Z EL R B0 Q p e s m below T' pc' ls st) : Go l Z EL R B0 Q p e s m below T pc ls (v :: .int j :: .ref a :: st) := by
  obtain ⟨i0, hE, hz, hB, V, locs, q0, X1, eT, hZ, hown, hS, hq, hF, hC, hK⟩ := X
  obtain ⟨cl, A, e1, hl31, hfit⟩ := A
  have e2 : cl.slots.size = vs.length := by rw [← e1]; simp
  subst hi
  obtain ⟨T', h', X', e', W, st'⟩ := RoadKit.stR X1 i0.1 hZ eT A (fun r => r.elim hj fun z => by omega) hty F (g := mkF m pc ls (v :: .int j :: .ref a :: st)) rfl rfl (i0.2.1 ▸ hd)
  subst hp
  have S : Safe Z EL V h a := fun r => hnb (hK a r)
  exact Go.step st' (g T' h' ⟨i0, hE.wr W ha, by rw [W.size]; exact hz, hB, V, _, q0, X', e', hZ, hown, hS, by rw [W.size]; exact hq, Fr.snoc X' hF ha, hC.wr W S, fun x r => hK x ((hC.wrStep W S).2 x r)⟩ (Keep.of_wr W) (Ar.set A e1 hl31 hfit hvf W))
theorem Sto.tk {C : String} (F : Tk Z h a C) (I : Ins Z h b C true) : Sto Z h a (.ref b) := by obtain ⟨c, ty, A, O⟩ := F; exact Sto.of A O I
/-! Object.<init> -/
theorem W.initO (X : Wk l Z EL y bytes maxL ret R B0 p e s m args below meth c B T h k n) {idx W : Nat} (w1 : (Jvm.Cond.methodLink y.cls idx Lib.objectInit).before a0 Z = true) (w2 : (Jvm.Cond.instanceMethod Lib.objectInit).before a0 Z = true) (w3 : (Jvm.Cond.code Lib.objectInit ⟨#[0xb1]⟩ 1 none).before a0 Z = true) (hd : decode bytes pc = .ok (.invokespecial idx, 3)) (hsize : ls.size = maxL) (hf : 1 ≤ R.frames) (hW : (st.map fun v => v.category).sum ≤ W) (hl : W + 12 ≤ R.locals) (hp : pc + 3 = pc') (g : ∀ T', Wk l Z EL y bytes maxL ret R B0 p e s m args below meth c B T' h k n → Go l Z EL R B0 Q p e s m below T' pc' ls st) : Go l Z EL R B0 Q p e s m below T pc ls (.ref a :: st) := by
  obtain ⟨i0, hE, hz, hB, V, locs, q0, X1, eT, hZ, hown, hS, hq, hF, hC, hK⟩ := X
  obtain ⟨T', X', e', st'⟩ := RoadKit.initO X1 i0.1 hZ hown w1 w2 w3 eT (g := mkF m pc ls (.ref a :: st)) rfl (hsize.trans i0.2.2.1.symm) rfl (i0.2.1 ▸ hd) hf (W := W) (by show 2 * 0 + _ ≤ _; omega) hl
  subst hp
  exact Go.step st' (g T' ⟨i0, hE, hz, hB, V, locs, q0, X', e', hZ, hown, hS, hq, hF, hC, hK⟩)
theorem sameM {C : String} {z z' : MethodName} (hc : z.cls = z'.cls) (hy : z.cls ≠ "java/lang/invoke/MethodHandle" ∧ z.cls ≠ "java/lang/invoke/VarHandle") (wi : (Jvm.Cond.instanceMethod z).before a0 Z = true) (ws : (Jvm.Cond.selects C z' z').before a0 Z = true) : (Jvm.Cond.sameMethod z.cls z.cls z.name z.desc).before a0 Z = true := by
  obtain ⟨mk, methM, hnamed, -, -, -⟩ := Cond.instanceMethod_spec wi
  obtain ⟨c2, r2, m2, q1, q2, q3, q4, kP, hkP, hkPi⟩ := Cond.selects_spec ws
  have f1 := findClass_of_methodNamed hnamed
  have f2 := findClass_of_methodNamed q3
  rw [← hc, f1] at f2
  have e : mk.cls = m2.cls := Option.some.inj f2
  have hf : Z.methodFound? z.cls z.name z.desc = some mk := State.methodFound?_of_named hnamed hy
  have hn' : Z.methodNamed? ⟨z.cls, z.name, z.desc⟩ = some mk := hnamed
  simp [Cond.before, Cond.holds, Cond.value, f1, hf, hn', e, hkP, hkPi]
theorem nfM {C : String} {z z' : MethodName} (hc : z.cls = z'.cls) (ws : (Jvm.Cond.selects C z' z').before a0 Z = true) : NotFace Z z := fun r0 h0 => by
  obtain ⟨c2, r2, m2, q1, q2, q3, q4, kP, hkP, hkPi⟩ := Cond.selects_spec ws
  have f1 := findClass_of_methodNamed h0
  have f2 := findClass_of_methodNamed q3
  rw [← hc, f1] at f2
  have e : r0.cls = m2.cls := Option.some.inj f2
  exact ⟨kP, by rw [e]; exact hkP, hkPi⟩
/-! calls -/
theorem BackS.con {z : MethodName} {zb : ByteArray} {zl len W : Nat} {zr : Option FieldType} {rm : Room} {as' : Array Value} {Qc : Option Value → Heap → (Addr → Prop) → Prop} {V : Vm} (K : Con l Z EL [] z zb zl zr rm B h as' Qc) (hZ : Z.Warmed39 V) (wc : (Jvm.Cond.code z zb zl zr).before a0 Z = true) (wz : (Jvm.Cond.initialized z.cls).before a0 Z = true) (hf : rm.frames + 1 ≤ R.frames) (hl : W + (zl + 11) + rm.locals ≤ R.locals) {a1 : Array Value} (hEL : EW Z a1 EL) (H : CHv Z EL V h) (hK : ∀ x, Bk Z EL V h x → B x) :
    BackS l R p e below (s.setVm V) args z len W (fun A a => a = as' ∧ A.U.heap = h ∧ A.cells + rm.cells ≤ R.cells ∧ A.slots + rm.slots ≤ R.slots)
      (fun A _ v B1 => ∃ L B', B1.locs = A.locs ++ L ∧ B1.cells = A.cells + rm.cells ∧ B1.slots = A.slots + rm.slots ∧ Fr Z.heap.size L ∧ CHv Z EL B1.U.vm B1.U.heap ∧ (∀ x, Bk Z EL B1.U.vm B1.U.heap x → B' x) ∧ (∀ x, B' x → B x ∨ h.size ≤ x) ∧ En Z B' B1.U.heap ∧ h.size ≤ B1.U.heap.size ∧ Qc v B1.U.heap B') :=
  BackS.of_freeW (bytes := zb) (maxL := zl) (ret := zr) (E := fun _ first o t L k n => k = rm.cells ∧ n = rm.slots ∧ ∃ v B', o = .returned v ∧ Fr Z.heap.size L ∧ CHv Z EL t.vm t.heap ∧ (∀ x, Bk Z EL t.vm t.heap x → B' x) ∧ (∀ x, B' x → B x ∨ h.size ≤ x) ∧ En Z B' t.heap ∧ h.size ≤ t.heap.size ∧ Qc v t.heap B') K hf hl
    (fun m meth c A a Y hp => have hU : Z.Warmed39 A.U.vm := wtrans (s := s.setVm V) hZ Y.warmed
      ⟨by show (Jvm.Cond.and _ .tt).before a A.U = true; rw [Cond.before_and, mv hU wc]; rfl, mv hU wc, mv hU wz, hp.2.2.1, hp.2.2.2⟩)
    (fun m meth c A a g mk Y hp => ⟨hp.1, wtrans (s := s.setVm V) hZ Y.warmed, hp.2.1, (CHv.at Y hZ hEL H).1, fun x r => by
      rcases (CHv.at Y hZ hEL H).2.2 x r with q | q
      · exact hK x q
      · obtain ⟨cell, q2⟩ := r.there
        exact absurd (Array.getElem?_eq_some_iff.mp q2).1 (Nat.not_lt.mpr q)⟩) (fun _ _ _ _ _ _ _ _ _ => trivial)
    (fun _ _ _ _ ⟨v, L, B', h1, h2, h3, h4, h5, h6, h7, h8, h9⟩ => ⟨L, _, _, h9, rfl, rfl, v, B', h1, h2, h3, h4, h5, h6, h7, h8⟩)
    (fun m meth c A a g mk v t L k n Y hp _ _ ⟨e1, e2, v', B', e3, e4, e5, e6, e7, e8, e9, e10⟩ => by
      cases e3; subst e1 e2
      exact ⟨L, B', rfl, rfl, rfl, e4, e5, e6, e7, e8, e9, e10⟩)
/-- behind a call -/
theorem Wk.after {V : Vm} {q0 : Nat} {locs : List Loc} {U : State} {L : List Loc} {B' : Addr → Prop} {k1 n1 : Nat} (i0 : p.tables.exec = Jvm.exec ∧ c.code = bytes ∧ c.maxLocals = maxL ∧ meth.sig.returnType = ret ∧ meth.locks = false ∧ meth.name = y.name ∧ ∃ a1, EW Z a1 EL) (hz : s.heap.size ≤ h.size) (hB : ∀ x, B x → B0 x ∨ s.heap.size ≤ x) (hZ : Z.Warmed39 V) (hown : V.findClass y.cls = some m.cls) (hS : s.Since V q0) (hq : q0 ≤ h.size) (hF : Fr Z.heap.size locs)
    (X2 : Stand p l e R ((s.setVm V).setVm U.vm) m args below meth c U (locs ++ L) k1 n1) (hS2 : (s.setVm V).Since U.vm U.heap.size) (r1 : Fr Z.heap.size L) (r2 : CHv Z EL U.vm U.heap) (r3 : ∀ x, Bk Z EL U.vm U.heap x → B' x) (r4 : ∀ x, B' x → B x ∨ h.size ≤ x) (r5 : En Z B' U.heap) (r6 : h.size ≤ U.heap.size) : Wk l Z EL y bytes maxL ret R B0 p e s m args below meth c B' U U.heap k1 n1 :=
  ⟨i0, r5, Nat.le_trans hz r6, fun x r => (r4 x r).elim (hB x) fun q => Or.inr (Nat.le_trans hz q), U.vm, locs ++ L, U.heap.size, X2, rfl, State.Warmed39.trans (t := s.setVm V) hZ hS2.1, (hS2.1.alike.findClass _ _).trans hown, hS.trans hS2 (Nat.le_trans hq r6), Nat.le_refl _, hF.app r1, r2, r3⟩
theorem W.callS (X : Wk l Z EL y bytes maxL ret R B0 p e s m args below meth c B T h k n) {index : Nat} {z : MethodName} {zb : ByteArray} {zl W : Nat} {zr : Option FieldType} {rm : Room} {as' : Array Value} {Qc : Option Value → Heap → (Addr → Prop) → Prop} {argsL stk : List Value} (K : Con l Z EL [] z zb zl zr rm B h as' Qc) (w1 : (Jvm.Cond.methodLink y.cls index z).before a0 Z = true) (w2 : (Jvm.Cond.static z).before a0 Z = true) (wc : (Jvm.Cond.code z zb zl zr).before a0 Z = true) (wz : (Jvm.Cond.initialized z.cls).before a0 Z = true) (hy : z.cls ≠ "java/lang/invoke/MethodHandle" ∧ z.cls ≠ "java/lang/invoke/VarHandle") (hf : rm.frames + 1 ≤ R.frames) (hl : W + (zl + 11) + rm.locals ≤ R.locals) (hsize : ls.size = maxL)
    (hlen : ∀ sig, parseMethodDescriptor z.desc = some sig → argsL.length = sig.parameters.length) (has : argsL.toArray = as') (hstk : stk = argsL.reverse ++ st) (hW : (st.map fun v => v.category).sum ≤ W) (hd : decode bytes pc = .ok (.invokestatic index, 3)) (hp : pc + 3 = pc') {k' n' : Nat} (hk1 : k + rm.cells ≤ k') (hn1 : n + rm.slots ≤ n') (hk2 : k' ≤ R.cells) (hn2 : n' ≤ R.slots)
    (g : ∀ T' h' B' v, Wk l Z EL y bytes maxL ret R B0 p e s m args below meth c B' T' h' k' n' → h.size ≤ h'.size → (∀ x, B' x → B x ∨ h.size ≤ x) → Qc v h' B' → Go l Z EL R B0 Q p e s m below T' pc' ls (v.toList ++ st)) : Go l Z EL R B0 Q p e s m below T pc ls stk := by
  obtain ⟨i0, hE, hz, hB, V, locs, q0, X1, eT, hZ, hown, hS, hq, hF, hC, hK⟩ := X
  obtain ⟨a1, hEL⟩ := i0.2.2.2.2.2.2
  obtain ⟨v, vm₁, ⟨U, Lu, ku, nu⟩, hWv, X2, hS2, hgr, ⟨L, B', e1, e2, e3, r1, r2, r3, r4, r5, r6, r7⟩, st'⟩ := Jvm.RoadKit.callSS X1 i0.1 (y := z) hown (mv (s := s.setVm V) hZ w1) (mv (s := s.setVm V) hZ w2) (mv (s := s.setVm V) hZ wz) (mv (s := s.setVm V) hZ wc) hy (BackS.con K hZ wc wz hf hl hEL hC hK) (g := mkF m pc ls stk) rfl (hsize.trans i0.2.2.1.symm) (argsL := argsL) (rest := st) hlen hstk (by show 2 * 0 + _ ≤ _; omega) (i0.2.1 ▸ hd) (fun _ _ => ⟨has, eT, by show k + _ ≤ _; omega, by show n + _ ≤ _; omega⟩)
  dsimp only [Pt.U, Pt.locs, Pt.cells, Pt.slots] at X2 hS2 hgr e1 e2 e3 r2 r3 r5 r6 r7 st'
  subst e1 e2 e3 hp
  exact Go.via st' (g U U.heap B' v ((Wk.after i0 hz hB hZ hown hS hq hF X2 hS2 r1 r2 r3 r4 r5 r6).mono hk1 hn1) r6 r4 r7)
theorem W.callV (X : Wk l Z EL y bytes maxL ret R B0 p e s m args below meth c B T h k n) {index : Nat} {z : MethodName} {zi : MethodName} {C : String} {zb : ByteArray} {zl W : Nat} {zr : Option FieldType} {rm : Room} {as' : Array Value} {Qc : Option Value → Heap → (Addr → Prop) → Prop} {argsL stk : List Value} (K : Con l Z EL [] z zb zl zr rm B h as' Qc) (w1 : (Jvm.Cond.methodLink y.cls index zi).before a0 Z = true) (w2 : (Jvm.Cond.declares zi).before a0 Z = true) (w3 : NotFace Z zi) (w4 : (Jvm.Cond.selects C zi z).before a0 Z = true) (w5 : (Jvm.Cond.instanceMethod z).before a0 Z = true) (E : Exa Z h a C) (wc : (Jvm.Cond.code z zb zl zr).before a0 Z = true) (wz : (Jvm.Cond.initialized z.cls).before a0 Z = true) (hy : zi.cls ≠ "java/lang/invoke/MethodHandle" ∧ zi.cls ≠ "java/lang/invoke/VarHandle") (hf : rm.frames + 1 ≤ R.frames) (hl : W + (zl + 11) + rm.locals ≤ R.locals) (hsize : ls.size = maxL)
    (hlen : ∀ sig, parseMethodDescriptor zi.desc = some sig → argsL.length = sig.parameters.length) (has : (.ref a :: argsL).toArray = as') (hstk : stk = argsL.reverse ++ .ref a :: st) (hW : (st.map fun v => v.category).sum ≤ W) (hd : decode bytes pc = .ok (.invokevirtual index, 3)) (hp : pc + 3 = pc') {k' n' : Nat} (hk1 : k + rm.cells ≤ k') (hn1 : n + rm.slots ≤ n') (hk2 : k' ≤ R.cells) (hn2 : n' ≤ R.slots)
    (g : ∀ T' h' B' v, Wk l Z EL y bytes maxL ret R B0 p e s m args below meth c B' T' h' k' n' → h.size ≤ h'.size → (∀ x, B' x → B x ∨ h.size ≤ x) → Qc v h' B' → Go l Z EL R B0 Q p e s m below T' pc' ls (v.toList ++ st)) : Go l Z EL R B0 Q p e s m below T pc ls stk := by
  obtain ⟨i0, hE, hz, hB, V, locs, q0, X1, eT, hZ, hown, hS, hq, hF, hC, hK⟩ := X
  obtain ⟨a1, hEL⟩ := i0.2.2.2.2.2.2
  obtain ⟨cB, kB, j1, j2, j3⟩ := isOf (s := s.setVm V) hZ eT E
  have w3' : NotFace (s.setVm V) zi := fun r0 h0 => by
    have h0' : (Z.setVm V).methodNamed? zi = some r0 := h0
    rw [State.methodNamed?_setVm hZ.alike] at h0'
    obtain ⟨kr, q1, q2⟩ := w3 r0 h0'
    obtain ⟨k2, q3, q4⟩ := hZ.alike.2.2 _ _ q1
    exact ⟨k2, q3, by rw [q4]; exact q2⟩
  obtain ⟨v, vm₁, ⟨U, Lu, ku, nu⟩, hWv, X2, hS2, hgr, ⟨L, B', e1, e2, e3, r1, r2, r3, r4, r5, r6, r7⟩, st'⟩ := X1.virtualBackS i0.1 (y := zi) (z := z) hown (mv (s := s.setVm V) hZ w1) (mv (s := s.setVm V) hZ w2) w3' (mv (s := s.setVm V) hZ w4) (mv (s := s.setVm V) hZ w5) hy (BackS.con K hZ wc wz hf hl hEL hC hK) j1 j3 (g := mkF m pc ls stk) rfl (hsize.trans i0.2.2.1.symm) (Steps.refl _) (argsL := argsL) (rest := st) hlen hstk (by show 2 * 0 + _ ≤ _; omega) (i0.2.1 ▸ hd) (fun _ _ => ⟨has, eT, by show k + _ ≤ _; omega, by show n + _ ≤ _; omega⟩)
  dsimp only [Pt.U, Pt.locs, Pt.cells, Pt.slots] at X2 hS2 hgr e1 e2 e3 r2 r3 r5 r6 r7 st'
  subst e1 e2 e3 hp
  exact Go.via st' (g U U.heap B' v ((Wk.after i0 hz hB hZ hown hS hq hF X2 hS2 r1 r2 r3 r4 r5 r6).mono hk1 hn1) r6 r4 r7)
theorem W.callI (X : Wk l Z EL y bytes maxL ret R B0 p e s m args below meth c B T h k n) {index : Nat} {count : Nat} {z : MethodName} {zi : MethodName} {C : String} {zb : ByteArray} {zl W : Nat} {zr : Option FieldType} {rm : Room} {as' : Array Value} {Qc : Option Value → Heap → (Addr → Prop) → Prop} {argsL stk : List Value} (K : Con l Z EL [] z zb zl zr rm B h as' Qc) (w1 : (Jvm.Cond.methodLink y.cls index zi).before a0 Z = true) (w2 : (Jvm.Cond.declares zi).before a0 Z = true) (w3 : (Jvm.Cond.interfaceMethod zi.cls zi.cls zi.name zi.desc).before a0 Z = true) (w4 : (Jvm.Cond.selects C zi z).before a0 Z = true) (w5 : (Jvm.Cond.instanceMethod z).before a0 Z = true) (w6 : (Jvm.Cond.publicMethod z).before a0 Z = true) (w7 : (Jvm.Cond.unhidden C zi.name zi.desc).before a0 Z = true) (w8 : (Jvm.Cond.castable C zi.cls).before a0 Z = true) (E : Exa Z h a C) (wc : (Jvm.Cond.code z zb zl zr).before a0 Z = true) (wz : (Jvm.Cond.initialized z.cls).before a0 Z = true) (hy : zi.cls ≠ "java/lang/invoke/MethodHandle" ∧ zi.cls ≠ "java/lang/invoke/VarHandle") (hf : rm.frames + 1 ≤ R.frames) (hl : W + (zl + 11) + rm.locals ≤ R.locals) (hsize : ls.size = maxL)
    (hlen : ∀ sig, parseMethodDescriptor zi.desc = some sig → argsL.length = sig.parameters.length) (has : (.ref a :: argsL).toArray = as') (hstk : stk = argsL.reverse ++ .ref a :: st) (hW : (st.map fun v => v.category).sum ≤ W) (hd : decode bytes pc = .ok (.invokeinterface index count, 5)) (hp : pc + 5 = pc') {k' n' : Nat} (hk1 : k + rm.cells ≤ k') (hn1 : n + rm.slots ≤ n') (hk2 : k' ≤ R.cells) (hn2 : n' ≤ R.slots)
    (g : ∀ T' h' B' v, Wk l Z EL y bytes maxL ret R B0 p e s m args below meth c B' T' h' k' n' → h.size ≤ h'.size → (∀ x, B' x → B x ∨ h.size ≤ x) → Qc v h' B' → Go l Z EL R B0 Q p e s m below T' pc' ls (v.toList ++ st)) : Go l Z EL R B0 Q p e s m below T pc ls stk := by
  obtain ⟨i0, hE, hz, hB, V, locs, q0, X1, eT, hZ, hown, hS, hq, hF, hC, hK⟩ := X
  obtain ⟨a1, hEL⟩ := i0.2.2.2.2.2.2
  obtain ⟨cB, kB, j1, j2, j3⟩ := isOf (s := s.setVm V) hZ eT E
  obtain ⟨v, vm₁, ⟨U, Lu, ku, nu⟩, hWv, X2, hS2, hgr, ⟨L, B', e1, e2, e3, r1, r2, r3, r4, r5, r6, r7⟩, st'⟩ := X1.interfaceBackS i0.1 (xi := zi) (y := z) hown (mv (s := s.setVm V) hZ w1) (mv (s := s.setVm V) hZ w2) (mv (s := s.setVm V) hZ w3 (by simp [Cond.onTables, Cond.keepsFace, Cond.keeps, Cond.steady, Cond.faceAtom, hy.1, hy.2])) (mv (s := s.setVm V) hZ w4) (mv (s := s.setVm V) hZ w5) (mv (s := s.setVm V) hZ w6) (mv (s := s.setVm V) hZ w7) (mv (s := s.setVm V) hZ w8) hy (BackS.con K hZ wc wz hf hl hEL hC hK) j1 j2 j3 (g := mkF m pc ls stk) rfl (hsize.trans i0.2.2.1.symm) (Steps.refl _) (argsL := argsL) (rest := st) hlen hstk (by show 2 * 0 + _ ≤ _; omega) (i0.2.1 ▸ hd) (fun _ _ => ⟨has, eT, by show k + _ ≤ _; omega, by show n + _ ≤ _; omega⟩)
  dsimp only [Pt.U, Pt.locs, Pt.cells, Pt.slots] at X2 hS2 hgr e1 e2 e3 r2 r3 r5 r6 r7 st'
  subst e1 e2 e3 hp
  exact Go.via st' (g U U.heap B' v ((Wk.after i0 hz hB hZ hown hS hq hF X2 hS2 r1 r2 r3 r4 r5 r6).mono hk1 hn1) r6 r4 r7)
theorem W.callN (X : Wk l Z EL y bytes maxL ret R B0 p e s m args below meth c B T h k n) {index : Nat} {z : MethodName} {zb : ByteArray} {zl W : Nat} {rm : Room} {as' : Array Value} {Qc : Option Value → Heap → (Addr → Prop) → Prop} {argsL stk : List Value} (K : Con l Z EL [] z zb zl none rm B h as' Qc) (hn : z.name = "<init>") (w1 : (Jvm.Cond.methodLink y.cls index z).before a0 Z = true) (w2 : (Jvm.Cond.instanceMethod z).before a0 Z = true) (wc : (Jvm.Cond.code z zb zl none).before a0 Z = true) (wz : (Jvm.Cond.initialized z.cls).before a0 Z = true) (hy : z.cls ≠ "java/lang/invoke/MethodHandle" ∧ z.cls ≠ "java/lang/invoke/VarHandle") (hf : rm.frames + 1 ≤ R.frames) (hl : W + (zl + 11) + rm.locals ≤ R.locals) (hsize : ls.size = maxL)
    (hlen : ∀ sig, parseMethodDescriptor z.desc = some sig → argsL.length = sig.parameters.length) (has : (.ref a :: argsL).toArray = as') (hstk : stk = argsL.reverse ++ .ref a :: st) (hW : (st.map fun v => v.category).sum ≤ W) (hd : decode bytes pc = .ok (.invokespecial index, 3)) (hp : pc + 3 = pc') {k' n' : Nat} (hk1 : k + rm.cells ≤ k') (hn1 : n + rm.slots ≤ n') (hk2 : k' ≤ R.cells) (hn2 : n' ≤ R.slots)
    (g : ∀ T' h' B' v, Wk l Z EL y bytes maxL ret R B0 p e s m args below meth c B' T' h' k' n' → h.size ≤ h'.size → (∀ x, B' x → B x ∨ h.size ≤ x) → Qc v h' B' → Go l Z EL R B0 Q p e s m below T' pc' ls (v.toList ++ st)) : Go l Z EL R B0 Q p e s m below T pc ls stk := by
  obtain ⟨i0, hE, hz, hB, V, locs, q0, X1, eT, hZ, hown, hS, hq, hF, hC, hK⟩ := X
  obtain ⟨a1, hEL⟩ := i0.2.2.2.2.2.2
  obtain ⟨v, vm₁, ⟨U, Lu, ku, nu⟩, hWv, X2, hS2, hgr, ⟨L, B', e1, e2, e3, r1, r2, r3, r4, r5, r6, r7⟩, st'⟩ := X1.specialBackS i0.1 (y := z) hn hown (mv (s := s.setVm V) hZ w1) (mv (s := s.setVm V) hZ w2) (mv (s := s.setVm V) hZ wc) hy (BackS.con K hZ wc wz hf hl hEL hC hK) (g := mkF m pc ls stk) rfl (hsize.trans i0.2.2.1.symm) (Steps.refl _) (a := a) (argsL := argsL) (rest := st) hlen hstk (by show 2 * 0 + _ ≤ _; omega) (i0.2.1 ▸ hd) (fun _ _ => ⟨has, eT, by show k + _ ≤ _; omega, by show n + _ ≤ _; omega⟩)
  dsimp only [Pt.U, Pt.locs, Pt.cells, Pt.slots] at X2 hS2 hgr e1 e2 e3 r2 r3 r5 r6 r7 st'
  subst e1 e2 e3 hp
  exact Go.via st' (g U U.heap B' v ((Wk.after i0 hz hB hZ hown hS hq hF X2 hS2 r1 r2 r3 r4 r5 r6).mono hk1 hn1) r6 r4 r7)
theorem W.callU (X : Wk l Z EL y bytes maxL ret R B0 p e s m args below meth c B T h k n) {index : Nat} {z : MethodName} {zi : MethodName} {C : String} {owner : String} {zb : ByteArray} {zl W : Nat} {zr : Option FieldType} {rm : Room} {as' : Array Value} {Qc : Option Value → Heap → (Addr → Prop) → Prop} {argsL stk : List Value} (K : Con l Z EL [] z zb zl zr rm B h as' Qc) (w1 : (Jvm.Cond.methodLink y.cls index zi).before a0 Z = true) (w2 : (Jvm.Cond.sameMethod zi.cls owner zi.name zi.desc).before a0 Z = true) (w3 : (Jvm.Cond.declares ⟨owner, zi.name, zi.desc⟩).before a0 Z = true) (ho : owner ≠ "java/lang/invoke/MethodHandle" ∧ owner ≠ "java/lang/invoke/VarHandle") (w4 : (Jvm.Cond.selects C zi z).before a0 Z = true) (w5 : (Jvm.Cond.instanceMethod z).before a0 Z = true) (E : Exa Z h a C) (wc : (Jvm.Cond.code z zb zl zr).before a0 Z = true) (wz : (Jvm.Cond.initialized z.cls).before a0 Z = true)  (hf : rm.frames + 1 ≤ R.frames) (hl : W + (zl + 11) + rm.locals ≤ R.locals) (hsize : ls.size = maxL)
    (hlen : ∀ sig, parseMethodDescriptor zi.desc = some sig → argsL.length = sig.parameters.length) (has : (.ref a :: argsL).toArray = as') (hstk : stk = argsL.reverse ++ .ref a :: st) (hW : (st.map fun v => v.category).sum ≤ W) (hd : decode bytes pc = .ok (.invokevirtual index, 3)) (hp : pc + 3 = pc') {k' n' : Nat} (hk1 : k + rm.cells ≤ k') (hn1 : n + rm.slots ≤ n') (hk2 : k' ≤ R.cells) (hn2 : n' ≤ R.slots)
    (g : ∀ T' h' B' v, Wk l Z EL y bytes maxL ret R B0 p e s m args below meth c B' T' h' k' n' → h.size ≤ h'.size → (∀ x, B' x → B x ∨ h.size ≤ x) → Qc v h' B' → Go l Z EL R B0 Q p e s m below T' pc' ls (v.toList ++ st)) : Go l Z EL R B0 Q p e s m below T pc ls stk := by
  obtain ⟨i0, hE, hz, hB, V, locs, q0, X1, eT, hZ, hown, hS, hq, hF, hC, hK⟩ := X
  obtain ⟨a1, hEL⟩ := i0.2.2.2.2.2.2
  obtain ⟨cB, kB, j1, j2, j3⟩ := isOf (s := s.setVm V) hZ eT E
  obtain ⟨v, vm₁, ⟨U, Lu, ku, nu⟩, hWv, X2, hS2, hgr, ⟨L, B', e1, e2, e3, r1, r2, r3, r4, r5, r6, r7⟩, st'⟩ := X1.virtualBackUpS i0.1 (x := zi) (y := z) (owner := owner) hown (mv (s := s.setVm V) hZ w1) (mv (s := s.setVm V) hZ w2) (mv (s := s.setVm V) hZ w3) ho (mv (s := s.setVm V) hZ w4) (mv (s := s.setVm V) hZ w5) (BackS.con K hZ wc wz hf hl hEL hC hK) j1 j3 (g := mkF m pc ls stk) rfl (hsize.trans i0.2.2.1.symm) (Steps.refl _) (argsL := argsL) (rest := st) hlen hstk (by show 2 * 0 + _ ≤ _; omega) (i0.2.1 ▸ hd) (fun _ _ => ⟨has, eT, by show k + _ ≤ _; omega, by show n + _ ≤ _; omega⟩)
  dsimp only [Pt.U, Pt.locs, Pt.cells, Pt.slots] at X2 hS2 hgr e1 e2 e3 r2 r3 r5 r6 r7 st'
  subst e1 e2 e3 hp
  exact Go.via st' (g U U.heap B' v ((Wk.after i0 hz hB hZ hown hS hq hF X2 hS2 r1 r2 r3 r4 r5 r6).mono hk1 hn1) r6 r4 r7)
theorem privAt {s : State} {z : MethodName} (hZ : Z.Warmed39 s.vm) (w : (Jvm.Cond.privateMethod z).before a0 Z = true) : s.PrivateAt z := Cond.privateMethod_at (mvP (args := #[]) hZ w)
theorem W.callP (X : Wk l Z EL y bytes maxL ret R B0 p e s m args below meth c B T h k n) {index : Nat} {z : MethodName} {C : String} {zb : ByteArray} {zl W : Nat} {zr : Option FieldType} {rm : Room} {as' : Array Value} {Qc : Option Value → Heap → (Addr → Prop) → Prop} {argsL stk : List Value} (K : Con l Z EL [] z zb zl zr rm B h as' Qc) (w1 : (Jvm.Cond.methodLink y.cls index z).before a0 Z = true) (w2 : (Jvm.Cond.instanceMethod z).before a0 Z = true) (w3 : NotFace Z z) (w4 : (Jvm.Cond.privateMethod z).before a0 Z = true) (E : Exa Z h a C) (wc : (Jvm.Cond.code z zb zl zr).before a0 Z = true) (wz : (Jvm.Cond.initialized z.cls).before a0 Z = true) (hy : z.cls ≠ "java/lang/invoke/MethodHandle" ∧ z.cls ≠ "java/lang/invoke/VarHandle") (hf : rm.frames + 1 ≤ R.frames) (hl : W + (zl + 11) + rm.locals ≤ R.locals) (hsize : ls.size = maxL)
    (hlen : ∀ sig, parseMethodDescriptor z.desc = some sig → argsL.length = sig.parameters.length) (has : (.ref a :: argsL).toArray = as') (hstk : stk = argsL.reverse ++ .ref a :: st) (hW : (st.map fun v => v.category).sum ≤ W) (hd : decode bytes pc = .ok (.invokevirtual index, 3)) (hp : pc + 3 = pc') {k' n' : Nat} (hk1 : k + rm.cells ≤ k') (hn1 : n + rm.slots ≤ n') (hk2 : k' ≤ R.cells) (hn2 : n' ≤ R.slots)
    (g : ∀ T' h' B' v, Wk l Z EL y bytes maxL ret R B0 p e s m args below meth c B' T' h' k' n' → h.size ≤ h'.size → (∀ x, B' x → B x ∨ h.size ≤ x) → Qc v h' B' → Go l Z EL R B0 Q p e s m below T' pc' ls (v.toList ++ st)) : Go l Z EL R B0 Q p e s m below T pc ls stk := by
  obtain ⟨i0, hE, hz, hB, V, locs, q0, X1, eT, hZ, hown, hS, hq, hF, hC, hK⟩ := X
  obtain ⟨a1, hEL⟩ := i0.2.2.2.2.2.2
  have w3' : NotFace (s.setVm V) z := fun r0 h0 => by
    have h0' : (Z.setVm V).methodNamed? z = some r0 := h0
    rw [State.methodNamed?_setVm hZ.alike] at h0'
    obtain ⟨kr, q1, q2⟩ := w3 r0 h0'
    obtain ⟨k2, q3, q4⟩ := hZ.alike.2.2 _ _ q1
    exact ⟨k2, q3, by rw [q4]; exact q2⟩
  obtain ⟨cellP, hcP, hobj⟩ := Exa.cell E
  have hcell : T.heap[a]? = some cellP := by rw [eT]; exact hcP
  obtain ⟨mkP, methP, hnP, -⟩ := Cond.instanceMethod_spec (mv (args := args) (s := s.setVm V) hZ w2)
  obtain ⟨kP, hkP, hkPi⟩ := w3' mkP hnP
  have hsel : (Jvm.Cond.selects z.cls z z).before args (s.setVm V) = true := Jvm.Stand.selects_self_of_private (findClass_of_methodNamed hnP) hkP hkPi (privAt (s := s.setVm V) hZ w4) (mv (s := s.setVm V) hZ w2) hy
  obtain ⟨v, vm₁, ⟨U, Lu, ku, nu⟩, hWv, X2, hS2, hgr, ⟨L, B', e1, e2, e3, r1, r2, r3, r4, r5, r6, r7⟩, st'⟩ := X1.privateBackS i0.1 (y := z) hown (mv (s := s.setVm V) hZ w1) (mv (s := s.setVm V) hZ w2) hsel (privAt (s := s.setVm V) hZ w4) (mv (s := s.setVm V) hZ wc) hy (BackS.con K hZ wc wz hf hl hEL hC hK) (g := mkF m pc ls stk) rfl (hsize.trans i0.2.2.1.symm) (Steps.refl _) hcell hobj (argsL := argsL) (rest := st) hlen hstk (by show 2 * 0 + _ ≤ _; omega) (i0.2.1 ▸ hd) (fun _ _ => ⟨has, eT, by show k + _ ≤ _; omega, by show n + _ ≤ _; omega⟩)
  dsimp only [Pt.U, Pt.locs, Pt.cells, Pt.slots] at X2 hS2 hgr e1 e2 e3 r2 r3 r5 r6 r7 st'
  subst e1 e2 e3 hp
  exact Go.via st' (g U U.heap B' v ((Wk.after i0 hz hB hZ hown hS hq hF X2 hS2 r1 r2 r3 r4 r5 r6).mono hk1 hn1) r6 r4 r7)
theorem W.callX (X : Wk l Z EL y bytes maxL ret R B0 p e s m args below meth c B T h k n) {index : Nat} {z : MethodName} {C : String} {zb : ByteArray} {zl W : Nat} {zr : Option FieldType} {rm : Room} {as' : Array Value} {Qc : Option Value → Heap → (Addr → Prop) → Prop} {argsL stk : List Value} (K : Con l Z EL [] z zb zl zr rm B h as' Qc) (w1 : (Jvm.Cond.methodLink y.cls index z).before a0 Z = true) (w2 : (Jvm.Cond.sameMethod z.cls z.cls z.name z.desc).before a0 Z = true) (w3 : (Jvm.Cond.instanceMethod z).before a0 Z = true) (w4 : (Jvm.Cond.superclass y.cls z.cls).before a0 Z = true) (hn : z.name ≠ "<init>") (E : Exa Z h a C) (wc : (Jvm.Cond.code z zb zl zr).before a0 Z = true) (wz : (Jvm.Cond.initialized z.cls).before a0 Z = true)  (hf : rm.frames + 1 ≤ R.frames) (hl : W + (zl + 11) + rm.locals ≤ R.locals) (hsize : ls.size = maxL)
    (hlen : ∀ sig, parseMethodDescriptor z.desc = some sig → argsL.length = sig.parameters.length) (has : (.ref a :: argsL).toArray = as') (hstk : stk = argsL.reverse ++ .ref a :: st) (hW : (st.map fun v => v.category).sum ≤ W) (hd : decode bytes pc = .ok (.invokespecial index, 3)) (hp : pc + 3 = pc') {k' n' : Nat} (hk1 : k + rm.cells ≤ k') (hn1 : n + rm.slots ≤ n') (hk2 : k' ≤ R.cells) (hn2 : n' ≤ R.slots)
    (g : ∀ T' h' B' v, Wk l Z EL y bytes maxL ret R B0 p e s m args below meth c B' T' h' k' n' → h.size ≤ h'.size → (∀ x, B' x → B x ∨ h.size ≤ x) → Qc v h' B' → Go l Z EL R B0 Q p e s m below T' pc' ls (v.toList ++ st)) : Go l Z EL R B0 Q p e s m below T pc ls stk := by
  obtain ⟨i0, hE, hz, hB, V, locs, q0, X1, eT, hZ, hown, hS, hq, hF, hC, hK⟩ := X
  obtain ⟨a1, hEL⟩ := i0.2.2.2.2.2.2
  obtain ⟨v, vm₁, ⟨U, Lu, ku, nu⟩, hWv, X2, hS2, hgr, ⟨L, B', e1, e2, e3, r1, r2, r3, r4, r5, r6, r7⟩, st'⟩ := Jvm.RoadKit.superBackS X1 i0.1 hZ hown w1 w2 w3 w4 hn (BackS.con K hZ wc wz hf hl hEL hC hK) eT (Ins.self E) (g := mkF m pc ls stk) rfl (hsize.trans i0.2.2.1.symm) wc (argsL := argsL) (rest := st) hlen hstk (by show 2 * 0 + _ ≤ _; omega) (i0.2.1 ▸ hd) (fun _ _ => ⟨has, eT, by show k + _ ≤ _; omega, by show n + _ ≤ _; omega⟩)
  dsimp only [Pt.U, Pt.locs, Pt.cells, Pt.slots] at X2 hS2 hgr e1 e2 e3 r2 r3 r5 r6 r7 st'
  subst e1 e2 e3 hp
  exact Go.via st' (g U U.heap B' v ((Wk.after i0 hz hB hZ hown hS hq hF X2 hS2 r1 r2 r3 r4 r5 r6).mono hk1 hn1) r6 r4 r7)
theorem kp {xv : Value} (g : ∀ T', Wk l Z EL y bytes maxL ret R B0 p e s m args below meth c B T' h k n → Go l Z EL R B0 Q p e s m below T' pc' ls (xv :: st)) : ∀ T' h' B' v, Wk l Z EL y bytes maxL ret R B0 p e s m args below meth c B' T' h' k n → h.size ≤ h'.size → (∀ x, B' x → B x ∨ h.size ≤ x) → (v = some xv ∧ h' = h ∧ B' = B) → Go l Z EL R B0 Q p e s m below T' pc' ls (v.toList ++ st) := by
  rintro T' h' B' v X - - ⟨rfl, rfl, rfl⟩; exact g T' X
theorem kpv (g : ∀ T', Wk l Z EL y bytes maxL ret R B0 p e s m args below meth c B T' h k n → Go l Z EL R B0 Q p e s m below T' pc' ls st) : ∀ T' h' B' v, Wk l Z EL y bytes maxL ret R B0 p e s m args below meth c B' T' h' k n → h.size ≤ h'.size → (∀ x, B' x → B x ∨ h.size ≤ x) → (v = none ∧ h' = h ∧ B' = B) → Go l Z EL R B0 Q p e s m below T' pc' ls (v.toList ++ st) := by
  rintro T' h' B' v X - - ⟨rfl, rfl, rfl⟩; exact g T' X
theorem kr {Qc : Value → Heap → Prop} (g : ∀ T' h' x, Wk l Z EL y bytes maxL ret R B0 p e s m args below meth c B T' h' k n → h.size ≤ h'.size → Qc x h' → Go l Z EL R B0 Q p e s m below T' pc' ls (x :: st)) : ∀ T' h' B' v, Wk l Z EL y bytes maxL ret R B0 p e s m args below meth c B' T' h' k n → h.size ≤ h'.size → (∀ x, B' x → B x ∨ h.size ≤ x) → (∃ x, v = some x ∧ B' = B ∧ Qc x h') → Go l Z EL R B0 Q p e s m below T' pc' ls (v.toList ++ st) := by
  rintro T' h' B' v X z - ⟨x, rfl, rfl, q⟩; exact g T' h' x X z q
theorem kv {Qc : Heap → Prop} (g : ∀ T' h', Wk l Z EL y bytes maxL ret R B0 p e s m args below meth c B T' h' k n → h.size ≤ h'.size → Qc h' → Go l Z EL R B0 Q p e s m below T' pc' ls st) : ∀ T' h' B' v, Wk l Z EL y bytes maxL ret R B0 p e s m args below meth c B' T' h' k n → h.size ≤ h'.size → (∀ x, B' x → B x ∨ h.size ≤ x) → (v = none ∧ B' = B ∧ Qc h') → Go l Z EL R B0 Q p e s m below T' pc' ls (v.toList ++ st) := by
  rintro T' h' B' v X z - ⟨rfl, rfl, q⟩; exact g T' h' X z q
theorem kri {Qc : Value → Heap → (Addr → Prop) → Prop} (g : ∀ T' h' B' x, Wk l Z EL y bytes maxL ret R B0 p e s m args below meth c B' T' h' k n → h.size ≤ h'.size → (∀ x, B' x → B x ∨ h.size ≤ x) → Qc x h' B' → Go l Z EL R B0 Q p e s m below T' pc' ls (x :: st)) : ∀ T' h' B' v, Wk l Z EL y bytes maxL ret R B0 p e s m args below meth c B' T' h' k n → h.size ≤ h'.size → (∀ x, B' x → B x ∨ h.size ≤ x) → (∃ x, v = some x ∧ Qc x h' B') → Go l Z EL R B0 Q p e s m below T' pc' ls (v.toList ++ st) := by
  rintro T' h' B' v X z zb ⟨x, rfl, q⟩; exact g T' h' B' x X z zb q
theorem kvi {Qc : Heap → (Addr → Prop) → Prop} (g : ∀ T' h' B', Wk l Z EL y bytes maxL ret R B0 p e s m args below meth c B' T' h' k n → h.size ≤ h'.size → (∀ x, B' x → B x ∨ h.size ≤ x) → Qc h' B' → Go l Z EL R B0 Q p e s m below T' pc' ls st) : ∀ T' h' B' v, Wk l Z EL y bytes maxL ret R B0 p e s m args below meth c B' T' h' k n → h.size ≤ h'.size → (∀ x, B' x → B x ∨ h.size ≤ x) → (v = none ∧ Qc h' B') → Go l Z EL R B0 Q p e s m below T' pc' ls (v.toList ++ st) := by
  rintro T' h' B' v X z zb ⟨rfl, q⟩; exact g T' h' B' X z zb q
/-! System.arraycopy -/
theorem range_getD {vs : List Value} {i len : Nat} (d : Value) (hl : i + len ≤ vs.length) : (List.range len).map (fun q => vs.getD (i + q) d) = (vs.drop i).take len := by
  apply List.ext_getElem?
  intro j
  by_cases hj : j < len
  · rw [List.getElem?_map, List.getElem?_range hj, List.getElem?_take_of_lt hj, List.getElem?_drop]
    simp only [Option.map_some, List.getD_eq_getElem?_getD]
    rw [List.getElem?_eq_getElem (by omega : i + j < vs.length)]; rfl
  · rw [List.getElem?_eq_none (by simpa using hj), List.getElem?_eq_none (by simp; omega)]
theorem W.acopy (X : Wk l Z EL y bytes maxL ret R B0 p e s m args below meth c B T h k n) {index W : Nat} {sp dp nn : Int32} {i j len : Nat} {us : List Value} (A : Ar Z h a ty vs) (D : Ar Z h b ty us) (w1 : (Jvm.Cond.methodLink y.cls index Jvm.Stand.acN).before a0 Z = true) (w2 : (Jvm.Cond.native Jvm.Stand.acN).before a0 Z = true) (w3 : (Jvm.Cond.static Jvm.Stand.acN).before a0 Z = true) (w4 : (Jvm.Cond.initialized "java/lang/System").before a0 Z = true) (hty : refKind ty = false)
    (h1 : i.toInt32 = sp) (h2 : j.toInt32 = dp) (h3 : len.toInt32 = nn) (h4 : i + len ≤ vs.length) (h5 : j + len ≤ us.length) (ha : Z.heap.size ≤ b) (hnb : ¬ B b) (hsize : ls.size = maxL) (hf : 1 ≤ R.frames) (hW : (st.map fun v => v.category).sum ≤ W) (hlo : W + (nativeFrameWords "java/lang/System" "arraycopy" 5 + 11) ≤ R.locals) (hd : decode bytes pc = .ok (.invokestatic index, 3)) (hp : pc + 3 = pc')
    (g : ∀ T' h', Wk l Z EL y bytes maxL ret R B0 p e s m args below meth c B T' h' k n → Keep h h' [b] → Ar Z h' b ty (us.take j ++ (vs.drop i).take len ++ us.drop (j + len)) → Go l Z EL R B0 Q p e s m below T' pc' ls st) : Go l Z EL R B0 Q p e s m below T pc ls (.int nn :: .int dp :: .ref b :: .int sp :: .ref a :: st) := by
  obtain ⟨i0, hE, hz, hB, V, locs, q0, X1, eT, hZ, hown, hS, hq, hF, hC, hK⟩ := X
  have hv := A.len_lt
  have hu := D.len_lt
  subst h1 h2 h3 hp
  obtain ⟨n1, e1, -⟩ := len32 (show i < 2 ^ 31 by omega)
  obtain ⟨n2, e2, -⟩ := len32 (show j < 2 ^ 31 by omega)
  obtain ⟨n3, e3, -⟩ := len32 (show len < 2 ^ 31 by omega)
  obtain ⟨n4, e4, -⟩ := len32 hv
  obtain ⟨n5, e5, -⟩ := len32 hu
  obtain ⟨ka, A'⟩ := A.toArv rfl (.int 0)
  obtain ⟨kb, D'⟩ := D.toArv rfl (.int 0)
  obtain ⟨T', h', L, X', e', N', K', R', st'⟩ := RoadKit.cpA X1 i0.1 hZ hown w1 w2 w3 w4 eT A' D' (us := (List.range len).map fun q => vs.getD (i + q) (.int 0)) (Or.inl ⟨rfl, hty⟩) n1 n2 n3 (by rw [e1, e3, e4]; exact h4) (by rw [e2, e3, e5]; exact h5) (by rw [e1, e3]) (by rw [e2, e3]; exact h5) hF ha (g := mkF m pc ls (.int len.toInt32 :: .int j.toInt32 :: .ref b :: .int i.toInt32 :: .ref a :: st)) rfl (hsize.trans i0.2.2.1.symm) rfl (i0.2.1 ▸ hd) hf (W := W) (by show 2 * 0 + _ ≤ _; omega) hlo
  rw [range_getD _ h4, e2, e3] at R'
  have S : ∀ x ∈ [b], Safe Z EL V h x := fun x hx => by cases List.mem_singleton.mp hx; exact fun r => hnb (hK b r)
  have hO := (Old.keep (n0 := Z.heap.size) ⟨rfl, hE.1⟩ K' (allS ha all0)).2
  exact Go.step st' (g T' h' ⟨i0, ⟨hO, fun x r => Nat.lt_of_lt_of_le (hE.2 x r) K'.1⟩, Nat.le_trans hz K'.1, hB, V, L, q0, X', e', hZ, hown, hS, Nat.le_trans hq K'.1, N', hC.keep K' S, fun x r => hK x ((hC.keepStep K' S).2 x r)⟩ K' (Ar.ofArv R' (by rw [e5]; simp; omega)))
/-! the end -/
theorem W.fin (X : Wk l Z EL y bytes maxL ret R B0 p e s m args below meth c B T h k n) {v : Option Value} (hv : ret = none → v = none) (hk : k ≤ R.cells) (hn : n ≤ R.slots) (q : Q v h B) (run : ∀ fs, (∀ (f : JFrame) (acts : List Action), f.method = m → f.locked = none → f.entered = [] → (doReturn e (T.setTop f) acts v).1 = T.setFrames fs) → Steps p.tables e below (T.setTop (mkF m pc ls st)) (T.setFrames fs)) : Go l Z EL R B0 Q p e s m below T pc ls st := by
  obtain ⟨i0, hE, hz, hB, V, locs, q0, X1, eT, hZ, hown, hS, hq, hF, hC, hK⟩ := X
  obtain ⟨a1, hEL⟩ := i0.2.2.2.2.2.2
  obtain ⟨fs, hr, hrun, hend, hW⟩ := X1.leaveW hS (by rw [eT]; exact hq) (v := v) (fun z => hv (i0.2.2.2.1.symm.trans z)) i0.2.2.2.2.1
  have eh : (T.setFrames fs).heap = h := eT
  have q1 := CHv.at X1 hZ hEL hC
  refine ⟨T.setFrames fs, _, run fs hr, hrun, hend, v, locs, B, rfl, hF, by rw [eh]; exact q1.1, fun x r => ?_, hB, by rw [eh]; exact hE, by rw [eh]; exact hz, by rw [eh]; exact q, hW.1, hW.2.1, hW.2.2.1, hW.2.2.2.mono hk hn⟩
  rw [eh] at r
  rcases q1.2.2 x r with z | z
  · exact hK x z
  · obtain ⟨cell, q2⟩ := r.there
    exact absurd (Array.getElem?_eq_some_iff.mp q2).1 (Nat.not_lt.mpr z)
theorem W.ireturn (X : Wk l Z EL y bytes maxL ret R B0 p e s m args below meth c B T h k n) {t : FieldType} {x : Int32} (hd : decode bytes pc = .ok (.ireturn, 1)) (hret : ret = some t) (ht : t = .int ∨ t = .boolean ∨ t = .byte ∨ t = .char ∨ t = .short) (hnw : narrow t (.int x) = .int x) (hk : k ≤ R.cells) (hn : n ≤ R.slots) (q : Q (some (.int x)) h B) : Go l Z EL R B0 Q p e s m below T pc ls (.int x :: st) := by
  have X0 := X
  obtain ⟨i0, hE, hz, hB, V, locs, q0, X1, eT, hZ, hown, hS, hq, hF, hC, hK⟩ := X
  exact W.fin X0 (fun z => by rw [hret] at z; cases z) hk hn q fun fs hl => RoadKit.retOut (i := .ireturn) X1 i0.1 (i0.2.2.2.1.trans hret) hnw (Or.inl ⟨rfl, ht, x, rfl⟩) (i0.2.1 ▸ hd) hl
theorem W.lreturn (X : Wk l Z EL y bytes maxL ret R B0 p e s m args below meth c B T h k n) {x : Int64} (hd : decode bytes pc = .ok (.lreturn, 1)) (hret : ret = some .long) (hk : k ≤ R.cells) (hn : n ≤ R.slots) (q : Q (some (.long x)) h B) : Go l Z EL R B0 Q p e s m below T pc ls (.long x :: st) := by
  have X0 := X
  obtain ⟨i0, hE, hz, hB, V, locs, q0, X1, eT, hZ, hown, hS, hq, hF, hC, hK⟩ := X
  exact W.fin X0 (fun z => by rw [hret] at z; cases z) hk hn q fun fs hl => RoadKit.retOut (i := .lreturn) X1 i0.1 (i0.2.2.2.1.trans hret) rfl (Or.inr (Or.inl ⟨rfl, rfl, x, rfl⟩)) (i0.2.1 ▸ hd) hl
theorem W.areturn (X : Wk l Z EL y bytes maxL ret R B0 p e s m args below meth c B T h k n) {t : FieldType} {v : Value} (hd : decode bytes pc = .ok (.areturn, 1)) (hret : ret = some t) (ht : t.isReference = true) (hv : v.isRef = true) (hnw : narrow t v = v) (hk : k ≤ R.cells) (hn : n ≤ R.slots) (q : Q (some v) h B) : Go l Z EL R B0 Q p e s m below T pc ls (v :: st) := by
  have X0 := X
  obtain ⟨i0, hE, hz, hB, V, locs, q0, X1, eT, hZ, hown, hS, hq, hF, hC, hK⟩ := X
  exact W.fin X0 (fun z => by rw [hret] at z; cases z) hk hn q fun fs hl => RoadKit.retOut (i := .areturn) X1 i0.1 (i0.2.2.2.1.trans hret) hnw (Or.inr (Or.inr (Or.inr (Or.inr ⟨rfl, ht, hv⟩)))) (i0.2.1 ▸ hd) hl
theorem W.vreturn (X : Wk l Z EL y bytes maxL ret R B0 p e s m args below meth c B T h k n) (hd : decode bytes pc = .ok (.return_, 1)) (hret : ret = none) (hk : k ≤ R.cells) (hn : n ≤ R.slots) (q : Q none h B) : Go l Z EL R B0 Q p e s m below T pc ls [] := by
  have X0 := X
  obtain ⟨i0, hE, hz, hB, V, locs, q0, X1, eT, hZ, hown, hS, hq, hF, hC, hK⟩ := X
  exact W.fin X0 (fun _ => rfl) hk hn q fun fs hl => X1.returnOut i0.1 (i0.2.2.2.1.trans hret) (i0.2.1 ▸ hd) hl
/-! the entry -/
theorem Con.intro {wl : List Jvm.Cond} {rm : Room} {as' : Array Value} (hpl : plainFor y = true) (hEW : EW Z a0 EL) (hE : En Z B h) (hef : ∀ m, entryFrame m as' maxL = mkF m 0 ls [])
    (body : ∀ p e s m below meth c T, s.heap = h → Wk l Z EL y bytes maxL ret rm B p e s m as' below meth c B T h 0 0 → Go l Z EL rm B Q p e s m below T 0 ls []) : Con l Z EL wl y bytes maxL ret rm B h as' Q := by
  refine MetFree.of_bodySF hpl hisR ?_
  intro p e s m args below meth c s₁ Bd hml0 hP hK
  obtain ⟨rfl, hZ, hh, hC, hBk⟩ := hP
  have X0 : Stand p l e rm s m args below meth c s₁ [] 0 0 := Stand.of_body Bd
  have e0 : s₁.heap = h := by rw [← hh, Bd.state]; rfl
  have hg : Go l Z EL rm B Q p e s m below s₁ 0 ls [] := body p e s m below meth c s₁ hh ⟨⟨Bd.exec, Bd.bytes, hml0, Bd.returns, Bd.notSynchronized, (name_of_methodNamed Bd.named Bd.method).1, a0, hEW⟩, hE, by rw [hh]; exact Nat.le_refl _, fun x r => Or.inl r, s.vm, [], s.heap.size, X0, e0, hZ, findClass_of_methodNamed Bd.named, (State.WarmedH.refl s).since _, by rw [hh]; exact Nat.le_refl _, Fr.nil _, hC, hBk⟩
  obtain ⟨s₂, o, h1, h2, h3, v, L, B', g1, g2, g3, g4, g5, g6, g7, g8, g9⟩ := hg
  rw [hh] at g5 g7
  exact ⟨s₂, o, castTop (hef m) h1, h2, h3, v, L, B', g1, g2, g3, g4, g5, g6, g7, g8, g9⟩
/-! String constants -/
theorem W.ldcO (X : Wk l Z EL y bytes maxL ret R B0 p e s m args below meth c B T h k n) {index cap : Nat} {text : String} (hEW : EW Z a0 EL) (w : (Jvm.Cond.stringLink y.cls index text).before a0 Z = true) (wS : ∀ a ∈ Bundle.stringAtoms, a.before a0 Z = true) (hd : decode bytes pc = .ok (.ldc index, 2)) (hcap : 4 * text.toList.length ≤ cap) (hbig : cap ≤ 536870912) (hp : pc + 2 = pc') {k' n' : Nat} (hk : k + 2 ≤ k') (hn : n + (cap + 4) ≤ n') (hk' : k' ≤ R.cells) (hn' : n' ≤ R.slots)
    (g : ∀ T' h' B' a, Wk l Z EL y bytes maxL ret R B0 p e s m args below meth c B' T' h' k' n' → Keep h h' [] → (∀ x, B' x → B x ∨ h.size ≤ x) → Go l Z EL R B0 Q p e s m below T' pc' ls (.ref a :: st)) : Go l Z EL R B0 Q p e s m below T pc ls st := by
  obtain ⟨i0, hE, hz, hB, V, locs, q0, X1, eT, hZ, hown, hS, hq, hF, hC, hK⟩ := X
  obtain ⟨a1, hEL⟩ := i0.2.2.2.2.2.2
  obtain ⟨a, T', h', k1, X', e', E, hS', hk1, hZ', hown', hr, -, st'⟩ := ldcOH X1 i0.1 hZ hown w wS eT hS hq hEW hC (g := mkF m pc ls st) rfl (i0.2.1 ▸ hd) hcap hbig (Nat.le_trans hk hk') (Nat.le_trans hn hn')
  subst hp
  let B' : Addr → Prop := fun x => B x ∨ (h.size ≤ x ∧ x < h'.size)
  have hB' : ∀ x, Bk Z EL T'.vm h' x → B' x := fun x r => (hr.2.2 x r).elim (fun z => Or.inl (hK x z)) fun z => by
    obtain ⟨cell, q⟩ := r.there
    exact Or.inr ⟨z, (Array.getElem?_eq_some_iff.mp q).1⟩
  refine Go.step st' (g T' h' B' a ⟨i0, ⟨(hE.ext E).1, fun x r => r.elim (fun z => Nat.lt_of_lt_of_le (hE.2 x z) E.1) fun z => z.2⟩, Nat.le_trans hz E.1, fun x r => r.elim (hB x) fun z => Or.inr (Nat.le_trans hz z.1), T'.vm, locs, k1, X'.mono hk hn, e', hZ', hown', hS', hk1, hF, hr.1, hB'⟩ (keepE E) (fun x r => r.imp id fun z => z.1))
theorem W.ldcR (X : Wk l Z EL y bytes maxL ret R B0 p e s m args below meth c B T h k n) {index cap : Nat} {text : String} {cs : List Int32} (hmem : (y.cls, index) ∈ EL) (w : (Jvm.Cond.stringLink y.cls index text).before a0 Z = true) (wS : ∀ a ∈ Bundle.stringAtoms, a.before a0 Z = true) (hEW : EW Z a0 EL) (ht : (∀ c ∈ text.toList, c.toNat < 256) ∧ text.toList.map (fun c => Value.int (Jvm.Lit.byteI c.toNat.toUInt16)) = by8 cs) (hlat : Lat cs) (hlen : cs.length < 2 ^ 31) (hd : decode bytes pc = .ok (.ldc index, 2)) (hcap : 4 * text.toList.length ≤ cap) (hbig : cap ≤ 536870912) (hp : pc + 2 = pc') {k' n' : Nat} (hk : k + 2 ≤ k') (hn : n + (cap + 4) ≤ n') (hk' : k' ≤ R.cells) (hn' : n' ≤ R.slots)
    (g : ∀ T' h' B' a b, Wk l Z EL y bytes maxL ret R B0 p e s m args below meth c B' T' h' k' n' → Keep h h' [] → (∀ x, B' x → B x ∨ h.size ≤ x) → Str Z h' a b cs → (∀ x, ¬ B' x → x ≠ a ∧ x ≠ b) → Go l Z EL R B0 Q p e s m below T' pc' ls (.ref a :: st)) : Go l Z EL R B0 Q p e s m below T pc ls st := by
  obtain ⟨i0, hE, hz, hB, V, locs, q0, X1, eT, hZ, hown, hS, hq, hF, hC, hK⟩ := X
  obtain ⟨q1, q2, q3⟩ := len32 hlen
  obtain ⟨a, T', h', k1, b, kb, X', e', E, hS', hk1, hZ', hown', f1, f2, f3, f4, la, lb, hr, -, hne, st'⟩ := ldcCH X1 i0.1 hZ hown w wS eT hS hq hEW hmem hC ht q1 (by rw [q2]; simp) (g := mkF m pc ls st) rfl (i0.2.1 ▸ hd) hcap hbig (Nat.le_trans hk hk') (Nat.le_trans hn hn')
  subst hp
  let B' : Addr → Prop := fun x => B x ∨ (h.size ≤ x ∧ x < h'.size)
  have hB' : ∀ x, Bk Z EL T'.vm h' x → B' x := fun x r => (hr.2.2 x r).elim (fun z => Or.inl (hK x z)) fun z => by
    obtain ⟨cell, q⟩ := r.there
    exact Or.inr ⟨z, (Array.getElem?_eq_some_iff.mp q).1⟩
  refine Go.step st' (g T' h' B' a b ⟨i0, ⟨(hE.ext E).1, fun x r => r.elim (fun z => Nat.lt_of_lt_of_le (hE.2 x z) E.1) fun z => z.2⟩, Nat.le_trans hz E.1, fun x r => r.elim (hB x) fun z => Or.inr (Nat.le_trans hz z.1), T'.vm, locs, k1, X'.mono hk hn, e', hZ', hown', hS', hk1, hF, hr.1, hB'⟩ (keepE E) (fun x r => r.imp id fun z => z.1) ⟨f1, f2, f3, Ar.ofArv f4 (by rw [q2]; simp), hlat⟩ fun x r => hne x fun z => r (hB' x z))

end Own
end Own
end Jvm.Pilot.@@N@@

namespace Jvm.Pilot.@@N@@
open Jvm Jvm.ClassFile Sem Op Lib Jvm.Free Jvm.Stand Jvm.LawKit Jvm.RoadKit Bundle Jvm.Pilot.@@N@@.Jvm.D Own Jvm.Free.XT

/-- the digit's char -/
def dgc (n : Nat) : Int32 := (48 + n % 10 : Nat).toInt32
def ones : List Value := (List.range 100).map fun r => .int ((48 : Int32) + r.toInt32 % 10)
def tens : List Value := (List.range 100).map fun r => .int ((48 : Int32) + r.toInt32 / 10)

def Gl (Z : State) (a0 : Array Value) (zC : Int32) (fS : Value) (dO : Addr) (dT : Addr) : Prop := (∀ d ∈ tables_1, d.before a0 Z = true) ∧ EW Z a0 consts_1 ∧ Sta Z Z.heap "java/lang/String" "COMPACT_STRINGS" "Z" (.int zC) ∧ ¬ zC = 0 ∧ Sta Z Z.heap "jdk/internal/util/Preconditions" "SIOOBE_FORMATTER" "Ljava/util/function/BiFunction;" fS ∧ fS.isRef = true ∧ Sta Z Z.heap "java/lang/Integer" "DigitOnes" "[B" (.ref dO) ∧ Sta Z Z.heap "java/lang/Integer" "DigitTens" "[B" (.ref dT) ∧ Ar Z Z.heap dO .byte ones ∧ Ar Z Z.heap dT .byte tens ∧ True
theorem w0 {Z : State} {a0 : Array Value} {zC : Int32} {fS : Value} {dO : Addr} {dT : Addr} (G : Gl Z a0 zC fS dO dT) : (Jvm.Cond.constant "com/example/dutiful_pruner/dutifulpruner/collection/LineFileCollectionParseLinePinLaw" (59 : Nat) (2147483647 : Int32)).before a0 Z = true := G.1 _ (List.mem_of_getElem? (i := 0) rfl)
theorem w1 {Z : State} {a0 : Array Value} {zC : Int32} {fS : Value} {dO : Addr} {dT : Addr} (G : Gl Z a0 zC fS dO dT) : (Jvm.Cond.arrayClass Jvm.ClassFile.FieldType.char).before a0 Z = true := G.1 _ (List.mem_of_getElem? (i := 1) rfl)
theorem w2 {Z : State} {a0 : Array Value} {zC : Int32} {fS : Value} {dO : Addr} {dT : Addr} (G : Gl Z a0 zC fS dO dT) : (Jvm.Cond.methodLink "com/example/dutiful_pruner/dutifulpruner/collection/LineFileCollectionParseLinePinLaw" (60 : Nat) ({ cls := "com/example/dutiful_pruner/dutifulpruner/collection/LineFileCollectionParseLinePinLaw", name := "pick", desc := "(JIII)C" } : Jvm.MethodName)).before a0 Z = true := G.1 _ (List.mem_of_getElem? (i := 2) rfl)
theorem w3 {Z : State} {a0 : Array Value} {zC : Int32} {fS : Value} {dO : Addr} {dT : Addr} (G : Gl Z a0 zC fS dO dT) : (Jvm.Cond.static ({ cls := "com/example/dutiful_pruner/dutifulpruner/collection/LineFileCollectionParseLinePinLaw", name := "pick", desc := "(JIII)C" } : Jvm.MethodName)).before a0 Z = true := G.1 _ (List.mem_of_getElem? (i := 3) rfl)
theorem w4 {Z : State} {a0 : Array Value} {zC : Int32} {fS : Value} {dO : Addr} {dT : Addr} (G : Gl Z a0 zC fS dO dT) : (Jvm.Cond.initialized "com/example/dutiful_pruner/dutifulpruner/collection/LineFileCollectionParseLinePinLaw").before a0 Z = true := G.1 _ (List.mem_of_getElem? (i := 4) rfl)
theorem w5 {Z : State} {a0 : Array Value} {zC : Int32} {fS : Value} {dO : Addr} {dT : Addr} (G : Gl Z a0 zC fS dO dT) : (Jvm.Cond.code ({ cls := "com/example/dutiful_pruner/dutifulpruner/collection/LineFileCollectionParseLinePinLaw", name := "pick", desc := "(JIII)C" } : Jvm.MethodName) method_2_code (6 : Nat) (Option.some Jvm.ClassFile.FieldType.char)).before a0 Z = true := G.1 _ (List.mem_of_getElem? (i := 5) rfl)
theorem w6 {Z : State} {a0 : Array Value} {zC : Int32} {fS : Value} {dO : Addr} {dT : Addr} (G : Gl Z a0 zC fS dO dT) : (Jvm.Cond.constantLong "com/example/dutiful_pruner/dutifulpruner/collection/LineFileCollectionParseLinePinLaw" (7 : Nat) (255 : Int64)).before a0 Z = true := G.1 _ (List.mem_of_getElem? (i := 6) rfl)
theorem w7 {Z : State} {a0 : Array Value} {zC : Int32} {fS : Value} {dO : Addr} {dT : Addr} (G : Gl Z a0 zC fS dO dT) : (Jvm.Cond.arrayClass Jvm.ClassFile.FieldType.long).before a0 Z = true := G.1 _ (List.mem_of_getElem? (i := 7) rfl)
theorem w8 {Z : State} {a0 : Array Value} {zC : Int32} {fS : Value} {dO : Addr} {dT : Addr} (G : Gl Z a0 zC fS dO dT) : (Jvm.Cond.constantLong "com/example/dutiful_pruner/dutifulpruner/collection/LineFileCollectionParseLinePinLaw" (51 : Nat) (10 : Int64)).before a0 Z = true := G.1 _ (List.mem_of_getElem? (i := 8) rfl)
theorem w9 {Z : State} {a0 : Array Value} {zC : Int32} {fS : Value} {dO : Addr} {dT : Addr} (G : Gl Z a0 zC fS dO dT) : (Jvm.Cond.constantLong "com/example/dutiful_pruner/dutifulpruner/collection/LineFileCollectionParseLinePinLaw" (66 : Nat) (100 : Int64)).before a0 Z = true := G.1 _ (List.mem_of_getElem? (i := 9) rfl)
theorem w10 {Z : State} {a0 : Array Value} {zC : Int32} {fS : Value} {dO : Addr} {dT : Addr} (G : Gl Z a0 zC fS dO dT) : (Jvm.Cond.constantLong "com/example/dutiful_pruner/dutifulpruner/collection/LineFileCollectionParseLinePinLaw" (68 : Nat) (1000 : Int64)).before a0 Z = true := G.1 _ (List.mem_of_getElem? (i := 10) rfl)
theorem w11 {Z : State} {a0 : Array Value} {zC : Int32} {fS : Value} {dO : Addr} {dT : Addr} (G : Gl Z a0 zC fS dO dT) : (Jvm.Cond.constantLong "com/example/dutiful_pruner/dutifulpruner/collection/LineFileCollectionParseLinePinLaw" (70 : Nat) (10000 : Int64)).before a0 Z = true := G.1 _ (List.mem_of_getElem? (i := 11) rfl)
theorem w12 {Z : State} {a0 : Array Value} {zC : Int32} {fS : Value} {dO : Addr} {dT : Addr} (G : Gl Z a0 zC fS dO dT) : (Jvm.Cond.constantLong "com/example/dutiful_pruner/dutifulpruner/collection/LineFileCollectionParseLinePinLaw" (72 : Nat) (100000 : Int64)).before a0 Z = true := G.1 _ (List.mem_of_getElem? (i := 12) rfl)
theorem w13 {Z : State} {a0 : Array Value} {zC : Int32} {fS : Value} {dO : Addr} {dT : Addr} (G : Gl Z a0 zC fS dO dT) : (Jvm.Cond.constantLong "com/example/dutiful_pruner/dutifulpruner/collection/LineFileCollectionParseLinePinLaw" (74 : Nat) (1000000 : Int64)).before a0 Z = true := G.1 _ (List.mem_of_getElem? (i := 13) rfl)
theorem w14 {Z : State} {a0 : Array Value} {zC : Int32} {fS : Value} {dO : Addr} {dT : Addr} (G : Gl Z a0 zC fS dO dT) : (Jvm.Cond.constantLong "com/example/dutiful_pruner/dutifulpruner/collection/LineFileCollectionParseLinePinLaw" (76 : Nat) (10000000 : Int64)).before a0 Z = true := G.1 _ (List.mem_of_getElem? (i := 14) rfl)
theorem w15 {Z : State} {a0 : Array Value} {zC : Int32} {fS : Value} {dO : Addr} {dT : Addr} (G : Gl Z a0 zC fS dO dT) : (Jvm.Cond.constantLong "com/example/dutiful_pruner/dutifulpruner/collection/LineFileCollectionParseLinePinLaw" (78 : Nat) (100000000 : Int64)).before a0 Z = true := G.1 _ (List.mem_of_getElem? (i := 15) rfl)
theorem w16 {Z : State} {a0 : Array Value} {zC : Int32} {fS : Value} {dO : Addr} {dT : Addr} (G : Gl Z a0 zC fS dO dT) : (Jvm.Cond.constantLong "com/example/dutiful_pruner/dutifulpruner/collection/LineFileCollectionParseLinePinLaw" (80 : Nat) (1000000000 : Int64)).before a0 Z = true := G.1 _ (List.mem_of_getElem? (i := 16) rfl)
theorem w17 {Z : State} {a0 : Array Value} {zC : Int32} {fS : Value} {dO : Addr} {dT : Addr} (G : Gl Z a0 zC fS dO dT) : (Jvm.Cond.constantLong "com/example/dutiful_pruner/dutifulpruner/collection/LineFileCollectionParseLinePinLaw" (82 : Nat) (10000000000 : Int64)).before a0 Z = true := G.1 _ (List.mem_of_getElem? (i := 17) rfl)
theorem w18 {Z : State} {a0 : Array Value} {zC : Int32} {fS : Value} {dO : Addr} {dT : Addr} (G : Gl Z a0 zC fS dO dT) : (Jvm.Cond.constantLong "com/example/dutiful_pruner/dutifulpruner/collection/LineFileCollectionParseLinePinLaw" (84 : Nat) (100000000000 : Int64)).before a0 Z = true := G.1 _ (List.mem_of_getElem? (i := 18) rfl)
theorem w19 {Z : State} {a0 : Array Value} {zC : Int32} {fS : Value} {dO : Addr} {dT : Addr} (G : Gl Z a0 zC fS dO dT) : (Jvm.Cond.constantLong "com/example/dutiful_pruner/dutifulpruner/collection/LineFileCollectionParseLinePinLaw" (86 : Nat) (1000000000000 : Int64)).before a0 Z = true := G.1 _ (List.mem_of_getElem? (i := 19) rfl)
theorem w20 {Z : State} {a0 : Array Value} {zC : Int32} {fS : Value} {dO : Addr} {dT : Addr} (G : Gl Z a0 zC fS dO dT) : (Jvm.Cond.constantLong "com/example/dutiful_pruner/dutifulpruner/collection/LineFileCollectionParseLinePinLaw" (88 : Nat) (10000000000000 : Int64)).before a0 Z = true := G.1 _ (List.mem_of_getElem? (i := 20) rfl)
theorem w21 {Z : State} {a0 : Array Value} {zC : Int32} {fS : Value} {dO : Addr} {dT : Addr} (G : Gl Z a0 zC fS dO dT) : (Jvm.Cond.constantLong "com/example/dutiful_pruner/dutifulpruner/collection/LineFileCollectionParseLinePinLaw" (90 : Nat) (100000000000000 : Int64)).before a0 Z = true := G.1 _ (List.mem_of_getElem? (i := 21) rfl)
theorem w22 {Z : State} {a0 : Array Value} {zC : Int32} {fS : Value} {dO : Addr} {dT : Addr} (G : Gl Z a0 zC fS dO dT) : (Jvm.Cond.constantLong "com/example/dutiful_pruner/dutifulpruner/collection/LineFileCollectionParseLinePinLaw" (92 : Nat) (1000000000000000 : Int64)).before a0 Z = true := G.1 _ (List.mem_of_getElem? (i := 22) rfl)
theorem w23 {Z : State} {a0 : Array Value} {zC : Int32} {fS : Value} {dO : Addr} {dT : Addr} (G : Gl Z a0 zC fS dO dT) : (Jvm.Cond.constantLong "com/example/dutiful_pruner/dutifulpruner/collection/LineFileCollectionParseLinePinLaw" (94 : Nat) (10000000000000000 : Int64)).before a0 Z = true := G.1 _ (List.mem_of_getElem? (i := 23) rfl)
theorem w24 {Z : State} {a0 : Array Value} {zC : Int32} {fS : Value} {dO : Addr} {dT : Addr} (G : Gl Z a0 zC fS dO dT) : (Jvm.Cond.constantLong "com/example/dutiful_pruner/dutifulpruner/collection/LineFileCollectionParseLinePinLaw" (96 : Nat) (100000000000000000 : Int64)).before a0 Z = true := G.1 _ (List.mem_of_getElem? (i := 24) rfl)
theorem w25 {Z : State} {a0 : Array Value} {zC : Int32} {fS : Value} {dO : Addr} {dT : Addr} (G : Gl Z a0 zC fS dO dT) : (Jvm.Cond.constantLong "com/example/dutiful_pruner/dutifulpruner/collection/LineFileCollectionParseLinePinLaw" (98 : Nat) (1000000000000000000 : Int64)).before a0 Z = true := G.1 _ (List.mem_of_getElem? (i := 25) rfl)
theorem w26 {Z : State} {a0 : Array Value} {zC : Int32} {fS : Value} {dO : Addr} {dT : Addr} (G : Gl Z a0 zC fS dO dT) : (Jvm.Cond.classLink "com/example/dutiful_pruner/dutifulpruner/collection/LineFileCollectionParseLinePinLaw" (10 : Nat) "java/lang/String").before a0 Z = true := G.1 _ (List.mem_of_getElem? (i := 26) rfl)
theorem w27 {Z : State} {a0 : Array Value} {zC : Int32} {fS : Value} {dO : Addr} {dT : Addr} (G : Gl Z a0 zC fS dO dT) : (Jvm.Cond.instantiable "java/lang/String" (4 : Nat)).before a0 Z = true := G.1 _ (List.mem_of_getElem? (i := 27) rfl)
theorem w28 {Z : State} {a0 : Array Value} {zC : Int32} {fS : Value} {dO : Addr} {dT : Addr} (G : Gl Z a0 zC fS dO dT) : (Jvm.Cond.initialized "java/lang/String").before a0 Z = true := G.1 _ (List.mem_of_getElem? (i := 28) rfl)
theorem w29 {Z : State} {a0 : Array Value} {zC : Int32} {fS : Value} {dO : Addr} {dT : Addr} (G : Gl Z a0 zC fS dO dT) : (Jvm.Cond.methodLink "com/example/dutiful_pruner/dutifulpruner/collection/LineFileCollectionParseLinePinLaw" (100 : Nat) ({ cls := "java/lang/String", name := "<init>", desc := "([C)V" } : Jvm.MethodName)).before a0 Z = true := G.1 _ (List.mem_of_getElem? (i := 29) rfl)
theorem w30 {Z : State} {a0 : Array Value} {zC : Int32} {fS : Value} {dO : Addr} {dT : Addr} (G : Gl Z a0 zC fS dO dT) : (Jvm.Cond.instanceMethod ({ cls := "java/lang/String", name := "<init>", desc := "([C)V" } : Jvm.MethodName)).before a0 Z = true := G.1 _ (List.mem_of_getElem? (i := 30) rfl)
theorem w31 {Z : State} {a0 : Array Value} {zC : Int32} {fS : Value} {dO : Addr} {dT : Addr} (G : Gl Z a0 zC fS dO dT) : (Jvm.Cond.code ({ cls := "java/lang/String", name := "<init>", desc := "([C)V" } : Jvm.MethodName) jdk_42_method_3_code (2 : Nat) (Option.none : Option Jvm.ClassFile.FieldType)).before a0 Z = true := G.1 _ (List.mem_of_getElem? (i := 31) rfl)
theorem w32 {Z : State} {a0 : Array Value} {zC : Int32} {fS : Value} {dO : Addr} {dT : Addr} (G : Gl Z a0 zC fS dO dT) : (Jvm.Cond.methodLink "java/lang/String" (27 : Nat) ({ cls := "java/lang/String", name := "<init>", desc := "([CIILjava/lang/Void;)V" } : Jvm.MethodName)).before a0 Z = true := G.1 _ (List.mem_of_getElem? (i := 32) rfl)
theorem w33 {Z : State} {a0 : Array Value} {zC : Int32} {fS : Value} {dO : Addr} {dT : Addr} (G : Gl Z a0 zC fS dO dT) : (Jvm.Cond.instanceMethod ({ cls := "java/lang/String", name := "<init>", desc := "([CIILjava/lang/Void;)V" } : Jvm.MethodName)).before a0 Z = true := G.1 _ (List.mem_of_getElem? (i := 33) rfl)
theorem w35 {Z : State} {a0 : Array Value} {zC : Int32} {fS : Value} {dO : Addr} {dT : Addr} (G : Gl Z a0 zC fS dO dT) : (Jvm.Cond.code ({ cls := "java/lang/String", name := "<init>", desc := "([CIILjava/lang/Void;)V" } : Jvm.MethodName) jdk_42_method_149_code (6 : Nat) (Option.none : Option Jvm.ClassFile.FieldType)).before a0 Z = true := G.1 _ (List.mem_of_getElem? (i := 35) rfl)
theorem w36 {Z : State} {a0 : Array Value} {zC : Int32} {fS : Value} {dO : Addr} {dT : Addr} (G : Gl Z a0 zC fS dO dT) : (Jvm.Cond.methodLink "java/lang/String" (1 : Nat) ({ cls := "java/lang/Object", name := "<init>", desc := "()V" } : Jvm.MethodName)).before a0 Z = true := G.1 _ (List.mem_of_getElem? (i := 36) rfl)
theorem w37 {Z : State} {a0 : Array Value} {zC : Int32} {fS : Value} {dO : Addr} {dT : Addr} (G : Gl Z a0 zC fS dO dT) : (Jvm.Cond.instanceMethod ({ cls := "java/lang/Object", name := "<init>", desc := "()V" } : Jvm.MethodName)).before a0 Z = true := G.1 _ (List.mem_of_getElem? (i := 37) rfl)
theorem w38 {Z : State} {a0 : Array Value} {zC : Int32} {fS : Value} {dO : Addr} {dT : Addr} (G : Gl Z a0 zC fS dO dT) : (Jvm.Cond.code ({ cls := "java/lang/Object", name := "<init>", desc := "()V" } : Jvm.MethodName) object_method_1_code (1 : Nat) (Option.none : Option Jvm.ClassFile.FieldType)).before a0 Z = true := G.1 _ (List.mem_of_getElem? (i := 38) rfl)
theorem w39 {Z : State} {a0 : Array Value} {zC : Int32} {fS : Value} {dO : Addr} {dT : Addr} (G : Gl Z a0 zC fS dO dT) : (Jvm.Cond.fieldLink "java/lang/String" (38 : Nat) "java/lang/String" "COMPACT_STRINGS" "Z").before a0 Z = true := G.1 _ (List.mem_of_getElem? (i := 39) rfl)
theorem w40 {Z : State} {a0 : Array Value} {zC : Int32} {fS : Value} {dO : Addr} {dT : Addr} (G : Gl Z a0 zC fS dO dT) : (Jvm.Cond.methodLink "java/lang/String" (177 : Nat) ({ cls := "java/lang/StringUTF16", name := "compress", desc := "([CII)[B" } : Jvm.MethodName)).before a0 Z = true := G.1 _ (List.mem_of_getElem? (i := 40) rfl)
theorem w41 {Z : State} {a0 : Array Value} {zC : Int32} {fS : Value} {dO : Addr} {dT : Addr} (G : Gl Z a0 zC fS dO dT) : (Jvm.Cond.static ({ cls := "java/lang/StringUTF16", name := "compress", desc := "([CII)[B" } : Jvm.MethodName)).before a0 Z = true := G.1 _ (List.mem_of_getElem? (i := 41) rfl)
theorem w42 {Z : State} {a0 : Array Value} {zC : Int32} {fS : Value} {dO : Addr} {dT : Addr} (G : Gl Z a0 zC fS dO dT) : (Jvm.Cond.initialized "java/lang/StringUTF16").before a0 Z = true := G.1 _ (List.mem_of_getElem? (i := 42) rfl)
theorem w43 {Z : State} {a0 : Array Value} {zC : Int32} {fS : Value} {dO : Addr} {dT : Addr} (G : Gl Z a0 zC fS dO dT) : (Jvm.Cond.code ({ cls := "java/lang/StringUTF16", name := "compress", desc := "([CII)[B" } : Jvm.MethodName) jdk_52_method_16_code (6 : Nat) (Option.some (Jvm.ClassFile.FieldType.array Jvm.ClassFile.FieldType.byte))).before a0 Z = true := G.1 _ (List.mem_of_getElem? (i := 43) rfl)
theorem w44 {Z : State} {a0 : Array Value} {zC : Int32} {fS : Value} {dO : Addr} {dT : Addr} (G : Gl Z a0 zC fS dO dT) : (Jvm.Cond.arrayClass Jvm.ClassFile.FieldType.byte).before a0 Z = true := G.1 _ (List.mem_of_getElem? (i := 44) rfl)
theorem w45 {Z : State} {a0 : Array Value} {zC : Int32} {fS : Value} {dO : Addr} {dT : Addr} (G : Gl Z a0 zC fS dO dT) : (Jvm.Cond.methodLink "java/lang/StringUTF16" (115 : Nat) ({ cls := "java/lang/StringUTF16", name := "compress", desc := "([CI[BII)I" } : Jvm.MethodName)).before a0 Z = true := G.1 _ (List.mem_of_getElem? (i := 45) rfl)
theorem w46 {Z : State} {a0 : Array Value} {zC : Int32} {fS : Value} {dO : Addr} {dT : Addr} (G : Gl Z a0 zC fS dO dT) : (Jvm.Cond.static ({ cls := "java/lang/StringUTF16", name := "compress", desc := "([CI[BII)I" } : Jvm.MethodName)).before a0 Z = true := G.1 _ (List.mem_of_getElem? (i := 46) rfl)
theorem w47 {Z : State} {a0 : Array Value} {zC : Int32} {fS : Value} {dO : Addr} {dT : Addr} (G : Gl Z a0 zC fS dO dT) : (Jvm.Cond.code ({ cls := "java/lang/StringUTF16", name := "compress", desc := "([CI[BII)I" } : Jvm.MethodName) jdk_52_method_21_code (7 : Nat) (Option.some Jvm.ClassFile.FieldType.int)).before a0 Z = true := G.1 _ (List.mem_of_getElem? (i := 47) rfl)
theorem w48 {Z : State} {a0 : Array Value} {zC : Int32} {fS : Value} {dO : Addr} {dT : Addr} (G : Gl Z a0 zC fS dO dT) : (Jvm.Cond.methodLink "java/lang/String" (47 : Nat) ({ cls := "java/lang/StringUTF16", name := "coderFromArrayLen", desc := "([BI)B" } : Jvm.MethodName)).before a0 Z = true := G.1 _ (List.mem_of_getElem? (i := 48) rfl)
theorem w49 {Z : State} {a0 : Array Value} {zC : Int32} {fS : Value} {dO : Addr} {dT : Addr} (G : Gl Z a0 zC fS dO dT) : (Jvm.Cond.static ({ cls := "java/lang/StringUTF16", name := "coderFromArrayLen", desc := "([BI)B" } : Jvm.MethodName)).before a0 Z = true := G.1 _ (List.mem_of_getElem? (i := 49) rfl)
theorem w50 {Z : State} {a0 : Array Value} {zC : Int32} {fS : Value} {dO : Addr} {dT : Addr} (G : Gl Z a0 zC fS dO dT) : (Jvm.Cond.code ({ cls := "java/lang/StringUTF16", name := "coderFromArrayLen", desc := "([BI)B" } : Jvm.MethodName) jdk_52_method_15_code (2 : Nat) (Option.some Jvm.ClassFile.FieldType.byte)).before a0 Z = true := G.1 _ (List.mem_of_getElem? (i := 50) rfl)
theorem w51 {Z : State} {a0 : Array Value} {zC : Int32} {fS : Value} {dO : Addr} {dT : Addr} (G : Gl Z a0 zC fS dO dT) : (Jvm.Cond.fieldLink "java/lang/String" (15 : Nat) "java/lang/String" "coder" "B").before a0 Z = true := G.1 _ (List.mem_of_getElem? (i := 51) rfl)
theorem w52 {Z : State} {a0 : Array Value} {zC : Int32} {fS : Value} {dO : Addr} {dT : Addr} (G : Gl Z a0 zC fS dO dT) : (Jvm.Cond.laysFinal "java/lang/String" "java/lang/String" "coder" "B").before a0 Z = true := G.1 _ (List.mem_of_getElem? (i := 52) rfl)
theorem w53 {Z : State} {a0 : Array Value} {zC : Int32} {fS : Value} {dO : Addr} {dT : Addr} (G : Gl Z a0 zC fS dO dT) : (Jvm.Cond.fieldLink "java/lang/String" (9 : Nat) "java/lang/String" "value" "[B").before a0 Z = true := G.1 _ (List.mem_of_getElem? (i := 53) rfl)
theorem w54 {Z : State} {a0 : Array Value} {zC : Int32} {fS : Value} {dO : Addr} {dT : Addr} (G : Gl Z a0 zC fS dO dT) : (Jvm.Cond.laysFinal "java/lang/String" "java/lang/String" "value" "[B").before a0 Z = true := G.1 _ (List.mem_of_getElem? (i := 54) rfl)
theorem w55 {Z : State} {a0 : Array Value} {zC : Int32} {fS : Value} {dO : Addr} {dT : Addr} (G : Gl Z a0 zC fS dO dT) : (Jvm.Cond.methodLink "com/example/dutiful_pruner/dutifulpruner/collection/LineFileCollectionParseLinePinLaw" (103 : Nat) ({ cls := "com/example/dutiful_pruner/dutifulpruner/collection/LineFileCollection", name := "parseLine", desc := "(Ljava/lang/String;J)Lcom/example/dutiful_pruner/dutifulpruner/collection/CollectionDocument;" } : Jvm.MethodName)).before a0 Z = true := G.1 _ (List.mem_of_getElem? (i := 55) rfl)
theorem w56 {Z : State} {a0 : Array Value} {zC : Int32} {fS : Value} {dO : Addr} {dT : Addr} (G : Gl Z a0 zC fS dO dT) : (Jvm.Cond.static ({ cls := "com/example/dutiful_pruner/dutifulpruner/collection/LineFileCollection", name := "parseLine", desc := "(Ljava/lang/String;J)Lcom/example/dutiful_pruner/dutifulpruner/collection/CollectionDocument;" } : Jvm.MethodName)).before a0 Z = true := G.1 _ (List.mem_of_getElem? (i := 56) rfl)
theorem w57 {Z : State} {a0 : Array Value} {zC : Int32} {fS : Value} {dO : Addr} {dT : Addr} (G : Gl Z a0 zC fS dO dT) : (Jvm.Cond.initialized "com/example/dutiful_pruner/dutifulpruner/collection/LineFileCollection").before a0 Z = true := G.1 _ (List.mem_of_getElem? (i := 57) rfl)
theorem w58 {Z : State} {a0 : Array Value} {zC : Int32} {fS : Value} {dO : Addr} {dT : Addr} (G : Gl Z a0 zC fS dO dT) : (Jvm.Cond.code ({ cls := "com/example/dutiful_pruner/dutifulpruner/collection/LineFileCollection", name := "parseLine", desc := "(Ljava/lang/String;J)Lcom/example/dutiful_pruner/dutifulpruner/collection/CollectionDocument;" } : Jvm.MethodName) prog_4_method_2_code (5 : Nat) (Option.some (Jvm.ClassFile.FieldType.object "com/example/dutiful_pruner/dutifulpruner/collection/CollectionDocument"))).before a0 Z = true := G.1 _ (List.mem_of_getElem? (i := 58) rfl)
theorem w59 {Z : State} {a0 : Array Value} {zC : Int32} {fS : Value} {dO : Addr} {dT : Addr} (G : Gl Z a0 zC fS dO dT) : (Jvm.Cond.methodLink "com/example/dutiful_pruner/dutifulpruner/collection/LineFileCollection" (9 : Nat) ({ cls := "java/lang/String", name := "indexOf", desc := "(I)I" } : Jvm.MethodName)).before a0 Z = true := G.1 _ (List.mem_of_getElem? (i := 59) rfl)
theorem w60 {Z : State} {a0 : Array Value} {zC : Int32} {fS : Value} {dO : Addr} {dT : Addr} (G : Gl Z a0 zC fS dO dT) : (Jvm.Cond.declares ({ cls := "java/lang/String", name := "indexOf", desc := "(I)I" } : Jvm.MethodName)).before a0 Z = true := G.1 _ (List.mem_of_getElem? (i := 60) rfl)
theorem w61 {Z : State} {a0 : Array Value} {zC : Int32} {fS : Value} {dO : Addr} {dT : Addr} (G : Gl Z a0 zC fS dO dT) : (Jvm.Cond.instanceMethod ({ cls := "java/lang/String", name := "indexOf", desc := "(I)I" } : Jvm.MethodName)).before a0 Z = true := G.1 _ (List.mem_of_getElem? (i := 61) rfl)
theorem w62 {Z : State} {a0 : Array Value} {zC : Int32} {fS : Value} {dO : Addr} {dT : Addr} (G : Gl Z a0 zC fS dO dT) : (Jvm.Cond.selects "java/lang/String" ({ cls := "java/lang/String", name := "indexOf", desc := "(I)I" } : Jvm.MethodName) ({ cls := "java/lang/String", name := "indexOf", desc := "(I)I" } : Jvm.MethodName)).before a0 Z = true := G.1 _ (List.mem_of_getElem? (i := 62) rfl)
theorem w63 {Z : State} {a0 : Array Value} {zC : Int32} {fS : Value} {dO : Addr} {dT : Addr} (G : Gl Z a0 zC fS dO dT) : (Jvm.Cond.code ({ cls := "java/lang/String", name := "indexOf", desc := "(I)I" } : Jvm.MethodName) jdk_42_method_79_code (2 : Nat) (Option.some Jvm.ClassFile.FieldType.int)).before a0 Z = true := G.1 _ (List.mem_of_getElem? (i := 63) rfl)
theorem w64 {Z : State} {a0 : Array Value} {zC : Int32} {fS : Value} {dO : Addr} {dT : Addr} (G : Gl Z a0 zC fS dO dT) : (Jvm.Cond.methodLink "java/lang/String" (633 : Nat) ({ cls := "java/lang/String", name := "indexOf", desc := "(II)I" } : Jvm.MethodName)).before a0 Z = true := G.1 _ (List.mem_of_getElem? (i := 64) rfl)
theorem w65 {Z : State} {a0 : Array Value} {zC : Int32} {fS : Value} {dO : Addr} {dT : Addr} (G : Gl Z a0 zC fS dO dT) : (Jvm.Cond.declares ({ cls := "java/lang/String", name := "indexOf", desc := "(II)I" } : Jvm.MethodName)).before a0 Z = true := G.1 _ (List.mem_of_getElem? (i := 65) rfl)
theorem w66 {Z : State} {a0 : Array Value} {zC : Int32} {fS : Value} {dO : Addr} {dT : Addr} (G : Gl Z a0 zC fS dO dT) : (Jvm.Cond.instanceMethod ({ cls := "java/lang/String", name := "indexOf", desc := "(II)I" } : Jvm.MethodName)).before a0 Z = true := G.1 _ (List.mem_of_getElem? (i := 66) rfl)
theorem w67 {Z : State} {a0 : Array Value} {zC : Int32} {fS : Value} {dO : Addr} {dT : Addr} (G : Gl Z a0 zC fS dO dT) : (Jvm.Cond.selects "java/lang/String" ({ cls := "java/lang/String", name := "indexOf", desc := "(II)I" } : Jvm.MethodName) ({ cls := "java/lang/String", name := "indexOf", desc := "(II)I" } : Jvm.MethodName)).before a0 Z = true := G.1 _ (List.mem_of_getElem? (i := 67) rfl)
theorem w68 {Z : State} {a0 : Array Value} {zC : Int32} {fS : Value} {dO : Addr} {dT : Addr} (G : Gl Z a0 zC fS dO dT) : (Jvm.Cond.code ({ cls := "java/lang/String", name := "indexOf", desc := "(II)I" } : Jvm.MethodName) jdk_42_method_80_code (3 : Nat) (Option.some Jvm.ClassFile.FieldType.int)).before a0 Z = true := G.1 _ (List.mem_of_getElem? (i := 68) rfl)
theorem w69 {Z : State} {a0 : Array Value} {zC : Int32} {fS : Value} {dO : Addr} {dT : Addr} (G : Gl Z a0 zC fS dO dT) : (Jvm.Cond.methodLink "java/lang/String" (492 : Nat) ({ cls := "java/lang/String", name := "isLatin1", desc := "()Z" } : Jvm.MethodName)).before a0 Z = true := G.1 _ (List.mem_of_getElem? (i := 69) rfl)
theorem w70 {Z : State} {a0 : Array Value} {zC : Int32} {fS : Value} {dO : Addr} {dT : Addr} (G : Gl Z a0 zC fS dO dT) : (Jvm.Cond.declares ({ cls := "java/lang/String", name := "isLatin1", desc := "()Z" } : Jvm.MethodName)).before a0 Z = true := G.1 _ (List.mem_of_getElem? (i := 70) rfl)
theorem w71 {Z : State} {a0 : Array Value} {zC : Int32} {fS : Value} {dO : Addr} {dT : Addr} (G : Gl Z a0 zC fS dO dT) : (Jvm.Cond.instanceMethod ({ cls := "java/lang/String", name := "isLatin1", desc := "()Z" } : Jvm.MethodName)).before a0 Z = true := G.1 _ (List.mem_of_getElem? (i := 71) rfl)
theorem w72 {Z : State} {a0 : Array Value} {zC : Int32} {fS : Value} {dO : Addr} {dT : Addr} (G : Gl Z a0 zC fS dO dT) : (Jvm.Cond.selects "java/lang/String" ({ cls := "java/lang/String", name := "isLatin1", desc := "()Z" } : Jvm.MethodName) ({ cls := "java/lang/String", name := "isLatin1", desc := "()Z" } : Jvm.MethodName)).before a0 Z = true := G.1 _ (List.mem_of_getElem? (i := 72) rfl)
theorem w73 {Z : State} {a0 : Array Value} {zC : Int32} {fS : Value} {dO : Addr} {dT : Addr} (G : Gl Z a0 zC fS dO dT) : (Jvm.Cond.code ({ cls := "java/lang/String", name := "isLatin1", desc := "()Z" } : Jvm.MethodName) jdk_42_method_154_code (1 : Nat) (Option.some Jvm.ClassFile.FieldType.boolean)).before a0 Z = true := G.1 _ (List.mem_of_getElem? (i := 73) rfl)
theorem w74 {Z : State} {a0 : Array Value} {zC : Int32} {fS : Value} {dO : Addr} {dT : Addr} (G : Gl Z a0 zC fS dO dT) : (Jvm.Cond.methodLink "java/lang/String" (505 : Nat) ({ cls := "java/lang/String", name := "length", desc := "()I" } : Jvm.MethodName)).before a0 Z = true := G.1 _ (List.mem_of_getElem? (i := 74) rfl)
theorem w75 {Z : State} {a0 : Array Value} {zC : Int32} {fS : Value} {dO : Addr} {dT : Addr} (G : Gl Z a0 zC fS dO dT) : (Jvm.Cond.declares ({ cls := "java/lang/String", name := "length", desc := "()I" } : Jvm.MethodName)).before a0 Z = true := G.1 _ (List.mem_of_getElem? (i := 75) rfl)
theorem w76 {Z : State} {a0 : Array Value} {zC : Int32} {fS : Value} {dO : Addr} {dT : Addr} (G : Gl Z a0 zC fS dO dT) : (Jvm.Cond.instanceMethod ({ cls := "java/lang/String", name := "length", desc := "()I" } : Jvm.MethodName)).before a0 Z = true := G.1 _ (List.mem_of_getElem? (i := 76) rfl)
theorem w77 {Z : State} {a0 : Array Value} {zC : Int32} {fS : Value} {dO : Addr} {dT : Addr} (G : Gl Z a0 zC fS dO dT) : (Jvm.Cond.selects "java/lang/String" ({ cls := "java/lang/String", name := "length", desc := "()I" } : Jvm.MethodName) ({ cls := "java/lang/String", name := "length", desc := "()I" } : Jvm.MethodName)).before a0 Z = true := G.1 _ (List.mem_of_getElem? (i := 77) rfl)
theorem w78 {Z : State} {a0 : Array Value} {zC : Int32} {fS : Value} {dO : Addr} {dT : Addr} (G : Gl Z a0 zC fS dO dT) : (Jvm.Cond.code ({ cls := "java/lang/String", name := "length", desc := "()I" } : Jvm.MethodName) jdk_42_method_54_code (1 : Nat) (Option.some Jvm.ClassFile.FieldType.int)).before a0 Z = true := G.1 _ (List.mem_of_getElem? (i := 78) rfl)
theorem w79 {Z : State} {a0 : Array Value} {zC : Int32} {fS : Value} {dO : Addr} {dT : Addr} (G : Gl Z a0 zC fS dO dT) : (Jvm.Cond.methodLink "java/lang/String" (335 : Nat) ({ cls := "java/lang/String", name := "coder", desc := "()B" } : Jvm.MethodName)).before a0 Z = true := G.1 _ (List.mem_of_getElem? (i := 79) rfl)
theorem w80 {Z : State} {a0 : Array Value} {zC : Int32} {fS : Value} {dO : Addr} {dT : Addr} (G : Gl Z a0 zC fS dO dT) : (Jvm.Cond.declares ({ cls := "java/lang/String", name := "coder", desc := "()B" } : Jvm.MethodName)).before a0 Z = true := G.1 _ (List.mem_of_getElem? (i := 80) rfl)
theorem w81 {Z : State} {a0 : Array Value} {zC : Int32} {fS : Value} {dO : Addr} {dT : Addr} (G : Gl Z a0 zC fS dO dT) : (Jvm.Cond.instanceMethod ({ cls := "java/lang/String", name := "coder", desc := "()B" } : Jvm.MethodName)).before a0 Z = true := G.1 _ (List.mem_of_getElem? (i := 81) rfl)
theorem w82 {Z : State} {a0 : Array Value} {zC : Int32} {fS : Value} {dO : Addr} {dT : Addr} (G : Gl Z a0 zC fS dO dT) : (Jvm.Cond.selects "java/lang/String" ({ cls := "java/lang/String", name := "coder", desc := "()B" } : Jvm.MethodName) ({ cls := "java/lang/String", name := "coder", desc := "()B" } : Jvm.MethodName)).before a0 Z = true := G.1 _ (List.mem_of_getElem? (i := 82) rfl)
theorem w83 {Z : State} {a0 : Array Value} {zC : Int32} {fS : Value} {dO : Addr} {dT : Addr} (G : Gl Z a0 zC fS dO dT) : (Jvm.Cond.code ({ cls := "java/lang/String", name := "coder", desc := "()B" } : Jvm.MethodName) jdk_42_method_152_code (1 : Nat) (Option.some Jvm.ClassFile.FieldType.byte)).before a0 Z = true := G.1 _ (List.mem_of_getElem? (i := 83) rfl)
theorem w84 {Z : State} {a0 : Array Value} {zC : Int32} {fS : Value} {dO : Addr} {dT : Addr} (G : Gl Z a0 zC fS dO dT) : (Jvm.Cond.methodLink "java/lang/String" (637 : Nat) ({ cls := "java/lang/StringLatin1", name := "indexOf", desc := "([BIII)I" } : Jvm.MethodName)).before a0 Z = true := G.1 _ (List.mem_of_getElem? (i := 84) rfl)
theorem w85 {Z : State} {a0 : Array Value} {zC : Int32} {fS : Value} {dO : Addr} {dT : Addr} (G : Gl Z a0 zC fS dO dT) : (Jvm.Cond.static ({ cls := "java/lang/StringLatin1", name := "indexOf", desc := "([BIII)I" } : Jvm.MethodName)).before a0 Z = true := G.1 _ (List.mem_of_getElem? (i := 85) rfl)
theorem w86 {Z : State} {a0 : Array Value} {zC : Int32} {fS : Value} {dO : Addr} {dT : Addr} (G : Gl Z a0 zC fS dO dT) : (Jvm.Cond.initialized "java/lang/StringLatin1").before a0 Z = true := G.1 _ (List.mem_of_getElem? (i := 86) rfl)
theorem w87 {Z : State} {a0 : Array Value} {zC : Int32} {fS : Value} {dO : Addr} {dT : Addr} (G : Gl Z a0 zC fS dO dT) : (Jvm.Cond.code ({ cls := "java/lang/StringLatin1", name := "indexOf", desc := "([BIII)I" } : Jvm.MethodName) jdk_43_method_22_code (4 : Nat) (Option.some Jvm.ClassFile.FieldType.int)).before a0 Z = true := G.1 _ (List.mem_of_getElem? (i := 87) rfl)
theorem w88 {Z : State} {a0 : Array Value} {zC : Int32} {fS : Value} {dO : Addr} {dT : Addr} (G : Gl Z a0 zC fS dO dT) : (Jvm.Cond.methodLink "java/lang/StringLatin1" (88 : Nat) ({ cls := "java/lang/StringLatin1", name := "canEncode", desc := "(I)Z" } : Jvm.MethodName)).before a0 Z = true := G.1 _ (List.mem_of_getElem? (i := 88) rfl)
theorem w89 {Z : State} {a0 : Array Value} {zC : Int32} {fS : Value} {dO : Addr} {dT : Addr} (G : Gl Z a0 zC fS dO dT) : (Jvm.Cond.static ({ cls := "java/lang/StringLatin1", name := "canEncode", desc := "(I)Z" } : Jvm.MethodName)).before a0 Z = true := G.1 _ (List.mem_of_getElem? (i := 89) rfl)
theorem w90 {Z : State} {a0 : Array Value} {zC : Int32} {fS : Value} {dO : Addr} {dT : Addr} (G : Gl Z a0 zC fS dO dT) : (Jvm.Cond.code ({ cls := "java/lang/StringLatin1", name := "canEncode", desc := "(I)Z" } : Jvm.MethodName) jdk_43_method_4_code (1 : Nat) (Option.some Jvm.ClassFile.FieldType.boolean)).before a0 Z = true := G.1 _ (List.mem_of_getElem? (i := 90) rfl)
theorem w91 {Z : State} {a0 : Array Value} {zC : Int32} {fS : Value} {dO : Addr} {dT : Addr} (G : Gl Z a0 zC fS dO dT) : (Jvm.Cond.methodLink "java/lang/StringLatin1" (92 : Nat) ({ cls := "java/lang/Math", name := "max", desc := "(II)I" } : Jvm.MethodName)).before a0 Z = true := G.1 _ (List.mem_of_getElem? (i := 91) rfl)
theorem w92 {Z : State} {a0 : Array Value} {zC : Int32} {fS : Value} {dO : Addr} {dT : Addr} (G : Gl Z a0 zC fS dO dT) : (Jvm.Cond.static ({ cls := "java/lang/Math", name := "max", desc := "(II)I" } : Jvm.MethodName)).before a0 Z = true := G.1 _ (List.mem_of_getElem? (i := 92) rfl)
theorem w93 {Z : State} {a0 : Array Value} {zC : Int32} {fS : Value} {dO : Addr} {dT : Addr} (G : Gl Z a0 zC fS dO dT) : (Jvm.Cond.initialized "java/lang/Math").before a0 Z = true := G.1 _ (List.mem_of_getElem? (i := 93) rfl)
theorem w94 {Z : State} {a0 : Array Value} {zC : Int32} {fS : Value} {dO : Addr} {dT : Addr} (G : Gl Z a0 zC fS dO dT) : (Jvm.Cond.code ({ cls := "java/lang/Math", name := "max", desc := "(II)I" } : Jvm.MethodName) jdk_29_method_65_code (2 : Nat) (Option.some Jvm.ClassFile.FieldType.int)).before a0 Z = true := G.1 _ (List.mem_of_getElem? (i := 94) rfl)
theorem w95 {Z : State} {a0 : Array Value} {zC : Int32} {fS : Value} {dO : Addr} {dT : Addr} (G : Gl Z a0 zC fS dO dT) : (Jvm.Cond.methodLink "java/lang/StringLatin1" (38 : Nat) ({ cls := "java/lang/Math", name := "min", desc := "(II)I" } : Jvm.MethodName)).before a0 Z = true := G.1 _ (List.mem_of_getElem? (i := 95) rfl)
theorem w96 {Z : State} {a0 : Array Value} {zC : Int32} {fS : Value} {dO : Addr} {dT : Addr} (G : Gl Z a0 zC fS dO dT) : (Jvm.Cond.static ({ cls := "java/lang/Math", name := "min", desc := "(II)I" } : Jvm.MethodName)).before a0 Z = true := G.1 _ (List.mem_of_getElem? (i := 96) rfl)
theorem w97 {Z : State} {a0 : Array Value} {zC : Int32} {fS : Value} {dO : Addr} {dT : Addr} (G : Gl Z a0 zC fS dO dT) : (Jvm.Cond.code ({ cls := "java/lang/Math", name := "min", desc := "(II)I" } : Jvm.MethodName) jdk_29_method_69_code (2 : Nat) (Option.some Jvm.ClassFile.FieldType.int)).before a0 Z = true := G.1 _ (List.mem_of_getElem? (i := 97) rfl)
theorem w98 {Z : State} {a0 : Array Value} {zC : Int32} {fS : Value} {dO : Addr} {dT : Addr} (G : Gl Z a0 zC fS dO dT) : (Jvm.Cond.methodLink "java/lang/StringLatin1" (95 : Nat) ({ cls := "java/lang/StringLatin1", name := "indexOfChar", desc := "([BIII)I" } : Jvm.MethodName)).before a0 Z = true := G.1 _ (List.mem_of_getElem? (i := 98) rfl)
theorem w99 {Z : State} {a0 : Array Value} {zC : Int32} {fS : Value} {dO : Addr} {dT : Addr} (G : Gl Z a0 zC fS dO dT) : (Jvm.Cond.static ({ cls := "java/lang/StringLatin1", name := "indexOfChar", desc := "([BIII)I" } : Jvm.MethodName)).before a0 Z = true := G.1 _ (List.mem_of_getElem? (i := 99) rfl)
theorem w100 {Z : State} {a0 : Array Value} {zC : Int32} {fS : Value} {dO : Addr} {dT : Addr} (G : Gl Z a0 zC fS dO dT) : (Jvm.Cond.code ({ cls := "java/lang/StringLatin1", name := "indexOfChar", desc := "([BIII)I" } : Jvm.MethodName) jdk_43_method_23_code (6 : Nat) (Option.some Jvm.ClassFile.FieldType.int)).before a0 Z = true := G.1 _ (List.mem_of_getElem? (i := 100) rfl)
theorem w101 {Z : State} {a0 : Array Value} {zC : Int32} {fS : Value} {dO : Addr} {dT : Addr} (G : Gl Z a0 zC fS dO dT) : (Jvm.Cond.methodLink "com/example/dutiful_pruner/dutifulpruner/collection/LineFileCollection" (15 : Nat) ({ cls := "java/lang/String", name := "indexOf", desc := "(II)I" } : Jvm.MethodName)).before a0 Z = true := G.1 _ (List.mem_of_getElem? (i := 101) rfl)
theorem w102 {Z : State} {a0 : Array Value} {zC : Int32} {fS : Value} {dO : Addr} {dT : Addr} (G : Gl Z a0 zC fS dO dT) : (Jvm.Cond.classLink "com/example/dutiful_pruner/dutifulpruner/collection/LineFileCollection" (25 : Nat) "com/example/dutiful_pruner/dutifulpruner/collection/CollectionDocument").before a0 Z = true := G.1 _ (List.mem_of_getElem? (i := 102) rfl)
theorem w103 {Z : State} {a0 : Array Value} {zC : Int32} {fS : Value} {dO : Addr} {dT : Addr} (G : Gl Z a0 zC fS dO dT) : (Jvm.Cond.instantiable "com/example/dutiful_pruner/dutifulpruner/collection/CollectionDocument" (2 : Nat)).before a0 Z = true := G.1 _ (List.mem_of_getElem? (i := 103) rfl)
theorem w104 {Z : State} {a0 : Array Value} {zC : Int32} {fS : Value} {dO : Addr} {dT : Addr} (G : Gl Z a0 zC fS dO dT) : (Jvm.Cond.initialized "com/example/dutiful_pruner/dutifulpruner/collection/CollectionDocument").before a0 Z = true := G.1 _ (List.mem_of_getElem? (i := 104) rfl)
theorem w105 {Z : State} {a0 : Array Value} {zC : Int32} {fS : Value} {dO : Addr} {dT : Addr} (G : Gl Z a0 zC fS dO dT) : (Jvm.Cond.methodLink "com/example/dutiful_pruner/dutifulpruner/collection/LineFileCollection" (27 : Nat) ({ cls := "java/lang/Long", name := "toString", desc := "(J)Ljava/lang/String;" } : Jvm.MethodName)).before a0 Z = true := G.1 _ (List.mem_of_getElem? (i := 105) rfl)
theorem w106 {Z : State} {a0 : Array Value} {zC : Int32} {fS : Value} {dO : Addr} {dT : Addr} (G : Gl Z a0 zC fS dO dT) : (Jvm.Cond.static ({ cls := "java/lang/Long", name := "toString", desc := "(J)Ljava/lang/String;" } : Jvm.MethodName)).before a0 Z = true := G.1 _ (List.mem_of_getElem? (i := 106) rfl)
theorem w107 {Z : State} {a0 : Array Value} {zC : Int32} {fS : Value} {dO : Addr} {dT : Addr} (G : Gl Z a0 zC fS dO dT) : (Jvm.Cond.initialized "java/lang/Long").before a0 Z = true := G.1 _ (List.mem_of_getElem? (i := 107) rfl)
theorem w108 {Z : State} {a0 : Array Value} {zC : Int32} {fS : Value} {dO : Addr} {dT : Addr} (G : Gl Z a0 zC fS dO dT) : (Jvm.Cond.code ({ cls := "java/lang/Long", name := "toString", desc := "(J)Ljava/lang/String;" } : Jvm.MethodName) jdk_35_method_12_code (4 : Nat) (Option.some (Jvm.ClassFile.FieldType.object "java/lang/String"))).before a0 Z = true := G.1 _ (List.mem_of_getElem? (i := 108) rfl)
theorem w109 {Z : State} {a0 : Array Value} {zC : Int32} {fS : Value} {dO : Addr} {dT : Addr} (G : Gl Z a0 zC fS dO dT) : (Jvm.Cond.methodLink "java/lang/Long" (118 : Nat) ({ cls := "java/lang/Long", name := "stringSize", desc := "(J)I" } : Jvm.MethodName)).before a0 Z = true := G.1 _ (List.mem_of_getElem? (i := 109) rfl)
theorem w110 {Z : State} {a0 : Array Value} {zC : Int32} {fS : Value} {dO : Addr} {dT : Addr} (G : Gl Z a0 zC fS dO dT) : (Jvm.Cond.static ({ cls := "java/lang/Long", name := "stringSize", desc := "(J)I" } : Jvm.MethodName)).before a0 Z = true := G.1 _ (List.mem_of_getElem? (i := 110) rfl)
theorem w111 {Z : State} {a0 : Array Value} {zC : Int32} {fS : Value} {dO : Addr} {dT : Addr} (G : Gl Z a0 zC fS dO dT) : (Jvm.Cond.code ({ cls := "java/lang/Long", name := "stringSize", desc := "(J)I" } : Jvm.MethodName) jdk_35_method_15_code (6 : Nat) (Option.some Jvm.ClassFile.FieldType.int)).before a0 Z = true := G.1 _ (List.mem_of_getElem? (i := 111) rfl)
theorem w112 {Z : State} {a0 : Array Value} {zC : Int32} {fS : Value} {dO : Addr} {dT : Addr} (G : Gl Z a0 zC fS dO dT) : (Jvm.Cond.constantLong "java/lang/Long" (140 : Nat) (-10 : Int64)).before a0 Z = true := G.1 _ (List.mem_of_getElem? (i := 112) rfl)
theorem w113 {Z : State} {a0 : Array Value} {zC : Int32} {fS : Value} {dO : Addr} {dT : Addr} (G : Gl Z a0 zC fS dO dT) : (Jvm.Cond.fieldLink "java/lang/Long" (13 : Nat) "java/lang/String" "COMPACT_STRINGS" "Z").before a0 Z = true := G.1 _ (List.mem_of_getElem? (i := 113) rfl)
theorem w114 {Z : State} {a0 : Array Value} {zC : Int32} {fS : Value} {dO : Addr} {dT : Addr} (G : Gl Z a0 zC fS dO dT) : (Jvm.Cond.methodLink "java/lang/Long" (121 : Nat) ({ cls := "java/lang/Long", name := "getChars", desc := "(JI[B)I" } : Jvm.MethodName)).before a0 Z = true := G.1 _ (List.mem_of_getElem? (i := 114) rfl)
theorem w115 {Z : State} {a0 : Array Value} {zC : Int32} {fS : Value} {dO : Addr} {dT : Addr} (G : Gl Z a0 zC fS dO dT) : (Jvm.Cond.static ({ cls := "java/lang/Long", name := "getChars", desc := "(JI[B)I" } : Jvm.MethodName)).before a0 Z = true := G.1 _ (List.mem_of_getElem? (i := 115) rfl)
theorem w116 {Z : State} {a0 : Array Value} {zC : Int32} {fS : Value} {dO : Addr} {dT : Addr} (G : Gl Z a0 zC fS dO dT) : (Jvm.Cond.code ({ cls := "java/lang/Long", name := "getChars", desc := "(JI[B)I" } : Jvm.MethodName) jdk_35_method_14_code (11 : Nat) (Option.some Jvm.ClassFile.FieldType.int)).before a0 Z = true := G.1 _ (List.mem_of_getElem? (i := 116) rfl)
theorem w117 {Z : State} {a0 : Array Value} {zC : Int32} {fS : Value} {dO : Addr} {dT : Addr} (G : Gl Z a0 zC fS dO dT) : (Jvm.Cond.constantLong "java/lang/Long" (129 : Nat) (-2147483648 : Int64)).before a0 Z = true := G.1 _ (List.mem_of_getElem? (i := 117) rfl)
theorem w118 {Z : State} {a0 : Array Value} {zC : Int32} {fS : Value} {dO : Addr} {dT : Addr} (G : Gl Z a0 zC fS dO dT) : (Jvm.Cond.fieldLink "java/lang/Long" (133 : Nat) "java/lang/Integer" "DigitOnes" "[B").before a0 Z = true := G.1 _ (List.mem_of_getElem? (i := 118) rfl)
theorem w120 {Z : State} {a0 : Array Value} {zC : Int32} {fS : Value} {dO : Addr} {dT : Addr} (G : Gl Z a0 zC fS dO dT) : (Jvm.Cond.classLink "java/lang/Long" (5 : Nat) "java/lang/String").before a0 Z = true := G.1 _ (List.mem_of_getElem? (i := 120) rfl)
theorem w121 {Z : State} {a0 : Array Value} {zC : Int32} {fS : Value} {dO : Addr} {dT : Addr} (G : Gl Z a0 zC fS dO dT) : (Jvm.Cond.methodLink "java/lang/Long" (112 : Nat) ({ cls := "java/lang/String", name := "<init>", desc := "([BB)V" } : Jvm.MethodName)).before a0 Z = true := G.1 _ (List.mem_of_getElem? (i := 121) rfl)
theorem w122 {Z : State} {a0 : Array Value} {zC : Int32} {fS : Value} {dO : Addr} {dT : Addr} (G : Gl Z a0 zC fS dO dT) : (Jvm.Cond.instanceMethod ({ cls := "java/lang/String", name := "<init>", desc := "([BB)V" } : Jvm.MethodName)).before a0 Z = true := G.1 _ (List.mem_of_getElem? (i := 122) rfl)
theorem w123 {Z : State} {a0 : Array Value} {zC : Int32} {fS : Value} {dO : Addr} {dT : Addr} (G : Gl Z a0 zC fS dO dT) : (Jvm.Cond.code ({ cls := "java/lang/String", name := "<init>", desc := "([BB)V" } : Jvm.MethodName) jdk_42_method_151_code (3 : Nat) (Option.none : Option Jvm.ClassFile.FieldType)).before a0 Z = true := G.1 _ (List.mem_of_getElem? (i := 123) rfl)
theorem w124 {Z : State} {a0 : Array Value} {zC : Int32} {fS : Value} {dO : Addr} {dT : Addr} (G : Gl Z a0 zC fS dO dT) : (Jvm.Cond.methodLink "com/example/dutiful_pruner/dutifulpruner/collection/LineFileCollection" (33 : Nat) ({ cls := "java/lang/String", name := "substring", desc := "(I)Ljava/lang/String;" } : Jvm.MethodName)).before a0 Z = true := G.1 _ (List.mem_of_getElem? (i := 124) rfl)
theorem w125 {Z : State} {a0 : Array Value} {zC : Int32} {fS : Value} {dO : Addr} {dT : Addr} (G : Gl Z a0 zC fS dO dT) : (Jvm.Cond.declares ({ cls := "java/lang/String", name := "substring", desc := "(I)Ljava/lang/String;" } : Jvm.MethodName)).before a0 Z = true := G.1 _ (List.mem_of_getElem? (i := 125) rfl)
theorem w126 {Z : State} {a0 : Array Value} {zC : Int32} {fS : Value} {dO : Addr} {dT : Addr} (G : Gl Z a0 zC fS dO dT) : (Jvm.Cond.instanceMethod ({ cls := "java/lang/String", name := "substring", desc := "(I)Ljava/lang/String;" } : Jvm.MethodName)).before a0 Z = true := G.1 _ (List.mem_of_getElem? (i := 126) rfl)
theorem w127 {Z : State} {a0 : Array Value} {zC : Int32} {fS : Value} {dO : Addr} {dT : Addr} (G : Gl Z a0 zC fS dO dT) : (Jvm.Cond.selects "java/lang/String" ({ cls := "java/lang/String", name := "substring", desc := "(I)Ljava/lang/String;" } : Jvm.MethodName) ({ cls := "java/lang/String", name := "substring", desc := "(I)Ljava/lang/String;" } : Jvm.MethodName)).before a0 Z = true := G.1 _ (List.mem_of_getElem? (i := 127) rfl)
theorem w128 {Z : State} {a0 : Array Value} {zC : Int32} {fS : Value} {dO : Addr} {dT : Addr} (G : Gl Z a0 zC fS dO dT) : (Jvm.Cond.code ({ cls := "java/lang/String", name := "substring", desc := "(I)Ljava/lang/String;" } : Jvm.MethodName) jdk_42_method_91_code (2 : Nat) (Option.some (Jvm.ClassFile.FieldType.object "java/lang/String"))).before a0 Z = true := G.1 _ (List.mem_of_getElem? (i := 128) rfl)
theorem w129 {Z : State} {a0 : Array Value} {zC : Int32} {fS : Value} {dO : Addr} {dT : Addr} (G : Gl Z a0 zC fS dO dT) : (Jvm.Cond.methodLink "java/lang/String" (681 : Nat) ({ cls := "java/lang/String", name := "substring", desc := "(II)Ljava/lang/String;" } : Jvm.MethodName)).before a0 Z = true := G.1 _ (List.mem_of_getElem? (i := 129) rfl)
theorem w130 {Z : State} {a0 : Array Value} {zC : Int32} {fS : Value} {dO : Addr} {dT : Addr} (G : Gl Z a0 zC fS dO dT) : (Jvm.Cond.declares ({ cls := "java/lang/String", name := "substring", desc := "(II)Ljava/lang/String;" } : Jvm.MethodName)).before a0 Z = true := G.1 _ (List.mem_of_getElem? (i := 130) rfl)
theorem w131 {Z : State} {a0 : Array Value} {zC : Int32} {fS : Value} {dO : Addr} {dT : Addr} (G : Gl Z a0 zC fS dO dT) : (Jvm.Cond.instanceMethod ({ cls := "java/lang/String", name := "substring", desc := "(II)Ljava/lang/String;" } : Jvm.MethodName)).before a0 Z = true := G.1 _ (List.mem_of_getElem? (i := 131) rfl)
theorem w132 {Z : State} {a0 : Array Value} {zC : Int32} {fS : Value} {dO : Addr} {dT : Addr} (G : Gl Z a0 zC fS dO dT) : (Jvm.Cond.selects "java/lang/String" ({ cls := "java/lang/String", name := "substring", desc := "(II)Ljava/lang/String;" } : Jvm.MethodName) ({ cls := "java/lang/String", name := "substring", desc := "(II)Ljava/lang/String;" } : Jvm.MethodName)).before a0 Z = true := G.1 _ (List.mem_of_getElem? (i := 132) rfl)
theorem w133 {Z : State} {a0 : Array Value} {zC : Int32} {fS : Value} {dO : Addr} {dT : Addr} (G : Gl Z a0 zC fS dO dT) : (Jvm.Cond.code ({ cls := "java/lang/String", name := "substring", desc := "(II)Ljava/lang/String;" } : Jvm.MethodName) jdk_42_method_92_code (5 : Nat) (Option.some (Jvm.ClassFile.FieldType.object "java/lang/String"))).before a0 Z = true := G.1 _ (List.mem_of_getElem? (i := 133) rfl)
theorem w134 {Z : State} {a0 : Array Value} {zC : Int32} {fS : Value} {dO : Addr} {dT : Addr} (G : Gl Z a0 zC fS dO dT) : (Jvm.Cond.methodLink "java/lang/String" (521 : Nat) ({ cls := "java/lang/String", name := "checkBoundsBeginEnd", desc := "(III)V" } : Jvm.MethodName)).before a0 Z = true := G.1 _ (List.mem_of_getElem? (i := 134) rfl)
theorem w135 {Z : State} {a0 : Array Value} {zC : Int32} {fS : Value} {dO : Addr} {dT : Addr} (G : Gl Z a0 zC fS dO dT) : (Jvm.Cond.static ({ cls := "java/lang/String", name := "checkBoundsBeginEnd", desc := "(III)V" } : Jvm.MethodName)).before a0 Z = true := G.1 _ (List.mem_of_getElem? (i := 135) rfl)
theorem w136 {Z : State} {a0 : Array Value} {zC : Int32} {fS : Value} {dO : Addr} {dT : Addr} (G : Gl Z a0 zC fS dO dT) : (Jvm.Cond.code ({ cls := "java/lang/String", name := "checkBoundsBeginEnd", desc := "(III)V" } : Jvm.MethodName) jdk_42_method_158_code (3 : Nat) (Option.none : Option Jvm.ClassFile.FieldType)).before a0 Z = true := G.1 _ (List.mem_of_getElem? (i := 136) rfl)
theorem w137 {Z : State} {a0 : Array Value} {zC : Int32} {fS : Value} {dO : Addr} {dT : Addr} (G : Gl Z a0 zC fS dO dT) : (Jvm.Cond.fieldLink "java/lang/String" (1053 : Nat) "jdk/internal/util/Preconditions" "SIOOBE_FORMATTER" "Ljava/util/function/BiFunction;").before a0 Z = true := G.1 _ (List.mem_of_getElem? (i := 137) rfl)
theorem w138 {Z : State} {a0 : Array Value} {zC : Int32} {fS : Value} {dO : Addr} {dT : Addr} (G : Gl Z a0 zC fS dO dT) : (Jvm.Cond.initialized "jdk/internal/util/Preconditions").before a0 Z = true := G.1 _ (List.mem_of_getElem? (i := 138) rfl)
theorem w139 {Z : State} {a0 : Array Value} {zC : Int32} {fS : Value} {dO : Addr} {dT : Addr} (G : Gl Z a0 zC fS dO dT) : (Jvm.Cond.methodLink "java/lang/String" (1062 : Nat) ({ cls := "jdk/internal/util/Preconditions", name := "checkFromToIndex", desc := "(IIILjava/util/function/BiFunction;)I" } : Jvm.MethodName)).before a0 Z = true := G.1 _ (List.mem_of_getElem? (i := 139) rfl)
theorem w140 {Z : State} {a0 : Array Value} {zC : Int32} {fS : Value} {dO : Addr} {dT : Addr} (G : Gl Z a0 zC fS dO dT) : (Jvm.Cond.static ({ cls := "jdk/internal/util/Preconditions", name := "checkFromToIndex", desc := "(IIILjava/util/function/BiFunction;)I" } : Jvm.MethodName)).before a0 Z = true := G.1 _ (List.mem_of_getElem? (i := 140) rfl)
theorem w141 {Z : State} {a0 : Array Value} {zC : Int32} {fS : Value} {dO : Addr} {dT : Addr} (G : Gl Z a0 zC fS dO dT) : (Jvm.Cond.code ({ cls := "jdk/internal/util/Preconditions", name := "checkFromToIndex", desc := "(IIILjava/util/function/BiFunction;)I" } : Jvm.MethodName) jdk_41_method_12_code (4 : Nat) (Option.some Jvm.ClassFile.FieldType.int)).before a0 Z = true := G.1 _ (List.mem_of_getElem? (i := 141) rfl)
theorem w142 {Z : State} {a0 : Array Value} {zC : Int32} {fS : Value} {dO : Addr} {dT : Addr} (G : Gl Z a0 zC fS dO dT) : (Jvm.Cond.methodLink "java/lang/String" (685 : Nat) ({ cls := "java/lang/StringLatin1", name := "newString", desc := "([BII)Ljava/lang/String;" } : Jvm.MethodName)).before a0 Z = true := G.1 _ (List.mem_of_getElem? (i := 142) rfl)
theorem w143 {Z : State} {a0 : Array Value} {zC : Int32} {fS : Value} {dO : Addr} {dT : Addr} (G : Gl Z a0 zC fS dO dT) : (Jvm.Cond.static ({ cls := "java/lang/StringLatin1", name := "newString", desc := "([BII)Ljava/lang/String;" } : Jvm.MethodName)).before a0 Z = true := G.1 _ (List.mem_of_getElem? (i := 143) rfl)
theorem w144 {Z : State} {a0 : Array Value} {zC : Int32} {fS : Value} {dO : Addr} {dT : Addr} (G : Gl Z a0 zC fS dO dT) : (Jvm.Cond.code ({ cls := "java/lang/StringLatin1", name := "newString", desc := "([BII)Ljava/lang/String;" } : Jvm.MethodName) jdk_43_method_47_code (3 : Nat) (Option.some (Jvm.ClassFile.FieldType.object "java/lang/String"))).before a0 Z = true := G.1 _ (List.mem_of_getElem? (i := 144) rfl)
theorem w145 {Z : State} {a0 : Array Value} {zC : Int32} {fS : Value} {dO : Addr} {dT : Addr} (G : Gl Z a0 zC fS dO dT) : (Jvm.Cond.classLink "java/lang/StringLatin1" (1 : Nat) "java/lang/String").before a0 Z = true := G.1 _ (List.mem_of_getElem? (i := 145) rfl)
theorem w146 {Z : State} {a0 : Array Value} {zC : Int32} {fS : Value} {dO : Addr} {dT : Addr} (G : Gl Z a0 zC fS dO dT) : (Jvm.Cond.methodLink "java/lang/StringLatin1" (232 : Nat) ({ cls := "java/util/Arrays", name := "copyOfRange", desc := "([BII)[B" } : Jvm.MethodName)).before a0 Z = true := G.1 _ (List.mem_of_getElem? (i := 146) rfl)
theorem w147 {Z : State} {a0 : Array Value} {zC : Int32} {fS : Value} {dO : Addr} {dT : Addr} (G : Gl Z a0 zC fS dO dT) : (Jvm.Cond.static ({ cls := "java/util/Arrays", name := "copyOfRange", desc := "([BII)[B" } : Jvm.MethodName)).before a0 Z = true := G.1 _ (List.mem_of_getElem? (i := 147) rfl)
theorem w148 {Z : State} {a0 : Array Value} {zC : Int32} {fS : Value} {dO : Addr} {dT : Addr} (G : Gl Z a0 zC fS dO dT) : (Jvm.Cond.initialized "java/util/Arrays").before a0 Z = true := G.1 _ (List.mem_of_getElem? (i := 148) rfl)
theorem w149 {Z : State} {a0 : Array Value} {zC : Int32} {fS : Value} {dO : Addr} {dT : Addr} (G : Gl Z a0 zC fS dO dT) : (Jvm.Cond.code ({ cls := "java/util/Arrays", name := "copyOfRange", desc := "([BII)[B" } : Jvm.MethodName) jdk_65_method_132_code (3 : Nat) (Option.some (Jvm.ClassFile.FieldType.array Jvm.ClassFile.FieldType.byte))).before a0 Z = true := G.1 _ (List.mem_of_getElem? (i := 149) rfl)
theorem w150 {Z : State} {a0 : Array Value} {zC : Int32} {fS : Value} {dO : Addr} {dT : Addr} (G : Gl Z a0 zC fS dO dT) : (Jvm.Cond.methodLink "java/util/Arrays" (339 : Nat) ({ cls := "java/util/Arrays", name := "copyOfRangeByte", desc := "([BII)[B" } : Jvm.MethodName)).before a0 Z = true := G.1 _ (List.mem_of_getElem? (i := 150) rfl)
theorem w151 {Z : State} {a0 : Array Value} {zC : Int32} {fS : Value} {dO : Addr} {dT : Addr} (G : Gl Z a0 zC fS dO dT) : (Jvm.Cond.static ({ cls := "java/util/Arrays", name := "copyOfRangeByte", desc := "([BII)[B" } : Jvm.MethodName)).before a0 Z = true := G.1 _ (List.mem_of_getElem? (i := 151) rfl)
theorem w152 {Z : State} {a0 : Array Value} {zC : Int32} {fS : Value} {dO : Addr} {dT : Addr} (G : Gl Z a0 zC fS dO dT) : (Jvm.Cond.code ({ cls := "java/util/Arrays", name := "copyOfRangeByte", desc := "([BII)[B" } : Jvm.MethodName) jdk_65_method_133_code (5 : Nat) (Option.some (Jvm.ClassFile.FieldType.array Jvm.ClassFile.FieldType.byte))).before a0 Z = true := G.1 _ (List.mem_of_getElem? (i := 152) rfl)
theorem w153 {Z : State} {a0 : Array Value} {zC : Int32} {fS : Value} {dO : Addr} {dT : Addr} (G : Gl Z a0 zC fS dO dT) : (Jvm.Cond.methodLink "java/util/Arrays" (343 : Nat) ({ cls := "java/util/Arrays", name := "checkLength", desc := "(II)V" } : Jvm.MethodName)).before a0 Z = true := G.1 _ (List.mem_of_getElem? (i := 153) rfl)
theorem w154 {Z : State} {a0 : Array Value} {zC : Int32} {fS : Value} {dO : Addr} {dT : Addr} (G : Gl Z a0 zC fS dO dT) : (Jvm.Cond.static ({ cls := "java/util/Arrays", name := "checkLength", desc := "(II)V" } : Jvm.MethodName)).before a0 Z = true := G.1 _ (List.mem_of_getElem? (i := 154) rfl)
theorem w155 {Z : State} {a0 : Array Value} {zC : Int32} {fS : Value} {dO : Addr} {dT : Addr} (G : Gl Z a0 zC fS dO dT) : (Jvm.Cond.code ({ cls := "java/util/Arrays", name := "checkLength", desc := "(II)V" } : Jvm.MethodName) jdk_65_method_131_code (2 : Nat) (Option.none : Option Jvm.ClassFile.FieldType)).before a0 Z = true := G.1 _ (List.mem_of_getElem? (i := 155) rfl)
theorem w156 {Z : State} {a0 : Array Value} {zC : Int32} {fS : Value} {dO : Addr} {dT : Addr} (G : Gl Z a0 zC fS dO dT) : (Jvm.Cond.methodLink "java/util/Arrays" (304 : Nat) ({ cls := "java/lang/Math", name := "min", desc := "(II)I" } : Jvm.MethodName)).before a0 Z = true := G.1 _ (List.mem_of_getElem? (i := 156) rfl)
theorem w157 {Z : State} {a0 : Array Value} {zC : Int32} {fS : Value} {dO : Addr} {dT : Addr} (G : Gl Z a0 zC fS dO dT) : (Jvm.Cond.methodLink "java/util/Arrays" (150 : Nat) ({ cls := "java/lang/System", name := "arraycopy", desc := "(Ljava/lang/Object;ILjava/lang/Object;II)V" } : Jvm.MethodName)).before a0 Z = true := G.1 _ (List.mem_of_getElem? (i := 157) rfl)
theorem w158 {Z : State} {a0 : Array Value} {zC : Int32} {fS : Value} {dO : Addr} {dT : Addr} (G : Gl Z a0 zC fS dO dT) : (Jvm.Cond.static ({ cls := "java/lang/System", name := "arraycopy", desc := "(Ljava/lang/Object;ILjava/lang/Object;II)V" } : Jvm.MethodName)).before a0 Z = true := G.1 _ (List.mem_of_getElem? (i := 158) rfl)
theorem w159 {Z : State} {a0 : Array Value} {zC : Int32} {fS : Value} {dO : Addr} {dT : Addr} (G : Gl Z a0 zC fS dO dT) : (Jvm.Cond.initialized "java/lang/System").before a0 Z = true := G.1 _ (List.mem_of_getElem? (i := 159) rfl)
theorem w160 {Z : State} {a0 : Array Value} {zC : Int32} {fS : Value} {dO : Addr} {dT : Addr} (G : Gl Z a0 zC fS dO dT) : (Jvm.Cond.native ({ cls := "java/lang/System", name := "arraycopy", desc := "(Ljava/lang/Object;ILjava/lang/Object;II)V" } : Jvm.MethodName)).before a0 Z = true := G.1 _ (List.mem_of_getElem? (i := 160) rfl)
theorem w161 {Z : State} {a0 : Array Value} {zC : Int32} {fS : Value} {dO : Addr} {dT : Addr} (G : Gl Z a0 zC fS dO dT) : (Jvm.Cond.methodLink "java/lang/StringLatin1" (112 : Nat) ({ cls := "java/lang/String", name := "<init>", desc := "([BB)V" } : Jvm.MethodName)).before a0 Z = true := G.1 _ (List.mem_of_getElem? (i := 161) rfl)
theorem w162 {Z : State} {a0 : Array Value} {zC : Int32} {fS : Value} {dO : Addr} {dT : Addr} (G : Gl Z a0 zC fS dO dT) : (Jvm.Cond.methodLink "com/example/dutiful_pruner/dutifulpruner/collection/LineFileCollection" (37 : Nat) ({ cls := "com/example/dutiful_pruner/dutifulpruner/collection/CollectionDocument", name := "<init>", desc := "(Ljava/lang/String;Ljava/lang/String;)V" } : Jvm.MethodName)).before a0 Z = true := G.1 _ (List.mem_of_getElem? (i := 162) rfl)
theorem w163 {Z : State} {a0 : Array Value} {zC : Int32} {fS : Value} {dO : Addr} {dT : Addr} (G : Gl Z a0 zC fS dO dT) : (Jvm.Cond.instanceMethod ({ cls := "com/example/dutiful_pruner/dutifulpruner/collection/CollectionDocument", name := "<init>", desc := "(Ljava/lang/String;Ljava/lang/String;)V" } : Jvm.MethodName)).before a0 Z = true := G.1 _ (List.mem_of_getElem? (i := 163) rfl)
theorem w164 {Z : State} {a0 : Array Value} {zC : Int32} {fS : Value} {dO : Addr} {dT : Addr} (G : Gl Z a0 zC fS dO dT) : (Jvm.Cond.code ({ cls := "com/example/dutiful_pruner/dutifulpruner/collection/CollectionDocument", name := "<init>", desc := "(Ljava/lang/String;Ljava/lang/String;)V" } : Jvm.MethodName) prog_3_method_1_code (3 : Nat) (Option.none : Option Jvm.ClassFile.FieldType)).before a0 Z = true := G.1 _ (List.mem_of_getElem? (i := 164) rfl)
theorem w165 {Z : State} {a0 : Array Value} {zC : Int32} {fS : Value} {dO : Addr} {dT : Addr} (G : Gl Z a0 zC fS dO dT) : (Jvm.Cond.methodLink "com/example/dutiful_pruner/dutifulpruner/collection/CollectionDocument" (1 : Nat) ({ cls := "java/lang/Record", name := "<init>", desc := "()V" } : Jvm.MethodName)).before a0 Z = true := G.1 _ (List.mem_of_getElem? (i := 165) rfl)
theorem w166 {Z : State} {a0 : Array Value} {zC : Int32} {fS : Value} {dO : Addr} {dT : Addr} (G : Gl Z a0 zC fS dO dT) : (Jvm.Cond.instanceMethod ({ cls := "java/lang/Record", name := "<init>", desc := "()V" } : Jvm.MethodName)).before a0 Z = true := G.1 _ (List.mem_of_getElem? (i := 166) rfl)
theorem w168 {Z : State} {a0 : Array Value} {zC : Int32} {fS : Value} {dO : Addr} {dT : Addr} (G : Gl Z a0 zC fS dO dT) : (Jvm.Cond.initialized "java/lang/Record").before a0 Z = true := G.1 _ (List.mem_of_getElem? (i := 168) rfl)
theorem w169 {Z : State} {a0 : Array Value} {zC : Int32} {fS : Value} {dO : Addr} {dT : Addr} (G : Gl Z a0 zC fS dO dT) : (Jvm.Cond.code ({ cls := "java/lang/Record", name := "<init>", desc := "()V" } : Jvm.MethodName) jdk_30_method_1_code (1 : Nat) (Option.none : Option Jvm.ClassFile.FieldType)).before a0 Z = true := G.1 _ (List.mem_of_getElem? (i := 169) rfl)
theorem w170 {Z : State} {a0 : Array Value} {zC : Int32} {fS : Value} {dO : Addr} {dT : Addr} (G : Gl Z a0 zC fS dO dT) : (Jvm.Cond.methodLink "java/lang/Record" (1 : Nat) ({ cls := "java/lang/Object", name := "<init>", desc := "()V" } : Jvm.MethodName)).before a0 Z = true := G.1 _ (List.mem_of_getElem? (i := 170) rfl)
theorem w171 {Z : State} {a0 : Array Value} {zC : Int32} {fS : Value} {dO : Addr} {dT : Addr} (G : Gl Z a0 zC fS dO dT) : (Jvm.Cond.fieldLink "com/example/dutiful_pruner/dutifulpruner/collection/CollectionDocument" (7 : Nat) "com/example/dutiful_pruner/dutifulpruner/collection/CollectionDocument" "id" "Ljava/lang/String;").before a0 Z = true := G.1 _ (List.mem_of_getElem? (i := 171) rfl)
theorem w172 {Z : State} {a0 : Array Value} {zC : Int32} {fS : Value} {dO : Addr} {dT : Addr} (G : Gl Z a0 zC fS dO dT) : (Jvm.Cond.laysFinal "com/example/dutiful_pruner/dutifulpruner/collection/CollectionDocument" "com/example/dutiful_pruner/dutifulpruner/collection/CollectionDocument" "id" "Ljava/lang/String;").before a0 Z = true := G.1 _ (List.mem_of_getElem? (i := 172) rfl)
theorem w173 {Z : State} {a0 : Array Value} {zC : Int32} {fS : Value} {dO : Addr} {dT : Addr} (G : Gl Z a0 zC fS dO dT) : (Jvm.Cond.fieldLink "com/example/dutiful_pruner/dutifulpruner/collection/CollectionDocument" (13 : Nat) "com/example/dutiful_pruner/dutifulpruner/collection/CollectionDocument" "contents" "Ljava/lang/String;").before a0 Z = true := G.1 _ (List.mem_of_getElem? (i := 173) rfl)
theorem w174 {Z : State} {a0 : Array Value} {zC : Int32} {fS : Value} {dO : Addr} {dT : Addr} (G : Gl Z a0 zC fS dO dT) : (Jvm.Cond.laysFinal "com/example/dutiful_pruner/dutifulpruner/collection/CollectionDocument" "com/example/dutiful_pruner/dutifulpruner/collection/CollectionDocument" "contents" "Ljava/lang/String;").before a0 Z = true := G.1 _ (List.mem_of_getElem? (i := 174) rfl)
theorem w175 {Z : State} {a0 : Array Value} {zC : Int32} {fS : Value} {dO : Addr} {dT : Addr} (G : Gl Z a0 zC fS dO dT) : (Jvm.Cond.methodLink "com/example/dutiful_pruner/dutifulpruner/collection/LineFileCollectionParseLinePinLaw" (109 : Nat) ({ cls := "com/example/dutiful_pruner/dutifulpruner/collection/CollectionDocument", name := "contents", desc := "()Ljava/lang/String;" } : Jvm.MethodName)).before a0 Z = true := G.1 _ (List.mem_of_getElem? (i := 175) rfl)
theorem w176 {Z : State} {a0 : Array Value} {zC : Int32} {fS : Value} {dO : Addr} {dT : Addr} (G : Gl Z a0 zC fS dO dT) : (Jvm.Cond.declares ({ cls := "com/example/dutiful_pruner/dutifulpruner/collection/CollectionDocument", name := "contents", desc := "()Ljava/lang/String;" } : Jvm.MethodName)).before a0 Z = true := G.1 _ (List.mem_of_getElem? (i := 176) rfl)
theorem w177 {Z : State} {a0 : Array Value} {zC : Int32} {fS : Value} {dO : Addr} {dT : Addr} (G : Gl Z a0 zC fS dO dT) : (Jvm.Cond.instanceMethod ({ cls := "com/example/dutiful_pruner/dutifulpruner/collection/CollectionDocument", name := "contents", desc := "()Ljava/lang/String;" } : Jvm.MethodName)).before a0 Z = true := G.1 _ (List.mem_of_getElem? (i := 177) rfl)
theorem w178 {Z : State} {a0 : Array Value} {zC : Int32} {fS : Value} {dO : Addr} {dT : Addr} (G : Gl Z a0 zC fS dO dT) : (Jvm.Cond.selects "com/example/dutiful_pruner/dutifulpruner/collection/CollectionDocument" ({ cls := "com/example/dutiful_pruner/dutifulpruner/collection/CollectionDocument", name := "contents", desc := "()Ljava/lang/String;" } : Jvm.MethodName) ({ cls := "com/example/dutiful_pruner/dutifulpruner/collection/CollectionDocument", name := "contents", desc := "()Ljava/lang/String;" } : Jvm.MethodName)).before a0 Z = true := G.1 _ (List.mem_of_getElem? (i := 178) rfl)
theorem w179 {Z : State} {a0 : Array Value} {zC : Int32} {fS : Value} {dO : Addr} {dT : Addr} (G : Gl Z a0 zC fS dO dT) : (Jvm.Cond.code ({ cls := "com/example/dutiful_pruner/dutifulpruner/collection/CollectionDocument", name := "contents", desc := "()Ljava/lang/String;" } : Jvm.MethodName) prog_3_method_6_code (1 : Nat) (Option.some (Jvm.ClassFile.FieldType.object "java/lang/String"))).before a0 Z = true := G.1 _ (List.mem_of_getElem? (i := 179) rfl)
theorem w180 {Z : State} {a0 : Array Value} {zC : Int32} {fS : Value} {dO : Addr} {dT : Addr} (G : Gl Z a0 zC fS dO dT) : (Jvm.Cond.methodLink "com/example/dutiful_pruner/dutifulpruner/collection/LineFileCollectionParseLinePinLaw" (115 : Nat) ({ cls := "com/example/dutiful_pruner/dutifulpruner/collection/CollectionDocument", name := "id", desc := "()Ljava/lang/String;" } : Jvm.MethodName)).before a0 Z = true := G.1 _ (List.mem_of_getElem? (i := 180) rfl)
theorem w181 {Z : State} {a0 : Array Value} {zC : Int32} {fS : Value} {dO : Addr} {dT : Addr} (G : Gl Z a0 zC fS dO dT) : (Jvm.Cond.declares ({ cls := "com/example/dutiful_pruner/dutifulpruner/collection/CollectionDocument", name := "id", desc := "()Ljava/lang/String;" } : Jvm.MethodName)).before a0 Z = true := G.1 _ (List.mem_of_getElem? (i := 181) rfl)
theorem w182 {Z : State} {a0 : Array Value} {zC : Int32} {fS : Value} {dO : Addr} {dT : Addr} (G : Gl Z a0 zC fS dO dT) : (Jvm.Cond.instanceMethod ({ cls := "com/example/dutiful_pruner/dutifulpruner/collection/CollectionDocument", name := "id", desc := "()Ljava/lang/String;" } : Jvm.MethodName)).before a0 Z = true := G.1 _ (List.mem_of_getElem? (i := 182) rfl)
theorem w183 {Z : State} {a0 : Array Value} {zC : Int32} {fS : Value} {dO : Addr} {dT : Addr} (G : Gl Z a0 zC fS dO dT) : (Jvm.Cond.selects "com/example/dutiful_pruner/dutifulpruner/collection/CollectionDocument" ({ cls := "com/example/dutiful_pruner/dutifulpruner/collection/CollectionDocument", name := "id", desc := "()Ljava/lang/String;" } : Jvm.MethodName) ({ cls := "com/example/dutiful_pruner/dutifulpruner/collection/CollectionDocument", name := "id", desc := "()Ljava/lang/String;" } : Jvm.MethodName)).before a0 Z = true := G.1 _ (List.mem_of_getElem? (i := 183) rfl)
theorem w184 {Z : State} {a0 : Array Value} {zC : Int32} {fS : Value} {dO : Addr} {dT : Addr} (G : Gl Z a0 zC fS dO dT) : (Jvm.Cond.code ({ cls := "com/example/dutiful_pruner/dutifulpruner/collection/CollectionDocument", name := "id", desc := "()Ljava/lang/String;" } : Jvm.MethodName) prog_3_method_5_code (1 : Nat) (Option.some (Jvm.ClassFile.FieldType.object "java/lang/String"))).before a0 Z = true := G.1 _ (List.mem_of_getElem? (i := 184) rfl)
theorem w185 {Z : State} {a0 : Array Value} {zC : Int32} {fS : Value} {dO : Addr} {dT : Addr} (G : Gl Z a0 zC fS dO dT) : (Jvm.Cond.methodLink "com/example/dutiful_pruner/dutifulpruner/collection/LineFileCollectionParseLinePinLaw" (118 : Nat) ({ cls := "java/lang/String", name := "length", desc := "()I" } : Jvm.MethodName)).before a0 Z = true := G.1 _ (List.mem_of_getElem? (i := 185) rfl)
theorem w186 {Z : State} {a0 : Array Value} {zC : Int32} {fS : Value} {dO : Addr} {dT : Addr} (G : Gl Z a0 zC fS dO dT) : (Jvm.Cond.methodLink "com/example/dutiful_pruner/dutifulpruner/collection/LineFileCollectionParseLinePinLaw" (122 : Nat) ({ cls := "com/example/dutiful_pruner/dutifulpruner/collection/LineFileCollectionParseLinePinLaw", name := "bc", desc := "(Ljava/lang/String;[CIII)Z" } : Jvm.MethodName)).before a0 Z = true := G.1 _ (List.mem_of_getElem? (i := 186) rfl)
theorem w187 {Z : State} {a0 : Array Value} {zC : Int32} {fS : Value} {dO : Addr} {dT : Addr} (G : Gl Z a0 zC fS dO dT) : (Jvm.Cond.static ({ cls := "com/example/dutiful_pruner/dutifulpruner/collection/LineFileCollectionParseLinePinLaw", name := "bc", desc := "(Ljava/lang/String;[CIII)Z" } : Jvm.MethodName)).before a0 Z = true := G.1 _ (List.mem_of_getElem? (i := 187) rfl)
theorem w188 {Z : State} {a0 : Array Value} {zC : Int32} {fS : Value} {dO : Addr} {dT : Addr} (G : Gl Z a0 zC fS dO dT) : (Jvm.Cond.code ({ cls := "com/example/dutiful_pruner/dutifulpruner/collection/LineFileCollectionParseLinePinLaw", name := "bc", desc := "(Ljava/lang/String;[CIII)Z" } : Jvm.MethodName) method_3_code (5 : Nat) (Option.some Jvm.ClassFile.FieldType.boolean)).before a0 Z = true := G.1 _ (List.mem_of_getElem? (i := 188) rfl)
theorem w189 {Z : State} {a0 : Array Value} {zC : Int32} {fS : Value} {dO : Addr} {dT : Addr} (G : Gl Z a0 zC fS dO dT) : (Jvm.Cond.methodLink "com/example/dutiful_pruner/dutifulpruner/collection/LineFileCollectionParseLinePinLaw" (9 : Nat) ({ cls := "java/lang/String", name := "charAt", desc := "(I)C" } : Jvm.MethodName)).before a0 Z = true := G.1 _ (List.mem_of_getElem? (i := 189) rfl)
theorem w190 {Z : State} {a0 : Array Value} {zC : Int32} {fS : Value} {dO : Addr} {dT : Addr} (G : Gl Z a0 zC fS dO dT) : (Jvm.Cond.declares ({ cls := "java/lang/String", name := "charAt", desc := "(I)C" } : Jvm.MethodName)).before a0 Z = true := G.1 _ (List.mem_of_getElem? (i := 190) rfl)
theorem w191 {Z : State} {a0 : Array Value} {zC : Int32} {fS : Value} {dO : Addr} {dT : Addr} (G : Gl Z a0 zC fS dO dT) : (Jvm.Cond.instanceMethod ({ cls := "java/lang/String", name := "charAt", desc := "(I)C" } : Jvm.MethodName)).before a0 Z = true := G.1 _ (List.mem_of_getElem? (i := 191) rfl)
theorem w192 {Z : State} {a0 : Array Value} {zC : Int32} {fS : Value} {dO : Addr} {dT : Addr} (G : Gl Z a0 zC fS dO dT) : (Jvm.Cond.selects "java/lang/String" ({ cls := "java/lang/String", name := "charAt", desc := "(I)C" } : Jvm.MethodName) ({ cls := "java/lang/String", name := "charAt", desc := "(I)C" } : Jvm.MethodName)).before a0 Z = true := G.1 _ (List.mem_of_getElem? (i := 192) rfl)
theorem w193 {Z : State} {a0 : Array Value} {zC : Int32} {fS : Value} {dO : Addr} {dT : Addr} (G : Gl Z a0 zC fS dO dT) : (Jvm.Cond.code ({ cls := "java/lang/String", name := "charAt", desc := "(I)C" } : Jvm.MethodName) jdk_42_method_56_code (2 : Nat) (Option.some Jvm.ClassFile.FieldType.char)).before a0 Z = true := G.1 _ (List.mem_of_getElem? (i := 193) rfl)
theorem w194 {Z : State} {a0 : Array Value} {zC : Int32} {fS : Value} {dO : Addr} {dT : Addr} (G : Gl Z a0 zC fS dO dT) : (Jvm.Cond.methodLink "java/lang/String" (495 : Nat) ({ cls := "java/lang/StringLatin1", name := "charAt", desc := "([BI)C" } : Jvm.MethodName)).before a0 Z = true := G.1 _ (List.mem_of_getElem? (i := 194) rfl)
theorem w195 {Z : State} {a0 : Array Value} {zC : Int32} {fS : Value} {dO : Addr} {dT : Addr} (G : Gl Z a0 zC fS dO dT) : (Jvm.Cond.static ({ cls := "java/lang/StringLatin1", name := "charAt", desc := "([BI)C" } : Jvm.MethodName)).before a0 Z = true := G.1 _ (List.mem_of_getElem? (i := 195) rfl)
theorem w196 {Z : State} {a0 : Array Value} {zC : Int32} {fS : Value} {dO : Addr} {dT : Addr} (G : Gl Z a0 zC fS dO dT) : (Jvm.Cond.code ({ cls := "java/lang/StringLatin1", name := "charAt", desc := "([BI)C" } : Jvm.MethodName) jdk_43_method_2_code (2 : Nat) (Option.some Jvm.ClassFile.FieldType.char)).before a0 Z = true := G.1 _ (List.mem_of_getElem? (i := 196) rfl)
theorem w197 {Z : State} {a0 : Array Value} {zC : Int32} {fS : Value} {dO : Addr} {dT : Addr} (G : Gl Z a0 zC fS dO dT) : (Jvm.Cond.methodLink "java/lang/StringLatin1" (9 : Nat) ({ cls := "java/lang/String", name := "checkIndex", desc := "(II)V" } : Jvm.MethodName)).before a0 Z = true := G.1 _ (List.mem_of_getElem? (i := 197) rfl)
theorem w198 {Z : State} {a0 : Array Value} {zC : Int32} {fS : Value} {dO : Addr} {dT : Addr} (G : Gl Z a0 zC fS dO dT) : (Jvm.Cond.static ({ cls := "java/lang/String", name := "checkIndex", desc := "(II)V" } : Jvm.MethodName)).before a0 Z = true := G.1 _ (List.mem_of_getElem? (i := 198) rfl)
theorem w199 {Z : State} {a0 : Array Value} {zC : Int32} {fS : Value} {dO : Addr} {dT : Addr} (G : Gl Z a0 zC fS dO dT) : (Jvm.Cond.code ({ cls := "java/lang/String", name := "checkIndex", desc := "(II)V" } : Jvm.MethodName) jdk_42_method_155_code (2 : Nat) (Option.none : Option Jvm.ClassFile.FieldType)).before a0 Z = true := G.1 _ (List.mem_of_getElem? (i := 199) rfl)
theorem w200 {Z : State} {a0 : Array Value} {zC : Int32} {fS : Value} {dO : Addr} {dT : Addr} (G : Gl Z a0 zC fS dO dT) : (Jvm.Cond.methodLink "java/lang/String" (1059 : Nat) ({ cls := "jdk/internal/util/Preconditions", name := "checkIndex", desc := "(IILjava/util/function/BiFunction;)I" } : Jvm.MethodName)).before a0 Z = true := G.1 _ (List.mem_of_getElem? (i := 200) rfl)
theorem w201 {Z : State} {a0 : Array Value} {zC : Int32} {fS : Value} {dO : Addr} {dT : Addr} (G : Gl Z a0 zC fS dO dT) : (Jvm.Cond.static ({ cls := "jdk/internal/util/Preconditions", name := "checkIndex", desc := "(IILjava/util/function/BiFunction;)I" } : Jvm.MethodName)).before a0 Z = true := G.1 _ (List.mem_of_getElem? (i := 201) rfl)
theorem w202 {Z : State} {a0 : Array Value} {zC : Int32} {fS : Value} {dO : Addr} {dT : Addr} (G : Gl Z a0 zC fS dO dT) : (Jvm.Cond.code ({ cls := "jdk/internal/util/Preconditions", name := "checkIndex", desc := "(IILjava/util/function/BiFunction;)I" } : Jvm.MethodName) jdk_41_method_11_code (3 : Nat) (Option.some Jvm.ClassFile.FieldType.int)).before a0 Z = true := G.1 _ (List.mem_of_getElem? (i := 202) rfl)
theorem w203 {Z : State} {a0 : Array Value} {zC : Int32} {fS : Value} {dO : Addr} {dT : Addr} (G : Gl Z a0 zC fS dO dT) : (Jvm.Cond.methodLink "com/example/dutiful_pruner/dutifulpruner/collection/LineFileCollectionParseLinePinLaw" (126 : Nat) ({ cls := "com/example/dutiful_pruner/dutifulpruner/collection/LineFileCollectionParseLinePinLaw", name := "digits", desc := "(J)I" } : Jvm.MethodName)).before a0 Z = true := G.1 _ (List.mem_of_getElem? (i := 203) rfl)
theorem w204 {Z : State} {a0 : Array Value} {zC : Int32} {fS : Value} {dO : Addr} {dT : Addr} (G : Gl Z a0 zC fS dO dT) : (Jvm.Cond.static ({ cls := "com/example/dutiful_pruner/dutifulpruner/collection/LineFileCollectionParseLinePinLaw", name := "digits", desc := "(J)I" } : Jvm.MethodName)).before a0 Z = true := G.1 _ (List.mem_of_getElem? (i := 204) rfl)
theorem w205 {Z : State} {a0 : Array Value} {zC : Int32} {fS : Value} {dO : Addr} {dT : Addr} (G : Gl Z a0 zC fS dO dT) : (Jvm.Cond.code ({ cls := "com/example/dutiful_pruner/dutifulpruner/collection/LineFileCollectionParseLinePinLaw", name := "digits", desc := "(J)I" } : Jvm.MethodName) method_4_code (4 : Nat) (Option.some Jvm.ClassFile.FieldType.int)).before a0 Z = true := G.1 _ (List.mem_of_getElem? (i := 205) rfl)
theorem w206 {Z : State} {a0 : Array Value} {zC : Int32} {fS : Value} {dO : Addr} {dT : Addr} (G : Gl Z a0 zC fS dO dT) : (Jvm.Cond.constantLong "com/example/dutiful_pruner/dutifulpruner/collection/LineFileCollectionParseLinePinLaw" (15 : Nat) (-10 : Int64)).before a0 Z = true := G.1 _ (List.mem_of_getElem? (i := 206) rfl)
theorem w207 {Z : State} {a0 : Array Value} {zC : Int32} {fS : Value} {dO : Addr} {dT : Addr} (G : Gl Z a0 zC fS dO dT) : (Jvm.Cond.methodLink "com/example/dutiful_pruner/dutifulpruner/collection/LineFileCollectionParseLinePinLaw" (130 : Nat) ({ cls := "com/example/dutiful_pruner/dutifulpruner/collection/LineFileCollectionParseLinePinLaw", name := "idc", desc := "(Ljava/lang/String;JII[JI)Z" } : Jvm.MethodName)).before a0 Z = true := G.1 _ (List.mem_of_getElem? (i := 207) rfl)
theorem w208 {Z : State} {a0 : Array Value} {zC : Int32} {fS : Value} {dO : Addr} {dT : Addr} (G : Gl Z a0 zC fS dO dT) : (Jvm.Cond.static ({ cls := "com/example/dutiful_pruner/dutifulpruner/collection/LineFileCollectionParseLinePinLaw", name := "idc", desc := "(Ljava/lang/String;JII[JI)Z" } : Jvm.MethodName)).before a0 Z = true := G.1 _ (List.mem_of_getElem? (i := 208) rfl)
theorem w209 {Z : State} {a0 : Array Value} {zC : Int32} {fS : Value} {dO : Addr} {dT : Addr} (G : Gl Z a0 zC fS dO dT) : (Jvm.Cond.code ({ cls := "com/example/dutiful_pruner/dutifulpruner/collection/LineFileCollectionParseLinePinLaw", name := "idc", desc := "(Ljava/lang/String;JII[JI)Z" } : Jvm.MethodName) method_5_code (10 : Nat) (Option.some Jvm.ClassFile.FieldType.boolean)).before a0 Z = true := G.1 _ (List.mem_of_getElem? (i := 209) rfl)
theorem w210 {Z : State} {a0 : Array Value} {zC : Int32} {fS : Value} {dO : Addr} {dT : Addr} (G : Gl Z a0 zC fS dO dT) : (Jvm.Cond.methodLink "com/example/dutiful_pruner/dutifulpruner/collection/LineFileCollectionParseLinePinLaw" (53 : Nat) ({ cls := "java/lang/Math", name := "abs", desc := "(J)J" } : Jvm.MethodName)).before a0 Z = true := G.1 _ (List.mem_of_getElem? (i := 210) rfl)
theorem w211 {Z : State} {a0 : Array Value} {zC : Int32} {fS : Value} {dO : Addr} {dT : Addr} (G : Gl Z a0 zC fS dO dT) : (Jvm.Cond.static ({ cls := "java/lang/Math", name := "abs", desc := "(J)J" } : Jvm.MethodName)).before a0 Z = true := G.1 _ (List.mem_of_getElem? (i := 211) rfl)
theorem w212 {Z : State} {a0 : Array Value} {zC : Int32} {fS : Value} {dO : Addr} {dT : Addr} (G : Gl Z a0 zC fS dO dT) : (Jvm.Cond.code ({ cls := "java/lang/Math", name := "abs", desc := "(J)J" } : Jvm.MethodName) jdk_29_method_61_code (2 : Nat) (Option.some Jvm.ClassFile.FieldType.long)).before a0 Z = true := G.1 _ (List.mem_of_getElem? (i := 212) rfl)
theorem w213 {Z : State} {a0 : Array Value} {zC : Int32} {fS : Value} {dO : Addr} {dT : Addr} (G : Gl Z a0 zC fS dO dT) : (Jvm.Cond.constantLong "java/lang/Long" (53 : Nat) (10 : Int64)).before a0 Z = true := G.1 _ (List.mem_of_getElem? (i := 213) rfl)
theorem w214 {Z : State} {a0 : Array Value} {zC : Int32} {fS : Value} {dO : Addr} {dT : Addr} (G : Gl Z a0 zC fS dO dT) : (Jvm.Cond.constantLong "java/lang/Long" (131 : Nat) (100 : Int64)).before a0 Z = true := G.1 _ (List.mem_of_getElem? (i := 214) rfl)
theorem w215 {Z : State} {a0 : Array Value} {zC : Int32} {fS : Value} {dO : Addr} {dT : Addr} (G : Gl Z a0 zC fS dO dT) : (Jvm.Cond.fieldLink "java/lang/Long" (137 : Nat) "java/lang/Integer" "DigitTens" "[B").before a0 Z = true := G.1 _ (List.mem_of_getElem? (i := 215) rfl)
theorem w216 {Z : State} {a0 : Array Value} {zC : Int32} {fS : Value} {dO : Addr} {dT : Addr} (G : Gl Z a0 zC fS dO dT) : (Jvm.Cond.constantLong "com/example/dutiful_pruner/dutifulpruner/collection/LineFileCollectionParseLinePinLaw" (17 : Nat) (-100 : Int64)).before a0 Z = true := G.1 _ (List.mem_of_getElem? (i := 216) rfl)
theorem w217 {Z : State} {a0 : Array Value} {zC : Int32} {fS : Value} {dO : Addr} {dT : Addr} (G : Gl Z a0 zC fS dO dT) : (Jvm.Cond.constantLong "com/example/dutiful_pruner/dutifulpruner/collection/LineFileCollectionParseLinePinLaw" (19 : Nat) (-1000 : Int64)).before a0 Z = true := G.1 _ (List.mem_of_getElem? (i := 217) rfl)
theorem w218 {Z : State} {a0 : Array Value} {zC : Int32} {fS : Value} {dO : Addr} {dT : Addr} (G : Gl Z a0 zC fS dO dT) : (Jvm.Cond.constantLong "com/example/dutiful_pruner/dutifulpruner/collection/LineFileCollectionParseLinePinLaw" (21 : Nat) (-10000 : Int64)).before a0 Z = true := G.1 _ (List.mem_of_getElem? (i := 218) rfl)
theorem w219 {Z : State} {a0 : Array Value} {zC : Int32} {fS : Value} {dO : Addr} {dT : Addr} (G : Gl Z a0 zC fS dO dT) : (Jvm.Cond.constantLong "com/example/dutiful_pruner/dutifulpruner/collection/LineFileCollectionParseLinePinLaw" (23 : Nat) (-100000 : Int64)).before a0 Z = true := G.1 _ (List.mem_of_getElem? (i := 219) rfl)
theorem w220 {Z : State} {a0 : Array Value} {zC : Int32} {fS : Value} {dO : Addr} {dT : Addr} (G : Gl Z a0 zC fS dO dT) : (Jvm.Cond.constantLong "com/example/dutiful_pruner/dutifulpruner/collection/LineFileCollectionParseLinePinLaw" (25 : Nat) (-1000000 : Int64)).before a0 Z = true := G.1 _ (List.mem_of_getElem? (i := 220) rfl)
theorem w221 {Z : State} {a0 : Array Value} {zC : Int32} {fS : Value} {dO : Addr} {dT : Addr} (G : Gl Z a0 zC fS dO dT) : (Jvm.Cond.constantLong "com/example/dutiful_pruner/dutifulpruner/collection/LineFileCollectionParseLinePinLaw" (27 : Nat) (-10000000 : Int64)).before a0 Z = true := G.1 _ (List.mem_of_getElem? (i := 221) rfl)
theorem w222 {Z : State} {a0 : Array Value} {zC : Int32} {fS : Value} {dO : Addr} {dT : Addr} (G : Gl Z a0 zC fS dO dT) : (Jvm.Cond.constantLong "com/example/dutiful_pruner/dutifulpruner/collection/LineFileCollectionParseLinePinLaw" (29 : Nat) (-100000000 : Int64)).before a0 Z = true := G.1 _ (List.mem_of_getElem? (i := 222) rfl)
theorem w223 {Z : State} {a0 : Array Value} {zC : Int32} {fS : Value} {dO : Addr} {dT : Addr} (G : Gl Z a0 zC fS dO dT) : (Jvm.Cond.constantLong "com/example/dutiful_pruner/dutifulpruner/collection/LineFileCollectionParseLinePinLaw" (31 : Nat) (-1000000000 : Int64)).before a0 Z = true := G.1 _ (List.mem_of_getElem? (i := 223) rfl)
theorem w224 {Z : State} {a0 : Array Value} {zC : Int32} {fS : Value} {dO : Addr} {dT : Addr} (G : Gl Z a0 zC fS dO dT) : (Jvm.Cond.constantLong "com/example/dutiful_pruner/dutifulpruner/collection/LineFileCollectionParseLinePinLaw" (33 : Nat) (-10000000000 : Int64)).before a0 Z = true := G.1 _ (List.mem_of_getElem? (i := 224) rfl)
theorem w225 {Z : State} {a0 : Array Value} {zC : Int32} {fS : Value} {dO : Addr} {dT : Addr} (G : Gl Z a0 zC fS dO dT) : (Jvm.Cond.constantLong "com/example/dutiful_pruner/dutifulpruner/collection/LineFileCollectionParseLinePinLaw" (35 : Nat) (-100000000000 : Int64)).before a0 Z = true := G.1 _ (List.mem_of_getElem? (i := 225) rfl)
theorem w226 {Z : State} {a0 : Array Value} {zC : Int32} {fS : Value} {dO : Addr} {dT : Addr} (G : Gl Z a0 zC fS dO dT) : (Jvm.Cond.constantLong "com/example/dutiful_pruner/dutifulpruner/collection/LineFileCollectionParseLinePinLaw" (37 : Nat) (-1000000000000 : Int64)).before a0 Z = true := G.1 _ (List.mem_of_getElem? (i := 226) rfl)
theorem w227 {Z : State} {a0 : Array Value} {zC : Int32} {fS : Value} {dO : Addr} {dT : Addr} (G : Gl Z a0 zC fS dO dT) : (Jvm.Cond.constantLong "com/example/dutiful_pruner/dutifulpruner/collection/LineFileCollectionParseLinePinLaw" (39 : Nat) (-10000000000000 : Int64)).before a0 Z = true := G.1 _ (List.mem_of_getElem? (i := 227) rfl)
theorem w228 {Z : State} {a0 : Array Value} {zC : Int32} {fS : Value} {dO : Addr} {dT : Addr} (G : Gl Z a0 zC fS dO dT) : (Jvm.Cond.constantLong "com/example/dutiful_pruner/dutifulpruner/collection/LineFileCollectionParseLinePinLaw" (41 : Nat) (-100000000000000 : Int64)).before a0 Z = true := G.1 _ (List.mem_of_getElem? (i := 228) rfl)
theorem w229 {Z : State} {a0 : Array Value} {zC : Int32} {fS : Value} {dO : Addr} {dT : Addr} (G : Gl Z a0 zC fS dO dT) : (Jvm.Cond.constantLong "com/example/dutiful_pruner/dutifulpruner/collection/LineFileCollectionParseLinePinLaw" (43 : Nat) (-1000000000000000 : Int64)).before a0 Z = true := G.1 _ (List.mem_of_getElem? (i := 229) rfl)
theorem w230 {Z : State} {a0 : Array Value} {zC : Int32} {fS : Value} {dO : Addr} {dT : Addr} (G : Gl Z a0 zC fS dO dT) : (Jvm.Cond.constantLong "com/example/dutiful_pruner/dutifulpruner/collection/LineFileCollectionParseLinePinLaw" (45 : Nat) (-10000000000000000 : Int64)).before a0 Z = true := G.1 _ (List.mem_of_getElem? (i := 230) rfl)
theorem w231 {Z : State} {a0 : Array Value} {zC : Int32} {fS : Value} {dO : Addr} {dT : Addr} (G : Gl Z a0 zC fS dO dT) : (Jvm.Cond.constantLong "com/example/dutiful_pruner/dutifulpruner/collection/LineFileCollectionParseLinePinLaw" (47 : Nat) (-100000000000000000 : Int64)).before a0 Z = true := G.1 _ (List.mem_of_getElem? (i := 231) rfl)
theorem w232 {Z : State} {a0 : Array Value} {zC : Int32} {fS : Value} {dO : Addr} {dT : Addr} (G : Gl Z a0 zC fS dO dT) : (Jvm.Cond.constantLong "com/example/dutiful_pruner/dutifulpruner/collection/LineFileCollectionParseLinePinLaw" (49 : Nat) (-1000000000000000000 : Int64)).before a0 Z = true := G.1 _ (List.mem_of_getElem? (i := 232) rfl)
theorem w233 {Z : State} {a0 : Array Value} {zC : Int32} {fS : Value} {dO : Addr} {dT : Addr} (G : Gl Z a0 zC fS dO dT) : (Jvm.Cond.stringLink "java/lang/StringLatin1" (151 : Nat) "").before a0 Z = true := G.1 _ (List.mem_of_getElem? (i := 233) rfl)
theorem w234 {Z : State} {a0 : Array Value} {zC : Int32} {fS : Value} {dO : Addr} {dT : Addr} (G : Gl Z a0 zC fS dO dT) : (Jvm.Cond.soleField "java/lang/String" "value").before a0 Z = true := G.1 _ (List.mem_of_getElem? (i := 234) rfl)
theorem w235 {Z : State} {a0 : Array Value} {zC : Int32} {fS : Value} {dO : Addr} {dT : Addr} (G : Gl Z a0 zC fS dO dT) : (Jvm.Cond.soleField "java/lang/String" "coder").before a0 Z = true := G.1 _ (List.mem_of_getElem? (i := 235) rfl)
theorem watoms {Z : State} {a0 : Array Value} {zC : Int32} {fS : Value} {dO : Addr} {dT : Addr} (G : Gl Z a0 zC fS dO dT) : ∀ a ∈ Bundle.stringAtoms, a.before a0 Z = true := fun d hd => by
  simp only [Bundle.stringAtoms, List.mem_cons, List.not_mem_nil, or_false] at hd
  rcases hd with rfl | rfl | rfl | rfl | rfl | rfl | rfl
  · exact (w28 G)
  · exact (w27 G)
  · exact (w44 G)
  · exact (w54 G)
  · exact (w52 G)
  · exact (w234 G)
  · exact (w235 G)
theorem d_jdk_52_m21_3 : decode jdk_52_method_21_code 3 = .ok (.iload 5, 2) := by decide +kernel
theorem d_jdk_52_m21_5 : decode jdk_52_method_21_code 5 = .ok (.iload 4, 2) := by decide +kernel
theorem d_jdk_52_m21_7 : decode jdk_52_method_21_code 7 = .ok (.if_icmp .ge 37, 3) := by decide +kernel
theorem d_jdk_52_m21_44 : decode jdk_52_method_21_code 44 = .ok (.iload 4, 2) := by decide +kernel
theorem d_jdk_52_m21_46 : decode jdk_52_method_21_code 46 = .ok (.ireturn, 1) := by decide +kernel
theorem d_jdk_52_m21_10 : decode jdk_52_method_21_code 10 = .ok (.aload_n 0, 1) := by decide +kernel
theorem d_jdk_52_m21_11 : decode jdk_52_method_21_code 11 = .ok (.iload_n 1, 1) := by decide +kernel
theorem d_jdk_52_m21_12 : decode jdk_52_method_21_code 12 = .ok (.caload, 1) := by decide +kernel
theorem d_jdk_52_m21_13 : decode jdk_52_method_21_code 13 = .ok (.istore 6, 2) := by decide +kernel
theorem d_jdk_52_m21_15 : decode jdk_52_method_21_code 15 = .ok (.iload 6, 2) := by decide +kernel
theorem d_jdk_52_m21_17 : decode jdk_52_method_21_code 17 = .ok (.sipush 255, 3) := by decide +kernel
theorem d_jdk_52_m21_20 : decode jdk_52_method_21_code 20 = .ok (.if_icmp .le 6, 3) := by decide +kernel
theorem d_jdk_52_m21_26 : decode jdk_52_method_21_code 26 = .ok (.aload_n 2, 1) := by decide +kernel
theorem d_jdk_52_m21_27 : decode jdk_52_method_21_code 27 = .ok (.iload_n 3, 1) := by decide +kernel
theorem d_jdk_52_m21_28 : decode jdk_52_method_21_code 28 = .ok (.iload 6, 2) := by decide +kernel
theorem d_jdk_52_m21_30 : decode jdk_52_method_21_code 30 = .ok (.i2b, 1) := by decide +kernel
theorem d_jdk_52_m21_31 : decode jdk_52_method_21_code 31 = .ok (.bastore, 1) := by decide +kernel
theorem d_jdk_52_m21_32 : decode jdk_52_method_21_code 32 = .ok (.iinc 1 1, 3) := by decide +kernel
theorem d_jdk_52_m21_35 : decode jdk_52_method_21_code 35 = .ok (.iinc 3 1, 3) := by decide +kernel
theorem d_jdk_52_m21_38 : decode jdk_52_method_21_code 38 = .ok (.iinc 5 1, 3) := by decide +kernel
theorem d_jdk_52_m21_41 : decode jdk_52_method_21_code 41 = .ok (.goto (-38), 3) := by decide +kernel
theorem d_jdk_52_m21_0 : decode jdk_52_method_21_code 0 = .ok (.iconst 0, 1) := by decide +kernel
theorem d_jdk_52_m21_1 : decode jdk_52_method_21_code 1 = .ok (.istore 5, 2) := by decide +kernel
theorem pn0 : plainName "java/lang/StringUTF16" = true := by first | (simp [plainName, overriddenIn]; done) | decide +kernel
theorem d_jdk_52_m15_0 : decode jdk_52_method_15_code 0 = .ok (.iload_n 1, 1) := by decide +kernel
theorem d_jdk_52_m15_1 : decode jdk_52_method_15_code 1 = .ok (.aload_n 0, 1) := by decide +kernel
theorem d_jdk_52_m15_2 : decode jdk_52_method_15_code 2 = .ok (.arraylength, 1) := by decide +kernel
theorem d_jdk_52_m15_3 : decode jdk_52_method_15_code 3 = .ok (.isub, 1) := by decide +kernel
theorem d_jdk_52_m15_4 : decode jdk_52_method_15_code 4 = .ok (.bipush 31, 2) := by decide +kernel
theorem d_jdk_52_m15_6 : decode jdk_52_method_15_code 6 = .ok (.iushr, 1) := by decide +kernel
theorem d_jdk_52_m15_7 : decode jdk_52_method_15_code 7 = .ok (.i2b, 1) := by decide +kernel
theorem d_jdk_52_m15_8 : decode jdk_52_method_15_code 8 = .ok (.ireturn, 1) := by decide +kernel
theorem d_jdk_52_m16_0 : decode jdk_52_method_16_code 0 = .ok (.iload_n 2, 1) := by decide +kernel
theorem d_jdk_52_m16_1 : decode jdk_52_method_16_code 1 = .ok (.newarray .byte, 2) := by decide +kernel
theorem d_jdk_52_m16_3 : decode jdk_52_method_16_code 3 = .ok (.astore_n 3, 1) := by decide +kernel
theorem d_jdk_52_m16_4 : decode jdk_52_method_16_code 4 = .ok (.aload_n 0, 1) := by decide +kernel
theorem d_jdk_52_m16_5 : decode jdk_52_method_16_code 5 = .ok (.iload_n 1, 1) := by decide +kernel
theorem d_jdk_52_m16_6 : decode jdk_52_method_16_code 6 = .ok (.aload_n 3, 1) := by decide +kernel
theorem d_jdk_52_m16_7 : decode jdk_52_method_16_code 7 = .ok (.iconst 0, 1) := by decide +kernel
theorem d_jdk_52_m16_8 : decode jdk_52_method_16_code 8 = .ok (.iload_n 2, 1) := by decide +kernel
theorem d_jdk_52_m16_9 : decode jdk_52_method_16_code 9 = .ok (.invokestatic 115, 3) := by decide +kernel
theorem pd1 : parseMethodDescriptor "([CI[BII)I" = some ⟨[(.array .char), .int, (.array .byte), .int, .int], some .int⟩ := by decide +kernel
theorem d_jdk_52_m16_12 : decode jdk_52_method_16_code 12 = .ok (.istore 4, 2) := by decide +kernel
theorem d_jdk_52_m16_14 : decode jdk_52_method_16_code 14 = .ok (.iload 4, 2) := by decide +kernel
theorem d_jdk_52_m16_16 : decode jdk_52_method_16_code 16 = .ok (.iload_n 2, 1) := by decide +kernel
theorem d_jdk_52_m16_17 : decode jdk_52_method_16_code 17 = .ok (.if_icmp .eq 40, 3) := by decide +kernel
theorem d_jdk_52_m16_57 : decode jdk_52_method_16_code 57 = .ok (.aload_n 3, 1) := by decide +kernel
theorem d_jdk_52_m16_58 : decode jdk_52_method_16_code 58 = .ok (.areturn, 1) := by decide +kernel
theorem d_jdk_42_m149_0 : decode jdk_42_method_149_code 0 = .ok (.aload_n 0, 1) := by decide +kernel
theorem d_jdk_42_m149_1 : decode jdk_42_method_149_code 1 = .ok (.invokespecial 1, 3) := by decide +kernel
theorem d_jdk_42_m149_4 : decode jdk_42_method_149_code 4 = .ok (.iload_n 3, 1) := by decide +kernel
theorem d_jdk_42_m149_5 : decode jdk_42_method_149_code 5 = .ok (.ifCond .ne 22, 3) := by decide +kernel
theorem d_jdk_42_m149_27 : decode jdk_42_method_149_code 27 = .ok (.getstatic 38, 3) := by decide +kernel
theorem d_jdk_42_m149_30 : decode jdk_42_method_149_code 30 = .ok (.ifCond .eq 28, 3) := by decide +kernel
theorem d_jdk_42_m149_33 : decode jdk_42_method_149_code 33 = .ok (.aload_n 1, 1) := by decide +kernel
theorem d_jdk_42_m149_34 : decode jdk_42_method_149_code 34 = .ok (.iload_n 2, 1) := by decide +kernel
theorem d_jdk_42_m149_35 : decode jdk_42_method_149_code 35 = .ok (.iload_n 3, 1) := by decide +kernel
theorem d_jdk_42_m149_36 : decode jdk_42_method_149_code 36 = .ok (.invokestatic 177, 3) := by decide +kernel
theorem pd2 : parseMethodDescriptor "([CII)[B" = some ⟨[(.array .char), .int, .int], some (.array .byte)⟩ := by decide +kernel
theorem d_jdk_42_m149_39 : decode jdk_42_method_149_code 39 = .ok (.astore 5, 2) := by decide +kernel
theorem d_jdk_42_m149_41 : decode jdk_42_method_149_code 41 = .ok (.aload_n 0, 1) := by decide +kernel
theorem d_jdk_42_m149_42 : decode jdk_42_method_149_code 42 = .ok (.aload 5, 2) := by decide +kernel
theorem d_jdk_42_m149_44 : decode jdk_42_method_149_code 44 = .ok (.iload_n 3, 1) := by decide +kernel
theorem d_jdk_42_m149_45 : decode jdk_42_method_149_code 45 = .ok (.invokestatic 47, 3) := by decide +kernel
theorem pd3 : parseMethodDescriptor "([BI)B" = some ⟨[(.array .byte), .int], some .byte⟩ := by decide +kernel
theorem d_jdk_42_m149_48 : decode jdk_42_method_149_code 48 = .ok (.putfield 15, 3) := by decide +kernel
theorem d_jdk_42_m149_51 : decode jdk_42_method_149_code 51 = .ok (.aload_n 0, 1) := by decide +kernel
theorem d_jdk_42_m149_52 : decode jdk_42_method_149_code 52 = .ok (.aload 5, 2) := by decide +kernel
theorem d_jdk_42_m149_54 : decode jdk_42_method_149_code 54 = .ok (.putfield 9, 3) := by decide +kernel
theorem d_jdk_42_m149_57 : decode jdk_42_method_149_code 57 = .ok (.return_, 1) := by decide +kernel
theorem pn4 : plainName "java/lang/String" = true := by first | (simp [plainName, overriddenIn]; done) | decide +kernel
theorem d_jdk_42_m3_0 : decode jdk_42_method_3_code 0 = .ok (.aload_n 0, 1) := by decide +kernel
theorem d_jdk_42_m3_1 : decode jdk_42_method_3_code 1 = .ok (.aload_n 1, 1) := by decide +kernel
theorem d_jdk_42_m3_2 : decode jdk_42_method_3_code 2 = .ok (.iconst 0, 1) := by decide +kernel
theorem d_jdk_42_m3_3 : decode jdk_42_method_3_code 3 = .ok (.aload_n 1, 1) := by decide +kernel
theorem d_jdk_42_m3_4 : decode jdk_42_method_3_code 4 = .ok (.arraylength, 1) := by decide +kernel
theorem d_jdk_42_m3_5 : decode jdk_42_method_3_code 5 = .ok (.aconst_null, 1) := by decide +kernel
theorem d_jdk_42_m3_6 : decode jdk_42_method_3_code 6 = .ok (.invokespecial 27, 3) := by decide +kernel
theorem pd5 : parseMethodDescriptor "([CIILjava/lang/Void;)V" = some ⟨[(.array .char), .int, .int, (.object "java/lang/Void")], none⟩ := by decide +kernel
theorem d_jdk_42_m3_9 : decode jdk_42_method_3_code 9 = .ok (.return_, 1) := by decide +kernel
theorem d_jdk_42_m152_0 : decode jdk_42_method_152_code 0 = .ok (.getstatic 38, 3) := by decide +kernel
theorem d_jdk_42_m152_3 : decode jdk_42_method_152_code 3 = .ok (.ifCond .eq 10, 3) := by decide +kernel
theorem d_jdk_42_m152_6 : decode jdk_42_method_152_code 6 = .ok (.aload_n 0, 1) := by decide +kernel
theorem d_jdk_42_m152_7 : decode jdk_42_method_152_code 7 = .ok (.getfield 15, 3) := by decide +kernel
theorem d_jdk_42_m152_10 : decode jdk_42_method_152_code 10 = .ok (.goto 4, 3) := by decide +kernel
theorem d_jdk_42_m152_14 : decode jdk_42_method_152_code 14 = .ok (.ireturn, 1) := by decide +kernel
theorem d_jdk_42_m54_0 : decode jdk_42_method_54_code 0 = .ok (.aload_n 0, 1) := by decide +kernel
theorem d_jdk_42_m54_1 : decode jdk_42_method_54_code 1 = .ok (.getfield 9, 3) := by decide +kernel
theorem d_jdk_42_m54_4 : decode jdk_42_method_54_code 4 = .ok (.arraylength, 1) := by decide +kernel
theorem d_jdk_42_m54_5 : decode jdk_42_method_54_code 5 = .ok (.aload_n 0, 1) := by decide +kernel
theorem d_jdk_42_m54_6 : decode jdk_42_method_54_code 6 = .ok (.invokevirtual 335, 3) := by decide +kernel
theorem pd6 : parseMethodDescriptor "()B" = some ⟨[], some .byte⟩ := by decide +kernel
theorem d_jdk_42_m54_9 : decode jdk_42_method_54_code 9 = .ok (.ishr, 1) := by decide +kernel
theorem d_jdk_42_m54_10 : decode jdk_42_method_54_code 10 = .ok (.ireturn, 1) := by decide +kernel
theorem d_jdk_42_m154_0 : decode jdk_42_method_154_code 0 = .ok (.getstatic 38, 3) := by decide +kernel
theorem d_jdk_42_m154_3 : decode jdk_42_method_154_code 3 = .ok (.ifCond .eq 14, 3) := by decide +kernel
theorem d_jdk_42_m154_6 : decode jdk_42_method_154_code 6 = .ok (.aload_n 0, 1) := by decide +kernel
theorem d_jdk_42_m154_7 : decode jdk_42_method_154_code 7 = .ok (.getfield 15, 3) := by decide +kernel
theorem d_jdk_42_m154_10 : decode jdk_42_method_154_code 10 = .ok (.ifCond .ne 7, 3) := by decide +kernel
theorem d_jdk_42_m154_13 : decode jdk_42_method_154_code 13 = .ok (.iconst 1, 1) := by decide +kernel
theorem d_jdk_42_m154_14 : decode jdk_42_method_154_code 14 = .ok (.goto 4, 3) := by decide +kernel
theorem d_jdk_42_m154_18 : decode jdk_42_method_154_code 18 = .ok (.ireturn, 1) := by decide +kernel
theorem d_jdk_41_m11_0 : decode jdk_41_method_11_code 0 = .ok (.iload_n 0, 1) := by decide +kernel
theorem d_jdk_41_m11_1 : decode jdk_41_method_11_code 1 = .ok (.ifCond .lt 8, 3) := by decide +kernel
theorem d_jdk_41_m11_4 : decode jdk_41_method_11_code 4 = .ok (.iload_n 0, 1) := by decide +kernel
theorem d_jdk_41_m11_5 : decode jdk_41_method_11_code 5 = .ok (.iload_n 1, 1) := by decide +kernel
theorem d_jdk_41_m11_6 : decode jdk_41_method_11_code 6 = .ok (.if_icmp .lt 10, 3) := by decide +kernel
theorem d_jdk_41_m11_16 : decode jdk_41_method_11_code 16 = .ok (.iload_n 0, 1) := by decide +kernel
theorem d_jdk_41_m11_17 : decode jdk_41_method_11_code 17 = .ok (.ireturn, 1) := by decide +kernel
theorem pn7 : plainName "jdk/internal/util/Preconditions" = true := by first | (simp [plainName, overriddenIn]; done) | decide +kernel
theorem d_jdk_42_m155_0 : decode jdk_42_method_155_code 0 = .ok (.iload_n 0, 1) := by decide +kernel
theorem d_jdk_42_m155_1 : decode jdk_42_method_155_code 1 = .ok (.iload_n 1, 1) := by decide +kernel
theorem d_jdk_42_m155_2 : decode jdk_42_method_155_code 2 = .ok (.getstatic 1053, 3) := by decide +kernel
theorem d_jdk_42_m155_5 : decode jdk_42_method_155_code 5 = .ok (.invokestatic 1059, 3) := by decide +kernel
theorem pd8 : parseMethodDescriptor "(IILjava/util/function/BiFunction;)I" = some ⟨[.int, .int, (.object "java/util/function/BiFunction")], some .int⟩ := by decide +kernel
theorem d_jdk_42_m155_8 : decode jdk_42_method_155_code 8 = .ok (.pop, 1) := by decide +kernel
theorem d_jdk_42_m155_9 : decode jdk_42_method_155_code 9 = .ok (.return_, 1) := by decide +kernel
theorem d_jdk_43_m2_0 : decode jdk_43_method_2_code 0 = .ok (.iload_n 1, 1) := by decide +kernel
theorem d_jdk_43_m2_1 : decode jdk_43_method_2_code 1 = .ok (.aload_n 0, 1) := by decide +kernel
theorem d_jdk_43_m2_2 : decode jdk_43_method_2_code 2 = .ok (.arraylength, 1) := by decide +kernel
theorem d_jdk_43_m2_3 : decode jdk_43_method_2_code 3 = .ok (.invokestatic 9, 3) := by decide +kernel
theorem pd9 : parseMethodDescriptor "(II)V" = some ⟨[.int, .int], none⟩ := by decide +kernel
theorem d_jdk_43_m2_6 : decode jdk_43_method_2_code 6 = .ok (.aload_n 0, 1) := by decide +kernel
theorem d_jdk_43_m2_7 : decode jdk_43_method_2_code 7 = .ok (.iload_n 1, 1) := by decide +kernel
theorem d_jdk_43_m2_8 : decode jdk_43_method_2_code 8 = .ok (.baload, 1) := by decide +kernel
theorem d_jdk_43_m2_9 : decode jdk_43_method_2_code 9 = .ok (.sipush 255, 3) := by decide +kernel
theorem d_jdk_43_m2_12 : decode jdk_43_method_2_code 12 = .ok (.iand, 1) := by decide +kernel
theorem d_jdk_43_m2_13 : decode jdk_43_method_2_code 13 = .ok (.i2c, 1) := by decide +kernel
theorem d_jdk_43_m2_14 : decode jdk_43_method_2_code 14 = .ok (.ireturn, 1) := by decide +kernel
theorem pn10 : plainName "java/lang/StringLatin1" = true := by first | (simp [plainName, overriddenIn]; done) | decide +kernel
theorem d_jdk_42_m56_0 : decode jdk_42_method_56_code 0 = .ok (.aload_n 0, 1) := by decide +kernel
theorem d_jdk_42_m56_1 : decode jdk_42_method_56_code 1 = .ok (.invokevirtual 492, 3) := by decide +kernel
theorem pd11 : parseMethodDescriptor "()Z" = some ⟨[], some .boolean⟩ := by decide +kernel
theorem d_jdk_42_m56_4 : decode jdk_42_method_56_code 4 = .ok (.ifCond .eq 12, 3) := by decide +kernel
theorem d_jdk_42_m56_7 : decode jdk_42_method_56_code 7 = .ok (.aload_n 0, 1) := by decide +kernel
theorem d_jdk_42_m56_8 : decode jdk_42_method_56_code 8 = .ok (.getfield 9, 3) := by decide +kernel
theorem d_jdk_42_m56_11 : decode jdk_42_method_56_code 11 = .ok (.iload_n 1, 1) := by decide +kernel
theorem d_jdk_42_m56_12 : decode jdk_42_method_56_code 12 = .ok (.invokestatic 495, 3) := by decide +kernel
theorem pd12 : parseMethodDescriptor "([BI)C" = some ⟨[(.array .byte), .int], some .char⟩ := by decide +kernel
theorem d_jdk_42_m56_15 : decode jdk_42_method_56_code 15 = .ok (.ireturn, 1) := by decide +kernel
theorem d_jdk_29_m65_0 : decode jdk_29_method_65_code 0 = .ok (.iload_n 0, 1) := by decide +kernel
theorem d_jdk_29_m65_1 : decode jdk_29_method_65_code 1 = .ok (.iload_n 1, 1) := by decide +kernel
theorem d_jdk_29_m65_2 : decode jdk_29_method_65_code 2 = .ok (.if_icmp .lt 7, 3) := by decide +kernel
theorem d_jdk_29_m65_9 : decode jdk_29_method_65_code 9 = .ok (.iload_n 1, 1) := by decide +kernel
theorem d_jdk_29_m65_10 : decode jdk_29_method_65_code 10 = .ok (.ireturn, 1) := by decide +kernel
theorem d_jdk_29_m65_5 : decode jdk_29_method_65_code 5 = .ok (.iload_n 0, 1) := by decide +kernel
theorem d_jdk_29_m65_6 : decode jdk_29_method_65_code 6 = .ok (.goto 4, 3) := by decide +kernel
theorem pn13 : plainFor (⟨"java/lang/Math", "max", "(II)I"⟩ : MethodName) = true := by decide +kernel
theorem d_jdk_29_m69_0 : decode jdk_29_method_69_code 0 = .ok (.iload_n 0, 1) := by decide +kernel
theorem d_jdk_29_m69_1 : decode jdk_29_method_69_code 1 = .ok (.iload_n 1, 1) := by decide +kernel
theorem d_jdk_29_m69_2 : decode jdk_29_method_69_code 2 = .ok (.if_icmp .gt 7, 3) := by decide +kernel
theorem d_jdk_29_m69_9 : decode jdk_29_method_69_code 9 = .ok (.iload_n 1, 1) := by decide +kernel
theorem d_jdk_29_m69_10 : decode jdk_29_method_69_code 10 = .ok (.ireturn, 1) := by decide +kernel
theorem d_jdk_29_m69_5 : decode jdk_29_method_69_code 5 = .ok (.iload_n 0, 1) := by decide +kernel
theorem d_jdk_29_m69_6 : decode jdk_29_method_69_code 6 = .ok (.goto 4, 3) := by decide +kernel
theorem pn14 : plainFor (⟨"java/lang/Math", "min", "(II)I"⟩ : MethodName) = true := by decide +kernel
theorem d_jdk_65_m131_0 : decode jdk_65_method_131_code 0 = .ok (.iload_n 1, 1) := by decide +kernel
theorem d_jdk_65_m131_1 : decode jdk_65_method_131_code 1 = .ok (.iload_n 0, 1) := by decide +kernel
theorem d_jdk_65_m131_2 : decode jdk_65_method_131_code 2 = .ok (.if_icmp .ge 35, 3) := by decide +kernel
theorem d_jdk_65_m131_37 : decode jdk_65_method_131_code 37 = .ok (.return_, 1) := by decide +kernel
theorem pn15 : plainName "java/util/Arrays" = true := by first | (simp [plainName, overriddenIn]; done) | decide +kernel
theorem d_jdk_65_m133_0 : decode jdk_65_method_133_code 0 = .ok (.iload_n 1, 1) := by decide +kernel
theorem d_jdk_65_m133_1 : decode jdk_65_method_133_code 1 = .ok (.iload_n 2, 1) := by decide +kernel
theorem d_jdk_65_m133_2 : decode jdk_65_method_133_code 2 = .ok (.invokestatic 343, 3) := by decide +kernel
theorem d_jdk_65_m133_5 : decode jdk_65_method_133_code 5 = .ok (.iload_n 2, 1) := by decide +kernel
theorem d_jdk_65_m133_6 : decode jdk_65_method_133_code 6 = .ok (.iload_n 1, 1) := by decide +kernel
theorem d_jdk_65_m133_7 : decode jdk_65_method_133_code 7 = .ok (.isub, 1) := by decide +kernel
theorem d_jdk_65_m133_8 : decode jdk_65_method_133_code 8 = .ok (.istore_n 3, 1) := by decide +kernel
theorem d_jdk_65_m133_9 : decode jdk_65_method_133_code 9 = .ok (.iload_n 3, 1) := by decide +kernel
theorem d_jdk_65_m133_10 : decode jdk_65_method_133_code 10 = .ok (.newarray .byte, 2) := by decide +kernel
theorem d_jdk_65_m133_12 : decode jdk_65_method_133_code 12 = .ok (.astore 4, 2) := by decide +kernel
theorem d_jdk_65_m133_14 : decode jdk_65_method_133_code 14 = .ok (.aload_n 0, 1) := by decide +kernel
theorem d_jdk_65_m133_15 : decode jdk_65_method_133_code 15 = .ok (.iload_n 1, 1) := by decide +kernel
theorem d_jdk_65_m133_16 : decode jdk_65_method_133_code 16 = .ok (.aload 4, 2) := by decide +kernel
theorem d_jdk_65_m133_18 : decode jdk_65_method_133_code 18 = .ok (.iconst 0, 1) := by decide +kernel
theorem d_jdk_65_m133_19 : decode jdk_65_method_133_code 19 = .ok (.aload_n 0, 1) := by decide +kernel
theorem d_jdk_65_m133_20 : decode jdk_65_method_133_code 20 = .ok (.arraylength, 1) := by decide +kernel
theorem d_jdk_65_m133_21 : decode jdk_65_method_133_code 21 = .ok (.iload_n 1, 1) := by decide +kernel
theorem d_jdk_65_m133_22 : decode jdk_65_method_133_code 22 = .ok (.isub, 1) := by decide +kernel
theorem d_jdk_65_m133_23 : decode jdk_65_method_133_code 23 = .ok (.iload_n 3, 1) := by decide +kernel
theorem d_jdk_65_m133_24 : decode jdk_65_method_133_code 24 = .ok (.invokestatic 304, 3) := by decide +kernel
theorem pd16 : parseMethodDescriptor "(II)I" = some ⟨[.int, .int], some .int⟩ := by decide +kernel
theorem d_jdk_65_m133_27 : decode jdk_65_method_133_code 27 = .ok (.invokestatic 150, 3) := by decide +kernel
theorem d_jdk_65_m133_30 : decode jdk_65_method_133_code 30 = .ok (.aload 4, 2) := by decide +kernel
theorem d_jdk_65_m133_32 : decode jdk_65_method_133_code 32 = .ok (.areturn, 1) := by decide +kernel
theorem d_jdk_65_m132_0 : decode jdk_65_method_132_code 0 = .ok (.iload_n 1, 1) := by decide +kernel
theorem d_jdk_65_m132_1 : decode jdk_65_method_132_code 1 = .ok (.ifCond .ne 9, 3) := by decide +kernel
theorem d_jdk_65_m132_4 : decode jdk_65_method_132_code 4 = .ok (.iload_n 2, 1) := by decide +kernel
theorem d_jdk_65_m132_5 : decode jdk_65_method_132_code 5 = .ok (.aload_n 0, 1) := by decide +kernel
theorem d_jdk_65_m132_6 : decode jdk_65_method_132_code 6 = .ok (.arraylength, 1) := by decide +kernel
theorem d_jdk_65_m132_7 : decode jdk_65_method_132_code 7 = .ok (.if_icmp .eq 10, 3) := by decide +kernel
theorem d_jdk_65_m132_10 : decode jdk_65_method_132_code 10 = .ok (.aload_n 0, 1) := by decide +kernel
theorem d_jdk_65_m132_11 : decode jdk_65_method_132_code 11 = .ok (.iload_n 1, 1) := by decide +kernel
theorem d_jdk_65_m132_12 : decode jdk_65_method_132_code 12 = .ok (.iload_n 2, 1) := by decide +kernel
theorem d_jdk_65_m132_13 : decode jdk_65_method_132_code 13 = .ok (.invokestatic 339, 3) := by decide +kernel
theorem pd17 : parseMethodDescriptor "([BII)[B" = some ⟨[(.array .byte), .int, .int], some (.array .byte)⟩ := by decide +kernel
theorem d_jdk_65_m132_16 : decode jdk_65_method_132_code 16 = .ok (.areturn, 1) := by decide +kernel
theorem d_jdk_30_m1_0 : decode jdk_30_method_1_code 0 = .ok (.aload_n 0, 1) := by decide +kernel
theorem d_jdk_30_m1_1 : decode jdk_30_method_1_code 1 = .ok (.invokespecial 1, 3) := by decide +kernel
theorem d_jdk_30_m1_4 : decode jdk_30_method_1_code 4 = .ok (.return_, 1) := by decide +kernel
theorem pn18 : plainName "java/lang/Record" = true := by first | (simp [plainName, overriddenIn]; done) | decide +kernel
theorem d_jdk_29_m61_0 : decode jdk_29_method_61_code 0 = .ok (.lload_n 0, 1) := by decide +kernel
theorem d_jdk_29_m61_1 : decode jdk_29_method_61_code 1 = .ok (.lconst 0, 1) := by decide +kernel
theorem d_jdk_29_m61_2 : decode jdk_29_method_61_code 2 = .ok (.lcmp, 1) := by decide +kernel
theorem d_jdk_29_m61_3 : decode jdk_29_method_61_code 3 = .ok (.ifCond .ge 8, 3) := by decide +kernel
theorem d_jdk_29_m61_6 : decode jdk_29_method_61_code 6 = .ok (.lload_n 0, 1) := by decide +kernel
theorem d_jdk_29_m61_7 : decode jdk_29_method_61_code 7 = .ok (.lneg, 1) := by decide +kernel
theorem d_jdk_29_m61_8 : decode jdk_29_method_61_code 8 = .ok (.goto 4, 3) := by decide +kernel
theorem d_jdk_29_m61_12 : decode jdk_29_method_61_code 12 = .ok (.lreturn, 1) := by decide +kernel
theorem d_jdk_29_m61_11 : decode jdk_29_method_61_code 11 = .ok (.lload_n 0, 1) := by decide +kernel
theorem pn19 : plainFor (⟨"java/lang/Math", "abs", "(J)J"⟩ : MethodName) = true := by decide +kernel
theorem d_jdk_43_m4_0 : decode jdk_43_method_4_code 0 = .ok (.iload_n 0, 1) := by decide +kernel
theorem d_jdk_43_m4_1 : decode jdk_43_method_4_code 1 = .ok (.ifCond .lt 14, 3) := by decide +kernel
theorem d_jdk_43_m4_4 : decode jdk_43_method_4_code 4 = .ok (.iload_n 0, 1) := by decide +kernel
theorem d_jdk_43_m4_5 : decode jdk_43_method_4_code 5 = .ok (.sipush 255, 3) := by decide +kernel
theorem d_jdk_43_m4_8 : decode jdk_43_method_4_code 8 = .ok (.if_icmp .gt 7, 3) := by decide +kernel
theorem d_jdk_43_m4_11 : decode jdk_43_method_4_code 11 = .ok (.iconst 1, 1) := by decide +kernel
theorem d_jdk_43_m4_12 : decode jdk_43_method_4_code 12 = .ok (.goto 4, 3) := by decide +kernel
theorem d_jdk_43_m4_16 : decode jdk_43_method_4_code 16 = .ok (.ireturn, 1) := by decide +kernel
theorem d_jdk_42_m151_0 : decode jdk_42_method_151_code 0 = .ok (.aload_n 0, 1) := by decide +kernel
theorem d_jdk_42_m151_1 : decode jdk_42_method_151_code 1 = .ok (.invokespecial 1, 3) := by decide +kernel
theorem d_jdk_42_m151_4 : decode jdk_42_method_151_code 4 = .ok (.aload_n 0, 1) := by decide +kernel
theorem d_jdk_42_m151_5 : decode jdk_42_method_151_code 5 = .ok (.aload_n 1, 1) := by decide +kernel
theorem d_jdk_42_m151_6 : decode jdk_42_method_151_code 6 = .ok (.putfield 9, 3) := by decide +kernel
theorem d_jdk_42_m151_9 : decode jdk_42_method_151_code 9 = .ok (.aload_n 0, 1) := by decide +kernel
theorem d_jdk_42_m151_10 : decode jdk_42_method_151_code 10 = .ok (.iload_n 2, 1) := by decide +kernel
theorem d_jdk_42_m151_11 : decode jdk_42_method_151_code 11 = .ok (.putfield 15, 3) := by decide +kernel
theorem d_jdk_42_m151_14 : decode jdk_42_method_151_code 14 = .ok (.return_, 1) := by decide +kernel
theorem d_jdk_43_m23_0 : decode jdk_43_method_23_code 0 = .ok (.iload_n 1, 1) := by decide +kernel
theorem d_jdk_43_m23_1 : decode jdk_43_method_23_code 1 = .ok (.i2b, 1) := by decide +kernel
theorem d_jdk_43_m23_2 : decode jdk_43_method_23_code 2 = .ok (.istore 4, 2) := by decide +kernel
theorem d_jdk_43_m23_4 : decode jdk_43_method_23_code 4 = .ok (.iload_n 2, 1) := by decide +kernel
theorem d_jdk_43_m23_5 : decode jdk_43_method_23_code 5 = .ok (.istore 5, 2) := by decide +kernel
theorem d_jdk_43_m23_7 : decode jdk_43_method_23_code 7 = .ok (.iload 5, 2) := by decide +kernel
theorem d_jdk_43_m23_9 : decode jdk_43_method_23_code 9 = .ok (.iload_n 3, 1) := by decide +kernel
theorem d_jdk_43_m23_10 : decode jdk_43_method_23_code 10 = .ok (.if_icmp .ge 21, 3) := by decide +kernel
theorem d_jdk_43_m23_13 : decode jdk_43_method_23_code 13 = .ok (.aload_n 0, 1) := by decide +kernel
theorem d_jdk_43_m23_14 : decode jdk_43_method_23_code 14 = .ok (.iload 5, 2) := by decide +kernel
theorem d_jdk_43_m23_16 : decode jdk_43_method_23_code 16 = .ok (.baload, 1) := by decide +kernel
theorem d_jdk_43_m23_17 : decode jdk_43_method_23_code 17 = .ok (.iload 4, 2) := by decide +kernel
theorem d_jdk_43_m23_19 : decode jdk_43_method_23_code 19 = .ok (.if_icmp .ne 6, 3) := by decide +kernel
theorem d_jdk_43_m23_22 : decode jdk_43_method_23_code 22 = .ok (.iload 5, 2) := by decide +kernel
theorem d_jdk_43_m23_24 : decode jdk_43_method_23_code 24 = .ok (.ireturn, 1) := by decide +kernel
theorem d_jdk_43_m23_25 : decode jdk_43_method_23_code 25 = .ok (.iinc 5 1, 3) := by decide +kernel
theorem d_jdk_43_m23_28 : decode jdk_43_method_23_code 28 = .ok (.goto (-21), 3) := by decide +kernel
theorem d_jdk_43_m22_0 : decode jdk_43_method_22_code 0 = .ok (.iload_n 1, 1) := by decide +kernel
theorem d_jdk_43_m22_1 : decode jdk_43_method_22_code 1 = .ok (.invokestatic 88, 3) := by decide +kernel
theorem pd20 : parseMethodDescriptor "(I)Z" = some ⟨[.int], some .boolean⟩ := by decide +kernel
theorem d_jdk_43_m22_4 : decode jdk_43_method_22_code 4 = .ok (.ifCond .ne 5, 3) := by decide +kernel
theorem d_jdk_43_m22_9 : decode jdk_43_method_22_code 9 = .ok (.iload_n 2, 1) := by decide +kernel
theorem d_jdk_43_m22_10 : decode jdk_43_method_22_code 10 = .ok (.iconst 0, 1) := by decide +kernel
theorem d_jdk_43_m22_11 : decode jdk_43_method_22_code 11 = .ok (.invokestatic 92, 3) := by decide +kernel
theorem d_jdk_43_m22_14 : decode jdk_43_method_22_code 14 = .ok (.istore_n 2, 1) := by decide +kernel
theorem d_jdk_43_m22_15 : decode jdk_43_method_22_code 15 = .ok (.iload_n 3, 1) := by decide +kernel
theorem d_jdk_43_m22_16 : decode jdk_43_method_22_code 16 = .ok (.aload_n 0, 1) := by decide +kernel
theorem d_jdk_43_m22_17 : decode jdk_43_method_22_code 17 = .ok (.arraylength, 1) := by decide +kernel
theorem d_jdk_43_m22_18 : decode jdk_43_method_22_code 18 = .ok (.invokestatic 38, 3) := by decide +kernel
theorem d_jdk_43_m22_21 : decode jdk_43_method_22_code 21 = .ok (.istore_n 3, 1) := by decide +kernel
theorem d_jdk_43_m22_22 : decode jdk_43_method_22_code 22 = .ok (.iload_n 2, 1) := by decide +kernel
theorem d_jdk_43_m22_23 : decode jdk_43_method_22_code 23 = .ok (.iload_n 3, 1) := by decide +kernel
theorem d_jdk_43_m22_24 : decode jdk_43_method_22_code 24 = .ok (.if_icmp .lt 5, 3) := by decide +kernel
theorem d_jdk_43_m22_29 : decode jdk_43_method_22_code 29 = .ok (.aload_n 0, 1) := by decide +kernel
theorem d_jdk_43_m22_30 : decode jdk_43_method_22_code 30 = .ok (.iload_n 1, 1) := by decide +kernel
theorem d_jdk_43_m22_31 : decode jdk_43_method_22_code 31 = .ok (.iload_n 2, 1) := by decide +kernel
theorem d_jdk_43_m22_32 : decode jdk_43_method_22_code 32 = .ok (.iload_n 3, 1) := by decide +kernel
theorem d_jdk_43_m22_33 : decode jdk_43_method_22_code 33 = .ok (.invokestatic 95, 3) := by decide +kernel
theorem pd21 : parseMethodDescriptor "([BIII)I" = some ⟨[(.array .byte), .int, .int, .int], some .int⟩ := by decide +kernel
theorem d_jdk_43_m22_36 : decode jdk_43_method_22_code 36 = .ok (.ireturn, 1) := by decide +kernel
theorem d_jdk_42_m80_0 : decode jdk_42_method_80_code 0 = .ok (.aload_n 0, 1) := by decide +kernel
theorem d_jdk_42_m80_1 : decode jdk_42_method_80_code 1 = .ok (.invokevirtual 492, 3) := by decide +kernel
theorem d_jdk_42_m80_4 : decode jdk_42_method_80_code 4 = .ok (.ifCond .eq 19, 3) := by decide +kernel
theorem d_jdk_42_m80_7 : decode jdk_42_method_80_code 7 = .ok (.aload_n 0, 1) := by decide +kernel
theorem d_jdk_42_m80_8 : decode jdk_42_method_80_code 8 = .ok (.getfield 9, 3) := by decide +kernel
theorem d_jdk_42_m80_11 : decode jdk_42_method_80_code 11 = .ok (.iload_n 1, 1) := by decide +kernel
theorem d_jdk_42_m80_12 : decode jdk_42_method_80_code 12 = .ok (.iload_n 2, 1) := by decide +kernel
theorem d_jdk_42_m80_13 : decode jdk_42_method_80_code 13 = .ok (.aload_n 0, 1) := by decide +kernel
theorem d_jdk_42_m80_14 : decode jdk_42_method_80_code 14 = .ok (.invokevirtual 505, 3) := by decide +kernel
theorem pd22 : parseMethodDescriptor "()I" = some ⟨[], some .int⟩ := by decide +kernel
theorem d_jdk_42_m80_17 : decode jdk_42_method_80_code 17 = .ok (.invokestatic 637, 3) := by decide +kernel
theorem d_jdk_42_m80_20 : decode jdk_42_method_80_code 20 = .ok (.goto 16, 3) := by decide +kernel
theorem d_jdk_42_m80_36 : decode jdk_42_method_80_code 36 = .ok (.ireturn, 1) := by decide +kernel
theorem d_jdk_42_m79_0 : decode jdk_42_method_79_code 0 = .ok (.aload_n 0, 1) := by decide +kernel
theorem d_jdk_42_m79_1 : decode jdk_42_method_79_code 1 = .ok (.iload_n 1, 1) := by decide +kernel
theorem d_jdk_42_m79_2 : decode jdk_42_method_79_code 2 = .ok (.iconst 0, 1) := by decide +kernel
theorem d_jdk_42_m79_3 : decode jdk_42_method_79_code 3 = .ok (.invokevirtual 633, 3) := by decide +kernel
theorem d_jdk_42_m79_6 : decode jdk_42_method_79_code 6 = .ok (.ireturn, 1) := by decide +kernel
theorem d_jdk_41_m12_0 : decode jdk_41_method_12_code 0 = .ok (.iload_n 0, 1) := by decide +kernel
theorem d_jdk_41_m12_1 : decode jdk_41_method_12_code 1 = .ok (.ifCond .lt 13, 3) := by decide +kernel
theorem d_jdk_41_m12_4 : decode jdk_41_method_12_code 4 = .ok (.iload_n 0, 1) := by decide +kernel
theorem d_jdk_41_m12_5 : decode jdk_41_method_12_code 5 = .ok (.iload_n 1, 1) := by decide +kernel
theorem d_jdk_41_m12_6 : decode jdk_41_method_12_code 6 = .ok (.if_icmp .gt 8, 3) := by decide +kernel
theorem d_jdk_41_m12_9 : decode jdk_41_method_12_code 9 = .ok (.iload_n 1, 1) := by decide +kernel
theorem d_jdk_41_m12_10 : decode jdk_41_method_12_code 10 = .ok (.iload_n 2, 1) := by decide +kernel
theorem d_jdk_41_m12_11 : decode jdk_41_method_12_code 11 = .ok (.if_icmp .le 11, 3) := by decide +kernel
theorem d_jdk_41_m12_22 : decode jdk_41_method_12_code 22 = .ok (.iload_n 0, 1) := by decide +kernel
theorem d_jdk_41_m12_23 : decode jdk_41_method_12_code 23 = .ok (.ireturn, 1) := by decide +kernel
theorem d_jdk_42_m158_0 : decode jdk_42_method_158_code 0 = .ok (.iload_n 0, 1) := by decide +kernel
theorem d_jdk_42_m158_1 : decode jdk_42_method_158_code 1 = .ok (.iload_n 1, 1) := by decide +kernel
theorem d_jdk_42_m158_2 : decode jdk_42_method_158_code 2 = .ok (.iload_n 2, 1) := by decide +kernel
theorem d_jdk_42_m158_3 : decode jdk_42_method_158_code 3 = .ok (.getstatic 1053, 3) := by decide +kernel
theorem d_jdk_42_m158_6 : decode jdk_42_method_158_code 6 = .ok (.invokestatic 1062, 3) := by decide +kernel
theorem pd23 : parseMethodDescriptor "(IIILjava/util/function/BiFunction;)I" = some ⟨[.int, .int, .int, (.object "java/util/function/BiFunction")], some .int⟩ := by decide +kernel
theorem d_jdk_42_m158_9 : decode jdk_42_method_158_code 9 = .ok (.pop, 1) := by decide +kernel
theorem d_jdk_42_m158_10 : decode jdk_42_method_158_code 10 = .ok (.return_, 1) := by decide +kernel
theorem d_jdk_43_m47_0 : decode jdk_43_method_47_code 0 = .ok (.iload_n 2, 1) := by decide +kernel
theorem d_jdk_43_m47_1 : decode jdk_43_method_47_code 1 = .ok (.ifCond .ne 6, 3) := by decide +kernel
theorem d_jdk_43_m47_4 : decode jdk_43_method_47_code 4 = .ok (.ldc 151, 2) := by decide +kernel
theorem d_jdk_43_m47_6 : decode jdk_43_method_47_code 6 = .ok (.areturn, 1) := by decide +kernel
theorem d_jdk_43_m47_7 : decode jdk_43_method_47_code 7 = .ok (.new 1, 3) := by decide +kernel
theorem d_jdk_43_m47_10 : decode jdk_43_method_47_code 10 = .ok (.dup, 1) := by decide +kernel
theorem d_jdk_43_m47_11 : decode jdk_43_method_47_code 11 = .ok (.aload_n 0, 1) := by decide +kernel
theorem d_jdk_43_m47_12 : decode jdk_43_method_47_code 12 = .ok (.iload_n 1, 1) := by decide +kernel
theorem d_jdk_43_m47_13 : decode jdk_43_method_47_code 13 = .ok (.iload_n 1, 1) := by decide +kernel
theorem d_jdk_43_m47_14 : decode jdk_43_method_47_code 14 = .ok (.iload_n 2, 1) := by decide +kernel
theorem d_jdk_43_m47_15 : decode jdk_43_method_47_code 15 = .ok (.iadd, 1) := by decide +kernel
theorem d_jdk_43_m47_16 : decode jdk_43_method_47_code 16 = .ok (.invokestatic 232, 3) := by decide +kernel
theorem d_jdk_43_m47_19 : decode jdk_43_method_47_code 19 = .ok (.iconst 0, 1) := by decide +kernel
theorem d_jdk_43_m47_20 : decode jdk_43_method_47_code 20 = .ok (.invokespecial 112, 3) := by decide +kernel
theorem pd24 : parseMethodDescriptor "([BB)V" = some ⟨[(.array .byte), .byte], none⟩ := by decide +kernel
theorem d_jdk_43_m47_23 : decode jdk_43_method_47_code 23 = .ok (.areturn, 1) := by decide +kernel
theorem d_jdk_42_m92_0 : decode jdk_42_method_92_code 0 = .ok (.aload_n 0, 1) := by decide +kernel
theorem d_jdk_42_m92_1 : decode jdk_42_method_92_code 1 = .ok (.invokevirtual 505, 3) := by decide +kernel
theorem d_jdk_42_m92_4 : decode jdk_42_method_92_code 4 = .ok (.istore_n 3, 1) := by decide +kernel
theorem d_jdk_42_m92_5 : decode jdk_42_method_92_code 5 = .ok (.iload_n 1, 1) := by decide +kernel
theorem d_jdk_42_m92_6 : decode jdk_42_method_92_code 6 = .ok (.iload_n 2, 1) := by decide +kernel
theorem d_jdk_42_m92_7 : decode jdk_42_method_92_code 7 = .ok (.iload_n 3, 1) := by decide +kernel
theorem d_jdk_42_m92_8 : decode jdk_42_method_92_code 8 = .ok (.invokestatic 521, 3) := by decide +kernel
theorem pd25 : parseMethodDescriptor "(III)V" = some ⟨[.int, .int, .int], none⟩ := by decide +kernel
theorem d_jdk_42_m92_11 : decode jdk_42_method_92_code 11 = .ok (.iload_n 1, 1) := by decide +kernel
theorem d_jdk_42_m92_12 : decode jdk_42_method_92_code 12 = .ok (.ifCond .ne 10, 3) := by decide +kernel
theorem d_jdk_42_m92_22 : decode jdk_42_method_92_code 22 = .ok (.iload_n 2, 1) := by decide +kernel
theorem d_jdk_42_m92_23 : decode jdk_42_method_92_code 23 = .ok (.iload_n 1, 1) := by decide +kernel
theorem d_jdk_42_m92_24 : decode jdk_42_method_92_code 24 = .ok (.isub, 1) := by decide +kernel
theorem d_jdk_42_m92_25 : decode jdk_42_method_92_code 25 = .ok (.istore 4, 2) := by decide +kernel
theorem d_jdk_42_m92_27 : decode jdk_42_method_92_code 27 = .ok (.aload_n 0, 1) := by decide +kernel
theorem d_jdk_42_m92_28 : decode jdk_42_method_92_code 28 = .ok (.invokevirtual 492, 3) := by decide +kernel
theorem d_jdk_42_m92_31 : decode jdk_42_method_92_code 31 = .ok (.ifCond .eq 16, 3) := by decide +kernel
theorem d_jdk_42_m92_34 : decode jdk_42_method_92_code 34 = .ok (.aload_n 0, 1) := by decide +kernel
theorem d_jdk_42_m92_35 : decode jdk_42_method_92_code 35 = .ok (.getfield 9, 3) := by decide +kernel
theorem d_jdk_42_m92_38 : decode jdk_42_method_92_code 38 = .ok (.iload_n 1, 1) := by decide +kernel
theorem d_jdk_42_m92_39 : decode jdk_42_method_92_code 39 = .ok (.iload 4, 2) := by decide +kernel
theorem d_jdk_42_m92_41 : decode jdk_42_method_92_code 41 = .ok (.invokestatic 685, 3) := by decide +kernel
theorem pd26 : parseMethodDescriptor "([BII)Ljava/lang/String;" = some ⟨[(.array .byte), .int, .int], some (.object "java/lang/String")⟩ := by decide +kernel
theorem d_jdk_42_m92_44 : decode jdk_42_method_92_code 44 = .ok (.goto 13, 3) := by decide +kernel
theorem d_jdk_42_m92_57 : decode jdk_42_method_92_code 57 = .ok (.areturn, 1) := by decide +kernel
theorem d_jdk_42_m91_0 : decode jdk_42_method_91_code 0 = .ok (.aload_n 0, 1) := by decide +kernel
theorem d_jdk_42_m91_1 : decode jdk_42_method_91_code 1 = .ok (.iload_n 1, 1) := by decide +kernel
theorem d_jdk_42_m91_2 : decode jdk_42_method_91_code 2 = .ok (.aload_n 0, 1) := by decide +kernel
theorem d_jdk_42_m91_3 : decode jdk_42_method_91_code 3 = .ok (.invokevirtual 505, 3) := by decide +kernel
theorem d_jdk_42_m91_6 : decode jdk_42_method_91_code 6 = .ok (.invokevirtual 681, 3) := by decide +kernel
theorem pd27 : parseMethodDescriptor "(II)Ljava/lang/String;" = some ⟨[.int, .int], some (.object "java/lang/String")⟩ := by decide +kernel
theorem d_jdk_42_m91_9 : decode jdk_42_method_91_code 9 = .ok (.areturn, 1) := by decide +kernel
theorem d_jdk_35_m15_20 : decode jdk_35_method_15_code 20 = .ok (.iload 5, 2) := by decide +kernel
theorem d_jdk_35_m15_22 : decode jdk_35_method_15_code 22 = .ok (.bipush 19, 2) := by decide +kernel
theorem d_jdk_35_m15_24 : decode jdk_35_method_15_code 24 = .ok (.if_icmp .ge 26, 3) := by decide +kernel
theorem d_jdk_35_m15_50 : decode jdk_35_method_15_code 50 = .ok (.bipush 19, 2) := by decide +kernel
theorem d_jdk_35_m15_52 : decode jdk_35_method_15_code 52 = .ok (.iload_n 2, 1) := by decide +kernel
theorem d_jdk_35_m15_53 : decode jdk_35_method_15_code 53 = .ok (.iadd, 1) := by decide +kernel
theorem d_jdk_35_m15_54 : decode jdk_35_method_15_code 54 = .ok (.ireturn, 1) := by decide +kernel
theorem d_jdk_35_m15_27 : decode jdk_35_method_15_code 27 = .ok (.lload_n 0, 1) := by decide +kernel
theorem d_jdk_35_m15_28 : decode jdk_35_method_15_code 28 = .ok (.lload_n 3, 1) := by decide +kernel
theorem d_jdk_35_m15_29 : decode jdk_35_method_15_code 29 = .ok (.lcmp, 1) := by decide +kernel
theorem d_jdk_35_m15_30 : decode jdk_35_method_15_code 30 = .ok (.ifCond .le 8, 3) := by decide +kernel
theorem d_jdk_35_m15_33 : decode jdk_35_method_15_code 33 = .ok (.iload 5, 2) := by decide +kernel
theorem d_jdk_35_m15_35 : decode jdk_35_method_15_code 35 = .ok (.iload_n 2, 1) := by decide +kernel
theorem d_jdk_35_m15_36 : decode jdk_35_method_15_code 36 = .ok (.iadd, 1) := by decide +kernel
theorem d_jdk_35_m15_37 : decode jdk_35_method_15_code 37 = .ok (.ireturn, 1) := by decide +kernel
theorem d_jdk_35_m15_38 : decode jdk_35_method_15_code 38 = .ok (.ldc2_w 53, 3) := by decide +kernel
theorem d_jdk_35_m15_41 : decode jdk_35_method_15_code 41 = .ok (.lload_n 3, 1) := by decide +kernel
theorem d_jdk_35_m15_42 : decode jdk_35_method_15_code 42 = .ok (.lmul, 1) := by decide +kernel
theorem d_jdk_35_m15_43 : decode jdk_35_method_15_code 43 = .ok (.lstore_n 3, 1) := by decide +kernel
theorem d_jdk_35_m15_44 : decode jdk_35_method_15_code 44 = .ok (.iinc 5 1, 3) := by decide +kernel
theorem d_jdk_35_m15_47 : decode jdk_35_method_15_code 47 = .ok (.goto (-27), 3) := by decide +kernel
theorem d_jdk_35_m15_13 : decode jdk_35_method_15_code 13 = .ok (.ldc2_w 140, 3) := by decide +kernel
theorem d_jdk_35_m15_16 : decode jdk_35_method_15_code 16 = .ok (.lstore_n 3, 1) := by decide +kernel
theorem d_jdk_35_m15_17 : decode jdk_35_method_15_code 17 = .ok (.iconst 1, 1) := by decide +kernel
theorem d_jdk_35_m15_18 : decode jdk_35_method_15_code 18 = .ok (.istore 5, 2) := by decide +kernel
theorem d_jdk_35_m15_0 : decode jdk_35_method_15_code 0 = .ok (.iconst 1, 1) := by decide +kernel
theorem d_jdk_35_m15_1 : decode jdk_35_method_15_code 1 = .ok (.istore_n 2, 1) := by decide +kernel
theorem d_jdk_35_m15_2 : decode jdk_35_method_15_code 2 = .ok (.lload_n 0, 1) := by decide +kernel
theorem d_jdk_35_m15_3 : decode jdk_35_method_15_code 3 = .ok (.lconst 0, 1) := by decide +kernel
theorem d_jdk_35_m15_4 : decode jdk_35_method_15_code 4 = .ok (.lcmp, 1) := by decide +kernel
theorem d_jdk_35_m15_5 : decode jdk_35_method_15_code 5 = .ok (.ifCond .lt 8, 3) := by decide +kernel
theorem d_jdk_35_m15_8 : decode jdk_35_method_15_code 8 = .ok (.iconst 0, 1) := by decide +kernel
theorem d_jdk_35_m15_9 : decode jdk_35_method_15_code 9 = .ok (.istore_n 2, 1) := by decide +kernel
theorem d_jdk_35_m15_10 : decode jdk_35_method_15_code 10 = .ok (.lload_n 0, 1) := by decide +kernel
theorem d_jdk_35_m15_11 : decode jdk_35_method_15_code 11 = .ok (.lneg, 1) := by decide +kernel
theorem d_jdk_35_m15_12 : decode jdk_35_method_15_code 12 = .ok (.lstore_n 0, 1) := by decide +kernel
theorem pn28 : plainName "java/lang/Long" = true := by first | (simp [plainName, overriddenIn]; done) | decide +kernel
theorem d_jdk_35_m14_86 : decode jdk_35_method_14_code 86 = .ok (.iload 10, 2) := by decide +kernel
theorem d_jdk_35_m14_88 : decode jdk_35_method_14_code 88 = .ok (.bipush (-100), 2) := by decide +kernel
theorem d_jdk_35_m14_90 : decode jdk_35_method_14_code 90 = .ok (.if_icmp .gt 53, 3) := by decide +kernel
theorem d_jdk_35_m14_143 : decode jdk_35_method_14_code 143 = .ok (.aload_n 3, 1) := by decide +kernel
theorem d_jdk_35_m14_144 : decode jdk_35_method_14_code 144 = .ok (.iinc 7 (-1), 3) := by decide +kernel
theorem d_jdk_35_m14_147 : decode jdk_35_method_14_code 147 = .ok (.iload 7, 2) := by decide +kernel
theorem d_jdk_35_m14_149 : decode jdk_35_method_14_code 149 = .ok (.getstatic 133, 3) := by decide +kernel
theorem d_jdk_35_m14_152 : decode jdk_35_method_14_code 152 = .ok (.iload 10, 2) := by decide +kernel
theorem d_jdk_35_m14_154 : decode jdk_35_method_14_code 154 = .ok (.ineg, 1) := by decide +kernel
theorem d_jdk_35_m14_155 : decode jdk_35_method_14_code 155 = .ok (.baload, 1) := by decide +kernel
theorem d_jdk_35_m14_156 : decode jdk_35_method_14_code 156 = .ok (.bastore, 1) := by decide +kernel
theorem d_jdk_35_m14_157 : decode jdk_35_method_14_code 157 = .ok (.iload 10, 2) := by decide +kernel
theorem d_jdk_35_m14_159 : decode jdk_35_method_14_code 159 = .ok (.bipush (-9), 2) := by decide +kernel
theorem d_jdk_35_m14_161 : decode jdk_35_method_14_code 161 = .ok (.if_icmp .ge 17, 3) := by decide +kernel
theorem d_jdk_35_m14_164 : decode jdk_35_method_14_code 164 = .ok (.aload_n 3, 1) := by decide +kernel
theorem d_jdk_35_m14_165 : decode jdk_35_method_14_code 165 = .ok (.iinc 7 (-1), 3) := by decide +kernel
theorem d_jdk_35_m14_168 : decode jdk_35_method_14_code 168 = .ok (.iload 7, 2) := by decide +kernel
theorem d_jdk_35_m14_170 : decode jdk_35_method_14_code 170 = .ok (.getstatic 137, 3) := by decide +kernel
theorem d_jdk_35_m14_173 : decode jdk_35_method_14_code 173 = .ok (.iload 10, 2) := by decide +kernel
theorem d_jdk_35_m14_175 : decode jdk_35_method_14_code 175 = .ok (.ineg, 1) := by decide +kernel
theorem d_jdk_35_m14_176 : decode jdk_35_method_14_code 176 = .ok (.baload, 1) := by decide +kernel
theorem d_jdk_35_m14_177 : decode jdk_35_method_14_code 177 = .ok (.bastore, 1) := by decide +kernel
theorem d_jdk_35_m14_178 : decode jdk_35_method_14_code 178 = .ok (.iload 8, 2) := by decide +kernel
theorem d_jdk_35_m14_180 : decode jdk_35_method_14_code 180 = .ok (.ifCond .eq 12, 3) := by decide +kernel
theorem d_jdk_35_m14_192 : decode jdk_35_method_14_code 192 = .ok (.iload 7, 2) := by decide +kernel
theorem d_jdk_35_m14_194 : decode jdk_35_method_14_code 194 = .ok (.ireturn, 1) := by decide +kernel
theorem d_jdk_35_m14_183 : decode jdk_35_method_14_code 183 = .ok (.aload_n 3, 1) := by decide +kernel
theorem d_jdk_35_m14_184 : decode jdk_35_method_14_code 184 = .ok (.iinc 7 (-1), 3) := by decide +kernel
theorem d_jdk_35_m14_187 : decode jdk_35_method_14_code 187 = .ok (.iload 7, 2) := by decide +kernel
theorem d_jdk_35_m14_189 : decode jdk_35_method_14_code 189 = .ok (.bipush 45, 2) := by decide +kernel
theorem d_jdk_35_m14_191 : decode jdk_35_method_14_code 191 = .ok (.bastore, 1) := by decide +kernel
theorem d_jdk_35_m14_93 : decode jdk_35_method_14_code 93 = .ok (.iload 10, 2) := by decide +kernel
theorem d_jdk_35_m14_95 : decode jdk_35_method_14_code 95 = .ok (.bipush 100, 2) := by decide +kernel
theorem d_jdk_35_m14_97 : decode jdk_35_method_14_code 97 = .ok (.idiv, 1) := by decide +kernel
theorem d_jdk_35_m14_98 : decode jdk_35_method_14_code 98 = .ok (.istore 9, 2) := by decide +kernel
theorem d_jdk_35_m14_100 : decode jdk_35_method_14_code 100 = .ok (.iload 9, 2) := by decide +kernel
theorem d_jdk_35_m14_102 : decode jdk_35_method_14_code 102 = .ok (.bipush 100, 2) := by decide +kernel
theorem d_jdk_35_m14_104 : decode jdk_35_method_14_code 104 = .ok (.imul, 1) := by decide +kernel
theorem d_jdk_35_m14_105 : decode jdk_35_method_14_code 105 = .ok (.iload 10, 2) := by decide +kernel
theorem d_jdk_35_m14_107 : decode jdk_35_method_14_code 107 = .ok (.isub, 1) := by decide +kernel
theorem d_jdk_35_m14_108 : decode jdk_35_method_14_code 108 = .ok (.istore 6, 2) := by decide +kernel
theorem d_jdk_35_m14_110 : decode jdk_35_method_14_code 110 = .ok (.iload 9, 2) := by decide +kernel
theorem d_jdk_35_m14_112 : decode jdk_35_method_14_code 112 = .ok (.istore 10, 2) := by decide +kernel
theorem d_jdk_35_m14_114 : decode jdk_35_method_14_code 114 = .ok (.aload_n 3, 1) := by decide +kernel
theorem d_jdk_35_m14_115 : decode jdk_35_method_14_code 115 = .ok (.iinc 7 (-1), 3) := by decide +kernel
theorem d_jdk_35_m14_118 : decode jdk_35_method_14_code 118 = .ok (.iload 7, 2) := by decide +kernel
theorem d_jdk_35_m14_120 : decode jdk_35_method_14_code 120 = .ok (.getstatic 133, 3) := by decide +kernel
theorem d_jdk_35_m14_123 : decode jdk_35_method_14_code 123 = .ok (.iload 6, 2) := by decide +kernel
theorem d_jdk_35_m14_125 : decode jdk_35_method_14_code 125 = .ok (.baload, 1) := by decide +kernel
theorem d_jdk_35_m14_126 : decode jdk_35_method_14_code 126 = .ok (.bastore, 1) := by decide +kernel
theorem d_jdk_35_m14_127 : decode jdk_35_method_14_code 127 = .ok (.aload_n 3, 1) := by decide +kernel
theorem d_jdk_35_m14_128 : decode jdk_35_method_14_code 128 = .ok (.iinc 7 (-1), 3) := by decide +kernel
theorem d_jdk_35_m14_131 : decode jdk_35_method_14_code 131 = .ok (.iload 7, 2) := by decide +kernel
theorem d_jdk_35_m14_133 : decode jdk_35_method_14_code 133 = .ok (.getstatic 137, 3) := by decide +kernel
theorem d_jdk_35_m14_136 : decode jdk_35_method_14_code 136 = .ok (.iload 6, 2) := by decide +kernel
theorem d_jdk_35_m14_138 : decode jdk_35_method_14_code 138 = .ok (.baload, 1) := by decide +kernel
theorem d_jdk_35_m14_139 : decode jdk_35_method_14_code 139 = .ok (.bastore, 1) := by decide +kernel
theorem d_jdk_35_m14_140 : decode jdk_35_method_14_code 140 = .ok (.goto (-54), 3) := by decide +kernel
theorem d_jdk_35_m14_24 : decode jdk_35_method_14_code 24 = .ok (.lload_n 0, 1) := by decide +kernel
theorem d_jdk_35_m14_25 : decode jdk_35_method_14_code 25 = .ok (.ldc2_w 129, 3) := by decide +kernel
theorem d_jdk_35_m14_28 : decode jdk_35_method_14_code 28 = .ok (.lcmp, 1) := by decide +kernel
theorem d_jdk_35_m14_29 : decode jdk_35_method_14_code 29 = .ok (.ifCond .gt 53, 3) := by decide +kernel
theorem d_jdk_35_m14_82 : decode jdk_35_method_14_code 82 = .ok (.lload_n 0, 1) := by decide +kernel
theorem d_jdk_35_m14_83 : decode jdk_35_method_14_code 83 = .ok (.l2i, 1) := by decide +kernel
theorem d_jdk_35_m14_84 : decode jdk_35_method_14_code 84 = .ok (.istore 10, 2) := by decide +kernel
theorem d_jdk_35_m14_32 : decode jdk_35_method_14_code 32 = .ok (.lload_n 0, 1) := by decide +kernel
theorem d_jdk_35_m14_33 : decode jdk_35_method_14_code 33 = .ok (.ldc2_w 131, 3) := by decide +kernel
theorem d_jdk_35_m14_36 : decode jdk_35_method_14_code 36 = .ok (.ldiv, 1) := by decide +kernel
theorem d_jdk_35_m14_37 : decode jdk_35_method_14_code 37 = .ok (.lstore 4, 2) := by decide +kernel
theorem d_jdk_35_m14_39 : decode jdk_35_method_14_code 39 = .ok (.lload 4, 2) := by decide +kernel
theorem d_jdk_35_m14_41 : decode jdk_35_method_14_code 41 = .ok (.ldc2_w 131, 3) := by decide +kernel
theorem d_jdk_35_m14_44 : decode jdk_35_method_14_code 44 = .ok (.lmul, 1) := by decide +kernel
theorem d_jdk_35_m14_45 : decode jdk_35_method_14_code 45 = .ok (.lload_n 0, 1) := by decide +kernel
theorem d_jdk_35_m14_46 : decode jdk_35_method_14_code 46 = .ok (.lsub, 1) := by decide +kernel
theorem d_jdk_35_m14_47 : decode jdk_35_method_14_code 47 = .ok (.l2i, 1) := by decide +kernel
theorem d_jdk_35_m14_48 : decode jdk_35_method_14_code 48 = .ok (.istore 6, 2) := by decide +kernel
theorem d_jdk_35_m14_50 : decode jdk_35_method_14_code 50 = .ok (.lload 4, 2) := by decide +kernel
theorem d_jdk_35_m14_52 : decode jdk_35_method_14_code 52 = .ok (.lstore_n 0, 1) := by decide +kernel
theorem d_jdk_35_m14_53 : decode jdk_35_method_14_code 53 = .ok (.aload_n 3, 1) := by decide +kernel
theorem d_jdk_35_m14_54 : decode jdk_35_method_14_code 54 = .ok (.iinc 7 (-1), 3) := by decide +kernel
theorem d_jdk_35_m14_57 : decode jdk_35_method_14_code 57 = .ok (.iload 7, 2) := by decide +kernel
theorem d_jdk_35_m14_59 : decode jdk_35_method_14_code 59 = .ok (.getstatic 133, 3) := by decide +kernel
theorem d_jdk_35_m14_62 : decode jdk_35_method_14_code 62 = .ok (.iload 6, 2) := by decide +kernel
theorem d_jdk_35_m14_64 : decode jdk_35_method_14_code 64 = .ok (.baload, 1) := by decide +kernel
theorem d_jdk_35_m14_65 : decode jdk_35_method_14_code 65 = .ok (.bastore, 1) := by decide +kernel
theorem d_jdk_35_m14_66 : decode jdk_35_method_14_code 66 = .ok (.aload_n 3, 1) := by decide +kernel
theorem d_jdk_35_m14_67 : decode jdk_35_method_14_code 67 = .ok (.iinc 7 (-1), 3) := by decide +kernel
theorem d_jdk_35_m14_70 : decode jdk_35_method_14_code 70 = .ok (.iload 7, 2) := by decide +kernel
theorem d_jdk_35_m14_72 : decode jdk_35_method_14_code 72 = .ok (.getstatic 137, 3) := by decide +kernel
theorem d_jdk_35_m14_75 : decode jdk_35_method_14_code 75 = .ok (.iload 6, 2) := by decide +kernel
theorem d_jdk_35_m14_77 : decode jdk_35_method_14_code 77 = .ok (.baload, 1) := by decide +kernel
theorem d_jdk_35_m14_78 : decode jdk_35_method_14_code 78 = .ok (.bastore, 1) := by decide +kernel
theorem d_jdk_35_m14_79 : decode jdk_35_method_14_code 79 = .ok (.goto (-55), 3) := by decide +kernel
theorem d_jdk_35_m14_0 : decode jdk_35_method_14_code 0 = .ok (.iload_n 2, 1) := by decide +kernel
theorem d_jdk_35_m14_1 : decode jdk_35_method_14_code 1 = .ok (.istore 7, 2) := by decide +kernel
theorem d_jdk_35_m14_3 : decode jdk_35_method_14_code 3 = .ok (.lload_n 0, 1) := by decide +kernel
theorem d_jdk_35_m14_4 : decode jdk_35_method_14_code 4 = .ok (.lconst 0, 1) := by decide +kernel
theorem d_jdk_35_m14_5 : decode jdk_35_method_14_code 5 = .ok (.lcmp, 1) := by decide +kernel
theorem d_jdk_35_m14_6 : decode jdk_35_method_14_code 6 = .ok (.ifCond .ge 7, 3) := by decide +kernel
theorem d_jdk_35_m14_9 : decode jdk_35_method_14_code 9 = .ok (.iconst 1, 1) := by decide +kernel
theorem d_jdk_35_m14_10 : decode jdk_35_method_14_code 10 = .ok (.goto 4, 3) := by decide +kernel
theorem d_jdk_35_m14_14 : decode jdk_35_method_14_code 14 = .ok (.istore 8, 2) := by decide +kernel
theorem d_jdk_35_m14_16 : decode jdk_35_method_14_code 16 = .ok (.iload 8, 2) := by decide +kernel
theorem d_jdk_35_m14_18 : decode jdk_35_method_14_code 18 = .ok (.ifCond .ne 6, 3) := by decide +kernel
theorem d_jdk_35_m14_13 : decode jdk_35_method_14_code 13 = .ok (.iconst 0, 1) := by decide +kernel
theorem d_jdk_35_m14_21 : decode jdk_35_method_14_code 21 = .ok (.lload_n 0, 1) := by decide +kernel
theorem d_jdk_35_m14_22 : decode jdk_35_method_14_code 22 = .ok (.lneg, 1) := by decide +kernel
theorem d_jdk_35_m14_23 : decode jdk_35_method_14_code 23 = .ok (.lstore_n 0, 1) := by decide +kernel
theorem d_jdk_35_m12_0 : decode jdk_35_method_12_code 0 = .ok (.lload_n 0, 1) := by decide +kernel
theorem d_jdk_35_m12_1 : decode jdk_35_method_12_code 1 = .ok (.invokestatic 118, 3) := by decide +kernel
theorem pd29 : parseMethodDescriptor "(J)I" = some ⟨[.long], some .int⟩ := by decide +kernel
theorem d_jdk_35_m12_4 : decode jdk_35_method_12_code 4 = .ok (.istore_n 2, 1) := by decide +kernel
theorem d_jdk_35_m12_5 : decode jdk_35_method_12_code 5 = .ok (.getstatic 13, 3) := by decide +kernel
theorem d_jdk_35_m12_8 : decode jdk_35_method_12_code 8 = .ok (.ifCond .eq 24, 3) := by decide +kernel
theorem d_jdk_35_m12_11 : decode jdk_35_method_12_code 11 = .ok (.iload_n 2, 1) := by decide +kernel
theorem d_jdk_35_m12_12 : decode jdk_35_method_12_code 12 = .ok (.newarray .byte, 2) := by decide +kernel
theorem d_jdk_35_m12_14 : decode jdk_35_method_12_code 14 = .ok (.astore_n 3, 1) := by decide +kernel
theorem d_jdk_35_m12_15 : decode jdk_35_method_12_code 15 = .ok (.lload_n 0, 1) := by decide +kernel
theorem d_jdk_35_m12_16 : decode jdk_35_method_12_code 16 = .ok (.iload_n 2, 1) := by decide +kernel
theorem d_jdk_35_m12_17 : decode jdk_35_method_12_code 17 = .ok (.aload_n 3, 1) := by decide +kernel
theorem d_jdk_35_m12_18 : decode jdk_35_method_12_code 18 = .ok (.invokestatic 121, 3) := by decide +kernel
theorem pd30 : parseMethodDescriptor "(JI[B)I" = some ⟨[.long, .int, (.array .byte)], some .int⟩ := by decide +kernel
theorem d_jdk_35_m12_21 : decode jdk_35_method_12_code 21 = .ok (.pop, 1) := by decide +kernel
theorem d_jdk_35_m12_22 : decode jdk_35_method_12_code 22 = .ok (.new 5, 3) := by decide +kernel
theorem d_jdk_35_m12_25 : decode jdk_35_method_12_code 25 = .ok (.dup, 1) := by decide +kernel
theorem d_jdk_35_m12_26 : decode jdk_35_method_12_code 26 = .ok (.aload_n 3, 1) := by decide +kernel
theorem d_jdk_35_m12_27 : decode jdk_35_method_12_code 27 = .ok (.iconst 0, 1) := by decide +kernel
theorem d_jdk_35_m12_28 : decode jdk_35_method_12_code 28 = .ok (.invokespecial 112, 3) := by decide +kernel
theorem d_jdk_35_m12_31 : decode jdk_35_method_12_code 31 = .ok (.areturn, 1) := by decide +kernel
theorem d_prog_3_m1_0 : decode prog_3_method_1_code 0 = .ok (.aload_n 0, 1) := by decide +kernel
theorem d_prog_3_m1_1 : decode prog_3_method_1_code 1 = .ok (.invokespecial 1, 3) := by decide +kernel
theorem pd31 : parseMethodDescriptor "()V" = some ⟨[], none⟩ := by decide +kernel
theorem d_prog_3_m1_4 : decode prog_3_method_1_code 4 = .ok (.aload_n 0, 1) := by decide +kernel
theorem d_prog_3_m1_5 : decode prog_3_method_1_code 5 = .ok (.aload_n 1, 1) := by decide +kernel
theorem d_prog_3_m1_6 : decode prog_3_method_1_code 6 = .ok (.putfield 7, 3) := by decide +kernel
theorem d_prog_3_m1_9 : decode prog_3_method_1_code 9 = .ok (.aload_n 0, 1) := by decide +kernel
theorem d_prog_3_m1_10 : decode prog_3_method_1_code 10 = .ok (.aload_n 2, 1) := by decide +kernel
theorem d_prog_3_m1_11 : decode prog_3_method_1_code 11 = .ok (.putfield 13, 3) := by decide +kernel
theorem d_prog_3_m1_14 : decode prog_3_method_1_code 14 = .ok (.return_, 1) := by decide +kernel
theorem pn32 : plainName "com/example/dutiful_pruner/dutifulpruner/collection/CollectionDocument" = true := by first | (simp [plainName, overriddenIn]; done) | decide +kernel
theorem d_prog_3_m5_0 : decode prog_3_method_5_code 0 = .ok (.aload_n 0, 1) := by decide +kernel
theorem d_prog_3_m5_1 : decode prog_3_method_5_code 1 = .ok (.getfield 7, 3) := by decide +kernel
theorem d_prog_3_m5_4 : decode prog_3_method_5_code 4 = .ok (.areturn, 1) := by decide +kernel
theorem d_prog_3_m6_0 : decode prog_3_method_6_code 0 = .ok (.aload_n 0, 1) := by decide +kernel
theorem d_prog_3_m6_1 : decode prog_3_method_6_code 1 = .ok (.getfield 13, 3) := by decide +kernel
theorem d_prog_3_m6_4 : decode prog_3_method_6_code 4 = .ok (.areturn, 1) := by decide +kernel
theorem d_prog_4_m2_0 : decode prog_4_method_2_code 0 = .ok (.aload_n 0, 1) := by decide +kernel
theorem d_prog_4_m2_1 : decode prog_4_method_2_code 1 = .ok (.bipush 9, 2) := by decide +kernel
theorem d_prog_4_m2_3 : decode prog_4_method_2_code 3 = .ok (.invokevirtual 9, 3) := by decide +kernel
theorem pd33 : parseMethodDescriptor "(I)I" = some ⟨[.int], some .int⟩ := by decide +kernel
theorem d_prog_4_m2_6 : decode prog_4_method_2_code 6 = .ok (.istore_n 3, 1) := by decide +kernel
theorem d_prog_4_m2_7 : decode prog_4_method_2_code 7 = .ok (.iload_n 3, 1) := by decide +kernel
theorem d_prog_4_m2_8 : decode prog_4_method_2_code 8 = .ok (.ifCond .ge 7, 3) := by decide +kernel
theorem d_prog_4_m2_15 : decode prog_4_method_2_code 15 = .ok (.aload_n 0, 1) := by decide +kernel
theorem d_prog_4_m2_16 : decode prog_4_method_2_code 16 = .ok (.bipush 9, 2) := by decide +kernel
theorem d_prog_4_m2_18 : decode prog_4_method_2_code 18 = .ok (.iload_n 3, 1) := by decide +kernel
theorem d_prog_4_m2_19 : decode prog_4_method_2_code 19 = .ok (.iconst 1, 1) := by decide +kernel
theorem d_prog_4_m2_20 : decode prog_4_method_2_code 20 = .ok (.iadd, 1) := by decide +kernel
theorem d_prog_4_m2_21 : decode prog_4_method_2_code 21 = .ok (.invokevirtual 15, 3) := by decide +kernel
theorem d_prog_4_m2_24 : decode prog_4_method_2_code 24 = .ok (.istore 4, 2) := by decide +kernel
theorem d_prog_4_m2_26 : decode prog_4_method_2_code 26 = .ok (.iload 4, 2) := by decide +kernel
theorem d_prog_4_m2_28 : decode prog_4_method_2_code 28 = .ok (.ifCond .ge 14, 3) := by decide +kernel
theorem d_prog_4_m2_42 : decode prog_4_method_2_code 42 = .ok (.new 25, 3) := by decide +kernel
theorem d_prog_4_m2_45 : decode prog_4_method_2_code 45 = .ok (.dup, 1) := by decide +kernel
theorem d_prog_4_m2_46 : decode prog_4_method_2_code 46 = .ok (.lload_n 1, 1) := by decide +kernel
theorem d_prog_4_m2_47 : decode prog_4_method_2_code 47 = .ok (.invokestatic 27, 3) := by decide +kernel
theorem pd34 : parseMethodDescriptor "(J)Ljava/lang/String;" = some ⟨[.long], some (.object "java/lang/String")⟩ := by decide +kernel
theorem d_prog_4_m2_50 : decode prog_4_method_2_code 50 = .ok (.aload_n 0, 1) := by decide +kernel
theorem d_prog_4_m2_51 : decode prog_4_method_2_code 51 = .ok (.iload 4, 2) := by decide +kernel
theorem d_prog_4_m2_53 : decode prog_4_method_2_code 53 = .ok (.iconst 1, 1) := by decide +kernel
theorem d_prog_4_m2_54 : decode prog_4_method_2_code 54 = .ok (.iadd, 1) := by decide +kernel
theorem d_prog_4_m2_55 : decode prog_4_method_2_code 55 = .ok (.invokevirtual 33, 3) := by decide +kernel
theorem pd35 : parseMethodDescriptor "(I)Ljava/lang/String;" = some ⟨[.int], some (.object "java/lang/String")⟩ := by decide +kernel
theorem d_prog_4_m2_58 : decode prog_4_method_2_code 58 = .ok (.invokespecial 37, 3) := by decide +kernel
theorem pd36 : parseMethodDescriptor "(Ljava/lang/String;Ljava/lang/String;)V" = some ⟨[(.object "java/lang/String"), (.object "java/lang/String")], none⟩ := by decide +kernel
theorem d_prog_4_m2_61 : decode prog_4_method_2_code 61 = .ok (.areturn, 1) := by decide +kernel
theorem pn37 : plainName "com/example/dutiful_pruner/dutifulpruner/collection/LineFileCollection" = true := by first | (simp [plainName, overriddenIn]; done) | decide +kernel
theorem d_m2_0 : decode method_2_code 0 = .ok (.lload_n 0, 1) := by decide +kernel
theorem d_m2_1 : decode method_2_code 1 = .ok (.bipush 8, 2) := by decide +kernel
theorem d_m2_3 : decode method_2_code 3 = .ok (.iload_n 2, 1) := by decide +kernel
theorem d_m2_4 : decode method_2_code 4 = .ok (.imul, 1) := by decide +kernel
theorem d_m2_5 : decode method_2_code 5 = .ok (.lushr, 1) := by decide +kernel
theorem d_m2_6 : decode method_2_code 6 = .ok (.ldc2_w 7, 3) := by decide +kernel
theorem d_m2_9 : decode method_2_code 9 = .ok (.land, 1) := by decide +kernel
theorem d_m2_10 : decode method_2_code 10 = .ok (.l2i, 1) := by decide +kernel
theorem d_m2_11 : decode method_2_code 11 = .ok (.i2c, 1) := by decide +kernel
theorem d_m2_12 : decode method_2_code 12 = .ok (.istore 5, 2) := by decide +kernel
theorem d_m2_14 : decode method_2_code 14 = .ok (.iload_n 2, 1) := by decide +kernel
theorem d_m2_15 : decode method_2_code 15 = .ok (.iload_n 3, 1) := by decide +kernel
theorem d_m2_16 : decode method_2_code 16 = .ok (.if_icmp .eq 9, 3) := by decide +kernel
theorem d_m2_25 : decode method_2_code 25 = .ok (.bipush 9, 2) := by decide +kernel
theorem d_m2_27 : decode method_2_code 27 = .ok (.ireturn, 1) := by decide +kernel
theorem d_m2_19 : decode method_2_code 19 = .ok (.iload_n 2, 1) := by decide +kernel
theorem d_m2_20 : decode method_2_code 20 = .ok (.iload 4, 2) := by decide +kernel
theorem d_m2_22 : decode method_2_code 22 = .ok (.if_icmp .ne 6, 3) := by decide +kernel
theorem d_m2_28 : decode method_2_code 28 = .ok (.iload_n 2, 1) := by decide +kernel
theorem d_m2_29 : decode method_2_code 29 = .ok (.iload 4, 2) := by decide +kernel
theorem d_m2_31 : decode method_2_code 31 = .ok (.if_icmp .ge 13, 3) := by decide +kernel
theorem d_m2_34 : decode method_2_code 34 = .ok (.iload 5, 2) := by decide +kernel
theorem d_m2_36 : decode method_2_code 36 = .ok (.bipush 9, 2) := by decide +kernel
theorem d_m2_38 : decode method_2_code 38 = .ok (.if_icmp .ne 6, 3) := by decide +kernel
theorem d_m2_41 : decode method_2_code 41 = .ok (.bipush 32, 2) := by decide +kernel
theorem d_m2_43 : decode method_2_code 43 = .ok (.ireturn, 1) := by decide +kernel
theorem d_m2_44 : decode method_2_code 44 = .ok (.iload 5, 2) := by decide +kernel
theorem d_m2_46 : decode method_2_code 46 = .ok (.ireturn, 1) := by decide +kernel
theorem pn38 : plainName "com/example/dutiful_pruner/dutifulpruner/collection/LineFileCollectionParseLinePinLaw" = true := by first | (simp [plainName, overriddenIn]; done) | decide +kernel
theorem d_m3_0 : decode method_3_code 0 = .ok (.iload 4, 2) := by decide +kernel
theorem d_m3_2 : decode method_3_code 2 = .ok (.iload_n 3, 1) := by decide +kernel
theorem d_m3_3 : decode method_3_code 3 = .ok (.if_icmp .lt 5, 3) := by decide +kernel
theorem d_m3_8 : decode method_3_code 8 = .ok (.aload_n 0, 1) := by decide +kernel
theorem d_m3_9 : decode method_3_code 9 = .ok (.iload 4, 2) := by decide +kernel
theorem d_m3_11 : decode method_3_code 11 = .ok (.invokevirtual 9, 3) := by decide +kernel
theorem pd39 : parseMethodDescriptor "(I)C" = some ⟨[.int], some .char⟩ := by decide +kernel
theorem d_m3_14 : decode method_3_code 14 = .ok (.aload_n 1, 1) := by decide +kernel
theorem d_m3_15 : decode method_3_code 15 = .ok (.iload_n 2, 1) := by decide +kernel
theorem d_m3_16 : decode method_3_code 16 = .ok (.iconst 1, 1) := by decide +kernel
theorem d_m3_17 : decode method_3_code 17 = .ok (.iadd, 1) := by decide +kernel
theorem d_m3_18 : decode method_3_code 18 = .ok (.iload 4, 2) := by decide +kernel
theorem d_m3_20 : decode method_3_code 20 = .ok (.iadd, 1) := by decide +kernel
theorem d_m3_21 : decode method_3_code 21 = .ok (.caload, 1) := by decide +kernel
theorem d_m3_22 : decode method_3_code 22 = .ok (.if_icmp .ne 7, 3) := by decide +kernel
theorem d_m3_25 : decode method_3_code 25 = .ok (.iconst 1, 1) := by decide +kernel
theorem d_m3_26 : decode method_3_code 26 = .ok (.goto 4, 3) := by decide +kernel
theorem d_m3_30 : decode method_3_code 30 = .ok (.ireturn, 1) := by decide +kernel
theorem d_m3_6 : decode method_3_code 6 = .ok (.iconst 1, 1) := by decide +kernel
theorem d_m3_7 : decode method_3_code 7 = .ok (.ireturn, 1) := by decide +kernel
theorem d_m4_12 : decode method_4_code 12 = .ok (.lstore_n 2, 1) := by decide +kernel
theorem d_m4_13 : decode method_4_code 13 = .ok (.lload_n 2, 1) := by decide +kernel
theorem d_m4_14 : decode method_4_code 14 = .ok (.ldc2_w 15, 3) := by decide +kernel
theorem d_m4_17 : decode method_4_code 17 = .ok (.lcmp, 1) := by decide +kernel
theorem d_m4_18 : decode method_4_code 18 = .ok (.ifCond .le 5, 3) := by decide +kernel
theorem d_m4_21 : decode method_4_code 21 = .ok (.iconst 1, 1) := by decide +kernel
theorem d_m4_22 : decode method_4_code 22 = .ok (.ireturn, 1) := by decide +kernel
theorem d_m4_23 : decode method_4_code 23 = .ok (.lload_n 2, 1) := by decide +kernel
theorem d_m4_24 : decode method_4_code 24 = .ok (.ldc2_w 17, 3) := by decide +kernel
theorem d_m4_27 : decode method_4_code 27 = .ok (.lcmp, 1) := by decide +kernel
theorem d_m4_28 : decode method_4_code 28 = .ok (.ifCond .le 5, 3) := by decide +kernel
theorem d_m4_31 : decode method_4_code 31 = .ok (.iconst 2, 1) := by decide +kernel
theorem d_m4_32 : decode method_4_code 32 = .ok (.ireturn, 1) := by decide +kernel
theorem d_m4_33 : decode method_4_code 33 = .ok (.lload_n 2, 1) := by decide +kernel
theorem d_m4_34 : decode method_4_code 34 = .ok (.ldc2_w 19, 3) := by decide +kernel
theorem d_m4_37 : decode method_4_code 37 = .ok (.lcmp, 1) := by decide +kernel
theorem d_m4_38 : decode method_4_code 38 = .ok (.ifCond .le 5, 3) := by decide +kernel
theorem d_m4_41 : decode method_4_code 41 = .ok (.iconst 3, 1) := by decide +kernel
theorem d_m4_42 : decode method_4_code 42 = .ok (.ireturn, 1) := by decide +kernel
theorem d_m4_43 : decode method_4_code 43 = .ok (.lload_n 2, 1) := by decide +kernel
theorem d_m4_44 : decode method_4_code 44 = .ok (.ldc2_w 21, 3) := by decide +kernel
theorem d_m4_47 : decode method_4_code 47 = .ok (.lcmp, 1) := by decide +kernel
theorem d_m4_48 : decode method_4_code 48 = .ok (.ifCond .le 5, 3) := by decide +kernel
theorem d_m4_51 : decode method_4_code 51 = .ok (.iconst 4, 1) := by decide +kernel
theorem d_m4_52 : decode method_4_code 52 = .ok (.ireturn, 1) := by decide +kernel
theorem d_m4_53 : decode method_4_code 53 = .ok (.lload_n 2, 1) := by decide +kernel
theorem d_m4_54 : decode method_4_code 54 = .ok (.ldc2_w 23, 3) := by decide +kernel
theorem d_m4_57 : decode method_4_code 57 = .ok (.lcmp, 1) := by decide +kernel
theorem d_m4_58 : decode method_4_code 58 = .ok (.ifCond .le 5, 3) := by decide +kernel
theorem d_m4_61 : decode method_4_code 61 = .ok (.iconst 5, 1) := by decide +kernel
theorem d_m4_62 : decode method_4_code 62 = .ok (.ireturn, 1) := by decide +kernel
theorem d_m4_63 : decode method_4_code 63 = .ok (.lload_n 2, 1) := by decide +kernel
theorem d_m4_64 : decode method_4_code 64 = .ok (.ldc2_w 25, 3) := by decide +kernel
theorem d_m4_67 : decode method_4_code 67 = .ok (.lcmp, 1) := by decide +kernel
theorem d_m4_68 : decode method_4_code 68 = .ok (.ifCond .le 6, 3) := by decide +kernel
theorem d_m4_71 : decode method_4_code 71 = .ok (.bipush 6, 2) := by decide +kernel
theorem d_m4_73 : decode method_4_code 73 = .ok (.ireturn, 1) := by decide +kernel
theorem d_m4_74 : decode method_4_code 74 = .ok (.lload_n 2, 1) := by decide +kernel
theorem d_m4_75 : decode method_4_code 75 = .ok (.ldc2_w 27, 3) := by decide +kernel
theorem d_m4_78 : decode method_4_code 78 = .ok (.lcmp, 1) := by decide +kernel
theorem d_m4_79 : decode method_4_code 79 = .ok (.ifCond .le 6, 3) := by decide +kernel
theorem d_m4_82 : decode method_4_code 82 = .ok (.bipush 7, 2) := by decide +kernel
theorem d_m4_84 : decode method_4_code 84 = .ok (.ireturn, 1) := by decide +kernel
theorem d_m4_85 : decode method_4_code 85 = .ok (.lload_n 2, 1) := by decide +kernel
theorem d_m4_86 : decode method_4_code 86 = .ok (.ldc2_w 29, 3) := by decide +kernel
theorem d_m4_89 : decode method_4_code 89 = .ok (.lcmp, 1) := by decide +kernel
theorem d_m4_90 : decode method_4_code 90 = .ok (.ifCond .le 6, 3) := by decide +kernel
theorem d_m4_93 : decode method_4_code 93 = .ok (.bipush 8, 2) := by decide +kernel
theorem d_m4_95 : decode method_4_code 95 = .ok (.ireturn, 1) := by decide +kernel
theorem d_m4_96 : decode method_4_code 96 = .ok (.lload_n 2, 1) := by decide +kernel
theorem d_m4_97 : decode method_4_code 97 = .ok (.ldc2_w 31, 3) := by decide +kernel
theorem d_m4_100 : decode method_4_code 100 = .ok (.lcmp, 1) := by decide +kernel
theorem d_m4_101 : decode method_4_code 101 = .ok (.ifCond .le 6, 3) := by decide +kernel
theorem d_m4_104 : decode method_4_code 104 = .ok (.bipush 9, 2) := by decide +kernel
theorem d_m4_106 : decode method_4_code 106 = .ok (.ireturn, 1) := by decide +kernel
theorem d_m4_107 : decode method_4_code 107 = .ok (.lload_n 2, 1) := by decide +kernel
theorem d_m4_108 : decode method_4_code 108 = .ok (.ldc2_w 33, 3) := by decide +kernel
theorem d_m4_111 : decode method_4_code 111 = .ok (.lcmp, 1) := by decide +kernel
theorem d_m4_112 : decode method_4_code 112 = .ok (.ifCond .le 6, 3) := by decide +kernel
theorem d_m4_115 : decode method_4_code 115 = .ok (.bipush 10, 2) := by decide +kernel
theorem d_m4_117 : decode method_4_code 117 = .ok (.ireturn, 1) := by decide +kernel
theorem d_m4_118 : decode method_4_code 118 = .ok (.lload_n 2, 1) := by decide +kernel
theorem d_m4_119 : decode method_4_code 119 = .ok (.ldc2_w 35, 3) := by decide +kernel
theorem d_m4_122 : decode method_4_code 122 = .ok (.lcmp, 1) := by decide +kernel
theorem d_m4_123 : decode method_4_code 123 = .ok (.ifCond .le 6, 3) := by decide +kernel
theorem d_m4_126 : decode method_4_code 126 = .ok (.bipush 11, 2) := by decide +kernel
theorem d_m4_128 : decode method_4_code 128 = .ok (.ireturn, 1) := by decide +kernel
theorem d_m4_129 : decode method_4_code 129 = .ok (.lload_n 2, 1) := by decide +kernel
theorem d_m4_130 : decode method_4_code 130 = .ok (.ldc2_w 37, 3) := by decide +kernel
theorem d_m4_133 : decode method_4_code 133 = .ok (.lcmp, 1) := by decide +kernel
theorem d_m4_134 : decode method_4_code 134 = .ok (.ifCond .le 6, 3) := by decide +kernel
theorem d_m4_137 : decode method_4_code 137 = .ok (.bipush 12, 2) := by decide +kernel
theorem d_m4_139 : decode method_4_code 139 = .ok (.ireturn, 1) := by decide +kernel
theorem d_m4_140 : decode method_4_code 140 = .ok (.lload_n 2, 1) := by decide +kernel
theorem d_m4_141 : decode method_4_code 141 = .ok (.ldc2_w 39, 3) := by decide +kernel
theorem d_m4_144 : decode method_4_code 144 = .ok (.lcmp, 1) := by decide +kernel
theorem d_m4_145 : decode method_4_code 145 = .ok (.ifCond .le 6, 3) := by decide +kernel
theorem d_m4_148 : decode method_4_code 148 = .ok (.bipush 13, 2) := by decide +kernel
theorem d_m4_150 : decode method_4_code 150 = .ok (.ireturn, 1) := by decide +kernel
theorem d_m4_151 : decode method_4_code 151 = .ok (.lload_n 2, 1) := by decide +kernel
theorem d_m4_152 : decode method_4_code 152 = .ok (.ldc2_w 41, 3) := by decide +kernel
theorem d_m4_155 : decode method_4_code 155 = .ok (.lcmp, 1) := by decide +kernel
theorem d_m4_156 : decode method_4_code 156 = .ok (.ifCond .le 6, 3) := by decide +kernel
theorem d_m4_159 : decode method_4_code 159 = .ok (.bipush 14, 2) := by decide +kernel
theorem d_m4_161 : decode method_4_code 161 = .ok (.ireturn, 1) := by decide +kernel
theorem d_m4_162 : decode method_4_code 162 = .ok (.lload_n 2, 1) := by decide +kernel
theorem d_m4_163 : decode method_4_code 163 = .ok (.ldc2_w 43, 3) := by decide +kernel
theorem d_m4_166 : decode method_4_code 166 = .ok (.lcmp, 1) := by decide +kernel
theorem d_m4_167 : decode method_4_code 167 = .ok (.ifCond .le 6, 3) := by decide +kernel
theorem d_m4_170 : decode method_4_code 170 = .ok (.bipush 15, 2) := by decide +kernel
theorem d_m4_172 : decode method_4_code 172 = .ok (.ireturn, 1) := by decide +kernel
theorem d_m4_173 : decode method_4_code 173 = .ok (.lload_n 2, 1) := by decide +kernel
theorem d_m4_174 : decode method_4_code 174 = .ok (.ldc2_w 45, 3) := by decide +kernel
theorem d_m4_177 : decode method_4_code 177 = .ok (.lcmp, 1) := by decide +kernel
theorem d_m4_178 : decode method_4_code 178 = .ok (.ifCond .le 6, 3) := by decide +kernel
theorem d_m4_181 : decode method_4_code 181 = .ok (.bipush 16, 2) := by decide +kernel
theorem d_m4_183 : decode method_4_code 183 = .ok (.ireturn, 1) := by decide +kernel
theorem d_m4_184 : decode method_4_code 184 = .ok (.lload_n 2, 1) := by decide +kernel
theorem d_m4_185 : decode method_4_code 185 = .ok (.ldc2_w 47, 3) := by decide +kernel
theorem d_m4_188 : decode method_4_code 188 = .ok (.lcmp, 1) := by decide +kernel
theorem d_m4_189 : decode method_4_code 189 = .ok (.ifCond .le 6, 3) := by decide +kernel
theorem d_m4_192 : decode method_4_code 192 = .ok (.bipush 17, 2) := by decide +kernel
theorem d_m4_194 : decode method_4_code 194 = .ok (.ireturn, 1) := by decide +kernel
theorem d_m4_195 : decode method_4_code 195 = .ok (.lload_n 2, 1) := by decide +kernel
theorem d_m4_196 : decode method_4_code 196 = .ok (.ldc2_w 49, 3) := by decide +kernel
theorem d_m4_199 : decode method_4_code 199 = .ok (.lcmp, 1) := by decide +kernel
theorem d_m4_200 : decode method_4_code 200 = .ok (.ifCond .le 6, 3) := by decide +kernel
theorem d_m4_203 : decode method_4_code 203 = .ok (.bipush 18, 2) := by decide +kernel
theorem d_m4_205 : decode method_4_code 205 = .ok (.ireturn, 1) := by decide +kernel
theorem d_m4_206 : decode method_4_code 206 = .ok (.bipush 19, 2) := by decide +kernel
theorem d_m4_208 : decode method_4_code 208 = .ok (.ireturn, 1) := by decide +kernel
theorem d_m4_0 : decode method_4_code 0 = .ok (.lload_n 0, 1) := by decide +kernel
theorem d_m4_1 : decode method_4_code 1 = .ok (.lconst 0, 1) := by decide +kernel
theorem d_m4_2 : decode method_4_code 2 = .ok (.lcmp, 1) := by decide +kernel
theorem d_m4_3 : decode method_4_code 3 = .ok (.ifCond .ge 7, 3) := by decide +kernel
theorem d_m4_6 : decode method_4_code 6 = .ok (.lload_n 0, 1) := by decide +kernel
theorem d_m4_7 : decode method_4_code 7 = .ok (.goto 5, 3) := by decide +kernel
theorem d_m4_10 : decode method_4_code 10 = .ok (.lload_n 0, 1) := by decide +kernel
theorem d_m4_11 : decode method_4_code 11 = .ok (.lneg, 1) := by decide +kernel
theorem d_m5_0 : decode method_5_code 0 = .ok (.iload 6, 2) := by decide +kernel
theorem d_m5_2 : decode method_5_code 2 = .ok (.iload_n 3, 1) := by decide +kernel
theorem d_m5_3 : decode method_5_code 3 = .ok (.iload 4, 2) := by decide +kernel
theorem d_m5_5 : decode method_5_code 5 = .ok (.iadd, 1) := by decide +kernel
theorem d_m5_6 : decode method_5_code 6 = .ok (.if_icmp .lt 5, 3) := by decide +kernel
theorem d_m5_11 : decode method_5_code 11 = .ok (.iload 6, 2) := by decide +kernel
theorem d_m5_13 : decode method_5_code 13 = .ok (.iload_n 3, 1) := by decide +kernel
theorem d_m5_14 : decode method_5_code 14 = .ok (.if_icmp .ge 20, 3) := by decide +kernel
theorem d_m5_17 : decode method_5_code 17 = .ok (.aload_n 0, 1) := by decide +kernel
theorem d_m5_18 : decode method_5_code 18 = .ok (.iload 6, 2) := by decide +kernel
theorem d_m5_20 : decode method_5_code 20 = .ok (.invokevirtual 9, 3) := by decide +kernel
theorem d_m5_23 : decode method_5_code 23 = .ok (.bipush 45, 2) := by decide +kernel
theorem d_m5_25 : decode method_5_code 25 = .ok (.if_icmp .ne 7, 3) := by decide +kernel
theorem d_m5_28 : decode method_5_code 28 = .ok (.iconst 1, 1) := by decide +kernel
theorem d_m5_29 : decode method_5_code 29 = .ok (.goto 4, 3) := by decide +kernel
theorem d_m5_33 : decode method_5_code 33 = .ok (.ireturn, 1) := by decide +kernel
theorem d_m5_34 : decode method_5_code 34 = .ok (.iload 6, 2) := by decide +kernel
theorem d_m5_36 : decode method_5_code 36 = .ok (.iload_n 3, 1) := by decide +kernel
theorem d_m5_37 : decode method_5_code 37 = .ok (.isub, 1) := by decide +kernel
theorem d_m5_38 : decode method_5_code 38 = .ok (.istore 7, 2) := by decide +kernel
theorem d_m5_40 : decode method_5_code 40 = .ok (.lload_n 1, 1) := by decide +kernel
theorem d_m5_41 : decode method_5_code 41 = .ok (.aload 5, 2) := by decide +kernel
theorem d_m5_43 : decode method_5_code 43 = .ok (.iload 4, 2) := by decide +kernel
theorem d_m5_45 : decode method_5_code 45 = .ok (.iconst 1, 1) := by decide +kernel
theorem d_m5_46 : decode method_5_code 46 = .ok (.isub, 1) := by decide +kernel
theorem d_m5_47 : decode method_5_code 47 = .ok (.iload 7, 2) := by decide +kernel
theorem d_m5_49 : decode method_5_code 49 = .ok (.isub, 1) := by decide +kernel
theorem d_m5_50 : decode method_5_code 50 = .ok (.laload, 1) := by decide +kernel
theorem d_m5_51 : decode method_5_code 51 = .ok (.ldiv, 1) := by decide +kernel
theorem d_m5_52 : decode method_5_code 52 = .ok (.ldc2_w 51, 3) := by decide +kernel
theorem d_m5_55 : decode method_5_code 55 = .ok (.lrem, 1) := by decide +kernel
theorem d_m5_56 : decode method_5_code 56 = .ok (.lstore 8, 2) := by decide +kernel
theorem d_m5_58 : decode method_5_code 58 = .ok (.aload_n 0, 1) := by decide +kernel
theorem d_m5_59 : decode method_5_code 59 = .ok (.iload 6, 2) := by decide +kernel
theorem d_m5_61 : decode method_5_code 61 = .ok (.invokevirtual 9, 3) := by decide +kernel
theorem d_m5_64 : decode method_5_code 64 = .ok (.bipush 48, 2) := by decide +kernel
theorem d_m5_66 : decode method_5_code 66 = .ok (.lload 8, 2) := by decide +kernel
theorem d_m5_68 : decode method_5_code 68 = .ok (.invokestatic 53, 3) := by decide +kernel
theorem pd40 : parseMethodDescriptor "(J)J" = some ⟨[.long], some .long⟩ := by decide +kernel
theorem d_m5_71 : decode method_5_code 71 = .ok (.l2i, 1) := by decide +kernel
theorem d_m5_72 : decode method_5_code 72 = .ok (.iadd, 1) := by decide +kernel
theorem d_m5_73 : decode method_5_code 73 = .ok (.i2c, 1) := by decide +kernel
theorem d_m5_74 : decode method_5_code 74 = .ok (.if_icmp .ne 7, 3) := by decide +kernel
theorem d_m5_77 : decode method_5_code 77 = .ok (.iconst 1, 1) := by decide +kernel
theorem d_m5_78 : decode method_5_code 78 = .ok (.goto 4, 3) := by decide +kernel
theorem d_m5_82 : decode method_5_code 82 = .ok (.ireturn, 1) := by decide +kernel
theorem d_m5_9 : decode method_5_code 9 = .ok (.iconst 1, 1) := by decide +kernel
theorem d_m5_10 : decode method_5_code 10 = .ok (.ireturn, 1) := by decide +kernel
theorem pd41 : parseMethodDescriptor "(JIII)C" = some ⟨[.long, .int, .int, .int], some .char⟩ := by decide +kernel
theorem pd42 : parseMethodDescriptor "([C)V" = some ⟨[(.array .char)], none⟩ := by decide +kernel
theorem pd43 : parseMethodDescriptor "(Ljava/lang/String;J)Lcom/example/dutiful_pruner/dutifulpruner/collection/CollectionDocument;" = some ⟨[(.object "java/lang/String"), .long], some (.object "com/example/dutiful_pruner/dutifulpruner/collection/CollectionDocument")⟩ := by decide +kernel
theorem pd44 : parseMethodDescriptor "()Ljava/lang/String;" = some ⟨[], some (.object "java/lang/String")⟩ := by decide +kernel
theorem pd45 : parseMethodDescriptor "(Ljava/lang/String;[CIII)Z" = some ⟨[(.object "java/lang/String"), (.array .char), .int, .int, .int], some .boolean⟩ := by decide +kernel
theorem pd46 : parseMethodDescriptor "(Ljava/lang/String;JII[JI)Z" = some ⟨[(.object "java/lang/String"), .long, .int, .int, (.array .long), .int], some .boolean⟩ := by decide +kernel

theorem lat0 : Lat [] := fun _ q => nomatch q
theorem latS {c : Int32} {cs : List Int32} (h : 0 ≤ c.toInt ∧ c.toInt ≤ 255) (L : Lat cs) : Lat (c :: cs) := fun x q => (List.mem_cons.mp q).elim (fun z => z ▸ h) (L x)
theorem m255 (x : Int32) : 0 ≤ (x &&& (255 : Int32)).toInt ∧ (x &&& (255 : Int32)).toInt ≤ 255 := c_and x 255 (by decide)
theorem t32s (i : Nat) : i.toInt32 + 1 = (i + 1).toInt32 := by
  show Int32.ofNat i + 1 = Int32.ofNat (i + 1)
  rw [Int32.ofNat_add]; rfl
theorem lo8_lo8 (x : Int32) : nar .byte x.toInt8.toInt32 = x.toInt8.toInt32 := by simp [nar]
theorem ge255 {cs : List Int32} (L : Lat cs) {i : Nat} (hi : i < cs.length) : ¬ (255 : Int32) < cs[i] := by
  have := (L _ (List.getElem_mem hi)).2
  rw [Int32.lt_iff_toInt_lt]; have e : (255 : Int32).toInt = 255 := rfl; omega
theorem cmp_set {cs : List Int32} {vs : List Value} {i : Nat} (hi : i < cs.length) (hv : vs.length = cs.length) : (by8 (cs.take i) ++ vs.drop i).set i (.int cs[i].toInt8.toInt32) = by8 (cs.take (i + 1)) ++ vs.drop (i + 1) := by
  have h1 : (by8 (cs.take i)).length = i := by simp; omega
  rw [List.set_append_right _ _ (by omega), h1, Nat.sub_self, List.drop_eq_getElem_cons (by omega : i < vs.length), List.set_cons_zero, List.take_succ_eq_append_getElem hi]
  simp only [by8, List.map_append, List.map_cons, List.map_nil, List.append_assoc, List.cons_append, List.nil_append]
theorem lt32 {a b : Nat} (ha : a < 2 ^ 31) (hb : b < 2 ^ 31) : a.toInt32 < b.toInt32 ↔ a < b := by
  rw [Int32.lt_iff_toInt_lt, (len32 ha).2.2, (len32 hb).2.2]; omega
theorem eq32 {a b : Nat} (ha : a < 2 ^ 31) (hb : b < 2 ^ 31) : a.toInt32 = b.toInt32 ↔ a = b := by
  rw [← Int32.toInt_inj, (len32 ha).2.2, (len32 hb).2.2]; omega

theorem shr0 (x : Int32) : x >>> ((0 : Int32) &&& 31) = x := by
  have e : (0 : Int32) &&& 31 = 0 := by decide
  rw [e]; simp
theorem lo8m {x : Int32} (h : 0 ≤ x.toInt ∧ x.toInt ≤ 255) : x.toInt8.toInt32 &&& (255 : Int32) = x := by
  apply Int32.toInt_inj.mp
  have e1 := c_mask x.toInt8.toInt32 255 8 (by decide) (by decide)
  rw [e1]
  have e2 := c_i2b x
  omega
theorem i2cx {x : Int32} (h : 0 ≤ x.toInt ∧ x.toInt ≤ 65535) : x.toUInt32.toUInt16.toUInt32.toInt32 = x := by
  apply Int32.toInt_inj.mp
  have e2 := c_i2c x
  omega
theorem narc {x : Int32} (h : 0 ≤ x.toInt ∧ x.toInt ≤ 65535) : narrow .char (.int x) = .int x := by
  show Value.int _ = _
  rw [i2cx h]
theorem Own.Lat.at {cs : List Int32} (L : Lat cs) {i : Nat} (hi : i < cs.length) : 0 ≤ (cs.getD i 0).toInt ∧ (cs.getD i 0).toInt ≤ 255 := by
  rw [List.getD_eq_getElem?_getD, List.getElem?_eq_getElem hi]; exact L _ (List.getElem_mem hi)
theorem to16 {x : Int} (h : 0 ≤ x ∧ x ≤ 255) : 0 ≤ x ∧ x ≤ 65535 := by omega
theorem by8_at {cs : List Int32} {i : Nat} (hi : i < cs.length) : (by8 cs)[i.toInt32.toNatClampNeg]? = some (.int (cs.getD i 0).toInt8.toInt32) ↔ i.toInt32.toNatClampNeg = i ∨ (by8 cs)[i.toInt32.toNatClampNeg]? = some (.int (cs.getD i 0).toInt8.toInt32) := by
  constructor
  · exact Or.inr
  · rintro (h | h)
    · rw [h]; simp [hi]
    · exact h
theorem by8_get {cs : List Int32} {i : Nat} (hi : i < cs.length) (hl : cs.length < 2 ^ 31) : (by8 cs)[i.toInt32.toNatClampNeg]? = some (.int (cs.getD i 0).toInt8.toInt32) := (by8_at hi).mpr (Or.inl (len32 (by omega)).2.1)
theorem lo8_inj {x y : Int32} (h : 0 ≤ x.toInt ∧ x.toInt ≤ 255) (h' : 0 ≤ y.toInt ∧ y.toInt ≤ 255) (q : x.toInt8.toInt32 = y.toInt8.toInt32) : x = y := by
  rw [← lo8m h, ← lo8m h', q]
theorem take_step {cs ds : List Int32} {i : Nat} (h : cs.take i = ds.take i) (hi : i < cs.length) (hj : i < ds.length) (e : cs.getD i 0 = ds.getD i 0) : cs.take (i + 1) = ds.take (i + 1) := by
  rw [List.take_succ_eq_append_getElem hi, List.take_succ_eq_append_getElem hj, h]
  rw [List.getD_eq_getElem?_getD, List.getElem?_eq_getElem hi, List.getD_eq_getElem?_getD, List.getElem?_eq_getElem hj] at e
  have e' : cs[i] = ds[i] := e
  rw [e']
theorem ite1 {P : Prop} [Decidable P] (h : P) : (1 : Int32) = if P then 1 else 0 := (if_pos h).symm
theorem ite0 {P : Prop} [Decidable P] (h : ¬ P) : (0 : Int32) = if P then 1 else 0 := (if_neg h).symm
theorem narb {P : Prop} [Decidable P] : narrow .boolean (.int (if P then (1 : Int32) else 0)) = .int (if P then (1 : Int32) else 0) := by split <;> decide


theorem shl0 (x : Int32) : x <<< ((0 : Int32) &&& 31) = x := by
  have e : (0 : Int32) &&& 31 = 0 := by decide
  rw [e]; simp
theorem sub32 {a b : Nat} (h : b ≤ a) (ha : a < 2 ^ 31) : a.toInt32 - b.toInt32 = (a - b).toInt32 := by
  apply Int32.toInt_inj.mp
  have e1 := c_isub a.toInt32 b.toInt32
  have e2 := rng32 (a.toInt32 - b.toInt32)
  rw [(len32 (show a < 2 ^ 31 by omega)).2.2, (len32 (show b < 2 ^ 31 by omega)).2.2] at e1
  rw [(len32 (show a - b < 2 ^ 31 by omega)).2.2]; omega
theorem add32 {a b : Nat} (h : a + b < 2 ^ 31) : a.toInt32 + b.toInt32 = (a + b).toInt32 := by
  apply Int32.toInt_inj.mp
  have e1 := c_iadd a.toInt32 b.toInt32
  have e2 := rng32 (a.toInt32 + b.toInt32)
  rw [(len32 (show a < 2 ^ 31 by omega)).2.2, (len32 (show b < 2 ^ 31 by omega)).2.2] at e1
  rw [(len32 h).2.2]; omega
theorem sub32n {a b : Nat} (h : a ≤ b) (ha : a < 2 ^ 31) (hb : b < 2 ^ 31) : ¬ (0 : Int32) < a.toInt32 - b.toInt32 := by
  rw [Int32.lt_iff_toInt_lt]
  have e1 := c_isub a.toInt32 b.toInt32
  have e2 := rng32 (a.toInt32 - b.toInt32)
  rw [(len32 ha).2.2, (len32 hb).2.2] at e1
  have e0 : (0 : Int32).toInt = 0 := rfl
  omega
theorem pos32 {a : Nat} (h : 0 < a) (ha : a < 2 ^ 31) : (0 : Int32) < a.toInt32 := by
  rw [Int32.lt_iff_toInt_lt, (len32 ha).2.2]; have e0 : (0 : Int32).toInt = 0 := rfl; omega
theorem lat_app {cs ds : List Int32} (L : Lat cs) (M : Lat ds) : Lat (cs ++ ds) := fun c hc => (List.mem_append.mp hc).elim (L c) (M c)
theorem sbc {Z : State} {h : Heap} {a v : Addr} {cs cs' : List Int32} {cap cap' : Nat} (F : Sb Z h a v cs cap) (e : cs = cs') (e' : cap = cap') : Sb Z h a v cs' cap' := by subst e e'; exact F
/-- what a builder's array grows to -/
def grow (cap need : Nat) : Nat := if need ≤ cap then cap else cap + max (need - cap) (cap + 2)
theorem grow_le (cap need : Nat) : need ≤ grow cap need := by unfold grow; split <;> omega
theorem cap_le (cap need : Nat) : cap ≤ grow cap need := by unfold grow; split <;> omega
theorem sb_take {us : List Value} {cs ds : List Int32} (h1 : cs.length ≤ us.length) (h2 : cs.length + ds.length ≤ us.length) (h3 : us.take cs.length = by8 cs) : (us.take cs.length ++ ((by8 ds).drop 0).take ds.length ++ us.drop (cs.length + ds.length)).take (cs ++ ds).length = by8 (cs ++ ds) := by
  have e : ((by8 ds).drop 0).take ds.length = by8 ds := by rw [List.drop_zero, List.take_of_length_le (by simp)]
  rw [e, h3, List.take_append_of_le_length (by simp), List.take_of_length_le (by simp)]
  simp
theorem take_cop {us vs : List Value} {j n : Nat} (hn : n = vs.length) (hj : j + n ≤ us.length) {m : Nat} (hm : m = j + n) : (us.take j ++ (vs.drop 0).take n ++ us.drop m).take m = us.take j ++ vs := by
  subst hm hn
  rw [List.drop_zero, List.take_of_length_le (Nat.le_refl _), List.take_append_of_le_length (by simp; omega), List.take_of_length_le (by simp; omega)]

theorem dig_start {Z : State} {args : Array Value} {t F : Term} {a : Addr} {g : Nat → Int32} (et : ∀ idx, t.eval args Z none idx Z = some (.ref a)) (w0 : (Jvm.Cond.arrayClass .byte).before args Z = true) (w1 : (Jvm.Cond.exactly t "[B").before args Z = true) (w2 : (Jvm.Cond.eq (.length t) (.int 100)).value args Z none Z [] = some true) (w3 : (Jvm.Cond.all t (.eq (.elem t (.index 0)) F)).value args Z none Z [] = some true)
    (hF : ∀ i, i < 100 → F.eval args Z none [i] Z = some (.int (g i))) (hg : ∀ i, i < 100 → fits .byte (.int (g i)) = true) : Ar Z Z.heap a .byte ((List.range 100).map fun r => .int (g r)) := by
  obtain ⟨c, k, comp, hf, hk, hkind⟩ := Cond.arrayClass_spec w0
  obtain ⟨a', c', cell, k', e1, f1, hc, hk', hst, hcls, -⟩ := Cond.exactly_spec w1
  cases (et []).symm.trans e1
  have eB : ("[" ++ FieldType.byte.toString) = "[B" := by decide
  rw [eB] at hf
  cases hf.symm.trans f1
  cases hk.symm.trans hk'
  have hl : (Term.length t).eval args Z none [] Z = some (.int 100) := eqv_i (Term.int_eval 100) w2
  obtain ⟨c2, ha2⟩ : ∃ c2, Z.arrayAt? a = some c2 := by
    cases q : Z.arrayAt? a with
    | none => simp [Term.eval, et, q] at hl
    | some c2 => exact ⟨c2, rfl⟩
  have hu : cell.vm ≠ .unknown := fun z => by simp [State.arrayAt?, hc, hcls, hk, z] at ha2
  have A : Arr Z Z.heap a cell .byte := ⟨hc, ⟨(fun k z => by rw [z] at hst; cases hst), k, by rw [hcls]; exact hk, comp, hkind⟩, hu⟩
  have ha : Z.arrayAt? a = some cell := A.fin (Vm.Alike.refl _)
  have hs : cell.slots.size < 2 ^ 31 := by
    by_cases q : cell.slots.size < 2 ^ 31
    · exact q
    · have q' : ¬ cell.slots.size < 2147483648 := q
      simp [Term.eval, et, ha, q'] at hl
  have e : cell.slots.size.toInt32 = 100 := by
    have h := len_f (et []) ha hs
    rw [hl] at h
    injection h with h; injection h with h; exact h.symm
  have hn : cell.slots.size = 100 := by
    have h := (len32 hs).2.2
    rw [e] at h
    have e2 : (100 : Int32).toInt = 100 := rfl
    omega
  have get : ∀ i, i < 100 → cell.slots[i]? = some (.int (g i)) := fun i hi => by
    have h := len32 (n := i) (by omega)
    have u := Cond.all_elim (et []) ha w3 i (by omega)
    have v := eqv_i (hF i hi) u
    rw [elem_f (et _) (show (Term.index 0).eval args Z none [i] Z = some (.int i.toInt32) from rfl) ha h.1, h.2.1] at v
    exact v
  refine ⟨cell, A, List.ext_getElem? fun i => ?_, by simp, fun v hv => ?_⟩
  · by_cases q : i < 100
    · rw [Array.getElem?_toList, get i q, List.getElem?_map, List.getElem?_range q]; rfl
    · rw [List.getElem?_eq_none (by rw [Array.length_toList]; omega), List.getElem?_eq_none (by simp; omega)]
  · obtain ⟨i, hi, rfl⟩ := List.mem_map.mp hv
    exact hg i (List.mem_range.mp hi)
theorem ones_eq : ∀ r, r < 100 → (48 : Int32) + r.toInt32 % 10 = dgc r := by decide +kernel
theorem tens_eq : ∀ r, r < 100 → (48 : Int32) + r.toInt32 / 10 = dgc (r / 10) := by decide +kernel
theorem ones_get {r : Nat} (h : r < 100) : ones[r.toInt32.toNatClampNeg]? = some (.int (dgc r)) := by
  rw [(len32 (by omega)).2.1, ones, List.getElem?_map, List.getElem?_range h, ← ones_eq r h]; rfl
theorem tens_get {r : Nat} (h : r < 100) : tens[r.toInt32.toNatClampNeg]? = some (.int (dgc (r / 10))) := by
  rw [(len32 (by omega)).2.1, tens, List.getElem?_map, List.getElem?_range h, ← tens_eq r h]; rfl
theorem dgc_mod (m : Nat) : dgc (m % 100) = dgc m := by unfold dgc; rw [show m % 100 % 10 = m % 10 by omega]
theorem dgc_mod2 (m : Nat) : dgc (m % 100 / 10) = dgc (m / 10) := by unfold dgc; rw [show m % 100 / 10 % 10 = m / 10 % 10 by omega]
theorem dgc_rng (m : Nat) : 48 ≤ (dgc m).toInt ∧ (dgc m).toInt ≤ 57 := by
  unfold dgc; rw [(len32 (by omega)).2.2]; omega
def digs (n : Nat) : List Int32 := if n < 10 then [dgc n] else digs (n / 10) ++ [dgc n]
decreasing_by omega
theorem digs_1 {n : Nat} (h : n < 10) : digs n = [dgc n] := by rw [digs, if_pos h]
theorem digs_s {n : Nat} (h : ¬ n < 10) : digs n = digs (n / 10) ++ [dgc n] := by rw [digs, if_neg h]
theorem digs_2 {n : Nat} (h : ¬ n < 10) (h2 : n < 100) : digs n = [dgc (n / 10), dgc n] := by rw [digs_s h, digs_1 (by omega)]; rfl
theorem digs_3 {n : Nat} (h : 100 ≤ n) : digs n = digs (n / 100) ++ [dgc (n / 10), dgc n] := by
  rw [digs_s (by omega), digs_s (n := n / 10) (by omega), show n / 10 / 10 = n / 100 by omega, List.append_assoc]; rfl
theorem digs_pos (n : Nat) : 0 < (digs n).length := by
  by_cases h : n < 10
  · rw [digs_1 h]; simp
  · rw [digs_s h]; simp
theorem digs_lt (n : Nat) : ∀ i, 1 ≤ i → (n < 10 ^ i ↔ (digs n).length ≤ i) := by
  induction n using Nat.strongRecOn with
  | ind n ih =>
    intro i hi
    by_cases h : n < 10
    · rw [digs_1 h]
      have : 10 ^ 1 ≤ 10 ^ i := Nat.pow_le_pow_right (by decide) hi
      constructor
      · intro _; simpa using hi
      · intro _; omega
    · have hp := digs_pos (n / 10)
      rw [digs_s h, List.length_append]
      by_cases h1 : i = 1
      · subst h1
        constructor
        · intro q; exact absurd q (by simpa using h)
        · intro q; simp only [List.length_cons, List.length_nil] at q; omega
      · obtain ⟨j, rfl⟩ : ∃ j, i = j + 1 := ⟨i - 1, by omega⟩
        have := ih (n / 10) (by omega) j (by omega)
        rw [Nat.pow_succ]
        simp only [List.length_cons, List.length_nil]
        rw [show n < 10 ^ j * 10 ↔ n / 10 < 10 ^ j from (Nat.div_lt_iff_lt_mul (by decide)).symm, this]
        omega
theorem len_eq {n i : Nat} (h0 : 1 ≤ i) (h1 : n < 10 ^ i) (h2 : i = 1 ∨ 10 ^ (i - 1) ≤ n) : (digs n).length = i := by
  have a := (digs_lt n i h0).mp h1
  rcases h2 with rfl | h2
  · have := digs_pos n; omega
  · by_cases q : i = 1
    · subst q; have := digs_pos n; omega
    · have b := digs_lt n (i - 1) (by omega)
      omega
theorem digs_get : ∀ (n j : Nat), j < (digs n).length → (digs n).getD j 0 = dgc (n / 10 ^ ((digs n).length - 1 - j)) := by
  intro n
  induction n using Nat.strongRecOn with
  | ind n ih =>
    intro j hj
    by_cases h : n < 10
    · rw [digs_1 h] at hj ⊢
      have : j = 0 := by simpa using hj
      subst this; simp
    · rw [digs_s h] at hj ⊢
      rw [List.length_append, List.length_cons, List.length_nil] at hj ⊢
      rw [List.getD_eq_getElem?_getD]
      by_cases q : j < (digs (n / 10)).length
      · have e := ih (n / 10) (by omega) j q
        rw [List.getD_eq_getElem?_getD] at e
        rw [List.getElem?_append_left q, e, Nat.div_div_eq_div_mul, show (digs (n / 10)).length + (0 + 1) - 1 - j = (digs (n / 10)).length - 1 - j + 1 by omega, Nat.pow_succ, Nat.mul_comm]
      · have : j = (digs (n / 10)).length := by omega
        subst this
        rw [List.getElem?_append_right (Nat.le_refl _), Nat.sub_self, show (digs (n / 10)).length + (0 + 1) - 1 - (digs (n / 10)).length = 0 by omega]
        simp
theorem digs_lat (n : Nat) : Lat (digs n) := by
  induction n using Nat.strongRecOn with
  | ind n ih =>
    have hd : Lat [dgc n] := latS (by have := dgc_rng n; omega) lat0
    by_cases h : n < 10
    · rw [digs_1 h]; exact hd
    · rw [digs_s h]; exact lat_app (ih (n / 10) (by omega)) hd
def b2i : Bool → Int32
  | true => 1
  | false => 0
def sl : Bool → List Int32
  | true => [45]
  | false => []
def nabs (x : Int64) : Nat := x.toInt.natAbs
def lstr (x : Int64) : List Int32 := sl (decide (x < 0)) ++ digs (nabs x)
theorem nabs_le (x : Int64) : nabs x ≤ 9223372036854775808 := by have := rng64 x; unfold nabs; omega
theorem n19 (x : Int64) : nabs x < 10 ^ 19 := by have := nabs_le x; have e : (10 : Nat) ^ 19 = 10000000000000000000 := (by decide); omega
theorem lstr_lat (x : Int64) : Lat (lstr x) := by
  unfold lstr
  refine lat_app ?_ (digs_lat _)
  cases decide (x < 0)
  · exact lat0
  · exact latS ⟨by decide, by decide⟩ lat0
theorem digs_20 (x : Int64) : (digs (nabs x)).length ≤ 19 := (digs_lt _ 19 (by decide)).mp (n19 x)
theorem sl_len (b : Bool) : (sl b).length ≤ 1 := by cases b <;> decide
theorem lstr_len (x : Int64) : (lstr x).length = (sl (decide (x < 0))).length + (digs (nabs x)).length := by unfold lstr; rw [List.length_append]
theorem lstr_20 (x : Int64) : (lstr x).length ≤ 20 := by rw [lstr_len]; have := digs_20 x; have := sl_len (decide (x < 0)); omega
theorem lt0 (x : Int64) : x < 0 ↔ x.toInt < 0 := by rw [Int64.lt_iff_toInt_lt]; rfl
theorem neg_n {x : Int64} (h : x < 0) : x.toInt = -(nabs x : Int) := by have := (lt0 x).mp h; unfold nabs; omega
theorem neg_p {x : Int64} (h : ¬ x < 0) : (-x).toInt = -(nabs x : Int) := by
  have h' : ¬ x.toInt < 0 := fun z => h ((lt0 x).mpr z)
  have e := c_lneg x; have r := rng64 x; have r2 := rng64 (-x)
  unfold nabs; omega
theorem ssz {x : Int64} {i : Nat} {b : Bool} (h : (digs (nabs x)).length = i) (hb : b = decide (x < 0)) : i.toInt32 + b2i b = (lstr x).length.toInt32 := by
  rw [lstr_len, h, ← hb]
  have h19 := digs_20 x
  cases b
  · show i.toInt32 + (0 : Nat).toInt32 = _
    rw [add32 (by omega)]; rw [show (sl false).length = 0 from rfl, Nat.add_comm]
  · show i.toInt32 + (1 : Nat).toInt32 = _
    rw [add32 (by omega)]; rw [show (sl true).length = 1 from rfl, Nat.add_comm]
theorem mul10 {q : Int64} {i : Nat} (hi : i + 1 ≤ 18) (h : q.toInt = -((10 ^ i : Nat) : Int)) : ((10 : Int64) * q).toInt = -((10 ^ (i + 1) : Nat) : Int) := by
  have e := c_lmul 10 q
  have r := rng64 ((10 : Int64) * q)
  have e10 : (10 : Int64).toInt = 10 := rfl
  have p : 10 ^ (i + 1) ≤ 10 ^ 18 := Nat.pow_le_pow_right (by decide) hi
  have e18 : (10 : Nat) ^ 18 = 1000000000000000000 := by decide
  rw [Nat.pow_succ] at p ⊢
  generalize 10 ^ i = P at *
  rw [e10, h] at e
  omega
theorem ltL {w q : Int64} {n P : Nat} (hw : w.toInt = -(n : Int)) (hq : q.toInt = -(P : Int)) : q < w ↔ n < P := by
  rw [Int64.lt_iff_toInt_lt, hw, hq]; omega
theorem dec32 {a b : Nat} (h : a = b + 1) (ha : a < 2 ^ 31) : a.toInt32 + (-1 : Int32) = b.toInt32 := by
  apply Int32.toInt_inj.mp
  have e := c_iadd a.toInt32 (-1)
  have r := rng32 (a.toInt32 + (-1 : Int32))
  have e1 : (-1 : Int32).toInt = -1 := rfl
  rw [(len32 ha).2.2, e1] at e
  rw [(len32 (by omega)).2.2]; omega
theorem put_dig {us : List Value} {tl : List Int32} {c : Int32} {m j : Nat} (hm : m = j + 1) (hl : m ≤ us.length) : (us.take m ++ by8 tl).set j (.int c.toInt8.toInt32) = us.take j ++ by8 (c :: tl) := by
  subst hm
  have h1 : (us.take j).length = j := by rw [List.length_take]; omega
  rw [List.take_succ_eq_append_getElem (by omega : j < us.length), List.append_assoc, List.set_append_right _ _ (by omega), h1, Nat.sub_self]
  rfl
theorem fin_ch {Z : State} {h : Heap} {d : Addr} {us : List Value} {cs ds : List Int32} {j : Nat} (A : Ar Z h d .byte (us.take j ++ by8 cs)) (hj : j = 0) (e : cs = ds) : Ar Z h d .byte (by8 ds) := by
  subst hj e; simpa using A
theorem rem100L {w : Int64} {m : Nat} (hw : w.toInt = -(m : Int)) : (w / 100 * 100 - w).toInt32 = (m % 100).toInt32 ∧ (w / 100).toInt = -((m / 100 : Nat) : Int) := by
  have r := rng64 w
  have d := c_ldiv w 100 100 rfl (by decide)
  have e1 : (w / 100).toInt = -((m / 100 : Nat) : Int) := by
    by_cases q : m = 0
    · have := d.1 (by omega); omega
    · have := d.2 (by omega); omega
  refine ⟨?_, e1⟩
  have e2 := c_lmul (w / 100) 100
  have r2 := rng64 (w / 100 * 100)
  have e3 := c_lsub (w / 100 * 100) w
  have r3 := rng64 (w / 100 * 100 - w)
  have e4 := c_l2i (w / 100 * 100 - w)
  have r4 := rng32 (w / 100 * 100 - w).toInt32
  have e100 : (100 : Int64).toInt = 100 := rfl
  rw [e100] at e2
  apply Int32.toInt_inj.mp
  rw [(len32 (by omega)).2.2]; omega
theorem rem100 {y : Int32} {m : Nat} (hw : y.toInt = -(m : Int)) : y / 100 * 100 - y = (m % 100).toInt32 ∧ (y / 100).toInt = -((m / 100 : Nat) : Int) := by
  have r := rng32 y
  have d := c_idiv y 100 100 rfl (by decide)
  have e1 : (y / 100).toInt = -((m / 100 : Nat) : Int) := by
    by_cases q : m = 0
    · have := d.1 (by omega); omega
    · have := d.2 (by omega); omega
  refine ⟨?_, e1⟩
  have e2 := c_imul (y / 100) 100
  have r2 := rng32 (y / 100 * 100)
  have e3 := c_isub (y / 100 * 100) y
  have r3 := rng32 (y / 100 * 100 - y)
  have e100 : (100 : Int32).toInt = 100 := rfl
  rw [e100] at e2
  apply Int32.toInt_inj.mp
  rw [(len32 (by omega)).2.2]; omega
theorem neg32 {y : Int32} {m : Nat} (hy : y.toInt = -(m : Int)) (hm : m < 100) : -y = m.toInt32 := by
  apply Int32.toInt_inj.mp
  have e := c_ineg y; have r := rng32 (-y)
  rw [(len32 (by omega)).2.2]; omega
theorem lt_y {y c : Int32} {m P : Nat} (hy : y.toInt = -(m : Int)) (hc : c.toInt = -(P : Int)) : (c < y ↔ m < P) ∧ (y < c ↔ P < m) := by
  rw [Int32.lt_iff_toInt_lt, Int32.lt_iff_toInt_lt, hy, hc]; omega
theorem l2i_y {w : Int64} {m : Nat} (hw : w.toInt = -(m : Int)) (hm : m < 2147483648) : w.toInt32.toInt = -(m : Int) := by
  have e := c_l2i w; have r := rng32 w.toInt32; omega
theorem z0 {a : Nat} (h : a = 0) : a.toInt32 = 0 := by subst h; rfl
theorem b2i0 {b : Bool} (h : b2i b = 0) : b = false := by cases b with | false => rfl | true => exact absurd h (by decide)
theorem b2i1 {b : Bool} (h : ¬ b2i b = 0) : b = true := by cases b with | true => rfl | false => exact absurd rfl h
/-- a byte of the long -/
def rbx (x : Int64) (i : Nat) : Int32 := (XT.ushrL x ((8 : Int32) * i.toInt32) &&& (255 : Int64)).toInt32
theorem rb_rng (x : Int64) (i : Nat) : 0 ≤ (rbx x i).toInt ∧ (rbx x i).toInt ≤ 255 := by
  have h : ∀ y : Int64, 0 ≤ (y &&& (255 : Int64)).toInt ∧ (y &&& (255 : Int64)).toInt ≤ 255 := fun y => by
    have e : (y &&& (255 : Int64)).toBitVec.toNat ≤ 255 := by
      show (y.toBitVec &&& (255 : Int64).toBitVec).toNat ≤ 255
      rw [BitVec.toNat_and]; exact Nat.and_le_right
    have e2 : (y &&& (255 : Int64)).toInt = ((y &&& (255 : Int64)).toBitVec.toNat : Int) := by
      show (y &&& (255 : Int64)).toBitVec.toInt = _
      rw [BitVec.toInt_eq_toNat_cond, if_pos (by omega)]
    omega
  have := h (XT.ushrL x ((8 : Int32) * i.toInt32))
  have e := c_l2i (XT.ushrL x ((8 : Int32) * i.toInt32) &&& (255 : Int64))
  have r := rng32 (rbx x i)
  unfold rbx at *
  omega
theorem rb_eq (x : Int64) (i : Nat) : (XT.ushrL x ((8 : Int32) * i.toInt32) &&& (255 : Int64)).toInt32.toUInt32.toUInt16.toUInt32.toInt32 = rbx x i := i2cx (to16 (rb_rng x i))
def pk (x : Int64) (i u v : Nat) : Int32 := if i = u ∨ i = v then 9 else if i < v ∧ rbx x i = 9 then 32 else rbx x i
theorem pk_rng (x : Int64) (i u v : Nat) : 0 ≤ (pk x i u v).toInt ∧ (pk x i u v).toInt ≤ 255 := by
  unfold pk; split
  · decide
  · split
    · decide
    · exact rb_rng x i
theorem pk_u (x : Int64) (u v : Nat) : pk x u u v = 9 := if_pos (Or.inl rfl)
theorem pk_v (x : Int64) (u v : Nat) : pk x v u v = 9 := if_pos (Or.inr rfl)
theorem pk_n (x : Int64) {i u v : Nat} (h : i < v) (h2 : i ≠ u) : pk x i u v ≠ 9 := by
  unfold pk
  rw [if_neg (fun z => z.elim h2 (fun y => by omega))]
  split
  · decide
  · rename_i q; exact fun z => q ⟨h, z⟩
theorem pkl (x : Int64) (u v : Nat) {j : Nat} (h : j ≤ 6) : ([pk x 0 u v, pk x 1 u v, pk x 2 u v, pk x 3 u v, pk x 4 u v, pk x 5 u v, pk x 6 u v] : List Int32).getD j 0 = pk x j u v := by
  have : j = 0 ∨ j = 1 ∨ j = 2 ∨ j = 3 ∨ j = 4 ∨ j = 5 ∨ j = 6 := by omega
  rcases this with rfl | rfl | rfl | rfl | rfl | rfl | rfl <;> rfl
theorem pick_u (x : Int32) : ∃ u : Nat, u < 6 ∧ (x &&& (2147483647 : Int32)) % (6 : Int32) = u.toInt32 := by
  have h0 := c_and x 2147483647 (by decide)
  have h := (c_irem (x &&& 2147483647) 6 6 rfl).1 h0.1
  have h1 := Int.emod_nonneg (x &&& (2147483647 : Int32)).toInt (show (6 : Int) ≠ 0 by decide)
  have h2 := Int.emod_lt_of_pos (x &&& (2147483647 : Int32)).toInt (show (0 : Int) < 6 by decide)
  refine ⟨((x &&& (2147483647 : Int32)) % (6 : Int32)).toInt.toNat, by omega, ?_⟩
  apply Int32.toInt_inj.mp
  rw [(len32 (by omega)).2.2]; omega
theorem pick_v (y : Int32) {u : Nat} (hu : u < 6) : (6 : Int32) - u.toInt32 ≠ 0 ∧ ∃ v : Nat, u < v ∧ v ≤ 6 ∧ u.toInt32 + 1 + (y &&& (2147483647 : Int32)) % ((6 : Int32) - u.toInt32) = v.toInt32 := by
  have e6 : (6 : Int32) - u.toInt32 = (6 - u).toInt32 := sub32 (a := 6) (by omega) (by decide)
  rw [e6]
  have t6 : (6 - u).toInt32.toInt = ((6 - u : Nat) : Int) := (len32 (by omega)).2.2
  refine ⟨fun q => ?_, ?_⟩
  · have := congrArg Int32.toInt q
    rw [t6] at this
    have e0 : (0 : Int32).toInt = 0 := rfl
    omega
  · have h0 := c_and y 2147483647 (by decide)
    have h := (c_irem (y &&& 2147483647) (6 - u).toInt32 _ t6).1 h0.1
    have h1 := Int.emod_nonneg (y &&& (2147483647 : Int32)).toInt (show ((6 - u : Nat) : Int) ≠ 0 by omega)
    have h2 := Int.emod_lt_of_pos (y &&& (2147483647 : Int32)).toInt (show (0 : Int) < ((6 - u : Nat) : Int) by omega)
    rw [← h] at h1 h2
    generalize (y &&& (2147483647 : Int32)) % (6 - u).toInt32 = z at h1 h2 ⊢
    refine ⟨u + 1 + z.toInt.toNat, by omega, by omega, ?_⟩
    have ez : z = z.toInt.toNat.toInt32 := by
      apply Int32.toInt_inj.mp
      rw [(len32 (by omega)).2.2]; omega
    rw [show (1 : Int32) = (1 : Nat).toInt32 from rfl, add32 (by omega)]
    conv => lhs; rw [ez]
    rw [add32 (by omega)]
def labs (x : Int64) : Int64 := if x < 0 then -x else x
def p10 (i : Nat) : Int64 := Int64.ofNat (10 ^ i)
def pwl : List Value := (List.range 19).map fun i => .long (p10 i)
theorem pwl_eq : ([(.long (1 : Int64)), (.long (10 : Int64)), (.long (100 : Int64)), (.long (1000 : Int64)), (.long (10000 : Int64)), (.long (100000 : Int64)), (.long (1000000 : Int64)), (.long (10000000 : Int64)), (.long (100000000 : Int64)), (.long (1000000000 : Int64)), (.long (10000000000 : Int64)), (.long (100000000000 : Int64)), (.long (1000000000000 : Int64)), (.long (10000000000000 : Int64)), (.long (100000000000000 : Int64)), (.long (1000000000000000 : Int64)), (.long (10000000000000000 : Int64)), (.long (100000000000000000 : Int64)), (.long (1000000000000000000 : Int64))] : List Value) = pwl := by rfl
theorem pwl_get {i : Nat} (h : i < 19) : pwl[i.toInt32.toNatClampNeg]? = some (.long (p10 i)) := by
  rw [(len32 (by omega)).2.1, pwl, List.getElem?_map, List.getElem?_range h]; rfl
theorem p10_t : ∀ i, i < 19 → (p10 i).toInt = ((10 ^ i : Nat) : Int) := by decide +kernel
theorem p10_ne {i : Nat} (h : i < 19) : p10 i ≠ 0 := fun q => by
  have e := p10_t i h
  rw [q] at e
  have e0 : (0 : Int64).toInt = 0 := rfl
  have : 0 < 10 ^ i := Nat.pow_pos (by decide)
  omega
theorem dg_abs {x : Int64} {i : Nat} (hi : i < 19) : ((48 : Int32) + (labs (x / p10 i - x / p10 i / (10 : Int64) * (10 : Int64))).toInt32).toUInt32.toUInt16.toUInt32.toInt32 = dgc (nabs x / 10 ^ i) := by
  have ep := p10_t i hi
  have hp : 0 < 10 ^ i := Nat.pow_pos (by decide)
  have rx := rng64 x
  have hne : p10 i ≠ -1 := fun q => by
    rw [q] at ep
    have e1 : (-1 : Int64).toInt = -1 := rfl
    omega
  have d := c_ldiv x (p10 i) _ ep hne
  have key : ((0 ≤ x.toInt → (x / p10 i).toInt = ((nabs x / 10 ^ i : Nat) : Int)) ∧ (x.toInt < 0 → (x / p10 i).toInt = -((nabs x / 10 ^ i : Nat) : Int))) := by
    refine ⟨fun h => ?_, fun h => ?_⟩
    · rw [d.1 h, Int.natCast_ediv]; unfold nabs; rw [show ((x.toInt.natAbs : Nat) : Int) = x.toInt by omega]
    · rw [d.2 h, Int.natCast_ediv]; unfold nabs; rw [show ((x.toInt.natAbs : Nat) : Int) = -x.toInt by omega]
  generalize nabs x / 10 ^ i = m at key ⊢
  generalize x / p10 i = y at key ⊢
  have l := c_lrem y 10 10 rfl
  generalize y - y / (10 : Int64) * (10 : Int64) = r at l ⊢
  have ry := rng64 y
  have hr : (labs r).toInt = ((m % 10 : Nat) : Int) := by
    unfold labs
    by_cases q : r < 0
    · rw [if_pos q]
      have q' := (lt0 r).mp q
      have e := c_lneg r; have r1 := rng64 (-r)
      by_cases z : 0 ≤ y.toInt
      · have := l.1 z; omega
      · have := l.2 (by omega)
        by_cases w : 0 ≤ x.toInt
        · have := key.1 w; omega
        · have := key.2 (by omega); omega
    · rw [if_neg q]
      have q' : ¬ r.toInt < 0 := fun z => q ((lt0 r).mpr z)
      by_cases z : 0 ≤ y.toInt
      · have := l.1 z
        by_cases w : 0 ≤ x.toInt
        · have := key.1 w; omega
        · have := key.2 (by omega); omega
      · have := l.2 (by omega)
        by_cases w : 0 ≤ x.toInt
        · have := key.1 w; omega
        · have := key.2 (by omega); omega
  have e1 := c_l2i (labs r)
  have r1 := rng32 (labs r).toInt32
  have e2 := c_iadd 48 (labs r).toInt32
  have r2 := rng32 ((48 : Int32) + (labs r).toInt32)
  have e48 : (48 : Int32).toInt = 48 := rfl
  rw [e48] at e2
  rw [i2cx (by omega)]
  apply Int32.toInt_inj.mp
  unfold dgc
  rw [(len32 (by omega)).2.2]; omega
theorem lstr_m {x : Int64} {k sg : Nat} (hs : sg = (sl (decide (x < 0))).length) (h : k < sg) : (lstr x).getD k 0 = 45 := by
  unfold lstr
  cases q : decide (x < 0) with
  | false => rw [q] at hs; have : sg = 0 := hs; omega
  | true =>
    rw [q] at hs; have : sg = 1 := hs
    have : k = 0 := by omega
    subst this; rfl
theorem lstr_d {x : Int64} {k sg : Nat} (hs : sg = (sl (decide (x < 0))).length) (h : ¬ k < sg) (h2 : k < sg + (digs (nabs x)).length) : (lstr x).getD k 0 = dgc (nabs x / 10 ^ ((digs (nabs x)).length - 1 - (k - sg))) := by
  unfold lstr
  rw [List.getD_eq_getElem?_getD, List.getElem?_append_right (by omega), ← hs, ← List.getD_eq_getElem?_getD]
  exact digs_get _ _ (by omega)
theorem drop_get {cs : List Int32} {v k : Nat} : (cs.drop (v + 1)).getD k 0 = cs.getD (v + 1 + k) 0 := by
  rw [List.getD_eq_getElem?_getD, List.getElem?_drop, List.getD_eq_getElem?_getD]
theorem lat_drop {cs : List Int32} (L : Lat cs) (n : Nat) : Lat (cs.drop n) := fun c hc => L c (List.mem_of_mem_drop hc)
theorem by8_drop {cs : List Int32} {f n : Nat} (h : f + n = cs.length) : ((by8 cs).drop f).take (f + n - f) = by8 (cs.drop f) := by
  rw [List.take_of_length_le (by simp; omega), by8, by8, List.map_drop]
theorem ch_get {fs : List Int32} {i : Nat} (hi : i < fs.length) (hl : i < 2 ^ 31) : (fs.map Value.int)[i.toInt32.toNatClampNeg]? = some (.int (fs.getD i 0)) := by
  rw [(len32 hl).2.1, List.getElem?_map, List.getElem?_eq_getElem hi, List.getD_eq_getElem?_getD, List.getElem?_eq_getElem hi]; rfl

abbrev c_cmp5_q (Z : State) (zC : Int32) (fS : Value) (dO : Addr) (dT : Addr) (h : Heap) (B : Addr → Prop) (a d : Addr) (cs : List Int32) (vs : List Value) (xR : Value) (h' : Heap) : Prop := xR = (.int cs.length.toInt32) ∧ Keep h h' [d] ∧ Ar Z h' d .byte (by8 cs)
def c_cmp5_rm : Room := { frames := 0, cells := 0, slots := 0, locals := 0 }
set_option maxRecDepth 65536 in
set_option maxHeartbeats 40000000 in
theorem c_cmp5 {l : Launch} {Z : State} {a0 : Array Value} {zC : Int32} {fS : Value} {dO : Addr} {dT : Addr} {h : Heap} {B : Addr → Prop} {a d : Addr} {cs : List Int32} {vs : List Value} (G : Gl Z a0 zC fS dO dT) (hE : En Z B h) (P0 : Ar Z h a .char (cs.map Value.int)) (P1 : Ar Z h d .byte vs) (P2 : Lat cs) (P3 : vs.length = cs.length) (P4 : Z.heap.size ≤ d) (P5 : ¬ B d) : Con l Z consts_1 [] (⟨"java/lang/StringUTF16", "compress", "([CI[BII)I"⟩ : MethodName) jdk_52_method_21_code 7 (some .int) c_cmp5_rm B h #[(.ref a), (.int (0 : Int32)), (.ref d), (.int (0 : Int32)), (.int cs.length.toInt32)] (fun vR hR BR => ∃ xR, vR = some xR ∧ BR = B ∧ c_cmp5_q Z zC fS dO dT h B a d cs vs xR hR) := by
  have hz0 := hE.1.1
  refine Con.intro (ls := #[.val (.ref a), .val (.int (0 : Int32)), .val (.ref d), .val (.int (0 : Int32)), .val (.int cs.length.toInt32), .unset, .unset]) (plainFor_of_name pn0) G.2.1 hE (fun m => by first | rfl | (simp [entryFrame, mkF, argsToLocals, Value.category]; done) | rfl) ?_
  intro pP eE sS mM blw mth cC T hs X
  have hL := P0.len_lt; rw [List.length_map] at hL
  have hne : a ≠ d := ar_ne P0 P1 (by decide)
  have loop : ∀ (r i : Nat) (T : State) (h1 : Heap) (o : Slot), i + r = cs.length → (o = .unset ∨ ∃ x, o = .val (.int x)) → Wk l Z consts_1 (⟨"java/lang/StringUTF16", "compress", "([CI[BII)I"⟩ : MethodName) jdk_52_method_21_code 7 (some .int) c_cmp5_rm B pP eE sS mM #[(.ref a), (.int (0 : Int32)), (.ref d), (.int (0 : Int32)), (.int cs.length.toInt32)] blw mth cC B T h1 0 0 → Keep h h1 [d] → Ar Z h1 a .char (cs.map Value.int) → Ar Z h1 d .byte (by8 (cs.take i) ++ vs.drop i) → Go l Z consts_1 c_cmp5_rm B (fun vR hR BR => ∃ xR, vR = some xR ∧ BR = B ∧ c_cmp5_q Z zC fS dO dT h B a d cs vs xR hR) pP eE sS mM blw T 3 #[.val (.ref a), .val (.int i.toInt32), .val (.ref d), .val (.int i.toInt32), .val (.int cs.length.toInt32), .val (.int i.toInt32), o] [] := by
    intro r
    induction r with
    | zero =>
      intro i T h1 o hi ho X K A D
      obtain rfl : i = cs.length := by omega
      have D : Ar Z h1 d .byte (by8 cs) := by simpa [P3, List.drop_eq_nil_of_le] using D
      refine W.iload (pc' := 5) X d_jdk_52_m21_3 rfl rfl ?_
      refine W.iload (pc' := 7) X d_jdk_52_m21_5 rfl rfl ?_
      refine W.icT (pc' := 44) X d_jdk_52_m21_7 (XT.ii_ge_t (fun q => by rw [Int32.lt_iff_toInt_lt] at q; omega)) (by decide) (by decide) ?_
      refine W.iload (pc' := 46) X d_jdk_52_m21_44 rfl rfl ?_
      exact W.ireturn X d_jdk_52_m21_46 rfl (by decide) rfl (by decide) (by decide) ⟨_, rfl, rfl, ⟨rfl, (Keep.trans (Keep.refl h [d]) K (allS (Or.inl (List.mem_of_getElem? (i := 0) rfl)) all0)), D⟩⟩
    | succ r ih =>
      intro i T h1 o hi ho X K A D
      have hi' : i < cs.length := by omega
      rcases ho with rfl | ⟨x0, rfl⟩
      all_goals
        refine W.iload (pc' := 5) X d_jdk_52_m21_3 rfl rfl ?_
        refine W.iload (pc' := 7) X d_jdk_52_m21_5 rfl rfl ?_
        refine W.icF (pc' := 10) X d_jdk_52_m21_7 (XT.ii_ge_f ((lt32 (by omega) hL).mpr hi')) rfl ?_
        refine W.aloadN (pc' := 11) X d_jdk_52_m21_10 rfl rfl rfl ?_
        refine W.iloadN (pc' := 12) X d_jdk_52_m21_11 rfl rfl ?_
        refine W.caload (pc' := 13) (v := (.int cs[i])) X A (len32 (by omega)).1 (by rw [(len32 (by omega)).2.1]; simp [hi']) d_jdk_52_m21_12 rfl ?_
        refine W.istore (pc' := 15) (ls' := #[.val (.ref a), .val (.int i.toInt32), .val (.ref d), .val (.int i.toInt32), .val (.int cs.length.toInt32), .val (.int i.toInt32), .val (.int cs[i])]) X d_jdk_52_m21_13 rfl rfl ?_
        refine W.iload (pc' := 17) X d_jdk_52_m21_15 rfl rfl ?_
        refine W.sipush (pc' := 20) X (255 : Int32) d_jdk_52_m21_17 (by decide) rfl ?_
        refine W.icT (pc' := 26) X d_jdk_52_m21_20 (XT.ii_le_t (ge255 P2 hi')) (by decide) (by decide) ?_
        refine W.aloadN (pc' := 27) X d_jdk_52_m21_26 rfl rfl rfl ?_
        refine W.iloadN (pc' := 28) X d_jdk_52_m21_27 rfl rfl ?_
        refine W.iload (pc' := 30) X d_jdk_52_m21_28 rfl rfl ?_
        refine W.i2b (pc' := 31) (w := (cs[i]).toInt8.toInt32) X d_jdk_52_m21_30 rfl rfl ?_
        refine W.bastore (pc' := 32) (i := i) X D (len32 (by omega)).1 (len32 (by omega)).2.1 (by simp; omega) (lo8_lo8 _) P4 P5 d_jdk_52_m21_31 rfl fun T h1 X K2 A3 => ?_
        refine W.iinc (pc' := 35) (ls' := #[.val (.ref a), .val (.int (i + 1).toInt32), .val (.ref d), .val (.int i.toInt32), .val (.int cs.length.toInt32), .val (.int i.toInt32), .val (.int cs[i])]) X (1 : Int32) (w := (i + 1).toInt32) d_jdk_52_m21_32 (by decide) rfl (t32s i) rfl rfl ?_
        refine W.iinc (pc' := 38) (ls' := #[.val (.ref a), .val (.int (i + 1).toInt32), .val (.ref d), .val (.int (i + 1).toInt32), .val (.int cs.length.toInt32), .val (.int i.toInt32), .val (.int cs[i])]) X (1 : Int32) (w := (i + 1).toInt32) d_jdk_52_m21_35 (by decide) rfl (t32s i) rfl rfl ?_
        refine W.iinc (pc' := 41) (ls' := #[.val (.ref a), .val (.int (i + 1).toInt32), .val (.ref d), .val (.int (i + 1).toInt32), .val (.int cs.length.toInt32), .val (.int (i + 1).toInt32), .val (.int cs[i])]) X (1 : Int32) (w := (i + 1).toInt32) d_jdk_52_m21_38 (by decide) rfl (t32s i) rfl rfl ?_
        refine W.goto (pc' := 3) X d_jdk_52_m21_41 (by decide) (by decide) ?_
        have F4 := (A.keep K2 (ninS hne nin0))
        have D9 := A3; rw [cmp_set hi' P3] at D9
        exact ih (i + 1) T h1 _ (by omega) (Or.inr ⟨_, rfl⟩) X (K.trans K2 (allS (Or.inl (List.mem_of_getElem? (i := 0) rfl)) all0)) F4 D9
  refine W.iconst (pc' := 1) X (0 : Int32) d_jdk_52_m21_0 (by decide) rfl ?_
  refine W.istore (pc' := 3) (ls' := #[.val (.ref a), .val (.int (0 : Int32)), .val (.ref d), .val (.int (0 : Int32)), .val (.int cs.length.toInt32), .val (.int (0 : Int32)), .unset]) X d_jdk_52_m21_1 rfl rfl ?_
  exact loop cs.length 0 T h .unset (by omega) (Or.inl rfl) X (Keep.refl _ _) P0 (by simpa using P1)
def c_codl_rm : Room := { frames := 0, cells := 0, slots := 0, locals := 0 }
set_option maxRecDepth 65536 in
set_option maxHeartbeats 40000000 in
theorem c_codl {l : Launch} {Z : State} {a0 : Array Value} {zC : Int32} {fS : Value} {dO : Addr} {dT : Addr} {h : Heap} {B : Addr → Prop} {d : Addr} {vs : List Value} {n : Int32} (G : Gl Z a0 zC fS dO dT) (hE : En Z B h) (P0 : Ar Z h d .byte vs) (P1 : vs.length.toInt32 = n) : Con l Z consts_1 [] (⟨"java/lang/StringUTF16", "coderFromArrayLen", "([BI)B"⟩ : MethodName) jdk_52_method_15_code 2 (some .byte) c_codl_rm B h #[(.ref d), (.int n)] (fun vR hR BR => vR = some (.int (0 : Int32)) ∧ hR = h ∧ BR = B) := by
  have hz0 := hE.1.1
  refine Con.intro (ls := #[.val (.ref d), .val (.int n)]) (plainFor_of_name pn0) G.2.1 hE (fun m => by first | rfl | (simp [entryFrame, mkF, argsToLocals, Value.category]; done) | rfl) ?_
  intro pP eE sS mM blw mth cC T hs X
  refine W.iloadN (pc' := 1) X d_jdk_52_m15_0 rfl rfl ?_
  refine W.aloadN (pc' := 2) X d_jdk_52_m15_1 rfl rfl rfl ?_
  refine W.alen (pc' := 3) (z := n) X P0 P1 d_jdk_52_m15_2 rfl ?_
  refine W.isub (pc' := 4) (w := (0 : Int32)) X d_jdk_52_m15_3 (Int32.sub_self _) rfl ?_
  refine W.bipush (pc' := 6) X (31 : Int32) d_jdk_52_m15_4 (by decide) rfl ?_
  refine W.iushr (pc' := 7) (w := (0 : Int32)) X d_jdk_52_m15_6 (by decide) rfl ?_
  refine W.i2b (pc' := 8) (w := (0 : Int32)) X d_jdk_52_m15_7 (by decide) rfl ?_
  exact W.ireturn X d_jdk_52_m15_8 rfl (by decide) (by decide) (by decide) (by decide) ⟨rfl, rfl, rfl⟩
abbrev c_cmp3_q (Z : State) (zC : Int32) (fS : Value) (dO : Addr) (dT : Addr) (h : Heap) (B : Addr → Prop) (a : Addr) (cs : List Int32) (xR : Value) (h' : Heap) : Prop := ∃ (t : Addr), xR = (.ref t) ∧ Keep h h' [] ∧ h.size ≤ t ∧ Ar Z h' t .byte (by8 cs)
def c_cmp3_rm : Room := { frames := 1, cells := 1, slots := 7, locals := 18 }
set_option maxRecDepth 65536 in
set_option maxHeartbeats 40000000 in
theorem c_cmp3 {l : Launch} {Z : State} {a0 : Array Value} {zC : Int32} {fS : Value} {dO : Addr} {dT : Addr} {h : Heap} {B : Addr → Prop} {a : Addr} {cs : List Int32} (G : Gl Z a0 zC fS dO dT) (hE : En Z B h) (P0 : Ar Z h a .char (cs.map Value.int)) (P1 : Lat cs) (P2 : cs.length ≤ 7) : Con l Z consts_1 [] (⟨"java/lang/StringUTF16", "compress", "([CII)[B"⟩ : MethodName) jdk_52_method_16_code 6 (some (.array .byte)) c_cmp3_rm B h #[(.ref a), (.int (0 : Int32)), (.int cs.length.toInt32)] (fun vR hR BR => ∃ xR, vR = some xR ∧ BR = B ∧ c_cmp3_q Z zC fS dO dT h B a cs xR hR) := by
  have hz0 := hE.1.1
  refine Con.intro (ls := #[.val (.ref a), .val (.int (0 : Int32)), .val (.int cs.length.toInt32), .unset, .unset, .unset]) (plainFor_of_name pn0) G.2.1 hE (fun m => by first | rfl | (simp [entryFrame, mkF, argsToLocals, Value.category]; done) | rfl) ?_
  intro pP eE sS mM blw mth cC T hs X
  refine W.iloadN (pc' := 1) X d_jdk_52_m16_0 rfl rfl ?_
  refine W.newA (aty := .byte) (pc' := 3) (k' := 1) (n' := 7) (cap := 7) X (w44 G) d_jdk_52_m16_1 (len32 (by omega)).1 (by rw [(len32 (by omega)).2.1]; exact P2) (by decide) rfl (by decide) (by decide) (by decide) (by decide) fun T h1 a2 X K3 g4 g5 nb6 A7 => ?_
  have A7 : Ar Z h1 a2 .byte (List.replicate cs.length (.int (0 : Int32))) := by have q := A7; rw [(len32 (by omega)).2.1] at q; exact q
  refine W.astoreN (pc' := 4) (ls' := #[.val (.ref a), .val (.int (0 : Int32)), .val (.int cs.length.toInt32), .val (.ref a2), .unset, .unset]) X d_jdk_52_m16_3 rfl rfl rfl ?_
  refine W.aloadN (pc' := 5) X d_jdk_52_m16_4 rfl rfl rfl ?_
  refine W.iloadN (pc' := 6) X d_jdk_52_m16_5 rfl rfl ?_
  refine W.aloadN (pc' := 7) X d_jdk_52_m16_6 rfl rfl rfl ?_
  refine W.iconst (pc' := 8) X (0 : Int32) d_jdk_52_m16_7 (by decide) rfl ?_
  refine W.iloadN (pc' := 9) X d_jdk_52_m16_8 rfl rfl ?_
  have F8 := (P0.keep K3 nin0)
  refine W.callS (pc' := 12) (W := 0) (argsL := [(.ref a), (.int (0 : Int32)), (.ref a2), (.int (0 : Int32)), (.int cs.length.toInt32)]) (st := []) (k' := 1) (n' := 7) X (c_cmp5 (a := a) (d := a2) (cs := cs) (vs := (List.replicate cs.length (.int (0 : Int32)))) G X.en F8 A7 P1 (by simp) g5 nb6) (w45 G) (w46 G) (w47 G) (w42 G) (by decide) (by decide) (by decide) rfl (lenOf pd1 rfl) rfl rfl (Nat.le_of_eq rfl) d_jdk_52_m16_9 rfl (by decide) (by decide) (by decide) (by decide) (kr fun T h9 xr X z10 q11 => ?_)
  obtain ⟨rfl, K12, F13⟩ := q11
  refine W.istore (pc' := 14) (ls' := #[.val (.ref a), .val (.int (0 : Int32)), .val (.int cs.length.toInt32), .val (.ref a2), .val (.int cs.length.toInt32), .unset]) X d_jdk_52_m16_12 rfl rfl ?_
  refine W.iload (pc' := 16) X d_jdk_52_m16_14 rfl rfl ?_
  refine W.iloadN (pc' := 17) X d_jdk_52_m16_16 rfl rfl ?_
  refine W.icT (pc' := 57) X d_jdk_52_m16_17 (XT.ii_eq_t rfl) (by decide) (by decide) ?_
  refine W.aloadN (pc' := 58) X d_jdk_52_m16_57 rfl rfl rfl ?_
  exact W.areturn X d_jdk_52_m16_58 rfl rfl rfl rfl (by decide) (by decide) ⟨_, rfl, rfl, ⟨a2, rfl, (Keep.trans (Keep.trans (Keep.refl h []) K3 all0) K12 (allS (Or.inr (Nat.le_trans (Nat.le_refl _) g4)) all0)), (Nat.le_trans (Nat.le_refl _) g4), F13⟩⟩
abbrev c_init4_q (Z : State) (zC : Int32) (fS : Value) (dO : Addr) (dT : Addr) (h : Heap) (B : Addr → Prop) (x a : Addr) (cs : List Int32) (v0 c0 : Value) (h' : Heap) : Prop := ∃ (t : Addr), Keep h h' [x] ∧ h.size ≤ t ∧ Str Z h' x t cs
def c_init4_rm : Room := { frames := 2, cells := 1, slots := 7, locals := 35 }
set_option maxRecDepth 65536 in
set_option maxHeartbeats 40000000 in
theorem c_init4 {l : Launch} {Z : State} {a0 : Array Value} {zC : Int32} {fS : Value} {dO : Addr} {dT : Addr} {h : Heap} {B : Addr → Prop} {x a : Addr} {cs : List Int32} {v0 c0 : Value} (G : Gl Z a0 zC fS dO dT) (hE : En Z B h) (P0 : Exa Z h x "java/lang/String") (P1 : Fld Z h x "java/lang/String" "value" "[B" v0) (P2 : Fld Z h x "java/lang/String" "coder" "B" c0) (P3 : Ar Z h a .char (cs.map Value.int)) (P4 : Lat cs) (P5 : 0 < cs.length) (P6 : cs.length ≤ 7) (P7 : Z.heap.size ≤ x) (P8 : ¬ B x) : Con l Z consts_1 [] (⟨"java/lang/String", "<init>", "([CIILjava/lang/Void;)V"⟩ : MethodName) jdk_42_method_149_code 6 none c_init4_rm B h #[(.ref x), (.ref a), (.int (0 : Int32)), (.int cs.length.toInt32), .null] (fun vR hR BR => vR = none ∧ BR = B ∧ c_init4_q Z zC fS dO dT h B x a cs v0 c0 hR) := by
  have hz0 := hE.1.1
  refine Con.intro (ls := #[.val (.ref x), .val (.ref a), .val (.int (0 : Int32)), .val (.int cs.length.toInt32), .val .null, .unset]) (plainFor_of_name pn4) G.2.1 hE (fun m => by first | rfl | (simp [entryFrame, mkF, argsToLocals, Value.category]; done) | rfl) ?_
  intro pP eE sS mM blw mth cC T hs X
  refine W.aloadN (pc' := 1) X d_jdk_42_m149_0 rfl rfl rfl ?_
  refine W.initO (pc' := 4) (W := 0) X (w36 G) (w37 G) (w38 G) d_jdk_42_m149_1 rfl (by decide) (Nat.le_of_eq rfl) (by decide) rfl fun T X => ?_
  refine W.iloadN (pc' := 5) X d_jdk_42_m149_4 rfl rfl ?_
  refine W.ifT (pc' := 27) X d_jdk_42_m149_5 (XT.i0_ne_t (fun q => absurd ((eq32 (b := 0) (by omega) (by decide)).mp q) (by omega))) (by decide) (by decide) ?_
  refine W.getS (pc' := 30) (host := "") X (Or.inl (w39 G)) Via.refl G.2.2.1 d_jdk_42_m149_27 rfl fun T X => ?_
  refine W.ifF (pc' := 33) X d_jdk_42_m149_30 (XT.i0_eq_f G.2.2.2.1) rfl ?_
  refine W.aloadN (pc' := 34) X d_jdk_42_m149_33 rfl rfl rfl ?_
  refine W.iloadN (pc' := 35) X d_jdk_42_m149_34 rfl rfl ?_
  refine W.iloadN (pc' := 36) X d_jdk_42_m149_35 rfl rfl ?_
  have en1 := X.en
  refine W.callS (pc' := 39) (W := 0) (argsL := [(.ref a), (.int (0 : Int32)), (.int cs.length.toInt32)]) (st := []) (k' := 1) (n' := 7) X (c_cmp3 (a := a) (cs := cs) G X.en P3 P4 P6) (w40 G) (w41 G) (w43 G) (w42 G) (by decide) (by decide) (by decide) rfl (lenOf pd2 rfl) rfl rfl (Nat.le_of_eq rfl) d_jdk_42_m149_36 rfl (by decide) (by decide) (by decide) (by decide) (kr fun T h2 xr X z3 q4 => ?_)
  obtain ⟨a5, rfl, K6, g7, F8⟩ := q4
  have g9 : Z.heap.size ≤ a5 := Nat.le_trans (Nat.le_trans hz0 (Nat.le_refl _)) g7
  have nb10 : ¬ B a5 := fun q => absurd (en1.2 _ q) (Nat.not_lt.mpr g7)
  refine W.astore (pc' := 41) (ls' := #[.val (.ref x), .val (.ref a), .val (.int (0 : Int32)), .val (.int cs.length.toInt32), .val .null, .val (.ref a5)]) X d_jdk_42_m149_39 rfl rfl rfl ?_
  refine W.aloadN (pc' := 42) X d_jdk_42_m149_41 rfl rfl rfl ?_
  refine W.aload (pc' := 44) X d_jdk_42_m149_42 rfl rfl rfl ?_
  refine W.iloadN (pc' := 45) X d_jdk_42_m149_44 rfl rfl ?_
  refine W.callS (pc' := 48) (W := 1) (argsL := [(.ref a5), (.int cs.length.toInt32)]) (st := [(.ref x)]) (k' := 1) (n' := 7) X (c_codl (d := a5) (vs := (by8 cs)) (n := cs.length.toInt32) G X.en F8 (by simp)) (w48 G) (w49 G) (w50 G) (w42 G) (by decide) (by decide) (by decide) rfl (lenOf pd3 rfl) rfl rfl (Nat.le_of_eq rfl) d_jdk_42_m149_45 rfl (by decide) (by decide) (by decide) (by decide) (kp fun T X => ?_)
  have F11 := (P2.keep K6 nin0)
  have F12 := (P0.keep K6)
  refine W.putF (pc' := 51) X (w51 G) Via.refl F11 F12 (Or.inr ⟨(w52 G), rfl, rfl⟩) (w27 G) (ty := .byte) (by decide) (by decide) (by decide) P7 P8 d_jdk_42_m149_48 rfl fun T h13 X W14 => ?_
  have F15 := F11.same W14
  refine W.aloadN (pc' := 52) X d_jdk_42_m149_51 rfl rfl rfl ?_
  refine W.aload (pc' := 54) X d_jdk_42_m149_52 rfl rfl rfl ?_
  have F16 := ((P1.keep K6 nin0).other W14 (Or.inr (slot_ne (Or.inr (w54 G)) (Or.inr (w52 G)) (by decide) (t := (.array .byte)) (t' := .byte) (by decide) (by decide))))
  have F17 := (F12.wr W14)
  refine W.putF (pc' := 57) X (w53 G) Via.refl F16 F17 (Or.inr ⟨(w54 G), rfl, rfl⟩) (w27 G) (ty := (.array .byte)) (by decide) rfl rfl P7 P8 d_jdk_42_m149_54 rfl fun T h18 X W19 => ?_
  have F20 := F16.same W19
  have F21 := (F17.wr W19)
  have F22 := (F15.other W19 (Or.inr (slot_ne (Or.inr (w52 G)) (Or.inr (w54 G)) (by decide) (t := .byte) (t' := (.array .byte)) (by decide) (by decide))))
  have F23 := ((F8.keep (Keep.of_wr W14) (ninS (Nat.ne_of_gt (Nat.lt_of_lt_of_le P0.lt (Nat.le_trans (Nat.le_refl _) g7))) nin0)).keep (Keep.of_wr W19) (ninS (Nat.ne_of_gt (Nat.lt_of_lt_of_le P0.lt (Nat.le_trans (Nat.le_refl _) g7))) nin0))
  exact W.vreturn X d_jdk_42_m149_57 rfl (by decide) (by decide) ⟨rfl, rfl, ⟨a5, (Keep.wr (Keep.wr (Keep.trans (Keep.refl h [x]) K6 all0) W14 (Or.inl (List.mem_of_getElem? (i := 0) rfl))) W19 (Or.inl (List.mem_of_getElem? (i := 0) rfl))), (Nat.le_trans (Nat.le_refl _) g7), ⟨F21, F22, F20, F23, P4⟩⟩⟩
abbrev c_init1_q (Z : State) (zC : Int32) (fS : Value) (dO : Addr) (dT : Addr) (h : Heap) (B : Addr → Prop) (x a : Addr) (cs : List Int32) (v0 c0 : Value) (h' : Heap) : Prop := ∃ (t : Addr), Keep h h' [x] ∧ h.size ≤ t ∧ Str Z h' x t cs
def c_init1_rm : Room := { frames := 3, cells := 1, slots := 7, locals := 52 }
set_option maxRecDepth 65536 in
set_option maxHeartbeats 40000000 in
theorem c_init1 {l : Launch} {Z : State} {a0 : Array Value} {zC : Int32} {fS : Value} {dO : Addr} {dT : Addr} {h : Heap} {B : Addr → Prop} {x a : Addr} {cs : List Int32} {v0 c0 : Value} (G : Gl Z a0 zC fS dO dT) (hE : En Z B h) (P0 : Exa Z h x "java/lang/String") (P1 : Fld Z h x "java/lang/String" "value" "[B" v0) (P2 : Fld Z h x "java/lang/String" "coder" "B" c0) (P3 : Ar Z h a .char (cs.map Value.int)) (P4 : Lat cs) (P5 : 0 < cs.length) (P6 : cs.length ≤ 7) (P7 : Z.heap.size ≤ x) (P8 : ¬ B x) : Con l Z consts_1 [] (⟨"java/lang/String", "<init>", "([C)V"⟩ : MethodName) jdk_42_method_3_code 2 none c_init1_rm B h #[(.ref x), (.ref a)] (fun vR hR BR => vR = none ∧ BR = B ∧ c_init1_q Z zC fS dO dT h B x a cs v0 c0 hR) := by
  have hz0 := hE.1.1
  refine Con.intro (ls := #[.val (.ref x), .val (.ref a)]) (plainFor_of_name pn4) G.2.1 hE (fun m => by first | rfl | (simp [entryFrame, mkF, argsToLocals, Value.category]; done) | rfl) ?_
  intro pP eE sS mM blw mth cC T hs X
  refine W.aloadN (pc' := 1) X d_jdk_42_m3_0 rfl rfl rfl ?_
  refine W.aloadN (pc' := 2) X d_jdk_42_m3_1 rfl rfl rfl ?_
  refine W.iconst (pc' := 3) X (0 : Int32) d_jdk_42_m3_2 (by decide) rfl ?_
  refine W.aloadN (pc' := 4) X d_jdk_42_m3_3 rfl rfl rfl ?_
  refine W.alen (pc' := 5) (z := cs.length.toInt32) X P3 (by simp) d_jdk_42_m3_4 rfl ?_
  refine W.aconst_null (pc' := 6) X d_jdk_42_m3_5 rfl ?_
  have en1 := X.en
  refine W.callN (pc' := 9) (W := 0) (argsL := [(.ref a), (.int (0 : Int32)), (.int cs.length.toInt32), .null]) (st := []) (k' := 1) (n' := 7) (a := x) X (c_init4 (x := x) (a := a) (cs := cs) (v0 := v0) (c0 := c0) G X.en P0 P1 P2 P3 P4 P5 P6 P7 P8) rfl (w32 G) (w33 G) (w35 G) (w28 G) (by decide) (by decide) (by decide) rfl (lenOf pd5 rfl) rfl rfl (Nat.le_of_eq rfl) d_jdk_42_m3_6 rfl (by decide) (by decide) (by decide) (by decide) (kv fun T h2 X z3 q4 => ?_)
  obtain ⟨a5, K6, g7, F8⟩ := q4
  have g9 : Z.heap.size ≤ a5 := Nat.le_trans (Nat.le_trans hz0 (Nat.le_refl _)) g7
  have nb10 : ¬ B a5 := fun q => absurd (en1.2 _ q) (Nat.not_lt.mpr g7)
  exact W.vreturn X d_jdk_42_m3_9 rfl (by decide) (by decide) ⟨rfl, rfl, ⟨a5, (Keep.trans (Keep.refl h [x]) K6 (allS (Or.inl (List.mem_of_getElem? (i := 0) rfl)) all0)), (Nat.le_trans (Nat.le_refl _) g7), F8⟩⟩
def c_coder_rm : Room := { frames := 0, cells := 0, slots := 0, locals := 0 }
set_option maxRecDepth 65536 in
set_option maxHeartbeats 40000000 in
theorem c_coder {l : Launch} {Z : State} {a0 : Array Value} {zC : Int32} {fS : Value} {dO : Addr} {dT : Addr} {h : Heap} {B : Addr → Prop} {a b : Addr} {cs : List Int32} (G : Gl Z a0 zC fS dO dT) (hE : En Z B h) (P0 : Str Z h a b cs) : Con l Z consts_1 [] (⟨"java/lang/String", "coder", "()B"⟩ : MethodName) jdk_42_method_152_code 1 (some .byte) c_coder_rm B h #[(.ref a)] (fun vR hR BR => vR = some (.int (0 : Int32)) ∧ hR = h ∧ BR = B) := by
  have hz0 := hE.1.1
  refine Con.intro (ls := #[.val (.ref a)]) (plainFor_of_name pn4) G.2.1 hE (fun m => by first | rfl | (simp [entryFrame, mkF, argsToLocals, Value.category]; done) | rfl) ?_
  intro pP eE sS mM blw mth cC T hs X
  refine W.getS (pc' := 3) (host := "") X (Or.inl (w39 G)) Via.refl G.2.2.1 d_jdk_42_m152_0 rfl fun T X => ?_
  refine W.ifF (pc' := 6) X d_jdk_42_m152_3 (XT.i0_eq_f G.2.2.2.1) rfl ?_
  refine W.aloadN (pc' := 7) X d_jdk_42_m152_6 rfl rfl rfl ?_
  refine W.getF (pc' := 10) X (w51 G) Via.refl P0.cod d_jdk_42_m152_7 rfl fun T X => ?_
  refine W.goto (pc' := 14) X d_jdk_42_m152_10 (by decide) (by decide) ?_
  exact W.ireturn X d_jdk_42_m152_14 rfl (by decide) (by decide) (by decide) (by decide) ⟨rfl, rfl, rfl⟩
def c_len_rm : Room := { frames := 1, cells := 0, slots := 0, locals := 13 }
set_option maxRecDepth 65536 in
set_option maxHeartbeats 40000000 in
theorem c_len {l : Launch} {Z : State} {a0 : Array Value} {zC : Int32} {fS : Value} {dO : Addr} {dT : Addr} {h : Heap} {B : Addr → Prop} {a b : Addr} {cs : List Int32} (G : Gl Z a0 zC fS dO dT) (hE : En Z B h) (P0 : Str Z h a b cs) : Con l Z consts_1 [] (⟨"java/lang/String", "length", "()I"⟩ : MethodName) jdk_42_method_54_code 1 (some .int) c_len_rm B h #[(.ref a)] (fun vR hR BR => vR = some (.int cs.length.toInt32) ∧ hR = h ∧ BR = B) := by
  have hz0 := hE.1.1
  refine Con.intro (ls := #[.val (.ref a)]) (plainFor_of_name pn4) G.2.1 hE (fun m => by first | rfl | (simp [entryFrame, mkF, argsToLocals, Value.category]; done) | rfl) ?_
  intro pP eE sS mM blw mth cC T hs X
  refine W.aloadN (pc' := 1) X d_jdk_42_m54_0 rfl rfl rfl ?_
  refine W.getF (pc' := 4) X (w53 G) Via.refl P0.val d_jdk_42_m54_1 rfl fun T X => ?_
  refine W.alen (pc' := 5) (z := (cs).length.toInt32) X P0.arr (by simp) d_jdk_42_m54_4 rfl ?_
  refine W.aloadN (pc' := 6) X d_jdk_42_m54_5 rfl rfl rfl ?_
  refine W.callV (pc' := 9) (W := 1) (argsL := []) (st := [(.int (cs).length.toInt32)]) (k' := 0) (n' := 0) (a := a) X (c_coder (a := a) (b := b) (cs := cs) G X.en P0) (w79 G) (w80 G) (nfM (z' := (⟨"java/lang/String", "indexOf", "(I)I"⟩ : MethodName)) rfl (w62 G)) (w82 G) (w81 G) P0.exa (w83 G) (w28 G) (by decide) (by decide) (by decide) rfl (lenOf pd6 rfl) rfl rfl (Nat.le_of_eq rfl) d_jdk_42_m54_6 rfl (by decide) (by decide) (by decide) (by decide) (kp fun T X => ?_)
  refine W.ishr (pc' := 10) (w := cs.length.toInt32) X d_jdk_42_m54_9 (shr0 _) rfl ?_
  exact W.ireturn X d_jdk_42_m54_10 rfl (by decide) rfl (by decide) (by decide) ⟨rfl, rfl, rfl⟩
def c_lat1_rm : Room := { frames := 0, cells := 0, slots := 0, locals := 0 }
set_option maxRecDepth 65536 in
set_option maxHeartbeats 40000000 in
theorem c_lat1 {l : Launch} {Z : State} {a0 : Array Value} {zC : Int32} {fS : Value} {dO : Addr} {dT : Addr} {h : Heap} {B : Addr → Prop} {a b : Addr} {cs : List Int32} (G : Gl Z a0 zC fS dO dT) (hE : En Z B h) (P0 : Str Z h a b cs) : Con l Z consts_1 [] (⟨"java/lang/String", "isLatin1", "()Z"⟩ : MethodName) jdk_42_method_154_code 1 (some .boolean) c_lat1_rm B h #[(.ref a)] (fun vR hR BR => vR = some (.int (1 : Int32)) ∧ hR = h ∧ BR = B) := by
  have hz0 := hE.1.1
  refine Con.intro (ls := #[.val (.ref a)]) (plainFor_of_name pn4) G.2.1 hE (fun m => by first | rfl | (simp [entryFrame, mkF, argsToLocals, Value.category]; done) | rfl) ?_
  intro pP eE sS mM blw mth cC T hs X
  refine W.getS (pc' := 3) (host := "") X (Or.inl (w39 G)) Via.refl G.2.2.1 d_jdk_42_m154_0 rfl fun T X => ?_
  refine W.ifF (pc' := 6) X d_jdk_42_m154_3 (XT.i0_eq_f G.2.2.2.1) rfl ?_
  refine W.aloadN (pc' := 7) X d_jdk_42_m154_6 rfl rfl rfl ?_
  refine W.getF (pc' := 10) X (w51 G) Via.refl P0.cod d_jdk_42_m154_7 rfl fun T X => ?_
  refine W.ifF (pc' := 13) X d_jdk_42_m154_10 (by decide) rfl ?_
  refine W.iconst (pc' := 14) X (1 : Int32) d_jdk_42_m154_13 (by decide) rfl ?_
  refine W.goto (pc' := 18) X d_jdk_42_m154_14 (by decide) (by decide) ?_
  exact W.ireturn X d_jdk_42_m154_18 rfl (by decide) (by decide) (by decide) (by decide) ⟨rfl, rfl, rfl⟩
def c_chk_rm : Room := { frames := 0, cells := 0, slots := 0, locals := 0 }
set_option maxRecDepth 65536 in
set_option maxHeartbeats 40000000 in
theorem c_chk {l : Launch} {Z : State} {a0 : Array Value} {zC : Int32} {fS : Value} {dO : Addr} {dT : Addr} {h : Heap} {B : Addr → Prop} {i n : Int32} {f : Value} (G : Gl Z a0 zC fS dO dT) (hE : En Z B h) (P0 : ¬ i < 0) (P1 : i < n) (P2 : f.isRef = true) : Con l Z consts_1 [] (⟨"jdk/internal/util/Preconditions", "checkIndex", "(IILjava/util/function/BiFunction;)I"⟩ : MethodName) jdk_41_method_11_code 3 (some .int) c_chk_rm B h #[(.int i), (.int n), f] (fun vR hR BR => vR = some (.int i) ∧ hR = h ∧ BR = B) := by
  have hz0 := hE.1.1
  refine Con.intro (ls := #[.val (.int i), .val (.int n), .val f]) (plainFor_of_name pn7) G.2.1 hE (fun m => by cases f <;> first | rfl | (exact absurd P2 (by simp [Value.isRef])) | first | rfl | (simp [entryFrame, mkF, argsToLocals, Value.category]; done) | rfl) ?_
  intro pP eE sS mM blw mth cC T hs X
  refine W.iloadN (pc' := 1) X d_jdk_41_m11_0 rfl rfl ?_
  refine W.ifF (pc' := 4) X d_jdk_41_m11_1 (XT.i0_lt_f P0) rfl ?_
  refine W.iloadN (pc' := 5) X d_jdk_41_m11_4 rfl rfl ?_
  refine W.iloadN (pc' := 6) X d_jdk_41_m11_5 rfl rfl ?_
  refine W.icT (pc' := 16) X d_jdk_41_m11_6 (XT.ii_lt_t P1) (by decide) (by decide) ?_
  refine W.iloadN (pc' := 17) X d_jdk_41_m11_16 rfl rfl ?_
  exact W.ireturn X d_jdk_41_m11_17 rfl (by decide) rfl (by decide) (by decide) ⟨rfl, rfl, rfl⟩
def c_schk_rm : Room := { frames := 1, cells := 0, slots := 0, locals := 14 }
set_option maxRecDepth 65536 in
set_option maxHeartbeats 40000000 in
theorem c_schk {l : Launch} {Z : State} {a0 : Array Value} {zC : Int32} {fS : Value} {dO : Addr} {dT : Addr} {h : Heap} {B : Addr → Prop} {i n : Int32} (G : Gl Z a0 zC fS dO dT) (hE : En Z B h) (P0 : ¬ i < 0) (P1 : i < n) : Con l Z consts_1 [] (⟨"java/lang/String", "checkIndex", "(II)V"⟩ : MethodName) jdk_42_method_155_code 2 none c_schk_rm B h #[(.int i), (.int n)] (fun vR hR BR => vR = none ∧ hR = h ∧ BR = B) := by
  have hz0 := hE.1.1
  refine Con.intro (ls := #[.val (.int i), .val (.int n)]) (plainFor_of_name pn4) G.2.1 hE (fun m => by first | rfl | (simp [entryFrame, mkF, argsToLocals, Value.category]; done) | rfl) ?_
  intro pP eE sS mM blw mth cC T hs X
  refine W.iloadN (pc' := 1) X d_jdk_42_m155_0 rfl rfl ?_
  refine W.iloadN (pc' := 2) X d_jdk_42_m155_1 rfl rfl ?_
  refine W.getS (pc' := 5) (host := "") X (Or.inl (w137 G)) Via.refl G.2.2.2.2.1 d_jdk_42_m155_2 rfl fun T X => ?_
  refine W.callS (pc' := 8) (W := 0) (argsL := [(.int i), (.int n), fS]) (st := []) (k' := 0) (n' := 0) X (c_chk (i := i) (n := n) (f := fS) G X.en P0 P1 G.2.2.2.2.2.1) (w200 G) (w201 G) (w202 G) (w138 G) (by decide) (by decide) (by decide) rfl (lenOf pd8 rfl) rfl rfl (Nat.le_of_eq rfl) d_jdk_42_m155_5 rfl (by decide) (by decide) (by decide) (by decide) (kp fun T X => ?_)
  refine W.popV (pc' := 9) X d_jdk_42_m155_8 rfl rfl ?_
  exact W.vreturn X d_jdk_42_m155_9 rfl (by decide) (by decide) ⟨rfl, rfl, rfl⟩
def c_l1ch_rm : Room := { frames := 2, cells := 0, slots := 0, locals := 27 }
set_option maxRecDepth 65536 in
set_option maxHeartbeats 40000000 in
theorem c_l1ch {l : Launch} {Z : State} {a0 : Array Value} {zC : Int32} {fS : Value} {dO : Addr} {dT : Addr} {h : Heap} {B : Addr → Prop} {b : Addr} {cs : List Int32} {i : Nat} (G : Gl Z a0 zC fS dO dT) (hE : En Z B h) (P0 : Ar Z h b .byte (by8 cs)) (P1 : Lat cs) (P2 : i < cs.length) : Con l Z consts_1 [] (⟨"java/lang/StringLatin1", "charAt", "([BI)C"⟩ : MethodName) jdk_43_method_2_code 2 (some .char) c_l1ch_rm B h #[(.ref b), (.int i.toInt32)] (fun vR hR BR => vR = some (.int (cs.getD i 0)) ∧ hR = h ∧ BR = B) := by
  have hz0 := hE.1.1
  refine Con.intro (ls := #[.val (.ref b), .val (.int i.toInt32)]) (plainFor_of_name pn10) G.2.1 hE (fun m => by first | rfl | (simp [entryFrame, mkF, argsToLocals, Value.category]; done) | rfl) ?_
  intro pP eE sS mM blw mth cC T hs X
  have hL := P0.len_lt; rw [List.length_map] at hL
  refine W.iloadN (pc' := 1) X d_jdk_43_m2_0 rfl rfl ?_
  refine W.aloadN (pc' := 2) X d_jdk_43_m2_1 rfl rfl rfl ?_
  refine W.alen (pc' := 3) (z := cs.length.toInt32) X P0 (by simp) d_jdk_43_m2_2 rfl ?_
  refine W.callS (pc' := 6) (W := 0) (argsL := [(.int i.toInt32), (.int cs.length.toInt32)]) (st := []) (k' := 0) (n' := 0) X (c_schk (i := i.toInt32) (n := cs.length.toInt32) G X.en (len32 (by omega)).1 ((lt32 (by omega) hL).mpr P2)) (w197 G) (w198 G) (w199 G) (w28 G) (by decide) (by decide) (by decide) rfl (lenOf pd9 rfl) rfl rfl (Nat.le_of_eq rfl) d_jdk_43_m2_3 rfl (by decide) (by decide) (by decide) (by decide) (kpv fun T X => ?_)
  refine W.aloadN (pc' := 7) X d_jdk_43_m2_6 rfl rfl rfl ?_
  refine W.iloadN (pc' := 8) X d_jdk_43_m2_7 rfl rfl ?_
  refine W.baload (pc' := 9) (v := (.int (cs.getD i 0).toInt8.toInt32)) X P0 (len32 (by omega)).1 (by8_get P2 hL) d_jdk_43_m2_8 rfl ?_
  refine W.sipush (pc' := 12) X (255 : Int32) d_jdk_43_m2_9 (by decide) rfl ?_
  refine W.iand (pc' := 13) (w := (cs.getD i 0)) X d_jdk_43_m2_12 (lo8m (P1.at P2)) rfl ?_
  refine W.i2c (pc' := 14) (w := (cs.getD i 0)) X d_jdk_43_m2_13 (i2cx (to16 (P1.at P2))) rfl ?_
  exact W.ireturn X d_jdk_43_m2_14 rfl (by decide) (narc (to16 (P1.at P2))) (by decide) (by decide) ⟨rfl, rfl, rfl⟩
def c_ch_rm : Room := { frames := 3, cells := 0, slots := 0, locals := 40 }
set_option maxRecDepth 65536 in
set_option maxHeartbeats 40000000 in
theorem c_ch {l : Launch} {Z : State} {a0 : Array Value} {zC : Int32} {fS : Value} {dO : Addr} {dT : Addr} {h : Heap} {B : Addr → Prop} {a b : Addr} {cs : List Int32} {i : Nat} (G : Gl Z a0 zC fS dO dT) (hE : En Z B h) (P0 : Str Z h a b cs) (P1 : i < cs.length) : Con l Z consts_1 [] (⟨"java/lang/String", "charAt", "(I)C"⟩ : MethodName) jdk_42_method_56_code 2 (some .char) c_ch_rm B h #[(.ref a), (.int i.toInt32)] (fun vR hR BR => vR = some (.int (cs.getD i 0)) ∧ hR = h ∧ BR = B) := by
  have hz0 := hE.1.1
  refine Con.intro (ls := #[.val (.ref a), .val (.int i.toInt32)]) (plainFor_of_name pn4) G.2.1 hE (fun m => by first | rfl | (simp [entryFrame, mkF, argsToLocals, Value.category]; done) | rfl) ?_
  intro pP eE sS mM blw mth cC T hs X
  refine W.aloadN (pc' := 1) X d_jdk_42_m56_0 rfl rfl rfl ?_
  refine W.callV (pc' := 4) (W := 0) (argsL := []) (st := []) (k' := 0) (n' := 0) (a := a) X (c_lat1 (a := a) (b := b) (cs := cs) G X.en P0) (w69 G) (w70 G) (nfM (z' := (⟨"java/lang/String", "indexOf", "(I)I"⟩ : MethodName)) rfl (w62 G)) (w72 G) (w71 G) P0.exa (w73 G) (w28 G) (by decide) (by decide) (by decide) rfl (lenOf pd11 rfl) rfl rfl (Nat.le_of_eq rfl) d_jdk_42_m56_1 rfl (by decide) (by decide) (by decide) (by decide) (kp fun T X => ?_)
  refine W.ifF (pc' := 7) X d_jdk_42_m56_4 (by decide) rfl ?_
  refine W.aloadN (pc' := 8) X d_jdk_42_m56_7 rfl rfl rfl ?_
  refine W.getF (pc' := 11) X (w53 G) Via.refl P0.val d_jdk_42_m56_8 rfl fun T X => ?_
  refine W.iloadN (pc' := 12) X d_jdk_42_m56_11 rfl rfl ?_
  refine W.callS (pc' := 15) (W := 0) (argsL := [(.ref b), (.int i.toInt32)]) (st := []) (k' := 0) (n' := 0) X (c_l1ch (b := b) (cs := cs) (i := i) G X.en P0.arr P0.lat P1) (w194 G) (w195 G) (w196 G) (w86 G) (by decide) (by decide) (by decide) rfl (lenOf pd12 rfl) rfl rfl (Nat.le_of_eq rfl) d_jdk_42_m56_12 rfl (by decide) (by decide) (by decide) (by decide) (kp fun T X => ?_)
  exact W.ireturn X d_jdk_42_m56_15 rfl (by decide) (narc (to16 (P0.lat.at P1))) (by decide) (by decide) ⟨rfl, rfl, rfl⟩
def c_max_rm : Room := { frames := 0, cells := 0, slots := 0, locals := 0 }
set_option maxRecDepth 65536 in
set_option maxHeartbeats 40000000 in
theorem c_max {l : Launch} {Z : State} {a0 : Array Value} {zC : Int32} {fS : Value} {dO : Addr} {dT : Addr} {h : Heap} {B : Addr → Prop} {a b : Nat} (G : Gl Z a0 zC fS dO dT) (hE : En Z B h) (P0 : a < 2 ^ 31) (P1 : b < 2 ^ 31) : Con l Z consts_1 [] (⟨"java/lang/Math", "max", "(II)I"⟩ : MethodName) jdk_29_method_65_code 2 (some .int) c_max_rm B h #[(.int a.toInt32), (.int b.toInt32)] (fun vR hR BR => vR = some (.int (max a b).toInt32) ∧ hR = h ∧ BR = B) := by
  have hz0 := hE.1.1
  refine Con.intro (ls := #[.val (.int a.toInt32), .val (.int b.toInt32)]) pn13 G.2.1 hE (fun m => by first | rfl | (simp [entryFrame, mkF, argsToLocals, Value.category]; done) | rfl) ?_
  intro pP eE sS mM blw mth cC T hs X
  refine W.iloadN (pc' := 1) X d_jdk_29_m65_0 rfl rfl ?_
  refine W.iloadN (pc' := 2) X d_jdk_29_m65_1 rfl rfl ?_
  by_cases hq : a.toInt32 < b.toInt32
  · skip
    refine W.icT (pc' := 9) X d_jdk_29_m65_2 (XT.ii_lt_t hq) (by decide) (by decide) ?_
    refine W.iloadN (pc' := 10) X d_jdk_29_m65_9 rfl rfl ?_
    exact W.ireturn X d_jdk_29_m65_10 rfl (by decide) rfl (by decide) (by decide) ⟨(by rw [Nat.max_eq_right (Nat.le_of_lt ((lt32 P0 P1).mp hq))]), rfl, rfl⟩
  · skip
    refine W.icF (pc' := 5) X d_jdk_29_m65_2 (XT.ii_lt_f hq) rfl ?_
    refine W.iloadN (pc' := 6) X d_jdk_29_m65_5 rfl rfl ?_
    refine W.goto (pc' := 10) X d_jdk_29_m65_6 (by decide) (by decide) ?_
    exact W.ireturn X d_jdk_29_m65_10 rfl (by decide) rfl (by decide) (by decide) ⟨(by rw [Nat.max_eq_left (Nat.le_of_not_lt fun q => hq ((lt32 P0 P1).mpr q))]), rfl, rfl⟩
def c_min_rm : Room := { frames := 0, cells := 0, slots := 0, locals := 0 }
set_option maxRecDepth 65536 in
set_option maxHeartbeats 40000000 in
theorem c_min {l : Launch} {Z : State} {a0 : Array Value} {zC : Int32} {fS : Value} {dO : Addr} {dT : Addr} {h : Heap} {B : Addr → Prop} {a b : Nat} (G : Gl Z a0 zC fS dO dT) (hE : En Z B h) (P0 : a < 2 ^ 31) (P1 : b < 2 ^ 31) : Con l Z consts_1 [] (⟨"java/lang/Math", "min", "(II)I"⟩ : MethodName) jdk_29_method_69_code 2 (some .int) c_min_rm B h #[(.int a.toInt32), (.int b.toInt32)] (fun vR hR BR => vR = some (.int (min a b).toInt32) ∧ hR = h ∧ BR = B) := by
  have hz0 := hE.1.1
  refine Con.intro (ls := #[.val (.int a.toInt32), .val (.int b.toInt32)]) pn14 G.2.1 hE (fun m => by first | rfl | (simp [entryFrame, mkF, argsToLocals, Value.category]; done) | rfl) ?_
  intro pP eE sS mM blw mth cC T hs X
  refine W.iloadN (pc' := 1) X d_jdk_29_m69_0 rfl rfl ?_
  refine W.iloadN (pc' := 2) X d_jdk_29_m69_1 rfl rfl ?_
  by_cases hq : b.toInt32 < a.toInt32
  · skip
    refine W.icT (pc' := 9) X d_jdk_29_m69_2 (XT.ii_gt_t hq) (by decide) (by decide) ?_
    refine W.iloadN (pc' := 10) X d_jdk_29_m69_9 rfl rfl ?_
    exact W.ireturn X d_jdk_29_m69_10 rfl (by decide) rfl (by decide) (by decide) ⟨(by rw [Nat.min_eq_right (Nat.le_of_lt ((lt32 P1 P0).mp hq))]), rfl, rfl⟩
  · skip
    refine W.icF (pc' := 5) X d_jdk_29_m69_2 (XT.ii_gt_f hq) rfl ?_
    refine W.iloadN (pc' := 6) X d_jdk_29_m69_5 rfl rfl ?_
    refine W.goto (pc' := 10) X d_jdk_29_m69_6 (by decide) (by decide) ?_
    exact W.ireturn X d_jdk_29_m69_10 rfl (by decide) rfl (by decide) (by decide) ⟨(by rw [Nat.min_eq_left (Nat.le_of_not_lt fun q => hq ((lt32 P1 P0).mpr q))]), rfl, rfl⟩
def c_ckl_rm : Room := { frames := 0, cells := 0, slots := 0, locals := 0 }
set_option maxRecDepth 65536 in
set_option maxHeartbeats 40000000 in
theorem c_ckl {l : Launch} {Z : State} {a0 : Array Value} {zC : Int32} {fS : Value} {dO : Addr} {dT : Addr} {h : Heap} {B : Addr → Prop} {f e : Nat} (G : Gl Z a0 zC fS dO dT) (hE : En Z B h) (P0 : f ≤ e) (P1 : e < 2 ^ 31) : Con l Z consts_1 [] (⟨"java/util/Arrays", "checkLength", "(II)V"⟩ : MethodName) jdk_65_method_131_code 2 none c_ckl_rm B h #[(.int f.toInt32), (.int e.toInt32)] (fun vR hR BR => vR = none ∧ hR = h ∧ BR = B) := by
  have hz0 := hE.1.1
  refine Con.intro (ls := #[.val (.int f.toInt32), .val (.int e.toInt32)]) (plainFor_of_name pn15) G.2.1 hE (fun m => by first | rfl | (simp [entryFrame, mkF, argsToLocals, Value.category]; done) | rfl) ?_
  intro pP eE sS mM blw mth cC T hs X
  refine W.iloadN (pc' := 1) X d_jdk_65_m131_0 rfl rfl ?_
  refine W.iloadN (pc' := 2) X d_jdk_65_m131_1 rfl rfl ?_
  refine W.icT (pc' := 37) X d_jdk_65_m131_2 (XT.ii_ge_t (fun q => by have := (lt32 P1 (by omega)).mp q; omega)) (by decide) (by decide) ?_
  exact W.vreturn X d_jdk_65_m131_37 rfl (by decide) (by decide) ⟨rfl, rfl, rfl⟩
abbrev c_corb_q (Z : State) (zC : Int32) (fS : Value) (dO : Addr) (dT : Addr) (h : Heap) (B : Addr → Prop) (a : Addr) (vs : List Value) (f e : Nat) (xR : Value) (h' : Heap) : Prop := ∃ (t : Addr), xR = (.ref t) ∧ Keep h h' [] ∧ h.size ≤ t ∧ Ar Z h' t .byte ((vs.drop f).take (e - f))
def c_corb_rm : Room := { frames := 1, cells := 1, slots := 7, locals := 18 }
set_option maxRecDepth 65536 in
set_option maxHeartbeats 40000000 in
theorem c_corb {l : Launch} {Z : State} {a0 : Array Value} {zC : Int32} {fS : Value} {dO : Addr} {dT : Addr} {h : Heap} {B : Addr → Prop} {a : Addr} {vs : List Value} {f e : Nat} (G : Gl Z a0 zC fS dO dT) (hE : En Z B h) (P0 : Ar Z h a .byte vs) (P1 : f ≤ e) (P2 : e ≤ vs.length) (P3 : e - f ≤ 7) : Con l Z consts_1 [] (⟨"java/util/Arrays", "copyOfRangeByte", "([BII)[B"⟩ : MethodName) jdk_65_method_133_code 5 (some (.array .byte)) c_corb_rm B h #[(.ref a), (.int f.toInt32), (.int e.toInt32)] (fun vR hR BR => ∃ xR, vR = some xR ∧ BR = B ∧ c_corb_q Z zC fS dO dT h B a vs f e xR hR) := by
  have hz0 := hE.1.1
  refine Con.intro (ls := #[.val (.ref a), .val (.int f.toInt32), .val (.int e.toInt32), .unset, .unset]) (plainFor_of_name pn15) G.2.1 hE (fun m => by first | rfl | (simp [entryFrame, mkF, argsToLocals, Value.category]; done) | rfl) ?_
  intro pP eE sS mM blw mth cC T hs X
  have hL := P0.len_lt
  refine W.iloadN (pc' := 1) X d_jdk_65_m133_0 rfl rfl ?_
  refine W.iloadN (pc' := 2) X d_jdk_65_m133_1 rfl rfl ?_
  refine W.callS (pc' := 5) (W := 0) (argsL := [(.int f.toInt32), (.int e.toInt32)]) (st := []) (k' := 0) (n' := 0) X (c_ckl (f := f) (e := e) G X.en (by omega) (by omega)) (w153 G) (w154 G) (w155 G) (w148 G) (by decide) (by decide) (by decide) rfl (lenOf pd9 rfl) rfl rfl (Nat.le_of_eq rfl) d_jdk_65_m133_2 rfl (by decide) (by decide) (by decide) (by decide) (kpv fun T X => ?_)
  refine W.iloadN (pc' := 6) X d_jdk_65_m133_5 rfl rfl ?_
  refine W.iloadN (pc' := 7) X d_jdk_65_m133_6 rfl rfl ?_
  refine W.isub (pc' := 8) (w := (e - f).toInt32) X d_jdk_65_m133_7 (sub32 P1 (by omega)) rfl ?_
  refine W.istoreN (pc' := 9) (ls' := #[.val (.ref a), .val (.int f.toInt32), .val (.int e.toInt32), .val (.int (e - f).toInt32), .unset]) X d_jdk_65_m133_8 rfl rfl ?_
  refine W.iloadN (pc' := 10) X d_jdk_65_m133_9 rfl rfl ?_
  refine W.newA (aty := .byte) (pc' := 12) (k' := 1) (n' := 7) (cap := 7) X (w44 G) d_jdk_65_m133_10 (len32 (by omega)).1 (by rw [(len32 (by omega)).2.1]; exact P3) (by decide) rfl (by decide) (by decide) (by decide) (by decide) fun T h1 a2 X K3 g4 g5 nb6 A7 => ?_
  have A7 : Ar Z h1 a2 .byte (List.replicate (e - f) (.int (0 : Int32))) := by have q := A7; rw [(len32 (by omega)).2.1] at q; exact q
  refine W.astore (pc' := 14) (ls' := #[.val (.ref a), .val (.int f.toInt32), .val (.int e.toInt32), .val (.int (e - f).toInt32), .val (.ref a2)]) X d_jdk_65_m133_12 rfl rfl rfl ?_
  refine W.aloadN (pc' := 15) X d_jdk_65_m133_14 rfl rfl rfl ?_
  refine W.iloadN (pc' := 16) X d_jdk_65_m133_15 rfl rfl ?_
  refine W.aload (pc' := 18) X d_jdk_65_m133_16 rfl rfl rfl ?_
  refine W.iconst (pc' := 19) X (0 : Int32) d_jdk_65_m133_18 (by decide) rfl ?_
  refine W.aloadN (pc' := 20) X d_jdk_65_m133_19 rfl rfl rfl ?_
  have F8 := (P0.keep K3 nin0)
  refine W.alen (pc' := 21) (z := (vs).length.toInt32) X F8 rfl d_jdk_65_m133_20 rfl ?_
  refine W.iloadN (pc' := 22) X d_jdk_65_m133_21 rfl rfl ?_
  refine W.isub (pc' := 23) (w := (vs.length - f).toInt32) X d_jdk_65_m133_22 (sub32 (by omega) hL) rfl ?_
  refine W.iloadN (pc' := 24) X d_jdk_65_m133_23 rfl rfl ?_
  refine W.callS (pc' := 27) (W := 4) (argsL := [(.int (vs.length - f).toInt32), (.int (e - f).toInt32)]) (st := [(.int (0 : Int32)), (.ref a2), (.int f.toInt32), (.ref a)]) (k' := 1) (n' := 7) X (c_min (a := (vs.length - f)) (b := (e - f)) G X.en (by omega) (by omega)) (w156 G) (w96 G) (w97 G) (w93 G) (by decide) (by decide) (by decide) rfl (lenOf pd16 rfl) rfl rfl (Nat.le_of_eq rfl) d_jdk_65_m133_24 rfl (by decide) (by decide) (by decide) (by decide) (kp fun T X => ?_)
  refine W.acopy (pc' := 30) (W := 0) (i := f) (j := 0) (len := (e - f)) X F8 A7 (w157 G) (w160 G) (w158 G) (w159 G) rfl rfl rfl (by rw [Nat.min_eq_right (by omega)]) (by omega) (by simp) g5 nb6 rfl (by decide) (Nat.le_of_eq rfl) (by decide) d_jdk_65_m133_27 rfl fun T h9 X K10 A11 => ?_
  have A11 : Ar Z h9 a2 .byte ((vs.drop f).take (e - f)) := (by have q := A11; rw [List.take_zero, List.nil_append, Nat.zero_add, List.drop_replicate, Nat.sub_self, List.replicate_zero, List.append_nil] at q; exact q)
  refine W.aload (pc' := 32) X d_jdk_65_m133_30 rfl rfl rfl ?_
  exact W.areturn X d_jdk_65_m133_32 rfl rfl rfl rfl (by decide) (by decide) ⟨_, rfl, rfl, ⟨a2, rfl, (Keep.trans (Keep.trans (Keep.refl h []) K3 all0) K10 (allS (Or.inr (Nat.le_trans (Nat.le_refl _) g4)) all0)), (Nat.le_trans (Nat.le_refl _) g4), A11⟩⟩
abbrev c_cor_q (Z : State) (zC : Int32) (fS : Value) (dO : Addr) (dT : Addr) (h : Heap) (B : Addr → Prop) (a : Addr) (vs : List Value) (f e : Nat) (xR : Value) (h' : Heap) : Prop := ∃ (t : Addr), xR = (.ref t) ∧ Keep h h' [] ∧ h.size ≤ t ∧ Ar Z h' t .byte ((vs.drop f).take (e - f))
def c_cor_rm : Room := { frames := 2, cells := 1, slots := 7, locals := 34 }
set_option maxRecDepth 65536 in
set_option maxHeartbeats 40000000 in
theorem c_cor {l : Launch} {Z : State} {a0 : Array Value} {zC : Int32} {fS : Value} {dO : Addr} {dT : Addr} {h : Heap} {B : Addr → Prop} {a : Addr} {vs : List Value} {f e : Nat} (G : Gl Z a0 zC fS dO dT) (hE : En Z B h) (P0 : Ar Z h a .byte vs) (P1 : f ≤ e) (P2 : e ≤ vs.length) (P3 : e - f ≤ 7) (P4 : 0 < f ∨ e < vs.length) : Con l Z consts_1 [] (⟨"java/util/Arrays", "copyOfRange", "([BII)[B"⟩ : MethodName) jdk_65_method_132_code 3 (some (.array .byte)) c_cor_rm B h #[(.ref a), (.int f.toInt32), (.int e.toInt32)] (fun vR hR BR => ∃ xR, vR = some xR ∧ BR = B ∧ c_cor_q Z zC fS dO dT h B a vs f e xR hR) := by
  have hz0 := hE.1.1
  refine Con.intro (ls := #[.val (.ref a), .val (.int f.toInt32), .val (.int e.toInt32)]) (plainFor_of_name pn15) G.2.1 hE (fun m => by first | rfl | (simp [entryFrame, mkF, argsToLocals, Value.category]; done) | rfl) ?_
  intro pP eE sS mM blw mth cC T hs X
  have hL := P0.len_lt
  refine W.iloadN (pc' := 1) X d_jdk_65_m132_0 rfl rfl ?_
  by_cases h0 : f.toInt32 = (0 : Int32)
  · skip
    refine W.ifF (pc' := 4) X d_jdk_65_m132_1 (XT.i0_ne_f h0) rfl ?_
    refine W.iloadN (pc' := 5) X d_jdk_65_m132_4 rfl rfl ?_
    refine W.aloadN (pc' := 6) X d_jdk_65_m132_5 rfl rfl rfl ?_
    refine W.alen (pc' := 7) (z := (vs).length.toInt32) X P0 rfl d_jdk_65_m132_6 rfl ?_
    refine W.icF (pc' := 10) X d_jdk_65_m132_7 (XT.ii_eq_f (fun q => by have h1 := (eq32 (by omega) hL).mp q; have h2 := (eq32 (b := 0) (by omega) (by decide)).mp h0; omega)) rfl ?_
    refine W.aloadN (pc' := 11) X d_jdk_65_m132_10 rfl rfl rfl ?_
    refine W.iloadN (pc' := 12) X d_jdk_65_m132_11 rfl rfl ?_
    refine W.iloadN (pc' := 13) X d_jdk_65_m132_12 rfl rfl ?_
    have en1 := X.en
    refine W.callS (pc' := 16) (W := 0) (argsL := [(.ref a), (.int f.toInt32), (.int e.toInt32)]) (st := []) (k' := 1) (n' := 7) X (c_corb (a := a) (vs := vs) (f := f) (e := e) G X.en P0 P1 P2 P3) (w150 G) (w151 G) (w152 G) (w148 G) (by decide) (by decide) (by decide) rfl (lenOf pd17 rfl) rfl rfl (Nat.le_of_eq rfl) d_jdk_65_m132_13 rfl (by decide) (by decide) (by decide) (by decide) (kr fun T h2 xr X z3 q4 => ?_)
    obtain ⟨a5, rfl, K6, g7, F8⟩ := q4
    have g9 : Z.heap.size ≤ a5 := Nat.le_trans (Nat.le_trans hz0 (Nat.le_refl _)) g7
    have nb10 : ¬ B a5 := fun q => absurd (en1.2 _ q) (Nat.not_lt.mpr g7)
    exact W.areturn X d_jdk_65_m132_16 rfl rfl rfl rfl (by decide) (by decide) ⟨_, rfl, rfl, ⟨a5, rfl, (Keep.trans (Keep.refl h []) K6 all0), (Nat.le_trans (Nat.le_refl _) g7), F8⟩⟩
  · skip
    refine W.ifT (pc' := 10) X d_jdk_65_m132_1 (XT.i0_ne_t h0) (by decide) (by decide) ?_
    refine W.aloadN (pc' := 11) X d_jdk_65_m132_10 rfl rfl rfl ?_
    refine W.iloadN (pc' := 12) X d_jdk_65_m132_11 rfl rfl ?_
    refine W.iloadN (pc' := 13) X d_jdk_65_m132_12 rfl rfl ?_
    have en11 := X.en
    refine W.callS (pc' := 16) (W := 0) (argsL := [(.ref a), (.int f.toInt32), (.int e.toInt32)]) (st := []) (k' := 1) (n' := 7) X (c_corb (a := a) (vs := vs) (f := f) (e := e) G X.en P0 P1 P2 P3) (w150 G) (w151 G) (w152 G) (w148 G) (by decide) (by decide) (by decide) rfl (lenOf pd17 rfl) rfl rfl (Nat.le_of_eq rfl) d_jdk_65_m132_13 rfl (by decide) (by decide) (by decide) (by decide) (kr fun T h12 xr X z13 q14 => ?_)
    obtain ⟨a15, rfl, K16, g17, F18⟩ := q14
    have g19 : Z.heap.size ≤ a15 := Nat.le_trans (Nat.le_trans hz0 (Nat.le_refl _)) g17
    have nb20 : ¬ B a15 := fun q => absurd (en11.2 _ q) (Nat.not_lt.mpr g17)
    exact W.areturn X d_jdk_65_m132_16 rfl rfl rfl rfl (by decide) (by decide) ⟨_, rfl, rfl, ⟨a15, rfl, (Keep.trans (Keep.refl h []) K16 all0), (Nat.le_trans (Nat.le_refl _) g17), F18⟩⟩
def c_rec_rm : Room := { frames := 1, cells := 0, slots := 0, locals := 12 }
set_option maxRecDepth 65536 in
set_option maxHeartbeats 40000000 in
theorem c_rec {l : Launch} {Z : State} {a0 : Array Value} {zC : Int32} {fS : Value} {dO : Addr} {dT : Addr} {h : Heap} {B : Addr → Prop} {a : Addr} (G : Gl Z a0 zC fS dO dT) (hE : En Z B h)  : Con l Z consts_1 [] (⟨"java/lang/Record", "<init>", "()V"⟩ : MethodName) jdk_30_method_1_code 1 none c_rec_rm B h #[(.ref a)] (fun vR hR BR => vR = none ∧ hR = h ∧ BR = B) := by
  have hz0 := hE.1.1
  refine Con.intro (ls := #[.val (.ref a)]) (plainFor_of_name pn18) G.2.1 hE (fun m => by first | rfl | (simp [entryFrame, mkF, argsToLocals, Value.category]; done) | rfl) ?_
  intro pP eE sS mM blw mth cC T hs X
  refine W.aloadN (pc' := 1) X d_jdk_30_m1_0 rfl rfl rfl ?_
  refine W.initO (pc' := 4) (W := 0) X (w170 G) (w37 G) (w38 G) d_jdk_30_m1_1 rfl (by decide) (Nat.le_of_eq rfl) (by decide) rfl fun T X => ?_
  exact W.vreturn X d_jdk_30_m1_4 rfl (by decide) (by decide) ⟨rfl, rfl, rfl⟩
def c_max0_rm : Room := { frames := 0, cells := 0, slots := 0, locals := 0 }
set_option maxRecDepth 65536 in
set_option maxHeartbeats 40000000 in
theorem c_max0 {l : Launch} {Z : State} {a0 : Array Value} {zC : Int32} {fS : Value} {dO : Addr} {dT : Addr} {h : Heap} {B : Addr → Prop} {a : Nat} (G : Gl Z a0 zC fS dO dT) (hE : En Z B h) (P0 : a < 2 ^ 31) : Con l Z consts_1 [] (⟨"java/lang/Math", "max", "(II)I"⟩ : MethodName) jdk_29_method_65_code 2 (some .int) c_max0_rm B h #[(.int a.toInt32), (.int (0 : Int32))] (fun vR hR BR => vR = some (.int a.toInt32) ∧ hR = h ∧ BR = B) := by
  have hz0 := hE.1.1
  refine Con.intro (ls := #[.val (.int a.toInt32), .val (.int (0 : Int32))]) pn13 G.2.1 hE (fun m => by first | rfl | (simp [entryFrame, mkF, argsToLocals, Value.category]; done) | rfl) ?_
  intro pP eE sS mM blw mth cC T hs X
  refine W.iloadN (pc' := 1) X d_jdk_29_m65_0 rfl rfl ?_
  refine W.iloadN (pc' := 2) X d_jdk_29_m65_1 rfl rfl ?_
  refine W.icF (pc' := 5) X d_jdk_29_m65_2 (XT.ii_lt_f (len32 P0).1) rfl ?_
  refine W.iloadN (pc' := 6) X d_jdk_29_m65_5 rfl rfl ?_
  refine W.goto (pc' := 10) X d_jdk_29_m65_6 (by decide) (by decide) ?_
  exact W.ireturn X d_jdk_29_m65_10 rfl (by decide) rfl (by decide) (by decide) ⟨rfl, rfl, rfl⟩
def c_minS_rm : Room := { frames := 0, cells := 0, slots := 0, locals := 0 }
set_option maxRecDepth 65536 in
set_option maxHeartbeats 40000000 in
theorem c_minS {l : Launch} {Z : State} {a0 : Array Value} {zC : Int32} {fS : Value} {dO : Addr} {dT : Addr} {h : Heap} {B : Addr → Prop} {a : Nat} (G : Gl Z a0 zC fS dO dT) (hE : En Z B h)  : Con l Z consts_1 [] (⟨"java/lang/Math", "min", "(II)I"⟩ : MethodName) jdk_29_method_69_code 2 (some .int) c_minS_rm B h #[(.int a.toInt32), (.int a.toInt32)] (fun vR hR BR => vR = some (.int a.toInt32) ∧ hR = h ∧ BR = B) := by
  have hz0 := hE.1.1
  refine Con.intro (ls := #[.val (.int a.toInt32), .val (.int a.toInt32)]) pn14 G.2.1 hE (fun m => by first | rfl | (simp [entryFrame, mkF, argsToLocals, Value.category]; done) | rfl) ?_
  intro pP eE sS mM blw mth cC T hs X
  refine W.iloadN (pc' := 1) X d_jdk_29_m69_0 rfl rfl ?_
  refine W.iloadN (pc' := 2) X d_jdk_29_m69_1 rfl rfl ?_
  refine W.icF (pc' := 5) X d_jdk_29_m69_2 (XT.ii_gt_f (fun q => by rw [Int32.lt_iff_toInt_lt] at q; omega)) rfl ?_
  refine W.iloadN (pc' := 6) X d_jdk_29_m69_5 rfl rfl ?_
  refine W.goto (pc' := 10) X d_jdk_29_m69_6 (by decide) (by decide) ?_
  exact W.ireturn X d_jdk_29_m69_10 rfl (by decide) rfl (by decide) (by decide) ⟨rfl, rfl, rfl⟩
def c_abs_rm : Room := { frames := 0, cells := 0, slots := 0, locals := 0 }
set_option maxRecDepth 65536 in
set_option maxHeartbeats 40000000 in
theorem c_abs {l : Launch} {Z : State} {a0 : Array Value} {zC : Int32} {fS : Value} {dO : Addr} {dT : Addr} {h : Heap} {B : Addr → Prop} {x : Int64} (G : Gl Z a0 zC fS dO dT) (hE : En Z B h)  : Con l Z consts_1 [] (⟨"java/lang/Math", "abs", "(J)J"⟩ : MethodName) jdk_29_method_61_code 2 (some .long) c_abs_rm B h #[(.long x)] (fun vR hR BR => vR = some (.long (labs x)) ∧ hR = h ∧ BR = B) := by
  have hz0 := hE.1.1
  refine Con.intro (ls := #[.val (.long x), .second]) pn19 G.2.1 hE (fun m => by first | rfl | (simp [entryFrame, mkF, argsToLocals, Value.category]; done) | rfl) ?_
  intro pP eE sS mM blw mth cC T hs X
  refine W.lloadN (pc' := 1) X d_jdk_29_m61_0 rfl rfl ?_
  refine W.lconst (pc' := 2) X (0 : Int64) d_jdk_29_m61_1 (by decide) rfl ?_
  refine W.lcmp (pc' := 3) (w := (XT.cmpL x (0 : Int64))) X d_jdk_29_m61_2 rfl rfl ?_
  by_cases hc1 : x < (0 : Int64)
  · skip
    refine W.ifF (pc' := 6) X d_jdk_29_m61_3 (XT.ll_ge_f hc1) rfl ?_
    refine W.lloadN (pc' := 7) X d_jdk_29_m61_6 rfl rfl ?_
    refine W.lneg (pc' := 8) (w := (-x)) X d_jdk_29_m61_7 rfl rfl ?_
    refine W.goto (pc' := 12) X d_jdk_29_m61_8 (by decide) (by decide) ?_
    exact W.lreturn X d_jdk_29_m61_12 rfl (by decide) (by decide) ⟨(by rw [labs, if_pos hc1]), rfl, rfl⟩
  · skip
    refine W.ifT (pc' := 11) X d_jdk_29_m61_3 (XT.ll_ge_t hc1) (by decide) (by decide) ?_
    refine W.lloadN (pc' := 12) X d_jdk_29_m61_11 rfl rfl ?_
    exact W.lreturn X d_jdk_29_m61_12 rfl (by decide) (by decide) ⟨(by rw [labs, if_neg hc1]), rfl, rfl⟩
def c_canE_rm : Room := { frames := 0, cells := 0, slots := 0, locals := 0 }
set_option maxRecDepth 65536 in
set_option maxHeartbeats 40000000 in
theorem c_canE {l : Launch} {Z : State} {a0 : Array Value} {zC : Int32} {fS : Value} {dO : Addr} {dT : Addr} {h : Heap} {B : Addr → Prop}  (G : Gl Z a0 zC fS dO dT) (hE : En Z B h)  : Con l Z consts_1 [] (⟨"java/lang/StringLatin1", "canEncode", "(I)Z"⟩ : MethodName) jdk_43_method_4_code 1 (some .boolean) c_canE_rm B h #[(.int (9 : Int32))] (fun vR hR BR => vR = some (.int (1 : Int32)) ∧ hR = h ∧ BR = B) := by
  have hz0 := hE.1.1
  refine Con.intro (ls := #[.val (.int (9 : Int32))]) (plainFor_of_name pn10) G.2.1 hE (fun m => by first | rfl | (simp [entryFrame, mkF, argsToLocals, Value.category]; done) | rfl) ?_
  intro pP eE sS mM blw mth cC T hs X
  refine W.iloadN (pc' := 1) X d_jdk_43_m4_0 rfl rfl ?_
  refine W.ifF (pc' := 4) X d_jdk_43_m4_1 (by decide) rfl ?_
  refine W.iloadN (pc' := 5) X d_jdk_43_m4_4 rfl rfl ?_
  refine W.sipush (pc' := 8) X (255 : Int32) d_jdk_43_m4_5 (by decide) rfl ?_
  refine W.icF (pc' := 11) X d_jdk_43_m4_8 (by decide) rfl ?_
  refine W.iconst (pc' := 12) X (1 : Int32) d_jdk_43_m4_11 (by decide) rfl ?_
  refine W.goto (pc' := 16) X d_jdk_43_m4_12 (by decide) (by decide) ?_
  exact W.ireturn X d_jdk_43_m4_16 rfl (by decide) (by decide) (by decide) (by decide) ⟨rfl, rfl, rfl⟩
abbrev c_initBB_q (Z : State) (zC : Int32) (fS : Value) (dO : Addr) (dT : Addr) (h : Heap) (B : Addr → Prop) (x a : Addr) (v0 c0 : Value) (h' : Heap) : Prop := Keep h h' [x] ∧ Fld Z h' x "java/lang/String" "value" "[B" (.ref a) ∧ Fld Z h' x "java/lang/String" "coder" "B" (.int (0 : Int32))
def c_initBB_rm : Room := { frames := 1, cells := 0, slots := 0, locals := 12 }
set_option maxRecDepth 65536 in
set_option maxHeartbeats 40000000 in
theorem c_initBB {l : Launch} {Z : State} {a0 : Array Value} {zC : Int32} {fS : Value} {dO : Addr} {dT : Addr} {h : Heap} {B : Addr → Prop} {x a : Addr} {v0 c0 : Value} (G : Gl Z a0 zC fS dO dT) (hE : En Z B h) (P0 : Exa Z h x "java/lang/String") (P1 : Fld Z h x "java/lang/String" "value" "[B" v0) (P2 : Fld Z h x "java/lang/String" "coder" "B" c0) (P3 : Z.heap.size ≤ x) (P4 : ¬ B x) : Con l Z consts_1 [] (⟨"java/lang/String", "<init>", "([BB)V"⟩ : MethodName) jdk_42_method_151_code 3 none c_initBB_rm B h #[(.ref x), (.ref a), (.int (0 : Int32))] (fun vR hR BR => vR = none ∧ BR = B ∧ c_initBB_q Z zC fS dO dT h B x a v0 c0 hR) := by
  have hz0 := hE.1.1
  refine Con.intro (ls := #[.val (.ref x), .val (.ref a), .val (.int (0 : Int32))]) (plainFor_of_name pn4) G.2.1 hE (fun m => by first | rfl | (simp [entryFrame, mkF, argsToLocals, Value.category]; done) | rfl) ?_
  intro pP eE sS mM blw mth cC T hs X
  refine W.aloadN (pc' := 1) X d_jdk_42_m151_0 rfl rfl rfl ?_
  refine W.initO (pc' := 4) (W := 0) X (w36 G) (w37 G) (w38 G) d_jdk_42_m151_1 rfl (by decide) (Nat.le_of_eq rfl) (by decide) rfl fun T X => ?_
  refine W.aloadN (pc' := 5) X d_jdk_42_m151_4 rfl rfl rfl ?_
  refine W.aloadN (pc' := 6) X d_jdk_42_m151_5 rfl rfl rfl ?_
  refine W.putF (pc' := 9) X (w53 G) Via.refl P1 P0 (Or.inr ⟨(w54 G), rfl, rfl⟩) (w27 G) (ty := (.array .byte)) (by decide) rfl rfl P3 P4 d_jdk_42_m151_6 rfl fun T h1 X W2 => ?_
  have F3 := P1.same W2
  refine W.aloadN (pc' := 10) X d_jdk_42_m151_9 rfl rfl rfl ?_
  refine W.iloadN (pc' := 11) X d_jdk_42_m151_10 rfl rfl ?_
  have F4 := (P2.other W2 (Or.inr (slot_ne (Or.inr (w52 G)) (Or.inr (w54 G)) (by decide) (t := .byte) (t' := (.array .byte)) (by decide) (by decide))))
  have F5 := (P0.wr W2)
  refine W.putF (pc' := 14) X (w51 G) Via.refl F4 F5 (Or.inr ⟨(w52 G), rfl, rfl⟩) (w27 G) (ty := .byte) (by decide) (by decide) (by decide) P3 P4 d_jdk_42_m151_11 rfl fun T h6 X W7 => ?_
  have F8 := F4.same W7
  have F9 := (F3.other W7 (Or.inr (slot_ne (Or.inr (w54 G)) (Or.inr (w52 G)) (by decide) (t := (.array .byte)) (t' := .byte) (by decide) (by decide))))
  exact W.vreturn X d_jdk_42_m151_14 rfl (by decide) (by decide) ⟨rfl, rfl, ⟨(Keep.wr (Keep.wr (Keep.refl h [x]) W2 (Or.inl (List.mem_of_getElem? (i := 0) rfl))) W7 (Or.inl (List.mem_of_getElem? (i := 0) rfl))), F9, F8⟩⟩
def c_ioc_rm : Room := { frames := 0, cells := 0, slots := 0, locals := 0 }
set_option maxRecDepth 65536 in
set_option maxHeartbeats 40000000 in
theorem c_ioc {l : Launch} {Z : State} {a0 : Array Value} {zC : Int32} {fS : Value} {dO : Addr} {dT : Addr} {h : Heap} {B : Addr → Prop} {b : Addr} {cs : List Int32} {f i : Nat} (G : Gl Z a0 zC fS dO dT) (hE : En Z B h) (P0 : Ar Z h b .byte (by8 cs)) (P1 : Lat cs) (P2 : f ≤ i) (P3 : i < cs.length) (P4 : cs.getD i 0 = 9) (P5 : ∀ j, f ≤ j → j < i → cs.getD j 0 ≠ 9) : Con l Z consts_1 [] (⟨"java/lang/StringLatin1", "indexOfChar", "([BIII)I"⟩ : MethodName) jdk_43_method_23_code 6 (some .int) c_ioc_rm B h #[(.ref b), (.int (9 : Int32)), (.int f.toInt32), (.int cs.length.toInt32)] (fun vR hR BR => vR = some (.int i.toInt32) ∧ hR = h ∧ BR = B) := by
  have hz0 := hE.1.1
  refine Con.intro (ls := #[.val (.ref b), .val (.int (9 : Int32)), .val (.int f.toInt32), .val (.int cs.length.toInt32), .unset, .unset]) (plainFor_of_name pn10) G.2.1 hE (fun m => by first | rfl | (simp [entryFrame, mkF, argsToLocals, Value.category]; done) | rfl) ?_
  intro pP eE sS mM blw mth cC T hs X
  have hL := P0.len_lt; rw [List.length_map] at hL
  refine W.iloadN (pc' := 1) X d_jdk_43_m23_0 rfl rfl ?_
  refine W.i2b (pc' := 2) (w := (9 : Int32)) X d_jdk_43_m23_1 (by decide) rfl ?_
  refine W.istore (pc' := 4) (ls' := #[.val (.ref b), .val (.int (9 : Int32)), .val (.int f.toInt32), .val (.int cs.length.toInt32), .val (.int (9 : Int32)), .unset]) X d_jdk_43_m23_2 rfl rfl ?_
  refine W.iloadN (pc' := 5) X d_jdk_43_m23_4 rfl rfl ?_
  refine W.istore (pc' := 7) (ls' := #[.val (.ref b), .val (.int (9 : Int32)), .val (.int f.toInt32), .val (.int cs.length.toInt32), .val (.int (9 : Int32)), .val (.int f.toInt32)]) X d_jdk_43_m23_5 rfl rfl ?_
  have loop : ∀ (k j : Nat) (T : State), j + k = i → f ≤ j → Wk l Z consts_1 (⟨"java/lang/StringLatin1", "indexOfChar", "([BIII)I"⟩ : MethodName) jdk_43_method_23_code 6 (some .int) c_ioc_rm B pP eE sS mM #[(.ref b), (.int (9 : Int32)), (.int f.toInt32), (.int cs.length.toInt32)] blw mth cC B T h 0 0 → Go l Z consts_1 c_ioc_rm B (fun vR hR BR => vR = some (.int i.toInt32) ∧ hR = h ∧ BR = B) pP eE sS mM blw T 7 #[.val (.ref b), .val (.int (9 : Int32)), .val (.int f.toInt32), .val (.int cs.length.toInt32), .val (.int (9 : Int32)), .val (.int j.toInt32)] [] := by
    intro k
    induction k with
    | zero =>
      intro j T hj hf X
      obtain rfl : j = i := by omega
      refine W.iload (pc' := 9) X d_jdk_43_m23_7 rfl rfl ?_
      refine W.iloadN (pc' := 10) X d_jdk_43_m23_9 rfl rfl ?_
      refine W.icF (pc' := 13) X d_jdk_43_m23_10 (XT.ii_ge_f ((lt32 (by omega) hL).mpr (by omega))) rfl ?_
      refine W.aloadN (pc' := 14) X d_jdk_43_m23_13 rfl rfl rfl ?_
      refine W.iload (pc' := 16) X d_jdk_43_m23_14 rfl rfl ?_
      refine W.baload (pc' := 17) (v := (.int (cs.getD j 0).toInt8.toInt32)) X P0 (len32 (by omega)).1 (by8_get (by omega) hL) d_jdk_43_m23_16 rfl ?_
      refine W.iload (pc' := 19) X d_jdk_43_m23_17 rfl rfl ?_
      refine W.icF (pc' := 22) X d_jdk_43_m23_19 (XT.ii_ne_f (by rw [P4]; decide)) rfl ?_
      refine W.iload (pc' := 24) X d_jdk_43_m23_22 rfl rfl ?_
      exact W.ireturn X d_jdk_43_m23_24 rfl (by decide) rfl (by decide) (by decide) ⟨rfl, rfl, rfl⟩
    | succ k ih =>
      intro j T hj hf X
      refine W.iload (pc' := 9) X d_jdk_43_m23_7 rfl rfl ?_
      refine W.iloadN (pc' := 10) X d_jdk_43_m23_9 rfl rfl ?_
      refine W.icF (pc' := 13) X d_jdk_43_m23_10 (XT.ii_ge_f ((lt32 (by omega) hL).mpr (by omega))) rfl ?_
      refine W.aloadN (pc' := 14) X d_jdk_43_m23_13 rfl rfl rfl ?_
      refine W.iload (pc' := 16) X d_jdk_43_m23_14 rfl rfl ?_
      refine W.baload (pc' := 17) (v := (.int (cs.getD j 0).toInt8.toInt32)) X P0 (len32 (by omega)).1 (by8_get (by omega) hL) d_jdk_43_m23_16 rfl ?_
      refine W.iload (pc' := 19) X d_jdk_43_m23_17 rfl rfl ?_
      refine W.icT (pc' := 25) X d_jdk_43_m23_19 (XT.ii_ne_t (fun q => P5 j hf (by omega) (lo8_inj (P1.at (by omega)) ⟨by decide, by decide⟩ (q.trans (show (9 : Int32) = (9 : Int32).toInt8.toInt32 from by decide))))) (by decide) (by decide) ?_
      refine W.iinc (pc' := 28) (ls' := #[.val (.ref b), .val (.int (9 : Int32)), .val (.int f.toInt32), .val (.int cs.length.toInt32), .val (.int (9 : Int32)), .val (.int (j + 1).toInt32)]) X (1 : Int32) (w := (j + 1).toInt32) d_jdk_43_m23_25 (by decide) rfl (t32s j) rfl rfl ?_
      refine W.goto (pc' := 7) X d_jdk_43_m23_28 (by decide) (by decide) ?_
      exact ih (j + 1) T (by omega) (by omega) X
  exact loop (i - f) f T (by omega) (Nat.le_refl _) X
def c_io3_rm : Room := { frames := 1, cells := 0, slots := 0, locals := 17 }
set_option maxRecDepth 65536 in
set_option maxHeartbeats 40000000 in
theorem c_io3 {l : Launch} {Z : State} {a0 : Array Value} {zC : Int32} {fS : Value} {dO : Addr} {dT : Addr} {h : Heap} {B : Addr → Prop} {b : Addr} {cs : List Int32} {f i : Nat} (G : Gl Z a0 zC fS dO dT) (hE : En Z B h) (P0 : Ar Z h b .byte (by8 cs)) (P1 : Lat cs) (P2 : f ≤ i) (P3 : i < cs.length) (P4 : cs.getD i 0 = 9) (P5 : ∀ j, f ≤ j → j < i → cs.getD j 0 ≠ 9) : Con l Z consts_1 [] (⟨"java/lang/StringLatin1", "indexOf", "([BIII)I"⟩ : MethodName) jdk_43_method_22_code 4 (some .int) c_io3_rm B h #[(.ref b), (.int (9 : Int32)), (.int f.toInt32), (.int cs.length.toInt32)] (fun vR hR BR => vR = some (.int i.toInt32) ∧ hR = h ∧ BR = B) := by
  have hz0 := hE.1.1
  refine Con.intro (ls := #[.val (.ref b), .val (.int (9 : Int32)), .val (.int f.toInt32), .val (.int cs.length.toInt32)]) (plainFor_of_name pn10) G.2.1 hE (fun m => by first | rfl | (simp [entryFrame, mkF, argsToLocals, Value.category]; done) | rfl) ?_
  intro pP eE sS mM blw mth cC T hs X
  have hL := P0.len_lt; rw [List.length_map] at hL
  refine W.iloadN (pc' := 1) X d_jdk_43_m22_0 rfl rfl ?_
  refine W.callS (pc' := 4) (W := 0) (argsL := [(.int (9 : Int32))]) (st := []) (k' := 0) (n' := 0) X (c_canE  G X.en) (w88 G) (w89 G) (w90 G) (w86 G) (by decide) (by decide) (by decide) rfl (lenOf pd20 rfl) rfl rfl (Nat.le_of_eq rfl) d_jdk_43_m22_1 rfl (by decide) (by decide) (by decide) (by decide) (kp fun T X => ?_)
  refine W.ifT (pc' := 9) X d_jdk_43_m22_4 (by decide) (by decide) (by decide) ?_
  refine W.iloadN (pc' := 10) X d_jdk_43_m22_9 rfl rfl ?_
  refine W.iconst (pc' := 11) X (0 : Int32) d_jdk_43_m22_10 (by decide) rfl ?_
  refine W.callS (pc' := 14) (W := 0) (argsL := [(.int f.toInt32), (.int (0 : Int32))]) (st := []) (k' := 0) (n' := 0) X (c_max0 (a := f) G X.en (by omega)) (w91 G) (w92 G) (w94 G) (w93 G) (by decide) (by decide) (by decide) rfl (lenOf pd16 rfl) rfl rfl (Nat.le_of_eq rfl) d_jdk_43_m22_11 rfl (by decide) (by decide) (by decide) (by decide) (kp fun T X => ?_)
  refine W.istoreN (pc' := 15) (ls' := #[.val (.ref b), .val (.int (9 : Int32)), .val (.int f.toInt32), .val (.int cs.length.toInt32)]) X d_jdk_43_m22_14 rfl rfl ?_
  refine W.iloadN (pc' := 16) X d_jdk_43_m22_15 rfl rfl ?_
  refine W.aloadN (pc' := 17) X d_jdk_43_m22_16 rfl rfl rfl ?_
  refine W.alen (pc' := 18) (z := cs.length.toInt32) X P0 (by simp) d_jdk_43_m22_17 rfl ?_
  refine W.callS (pc' := 21) (W := 0) (argsL := [(.int cs.length.toInt32), (.int cs.length.toInt32)]) (st := []) (k' := 0) (n' := 0) X (c_minS (a := cs.length) G X.en) (w95 G) (w96 G) (w97 G) (w93 G) (by decide) (by decide) (by decide) rfl (lenOf pd16 rfl) rfl rfl (Nat.le_of_eq rfl) d_jdk_43_m22_18 rfl (by decide) (by decide) (by decide) (by decide) (kp fun T X => ?_)
  refine W.istoreN (pc' := 22) (ls' := #[.val (.ref b), .val (.int (9 : Int32)), .val (.int f.toInt32), .val (.int cs.length.toInt32)]) X d_jdk_43_m22_21 rfl rfl ?_
  refine W.iloadN (pc' := 23) X d_jdk_43_m22_22 rfl rfl ?_
  refine W.iloadN (pc' := 24) X d_jdk_43_m22_23 rfl rfl ?_
  refine W.icT (pc' := 29) X d_jdk_43_m22_24 (XT.ii_lt_t ((lt32 (by omega) (by omega)).mpr (by omega))) (by decide) (by decide) ?_
  refine W.aloadN (pc' := 30) X d_jdk_43_m22_29 rfl rfl rfl ?_
  refine W.iloadN (pc' := 31) X d_jdk_43_m22_30 rfl rfl ?_
  refine W.iloadN (pc' := 32) X d_jdk_43_m22_31 rfl rfl ?_
  refine W.iloadN (pc' := 33) X d_jdk_43_m22_32 rfl rfl ?_
  refine W.callS (pc' := 36) (W := 0) (argsL := [(.ref b), (.int (9 : Int32)), (.int f.toInt32), (.int cs.length.toInt32)]) (st := []) (k' := 0) (n' := 0) X (c_ioc (b := b) (cs := cs) (f := f) (i := i) G X.en P0 P1 P2 P3 P4 P5) (w98 G) (w99 G) (w100 G) (w86 G) (by decide) (by decide) (by decide) rfl (lenOf pd21 rfl) rfl rfl (Nat.le_of_eq rfl) d_jdk_43_m22_33 rfl (by decide) (by decide) (by decide) (by decide) (kp fun T X => ?_)
  exact W.ireturn X d_jdk_43_m22_36 rfl (by decide) rfl (by decide) (by decide) ⟨rfl, rfl, rfl⟩
def c_io2_rm : Room := { frames := 2, cells := 0, slots := 0, locals := 32 }
set_option maxRecDepth 65536 in
set_option maxHeartbeats 40000000 in
theorem c_io2 {l : Launch} {Z : State} {a0 : Array Value} {zC : Int32} {fS : Value} {dO : Addr} {dT : Addr} {h : Heap} {B : Addr → Prop} {r rb : Addr} {cs : List Int32} {f i : Nat} (G : Gl Z a0 zC fS dO dT) (hE : En Z B h) (P0 : Str Z h r rb cs) (P1 : f ≤ i) (P2 : i < cs.length) (P3 : cs.getD i 0 = 9) (P4 : ∀ j, f ≤ j → j < i → cs.getD j 0 ≠ 9) : Con l Z consts_1 [] (⟨"java/lang/String", "indexOf", "(II)I"⟩ : MethodName) jdk_42_method_80_code 3 (some .int) c_io2_rm B h #[(.ref r), (.int (9 : Int32)), (.int f.toInt32)] (fun vR hR BR => vR = some (.int i.toInt32) ∧ hR = h ∧ BR = B) := by
  have hz0 := hE.1.1
  refine Con.intro (ls := #[.val (.ref r), .val (.int (9 : Int32)), .val (.int f.toInt32)]) (plainFor_of_name pn4) G.2.1 hE (fun m => by first | rfl | (simp [entryFrame, mkF, argsToLocals, Value.category]; done) | rfl) ?_
  intro pP eE sS mM blw mth cC T hs X
  refine W.aloadN (pc' := 1) X d_jdk_42_m80_0 rfl rfl rfl ?_
  refine W.callV (pc' := 4) (W := 0) (argsL := []) (st := []) (k' := 0) (n' := 0) (a := r) X (c_lat1 (a := r) (b := rb) (cs := cs) G X.en P0) (w69 G) (w70 G) (nfM (z' := (⟨"java/lang/String", "indexOf", "(I)I"⟩ : MethodName)) rfl (w62 G)) (w72 G) (w71 G) P0.exa (w73 G) (w28 G) (by decide) (by decide) (by decide) rfl (lenOf pd11 rfl) rfl rfl (Nat.le_of_eq rfl) d_jdk_42_m80_1 rfl (by decide) (by decide) (by decide) (by decide) (kp fun T X => ?_)
  refine W.ifF (pc' := 7) X d_jdk_42_m80_4 (by decide) rfl ?_
  refine W.aloadN (pc' := 8) X d_jdk_42_m80_7 rfl rfl rfl ?_
  refine W.getF (pc' := 11) X (w53 G) Via.refl P0.val d_jdk_42_m80_8 rfl fun T X => ?_
  refine W.iloadN (pc' := 12) X d_jdk_42_m80_11 rfl rfl ?_
  refine W.iloadN (pc' := 13) X d_jdk_42_m80_12 rfl rfl ?_
  refine W.aloadN (pc' := 14) X d_jdk_42_m80_13 rfl rfl rfl ?_
  refine W.callV (pc' := 17) (W := 3) (argsL := []) (st := [(.int f.toInt32), (.int (9 : Int32)), (.ref rb)]) (k' := 0) (n' := 0) (a := r) X (c_len (a := r) (b := rb) (cs := cs) G X.en P0) (w74 G) (w75 G) (nfM (z' := (⟨"java/lang/String", "indexOf", "(I)I"⟩ : MethodName)) rfl (w62 G)) (w77 G) (w76 G) P0.exa (w78 G) (w28 G) (by decide) (by decide) (by decide) rfl (lenOf pd22 rfl) rfl rfl (Nat.le_of_eq rfl) d_jdk_42_m80_14 rfl (by decide) (by decide) (by decide) (by decide) (kp fun T X => ?_)
  refine W.callS (pc' := 20) (W := 0) (argsL := [(.ref rb), (.int (9 : Int32)), (.int f.toInt32), (.int cs.length.toInt32)]) (st := []) (k' := 0) (n' := 0) X (c_io3 (b := rb) (cs := cs) (f := f) (i := i) G X.en P0.arr P0.lat P1 P2 P3 P4) (w84 G) (w85 G) (w87 G) (w86 G) (by decide) (by decide) (by decide) rfl (lenOf pd21 rfl) rfl rfl (Nat.le_of_eq rfl) d_jdk_42_m80_17 rfl (by decide) (by decide) (by decide) (by decide) (kp fun T X => ?_)
  refine W.goto (pc' := 36) X d_jdk_42_m80_20 (by decide) (by decide) ?_
  exact W.ireturn X d_jdk_42_m80_36 rfl (by decide) rfl (by decide) (by decide) ⟨rfl, rfl, rfl⟩
def c_io1_rm : Room := { frames := 3, cells := 0, slots := 0, locals := 46 }
set_option maxRecDepth 65536 in
set_option maxHeartbeats 40000000 in
theorem c_io1 {l : Launch} {Z : State} {a0 : Array Value} {zC : Int32} {fS : Value} {dO : Addr} {dT : Addr} {h : Heap} {B : Addr → Prop} {r rb : Addr} {cs : List Int32} {i : Nat} (G : Gl Z a0 zC fS dO dT) (hE : En Z B h) (P0 : Str Z h r rb cs) (P1 : i < cs.length) (P2 : cs.getD i 0 = 9) (P3 : ∀ j, j < i → cs.getD j 0 ≠ 9) : Con l Z consts_1 [] (⟨"java/lang/String", "indexOf", "(I)I"⟩ : MethodName) jdk_42_method_79_code 2 (some .int) c_io1_rm B h #[(.ref r), (.int (9 : Int32))] (fun vR hR BR => vR = some (.int i.toInt32) ∧ hR = h ∧ BR = B) := by
  have hz0 := hE.1.1
  refine Con.intro (ls := #[.val (.ref r), .val (.int (9 : Int32))]) (plainFor_of_name pn4) G.2.1 hE (fun m => by first | rfl | (simp [entryFrame, mkF, argsToLocals, Value.category]; done) | rfl) ?_
  intro pP eE sS mM blw mth cC T hs X
  refine W.aloadN (pc' := 1) X d_jdk_42_m79_0 rfl rfl rfl ?_
  refine W.iloadN (pc' := 2) X d_jdk_42_m79_1 rfl rfl ?_
  refine W.iconst (pc' := 3) X (0 : Int32) d_jdk_42_m79_2 (by decide) rfl ?_
  refine W.callV (pc' := 6) (W := 0) (argsL := [(.int (9 : Int32)), (.int (0 : Int32))]) (st := []) (k' := 0) (n' := 0) (a := r) X (c_io2 (r := r) (rb := rb) (cs := cs) (f := 0) (i := i) G X.en P0 (Nat.zero_le _) P1 P2 (fun j _ hj => P3 j hj)) (w64 G) (w65 G) (nfM (z' := (⟨"java/lang/String", "indexOf", "(I)I"⟩ : MethodName)) rfl (w62 G)) (w67 G) (w66 G) P0.exa (w68 G) (w28 G) (by decide) (by decide) (by decide) rfl (lenOf pd16 rfl) rfl rfl (Nat.le_of_eq rfl) d_jdk_42_m79_3 rfl (by decide) (by decide) (by decide) (by decide) (kp fun T X => ?_)
  exact W.ireturn X d_jdk_42_m79_6 rfl (by decide) rfl (by decide) (by decide) ⟨rfl, rfl, rfl⟩
def c_cft_rm : Room := { frames := 0, cells := 0, slots := 0, locals := 0 }
set_option maxRecDepth 65536 in
set_option maxHeartbeats 40000000 in
theorem c_cft {l : Launch} {Z : State} {a0 : Array Value} {zC : Int32} {fS : Value} {dO : Addr} {dT : Addr} {h : Heap} {B : Addr → Prop} {f t n : Nat} {g : Value} (G : Gl Z a0 zC fS dO dT) (hE : En Z B h) (P0 : f ≤ t) (P1 : t ≤ n) (P2 : n < 2 ^ 31) (P3 : g.isRef = true) : Con l Z consts_1 [] (⟨"jdk/internal/util/Preconditions", "checkFromToIndex", "(IIILjava/util/function/BiFunction;)I"⟩ : MethodName) jdk_41_method_12_code 4 (some .int) c_cft_rm B h #[(.int f.toInt32), (.int t.toInt32), (.int n.toInt32), g] (fun vR hR BR => vR = some (.int f.toInt32) ∧ hR = h ∧ BR = B) := by
  have hz0 := hE.1.1
  refine Con.intro (ls := #[.val (.int f.toInt32), .val (.int t.toInt32), .val (.int n.toInt32), .val g]) (plainFor_of_name pn7) G.2.1 hE (fun m => by cases g <;> first | rfl | (exact absurd P3 (by simp [Value.isRef])) | first | rfl | (simp [entryFrame, mkF, argsToLocals, Value.category]; done) | rfl) ?_
  intro pP eE sS mM blw mth cC T hs X
  refine W.iloadN (pc' := 1) X d_jdk_41_m12_0 rfl rfl ?_
  refine W.ifF (pc' := 4) X d_jdk_41_m12_1 (XT.i0_lt_f (len32 (by omega)).1) rfl ?_
  refine W.iloadN (pc' := 5) X d_jdk_41_m12_4 rfl rfl ?_
  refine W.iloadN (pc' := 6) X d_jdk_41_m12_5 rfl rfl ?_
  refine W.icF (pc' := 9) X d_jdk_41_m12_6 (XT.ii_gt_f (fun q => by have := (lt32 (by omega) (by omega)).mp q; omega)) rfl ?_
  refine W.iloadN (pc' := 10) X d_jdk_41_m12_9 rfl rfl ?_
  refine W.iloadN (pc' := 11) X d_jdk_41_m12_10 rfl rfl ?_
  refine W.icT (pc' := 22) X d_jdk_41_m12_11 (XT.ii_le_t (fun q => by have := (lt32 (by omega) (by omega)).mp q; omega)) (by decide) (by decide) ?_
  refine W.iloadN (pc' := 23) X d_jdk_41_m12_22 rfl rfl ?_
  exact W.ireturn X d_jdk_41_m12_23 rfl (by decide) rfl (by decide) (by decide) ⟨rfl, rfl, rfl⟩
def c_cbe_rm : Room := { frames := 1, cells := 0, slots := 0, locals := 15 }
set_option maxRecDepth 65536 in
set_option maxHeartbeats 40000000 in
theorem c_cbe {l : Launch} {Z : State} {a0 : Array Value} {zC : Int32} {fS : Value} {dO : Addr} {dT : Addr} {h : Heap} {B : Addr → Prop} {f t n : Nat} (G : Gl Z a0 zC fS dO dT) (hE : En Z B h) (P0 : f ≤ t) (P1 : t ≤ n) (P2 : n < 2 ^ 31) : Con l Z consts_1 [] (⟨"java/lang/String", "checkBoundsBeginEnd", "(III)V"⟩ : MethodName) jdk_42_method_158_code 3 none c_cbe_rm B h #[(.int f.toInt32), (.int t.toInt32), (.int n.toInt32)] (fun vR hR BR => vR = none ∧ hR = h ∧ BR = B) := by
  have hz0 := hE.1.1
  refine Con.intro (ls := #[.val (.int f.toInt32), .val (.int t.toInt32), .val (.int n.toInt32)]) (plainFor_of_name pn4) G.2.1 hE (fun m => by first | rfl | (simp [entryFrame, mkF, argsToLocals, Value.category]; done) | rfl) ?_
  intro pP eE sS mM blw mth cC T hs X
  refine W.iloadN (pc' := 1) X d_jdk_42_m158_0 rfl rfl ?_
  refine W.iloadN (pc' := 2) X d_jdk_42_m158_1 rfl rfl ?_
  refine W.iloadN (pc' := 3) X d_jdk_42_m158_2 rfl rfl ?_
  refine W.getS (pc' := 6) (host := "") X (Or.inl (w137 G)) Via.refl G.2.2.2.2.1 d_jdk_42_m158_3 rfl fun T X => ?_
  refine W.callS (pc' := 9) (W := 0) (argsL := [(.int f.toInt32), (.int t.toInt32), (.int n.toInt32), fS]) (st := []) (k' := 0) (n' := 0) X (c_cft (f := f) (t := t) (n := n) (g := fS) G X.en P0 P1 P2 G.2.2.2.2.2.1) (w139 G) (w140 G) (w141 G) (w138 G) (by decide) (by decide) (by decide) rfl (lenOf pd23 rfl) rfl rfl (Nat.le_of_eq rfl) d_jdk_42_m158_6 rfl (by decide) (by decide) (by decide) (by decide) (kp fun T X => ?_)
  refine W.popV (pc' := 10) X d_jdk_42_m158_9 rfl rfl ?_
  exact W.vreturn X d_jdk_42_m158_10 rfl (by decide) (by decide) ⟨rfl, rfl, rfl⟩
abbrev c_nstr_q (Z : State) (zC : Int32) (fS : Value) (dO : Addr) (dT : Addr) (h : Heap) (B : Addr → Prop) (b : Addr) (cs : List Int32) (f n : Nat) (xR : Value) (h' : Heap) (B' : Addr → Prop) : Prop := ∃ (t : Addr) (tb : Addr), xR = (.ref t) ∧ Keep h h' [] ∧ Str Z h' t tb (cs.drop f)
def c_nstr_rm : Room := { frames := 3, cells := 2, slots := 11, locals := 50 }
set_option maxRecDepth 65536 in
set_option maxHeartbeats 40000000 in
theorem c_nstr {l : Launch} {Z : State} {a0 : Array Value} {zC : Int32} {fS : Value} {dO : Addr} {dT : Addr} {h : Heap} {B : Addr → Prop} {b : Addr} {cs : List Int32} {f n : Nat} (G : Gl Z a0 zC fS dO dT) (hE : En Z B h) (P0 : Ar Z h b .byte (by8 cs)) (P1 : Lat cs) (P2 : f + n = cs.length) (P3 : 0 < f) (P4 : cs.length ≤ 7) : Con l Z consts_1 [] (⟨"java/lang/StringLatin1", "newString", "([BII)Ljava/lang/String;"⟩ : MethodName) jdk_43_method_47_code 3 (some (.object "java/lang/String")) c_nstr_rm B h #[(.ref b), (.int f.toInt32), (.int n.toInt32)] (fun vR hR BR => ∃ xR, vR = some xR ∧ c_nstr_q Z zC fS dO dT h B b cs f n xR hR BR) := by
  have hz0 := hE.1.1
  refine Con.intro (ls := #[.val (.ref b), .val (.int f.toInt32), .val (.int n.toInt32)]) (plainFor_of_name pn10) G.2.1 hE (fun m => by first | rfl | (simp [entryFrame, mkF, argsToLocals, Value.category]; done) | rfl) ?_
  intro pP eE sS mM blw mth cC T hs X
  have hL := P0.len_lt; rw [List.length_map] at hL
  refine W.iloadN (pc' := 1) X d_jdk_43_m47_0 rfl rfl ?_
  by_cases hz : n.toInt32 = (0 : Int32)
  · skip
    refine W.ifF (pc' := 4) X d_jdk_43_m47_1 (XT.i0_ne_f hz) rfl ?_
    refine W.ldcR (pc' := 6) (k' := 2) (n' := 4) (cap := 0) (cs := []) X (by decide) (w233 G) (watoms G) G.2.1 ⟨by decide, by decide⟩ (by unfold Lat; decide) (by decide) d_jdk_43_m47_4 (by decide) (by decide) rfl (by decide) (by decide) (by decide) (by decide) fun T h1 B5 a2 a6 X K3 zb4 S7 ne8 => ?_
    exact W.areturn X d_jdk_43_m47_6 rfl rfl rfl rfl (by decide) (by decide) ⟨_, rfl, ⟨a2, a6, rfl, (Keep.trans (Keep.refl h []) K3 all0), (strc S7 (by have h0 := (eq32 (b := 0) (by omega) (by decide)).mp hz; rw [List.drop_eq_nil_of_le (by omega)]))⟩⟩
  · skip
    refine W.ifT (pc' := 7) X d_jdk_43_m47_1 (XT.i0_ne_t hz) (by decide) (by decide) ?_
    refine W.new (pc' := 10) (k' := 1) (n' := 4) X (w145 G) (w27 G) (w28 G) d_jdk_43_m47_7 rfl (by decide) (by decide) (by decide) (by decide) fun T h9 a10 X K11 g12 g13 nb14 E15 D16 => ?_
    have F17 : Fld Z h9 a10 "java/lang/String" "coder" "B" (.int (0 : Int32)) := D16 (Or.inr (w52 G)) (ty := .byte) (by decide)
    have F18 : Fld Z h9 a10 "java/lang/String" "value" "[B" .null := D16 (Or.inr (w54 G)) (ty := (.array .byte)) (by decide)
    refine W.dup (pc' := 11) X d_jdk_43_m47_10 rfl rfl ?_
    refine W.aloadN (pc' := 12) X d_jdk_43_m47_11 rfl rfl rfl ?_
    refine W.iloadN (pc' := 13) X d_jdk_43_m47_12 rfl rfl ?_
    refine W.iloadN (pc' := 14) X d_jdk_43_m47_13 rfl rfl ?_
    refine W.iloadN (pc' := 15) X d_jdk_43_m47_14 rfl rfl ?_
    refine W.iadd (pc' := 16) (w := (f + n).toInt32) X d_jdk_43_m47_15 (add32 (by omega)) rfl ?_
    have F19 := (P0.keep K11 nin0)
    have en20 := X.en
    refine W.callS (pc' := 19) (W := 2) (argsL := [(.ref b), (.int f.toInt32), (.int (f + n).toInt32)]) (st := [(.ref a10), (.ref a10)]) (k' := 2) (n' := 11) X (c_cor (a := b) (vs := (by8 cs)) (f := f) (e := (f + n)) G X.en F19 (by omega) (by simp; omega) (by omega) (Or.inl P3)) (w146 G) (w147 G) (w149 G) (w148 G) (by decide) (by decide) (by decide) rfl (lenOf pd17 rfl) rfl rfl (Nat.le_of_eq rfl) d_jdk_43_m47_16 rfl (by decide) (by decide) (by decide) (by decide) (kr fun T h21 xr X z22 q23 => ?_)
    obtain ⟨a24, rfl, K25, g26, F27⟩ := q23
    have g28 : Z.heap.size ≤ a24 := Nat.le_trans (Nat.le_trans hz0 K11.1) g26
    have nb29 : ¬ B a24 := fun q => absurd (en20.2 _ q) (Nat.not_lt.mpr g26)
    refine W.iconst (pc' := 20) X (0 : Int32) d_jdk_43_m47_19 (by decide) rfl ?_
    have F30 := (E15.keep K25)
    have F31 := (F18.keep K25 nin0)
    have F32 := (F17.keep K25 nin0)
    refine W.callN (pc' := 23) (W := 1) (argsL := [(.ref a24), (.int (0 : Int32))]) (st := [(.ref a10)]) (k' := 2) (n' := 11) (a := a10) X (c_initBB (x := a10) (a := a24) (v0 := .null) (c0 := (.int (0 : Int32))) G X.en F30 F31 F32 g13 nb14) rfl (w161 G) (w122 G) (w123 G) (w28 G) (by decide) (by decide) (by decide) rfl (lenOf pd24 rfl) rfl rfl (Nat.le_of_eq rfl) d_jdk_43_m47_20 rfl (by decide) (by decide) (by decide) (by decide) (kv fun T h33 X z34 q35 => ?_)
    obtain ⟨K36, F37, F38⟩ := q35
    have F39 := (F30.keep K36)
    have F40 := (F27.keep K36 (ninS (Nat.ne_of_gt (Nat.lt_of_lt_of_le E15.lt (Nat.le_trans (Nat.le_refl _) g26))) nin0))
    exact W.areturn X d_jdk_43_m47_23 rfl rfl rfl rfl (by decide) (by decide) ⟨_, rfl, ⟨a10, a24, rfl, (Keep.trans (Keep.trans (Keep.trans (Keep.refl h []) K11 all0) K25 all0) K36 (allS (Or.inr (Nat.le_trans (Nat.le_refl _) g12)) all0)), ⟨F39, F38, F37, (by have q := F40; rw [by8_drop P2] at q; exact q), (lat_drop P1 _)⟩⟩⟩
abbrev c_sub2_q (Z : State) (zC : Int32) (fS : Value) (dO : Addr) (dT : Addr) (h : Heap) (B : Addr → Prop) (r rb : Addr) (cs : List Int32) (f : Nat) (xR : Value) (h' : Heap) (B' : Addr → Prop) : Prop := ∃ (t : Addr) (tb : Addr), xR = (.ref t) ∧ Keep h h' [] ∧ Str Z h' t tb (cs.drop f)
def c_sub2_rm : Room := { frames := 4, cells := 2, slots := 11, locals := 64 }
set_option maxRecDepth 65536 in
set_option maxHeartbeats 40000000 in
theorem c_sub2 {l : Launch} {Z : State} {a0 : Array Value} {zC : Int32} {fS : Value} {dO : Addr} {dT : Addr} {h : Heap} {B : Addr → Prop} {r rb : Addr} {cs : List Int32} {f : Nat} (G : Gl Z a0 zC fS dO dT) (hE : En Z B h) (P0 : Str Z h r rb cs) (P1 : 0 < f) (P2 : f ≤ cs.length) (P3 : cs.length ≤ 7) : Con l Z consts_1 [] (⟨"java/lang/String", "substring", "(II)Ljava/lang/String;"⟩ : MethodName) jdk_42_method_92_code 5 (some (.object "java/lang/String")) c_sub2_rm B h #[(.ref r), (.int f.toInt32), (.int cs.length.toInt32)] (fun vR hR BR => ∃ xR, vR = some xR ∧ c_sub2_q Z zC fS dO dT h B r rb cs f xR hR BR) := by
  have hz0 := hE.1.1
  refine Con.intro (ls := #[.val (.ref r), .val (.int f.toInt32), .val (.int cs.length.toInt32), .unset, .unset]) (plainFor_of_name pn4) G.2.1 hE (fun m => by first | rfl | (simp [entryFrame, mkF, argsToLocals, Value.category]; done) | rfl) ?_
  intro pP eE sS mM blw mth cC T hs X
  refine W.aloadN (pc' := 1) X d_jdk_42_m92_0 rfl rfl rfl ?_
  refine W.callV (pc' := 4) (W := 0) (argsL := []) (st := []) (k' := 0) (n' := 0) (a := r) X (c_len (a := r) (b := rb) (cs := cs) G X.en P0) (w74 G) (w75 G) (nfM (z' := (⟨"java/lang/String", "indexOf", "(I)I"⟩ : MethodName)) rfl (w62 G)) (w77 G) (w76 G) P0.exa (w78 G) (w28 G) (by decide) (by decide) (by decide) rfl (lenOf pd22 rfl) rfl rfl (Nat.le_of_eq rfl) d_jdk_42_m92_1 rfl (by decide) (by decide) (by decide) (by decide) (kp fun T X => ?_)
  refine W.istoreN (pc' := 5) (ls' := #[.val (.ref r), .val (.int f.toInt32), .val (.int cs.length.toInt32), .val (.int cs.length.toInt32), .unset]) X d_jdk_42_m92_4 rfl rfl ?_
  refine W.iloadN (pc' := 6) X d_jdk_42_m92_5 rfl rfl ?_
  refine W.iloadN (pc' := 7) X d_jdk_42_m92_6 rfl rfl ?_
  refine W.iloadN (pc' := 8) X d_jdk_42_m92_7 rfl rfl ?_
  refine W.callS (pc' := 11) (W := 0) (argsL := [(.int f.toInt32), (.int cs.length.toInt32), (.int cs.length.toInt32)]) (st := []) (k' := 0) (n' := 0) X (c_cbe (f := f) (t := cs.length) (n := cs.length) G X.en P2 (Nat.le_refl _) (by omega)) (w134 G) (w135 G) (w136 G) (w28 G) (by decide) (by decide) (by decide) rfl (lenOf pd25 rfl) rfl rfl (Nat.le_of_eq rfl) d_jdk_42_m92_8 rfl (by decide) (by decide) (by decide) (by decide) (kpv fun T X => ?_)
  refine W.iloadN (pc' := 12) X d_jdk_42_m92_11 rfl rfl ?_
  refine W.ifT (pc' := 22) X d_jdk_42_m92_12 (XT.i0_ne_t (fun q => by have := (eq32 (b := 0) (by omega) (by decide)).mp q; omega)) (by decide) (by decide) ?_
  refine W.iloadN (pc' := 23) X d_jdk_42_m92_22 rfl rfl ?_
  refine W.iloadN (pc' := 24) X d_jdk_42_m92_23 rfl rfl ?_
  refine W.isub (pc' := 25) (w := (cs.length - f).toInt32) X d_jdk_42_m92_24 (sub32 P2 (by omega)) rfl ?_
  refine W.istore (pc' := 27) (ls' := #[.val (.ref r), .val (.int f.toInt32), .val (.int cs.length.toInt32), .val (.int cs.length.toInt32), .val (.int (cs.length - f).toInt32)]) X d_jdk_42_m92_25 rfl rfl ?_
  refine W.aloadN (pc' := 28) X d_jdk_42_m92_27 rfl rfl rfl ?_
  refine W.callV (pc' := 31) (W := 0) (argsL := []) (st := []) (k' := 0) (n' := 0) (a := r) X (c_lat1 (a := r) (b := rb) (cs := cs) G X.en P0) (w69 G) (w70 G) (nfM (z' := (⟨"java/lang/String", "indexOf", "(I)I"⟩ : MethodName)) rfl (w62 G)) (w72 G) (w71 G) P0.exa (w73 G) (w28 G) (by decide) (by decide) (by decide) rfl (lenOf pd11 rfl) rfl rfl (Nat.le_of_eq rfl) d_jdk_42_m92_28 rfl (by decide) (by decide) (by decide) (by decide) (kp fun T X => ?_)
  refine W.ifF (pc' := 34) X d_jdk_42_m92_31 (by decide) rfl ?_
  refine W.aloadN (pc' := 35) X d_jdk_42_m92_34 rfl rfl rfl ?_
  refine W.getF (pc' := 38) X (w53 G) Via.refl P0.val d_jdk_42_m92_35 rfl fun T X => ?_
  refine W.iloadN (pc' := 39) X d_jdk_42_m92_38 rfl rfl ?_
  refine W.iload (pc' := 41) X d_jdk_42_m92_39 rfl rfl ?_
  refine W.callS (pc' := 44) (W := 0) (argsL := [(.ref rb), (.int f.toInt32), (.int (cs.length - f).toInt32)]) (st := []) (k' := 2) (n' := 11) X (c_nstr (b := rb) (cs := cs) (f := f) (n := (cs.length - f)) G X.en P0.arr P0.lat (by omega) P1 P3) (w142 G) (w143 G) (w144 G) (w86 G) (by decide) (by decide) (by decide) rfl (lenOf pd26 rfl) rfl rfl (Nat.le_of_eq rfl) d_jdk_42_m92_41 rfl (by decide) (by decide) (by decide) (by decide) (kri fun T h1 B4 xr X z2 zb5 q3 => ?_)
  obtain ⟨a6, a7, rfl, K8, F9⟩ := q3
  refine W.goto (pc' := 57) X d_jdk_42_m92_44 (by decide) (by decide) ?_
  exact W.areturn X d_jdk_42_m92_57 rfl rfl rfl rfl (by decide) (by decide) ⟨_, rfl, ⟨a6, a7, rfl, (Keep.trans (Keep.refl h []) K8 all0), F9⟩⟩
abbrev c_sub1_q (Z : State) (zC : Int32) (fS : Value) (dO : Addr) (dT : Addr) (h : Heap) (B : Addr → Prop) (r rb : Addr) (cs : List Int32) (f : Nat) (xR : Value) (h' : Heap) (B' : Addr → Prop) : Prop := ∃ (t : Addr) (tb : Addr), xR = (.ref t) ∧ Keep h h' [] ∧ Str Z h' t tb (cs.drop f)
def c_sub1_rm : Room := { frames := 5, cells := 2, slots := 11, locals := 80 }
set_option maxRecDepth 65536 in
set_option maxHeartbeats 40000000 in
theorem c_sub1 {l : Launch} {Z : State} {a0 : Array Value} {zC : Int32} {fS : Value} {dO : Addr} {dT : Addr} {h : Heap} {B : Addr → Prop} {r rb : Addr} {cs : List Int32} {f : Nat} (G : Gl Z a0 zC fS dO dT) (hE : En Z B h) (P0 : Str Z h r rb cs) (P1 : 0 < f) (P2 : f ≤ cs.length) (P3 : cs.length ≤ 7) : Con l Z consts_1 [] (⟨"java/lang/String", "substring", "(I)Ljava/lang/String;"⟩ : MethodName) jdk_42_method_91_code 2 (some (.object "java/lang/String")) c_sub1_rm B h #[(.ref r), (.int f.toInt32)] (fun vR hR BR => ∃ xR, vR = some xR ∧ c_sub1_q Z zC fS dO dT h B r rb cs f xR hR BR) := by
  have hz0 := hE.1.1
  refine Con.intro (ls := #[.val (.ref r), .val (.int f.toInt32)]) (plainFor_of_name pn4) G.2.1 hE (fun m => by first | rfl | (simp [entryFrame, mkF, argsToLocals, Value.category]; done) | rfl) ?_
  intro pP eE sS mM blw mth cC T hs X
  refine W.aloadN (pc' := 1) X d_jdk_42_m91_0 rfl rfl rfl ?_
  refine W.iloadN (pc' := 2) X d_jdk_42_m91_1 rfl rfl ?_
  refine W.aloadN (pc' := 3) X d_jdk_42_m91_2 rfl rfl rfl ?_
  refine W.callV (pc' := 6) (W := 2) (argsL := []) (st := [(.int f.toInt32), (.ref r)]) (k' := 0) (n' := 0) (a := r) X (c_len (a := r) (b := rb) (cs := cs) G X.en P0) (w74 G) (w75 G) (nfM (z' := (⟨"java/lang/String", "indexOf", "(I)I"⟩ : MethodName)) rfl (w62 G)) (w77 G) (w76 G) P0.exa (w78 G) (w28 G) (by decide) (by decide) (by decide) rfl (lenOf pd22 rfl) rfl rfl (Nat.le_of_eq rfl) d_jdk_42_m91_3 rfl (by decide) (by decide) (by decide) (by decide) (kp fun T X => ?_)
  refine W.callV (pc' := 9) (W := 0) (argsL := [(.int f.toInt32), (.int cs.length.toInt32)]) (st := []) (k' := 2) (n' := 11) (a := r) X (c_sub2 (r := r) (rb := rb) (cs := cs) (f := f) G X.en P0 P1 P2 P3) (w129 G) (w130 G) (nfM (z' := (⟨"java/lang/String", "indexOf", "(I)I"⟩ : MethodName)) rfl (w62 G)) (w132 G) (w131 G) P0.exa (w133 G) (w28 G) (by decide) (by decide) (by decide) rfl (lenOf pd27 rfl) rfl rfl (Nat.le_of_eq rfl) d_jdk_42_m91_6 rfl (by decide) (by decide) (by decide) (by decide) (kri fun T h1 B4 xr X z2 zb5 q3 => ?_)
  obtain ⟨a6, a7, rfl, K8, F9⟩ := q3
  exact W.areturn X d_jdk_42_m91_9 rfl rfl rfl rfl (by decide) (by decide) ⟨_, rfl, ⟨a6, a7, rfl, (Keep.trans (Keep.refl h []) K8 all0), F9⟩⟩
def c_ssz_rm : Room := { frames := 0, cells := 0, slots := 0, locals := 0 }
set_option maxRecDepth 65536 in
set_option maxHeartbeats 40000000 in
theorem c_ssz {l : Launch} {Z : State} {a0 : Array Value} {zC : Int32} {fS : Value} {dO : Addr} {dT : Addr} {h : Heap} {B : Addr → Prop} {x : Int64} (G : Gl Z a0 zC fS dO dT) (hE : En Z B h)  : Con l Z consts_1 [] (⟨"java/lang/Long", "stringSize", "(J)I"⟩ : MethodName) jdk_35_method_15_code 6 (some .int) c_ssz_rm B h #[(.long x)] (fun vR hR BR => vR = some (.int (lstr x).length.toInt32) ∧ hR = h ∧ BR = B) := by
  have hz0 := hE.1.1
  refine Con.intro (ls := #[.val (.long x), .second, .unset, .unset, .unset, .unset]) (plainFor_of_name pn28) G.2.1 hE (fun m => by first | rfl | (simp [entryFrame, mkF, argsToLocals, Value.category]; done) | rfl) ?_
  intro pP eE sS mM blw mth cC T hs X
  have s13 : ∀ (w : Int64) (b : Bool) (T : State), w.toInt = -(nabs x : Int) → b = decide (x < 0) → Wk l Z consts_1 (⟨"java/lang/Long", "stringSize", "(J)I"⟩ : MethodName) jdk_35_method_15_code 6 (some .int) c_ssz_rm B pP eE sS mM #[(.long x)] blw mth cC B T h 0 0 → Go l Z consts_1 c_ssz_rm B (fun vR hR BR => vR = some (.int (lstr x).length.toInt32) ∧ hR = h ∧ BR = B) pP eE sS mM blw T 13 #[.val (.long w), .second, .val (.int (b2i b)), .unset, .unset, .unset] [] := by
    intro w b T hw hb X
    have loop : ∀ (k i : Nat) (q : Int64) (T : State), i + k = 19 → 1 ≤ i → (i ≤ 18 → q.toInt = -((10 ^ i : Nat) : Int)) → (i = 1 ∨ 10 ^ (i - 1) ≤ nabs x) → Wk l Z consts_1 (⟨"java/lang/Long", "stringSize", "(J)I"⟩ : MethodName) jdk_35_method_15_code 6 (some .int) c_ssz_rm B pP eE sS mM #[(.long x)] blw mth cC B T h 0 0 → Go l Z consts_1 c_ssz_rm B (fun vR hR BR => vR = some (.int (lstr x).length.toInt32) ∧ hR = h ∧ BR = B) pP eE sS mM blw T 20 #[.val (.long w), .second, .val (.int (b2i b)), .val (.long q), .second, .val (.int i.toInt32)] [] := by
      intro k
      induction k with
      | zero =>
        intro i q T hi h1 hq h2 X
        obtain rfl : i = 19 := by omega
        refine W.iload (pc' := 22) X d_jdk_35_m15_20 rfl rfl ?_
        refine W.bipush (pc' := 24) X (19 : Int32) d_jdk_35_m15_22 (by decide) rfl ?_
        refine W.icT (pc' := 50) X d_jdk_35_m15_24 (XT.ii_ge_t (fun z => absurd z (by decide))) (by decide) (by decide) ?_
        refine W.bipush (pc' := 52) X (19 : Int32) d_jdk_35_m15_50 (by decide) rfl ?_
        refine W.iloadN (pc' := 53) X d_jdk_35_m15_52 rfl rfl ?_
        refine W.iadd (pc' := 54) (w := (lstr x).length.toInt32) X d_jdk_35_m15_53 (ssz (i := 19) (len_eq h1 (n19 x) h2) hb) rfl ?_
        exact W.ireturn X d_jdk_35_m15_54 rfl (by decide) rfl (by decide) (by decide) ⟨rfl, rfl, rfl⟩
      | succ k ih =>
        intro i q T hi h1 hq h2 X
        have hq' := hq (by omega)
        refine W.iload (pc' := 22) X d_jdk_35_m15_20 rfl rfl ?_
        refine W.bipush (pc' := 24) X (19 : Int32) d_jdk_35_m15_22 (by decide) rfl ?_
        refine W.icF (pc' := 27) X d_jdk_35_m15_24 (XT.ii_ge_f ((lt32 (b := 19) (by omega) (by decide)).mpr (by omega))) rfl ?_
        refine W.lloadN (pc' := 28) X d_jdk_35_m15_27 rfl rfl ?_
        refine W.lloadN (pc' := 29) X d_jdk_35_m15_28 rfl rfl ?_
        refine W.lcmp (pc' := 30) (w := (XT.cmpL w q)) X d_jdk_35_m15_29 rfl rfl ?_
        by_cases hg1 : q < w
        · skip
          refine W.ifF (pc' := 33) X d_jdk_35_m15_30 (XT.ll_le_f hg1) rfl ?_
          refine W.iload (pc' := 35) X d_jdk_35_m15_33 rfl rfl ?_
          refine W.iloadN (pc' := 36) X d_jdk_35_m15_35 rfl rfl ?_
          refine W.iadd (pc' := 37) (w := (lstr x).length.toInt32) X d_jdk_35_m15_36 (ssz (len_eq h1 ((ltL hw hq').mp hg1) h2) hb) rfl ?_
          exact W.ireturn X d_jdk_35_m15_37 rfl (by decide) rfl (by decide) (by decide) ⟨rfl, rfl, rfl⟩
        · skip
          refine W.ifT (pc' := 38) X d_jdk_35_m15_30 (XT.ll_le_t hg1) (by decide) (by decide) ?_
          refine W.ldcJ (pc' := 41) X (w213 G) d_jdk_35_m15_38 rfl ?_
          refine W.lloadN (pc' := 42) X d_jdk_35_m15_41 rfl rfl ?_
          refine W.lmul (pc' := 43) (w := ((10 : Int64) * q)) X d_jdk_35_m15_42 rfl rfl ?_
          refine W.lstoreN (pc' := 44) (ls' := #[.val (.long w), .second, .val (.int (b2i b)), .val (.long ((10 : Int64) * q)), .second, .val (.int i.toInt32)]) X d_jdk_35_m15_43 rfl rfl ?_
          refine W.iinc (pc' := 47) (ls' := #[.val (.long w), .second, .val (.int (b2i b)), .val (.long ((10 : Int64) * q)), .second, .val (.int (i + 1).toInt32)]) X (1 : Int32) (w := (i + 1).toInt32) d_jdk_35_m15_44 (by decide) rfl (t32s i) rfl rfl ?_
          refine W.goto (pc' := 20) X d_jdk_35_m15_47 (by decide) (by decide) ?_
          exact ih (i + 1) _ T (by omega) (by omega) (fun z => mul10 z hq') (Or.inr (Nat.le_of_not_lt fun z => hg1 ((ltL hw hq').mpr z))) X
    refine W.ldcJ (pc' := 16) X (w112 G) d_jdk_35_m15_13 rfl ?_
    refine W.lstoreN (pc' := 17) (ls' := #[.val (.long w), .second, .val (.int (b2i b)), .val (.long (-10 : Int64)), .second, .unset]) X d_jdk_35_m15_16 rfl rfl ?_
    refine W.iconst (pc' := 18) X (1 : Int32) d_jdk_35_m15_17 (by decide) rfl ?_
    refine W.istore (pc' := 20) (ls' := #[.val (.long w), .second, .val (.int (b2i b)), .val (.long (-10 : Int64)), .second, .val (.int (1 : Int32))]) X d_jdk_35_m15_18 rfl rfl ?_
    exact loop 18 1 _ T (by omega) (by omega) (fun _ => by decide) (Or.inl rfl) X
  refine W.iconst (pc' := 1) X (1 : Int32) d_jdk_35_m15_0 (by decide) rfl ?_
  refine W.istoreN (pc' := 2) (ls' := #[.val (.long x), .second, .val (.int (1 : Int32)), .unset, .unset, .unset]) X d_jdk_35_m15_1 rfl rfl ?_
  refine W.lloadN (pc' := 3) X d_jdk_35_m15_2 rfl rfl ?_
  refine W.lconst (pc' := 4) X (0 : Int64) d_jdk_35_m15_3 (by decide) rfl ?_
  refine W.lcmp (pc' := 5) (w := (XT.cmpL x (0 : Int64))) X d_jdk_35_m15_4 rfl rfl ?_
  by_cases hs : x < (0 : Int64)
  · skip
    refine W.ifT (pc' := 13) X d_jdk_35_m15_5 (XT.ll_lt_t hs) (by decide) (by decide) ?_
    exact s13 x true T (neg_n hs) (decide_eq_true hs).symm X
  · skip
    refine W.ifF (pc' := 8) X d_jdk_35_m15_5 (XT.ll_lt_f hs) rfl ?_
    refine W.iconst (pc' := 9) X (0 : Int32) d_jdk_35_m15_8 (by decide) rfl ?_
    refine W.istoreN (pc' := 10) (ls' := #[.val (.long x), .second, .val (.int (0 : Int32)), .unset, .unset, .unset]) X d_jdk_35_m15_9 rfl rfl ?_
    refine W.lloadN (pc' := 11) X d_jdk_35_m15_10 rfl rfl ?_
    refine W.lneg (pc' := 12) (w := (-x)) X d_jdk_35_m15_11 rfl rfl ?_
    refine W.lstoreN (pc' := 13) (ls' := #[.val (.long (-x)), .second, .val (.int (0 : Int32)), .unset, .unset, .unset]) X d_jdk_35_m15_12 rfl rfl ?_
    exact s13 (-x) false T (neg_p hs) (decide_eq_false hs).symm X
abbrev c_gch_q (Z : State) (zC : Int32) (fS : Value) (dO : Addr) (dT : Addr) (h : Heap) (B : Addr → Prop) (x : Int64) (n : Nat) (d : Addr) (us : List Value) (xR : Value) (h' : Heap) : Prop := xR = (.int (0 : Int32)) ∧ Keep h h' [d] ∧ Ar Z h' d .byte (by8 (lstr x))
def c_gch_rm : Room := { frames := 0, cells := 0, slots := 0, locals := 0 }
set_option maxRecDepth 65536 in
set_option maxHeartbeats 40000000 in
theorem c_gch {l : Launch} {Z : State} {a0 : Array Value} {zC : Int32} {fS : Value} {dO : Addr} {dT : Addr} {h : Heap} {B : Addr → Prop} {x : Int64} {n : Nat} {d : Addr} {us : List Value} (G : Gl Z a0 zC fS dO dT) (hE : En Z B h) (P0 : Ar Z h d .byte us) (P1 : us.length = n) (P2 : n = (lstr x).length) (P3 : Z.heap.size ≤ d) (P4 : ¬ B d) : Con l Z consts_1 [] (⟨"java/lang/Long", "getChars", "(JI[B)I"⟩ : MethodName) jdk_35_method_14_code 11 (some .int) c_gch_rm B h #[(.long x), (.int n.toInt32), (.ref d)] (fun vR hR BR => ∃ xR, vR = some xR ∧ BR = B ∧ c_gch_q Z zC fS dO dT h B x n d us xR hR) := by
  have hz0 := hE.1.1
  refine Con.intro (ls := #[.val (.long x), .second, .val (.int n.toInt32), .val (.ref d), .unset, .unset, .unset, .unset, .unset, .unset, .unset]) (plainFor_of_name pn28) G.2.1 hE (fun m => by first | (simp [entryFrame, mkF, argsToLocals, Value.category]; done) | rfl) ?_
  intro pP eE sS mM blw mth cC T hs X
  have hn20 := lstr_20 x
  have hln := lstr_len x
  have lp2 : ∀ (m t : Nat) (tl : List Int32) (w : Int64) (y : Int32) (b : Bool) (o4 o5 o6 o9 : Slot) (T : State) (hq : Heap), y.toInt = -(m : Int) → digs (nabs x) = digs m ++ tl → tl.length = t → b = decide (x < 0) → (o6 = .unset ∨ ∃ v, o6 = .val (.int v)) → (o9 = .unset ∨ ∃ v, o9 = .val (.int v)) → Wk l Z consts_1 (⟨"java/lang/Long", "getChars", "(JI[B)I"⟩ : MethodName) jdk_35_method_14_code 11 (some .int) c_gch_rm B pP eE sS mM #[(.long x), (.int n.toInt32), (.ref d)] blw mth cC B T hq 0 0 → Keep h hq [d] → Ar Z hq d .byte (us.take (n - t) ++ by8 tl) → Go l Z consts_1 c_gch_rm B (fun vR hR BR => ∃ xR, vR = some xR ∧ BR = B ∧ c_gch_q Z zC fS dO dT h B x n d us xR hR) pP eE sS mM blw T 86 #[.val (.long w), .second, .val (.int n.toInt32), .val (.ref d), o4, o5, o6, .val (.int (n - t).toInt32), .val (.int (b2i b)), o9, .val (.int y)] [] := by
    intro m
    induction m using Nat.strongRecOn with
    | ind m ih =>
      intro t tl w y b o4 o5 o6 o9 T hq hy hdg htl hb ho6 ho9 X KL DL
      have hlen := congrArg List.length hdg; rw [List.length_append, htl] at hlen
      have hpos := digs_pos m
      have hsb : (sl b).length = (sl (decide (x < 0))).length := by rw [hb]
      rcases ho6 with rfl | ⟨v6, rfl⟩ <;> rcases ho9 with rfl | ⟨v9, rfl⟩
      · skip
        refine W.iload (pc' := 88) X d_jdk_35_m14_86 rfl rfl ?_
        refine W.bipush (pc' := 90) X (-100 : Int32) d_jdk_35_m14_88 (by decide) rfl ?_
        by_cases hg1 : (-100 : Int32) < y
        · skip
          refine W.icT (pc' := 143) X d_jdk_35_m14_90 (XT.ii_gt_t hg1) (by decide) (by decide) ?_
          have hm : m < 100 := (lt_y (P := 100) hy rfl).1.mp hg1
          refine W.aloadN (pc' := 144) X d_jdk_35_m14_143 rfl rfl rfl ?_
          refine W.iinc (pc' := 147) (ls' := #[.val (.long w), .second, .val (.int n.toInt32), .val (.ref d), o4, o5, .unset, .val (.int (n - (t + 1)).toInt32), .val (.int (b2i b)), .unset, .val (.int y)]) X (-1 : Int32) (w := (n - (t + 1)).toInt32) d_jdk_35_m14_144 (by decide) rfl (dec32 (by omega) (by omega)) rfl rfl ?_
          refine W.iload (pc' := 149) X d_jdk_35_m14_147 rfl rfl ?_
          refine W.getS (pc' := 152) (host := "") X (Or.inl (w118 G)) Via.refl G.2.2.2.2.2.2.1 d_jdk_35_m14_149 rfl fun T X => ?_
          refine W.iload (pc' := 154) X d_jdk_35_m14_152 rfl rfl ?_
          refine W.ineg (pc' := 155) (w := m.toInt32) X d_jdk_35_m14_154 (neg32 hy hm) rfl ?_
          have F1 := Ar.ext X.old G.2.2.2.2.2.2.2.2.1
          refine W.baload (pc' := 156) (v := (.int (dgc m))) X F1 (len32 (by omega)).1 (ones_get hm) d_jdk_35_m14_155 rfl ?_
          refine W.bastore (pc' := 157) (i := (n - (t + 1))) X DL (len32 (by omega)).1 (len32 (by omega)).2.1 (by rw [List.length_append, List.length_take]; simp; omega) (show nar .byte (dgc m : Int32) = (dgc m : Int32).toInt8.toInt32 from rfl) P3 P4 d_jdk_35_m14_156 rfl fun T h2 X K3 A4 => ?_
          have A4 : Ar Z h2 d .byte (us.take (n - (t + 1)) ++ by8 (dgc m :: tl)) := (by have q := A4; rw [put_dig (c := dgc m) (by omega) (by omega)] at q; exact q)
          refine W.iload (pc' := 159) X d_jdk_35_m14_157 rfl rfl ?_
          refine W.bipush (pc' := 161) X (-9 : Int32) d_jdk_35_m14_159 (by decide) rfl ?_
          by_cases hg2 : y < (-9 : Int32)
          · skip
            refine W.icF (pc' := 164) X d_jdk_35_m14_161 (XT.ii_ge_f hg2) rfl ?_
            have hm9 : 9 < m := (lt_y (P := 9) hy rfl).2.mp hg2
            have hl2 := congrArg List.length (digs_2 (n := m) (by omega) hm); simp only [List.length_cons, List.length_nil] at hl2
            refine W.aloadN (pc' := 165) X d_jdk_35_m14_164 rfl rfl rfl ?_
            refine W.iinc (pc' := 168) (ls' := #[.val (.long w), .second, .val (.int n.toInt32), .val (.ref d), o4, o5, .unset, .val (.int (n - (t + 2)).toInt32), .val (.int (b2i b)), .unset, .val (.int y)]) X (-1 : Int32) (w := (n - (t + 2)).toInt32) d_jdk_35_m14_165 (by decide) rfl (dec32 (by omega) (by omega)) rfl rfl ?_
            refine W.iload (pc' := 170) X d_jdk_35_m14_168 rfl rfl ?_
            refine W.getS (pc' := 173) (host := "") X (Or.inl (w215 G)) Via.refl G.2.2.2.2.2.2.2.1 d_jdk_35_m14_170 rfl fun T X => ?_
            refine W.iload (pc' := 175) X d_jdk_35_m14_173 rfl rfl ?_
            refine W.ineg (pc' := 176) (w := m.toInt32) X d_jdk_35_m14_175 (neg32 hy hm) rfl ?_
            have F5 := Ar.ext X.old G.2.2.2.2.2.2.2.2.2.1
            refine W.baload (pc' := 177) (v := (.int (dgc (m / 10)))) X F5 (len32 (by omega)).1 (tens_get hm) d_jdk_35_m14_176 rfl ?_
            refine W.bastore (pc' := 178) (i := (n - (t + 2))) X A4 (len32 (by omega)).1 (len32 (by omega)).2.1 (by rw [List.length_append, List.length_take]; simp; omega) (show nar .byte (dgc (m / 10) : Int32) = (dgc (m / 10) : Int32).toInt8.toInt32 from rfl) P3 P4 d_jdk_35_m14_177 rfl fun T h6 X K7 A8 => ?_
            have A8 : Ar Z h6 d .byte (us.take (n - (t + 2)) ++ by8 (dgc (m / 10) :: dgc m :: tl)) := (by have q := A8; rw [put_dig (c := dgc (m / 10)) (by omega) (by omega)] at q; exact q)
            have hsl : (b2i b = 0 → (sl b).length = 0) ∧ (¬ b2i b = 0 → (sl b).length = 1) := ⟨fun z => by rw [b2i0 z]; rfl, fun z => by rw [b2i1 z]; rfl⟩
            refine W.iload (pc' := 180) X d_jdk_35_m14_178 rfl rfl ?_
            by_cases hg3 : (b2i b) = (0 : Int32)
            · skip
              refine W.ifT (pc' := 192) X d_jdk_35_m14_180 (XT.i0_eq_t hg3) (by decide) (by decide) ?_
              have hz3 := hsl.1 hg3
              refine W.iload (pc' := 194) X d_jdk_35_m14_192 rfl rfl ?_
              exact W.ireturn X d_jdk_35_m14_194 rfl (by decide) rfl (by decide) (by decide) ⟨_, rfl, rfl, ⟨(congrArg Value.int (z0 (by omega))), (Keep.trans (Keep.trans (Keep.trans (Keep.refl h [d]) KL (allS (Or.inl (List.mem_of_getElem? (i := 0) rfl)) all0)) K3 (allS (Or.inl (List.mem_of_getElem? (i := 0) rfl)) all0)) K7 (allS (Or.inl (List.mem_of_getElem? (i := 0) rfl)) all0)), (fin_ch A8 (by omega) (by rw [lstr, ← hb, hdg, b2i0 hg3]; rw [digs_2 (by omega) hm]; rfl))⟩⟩
            · skip
              refine W.ifF (pc' := 183) X d_jdk_35_m14_180 (XT.i0_eq_f hg3) rfl ?_
              have hz3 := hsl.2 hg3
              refine W.aloadN (pc' := 184) X d_jdk_35_m14_183 rfl rfl rfl ?_
              refine W.iinc (pc' := 187) (ls' := #[.val (.long w), .second, .val (.int n.toInt32), .val (.ref d), o4, o5, .unset, .val (.int (n - (t + 3)).toInt32), .val (.int (b2i b)), .unset, .val (.int y)]) X (-1 : Int32) (w := (n - (t + 3)).toInt32) d_jdk_35_m14_184 (by decide) rfl (dec32 (by omega) (by omega)) rfl rfl ?_
              refine W.iload (pc' := 189) X d_jdk_35_m14_187 rfl rfl ?_
              refine W.bipush (pc' := 191) X (45 : Int32) d_jdk_35_m14_189 (by decide) rfl ?_
              refine W.bastore (pc' := 192) (i := (n - (t + 3))) X A8 (len32 (by omega)).1 (len32 (by omega)).2.1 (by rw [List.length_append, List.length_take]; simp; omega) (show nar .byte (45 : Int32) = (45 : Int32).toInt8.toInt32 from rfl) P3 P4 d_jdk_35_m14_191 rfl fun T h9 X K10 A11 => ?_
              have A11 : Ar Z h9 d .byte (us.take (n - (t + 3)) ++ by8 (45 :: dgc (m / 10) :: dgc m :: tl)) := (by have q := A11; rw [put_dig (c := 45) (by omega) (by omega)] at q; exact q)
              refine W.iload (pc' := 194) X d_jdk_35_m14_192 rfl rfl ?_
              exact W.ireturn X d_jdk_35_m14_194 rfl (by decide) rfl (by decide) (by decide) ⟨_, rfl, rfl, ⟨(congrArg Value.int (z0 (by omega))), (Keep.trans (Keep.trans (Keep.trans (Keep.trans (Keep.refl h [d]) KL (allS (Or.inl (List.mem_of_getElem? (i := 0) rfl)) all0)) K3 (allS (Or.inl (List.mem_of_getElem? (i := 0) rfl)) all0)) K7 (allS (Or.inl (List.mem_of_getElem? (i := 0) rfl)) all0)) K10 (allS (Or.inl (List.mem_of_getElem? (i := 0) rfl)) all0)), (fin_ch A11 (by omega) (by rw [lstr, ← hb, hdg, b2i1 hg3]; rw [digs_2 (by omega) hm]; rfl))⟩⟩
          · skip
            refine W.icT (pc' := 178) X d_jdk_35_m14_161 (XT.ii_ge_t hg2) (by decide) (by decide) ?_
            have hm9 : m < 10 := Nat.lt_of_not_le fun z => hg2 ((lt_y (P := 9) hy rfl).2.mpr (by omega))
            have hl2 := congrArg List.length (digs_1 hm9); simp only [List.length_cons, List.length_nil] at hl2
            have hsl : (b2i b = 0 → (sl b).length = 0) ∧ (¬ b2i b = 0 → (sl b).length = 1) := ⟨fun z => by rw [b2i0 z]; rfl, fun z => by rw [b2i1 z]; rfl⟩
            refine W.iload (pc' := 180) X d_jdk_35_m14_178 rfl rfl ?_
            by_cases hg3 : (b2i b) = (0 : Int32)
            · skip
              refine W.ifT (pc' := 192) X d_jdk_35_m14_180 (XT.i0_eq_t hg3) (by decide) (by decide) ?_
              have hz3 := hsl.1 hg3
              refine W.iload (pc' := 194) X d_jdk_35_m14_192 rfl rfl ?_
              exact W.ireturn X d_jdk_35_m14_194 rfl (by decide) rfl (by decide) (by decide) ⟨_, rfl, rfl, ⟨(congrArg Value.int (z0 (by omega))), (Keep.trans (Keep.trans (Keep.refl h [d]) KL (allS (Or.inl (List.mem_of_getElem? (i := 0) rfl)) all0)) K3 (allS (Or.inl (List.mem_of_getElem? (i := 0) rfl)) all0)), (fin_ch A4 (by omega) (by rw [lstr, ← hb, hdg, b2i0 hg3]; rw [digs_1 hm9]; rfl))⟩⟩
            · skip
              refine W.ifF (pc' := 183) X d_jdk_35_m14_180 (XT.i0_eq_f hg3) rfl ?_
              have hz3 := hsl.2 hg3
              refine W.aloadN (pc' := 184) X d_jdk_35_m14_183 rfl rfl rfl ?_
              refine W.iinc (pc' := 187) (ls' := #[.val (.long w), .second, .val (.int n.toInt32), .val (.ref d), o4, o5, .unset, .val (.int (n - (t + 2)).toInt32), .val (.int (b2i b)), .unset, .val (.int y)]) X (-1 : Int32) (w := (n - (t + 2)).toInt32) d_jdk_35_m14_184 (by decide) rfl (dec32 (by omega) (by omega)) rfl rfl ?_
              refine W.iload (pc' := 189) X d_jdk_35_m14_187 rfl rfl ?_
              refine W.bipush (pc' := 191) X (45 : Int32) d_jdk_35_m14_189 (by decide) rfl ?_
              refine W.bastore (pc' := 192) (i := (n - (t + 2))) X A4 (len32 (by omega)).1 (len32 (by omega)).2.1 (by rw [List.length_append, List.length_take]; simp; omega) (show nar .byte (45 : Int32) = (45 : Int32).toInt8.toInt32 from rfl) P3 P4 d_jdk_35_m14_191 rfl fun T h12 X K13 A14 => ?_
              have A14 : Ar Z h12 d .byte (us.take (n - (t + 2)) ++ by8 (45 :: dgc m :: tl)) := (by have q := A14; rw [put_dig (c := 45) (by omega) (by omega)] at q; exact q)
              refine W.iload (pc' := 194) X d_jdk_35_m14_192 rfl rfl ?_
              exact W.ireturn X d_jdk_35_m14_194 rfl (by decide) rfl (by decide) (by decide) ⟨_, rfl, rfl, ⟨(congrArg Value.int (z0 (by omega))), (Keep.trans (Keep.trans (Keep.trans (Keep.refl h [d]) KL (allS (Or.inl (List.mem_of_getElem? (i := 0) rfl)) all0)) K3 (allS (Or.inl (List.mem_of_getElem? (i := 0) rfl)) all0)) K13 (allS (Or.inl (List.mem_of_getElem? (i := 0) rfl)) all0)), (fin_ch A14 (by omega) (by rw [lstr, ← hb, hdg, b2i1 hg3]; rw [digs_1 hm9]; rfl))⟩⟩
        · skip
          refine W.icF (pc' := 93) X d_jdk_35_m14_90 (XT.ii_gt_f hg1) rfl ?_
          have hm : 100 ≤ m := Nat.le_of_not_lt fun z => hg1 ((lt_y (P := 100) hy rfl).1.mpr z)
          have hd3 := digs_3 hm
          have hl3 := congrArg List.length hd3; rw [List.length_append] at hl3; simp only [List.length_cons, List.length_nil] at hl3
          have hp3 := digs_pos (m / 100)
          refine W.iload (pc' := 95) X d_jdk_35_m14_93 rfl rfl ?_
          refine W.bipush (pc' := 97) X (100 : Int32) d_jdk_35_m14_95 (by decide) rfl ?_
          refine W.idiv (pc' := 98) (w := (y / (100 : Int32))) X d_jdk_35_m14_97 (by decide) rfl rfl ?_
          refine W.istore (pc' := 100) (ls' := #[.val (.long w), .second, .val (.int n.toInt32), .val (.ref d), o4, o5, .unset, .val (.int (n - t).toInt32), .val (.int (b2i b)), .val (.int (y / (100 : Int32))), .val (.int y)]) X d_jdk_35_m14_98 rfl rfl ?_
          refine W.iload (pc' := 102) X d_jdk_35_m14_100 rfl rfl ?_
          refine W.bipush (pc' := 104) X (100 : Int32) d_jdk_35_m14_102 (by decide) rfl ?_
          refine W.imul (pc' := 105) (w := ((y / (100 : Int32)) * (100 : Int32))) X d_jdk_35_m14_104 rfl rfl ?_
          refine W.iload (pc' := 107) X d_jdk_35_m14_105 rfl rfl ?_
          refine W.isub (pc' := 108) (w := (m % 100).toInt32) X d_jdk_35_m14_107 (rem100 hy).1 rfl ?_
          refine W.istore (pc' := 110) (ls' := #[.val (.long w), .second, .val (.int n.toInt32), .val (.ref d), o4, o5, .val (.int (m % 100).toInt32), .val (.int (n - t).toInt32), .val (.int (b2i b)), .val (.int (y / (100 : Int32))), .val (.int y)]) X d_jdk_35_m14_108 rfl rfl ?_
          refine W.iload (pc' := 112) X d_jdk_35_m14_110 rfl rfl ?_
          refine W.istore (pc' := 114) (ls' := #[.val (.long w), .second, .val (.int n.toInt32), .val (.ref d), o4, o5, .val (.int (m % 100).toInt32), .val (.int (n - t).toInt32), .val (.int (b2i b)), .val (.int (y / (100 : Int32))), .val (.int (y / (100 : Int32)))]) X d_jdk_35_m14_112 rfl rfl ?_
          refine W.aloadN (pc' := 115) X d_jdk_35_m14_114 rfl rfl rfl ?_
          refine W.iinc (pc' := 118) (ls' := #[.val (.long w), .second, .val (.int n.toInt32), .val (.ref d), o4, o5, .val (.int (m % 100).toInt32), .val (.int (n - (t + 1)).toInt32), .val (.int (b2i b)), .val (.int (y / (100 : Int32))), .val (.int (y / (100 : Int32)))]) X (-1 : Int32) (w := (n - (t + 1)).toInt32) d_jdk_35_m14_115 (by decide) rfl (dec32 (by omega) (by omega)) rfl rfl ?_
          refine W.iload (pc' := 120) X d_jdk_35_m14_118 rfl rfl ?_
          refine W.getS (pc' := 123) (host := "") X (Or.inl (w118 G)) Via.refl G.2.2.2.2.2.2.1 d_jdk_35_m14_120 rfl fun T X => ?_
          refine W.iload (pc' := 125) X d_jdk_35_m14_123 rfl rfl ?_
          have F15 := Ar.ext X.old G.2.2.2.2.2.2.2.2.1
          refine W.baload (pc' := 126) (v := (.int (dgc m))) X F15 (len32 (by omega)).1 (by rw [ones_get (by omega), dgc_mod]) d_jdk_35_m14_125 rfl ?_
          refine W.bastore (pc' := 127) (i := (n - (t + 1))) X DL (len32 (by omega)).1 (len32 (by omega)).2.1 (by rw [List.length_append, List.length_take]; simp; omega) (show nar .byte (dgc m : Int32) = (dgc m : Int32).toInt8.toInt32 from rfl) P3 P4 d_jdk_35_m14_126 rfl fun T h16 X K17 A18 => ?_
          have A18 : Ar Z h16 d .byte (us.take (n - (t + 1)) ++ by8 (dgc m :: tl)) := (by have q := A18; rw [put_dig (c := dgc m) (by omega) (by omega)] at q; exact q)
          refine W.aloadN (pc' := 128) X d_jdk_35_m14_127 rfl rfl rfl ?_
          refine W.iinc (pc' := 131) (ls' := #[.val (.long w), .second, .val (.int n.toInt32), .val (.ref d), o4, o5, .val (.int (m % 100).toInt32), .val (.int (n - (t + 2)).toInt32), .val (.int (b2i b)), .val (.int (y / (100 : Int32))), .val (.int (y / (100 : Int32)))]) X (-1 : Int32) (w := (n - (t + 2)).toInt32) d_jdk_35_m14_128 (by decide) rfl (dec32 (by omega) (by omega)) rfl rfl ?_
          refine W.iload (pc' := 133) X d_jdk_35_m14_131 rfl rfl ?_
          refine W.getS (pc' := 136) (host := "") X (Or.inl (w215 G)) Via.refl G.2.2.2.2.2.2.2.1 d_jdk_35_m14_133 rfl fun T X => ?_
          refine W.iload (pc' := 138) X d_jdk_35_m14_136 rfl rfl ?_
          have F19 := Ar.ext X.old G.2.2.2.2.2.2.2.2.2.1
          refine W.baload (pc' := 139) (v := (.int (dgc (m / 10)))) X F19 (len32 (by omega)).1 (by rw [tens_get (by omega), dgc_mod2]) d_jdk_35_m14_138 rfl ?_
          refine W.bastore (pc' := 140) (i := (n - (t + 2))) X A18 (len32 (by omega)).1 (len32 (by omega)).2.1 (by rw [List.length_append, List.length_take]; simp; omega) (show nar .byte (dgc (m / 10) : Int32) = (dgc (m / 10) : Int32).toInt8.toInt32 from rfl) P3 P4 d_jdk_35_m14_139 rfl fun T h20 X K21 A22 => ?_
          have A22 : Ar Z h20 d .byte (us.take (n - (t + 2)) ++ by8 (dgc (m / 10) :: dgc m :: tl)) := (by have q := A22; rw [put_dig (c := dgc (m / 10)) (by omega) (by omega)] at q; exact q)
          refine W.goto (pc' := 86) X d_jdk_35_m14_140 (by decide) (by decide) ?_
          exact ih (m / 100) (by omega) (t + 2) (dgc (m / 10) :: dgc m :: tl) w _ b o4 o5 _ _ T h20 (rem100 hy).2 (by rw [hdg, hd3, List.append_assoc]; rfl) (by simp [htl]) hb (Or.inr ⟨_, rfl⟩) (Or.inr ⟨_, rfl⟩) X (Keep.trans (Keep.trans (Keep.trans (Keep.refl h [d]) KL (allS (Or.inl (List.mem_of_getElem? (i := 0) rfl)) all0)) K17 (allS (Or.inl (List.mem_of_getElem? (i := 0) rfl)) all0)) K21 (allS (Or.inl (List.mem_of_getElem? (i := 0) rfl)) all0)) A22
      · skip
        refine W.iload (pc' := 88) X d_jdk_35_m14_86 rfl rfl ?_
        refine W.bipush (pc' := 90) X (-100 : Int32) d_jdk_35_m14_88 (by decide) rfl ?_
        by_cases hg1 : (-100 : Int32) < y
        · skip
          refine W.icT (pc' := 143) X d_jdk_35_m14_90 (XT.ii_gt_t hg1) (by decide) (by decide) ?_
          have hm : m < 100 := (lt_y (P := 100) hy rfl).1.mp hg1
          refine W.aloadN (pc' := 144) X d_jdk_35_m14_143 rfl rfl rfl ?_
          refine W.iinc (pc' := 147) (ls' := #[.val (.long w), .second, .val (.int n.toInt32), .val (.ref d), o4, o5, .unset, .val (.int (n - (t + 1)).toInt32), .val (.int (b2i b)), .val (.int v9), .val (.int y)]) X (-1 : Int32) (w := (n - (t + 1)).toInt32) d_jdk_35_m14_144 (by decide) rfl (dec32 (by omega) (by omega)) rfl rfl ?_
          refine W.iload (pc' := 149) X d_jdk_35_m14_147 rfl rfl ?_
          refine W.getS (pc' := 152) (host := "") X (Or.inl (w118 G)) Via.refl G.2.2.2.2.2.2.1 d_jdk_35_m14_149 rfl fun T X => ?_
          refine W.iload (pc' := 154) X d_jdk_35_m14_152 rfl rfl ?_
          refine W.ineg (pc' := 155) (w := m.toInt32) X d_jdk_35_m14_154 (neg32 hy hm) rfl ?_
          have F23 := Ar.ext X.old G.2.2.2.2.2.2.2.2.1
          refine W.baload (pc' := 156) (v := (.int (dgc m))) X F23 (len32 (by omega)).1 (ones_get hm) d_jdk_35_m14_155 rfl ?_
          refine W.bastore (pc' := 157) (i := (n - (t + 1))) X DL (len32 (by omega)).1 (len32 (by omega)).2.1 (by rw [List.length_append, List.length_take]; simp; omega) (show nar .byte (dgc m : Int32) = (dgc m : Int32).toInt8.toInt32 from rfl) P3 P4 d_jdk_35_m14_156 rfl fun T h24 X K25 A26 => ?_
          have A26 : Ar Z h24 d .byte (us.take (n - (t + 1)) ++ by8 (dgc m :: tl)) := (by have q := A26; rw [put_dig (c := dgc m) (by omega) (by omega)] at q; exact q)
          refine W.iload (pc' := 159) X d_jdk_35_m14_157 rfl rfl ?_
          refine W.bipush (pc' := 161) X (-9 : Int32) d_jdk_35_m14_159 (by decide) rfl ?_
          by_cases hg2 : y < (-9 : Int32)
          · skip
            refine W.icF (pc' := 164) X d_jdk_35_m14_161 (XT.ii_ge_f hg2) rfl ?_
            have hm9 : 9 < m := (lt_y (P := 9) hy rfl).2.mp hg2
            have hl2 := congrArg List.length (digs_2 (n := m) (by omega) hm); simp only [List.length_cons, List.length_nil] at hl2
            refine W.aloadN (pc' := 165) X d_jdk_35_m14_164 rfl rfl rfl ?_
            refine W.iinc (pc' := 168) (ls' := #[.val (.long w), .second, .val (.int n.toInt32), .val (.ref d), o4, o5, .unset, .val (.int (n - (t + 2)).toInt32), .val (.int (b2i b)), .val (.int v9), .val (.int y)]) X (-1 : Int32) (w := (n - (t + 2)).toInt32) d_jdk_35_m14_165 (by decide) rfl (dec32 (by omega) (by omega)) rfl rfl ?_
            refine W.iload (pc' := 170) X d_jdk_35_m14_168 rfl rfl ?_
            refine W.getS (pc' := 173) (host := "") X (Or.inl (w215 G)) Via.refl G.2.2.2.2.2.2.2.1 d_jdk_35_m14_170 rfl fun T X => ?_
            refine W.iload (pc' := 175) X d_jdk_35_m14_173 rfl rfl ?_
            refine W.ineg (pc' := 176) (w := m.toInt32) X d_jdk_35_m14_175 (neg32 hy hm) rfl ?_
            have F27 := Ar.ext X.old G.2.2.2.2.2.2.2.2.2.1
            refine W.baload (pc' := 177) (v := (.int (dgc (m / 10)))) X F27 (len32 (by omega)).1 (tens_get hm) d_jdk_35_m14_176 rfl ?_
            refine W.bastore (pc' := 178) (i := (n - (t + 2))) X A26 (len32 (by omega)).1 (len32 (by omega)).2.1 (by rw [List.length_append, List.length_take]; simp; omega) (show nar .byte (dgc (m / 10) : Int32) = (dgc (m / 10) : Int32).toInt8.toInt32 from rfl) P3 P4 d_jdk_35_m14_177 rfl fun T h28 X K29 A30 => ?_
            have A30 : Ar Z h28 d .byte (us.take (n - (t + 2)) ++ by8 (dgc (m / 10) :: dgc m :: tl)) := (by have q := A30; rw [put_dig (c := dgc (m / 10)) (by omega) (by omega)] at q; exact q)
            have hsl : (b2i b = 0 → (sl b).length = 0) ∧ (¬ b2i b = 0 → (sl b).length = 1) := ⟨fun z => by rw [b2i0 z]; rfl, fun z => by rw [b2i1 z]; rfl⟩
            refine W.iload (pc' := 180) X d_jdk_35_m14_178 rfl rfl ?_
            by_cases hg3 : (b2i b) = (0 : Int32)
            · skip
              refine W.ifT (pc' := 192) X d_jdk_35_m14_180 (XT.i0_eq_t hg3) (by decide) (by decide) ?_
              have hz3 := hsl.1 hg3
              refine W.iload (pc' := 194) X d_jdk_35_m14_192 rfl rfl ?_
              exact W.ireturn X d_jdk_35_m14_194 rfl (by decide) rfl (by decide) (by decide) ⟨_, rfl, rfl, ⟨(congrArg Value.int (z0 (by omega))), (Keep.trans (Keep.trans (Keep.trans (Keep.refl h [d]) KL (allS (Or.inl (List.mem_of_getElem? (i := 0) rfl)) all0)) K25 (allS (Or.inl (List.mem_of_getElem? (i := 0) rfl)) all0)) K29 (allS (Or.inl (List.mem_of_getElem? (i := 0) rfl)) all0)), (fin_ch A30 (by omega) (by rw [lstr, ← hb, hdg, b2i0 hg3]; rw [digs_2 (by omega) hm]; rfl))⟩⟩
            · skip
              refine W.ifF (pc' := 183) X d_jdk_35_m14_180 (XT.i0_eq_f hg3) rfl ?_
              have hz3 := hsl.2 hg3
              refine W.aloadN (pc' := 184) X d_jdk_35_m14_183 rfl rfl rfl ?_
              refine W.iinc (pc' := 187) (ls' := #[.val (.long w), .second, .val (.int n.toInt32), .val (.ref d), o4, o5, .unset, .val (.int (n - (t + 3)).toInt32), .val (.int (b2i b)), .val (.int v9), .val (.int y)]) X (-1 : Int32) (w := (n - (t + 3)).toInt32) d_jdk_35_m14_184 (by decide) rfl (dec32 (by omega) (by omega)) rfl rfl ?_
              refine W.iload (pc' := 189) X d_jdk_35_m14_187 rfl rfl ?_
              refine W.bipush (pc' := 191) X (45 : Int32) d_jdk_35_m14_189 (by decide) rfl ?_
              refine W.bastore (pc' := 192) (i := (n - (t + 3))) X A30 (len32 (by omega)).1 (len32 (by omega)).2.1 (by rw [List.length_append, List.length_take]; simp; omega) (show nar .byte (45 : Int32) = (45 : Int32).toInt8.toInt32 from rfl) P3 P4 d_jdk_35_m14_191 rfl fun T h31 X K32 A33 => ?_
              have A33 : Ar Z h31 d .byte (us.take (n - (t + 3)) ++ by8 (45 :: dgc (m / 10) :: dgc m :: tl)) := (by have q := A33; rw [put_dig (c := 45) (by omega) (by omega)] at q; exact q)
              refine W.iload (pc' := 194) X d_jdk_35_m14_192 rfl rfl ?_
              exact W.ireturn X d_jdk_35_m14_194 rfl (by decide) rfl (by decide) (by decide) ⟨_, rfl, rfl, ⟨(congrArg Value.int (z0 (by omega))), (Keep.trans (Keep.trans (Keep.trans (Keep.trans (Keep.refl h [d]) KL (allS (Or.inl (List.mem_of_getElem? (i := 0) rfl)) all0)) K25 (allS (Or.inl (List.mem_of_getElem? (i := 0) rfl)) all0)) K29 (allS (Or.inl (List.mem_of_getElem? (i := 0) rfl)) all0)) K32 (allS (Or.inl (List.mem_of_getElem? (i := 0) rfl)) all0)), (fin_ch A33 (by omega) (by rw [lstr, ← hb, hdg, b2i1 hg3]; rw [digs_2 (by omega) hm]; rfl))⟩⟩
          · skip
            refine W.icT (pc' := 178) X d_jdk_35_m14_161 (XT.ii_ge_t hg2) (by decide) (by decide) ?_
            have hm9 : m < 10 := Nat.lt_of_not_le fun z => hg2 ((lt_y (P := 9) hy rfl).2.mpr (by omega))
            have hl2 := congrArg List.length (digs_1 hm9); simp only [List.length_cons, List.length_nil] at hl2
            have hsl : (b2i b = 0 → (sl b).length = 0) ∧ (¬ b2i b = 0 → (sl b).length = 1) := ⟨fun z => by rw [b2i0 z]; rfl, fun z => by rw [b2i1 z]; rfl⟩
            refine W.iload (pc' := 180) X d_jdk_35_m14_178 rfl rfl ?_
            by_cases hg3 : (b2i b) = (0 : Int32)
            · skip
              refine W.ifT (pc' := 192) X d_jdk_35_m14_180 (XT.i0_eq_t hg3) (by decide) (by decide) ?_
              have hz3 := hsl.1 hg3
              refine W.iload (pc' := 194) X d_jdk_35_m14_192 rfl rfl ?_
              exact W.ireturn X d_jdk_35_m14_194 rfl (by decide) rfl (by decide) (by decide) ⟨_, rfl, rfl, ⟨(congrArg Value.int (z0 (by omega))), (Keep.trans (Keep.trans (Keep.refl h [d]) KL (allS (Or.inl (List.mem_of_getElem? (i := 0) rfl)) all0)) K25 (allS (Or.inl (List.mem_of_getElem? (i := 0) rfl)) all0)), (fin_ch A26 (by omega) (by rw [lstr, ← hb, hdg, b2i0 hg3]; rw [digs_1 hm9]; rfl))⟩⟩
            · skip
              refine W.ifF (pc' := 183) X d_jdk_35_m14_180 (XT.i0_eq_f hg3) rfl ?_
              have hz3 := hsl.2 hg3
              refine W.aloadN (pc' := 184) X d_jdk_35_m14_183 rfl rfl rfl ?_
              refine W.iinc (pc' := 187) (ls' := #[.val (.long w), .second, .val (.int n.toInt32), .val (.ref d), o4, o5, .unset, .val (.int (n - (t + 2)).toInt32), .val (.int (b2i b)), .val (.int v9), .val (.int y)]) X (-1 : Int32) (w := (n - (t + 2)).toInt32) d_jdk_35_m14_184 (by decide) rfl (dec32 (by omega) (by omega)) rfl rfl ?_
              refine W.iload (pc' := 189) X d_jdk_35_m14_187 rfl rfl ?_
              refine W.bipush (pc' := 191) X (45 : Int32) d_jdk_35_m14_189 (by decide) rfl ?_
              refine W.bastore (pc' := 192) (i := (n - (t + 2))) X A26 (len32 (by omega)).1 (len32 (by omega)).2.1 (by rw [List.length_append, List.length_take]; simp; omega) (show nar .byte (45 : Int32) = (45 : Int32).toInt8.toInt32 from rfl) P3 P4 d_jdk_35_m14_191 rfl fun T h34 X K35 A36 => ?_
              have A36 : Ar Z h34 d .byte (us.take (n - (t + 2)) ++ by8 (45 :: dgc m :: tl)) := (by have q := A36; rw [put_dig (c := 45) (by omega) (by omega)] at q; exact q)
              refine W.iload (pc' := 194) X d_jdk_35_m14_192 rfl rfl ?_
              exact W.ireturn X d_jdk_35_m14_194 rfl (by decide) rfl (by decide) (by decide) ⟨_, rfl, rfl, ⟨(congrArg Value.int (z0 (by omega))), (Keep.trans (Keep.trans (Keep.trans (Keep.refl h [d]) KL (allS (Or.inl (List.mem_of_getElem? (i := 0) rfl)) all0)) K25 (allS (Or.inl (List.mem_of_getElem? (i := 0) rfl)) all0)) K35 (allS (Or.inl (List.mem_of_getElem? (i := 0) rfl)) all0)), (fin_ch A36 (by omega) (by rw [lstr, ← hb, hdg, b2i1 hg3]; rw [digs_1 hm9]; rfl))⟩⟩
        · skip
          refine W.icF (pc' := 93) X d_jdk_35_m14_90 (XT.ii_gt_f hg1) rfl ?_
          have hm : 100 ≤ m := Nat.le_of_not_lt fun z => hg1 ((lt_y (P := 100) hy rfl).1.mpr z)
          have hd3 := digs_3 hm
          have hl3 := congrArg List.length hd3; rw [List.length_append] at hl3; simp only [List.length_cons, List.length_nil] at hl3
          have hp3 := digs_pos (m / 100)
          refine W.iload (pc' := 95) X d_jdk_35_m14_93 rfl rfl ?_
          refine W.bipush (pc' := 97) X (100 : Int32) d_jdk_35_m14_95 (by decide) rfl ?_
          refine W.idiv (pc' := 98) (w := (y / (100 : Int32))) X d_jdk_35_m14_97 (by decide) rfl rfl ?_
          refine W.istore (pc' := 100) (ls' := #[.val (.long w), .second, .val (.int n.toInt32), .val (.ref d), o4, o5, .unset, .val (.int (n - t).toInt32), .val (.int (b2i b)), .val (.int (y / (100 : Int32))), .val (.int y)]) X d_jdk_35_m14_98 rfl rfl ?_
          refine W.iload (pc' := 102) X d_jdk_35_m14_100 rfl rfl ?_
          refine W.bipush (pc' := 104) X (100 : Int32) d_jdk_35_m14_102 (by decide) rfl ?_
          refine W.imul (pc' := 105) (w := ((y / (100 : Int32)) * (100 : Int32))) X d_jdk_35_m14_104 rfl rfl ?_
          refine W.iload (pc' := 107) X d_jdk_35_m14_105 rfl rfl ?_
          refine W.isub (pc' := 108) (w := (m % 100).toInt32) X d_jdk_35_m14_107 (rem100 hy).1 rfl ?_
          refine W.istore (pc' := 110) (ls' := #[.val (.long w), .second, .val (.int n.toInt32), .val (.ref d), o4, o5, .val (.int (m % 100).toInt32), .val (.int (n - t).toInt32), .val (.int (b2i b)), .val (.int (y / (100 : Int32))), .val (.int y)]) X d_jdk_35_m14_108 rfl rfl ?_
          refine W.iload (pc' := 112) X d_jdk_35_m14_110 rfl rfl ?_
          refine W.istore (pc' := 114) (ls' := #[.val (.long w), .second, .val (.int n.toInt32), .val (.ref d), o4, o5, .val (.int (m % 100).toInt32), .val (.int (n - t).toInt32), .val (.int (b2i b)), .val (.int (y / (100 : Int32))), .val (.int (y / (100 : Int32)))]) X d_jdk_35_m14_112 rfl rfl ?_
          refine W.aloadN (pc' := 115) X d_jdk_35_m14_114 rfl rfl rfl ?_
          refine W.iinc (pc' := 118) (ls' := #[.val (.long w), .second, .val (.int n.toInt32), .val (.ref d), o4, o5, .val (.int (m % 100).toInt32), .val (.int (n - (t + 1)).toInt32), .val (.int (b2i b)), .val (.int (y / (100 : Int32))), .val (.int (y / (100 : Int32)))]) X (-1 : Int32) (w := (n - (t + 1)).toInt32) d_jdk_35_m14_115 (by decide) rfl (dec32 (by omega) (by omega)) rfl rfl ?_
          refine W.iload (pc' := 120) X d_jdk_35_m14_118 rfl rfl ?_
          refine W.getS (pc' := 123) (host := "") X (Or.inl (w118 G)) Via.refl G.2.2.2.2.2.2.1 d_jdk_35_m14_120 rfl fun T X => ?_
          refine W.iload (pc' := 125) X d_jdk_35_m14_123 rfl rfl ?_
          have F37 := Ar.ext X.old G.2.2.2.2.2.2.2.2.1
          refine W.baload (pc' := 126) (v := (.int (dgc m))) X F37 (len32 (by omega)).1 (by rw [ones_get (by omega), dgc_mod]) d_jdk_35_m14_125 rfl ?_
          refine W.bastore (pc' := 127) (i := (n - (t + 1))) X DL (len32 (by omega)).1 (len32 (by omega)).2.1 (by rw [List.length_append, List.length_take]; simp; omega) (show nar .byte (dgc m : Int32) = (dgc m : Int32).toInt8.toInt32 from rfl) P3 P4 d_jdk_35_m14_126 rfl fun T h38 X K39 A40 => ?_
          have A40 : Ar Z h38 d .byte (us.take (n - (t + 1)) ++ by8 (dgc m :: tl)) := (by have q := A40; rw [put_dig (c := dgc m) (by omega) (by omega)] at q; exact q)
          refine W.aloadN (pc' := 128) X d_jdk_35_m14_127 rfl rfl rfl ?_
          refine W.iinc (pc' := 131) (ls' := #[.val (.long w), .second, .val (.int n.toInt32), .val (.ref d), o4, o5, .val (.int (m % 100).toInt32), .val (.int (n - (t + 2)).toInt32), .val (.int (b2i b)), .val (.int (y / (100 : Int32))), .val (.int (y / (100 : Int32)))]) X (-1 : Int32) (w := (n - (t + 2)).toInt32) d_jdk_35_m14_128 (by decide) rfl (dec32 (by omega) (by omega)) rfl rfl ?_
          refine W.iload (pc' := 133) X d_jdk_35_m14_131 rfl rfl ?_
          refine W.getS (pc' := 136) (host := "") X (Or.inl (w215 G)) Via.refl G.2.2.2.2.2.2.2.1 d_jdk_35_m14_133 rfl fun T X => ?_
          refine W.iload (pc' := 138) X d_jdk_35_m14_136 rfl rfl ?_
          have F41 := Ar.ext X.old G.2.2.2.2.2.2.2.2.2.1
          refine W.baload (pc' := 139) (v := (.int (dgc (m / 10)))) X F41 (len32 (by omega)).1 (by rw [tens_get (by omega), dgc_mod2]) d_jdk_35_m14_138 rfl ?_
          refine W.bastore (pc' := 140) (i := (n - (t + 2))) X A40 (len32 (by omega)).1 (len32 (by omega)).2.1 (by rw [List.length_append, List.length_take]; simp; omega) (show nar .byte (dgc (m / 10) : Int32) = (dgc (m / 10) : Int32).toInt8.toInt32 from rfl) P3 P4 d_jdk_35_m14_139 rfl fun T h42 X K43 A44 => ?_
          have A44 : Ar Z h42 d .byte (us.take (n - (t + 2)) ++ by8 (dgc (m / 10) :: dgc m :: tl)) := (by have q := A44; rw [put_dig (c := dgc (m / 10)) (by omega) (by omega)] at q; exact q)
          refine W.goto (pc' := 86) X d_jdk_35_m14_140 (by decide) (by decide) ?_
          exact ih (m / 100) (by omega) (t + 2) (dgc (m / 10) :: dgc m :: tl) w _ b o4 o5 _ _ T h42 (rem100 hy).2 (by rw [hdg, hd3, List.append_assoc]; rfl) (by simp [htl]) hb (Or.inr ⟨_, rfl⟩) (Or.inr ⟨_, rfl⟩) X (Keep.trans (Keep.trans (Keep.trans (Keep.refl h [d]) KL (allS (Or.inl (List.mem_of_getElem? (i := 0) rfl)) all0)) K39 (allS (Or.inl (List.mem_of_getElem? (i := 0) rfl)) all0)) K43 (allS (Or.inl (List.mem_of_getElem? (i := 0) rfl)) all0)) A44
      · skip
        refine W.iload (pc' := 88) X d_jdk_35_m14_86 rfl rfl ?_
        refine W.bipush (pc' := 90) X (-100 : Int32) d_jdk_35_m14_88 (by decide) rfl ?_
        by_cases hg1 : (-100 : Int32) < y
        · skip
          refine W.icT (pc' := 143) X d_jdk_35_m14_90 (XT.ii_gt_t hg1) (by decide) (by decide) ?_
          have hm : m < 100 := (lt_y (P := 100) hy rfl).1.mp hg1
          refine W.aloadN (pc' := 144) X d_jdk_35_m14_143 rfl rfl rfl ?_
          refine W.iinc (pc' := 147) (ls' := #[.val (.long w), .second, .val (.int n.toInt32), .val (.ref d), o4, o5, .val (.int v6), .val (.int (n - (t + 1)).toInt32), .val (.int (b2i b)), .unset, .val (.int y)]) X (-1 : Int32) (w := (n - (t + 1)).toInt32) d_jdk_35_m14_144 (by decide) rfl (dec32 (by omega) (by omega)) rfl rfl ?_
          refine W.iload (pc' := 149) X d_jdk_35_m14_147 rfl rfl ?_
          refine W.getS (pc' := 152) (host := "") X (Or.inl (w118 G)) Via.refl G.2.2.2.2.2.2.1 d_jdk_35_m14_149 rfl fun T X => ?_
          refine W.iload (pc' := 154) X d_jdk_35_m14_152 rfl rfl ?_
          refine W.ineg (pc' := 155) (w := m.toInt32) X d_jdk_35_m14_154 (neg32 hy hm) rfl ?_
          have F45 := Ar.ext X.old G.2.2.2.2.2.2.2.2.1
          refine W.baload (pc' := 156) (v := (.int (dgc m))) X F45 (len32 (by omega)).1 (ones_get hm) d_jdk_35_m14_155 rfl ?_
          refine W.bastore (pc' := 157) (i := (n - (t + 1))) X DL (len32 (by omega)).1 (len32 (by omega)).2.1 (by rw [List.length_append, List.length_take]; simp; omega) (show nar .byte (dgc m : Int32) = (dgc m : Int32).toInt8.toInt32 from rfl) P3 P4 d_jdk_35_m14_156 rfl fun T h46 X K47 A48 => ?_
          have A48 : Ar Z h46 d .byte (us.take (n - (t + 1)) ++ by8 (dgc m :: tl)) := (by have q := A48; rw [put_dig (c := dgc m) (by omega) (by omega)] at q; exact q)
          refine W.iload (pc' := 159) X d_jdk_35_m14_157 rfl rfl ?_
          refine W.bipush (pc' := 161) X (-9 : Int32) d_jdk_35_m14_159 (by decide) rfl ?_
          by_cases hg2 : y < (-9 : Int32)
          · skip
            refine W.icF (pc' := 164) X d_jdk_35_m14_161 (XT.ii_ge_f hg2) rfl ?_
            have hm9 : 9 < m := (lt_y (P := 9) hy rfl).2.mp hg2
            have hl2 := congrArg List.length (digs_2 (n := m) (by omega) hm); simp only [List.length_cons, List.length_nil] at hl2
            refine W.aloadN (pc' := 165) X d_jdk_35_m14_164 rfl rfl rfl ?_
            refine W.iinc (pc' := 168) (ls' := #[.val (.long w), .second, .val (.int n.toInt32), .val (.ref d), o4, o5, .val (.int v6), .val (.int (n - (t + 2)).toInt32), .val (.int (b2i b)), .unset, .val (.int y)]) X (-1 : Int32) (w := (n - (t + 2)).toInt32) d_jdk_35_m14_165 (by decide) rfl (dec32 (by omega) (by omega)) rfl rfl ?_
            refine W.iload (pc' := 170) X d_jdk_35_m14_168 rfl rfl ?_
            refine W.getS (pc' := 173) (host := "") X (Or.inl (w215 G)) Via.refl G.2.2.2.2.2.2.2.1 d_jdk_35_m14_170 rfl fun T X => ?_
            refine W.iload (pc' := 175) X d_jdk_35_m14_173 rfl rfl ?_
            refine W.ineg (pc' := 176) (w := m.toInt32) X d_jdk_35_m14_175 (neg32 hy hm) rfl ?_
            have F49 := Ar.ext X.old G.2.2.2.2.2.2.2.2.2.1
            refine W.baload (pc' := 177) (v := (.int (dgc (m / 10)))) X F49 (len32 (by omega)).1 (tens_get hm) d_jdk_35_m14_176 rfl ?_
            refine W.bastore (pc' := 178) (i := (n - (t + 2))) X A48 (len32 (by omega)).1 (len32 (by omega)).2.1 (by rw [List.length_append, List.length_take]; simp; omega) (show nar .byte (dgc (m / 10) : Int32) = (dgc (m / 10) : Int32).toInt8.toInt32 from rfl) P3 P4 d_jdk_35_m14_177 rfl fun T h50 X K51 A52 => ?_
            have A52 : Ar Z h50 d .byte (us.take (n - (t + 2)) ++ by8 (dgc (m / 10) :: dgc m :: tl)) := (by have q := A52; rw [put_dig (c := dgc (m / 10)) (by omega) (by omega)] at q; exact q)
            have hsl : (b2i b = 0 → (sl b).length = 0) ∧ (¬ b2i b = 0 → (sl b).length = 1) := ⟨fun z => by rw [b2i0 z]; rfl, fun z => by rw [b2i1 z]; rfl⟩
            refine W.iload (pc' := 180) X d_jdk_35_m14_178 rfl rfl ?_
            by_cases hg3 : (b2i b) = (0 : Int32)
            · skip
              refine W.ifT (pc' := 192) X d_jdk_35_m14_180 (XT.i0_eq_t hg3) (by decide) (by decide) ?_
              have hz3 := hsl.1 hg3
              refine W.iload (pc' := 194) X d_jdk_35_m14_192 rfl rfl ?_
              exact W.ireturn X d_jdk_35_m14_194 rfl (by decide) rfl (by decide) (by decide) ⟨_, rfl, rfl, ⟨(congrArg Value.int (z0 (by omega))), (Keep.trans (Keep.trans (Keep.trans (Keep.refl h [d]) KL (allS (Or.inl (List.mem_of_getElem? (i := 0) rfl)) all0)) K47 (allS (Or.inl (List.mem_of_getElem? (i := 0) rfl)) all0)) K51 (allS (Or.inl (List.mem_of_getElem? (i := 0) rfl)) all0)), (fin_ch A52 (by omega) (by rw [lstr, ← hb, hdg, b2i0 hg3]; rw [digs_2 (by omega) hm]; rfl))⟩⟩
            · skip
              refine W.ifF (pc' := 183) X d_jdk_35_m14_180 (XT.i0_eq_f hg3) rfl ?_
              have hz3 := hsl.2 hg3
              refine W.aloadN (pc' := 184) X d_jdk_35_m14_183 rfl rfl rfl ?_
              refine W.iinc (pc' := 187) (ls' := #[.val (.long w), .second, .val (.int n.toInt32), .val (.ref d), o4, o5, .val (.int v6), .val (.int (n - (t + 3)).toInt32), .val (.int (b2i b)), .unset, .val (.int y)]) X (-1 : Int32) (w := (n - (t + 3)).toInt32) d_jdk_35_m14_184 (by decide) rfl (dec32 (by omega) (by omega)) rfl rfl ?_
              refine W.iload (pc' := 189) X d_jdk_35_m14_187 rfl rfl ?_
              refine W.bipush (pc' := 191) X (45 : Int32) d_jdk_35_m14_189 (by decide) rfl ?_
              refine W.bastore (pc' := 192) (i := (n - (t + 3))) X A52 (len32 (by omega)).1 (len32 (by omega)).2.1 (by rw [List.length_append, List.length_take]; simp; omega) (show nar .byte (45 : Int32) = (45 : Int32).toInt8.toInt32 from rfl) P3 P4 d_jdk_35_m14_191 rfl fun T h53 X K54 A55 => ?_
              have A55 : Ar Z h53 d .byte (us.take (n - (t + 3)) ++ by8 (45 :: dgc (m / 10) :: dgc m :: tl)) := (by have q := A55; rw [put_dig (c := 45) (by omega) (by omega)] at q; exact q)
              refine W.iload (pc' := 194) X d_jdk_35_m14_192 rfl rfl ?_
              exact W.ireturn X d_jdk_35_m14_194 rfl (by decide) rfl (by decide) (by decide) ⟨_, rfl, rfl, ⟨(congrArg Value.int (z0 (by omega))), (Keep.trans (Keep.trans (Keep.trans (Keep.trans (Keep.refl h [d]) KL (allS (Or.inl (List.mem_of_getElem? (i := 0) rfl)) all0)) K47 (allS (Or.inl (List.mem_of_getElem? (i := 0) rfl)) all0)) K51 (allS (Or.inl (List.mem_of_getElem? (i := 0) rfl)) all0)) K54 (allS (Or.inl (List.mem_of_getElem? (i := 0) rfl)) all0)), (fin_ch A55 (by omega) (by rw [lstr, ← hb, hdg, b2i1 hg3]; rw [digs_2 (by omega) hm]; rfl))⟩⟩
          · skip
            refine W.icT (pc' := 178) X d_jdk_35_m14_161 (XT.ii_ge_t hg2) (by decide) (by decide) ?_
            have hm9 : m < 10 := Nat.lt_of_not_le fun z => hg2 ((lt_y (P := 9) hy rfl).2.mpr (by omega))
            have hl2 := congrArg List.length (digs_1 hm9); simp only [List.length_cons, List.length_nil] at hl2
            have hsl : (b2i b = 0 → (sl b).length = 0) ∧ (¬ b2i b = 0 → (sl b).length = 1) := ⟨fun z => by rw [b2i0 z]; rfl, fun z => by rw [b2i1 z]; rfl⟩
            refine W.iload (pc' := 180) X d_jdk_35_m14_178 rfl rfl ?_
            by_cases hg3 : (b2i b) = (0 : Int32)
            · skip
              refine W.ifT (pc' := 192) X d_jdk_35_m14_180 (XT.i0_eq_t hg3) (by decide) (by decide) ?_
              have hz3 := hsl.1 hg3
              refine W.iload (pc' := 194) X d_jdk_35_m14_192 rfl rfl ?_
              exact W.ireturn X d_jdk_35_m14_194 rfl (by decide) rfl (by decide) (by decide) ⟨_, rfl, rfl, ⟨(congrArg Value.int (z0 (by omega))), (Keep.trans (Keep.trans (Keep.refl h [d]) KL (allS (Or.inl (List.mem_of_getElem? (i := 0) rfl)) all0)) K47 (allS (Or.inl (List.mem_of_getElem? (i := 0) rfl)) all0)), (fin_ch A48 (by omega) (by rw [lstr, ← hb, hdg, b2i0 hg3]; rw [digs_1 hm9]; rfl))⟩⟩
            · skip
              refine W.ifF (pc' := 183) X d_jdk_35_m14_180 (XT.i0_eq_f hg3) rfl ?_
              have hz3 := hsl.2 hg3
              refine W.aloadN (pc' := 184) X d_jdk_35_m14_183 rfl rfl rfl ?_
              refine W.iinc (pc' := 187) (ls' := #[.val (.long w), .second, .val (.int n.toInt32), .val (.ref d), o4, o5, .val (.int v6), .val (.int (n - (t + 2)).toInt32), .val (.int (b2i b)), .unset, .val (.int y)]) X (-1 : Int32) (w := (n - (t + 2)).toInt32) d_jdk_35_m14_184 (by decide) rfl (dec32 (by omega) (by omega)) rfl rfl ?_
              refine W.iload (pc' := 189) X d_jdk_35_m14_187 rfl rfl ?_
              refine W.bipush (pc' := 191) X (45 : Int32) d_jdk_35_m14_189 (by decide) rfl ?_
              refine W.bastore (pc' := 192) (i := (n - (t + 2))) X A48 (len32 (by omega)).1 (len32 (by omega)).2.1 (by rw [List.length_append, List.length_take]; simp; omega) (show nar .byte (45 : Int32) = (45 : Int32).toInt8.toInt32 from rfl) P3 P4 d_jdk_35_m14_191 rfl fun T h56 X K57 A58 => ?_
              have A58 : Ar Z h56 d .byte (us.take (n - (t + 2)) ++ by8 (45 :: dgc m :: tl)) := (by have q := A58; rw [put_dig (c := 45) (by omega) (by omega)] at q; exact q)
              refine W.iload (pc' := 194) X d_jdk_35_m14_192 rfl rfl ?_
              exact W.ireturn X d_jdk_35_m14_194 rfl (by decide) rfl (by decide) (by decide) ⟨_, rfl, rfl, ⟨(congrArg Value.int (z0 (by omega))), (Keep.trans (Keep.trans (Keep.trans (Keep.refl h [d]) KL (allS (Or.inl (List.mem_of_getElem? (i := 0) rfl)) all0)) K47 (allS (Or.inl (List.mem_of_getElem? (i := 0) rfl)) all0)) K57 (allS (Or.inl (List.mem_of_getElem? (i := 0) rfl)) all0)), (fin_ch A58 (by omega) (by rw [lstr, ← hb, hdg, b2i1 hg3]; rw [digs_1 hm9]; rfl))⟩⟩
        · skip
          refine W.icF (pc' := 93) X d_jdk_35_m14_90 (XT.ii_gt_f hg1) rfl ?_
          have hm : 100 ≤ m := Nat.le_of_not_lt fun z => hg1 ((lt_y (P := 100) hy rfl).1.mpr z)
          have hd3 := digs_3 hm
          have hl3 := congrArg List.length hd3; rw [List.length_append] at hl3; simp only [List.length_cons, List.length_nil] at hl3
          have hp3 := digs_pos (m / 100)
          refine W.iload (pc' := 95) X d_jdk_35_m14_93 rfl rfl ?_
          refine W.bipush (pc' := 97) X (100 : Int32) d_jdk_35_m14_95 (by decide) rfl ?_
          refine W.idiv (pc' := 98) (w := (y / (100 : Int32))) X d_jdk_35_m14_97 (by decide) rfl rfl ?_
          refine W.istore (pc' := 100) (ls' := #[.val (.long w), .second, .val (.int n.toInt32), .val (.ref d), o4, o5, .val (.int v6), .val (.int (n - t).toInt32), .val (.int (b2i b)), .val (.int (y / (100 : Int32))), .val (.int y)]) X d_jdk_35_m14_98 rfl rfl ?_
          refine W.iload (pc' := 102) X d_jdk_35_m14_100 rfl rfl ?_
          refine W.bipush (pc' := 104) X (100 : Int32) d_jdk_35_m14_102 (by decide) rfl ?_
          refine W.imul (pc' := 105) (w := ((y / (100 : Int32)) * (100 : Int32))) X d_jdk_35_m14_104 rfl rfl ?_
          refine W.iload (pc' := 107) X d_jdk_35_m14_105 rfl rfl ?_
          refine W.isub (pc' := 108) (w := (m % 100).toInt32) X d_jdk_35_m14_107 (rem100 hy).1 rfl ?_
          refine W.istore (pc' := 110) (ls' := #[.val (.long w), .second, .val (.int n.toInt32), .val (.ref d), o4, o5, .val (.int (m % 100).toInt32), .val (.int (n - t).toInt32), .val (.int (b2i b)), .val (.int (y / (100 : Int32))), .val (.int y)]) X d_jdk_35_m14_108 rfl rfl ?_
          refine W.iload (pc' := 112) X d_jdk_35_m14_110 rfl rfl ?_
          refine W.istore (pc' := 114) (ls' := #[.val (.long w), .second, .val (.int n.toInt32), .val (.ref d), o4, o5, .val (.int (m % 100).toInt32), .val (.int (n - t).toInt32), .val (.int (b2i b)), .val (.int (y / (100 : Int32))), .val (.int (y / (100 : Int32)))]) X d_jdk_35_m14_112 rfl rfl ?_
          refine W.aloadN (pc' := 115) X d_jdk_35_m14_114 rfl rfl rfl ?_
          refine W.iinc (pc' := 118) (ls' := #[.val (.long w), .second, .val (.int n.toInt32), .val (.ref d), o4, o5, .val (.int (m % 100).toInt32), .val (.int (n - (t + 1)).toInt32), .val (.int (b2i b)), .val (.int (y / (100 : Int32))), .val (.int (y / (100 : Int32)))]) X (-1 : Int32) (w := (n - (t + 1)).toInt32) d_jdk_35_m14_115 (by decide) rfl (dec32 (by omega) (by omega)) rfl rfl ?_
          refine W.iload (pc' := 120) X d_jdk_35_m14_118 rfl rfl ?_
          refine W.getS (pc' := 123) (host := "") X (Or.inl (w118 G)) Via.refl G.2.2.2.2.2.2.1 d_jdk_35_m14_120 rfl fun T X => ?_
          refine W.iload (pc' := 125) X d_jdk_35_m14_123 rfl rfl ?_
          have F59 := Ar.ext X.old G.2.2.2.2.2.2.2.2.1
          refine W.baload (pc' := 126) (v := (.int (dgc m))) X F59 (len32 (by omega)).1 (by rw [ones_get (by omega), dgc_mod]) d_jdk_35_m14_125 rfl ?_
          refine W.bastore (pc' := 127) (i := (n - (t + 1))) X DL (len32 (by omega)).1 (len32 (by omega)).2.1 (by rw [List.length_append, List.length_take]; simp; omega) (show nar .byte (dgc m : Int32) = (dgc m : Int32).toInt8.toInt32 from rfl) P3 P4 d_jdk_35_m14_126 rfl fun T h60 X K61 A62 => ?_
          have A62 : Ar Z h60 d .byte (us.take (n - (t + 1)) ++ by8 (dgc m :: tl)) := (by have q := A62; rw [put_dig (c := dgc m) (by omega) (by omega)] at q; exact q)
          refine W.aloadN (pc' := 128) X d_jdk_35_m14_127 rfl rfl rfl ?_
          refine W.iinc (pc' := 131) (ls' := #[.val (.long w), .second, .val (.int n.toInt32), .val (.ref d), o4, o5, .val (.int (m % 100).toInt32), .val (.int (n - (t + 2)).toInt32), .val (.int (b2i b)), .val (.int (y / (100 : Int32))), .val (.int (y / (100 : Int32)))]) X (-1 : Int32) (w := (n - (t + 2)).toInt32) d_jdk_35_m14_128 (by decide) rfl (dec32 (by omega) (by omega)) rfl rfl ?_
          refine W.iload (pc' := 133) X d_jdk_35_m14_131 rfl rfl ?_
          refine W.getS (pc' := 136) (host := "") X (Or.inl (w215 G)) Via.refl G.2.2.2.2.2.2.2.1 d_jdk_35_m14_133 rfl fun T X => ?_
          refine W.iload (pc' := 138) X d_jdk_35_m14_136 rfl rfl ?_
          have F63 := Ar.ext X.old G.2.2.2.2.2.2.2.2.2.1
          refine W.baload (pc' := 139) (v := (.int (dgc (m / 10)))) X F63 (len32 (by omega)).1 (by rw [tens_get (by omega), dgc_mod2]) d_jdk_35_m14_138 rfl ?_
          refine W.bastore (pc' := 140) (i := (n - (t + 2))) X A62 (len32 (by omega)).1 (len32 (by omega)).2.1 (by rw [List.length_append, List.length_take]; simp; omega) (show nar .byte (dgc (m / 10) : Int32) = (dgc (m / 10) : Int32).toInt8.toInt32 from rfl) P3 P4 d_jdk_35_m14_139 rfl fun T h64 X K65 A66 => ?_
          have A66 : Ar Z h64 d .byte (us.take (n - (t + 2)) ++ by8 (dgc (m / 10) :: dgc m :: tl)) := (by have q := A66; rw [put_dig (c := dgc (m / 10)) (by omega) (by omega)] at q; exact q)
          refine W.goto (pc' := 86) X d_jdk_35_m14_140 (by decide) (by decide) ?_
          exact ih (m / 100) (by omega) (t + 2) (dgc (m / 10) :: dgc m :: tl) w _ b o4 o5 _ _ T h64 (rem100 hy).2 (by rw [hdg, hd3, List.append_assoc]; rfl) (by simp [htl]) hb (Or.inr ⟨_, rfl⟩) (Or.inr ⟨_, rfl⟩) X (Keep.trans (Keep.trans (Keep.trans (Keep.refl h [d]) KL (allS (Or.inl (List.mem_of_getElem? (i := 0) rfl)) all0)) K61 (allS (Or.inl (List.mem_of_getElem? (i := 0) rfl)) all0)) K65 (allS (Or.inl (List.mem_of_getElem? (i := 0) rfl)) all0)) A66
      · skip
        refine W.iload (pc' := 88) X d_jdk_35_m14_86 rfl rfl ?_
        refine W.bipush (pc' := 90) X (-100 : Int32) d_jdk_35_m14_88 (by decide) rfl ?_
        by_cases hg1 : (-100 : Int32) < y
        · skip
          refine W.icT (pc' := 143) X d_jdk_35_m14_90 (XT.ii_gt_t hg1) (by decide) (by decide) ?_
          have hm : m < 100 := (lt_y (P := 100) hy rfl).1.mp hg1
          refine W.aloadN (pc' := 144) X d_jdk_35_m14_143 rfl rfl rfl ?_
          refine W.iinc (pc' := 147) (ls' := #[.val (.long w), .second, .val (.int n.toInt32), .val (.ref d), o4, o5, .val (.int v6), .val (.int (n - (t + 1)).toInt32), .val (.int (b2i b)), .val (.int v9), .val (.int y)]) X (-1 : Int32) (w := (n - (t + 1)).toInt32) d_jdk_35_m14_144 (by decide) rfl (dec32 (by omega) (by omega)) rfl rfl ?_
          refine W.iload (pc' := 149) X d_jdk_35_m14_147 rfl rfl ?_
          refine W.getS (pc' := 152) (host := "") X (Or.inl (w118 G)) Via.refl G.2.2.2.2.2.2.1 d_jdk_35_m14_149 rfl fun T X => ?_
          refine W.iload (pc' := 154) X d_jdk_35_m14_152 rfl rfl ?_
          refine W.ineg (pc' := 155) (w := m.toInt32) X d_jdk_35_m14_154 (neg32 hy hm) rfl ?_
          have F67 := Ar.ext X.old G.2.2.2.2.2.2.2.2.1
          refine W.baload (pc' := 156) (v := (.int (dgc m))) X F67 (len32 (by omega)).1 (ones_get hm) d_jdk_35_m14_155 rfl ?_
          refine W.bastore (pc' := 157) (i := (n - (t + 1))) X DL (len32 (by omega)).1 (len32 (by omega)).2.1 (by rw [List.length_append, List.length_take]; simp; omega) (show nar .byte (dgc m : Int32) = (dgc m : Int32).toInt8.toInt32 from rfl) P3 P4 d_jdk_35_m14_156 rfl fun T h68 X K69 A70 => ?_
          have A70 : Ar Z h68 d .byte (us.take (n - (t + 1)) ++ by8 (dgc m :: tl)) := (by have q := A70; rw [put_dig (c := dgc m) (by omega) (by omega)] at q; exact q)
          refine W.iload (pc' := 159) X d_jdk_35_m14_157 rfl rfl ?_
          refine W.bipush (pc' := 161) X (-9 : Int32) d_jdk_35_m14_159 (by decide) rfl ?_
          by_cases hg2 : y < (-9 : Int32)
          · skip
            refine W.icF (pc' := 164) X d_jdk_35_m14_161 (XT.ii_ge_f hg2) rfl ?_
            have hm9 : 9 < m := (lt_y (P := 9) hy rfl).2.mp hg2
            have hl2 := congrArg List.length (digs_2 (n := m) (by omega) hm); simp only [List.length_cons, List.length_nil] at hl2
            refine W.aloadN (pc' := 165) X d_jdk_35_m14_164 rfl rfl rfl ?_
            refine W.iinc (pc' := 168) (ls' := #[.val (.long w), .second, .val (.int n.toInt32), .val (.ref d), o4, o5, .val (.int v6), .val (.int (n - (t + 2)).toInt32), .val (.int (b2i b)), .val (.int v9), .val (.int y)]) X (-1 : Int32) (w := (n - (t + 2)).toInt32) d_jdk_35_m14_165 (by decide) rfl (dec32 (by omega) (by omega)) rfl rfl ?_
            refine W.iload (pc' := 170) X d_jdk_35_m14_168 rfl rfl ?_
            refine W.getS (pc' := 173) (host := "") X (Or.inl (w215 G)) Via.refl G.2.2.2.2.2.2.2.1 d_jdk_35_m14_170 rfl fun T X => ?_
            refine W.iload (pc' := 175) X d_jdk_35_m14_173 rfl rfl ?_
            refine W.ineg (pc' := 176) (w := m.toInt32) X d_jdk_35_m14_175 (neg32 hy hm) rfl ?_
            have F71 := Ar.ext X.old G.2.2.2.2.2.2.2.2.2.1
            refine W.baload (pc' := 177) (v := (.int (dgc (m / 10)))) X F71 (len32 (by omega)).1 (tens_get hm) d_jdk_35_m14_176 rfl ?_
            refine W.bastore (pc' := 178) (i := (n - (t + 2))) X A70 (len32 (by omega)).1 (len32 (by omega)).2.1 (by rw [List.length_append, List.length_take]; simp; omega) (show nar .byte (dgc (m / 10) : Int32) = (dgc (m / 10) : Int32).toInt8.toInt32 from rfl) P3 P4 d_jdk_35_m14_177 rfl fun T h72 X K73 A74 => ?_
            have A74 : Ar Z h72 d .byte (us.take (n - (t + 2)) ++ by8 (dgc (m / 10) :: dgc m :: tl)) := (by have q := A74; rw [put_dig (c := dgc (m / 10)) (by omega) (by omega)] at q; exact q)
            have hsl : (b2i b = 0 → (sl b).length = 0) ∧ (¬ b2i b = 0 → (sl b).length = 1) := ⟨fun z => by rw [b2i0 z]; rfl, fun z => by rw [b2i1 z]; rfl⟩
            refine W.iload (pc' := 180) X d_jdk_35_m14_178 rfl rfl ?_
            by_cases hg3 : (b2i b) = (0 : Int32)
            · skip
              refine W.ifT (pc' := 192) X d_jdk_35_m14_180 (XT.i0_eq_t hg3) (by decide) (by decide) ?_
              have hz3 := hsl.1 hg3
              refine W.iload (pc' := 194) X d_jdk_35_m14_192 rfl rfl ?_
              exact W.ireturn X d_jdk_35_m14_194 rfl (by decide) rfl (by decide) (by decide) ⟨_, rfl, rfl, ⟨(congrArg Value.int (z0 (by omega))), (Keep.trans (Keep.trans (Keep.trans (Keep.refl h [d]) KL (allS (Or.inl (List.mem_of_getElem? (i := 0) rfl)) all0)) K69 (allS (Or.inl (List.mem_of_getElem? (i := 0) rfl)) all0)) K73 (allS (Or.inl (List.mem_of_getElem? (i := 0) rfl)) all0)), (fin_ch A74 (by omega) (by rw [lstr, ← hb, hdg, b2i0 hg3]; rw [digs_2 (by omega) hm]; rfl))⟩⟩
            · skip
              refine W.ifF (pc' := 183) X d_jdk_35_m14_180 (XT.i0_eq_f hg3) rfl ?_
              have hz3 := hsl.2 hg3
              refine W.aloadN (pc' := 184) X d_jdk_35_m14_183 rfl rfl rfl ?_
              refine W.iinc (pc' := 187) (ls' := #[.val (.long w), .second, .val (.int n.toInt32), .val (.ref d), o4, o5, .val (.int v6), .val (.int (n - (t + 3)).toInt32), .val (.int (b2i b)), .val (.int v9), .val (.int y)]) X (-1 : Int32) (w := (n - (t + 3)).toInt32) d_jdk_35_m14_184 (by decide) rfl (dec32 (by omega) (by omega)) rfl rfl ?_
              refine W.iload (pc' := 189) X d_jdk_35_m14_187 rfl rfl ?_
              refine W.bipush (pc' := 191) X (45 : Int32) d_jdk_35_m14_189 (by decide) rfl ?_
              refine W.bastore (pc' := 192) (i := (n - (t + 3))) X A74 (len32 (by omega)).1 (len32 (by omega)).2.1 (by rw [List.length_append, List.length_take]; simp; omega) (show nar .byte (45 : Int32) = (45 : Int32).toInt8.toInt32 from rfl) P3 P4 d_jdk_35_m14_191 rfl fun T h75 X K76 A77 => ?_
              have A77 : Ar Z h75 d .byte (us.take (n - (t + 3)) ++ by8 (45 :: dgc (m / 10) :: dgc m :: tl)) := (by have q := A77; rw [put_dig (c := 45) (by omega) (by omega)] at q; exact q)
              refine W.iload (pc' := 194) X d_jdk_35_m14_192 rfl rfl ?_
              exact W.ireturn X d_jdk_35_m14_194 rfl (by decide) rfl (by decide) (by decide) ⟨_, rfl, rfl, ⟨(congrArg Value.int (z0 (by omega))), (Keep.trans (Keep.trans (Keep.trans (Keep.trans (Keep.refl h [d]) KL (allS (Or.inl (List.mem_of_getElem? (i := 0) rfl)) all0)) K69 (allS (Or.inl (List.mem_of_getElem? (i := 0) rfl)) all0)) K73 (allS (Or.inl (List.mem_of_getElem? (i := 0) rfl)) all0)) K76 (allS (Or.inl (List.mem_of_getElem? (i := 0) rfl)) all0)), (fin_ch A77 (by omega) (by rw [lstr, ← hb, hdg, b2i1 hg3]; rw [digs_2 (by omega) hm]; rfl))⟩⟩
          · skip
            refine W.icT (pc' := 178) X d_jdk_35_m14_161 (XT.ii_ge_t hg2) (by decide) (by decide) ?_
            have hm9 : m < 10 := Nat.lt_of_not_le fun z => hg2 ((lt_y (P := 9) hy rfl).2.mpr (by omega))
            have hl2 := congrArg List.length (digs_1 hm9); simp only [List.length_cons, List.length_nil] at hl2
            have hsl : (b2i b = 0 → (sl b).length = 0) ∧ (¬ b2i b = 0 → (sl b).length = 1) := ⟨fun z => by rw [b2i0 z]; rfl, fun z => by rw [b2i1 z]; rfl⟩
            refine W.iload (pc' := 180) X d_jdk_35_m14_178 rfl rfl ?_
            by_cases hg3 : (b2i b) = (0 : Int32)
            · skip
              refine W.ifT (pc' := 192) X d_jdk_35_m14_180 (XT.i0_eq_t hg3) (by decide) (by decide) ?_
              have hz3 := hsl.1 hg3
              refine W.iload (pc' := 194) X d_jdk_35_m14_192 rfl rfl ?_
              exact W.ireturn X d_jdk_35_m14_194 rfl (by decide) rfl (by decide) (by decide) ⟨_, rfl, rfl, ⟨(congrArg Value.int (z0 (by omega))), (Keep.trans (Keep.trans (Keep.refl h [d]) KL (allS (Or.inl (List.mem_of_getElem? (i := 0) rfl)) all0)) K69 (allS (Or.inl (List.mem_of_getElem? (i := 0) rfl)) all0)), (fin_ch A70 (by omega) (by rw [lstr, ← hb, hdg, b2i0 hg3]; rw [digs_1 hm9]; rfl))⟩⟩
            · skip
              refine W.ifF (pc' := 183) X d_jdk_35_m14_180 (XT.i0_eq_f hg3) rfl ?_
              have hz3 := hsl.2 hg3
              refine W.aloadN (pc' := 184) X d_jdk_35_m14_183 rfl rfl rfl ?_
              refine W.iinc (pc' := 187) (ls' := #[.val (.long w), .second, .val (.int n.toInt32), .val (.ref d), o4, o5, .val (.int v6), .val (.int (n - (t + 2)).toInt32), .val (.int (b2i b)), .val (.int v9), .val (.int y)]) X (-1 : Int32) (w := (n - (t + 2)).toInt32) d_jdk_35_m14_184 (by decide) rfl (dec32 (by omega) (by omega)) rfl rfl ?_
              refine W.iload (pc' := 189) X d_jdk_35_m14_187 rfl rfl ?_
              refine W.bipush (pc' := 191) X (45 : Int32) d_jdk_35_m14_189 (by decide) rfl ?_
              refine W.bastore (pc' := 192) (i := (n - (t + 2))) X A70 (len32 (by omega)).1 (len32 (by omega)).2.1 (by rw [List.length_append, List.length_take]; simp; omega) (show nar .byte (45 : Int32) = (45 : Int32).toInt8.toInt32 from rfl) P3 P4 d_jdk_35_m14_191 rfl fun T h78 X K79 A80 => ?_
              have A80 : Ar Z h78 d .byte (us.take (n - (t + 2)) ++ by8 (45 :: dgc m :: tl)) := (by have q := A80; rw [put_dig (c := 45) (by omega) (by omega)] at q; exact q)
              refine W.iload (pc' := 194) X d_jdk_35_m14_192 rfl rfl ?_
              exact W.ireturn X d_jdk_35_m14_194 rfl (by decide) rfl (by decide) (by decide) ⟨_, rfl, rfl, ⟨(congrArg Value.int (z0 (by omega))), (Keep.trans (Keep.trans (Keep.trans (Keep.refl h [d]) KL (allS (Or.inl (List.mem_of_getElem? (i := 0) rfl)) all0)) K69 (allS (Or.inl (List.mem_of_getElem? (i := 0) rfl)) all0)) K79 (allS (Or.inl (List.mem_of_getElem? (i := 0) rfl)) all0)), (fin_ch A80 (by omega) (by rw [lstr, ← hb, hdg, b2i1 hg3]; rw [digs_1 hm9]; rfl))⟩⟩
        · skip
          refine W.icF (pc' := 93) X d_jdk_35_m14_90 (XT.ii_gt_f hg1) rfl ?_
          have hm : 100 ≤ m := Nat.le_of_not_lt fun z => hg1 ((lt_y (P := 100) hy rfl).1.mpr z)
          have hd3 := digs_3 hm
          have hl3 := congrArg List.length hd3; rw [List.length_append] at hl3; simp only [List.length_cons, List.length_nil] at hl3
          have hp3 := digs_pos (m / 100)
          refine W.iload (pc' := 95) X d_jdk_35_m14_93 rfl rfl ?_
          refine W.bipush (pc' := 97) X (100 : Int32) d_jdk_35_m14_95 (by decide) rfl ?_
          refine W.idiv (pc' := 98) (w := (y / (100 : Int32))) X d_jdk_35_m14_97 (by decide) rfl rfl ?_
          refine W.istore (pc' := 100) (ls' := #[.val (.long w), .second, .val (.int n.toInt32), .val (.ref d), o4, o5, .val (.int v6), .val (.int (n - t).toInt32), .val (.int (b2i b)), .val (.int (y / (100 : Int32))), .val (.int y)]) X d_jdk_35_m14_98 rfl rfl ?_
          refine W.iload (pc' := 102) X d_jdk_35_m14_100 rfl rfl ?_
          refine W.bipush (pc' := 104) X (100 : Int32) d_jdk_35_m14_102 (by decide) rfl ?_
          refine W.imul (pc' := 105) (w := ((y / (100 : Int32)) * (100 : Int32))) X d_jdk_35_m14_104 rfl rfl ?_
          refine W.iload (pc' := 107) X d_jdk_35_m14_105 rfl rfl ?_
          refine W.isub (pc' := 108) (w := (m % 100).toInt32) X d_jdk_35_m14_107 (rem100 hy).1 rfl ?_
          refine W.istore (pc' := 110) (ls' := #[.val (.long w), .second, .val (.int n.toInt32), .val (.ref d), o4, o5, .val (.int (m % 100).toInt32), .val (.int (n - t).toInt32), .val (.int (b2i b)), .val (.int (y / (100 : Int32))), .val (.int y)]) X d_jdk_35_m14_108 rfl rfl ?_
          refine W.iload (pc' := 112) X d_jdk_35_m14_110 rfl rfl ?_
          refine W.istore (pc' := 114) (ls' := #[.val (.long w), .second, .val (.int n.toInt32), .val (.ref d), o4, o5, .val (.int (m % 100).toInt32), .val (.int (n - t).toInt32), .val (.int (b2i b)), .val (.int (y / (100 : Int32))), .val (.int (y / (100 : Int32)))]) X d_jdk_35_m14_112 rfl rfl ?_
          refine W.aloadN (pc' := 115) X d_jdk_35_m14_114 rfl rfl rfl ?_
          refine W.iinc (pc' := 118) (ls' := #[.val (.long w), .second, .val (.int n.toInt32), .val (.ref d), o4, o5, .val (.int (m % 100).toInt32), .val (.int (n - (t + 1)).toInt32), .val (.int (b2i b)), .val (.int (y / (100 : Int32))), .val (.int (y / (100 : Int32)))]) X (-1 : Int32) (w := (n - (t + 1)).toInt32) d_jdk_35_m14_115 (by decide) rfl (dec32 (by omega) (by omega)) rfl rfl ?_
          refine W.iload (pc' := 120) X d_jdk_35_m14_118 rfl rfl ?_
          refine W.getS (pc' := 123) (host := "") X (Or.inl (w118 G)) Via.refl G.2.2.2.2.2.2.1 d_jdk_35_m14_120 rfl fun T X => ?_
          refine W.iload (pc' := 125) X d_jdk_35_m14_123 rfl rfl ?_
          have F81 := Ar.ext X.old G.2.2.2.2.2.2.2.2.1
          refine W.baload (pc' := 126) (v := (.int (dgc m))) X F81 (len32 (by omega)).1 (by rw [ones_get (by omega), dgc_mod]) d_jdk_35_m14_125 rfl ?_
          refine W.bastore (pc' := 127) (i := (n - (t + 1))) X DL (len32 (by omega)).1 (len32 (by omega)).2.1 (by rw [List.length_append, List.length_take]; simp; omega) (show nar .byte (dgc m : Int32) = (dgc m : Int32).toInt8.toInt32 from rfl) P3 P4 d_jdk_35_m14_126 rfl fun T h82 X K83 A84 => ?_
          have A84 : Ar Z h82 d .byte (us.take (n - (t + 1)) ++ by8 (dgc m :: tl)) := (by have q := A84; rw [put_dig (c := dgc m) (by omega) (by omega)] at q; exact q)
          refine W.aloadN (pc' := 128) X d_jdk_35_m14_127 rfl rfl rfl ?_
          refine W.iinc (pc' := 131) (ls' := #[.val (.long w), .second, .val (.int n.toInt32), .val (.ref d), o4, o5, .val (.int (m % 100).toInt32), .val (.int (n - (t + 2)).toInt32), .val (.int (b2i b)), .val (.int (y / (100 : Int32))), .val (.int (y / (100 : Int32)))]) X (-1 : Int32) (w := (n - (t + 2)).toInt32) d_jdk_35_m14_128 (by decide) rfl (dec32 (by omega) (by omega)) rfl rfl ?_
          refine W.iload (pc' := 133) X d_jdk_35_m14_131 rfl rfl ?_
          refine W.getS (pc' := 136) (host := "") X (Or.inl (w215 G)) Via.refl G.2.2.2.2.2.2.2.1 d_jdk_35_m14_133 rfl fun T X => ?_
          refine W.iload (pc' := 138) X d_jdk_35_m14_136 rfl rfl ?_
          have F85 := Ar.ext X.old G.2.2.2.2.2.2.2.2.2.1
          refine W.baload (pc' := 139) (v := (.int (dgc (m / 10)))) X F85 (len32 (by omega)).1 (by rw [tens_get (by omega), dgc_mod2]) d_jdk_35_m14_138 rfl ?_
          refine W.bastore (pc' := 140) (i := (n - (t + 2))) X A84 (len32 (by omega)).1 (len32 (by omega)).2.1 (by rw [List.length_append, List.length_take]; simp; omega) (show nar .byte (dgc (m / 10) : Int32) = (dgc (m / 10) : Int32).toInt8.toInt32 from rfl) P3 P4 d_jdk_35_m14_139 rfl fun T h86 X K87 A88 => ?_
          have A88 : Ar Z h86 d .byte (us.take (n - (t + 2)) ++ by8 (dgc (m / 10) :: dgc m :: tl)) := (by have q := A88; rw [put_dig (c := dgc (m / 10)) (by omega) (by omega)] at q; exact q)
          refine W.goto (pc' := 86) X d_jdk_35_m14_140 (by decide) (by decide) ?_
          exact ih (m / 100) (by omega) (t + 2) (dgc (m / 10) :: dgc m :: tl) w _ b o4 o5 _ _ T h86 (rem100 hy).2 (by rw [hdg, hd3, List.append_assoc]; rfl) (by simp [htl]) hb (Or.inr ⟨_, rfl⟩) (Or.inr ⟨_, rfl⟩) X (Keep.trans (Keep.trans (Keep.trans (Keep.refl h [d]) KL (allS (Or.inl (List.mem_of_getElem? (i := 0) rfl)) all0)) K83 (allS (Or.inl (List.mem_of_getElem? (i := 0) rfl)) all0)) K87 (allS (Or.inl (List.mem_of_getElem? (i := 0) rfl)) all0)) A88
  have lp1 : ∀ (m t : Nat) (tl : List Int32) (w : Int64) (b : Bool) (o4 o5 o6 : Slot) (T : State) (hq : Heap), w.toInt = -(m : Int) → digs (nabs x) = digs m ++ tl → tl.length = t → b = decide (x < 0) → ((o4 = .unset ∧ o5 = .unset ∧ o6 = .unset) ∨ ∃ v r, o4 = .val (.long v) ∧ o5 = .second ∧ o6 = .val (.int r)) → Wk l Z consts_1 (⟨"java/lang/Long", "getChars", "(JI[B)I"⟩ : MethodName) jdk_35_method_14_code 11 (some .int) c_gch_rm B pP eE sS mM #[(.long x), (.int n.toInt32), (.ref d)] blw mth cC B T hq 0 0 → Keep h hq [d] → Ar Z hq d .byte (us.take (n - t) ++ by8 tl) → Go l Z consts_1 c_gch_rm B (fun vR hR BR => ∃ xR, vR = some xR ∧ BR = B ∧ c_gch_q Z zC fS dO dT h B x n d us xR hR) pP eE sS mM blw T 24 #[.val (.long w), .second, .val (.int n.toInt32), .val (.ref d), o4, o5, o6, .val (.int (n - t).toInt32), .val (.int (b2i b)), .unset, .unset] [] := by
    intro m
    induction m using Nat.strongRecOn with
    | ind m ih =>
      intro t tl w b o4 o5 o6 T hq hw hdg htl hb ho X KL DL
      have hlen := congrArg List.length hdg; rw [List.length_append, htl] at hlen
      have hpos := digs_pos m
      have hsb : (sl b).length = (sl (decide (x < 0))).length := by rw [hb]
      rcases ho with ⟨rfl, rfl, rfl⟩ | ⟨v4, v6, rfl, rfl, rfl⟩
      · skip
        refine W.lloadN (pc' := 25) X d_jdk_35_m14_24 rfl rfl ?_
        refine W.ldcJ (pc' := 28) X (w117 G) d_jdk_35_m14_25 rfl ?_
        refine W.lcmp (pc' := 29) (w := (XT.cmpL w (-2147483648 : Int64))) X d_jdk_35_m14_28 rfl rfl ?_
        by_cases hf1 : (-2147483648 : Int64) < w
        · skip
          refine W.ifT (pc' := 82) X d_jdk_35_m14_29 (XT.ll_gt_t hf1) (by decide) (by decide) ?_
          refine W.lloadN (pc' := 83) X d_jdk_35_m14_82 rfl rfl ?_
          refine W.l2i (pc' := 84) (w := w.toInt32) X d_jdk_35_m14_83 rfl rfl ?_
          refine W.istore (pc' := 86) (ls' := #[.val (.long w), .second, .val (.int n.toInt32), .val (.ref d), .unset, .unset, .unset, .val (.int (n - t).toInt32), .val (.int (b2i b)), .unset, .val (.int w.toInt32)]) X d_jdk_35_m14_84 rfl rfl ?_
          exact lp2 m t tl w _ b _ _ _ _ T hq (l2i_y hw ((ltL (P := 2147483648) hw rfl).mp hf1)) hdg htl hb (Or.inl rfl) (Or.inl rfl) X KL DL
        · skip
          refine W.ifF (pc' := 32) X d_jdk_35_m14_29 (XT.ll_gt_f hf1) rfl ?_
          have hm : 2147483648 ≤ m := Nat.le_of_not_lt fun z => hf1 ((ltL (P := 2147483648) hw rfl).mpr z)
          have hd3 := digs_3 (n := m) (by omega)
          have hl3 := congrArg List.length hd3; rw [List.length_append] at hl3; simp only [List.length_cons, List.length_nil] at hl3
          have hp3 := digs_pos (m / 100)
          refine W.lloadN (pc' := 33) X d_jdk_35_m14_32 rfl rfl ?_
          refine W.ldcJ (pc' := 36) X (w214 G) d_jdk_35_m14_33 rfl ?_
          refine W.ldiv (pc' := 37) (w := (w / (100 : Int64))) X d_jdk_35_m14_36 (by decide) rfl rfl ?_
          refine W.lstore (pc' := 39) (ls' := #[.val (.long w), .second, .val (.int n.toInt32), .val (.ref d), .val (.long (w / (100 : Int64))), .second, .unset, .val (.int (n - t).toInt32), .val (.int (b2i b)), .unset, .unset]) X d_jdk_35_m14_37 rfl rfl ?_
          refine W.lload (pc' := 41) X d_jdk_35_m14_39 rfl rfl ?_
          refine W.ldcJ (pc' := 44) X (w214 G) d_jdk_35_m14_41 rfl ?_
          refine W.lmul (pc' := 45) (w := ((w / (100 : Int64)) * (100 : Int64))) X d_jdk_35_m14_44 rfl rfl ?_
          refine W.lloadN (pc' := 46) X d_jdk_35_m14_45 rfl rfl ?_
          refine W.lsub (pc' := 47) (w := (((w / (100 : Int64)) * (100 : Int64)) - w)) X d_jdk_35_m14_46 rfl rfl ?_
          refine W.l2i (pc' := 48) (w := (m % 100).toInt32) X d_jdk_35_m14_47 (rem100L hw).1 rfl ?_
          refine W.istore (pc' := 50) (ls' := #[.val (.long w), .second, .val (.int n.toInt32), .val (.ref d), .val (.long (w / (100 : Int64))), .second, .val (.int (m % 100).toInt32), .val (.int (n - t).toInt32), .val (.int (b2i b)), .unset, .unset]) X d_jdk_35_m14_48 rfl rfl ?_
          refine W.lload (pc' := 52) X d_jdk_35_m14_50 rfl rfl ?_
          refine W.lstoreN (pc' := 53) (ls' := #[.val (.long (w / (100 : Int64))), .second, .val (.int n.toInt32), .val (.ref d), .val (.long (w / (100 : Int64))), .second, .val (.int (m % 100).toInt32), .val (.int (n - t).toInt32), .val (.int (b2i b)), .unset, .unset]) X d_jdk_35_m14_52 rfl rfl ?_
          refine W.aloadN (pc' := 54) X d_jdk_35_m14_53 rfl rfl rfl ?_
          refine W.iinc (pc' := 57) (ls' := #[.val (.long (w / (100 : Int64))), .second, .val (.int n.toInt32), .val (.ref d), .val (.long (w / (100 : Int64))), .second, .val (.int (m % 100).toInt32), .val (.int (n - (t + 1)).toInt32), .val (.int (b2i b)), .unset, .unset]) X (-1 : Int32) (w := (n - (t + 1)).toInt32) d_jdk_35_m14_54 (by decide) rfl (dec32 (by omega) (by omega)) rfl rfl ?_
          refine W.iload (pc' := 59) X d_jdk_35_m14_57 rfl rfl ?_
          refine W.getS (pc' := 62) (host := "") X (Or.inl (w118 G)) Via.refl G.2.2.2.2.2.2.1 d_jdk_35_m14_59 rfl fun T X => ?_
          refine W.iload (pc' := 64) X d_jdk_35_m14_62 rfl rfl ?_
          have F89 := Ar.ext X.old G.2.2.2.2.2.2.2.2.1
          refine W.baload (pc' := 65) (v := (.int (dgc m))) X F89 (len32 (by omega)).1 (by rw [ones_get (by omega), dgc_mod]) d_jdk_35_m14_64 rfl ?_
          refine W.bastore (pc' := 66) (i := (n - (t + 1))) X DL (len32 (by omega)).1 (len32 (by omega)).2.1 (by rw [List.length_append, List.length_take]; simp; omega) (show nar .byte (dgc m : Int32) = (dgc m : Int32).toInt8.toInt32 from rfl) P3 P4 d_jdk_35_m14_65 rfl fun T h90 X K91 A92 => ?_
          have A92 : Ar Z h90 d .byte (us.take (n - (t + 1)) ++ by8 (dgc m :: tl)) := (by have q := A92; rw [put_dig (c := dgc m) (by omega) (by omega)] at q; exact q)
          refine W.aloadN (pc' := 67) X d_jdk_35_m14_66 rfl rfl rfl ?_
          refine W.iinc (pc' := 70) (ls' := #[.val (.long (w / (100 : Int64))), .second, .val (.int n.toInt32), .val (.ref d), .val (.long (w / (100 : Int64))), .second, .val (.int (m % 100).toInt32), .val (.int (n - (t + 2)).toInt32), .val (.int (b2i b)), .unset, .unset]) X (-1 : Int32) (w := (n - (t + 2)).toInt32) d_jdk_35_m14_67 (by decide) rfl (dec32 (by omega) (by omega)) rfl rfl ?_
          refine W.iload (pc' := 72) X d_jdk_35_m14_70 rfl rfl ?_
          refine W.getS (pc' := 75) (host := "") X (Or.inl (w215 G)) Via.refl G.2.2.2.2.2.2.2.1 d_jdk_35_m14_72 rfl fun T X => ?_
          refine W.iload (pc' := 77) X d_jdk_35_m14_75 rfl rfl ?_
          have F93 := Ar.ext X.old G.2.2.2.2.2.2.2.2.2.1
          refine W.baload (pc' := 78) (v := (.int (dgc (m / 10)))) X F93 (len32 (by omega)).1 (by rw [tens_get (by omega), dgc_mod2]) d_jdk_35_m14_77 rfl ?_
          refine W.bastore (pc' := 79) (i := (n - (t + 2))) X A92 (len32 (by omega)).1 (len32 (by omega)).2.1 (by rw [List.length_append, List.length_take]; simp; omega) (show nar .byte (dgc (m / 10) : Int32) = (dgc (m / 10) : Int32).toInt8.toInt32 from rfl) P3 P4 d_jdk_35_m14_78 rfl fun T h94 X K95 A96 => ?_
          have A96 : Ar Z h94 d .byte (us.take (n - (t + 2)) ++ by8 (dgc (m / 10) :: dgc m :: tl)) := (by have q := A96; rw [put_dig (c := dgc (m / 10)) (by omega) (by omega)] at q; exact q)
          refine W.goto (pc' := 24) X d_jdk_35_m14_79 (by decide) (by decide) ?_
          exact ih (m / 100) (by omega) (t + 2) (dgc (m / 10) :: dgc m :: tl) _ b _ _ _ T h94 (rem100L hw).2 (by rw [hdg, hd3, List.append_assoc]; rfl) (by simp [htl]) hb (Or.inr ⟨_, _, rfl, rfl, rfl⟩) X (Keep.trans (Keep.trans (Keep.trans (Keep.refl h [d]) KL (allS (Or.inl (List.mem_of_getElem? (i := 0) rfl)) all0)) K91 (allS (Or.inl (List.mem_of_getElem? (i := 0) rfl)) all0)) K95 (allS (Or.inl (List.mem_of_getElem? (i := 0) rfl)) all0)) A96
      · skip
        refine W.lloadN (pc' := 25) X d_jdk_35_m14_24 rfl rfl ?_
        refine W.ldcJ (pc' := 28) X (w117 G) d_jdk_35_m14_25 rfl ?_
        refine W.lcmp (pc' := 29) (w := (XT.cmpL w (-2147483648 : Int64))) X d_jdk_35_m14_28 rfl rfl ?_
        by_cases hf1 : (-2147483648 : Int64) < w
        · skip
          refine W.ifT (pc' := 82) X d_jdk_35_m14_29 (XT.ll_gt_t hf1) (by decide) (by decide) ?_
          refine W.lloadN (pc' := 83) X d_jdk_35_m14_82 rfl rfl ?_
          refine W.l2i (pc' := 84) (w := w.toInt32) X d_jdk_35_m14_83 rfl rfl ?_
          refine W.istore (pc' := 86) (ls' := #[.val (.long w), .second, .val (.int n.toInt32), .val (.ref d), .val (.long v4), .second, .val (.int v6), .val (.int (n - t).toInt32), .val (.int (b2i b)), .unset, .val (.int w.toInt32)]) X d_jdk_35_m14_84 rfl rfl ?_
          exact lp2 m t tl w _ b _ _ _ _ T hq (l2i_y hw ((ltL (P := 2147483648) hw rfl).mp hf1)) hdg htl hb (Or.inr ⟨_, rfl⟩) (Or.inl rfl) X KL DL
        · skip
          refine W.ifF (pc' := 32) X d_jdk_35_m14_29 (XT.ll_gt_f hf1) rfl ?_
          have hm : 2147483648 ≤ m := Nat.le_of_not_lt fun z => hf1 ((ltL (P := 2147483648) hw rfl).mpr z)
          have hd3 := digs_3 (n := m) (by omega)
          have hl3 := congrArg List.length hd3; rw [List.length_append] at hl3; simp only [List.length_cons, List.length_nil] at hl3
          have hp3 := digs_pos (m / 100)
          refine W.lloadN (pc' := 33) X d_jdk_35_m14_32 rfl rfl ?_
          refine W.ldcJ (pc' := 36) X (w214 G) d_jdk_35_m14_33 rfl ?_
          refine W.ldiv (pc' := 37) (w := (w / (100 : Int64))) X d_jdk_35_m14_36 (by decide) rfl rfl ?_
          refine W.lstore (pc' := 39) (ls' := #[.val (.long w), .second, .val (.int n.toInt32), .val (.ref d), .val (.long (w / (100 : Int64))), .second, .val (.int v6), .val (.int (n - t).toInt32), .val (.int (b2i b)), .unset, .unset]) X d_jdk_35_m14_37 rfl rfl ?_
          refine W.lload (pc' := 41) X d_jdk_35_m14_39 rfl rfl ?_
          refine W.ldcJ (pc' := 44) X (w214 G) d_jdk_35_m14_41 rfl ?_
          refine W.lmul (pc' := 45) (w := ((w / (100 : Int64)) * (100 : Int64))) X d_jdk_35_m14_44 rfl rfl ?_
          refine W.lloadN (pc' := 46) X d_jdk_35_m14_45 rfl rfl ?_
          refine W.lsub (pc' := 47) (w := (((w / (100 : Int64)) * (100 : Int64)) - w)) X d_jdk_35_m14_46 rfl rfl ?_
          refine W.l2i (pc' := 48) (w := (m % 100).toInt32) X d_jdk_35_m14_47 (rem100L hw).1 rfl ?_
          refine W.istore (pc' := 50) (ls' := #[.val (.long w), .second, .val (.int n.toInt32), .val (.ref d), .val (.long (w / (100 : Int64))), .second, .val (.int (m % 100).toInt32), .val (.int (n - t).toInt32), .val (.int (b2i b)), .unset, .unset]) X d_jdk_35_m14_48 rfl rfl ?_
          refine W.lload (pc' := 52) X d_jdk_35_m14_50 rfl rfl ?_
          refine W.lstoreN (pc' := 53) (ls' := #[.val (.long (w / (100 : Int64))), .second, .val (.int n.toInt32), .val (.ref d), .val (.long (w / (100 : Int64))), .second, .val (.int (m % 100).toInt32), .val (.int (n - t).toInt32), .val (.int (b2i b)), .unset, .unset]) X d_jdk_35_m14_52 rfl rfl ?_
          refine W.aloadN (pc' := 54) X d_jdk_35_m14_53 rfl rfl rfl ?_
          refine W.iinc (pc' := 57) (ls' := #[.val (.long (w / (100 : Int64))), .second, .val (.int n.toInt32), .val (.ref d), .val (.long (w / (100 : Int64))), .second, .val (.int (m % 100).toInt32), .val (.int (n - (t + 1)).toInt32), .val (.int (b2i b)), .unset, .unset]) X (-1 : Int32) (w := (n - (t + 1)).toInt32) d_jdk_35_m14_54 (by decide) rfl (dec32 (by omega) (by omega)) rfl rfl ?_
          refine W.iload (pc' := 59) X d_jdk_35_m14_57 rfl rfl ?_
          refine W.getS (pc' := 62) (host := "") X (Or.inl (w118 G)) Via.refl G.2.2.2.2.2.2.1 d_jdk_35_m14_59 rfl fun T X => ?_
          refine W.iload (pc' := 64) X d_jdk_35_m14_62 rfl rfl ?_
          have F97 := Ar.ext X.old G.2.2.2.2.2.2.2.2.1
          refine W.baload (pc' := 65) (v := (.int (dgc m))) X F97 (len32 (by omega)).1 (by rw [ones_get (by omega), dgc_mod]) d_jdk_35_m14_64 rfl ?_
          refine W.bastore (pc' := 66) (i := (n - (t + 1))) X DL (len32 (by omega)).1 (len32 (by omega)).2.1 (by rw [List.length_append, List.length_take]; simp; omega) (show nar .byte (dgc m : Int32) = (dgc m : Int32).toInt8.toInt32 from rfl) P3 P4 d_jdk_35_m14_65 rfl fun T h98 X K99 A100 => ?_
          have A100 : Ar Z h98 d .byte (us.take (n - (t + 1)) ++ by8 (dgc m :: tl)) := (by have q := A100; rw [put_dig (c := dgc m) (by omega) (by omega)] at q; exact q)
          refine W.aloadN (pc' := 67) X d_jdk_35_m14_66 rfl rfl rfl ?_
          refine W.iinc (pc' := 70) (ls' := #[.val (.long (w / (100 : Int64))), .second, .val (.int n.toInt32), .val (.ref d), .val (.long (w / (100 : Int64))), .second, .val (.int (m % 100).toInt32), .val (.int (n - (t + 2)).toInt32), .val (.int (b2i b)), .unset, .unset]) X (-1 : Int32) (w := (n - (t + 2)).toInt32) d_jdk_35_m14_67 (by decide) rfl (dec32 (by omega) (by omega)) rfl rfl ?_
          refine W.iload (pc' := 72) X d_jdk_35_m14_70 rfl rfl ?_
          refine W.getS (pc' := 75) (host := "") X (Or.inl (w215 G)) Via.refl G.2.2.2.2.2.2.2.1 d_jdk_35_m14_72 rfl fun T X => ?_
          refine W.iload (pc' := 77) X d_jdk_35_m14_75 rfl rfl ?_
          have F101 := Ar.ext X.old G.2.2.2.2.2.2.2.2.2.1
          refine W.baload (pc' := 78) (v := (.int (dgc (m / 10)))) X F101 (len32 (by omega)).1 (by rw [tens_get (by omega), dgc_mod2]) d_jdk_35_m14_77 rfl ?_
          refine W.bastore (pc' := 79) (i := (n - (t + 2))) X A100 (len32 (by omega)).1 (len32 (by omega)).2.1 (by rw [List.length_append, List.length_take]; simp; omega) (show nar .byte (dgc (m / 10) : Int32) = (dgc (m / 10) : Int32).toInt8.toInt32 from rfl) P3 P4 d_jdk_35_m14_78 rfl fun T h102 X K103 A104 => ?_
          have A104 : Ar Z h102 d .byte (us.take (n - (t + 2)) ++ by8 (dgc (m / 10) :: dgc m :: tl)) := (by have q := A104; rw [put_dig (c := dgc (m / 10)) (by omega) (by omega)] at q; exact q)
          refine W.goto (pc' := 24) X d_jdk_35_m14_79 (by decide) (by decide) ?_
          exact ih (m / 100) (by omega) (t + 2) (dgc (m / 10) :: dgc m :: tl) _ b _ _ _ T h102 (rem100L hw).2 (by rw [hdg, hd3, List.append_assoc]; rfl) (by simp [htl]) hb (Or.inr ⟨_, _, rfl, rfl, rfl⟩) X (Keep.trans (Keep.trans (Keep.trans (Keep.refl h [d]) KL (allS (Or.inl (List.mem_of_getElem? (i := 0) rfl)) all0)) K99 (allS (Or.inl (List.mem_of_getElem? (i := 0) rfl)) all0)) K103 (allS (Or.inl (List.mem_of_getElem? (i := 0) rfl)) all0)) A104
  refine W.iloadN (pc' := 1) X d_jdk_35_m14_0 rfl rfl ?_
  refine W.istore (pc' := 3) (ls' := #[.val (.long x), .second, .val (.int n.toInt32), .val (.ref d), .unset, .unset, .unset, .val (.int n.toInt32), .unset, .unset, .unset]) X d_jdk_35_m14_1 rfl rfl ?_
  refine W.lloadN (pc' := 4) X d_jdk_35_m14_3 rfl rfl ?_
  refine W.lconst (pc' := 5) X (0 : Int64) d_jdk_35_m14_4 (by decide) rfl ?_
  refine W.lcmp (pc' := 6) (w := (XT.cmpL x (0 : Int64))) X d_jdk_35_m14_5 rfl rfl ?_
  by_cases hs : x < (0 : Int64)
  · skip
    refine W.ifF (pc' := 9) X d_jdk_35_m14_6 (XT.ll_ge_f hs) rfl ?_
    refine W.iconst (pc' := 10) X (1 : Int32) d_jdk_35_m14_9 (by decide) rfl ?_
    refine W.goto (pc' := 14) X d_jdk_35_m14_10 (by decide) (by decide) ?_
    refine W.istore (pc' := 16) (ls' := #[.val (.long x), .second, .val (.int n.toInt32), .val (.ref d), .unset, .unset, .unset, .val (.int n.toInt32), .val (.int (1 : Int32)), .unset, .unset]) X d_jdk_35_m14_14 rfl rfl ?_
    refine W.iload (pc' := 18) X d_jdk_35_m14_16 rfl rfl ?_
    refine W.ifT (pc' := 24) X d_jdk_35_m14_18 (by decide) (by decide) (by decide) ?_
    exact lp1 (nabs x) 0 [] x true _ _ _ T h (neg_n hs) (by simp) rfl (decide_eq_true hs).symm (Or.inl ⟨rfl, rfl, rfl⟩) X (Keep.refl _ _) (by rw [Nat.sub_zero, List.take_of_length_le (by omega)]; simpa using P0)
  · skip
    refine W.ifT (pc' := 13) X d_jdk_35_m14_6 (XT.ll_ge_t hs) (by decide) (by decide) ?_
    refine W.iconst (pc' := 14) X (0 : Int32) d_jdk_35_m14_13 (by decide) rfl ?_
    refine W.istore (pc' := 16) (ls' := #[.val (.long x), .second, .val (.int n.toInt32), .val (.ref d), .unset, .unset, .unset, .val (.int n.toInt32), .val (.int (0 : Int32)), .unset, .unset]) X d_jdk_35_m14_14 rfl rfl ?_
    refine W.iload (pc' := 18) X d_jdk_35_m14_16 rfl rfl ?_
    refine W.ifF (pc' := 21) X d_jdk_35_m14_18 (by decide) rfl ?_
    refine W.lloadN (pc' := 22) X d_jdk_35_m14_21 rfl rfl ?_
    refine W.lneg (pc' := 23) (w := (-x)) X d_jdk_35_m14_22 rfl rfl ?_
    refine W.lstoreN (pc' := 24) (ls' := #[.val (.long (-x)), .second, .val (.int n.toInt32), .val (.ref d), .unset, .unset, .unset, .val (.int n.toInt32), .val (.int (0 : Int32)), .unset, .unset]) X d_jdk_35_m14_23 rfl rfl ?_
    exact lp1 (nabs x) 0 [] (-x) false _ _ _ T h (neg_p hs) (by simp) rfl (decide_eq_false hs).symm (Or.inl ⟨rfl, rfl, rfl⟩) X (Keep.refl _ _) (by rw [Nat.sub_zero, List.take_of_length_le (by omega)]; simpa using P0)
abbrev c_lts_q (Z : State) (zC : Int32) (fS : Value) (dO : Addr) (dT : Addr) (h : Heap) (B : Addr → Prop) (x : Int64) (xR : Value) (h' : Heap) : Prop := ∃ (t : Addr) (tb : Addr), xR = (.ref t) ∧ Keep h h' [] ∧ h.size ≤ t ∧ h.size ≤ tb ∧ Str Z h' t tb (lstr x)
def c_lts_rm : Room := { frames := 2, cells := 2, slots := 24, locals := 27 }
set_option maxRecDepth 65536 in
set_option maxHeartbeats 40000000 in
theorem c_lts {l : Launch} {Z : State} {a0 : Array Value} {zC : Int32} {fS : Value} {dO : Addr} {dT : Addr} {h : Heap} {B : Addr → Prop} {x : Int64} (G : Gl Z a0 zC fS dO dT) (hE : En Z B h)  : Con l Z consts_1 [] (⟨"java/lang/Long", "toString", "(J)Ljava/lang/String;"⟩ : MethodName) jdk_35_method_12_code 4 (some (.object "java/lang/String")) c_lts_rm B h #[(.long x)] (fun vR hR BR => ∃ xR, vR = some xR ∧ BR = B ∧ c_lts_q Z zC fS dO dT h B x xR hR) := by
  have hz0 := hE.1.1
  refine Con.intro (ls := #[.val (.long x), .second, .unset, .unset]) (plainFor_of_name pn28) G.2.1 hE (fun m => by first | rfl | (simp [entryFrame, mkF, argsToLocals, Value.category]; done) | rfl) ?_
  intro pP eE sS mM blw mth cC T hs X
  have hn20 := lstr_20 x
  refine W.lloadN (pc' := 1) X d_jdk_35_m12_0 rfl rfl ?_
  refine W.callS (pc' := 4) (W := 0) (argsL := [(.long x)]) (st := []) (k' := 0) (n' := 0) X (c_ssz (x := x) G X.en) (w109 G) (w110 G) (w111 G) (w107 G) (by decide) (by decide) (by decide) rfl (lenOf pd29 rfl) rfl rfl (Nat.le_of_eq rfl) d_jdk_35_m12_1 rfl (by decide) (by decide) (by decide) (by decide) (kp fun T X => ?_)
  refine W.istoreN (pc' := 5) (ls' := #[.val (.long x), .second, .val (.int (lstr x).length.toInt32), .unset]) X d_jdk_35_m12_4 rfl rfl ?_
  refine W.getS (pc' := 8) (host := "") X (Or.inl (w113 G)) Via.refl G.2.2.1 d_jdk_35_m12_5 rfl fun T X => ?_
  refine W.ifF (pc' := 11) X d_jdk_35_m12_8 (XT.i0_eq_f G.2.2.2.1) rfl ?_
  refine W.iloadN (pc' := 12) X d_jdk_35_m12_11 rfl rfl ?_
  refine W.newA (aty := .byte) (pc' := 14) (k' := 1) (n' := 20) (cap := 20) X (w44 G) d_jdk_35_m12_12 (len32 (by omega)).1 (by rw [(len32 (by omega)).2.1]; exact hn20) (by decide) rfl (by decide) (by decide) (by decide) (by decide) fun T h1 a2 X K3 g4 g5 nb6 A7 => ?_
  have A7 : Ar Z h1 a2 .byte (List.replicate (lstr x).length (.int (0 : Int32))) := by have q := A7; rw [(len32 (by omega)).2.1] at q; exact q
  refine W.astoreN (pc' := 15) (ls' := #[.val (.long x), .second, .val (.int (lstr x).length.toInt32), .val (.ref a2)]) X d_jdk_35_m12_14 rfl rfl rfl ?_
  refine W.lloadN (pc' := 16) X d_jdk_35_m12_15 rfl rfl ?_
  refine W.iloadN (pc' := 17) X d_jdk_35_m12_16 rfl rfl ?_
  refine W.aloadN (pc' := 18) X d_jdk_35_m12_17 rfl rfl rfl ?_
  refine W.callS (pc' := 21) (W := 0) (argsL := [(.long x), (.int (lstr x).length.toInt32), (.ref a2)]) (st := []) (k' := 1) (n' := 20) X (c_gch (x := x) (n := (lstr x).length) (d := a2) (us := (List.replicate (lstr x).length (.int (0 : Int32)))) G X.en A7 (by simp) rfl g5 nb6) (w114 G) (w115 G) (w116 G) (w107 G) (by decide) (by decide) (by decide) rfl (lenOf pd30 rfl) rfl rfl (Nat.le_of_eq rfl) d_jdk_35_m12_18 rfl (by decide) (by decide) (by decide) (by decide) (kr fun T h8 xr X z9 q10 => ?_)
  obtain ⟨rfl, K11, F12⟩ := q10
  refine W.popV (pc' := 22) X d_jdk_35_m12_21 rfl rfl ?_
  refine W.new (pc' := 25) (k' := 2) (n' := 24) X (w120 G) (w27 G) (w28 G) d_jdk_35_m12_22 rfl (by decide) (by decide) (by decide) (by decide) fun T h13 a14 X K15 g16 g17 nb18 E19 D20 => ?_
  have F21 : Fld Z h13 a14 "java/lang/String" "coder" "B" (.int (0 : Int32)) := D20 (Or.inr (w52 G)) (ty := .byte) (by decide)
  have F22 : Fld Z h13 a14 "java/lang/String" "value" "[B" .null := D20 (Or.inr (w54 G)) (ty := (.array .byte)) (by decide)
  refine W.dup (pc' := 26) X d_jdk_35_m12_25 rfl rfl ?_
  refine W.aloadN (pc' := 27) X d_jdk_35_m12_26 rfl rfl rfl ?_
  refine W.iconst (pc' := 28) X (0 : Int32) d_jdk_35_m12_27 (by decide) rfl ?_
  refine W.callN (pc' := 31) (W := 1) (argsL := [(.ref a2), (.int (0 : Int32))]) (st := [(.ref a14)]) (k' := 2) (n' := 24) (a := a14) X (c_initBB (x := a14) (a := a2) (v0 := .null) (c0 := (.int (0 : Int32))) G X.en E19 F22 F21 g17 nb18) rfl (w121 G) (w122 G) (w123 G) (w28 G) (by decide) (by decide) (by decide) rfl (lenOf pd24 rfl) rfl rfl (Nat.le_of_eq rfl) d_jdk_35_m12_28 rfl (by decide) (by decide) (by decide) (by decide) (kv fun T h23 X z24 q25 => ?_)
  obtain ⟨K26, F27, F28⟩ := q25
  have F29 := (E19.keep K26)
  have F30 := ((F12.keep K15 nin0).keep K26 (ninS (Nat.ne_of_lt (Nat.lt_of_lt_of_le A7.lt (Nat.le_trans K11.1 g16))) nin0))
  exact W.areturn X d_jdk_35_m12_31 rfl rfl rfl rfl (by decide) (by decide) ⟨_, rfl, rfl, ⟨a14, a2, rfl, (Keep.trans (Keep.trans (Keep.trans (Keep.trans (Keep.refl h []) K3 all0) K11 (allS (Or.inr (Nat.le_trans (Nat.le_refl _) g4)) all0)) K15 all0) K26 (allS (Or.inr (Nat.le_trans (Nat.le_trans K3.1 K11.1) g16)) all0)), (Nat.le_trans (Nat.le_trans K3.1 K11.1) g16), (Nat.le_trans (Nat.le_refl _) g4), ⟨F29, F28, F27, F30, (lstr_lat x)⟩⟩⟩
abbrev c_cdi_q (Z : State) (zC : Int32) (fS : Value) (dO : Addr) (dT : Addr) (h : Heap) (B : Addr → Prop) (x a b : Addr) (v0 v1 : Value) (h' : Heap) : Prop := Keep h h' [x] ∧ Fld Z h' x "com/example/dutiful_pruner/dutifulpruner/collection/CollectionDocument" "id" "Ljava/lang/String;" (.ref a) ∧ Fld Z h' x "com/example/dutiful_pruner/dutifulpruner/collection/CollectionDocument" "contents" "Ljava/lang/String;" (.ref b)
def c_cdi_rm : Room := { frames := 2, cells := 0, slots := 0, locals := 24 }
set_option maxRecDepth 65536 in
set_option maxHeartbeats 40000000 in
theorem c_cdi {l : Launch} {Z : State} {a0 : Array Value} {zC : Int32} {fS : Value} {dO : Addr} {dT : Addr} {h : Heap} {B : Addr → Prop} {x a b : Addr} {v0 v1 : Value} (G : Gl Z a0 zC fS dO dT) (hE : En Z B h) (P0 : Exa Z h x "com/example/dutiful_pruner/dutifulpruner/collection/CollectionDocument") (P1 : Fld Z h x "com/example/dutiful_pruner/dutifulpruner/collection/CollectionDocument" "id" "Ljava/lang/String;" v0) (P2 : Fld Z h x "com/example/dutiful_pruner/dutifulpruner/collection/CollectionDocument" "contents" "Ljava/lang/String;" v1) (P3 : Z.heap.size ≤ x) (P4 : ¬ B x) : Con l Z consts_1 [] (⟨"com/example/dutiful_pruner/dutifulpruner/collection/CollectionDocument", "<init>", "(Ljava/lang/String;Ljava/lang/String;)V"⟩ : MethodName) prog_3_method_1_code 3 none c_cdi_rm B h #[(.ref x), (.ref a), (.ref b)] (fun vR hR BR => vR = none ∧ BR = B ∧ c_cdi_q Z zC fS dO dT h B x a b v0 v1 hR) := by
  have hz0 := hE.1.1
  refine Con.intro (ls := #[.val (.ref x), .val (.ref a), .val (.ref b)]) (plainFor_of_name pn32) G.2.1 hE (fun m => by first | rfl | (simp [entryFrame, mkF, argsToLocals, Value.category]; done) | rfl) ?_
  intro pP eE sS mM blw mth cC T hs X
  refine W.aloadN (pc' := 1) X d_prog_3_m1_0 rfl rfl rfl ?_
  refine W.callN (pc' := 4) (W := 0) (argsL := []) (st := []) (k' := 0) (n' := 0) (a := x) X (c_rec (a := x) G X.en) rfl (w165 G) (w166 G) (w169 G) (w168 G) (by decide) (by decide) (by decide) rfl (lenOf pd31 rfl) rfl rfl (Nat.le_of_eq rfl) d_prog_3_m1_1 rfl (by decide) (by decide) (by decide) (by decide) (kpv fun T X => ?_)
  refine W.aloadN (pc' := 5) X d_prog_3_m1_4 rfl rfl rfl ?_
  refine W.aloadN (pc' := 6) X d_prog_3_m1_5 rfl rfl rfl ?_
  refine W.putF (pc' := 9) X (w171 G) Via.refl P1 P0 (Or.inr ⟨(w172 G), rfl, rfl⟩) (w103 G) (ty := (.object "java/lang/String")) (by decide) rfl rfl P3 P4 d_prog_3_m1_6 rfl fun T h1 X W2 => ?_
  have F3 := P1.same W2
  refine W.aloadN (pc' := 10) X d_prog_3_m1_9 rfl rfl rfl ?_
  refine W.aloadN (pc' := 11) X d_prog_3_m1_10 rfl rfl rfl ?_
  have F4 := (P2.other W2 (Or.inr (slot_ne (Or.inr (w174 G)) (Or.inr (w172 G)) (by decide) (t := (.object "java/lang/String")) (t' := (.object "java/lang/String")) (by decide) (by decide))))
  have F5 := (P0.wr W2)
  refine W.putF (pc' := 14) X (w173 G) Via.refl F4 F5 (Or.inr ⟨(w174 G), rfl, rfl⟩) (w103 G) (ty := (.object "java/lang/String")) (by decide) rfl rfl P3 P4 d_prog_3_m1_11 rfl fun T h6 X W7 => ?_
  have F8 := F4.same W7
  have F9 := (F3.other W7 (Or.inr (slot_ne (Or.inr (w172 G)) (Or.inr (w174 G)) (by decide) (t := (.object "java/lang/String")) (t' := (.object "java/lang/String")) (by decide) (by decide))))
  exact W.vreturn X d_prog_3_m1_14 rfl (by decide) (by decide) ⟨rfl, rfl, ⟨(Keep.wr (Keep.wr (Keep.refl h [x]) W2 (Or.inl (List.mem_of_getElem? (i := 0) rfl))) W7 (Or.inl (List.mem_of_getElem? (i := 0) rfl))), F9, F8⟩⟩
def c_id_rm : Room := { frames := 0, cells := 0, slots := 0, locals := 0 }
set_option maxRecDepth 65536 in
set_option maxHeartbeats 40000000 in
theorem c_id {l : Launch} {Z : State} {a0 : Array Value} {zC : Int32} {fS : Value} {dO : Addr} {dT : Addr} {h : Heap} {B : Addr → Prop} {a b : Addr} (G : Gl Z a0 zC fS dO dT) (hE : En Z B h) (P0 : Fld Z h a "com/example/dutiful_pruner/dutifulpruner/collection/CollectionDocument" "id" "Ljava/lang/String;" (.ref b)) : Con l Z consts_1 [] (⟨"com/example/dutiful_pruner/dutifulpruner/collection/CollectionDocument", "id", "()Ljava/lang/String;"⟩ : MethodName) prog_3_method_5_code 1 (some (.object "java/lang/String")) c_id_rm B h #[(.ref a)] (fun vR hR BR => vR = some (.ref b) ∧ hR = h ∧ BR = B) := by
  have hz0 := hE.1.1
  refine Con.intro (ls := #[.val (.ref a)]) (plainFor_of_name pn32) G.2.1 hE (fun m => by first | rfl | (simp [entryFrame, mkF, argsToLocals, Value.category]; done) | rfl) ?_
  intro pP eE sS mM blw mth cC T hs X
  refine W.aloadN (pc' := 1) X d_prog_3_m5_0 rfl rfl rfl ?_
  refine W.getF (pc' := 4) X (w171 G) Via.refl P0 d_prog_3_m5_1 rfl fun T X => ?_
  exact W.areturn X d_prog_3_m5_4 rfl rfl rfl rfl (by decide) (by decide) ⟨rfl, rfl, rfl⟩
def c_cont_rm : Room := { frames := 0, cells := 0, slots := 0, locals := 0 }
set_option maxRecDepth 65536 in
set_option maxHeartbeats 40000000 in
theorem c_cont {l : Launch} {Z : State} {a0 : Array Value} {zC : Int32} {fS : Value} {dO : Addr} {dT : Addr} {h : Heap} {B : Addr → Prop} {a b : Addr} (G : Gl Z a0 zC fS dO dT) (hE : En Z B h) (P0 : Fld Z h a "com/example/dutiful_pruner/dutifulpruner/collection/CollectionDocument" "contents" "Ljava/lang/String;" (.ref b)) : Con l Z consts_1 [] (⟨"com/example/dutiful_pruner/dutifulpruner/collection/CollectionDocument", "contents", "()Ljava/lang/String;"⟩ : MethodName) prog_3_method_6_code 1 (some (.object "java/lang/String")) c_cont_rm B h #[(.ref a)] (fun vR hR BR => vR = some (.ref b) ∧ hR = h ∧ BR = B) := by
  have hz0 := hE.1.1
  refine Con.intro (ls := #[.val (.ref a)]) (plainFor_of_name pn32) G.2.1 hE (fun m => by first | rfl | (simp [entryFrame, mkF, argsToLocals, Value.category]; done) | rfl) ?_
  intro pP eE sS mM blw mth cC T hs X
  refine W.aloadN (pc' := 1) X d_prog_3_m6_0 rfl rfl rfl ?_
  refine W.getF (pc' := 4) X (w173 G) Via.refl P0 d_prog_3_m6_1 rfl fun T X => ?_
  exact W.areturn X d_prog_3_m6_4 rfl rfl rfl rfl (by decide) (by decide) ⟨rfl, rfl, rfl⟩
abbrev c_parse_q (Z : State) (zC : Int32) (fS : Value) (dO : Addr) (dT : Addr) (h : Heap) (B : Addr → Prop) (r rb : Addr) (cs : List Int32) (x : Int64) (u v : Nat) (xR : Value) (h' : Heap) (B' : Addr → Prop) : Prop := ∃ (t : Addr) (i : Addr) (ib : Addr) (b : Addr) (bb : Addr), xR = (.ref t) ∧ Keep h h' [] ∧ Exa Z h' t "com/example/dutiful_pruner/dutifulpruner/collection/CollectionDocument" ∧ Fld Z h' t "com/example/dutiful_pruner/dutifulpruner/collection/CollectionDocument" "id" "Ljava/lang/String;" (.ref i) ∧ Fld Z h' t "com/example/dutiful_pruner/dutifulpruner/collection/CollectionDocument" "contents" "Ljava/lang/String;" (.ref b) ∧ Str Z h' i ib (lstr x) ∧ Str Z h' b bb (cs.drop (v + 1))
def c_parse_rm : Room := { frames := 6, cells := 5, slots := 37, locals := 96 }
set_option maxRecDepth 65536 in
set_option maxHeartbeats 40000000 in
theorem c_parse {l : Launch} {Z : State} {a0 : Array Value} {zC : Int32} {fS : Value} {dO : Addr} {dT : Addr} {h : Heap} {B : Addr → Prop} {r rb : Addr} {cs : List Int32} {x : Int64} {u v : Nat} (G : Gl Z a0 zC fS dO dT) (hE : En Z B h) (P0 : Str Z h r rb cs) (P1 : cs.length = 7) (P2 : u < v) (P3 : v ≤ 6) (P4 : cs.getD u 0 = 9) (P5 : cs.getD v 0 = 9) (P6 : ∀ j, j < v → j ≠ u → cs.getD j 0 ≠ 9) : Con l Z consts_1 [] (⟨"com/example/dutiful_pruner/dutifulpruner/collection/LineFileCollection", "parseLine", "(Ljava/lang/String;J)Lcom/example/dutiful_pruner/dutifulpruner/collection/CollectionDocument;"⟩ : MethodName) prog_4_method_2_code 5 (some (.object "com/example/dutiful_pruner/dutifulpruner/collection/CollectionDocument")) c_parse_rm B h #[(.ref r), (.long x)] (fun vR hR BR => ∃ xR, vR = some xR ∧ c_parse_q Z zC fS dO dT h B r rb cs x u v xR hR BR) := by
  have hz0 := hE.1.1
  refine Con.intro (ls := #[.val (.ref r), .val (.long x), .second, .unset, .unset]) (plainFor_of_name pn37) G.2.1 hE (fun m => by first | rfl | (simp [entryFrame, mkF, argsToLocals, Value.category]; done) | rfl) ?_
  intro pP eE sS mM blw mth cC T hs X
  refine W.aloadN (pc' := 1) X d_prog_4_m2_0 rfl rfl rfl ?_
  refine W.bipush (pc' := 3) X (9 : Int32) d_prog_4_m2_1 (by decide) rfl ?_
  refine W.callV (pc' := 6) (W := 0) (argsL := [(.int (9 : Int32))]) (st := []) (k' := 0) (n' := 0) (a := r) X (c_io1 (r := r) (rb := rb) (cs := cs) (i := u) G X.en P0 (by omega) P4 (fun j hj => P6 j (by omega) (by omega))) (w59 G) (w60 G) (nfM (z' := (⟨"java/lang/String", "indexOf", "(I)I"⟩ : MethodName)) rfl (w62 G)) (w62 G) (w61 G) P0.exa (w63 G) (w28 G) (by decide) (by decide) (by decide) rfl (lenOf pd33 rfl) rfl rfl (Nat.le_of_eq rfl) d_prog_4_m2_3 rfl (by decide) (by decide) (by decide) (by decide) (kp fun T X => ?_)
  refine W.istoreN (pc' := 7) (ls' := #[.val (.ref r), .val (.long x), .second, .val (.int u.toInt32), .unset]) X d_prog_4_m2_6 rfl rfl ?_
  refine W.iloadN (pc' := 8) X d_prog_4_m2_7 rfl rfl ?_
  refine W.ifT (pc' := 15) X d_prog_4_m2_8 (XT.i0_ge_t (len32 (by omega)).1) (by decide) (by decide) ?_
  refine W.aloadN (pc' := 16) X d_prog_4_m2_15 rfl rfl rfl ?_
  refine W.bipush (pc' := 18) X (9 : Int32) d_prog_4_m2_16 (by decide) rfl ?_
  refine W.iloadN (pc' := 19) X d_prog_4_m2_18 rfl rfl ?_
  refine W.iconst (pc' := 20) X (1 : Int32) d_prog_4_m2_19 (by decide) rfl ?_
  refine W.iadd (pc' := 21) (w := (u + 1).toInt32) X d_prog_4_m2_20 (add32 (b := 1) (by omega)) rfl ?_
  refine W.callV (pc' := 24) (W := 0) (argsL := [(.int (9 : Int32)), (.int (u + 1).toInt32)]) (st := []) (k' := 0) (n' := 0) (a := r) X (c_io2 (r := r) (rb := rb) (cs := cs) (f := (u + 1)) (i := v) G X.en P0 (by omega) (by omega) P5 (fun j h1 h2 => P6 j h2 (by omega))) (w101 G) (w65 G) (nfM (z' := (⟨"java/lang/String", "indexOf", "(I)I"⟩ : MethodName)) rfl (w62 G)) (w67 G) (w66 G) P0.exa (w68 G) (w28 G) (by decide) (by decide) (by decide) rfl (lenOf pd16 rfl) rfl rfl (Nat.le_of_eq rfl) d_prog_4_m2_21 rfl (by decide) (by decide) (by decide) (by decide) (kp fun T X => ?_)
  refine W.istore (pc' := 26) (ls' := #[.val (.ref r), .val (.long x), .second, .val (.int u.toInt32), .val (.int v.toInt32)]) X d_prog_4_m2_24 rfl rfl ?_
  refine W.iload (pc' := 28) X d_prog_4_m2_26 rfl rfl ?_
  refine W.ifT (pc' := 42) X d_prog_4_m2_28 (XT.i0_ge_t (len32 (by omega)).1) (by decide) (by decide) ?_
  refine W.new (pc' := 45) (k' := 1) (n' := 2) X (w102 G) (w103 G) (w104 G) d_prog_4_m2_42 rfl (by decide) (by decide) (by decide) (by decide) fun T h1 a2 X K3 g4 g5 nb6 E7 D8 => ?_
  have F9 : Fld Z h1 a2 "com/example/dutiful_pruner/dutifulpruner/collection/CollectionDocument" "id" "Ljava/lang/String;" .null := D8 (Or.inr (w172 G)) (ty := (.object "java/lang/String")) (by decide)
  have F10 : Fld Z h1 a2 "com/example/dutiful_pruner/dutifulpruner/collection/CollectionDocument" "contents" "Ljava/lang/String;" .null := D8 (Or.inr (w174 G)) (ty := (.object "java/lang/String")) (by decide)
  refine W.dup (pc' := 46) X d_prog_4_m2_45 rfl rfl ?_
  refine W.lloadN (pc' := 47) X d_prog_4_m2_46 rfl rfl ?_
  have en11 := X.en
  refine W.callS (pc' := 50) (W := 2) (argsL := [(.long x)]) (st := [(.ref a2), (.ref a2)]) (k' := 3) (n' := 26) X (c_lts (x := x) G X.en) (w105 G) (w106 G) (w108 G) (w107 G) (by decide) (by decide) (by decide) rfl (lenOf pd34 rfl) rfl rfl (Nat.le_of_eq rfl) d_prog_4_m2_47 rfl (by decide) (by decide) (by decide) (by decide) (kr fun T h12 xr X z13 q14 => ?_)
  obtain ⟨a15, a16, rfl, K17, g18, g19, F20⟩ := q14
  have g21 : Z.heap.size ≤ a15 := Nat.le_trans (Nat.le_trans hz0 K3.1) g18
  have nb22 : ¬ B a15 := fun q => absurd (en11.2 _ q) (Nat.not_lt.mpr g18)
  have g23 : Z.heap.size ≤ a16 := Nat.le_trans (Nat.le_trans hz0 K3.1) g19
  have nb24 : ¬ B a16 := fun q => absurd (en11.2 _ q) (Nat.not_lt.mpr g19)
  refine W.aloadN (pc' := 51) X d_prog_4_m2_50 rfl rfl rfl ?_
  refine W.iload (pc' := 53) X d_prog_4_m2_51 rfl rfl ?_
  refine W.iconst (pc' := 54) X (1 : Int32) d_prog_4_m2_53 (by decide) rfl ?_
  refine W.iadd (pc' := 55) (w := (v + 1).toInt32) X d_prog_4_m2_54 (add32 (b := 1) (by omega)) rfl ?_
  have F25 := ((P0.keep K3 nin0 nin0).keep K17 nin0 nin0)
  refine W.callV (pc' := 58) (W := 3) (argsL := [(.int (v + 1).toInt32)]) (st := [(.ref a15), (.ref a2), (.ref a2)]) (k' := 5) (n' := 37) (a := r) X (c_sub1 (r := r) (rb := rb) (cs := cs) (f := (v + 1)) G X.en F25 (by omega) (by omega) (by omega)) (w124 G) (w125 G) (nfM (z' := (⟨"java/lang/String", "indexOf", "(I)I"⟩ : MethodName)) rfl (w62 G)) (w127 G) (w126 G) F25.exa (w128 G) (w28 G) (by decide) (by decide) (by decide) rfl (lenOf pd35 rfl) rfl rfl (Nat.le_of_eq rfl) d_prog_4_m2_55 rfl (by decide) (by decide) (by decide) (by decide) (kri fun T h26 B29 xr X z27 zb30 q28 => ?_)
  obtain ⟨a31, a32, rfl, K33, F34⟩ := q28
  have F35 := ((E7.keep K17).keep K33)
  have F36 := ((F9.keep K17 nin0).keep K33 nin0)
  have F37 := ((F10.keep K17 nin0).keep K33 nin0)
  have nb38 : ¬ B29 a2 := fun q => (zb30 _ q).elim nb6 (fun r => absurd (Nat.lt_of_lt_of_le E7.lt K17.1) (Nat.not_lt.mpr r))
  refine W.callN (pc' := 61) (W := 1) (argsL := [(.ref a15), (.ref a31)]) (st := [(.ref a2)]) (k' := 5) (n' := 37) (a := a2) X (c_cdi (x := a2) (a := a15) (b := a31) (v0 := .null) (v1 := .null) G X.en F35 F36 F37 g5 nb38) rfl (w162 G) (w163 G) (w164 G) (w104 G) (by decide) (by decide) (by decide) rfl (lenOf pd36 rfl) rfl rfl (Nat.le_of_eq rfl) d_prog_4_m2_58 rfl (by decide) (by decide) (by decide) (by decide) (kv fun T h39 X z40 q41 => ?_)
  obtain ⟨K42, F43, F44⟩ := q41
  have F45 := (F35.keep K42)
  have F46 := ((F20.keep K33 nin0 nin0).keep K42 (ninS (Nat.ne_of_gt (Nat.lt_of_lt_of_le E7.lt (Nat.le_trans (Nat.le_refl _) g18))) nin0) (ninS (Nat.ne_of_gt (Nat.lt_of_lt_of_le E7.lt (Nat.le_trans (Nat.le_refl _) g19))) nin0))
  have F47 := (F34.keep K42 (ninS (ne_exa F34.exa F35 (by decide)) nin0) (ninS (Ne.symm (exa_ne_ar F35 (w103 G) F34.arr)) nin0))
  exact W.areturn X d_prog_4_m2_61 rfl rfl rfl rfl (by decide) (by decide) ⟨_, rfl, ⟨a2, a15, a16, a31, a32, rfl, (Keep.trans (Keep.trans (Keep.trans (Keep.trans (Keep.refl h []) K3 all0) K17 all0) K33 all0) K42 (allS (Or.inr (Nat.le_trans (Nat.le_refl _) g4)) all0)), F45, F43, F44, F46, F47⟩⟩
def c_pick_rm : Room := { frames := 0, cells := 0, slots := 0, locals := 0 }
set_option maxRecDepth 65536 in
set_option maxHeartbeats 40000000 in
theorem c_pick {l : Launch} {Z : State} {a0 : Array Value} {zC : Int32} {fS : Value} {dO : Addr} {dT : Addr} {h : Heap} {B : Addr → Prop} {x : Int64} {i u v : Nat} (G : Gl Z a0 zC fS dO dT) (hE : En Z B h) (P0 : i ≤ 6) (P1 : u ≤ 6) (P2 : v ≤ 6) : Con l Z consts_1 [] (⟨"com/example/dutiful_pruner/dutifulpruner/collection/LineFileCollectionParseLinePinLaw", "pick", "(JIII)C"⟩ : MethodName) method_2_code 6 (some .char) c_pick_rm B h #[(.long x), (.int i.toInt32), (.int u.toInt32), (.int v.toInt32)] (fun vR hR BR => vR = some (.int (pk x i u v)) ∧ hR = h ∧ BR = B) := by
  have hz0 := hE.1.1
  refine Con.intro (ls := #[.val (.long x), .second, .val (.int i.toInt32), .val (.int u.toInt32), .val (.int v.toInt32), .unset]) (plainFor_of_name pn38) G.2.1 hE (fun m => by first | rfl | (simp [entryFrame, mkF, argsToLocals, Value.category]; done) | rfl) ?_
  intro pP eE sS mM blw mth cC T hs X
  refine W.lloadN (pc' := 1) X d_m2_0 rfl rfl ?_
  refine W.bipush (pc' := 3) X (8 : Int32) d_m2_1 (by decide) rfl ?_
  refine W.iloadN (pc' := 4) X d_m2_3 rfl rfl ?_
  refine W.imul (pc' := 5) (w := ((8 : Int32) * i.toInt32)) X d_m2_4 rfl rfl ?_
  refine W.lushr (pc' := 6) (w := (XT.ushrL x ((8 : Int32) * i.toInt32))) X d_m2_5 rfl rfl ?_
  refine W.ldcJ (pc' := 9) X (w6 G) d_m2_6 rfl ?_
  refine W.land (pc' := 10) (w := ((XT.ushrL x ((8 : Int32) * i.toInt32)) &&& (255 : Int64))) X d_m2_9 rfl rfl ?_
  refine W.l2i (pc' := 11) (w := ((XT.ushrL x ((8 : Int32) * i.toInt32)) &&& (255 : Int64)).toInt32) X d_m2_10 rfl rfl ?_
  refine W.i2c (pc' := 12) (w := (rbx x i)) X d_m2_11 (rb_eq x i) rfl ?_
  refine W.istore (pc' := 14) (ls' := #[.val (.long x), .second, .val (.int i.toInt32), .val (.int u.toInt32), .val (.int v.toInt32), .val (.int (rbx x i))]) X d_m2_12 rfl rfl ?_
  refine W.iloadN (pc' := 15) X d_m2_14 rfl rfl ?_
  refine W.iloadN (pc' := 16) X d_m2_15 rfl rfl ?_
  by_cases hc1 : i.toInt32 = u.toInt32
  · skip
    refine W.icT (pc' := 25) X d_m2_16 (XT.ii_eq_t hc1) (by decide) (by decide) ?_
    refine W.bipush (pc' := 27) X (9 : Int32) d_m2_25 (by decide) rfl ?_
    exact W.ireturn X d_m2_27 rfl (by decide) (by decide) (by decide) (by decide) ⟨(by rw [pk, if_pos (by first | exact Or.inr ((eq32 (by omega) (by omega)).mp hc2) | exact Or.inl ((eq32 (by omega) (by omega)).mp hc1))]), rfl, rfl⟩
  · skip
    refine W.icF (pc' := 19) X d_m2_16 (XT.ii_eq_f hc1) rfl ?_
    refine W.iloadN (pc' := 20) X d_m2_19 rfl rfl ?_
    refine W.iload (pc' := 22) X d_m2_20 rfl rfl ?_
    by_cases hc2 : i.toInt32 = v.toInt32
    · skip
      refine W.icF (pc' := 25) X d_m2_22 (XT.ii_ne_f hc2) rfl ?_
      refine W.bipush (pc' := 27) X (9 : Int32) d_m2_25 (by decide) rfl ?_
      exact W.ireturn X d_m2_27 rfl (by decide) (by decide) (by decide) (by decide) ⟨(by rw [pk, if_pos (by first | exact Or.inr ((eq32 (by omega) (by omega)).mp hc2) | exact Or.inl ((eq32 (by omega) (by omega)).mp hc1))]), rfl, rfl⟩
    · skip
      refine W.icT (pc' := 28) X d_m2_22 (XT.ii_ne_t hc2) (by decide) (by decide) ?_
      refine W.iloadN (pc' := 29) X d_m2_28 rfl rfl ?_
      refine W.iload (pc' := 31) X d_m2_29 rfl rfl ?_
      by_cases hc3 : i.toInt32 < v.toInt32
      · skip
        refine W.icF (pc' := 34) X d_m2_31 (XT.ii_ge_f hc3) rfl ?_
        refine W.iload (pc' := 36) X d_m2_34 rfl rfl ?_
        refine W.bipush (pc' := 38) X (9 : Int32) d_m2_36 (by decide) rfl ?_
        by_cases hc4 : (rbx x i) = (9 : Int32)
        · skip
          refine W.icF (pc' := 41) X d_m2_38 (XT.ii_ne_f hc4) rfl ?_
          refine W.bipush (pc' := 43) X (32 : Int32) d_m2_41 (by decide) rfl ?_
          exact W.ireturn X d_m2_43 rfl (by decide) (by decide) (by decide) (by decide) ⟨(by rw [pk, if_neg (fun z => z.elim (fun y => hc1 (by rw [y])) (fun y => hc2 (by rw [y]))), if_pos ⟨(lt32 (by omega) (by omega)).mp hc3, hc4⟩]), rfl, rfl⟩
        · skip
          refine W.icT (pc' := 44) X d_m2_38 (XT.ii_ne_t hc4) (by decide) (by decide) ?_
          refine W.iload (pc' := 46) X d_m2_44 rfl rfl ?_
          exact W.ireturn X d_m2_46 rfl (by decide) (narc (to16 (rb_rng x i))) (by decide) (by decide) ⟨(by rw [pk, if_neg (fun z => z.elim (fun y => hc1 (by rw [y])) (fun y => hc2 (by rw [y]))), if_neg (fun z => by first | exact hc4 z.2 | exact hc3 ((lt32 (by omega) (by omega)).mpr z.1))]), rfl, rfl⟩
      · skip
        refine W.icT (pc' := 44) X d_m2_31 (XT.ii_ge_t hc3) (by decide) (by decide) ?_
        refine W.iload (pc' := 46) X d_m2_44 rfl rfl ?_
        exact W.ireturn X d_m2_46 rfl (by decide) (narc (to16 (rb_rng x i))) (by decide) (by decide) ⟨(by rw [pk, if_neg (fun z => z.elim (fun y => hc1 (by rw [y])) (fun y => hc2 (by rw [y]))), if_neg (fun z => by first | exact hc4 z.2 | exact hc3 ((lt32 (by omega) (by omega)).mpr z.1))]), rfl, rfl⟩
def c_bc_rm : Room := { frames := 4, cells := 0, slots := 0, locals := 53 }
set_option maxRecDepth 65536 in
set_option maxHeartbeats 40000000 in
theorem c_bc {l : Launch} {Z : State} {a0 : Array Value} {zC : Int32} {fS : Value} {dO : Addr} {dT : Addr} {h : Heap} {B : Addr → Prop} {r rb w : Addr} {cs : List Int32} {v n k : Nat} (G : Gl Z a0 zC fS dO dT) (hE : En Z B h) (P0 : Ar Z h w .char (cs.map Value.int)) (P1 : Str Z h r rb (cs.drop (v + 1))) (P2 : cs.length = 7) (P3 : v ≤ 6) (P4 : n = 6 - v) (P5 : k ≤ 6) : Con l Z consts_1 [] (⟨"com/example/dutiful_pruner/dutifulpruner/collection/LineFileCollectionParseLinePinLaw", "bc", "(Ljava/lang/String;[CIII)Z"⟩ : MethodName) method_3_code 5 (some .boolean) c_bc_rm B h #[(.ref r), (.ref w), (.int v.toInt32), (.int n.toInt32), (.int k.toInt32)] (fun vR hR BR => vR = some (.int (1 : Int32)) ∧ hR = h ∧ BR = B) := by
  have hz0 := hE.1.1
  refine Con.intro (ls := #[.val (.ref r), .val (.ref w), .val (.int v.toInt32), .val (.int n.toInt32), .val (.int k.toInt32)]) (plainFor_of_name pn38) G.2.1 hE (fun m => by first | rfl | (simp [entryFrame, mkF, argsToLocals, Value.category]; done) | rfl) ?_
  intro pP eE sS mM blw mth cC T hs X
  refine W.iload (pc' := 2) X d_m3_0 rfl rfl ?_
  refine W.iloadN (pc' := 3) X d_m3_2 rfl rfl ?_
  by_cases hc1 : k.toInt32 < n.toInt32
  · skip
    refine W.icT (pc' := 8) X d_m3_3 (XT.ii_lt_t hc1) (by decide) (by decide) ?_
    have hk := (lt32 (by omega) (by omega)).mp hc1
    refine W.aloadN (pc' := 9) X d_m3_8 rfl rfl rfl ?_
    refine W.iload (pc' := 11) X d_m3_9 rfl rfl ?_
    refine W.callV (pc' := 14) (W := 0) (argsL := [(.int k.toInt32)]) (st := []) (k' := 0) (n' := 0) (a := r) X (c_ch (a := r) (b := rb) (cs := (cs.drop (v + 1))) (i := k) G X.en P1 (by rw [List.length_drop]; omega)) (w189 G) (w190 G) (nfM (z' := (⟨"java/lang/String", "indexOf", "(I)I"⟩ : MethodName)) rfl (w62 G)) (w192 G) (w191 G) P1.exa (w193 G) (w28 G) (by decide) (by decide) (by decide) rfl (lenOf pd39 rfl) rfl rfl (Nat.le_of_eq rfl) d_m3_11 rfl (by decide) (by decide) (by decide) (by decide) (kp fun T X => ?_)
    refine W.aloadN (pc' := 15) X d_m3_14 rfl rfl rfl ?_
    refine W.iloadN (pc' := 16) X d_m3_15 rfl rfl ?_
    refine W.iconst (pc' := 17) X (1 : Int32) d_m3_16 (by decide) rfl ?_
    refine W.iadd (pc' := 18) (w := (v + 1).toInt32) X d_m3_17 (add32 (b := 1) (by omega)) rfl ?_
    refine W.iload (pc' := 20) X d_m3_18 rfl rfl ?_
    refine W.iadd (pc' := 21) (w := (v + 1 + k).toInt32) X d_m3_20 (add32 (by omega)) rfl ?_
    refine W.caload (pc' := 22) (v := (.int (cs.getD (v + 1 + k) 0))) X P0 (len32 (by omega)).1 (ch_get (by omega) (by omega)) d_m3_21 rfl ?_
    refine W.icF (pc' := 25) X d_m3_22 (XT.ii_ne_f drop_get) rfl ?_
    refine W.iconst (pc' := 26) X (1 : Int32) d_m3_25 (by decide) rfl ?_
    refine W.goto (pc' := 30) X d_m3_26 (by decide) (by decide) ?_
    exact W.ireturn X d_m3_30 rfl (by decide) (by decide) (by decide) (by decide) ⟨rfl, rfl, rfl⟩
  · skip
    refine W.icF (pc' := 6) X d_m3_3 (XT.ii_lt_f hc1) rfl ?_
    refine W.iconst (pc' := 7) X (1 : Int32) d_m3_6 (by decide) rfl ?_
    exact W.ireturn X d_m3_7 rfl (by decide) (by decide) (by decide) (by decide) ⟨rfl, rfl, rfl⟩
def c_dig_rm : Room := { frames := 0, cells := 0, slots := 0, locals := 0 }
set_option maxRecDepth 65536 in
set_option maxHeartbeats 40000000 in
theorem c_dig {l : Launch} {Z : State} {a0 : Array Value} {zC : Int32} {fS : Value} {dO : Addr} {dT : Addr} {h : Heap} {B : Addr → Prop} {x : Int64} (G : Gl Z a0 zC fS dO dT) (hE : En Z B h)  : Con l Z consts_1 [] (⟨"com/example/dutiful_pruner/dutifulpruner/collection/LineFileCollectionParseLinePinLaw", "digits", "(J)I"⟩ : MethodName) method_4_code 4 (some .int) c_dig_rm B h #[(.long x)] (fun vR hR BR => vR = some (.int (digs (nabs x)).length.toInt32) ∧ hR = h ∧ BR = B) := by
  have hz0 := hE.1.1
  refine Con.intro (ls := #[.val (.long x), .second, .unset, .unset]) (plainFor_of_name pn38) G.2.1 hE (fun m => by first | rfl | (simp [entryFrame, mkF, argsToLocals, Value.category]; done) | rfl) ?_
  intro pP eE sS mM blw mth cC T hs X
  have s12 : ∀ (w : Int64), w.toInt = -(nabs x : Int) → Go l Z consts_1 c_dig_rm B (fun vR hR BR => vR = some (.int (digs (nabs x)).length.toInt32) ∧ hR = h ∧ BR = B) pP eE sS mM blw T 12 #[.val (.long x), .second, .unset, .unset] [(.long w)] := by
    intro w hw
    refine W.lstoreN (pc' := 13) (ls' := #[.val (.long x), .second, .val (.long w), .second]) X d_m4_12 rfl rfl ?_
    refine W.lloadN (pc' := 14) X d_m4_13 rfl rfl ?_
    refine W.ldcJ (pc' := 17) X (w206 G) d_m4_14 rfl ?_
    refine W.lcmp (pc' := 18) (w := (XT.cmpL w (-10 : Int64))) X d_m4_17 rfl rfl ?_
    by_cases hb1 : (-10 : Int64) < w
    · skip
      refine W.ifF (pc' := 21) X d_m4_18 (XT.ll_le_f hb1) rfl ?_
      refine W.iconst (pc' := 22) X (1 : Int32) d_m4_21 (by decide) rfl ?_
      exact W.ireturn X d_m4_22 rfl (by decide) rfl (by decide) (by decide) ⟨(by rw [len_eq (i := 1) (by decide) ((ltL (P := 10 ^ 1) hw rfl).mp hb1) (Or.inl rfl)]; rfl), rfl, rfl⟩
    · skip
      refine W.ifT (pc' := 23) X d_m4_18 (XT.ll_le_t hb1) (by decide) (by decide) ?_
      refine W.lloadN (pc' := 24) X d_m4_23 rfl rfl ?_
      refine W.ldcJ (pc' := 27) X (w216 G) d_m4_24 rfl ?_
      refine W.lcmp (pc' := 28) (w := (XT.cmpL w (-100 : Int64))) X d_m4_27 rfl rfl ?_
      by_cases hb2 : (-100 : Int64) < w
      · skip
        refine W.ifF (pc' := 31) X d_m4_28 (XT.ll_le_f hb2) rfl ?_
        refine W.iconst (pc' := 32) X (2 : Int32) d_m4_31 (by decide) rfl ?_
        exact W.ireturn X d_m4_32 rfl (by decide) rfl (by decide) (by decide) ⟨(by rw [len_eq (i := 2) (by decide) ((ltL (P := 10 ^ 2) hw rfl).mp hb2) (Or.inr (Nat.le_of_not_lt fun z => hb1 ((ltL (P := 10 ^ 1) hw rfl).mpr z)))]; rfl), rfl, rfl⟩
      · skip
        refine W.ifT (pc' := 33) X d_m4_28 (XT.ll_le_t hb2) (by decide) (by decide) ?_
        refine W.lloadN (pc' := 34) X d_m4_33 rfl rfl ?_
        refine W.ldcJ (pc' := 37) X (w217 G) d_m4_34 rfl ?_
        refine W.lcmp (pc' := 38) (w := (XT.cmpL w (-1000 : Int64))) X d_m4_37 rfl rfl ?_
        by_cases hb3 : (-1000 : Int64) < w
        · skip
          refine W.ifF (pc' := 41) X d_m4_38 (XT.ll_le_f hb3) rfl ?_
          refine W.iconst (pc' := 42) X (3 : Int32) d_m4_41 (by decide) rfl ?_
          exact W.ireturn X d_m4_42 rfl (by decide) rfl (by decide) (by decide) ⟨(by rw [len_eq (i := 3) (by decide) ((ltL (P := 10 ^ 3) hw rfl).mp hb3) (Or.inr (Nat.le_of_not_lt fun z => hb2 ((ltL (P := 10 ^ 2) hw rfl).mpr z)))]; rfl), rfl, rfl⟩
        · skip
          refine W.ifT (pc' := 43) X d_m4_38 (XT.ll_le_t hb3) (by decide) (by decide) ?_
          refine W.lloadN (pc' := 44) X d_m4_43 rfl rfl ?_
          refine W.ldcJ (pc' := 47) X (w218 G) d_m4_44 rfl ?_
          refine W.lcmp (pc' := 48) (w := (XT.cmpL w (-10000 : Int64))) X d_m4_47 rfl rfl ?_
          by_cases hb4 : (-10000 : Int64) < w
          · skip
            refine W.ifF (pc' := 51) X d_m4_48 (XT.ll_le_f hb4) rfl ?_
            refine W.iconst (pc' := 52) X (4 : Int32) d_m4_51 (by decide) rfl ?_
            exact W.ireturn X d_m4_52 rfl (by decide) rfl (by decide) (by decide) ⟨(by rw [len_eq (i := 4) (by decide) ((ltL (P := 10 ^ 4) hw rfl).mp hb4) (Or.inr (Nat.le_of_not_lt fun z => hb3 ((ltL (P := 10 ^ 3) hw rfl).mpr z)))]; rfl), rfl, rfl⟩
          · skip
            refine W.ifT (pc' := 53) X d_m4_48 (XT.ll_le_t hb4) (by decide) (by decide) ?_
            refine W.lloadN (pc' := 54) X d_m4_53 rfl rfl ?_
            refine W.ldcJ (pc' := 57) X (w219 G) d_m4_54 rfl ?_
            refine W.lcmp (pc' := 58) (w := (XT.cmpL w (-100000 : Int64))) X d_m4_57 rfl rfl ?_
            by_cases hb5 : (-100000 : Int64) < w
            · skip
              refine W.ifF (pc' := 61) X d_m4_58 (XT.ll_le_f hb5) rfl ?_
              refine W.iconst (pc' := 62) X (5 : Int32) d_m4_61 (by decide) rfl ?_
              exact W.ireturn X d_m4_62 rfl (by decide) rfl (by decide) (by decide) ⟨(by rw [len_eq (i := 5) (by decide) ((ltL (P := 10 ^ 5) hw rfl).mp hb5) (Or.inr (Nat.le_of_not_lt fun z => hb4 ((ltL (P := 10 ^ 4) hw rfl).mpr z)))]; rfl), rfl, rfl⟩
            · skip
              refine W.ifT (pc' := 63) X d_m4_58 (XT.ll_le_t hb5) (by decide) (by decide) ?_
              refine W.lloadN (pc' := 64) X d_m4_63 rfl rfl ?_
              refine W.ldcJ (pc' := 67) X (w220 G) d_m4_64 rfl ?_
              refine W.lcmp (pc' := 68) (w := (XT.cmpL w (-1000000 : Int64))) X d_m4_67 rfl rfl ?_
              by_cases hb6 : (-1000000 : Int64) < w
              · skip
                refine W.ifF (pc' := 71) X d_m4_68 (XT.ll_le_f hb6) rfl ?_
                refine W.bipush (pc' := 73) X (6 : Int32) d_m4_71 (by decide) rfl ?_
                exact W.ireturn X d_m4_73 rfl (by decide) rfl (by decide) (by decide) ⟨(by rw [len_eq (i := 6) (by decide) ((ltL (P := 10 ^ 6) hw rfl).mp hb6) (Or.inr (Nat.le_of_not_lt fun z => hb5 ((ltL (P := 10 ^ 5) hw rfl).mpr z)))]; rfl), rfl, rfl⟩
              · skip
                refine W.ifT (pc' := 74) X d_m4_68 (XT.ll_le_t hb6) (by decide) (by decide) ?_
                refine W.lloadN (pc' := 75) X d_m4_74 rfl rfl ?_
                refine W.ldcJ (pc' := 78) X (w221 G) d_m4_75 rfl ?_
                refine W.lcmp (pc' := 79) (w := (XT.cmpL w (-10000000 : Int64))) X d_m4_78 rfl rfl ?_
                by_cases hb7 : (-10000000 : Int64) < w
                · skip
                  refine W.ifF (pc' := 82) X d_m4_79 (XT.ll_le_f hb7) rfl ?_
                  refine W.bipush (pc' := 84) X (7 : Int32) d_m4_82 (by decide) rfl ?_
                  exact W.ireturn X d_m4_84 rfl (by decide) rfl (by decide) (by decide) ⟨(by rw [len_eq (i := 7) (by decide) ((ltL (P := 10 ^ 7) hw rfl).mp hb7) (Or.inr (Nat.le_of_not_lt fun z => hb6 ((ltL (P := 10 ^ 6) hw rfl).mpr z)))]; rfl), rfl, rfl⟩
                · skip
                  refine W.ifT (pc' := 85) X d_m4_79 (XT.ll_le_t hb7) (by decide) (by decide) ?_
                  refine W.lloadN (pc' := 86) X d_m4_85 rfl rfl ?_
                  refine W.ldcJ (pc' := 89) X (w222 G) d_m4_86 rfl ?_
                  refine W.lcmp (pc' := 90) (w := (XT.cmpL w (-100000000 : Int64))) X d_m4_89 rfl rfl ?_
                  by_cases hb8 : (-100000000 : Int64) < w
                  · skip
                    refine W.ifF (pc' := 93) X d_m4_90 (XT.ll_le_f hb8) rfl ?_
                    refine W.bipush (pc' := 95) X (8 : Int32) d_m4_93 (by decide) rfl ?_
                    exact W.ireturn X d_m4_95 rfl (by decide) rfl (by decide) (by decide) ⟨(by rw [len_eq (i := 8) (by decide) ((ltL (P := 10 ^ 8) hw rfl).mp hb8) (Or.inr (Nat.le_of_not_lt fun z => hb7 ((ltL (P := 10 ^ 7) hw rfl).mpr z)))]; rfl), rfl, rfl⟩
                  · skip
                    refine W.ifT (pc' := 96) X d_m4_90 (XT.ll_le_t hb8) (by decide) (by decide) ?_
                    refine W.lloadN (pc' := 97) X d_m4_96 rfl rfl ?_
                    refine W.ldcJ (pc' := 100) X (w223 G) d_m4_97 rfl ?_
                    refine W.lcmp (pc' := 101) (w := (XT.cmpL w (-1000000000 : Int64))) X d_m4_100 rfl rfl ?_
                    by_cases hb9 : (-1000000000 : Int64) < w
                    · skip
                      refine W.ifF (pc' := 104) X d_m4_101 (XT.ll_le_f hb9) rfl ?_
                      refine W.bipush (pc' := 106) X (9 : Int32) d_m4_104 (by decide) rfl ?_
                      exact W.ireturn X d_m4_106 rfl (by decide) rfl (by decide) (by decide) ⟨(by rw [len_eq (i := 9) (by decide) ((ltL (P := 10 ^ 9) hw rfl).mp hb9) (Or.inr (Nat.le_of_not_lt fun z => hb8 ((ltL (P := 10 ^ 8) hw rfl).mpr z)))]; rfl), rfl, rfl⟩
                    · skip
                      refine W.ifT (pc' := 107) X d_m4_101 (XT.ll_le_t hb9) (by decide) (by decide) ?_
                      refine W.lloadN (pc' := 108) X d_m4_107 rfl rfl ?_
                      refine W.ldcJ (pc' := 111) X (w224 G) d_m4_108 rfl ?_
                      refine W.lcmp (pc' := 112) (w := (XT.cmpL w (-10000000000 : Int64))) X d_m4_111 rfl rfl ?_
                      by_cases hb10 : (-10000000000 : Int64) < w
                      · skip
                        refine W.ifF (pc' := 115) X d_m4_112 (XT.ll_le_f hb10) rfl ?_
                        refine W.bipush (pc' := 117) X (10 : Int32) d_m4_115 (by decide) rfl ?_
                        exact W.ireturn X d_m4_117 rfl (by decide) rfl (by decide) (by decide) ⟨(by rw [len_eq (i := 10) (by decide) ((ltL (P := 10 ^ 10) hw rfl).mp hb10) (Or.inr (Nat.le_of_not_lt fun z => hb9 ((ltL (P := 10 ^ 9) hw rfl).mpr z)))]; rfl), rfl, rfl⟩
                      · skip
                        refine W.ifT (pc' := 118) X d_m4_112 (XT.ll_le_t hb10) (by decide) (by decide) ?_
                        refine W.lloadN (pc' := 119) X d_m4_118 rfl rfl ?_
                        refine W.ldcJ (pc' := 122) X (w225 G) d_m4_119 rfl ?_
                        refine W.lcmp (pc' := 123) (w := (XT.cmpL w (-100000000000 : Int64))) X d_m4_122 rfl rfl ?_
                        by_cases hb11 : (-100000000000 : Int64) < w
                        · skip
                          refine W.ifF (pc' := 126) X d_m4_123 (XT.ll_le_f hb11) rfl ?_
                          refine W.bipush (pc' := 128) X (11 : Int32) d_m4_126 (by decide) rfl ?_
                          exact W.ireturn X d_m4_128 rfl (by decide) rfl (by decide) (by decide) ⟨(by rw [len_eq (i := 11) (by decide) ((ltL (P := 10 ^ 11) hw rfl).mp hb11) (Or.inr (Nat.le_of_not_lt fun z => hb10 ((ltL (P := 10 ^ 10) hw rfl).mpr z)))]; rfl), rfl, rfl⟩
                        · skip
                          refine W.ifT (pc' := 129) X d_m4_123 (XT.ll_le_t hb11) (by decide) (by decide) ?_
                          refine W.lloadN (pc' := 130) X d_m4_129 rfl rfl ?_
                          refine W.ldcJ (pc' := 133) X (w226 G) d_m4_130 rfl ?_
                          refine W.lcmp (pc' := 134) (w := (XT.cmpL w (-1000000000000 : Int64))) X d_m4_133 rfl rfl ?_
                          by_cases hb12 : (-1000000000000 : Int64) < w
                          · skip
                            refine W.ifF (pc' := 137) X d_m4_134 (XT.ll_le_f hb12) rfl ?_
                            refine W.bipush (pc' := 139) X (12 : Int32) d_m4_137 (by decide) rfl ?_
                            exact W.ireturn X d_m4_139 rfl (by decide) rfl (by decide) (by decide) ⟨(by rw [len_eq (i := 12) (by decide) ((ltL (P := 10 ^ 12) hw rfl).mp hb12) (Or.inr (Nat.le_of_not_lt fun z => hb11 ((ltL (P := 10 ^ 11) hw rfl).mpr z)))]; rfl), rfl, rfl⟩
                          · skip
                            refine W.ifT (pc' := 140) X d_m4_134 (XT.ll_le_t hb12) (by decide) (by decide) ?_
                            refine W.lloadN (pc' := 141) X d_m4_140 rfl rfl ?_
                            refine W.ldcJ (pc' := 144) X (w227 G) d_m4_141 rfl ?_
                            refine W.lcmp (pc' := 145) (w := (XT.cmpL w (-10000000000000 : Int64))) X d_m4_144 rfl rfl ?_
                            by_cases hb13 : (-10000000000000 : Int64) < w
                            · skip
                              refine W.ifF (pc' := 148) X d_m4_145 (XT.ll_le_f hb13) rfl ?_
                              refine W.bipush (pc' := 150) X (13 : Int32) d_m4_148 (by decide) rfl ?_
                              exact W.ireturn X d_m4_150 rfl (by decide) rfl (by decide) (by decide) ⟨(by rw [len_eq (i := 13) (by decide) ((ltL (P := 10 ^ 13) hw rfl).mp hb13) (Or.inr (Nat.le_of_not_lt fun z => hb12 ((ltL (P := 10 ^ 12) hw rfl).mpr z)))]; rfl), rfl, rfl⟩
                            · skip
                              refine W.ifT (pc' := 151) X d_m4_145 (XT.ll_le_t hb13) (by decide) (by decide) ?_
                              refine W.lloadN (pc' := 152) X d_m4_151 rfl rfl ?_
                              refine W.ldcJ (pc' := 155) X (w228 G) d_m4_152 rfl ?_
                              refine W.lcmp (pc' := 156) (w := (XT.cmpL w (-100000000000000 : Int64))) X d_m4_155 rfl rfl ?_
                              by_cases hb14 : (-100000000000000 : Int64) < w
                              · skip
                                refine W.ifF (pc' := 159) X d_m4_156 (XT.ll_le_f hb14) rfl ?_
                                refine W.bipush (pc' := 161) X (14 : Int32) d_m4_159 (by decide) rfl ?_
                                exact W.ireturn X d_m4_161 rfl (by decide) rfl (by decide) (by decide) ⟨(by rw [len_eq (i := 14) (by decide) ((ltL (P := 10 ^ 14) hw rfl).mp hb14) (Or.inr (Nat.le_of_not_lt fun z => hb13 ((ltL (P := 10 ^ 13) hw rfl).mpr z)))]; rfl), rfl, rfl⟩
                              · skip
                                refine W.ifT (pc' := 162) X d_m4_156 (XT.ll_le_t hb14) (by decide) (by decide) ?_
                                refine W.lloadN (pc' := 163) X d_m4_162 rfl rfl ?_
                                refine W.ldcJ (pc' := 166) X (w229 G) d_m4_163 rfl ?_
                                refine W.lcmp (pc' := 167) (w := (XT.cmpL w (-1000000000000000 : Int64))) X d_m4_166 rfl rfl ?_
                                by_cases hb15 : (-1000000000000000 : Int64) < w
                                · skip
                                  refine W.ifF (pc' := 170) X d_m4_167 (XT.ll_le_f hb15) rfl ?_
                                  refine W.bipush (pc' := 172) X (15 : Int32) d_m4_170 (by decide) rfl ?_
                                  exact W.ireturn X d_m4_172 rfl (by decide) rfl (by decide) (by decide) ⟨(by rw [len_eq (i := 15) (by decide) ((ltL (P := 10 ^ 15) hw rfl).mp hb15) (Or.inr (Nat.le_of_not_lt fun z => hb14 ((ltL (P := 10 ^ 14) hw rfl).mpr z)))]; rfl), rfl, rfl⟩
                                · skip
                                  refine W.ifT (pc' := 173) X d_m4_167 (XT.ll_le_t hb15) (by decide) (by decide) ?_
                                  refine W.lloadN (pc' := 174) X d_m4_173 rfl rfl ?_
                                  refine W.ldcJ (pc' := 177) X (w230 G) d_m4_174 rfl ?_
                                  refine W.lcmp (pc' := 178) (w := (XT.cmpL w (-10000000000000000 : Int64))) X d_m4_177 rfl rfl ?_
                                  by_cases hb16 : (-10000000000000000 : Int64) < w
                                  · skip
                                    refine W.ifF (pc' := 181) X d_m4_178 (XT.ll_le_f hb16) rfl ?_
                                    refine W.bipush (pc' := 183) X (16 : Int32) d_m4_181 (by decide) rfl ?_
                                    exact W.ireturn X d_m4_183 rfl (by decide) rfl (by decide) (by decide) ⟨(by rw [len_eq (i := 16) (by decide) ((ltL (P := 10 ^ 16) hw rfl).mp hb16) (Or.inr (Nat.le_of_not_lt fun z => hb15 ((ltL (P := 10 ^ 15) hw rfl).mpr z)))]; rfl), rfl, rfl⟩
                                  · skip
                                    refine W.ifT (pc' := 184) X d_m4_178 (XT.ll_le_t hb16) (by decide) (by decide) ?_
                                    refine W.lloadN (pc' := 185) X d_m4_184 rfl rfl ?_
                                    refine W.ldcJ (pc' := 188) X (w231 G) d_m4_185 rfl ?_
                                    refine W.lcmp (pc' := 189) (w := (XT.cmpL w (-100000000000000000 : Int64))) X d_m4_188 rfl rfl ?_
                                    by_cases hb17 : (-100000000000000000 : Int64) < w
                                    · skip
                                      refine W.ifF (pc' := 192) X d_m4_189 (XT.ll_le_f hb17) rfl ?_
                                      refine W.bipush (pc' := 194) X (17 : Int32) d_m4_192 (by decide) rfl ?_
                                      exact W.ireturn X d_m4_194 rfl (by decide) rfl (by decide) (by decide) ⟨(by rw [len_eq (i := 17) (by decide) ((ltL (P := 10 ^ 17) hw rfl).mp hb17) (Or.inr (Nat.le_of_not_lt fun z => hb16 ((ltL (P := 10 ^ 16) hw rfl).mpr z)))]; rfl), rfl, rfl⟩
                                    · skip
                                      refine W.ifT (pc' := 195) X d_m4_189 (XT.ll_le_t hb17) (by decide) (by decide) ?_
                                      refine W.lloadN (pc' := 196) X d_m4_195 rfl rfl ?_
                                      refine W.ldcJ (pc' := 199) X (w232 G) d_m4_196 rfl ?_
                                      refine W.lcmp (pc' := 200) (w := (XT.cmpL w (-1000000000000000000 : Int64))) X d_m4_199 rfl rfl ?_
                                      by_cases hb18 : (-1000000000000000000 : Int64) < w
                                      · skip
                                        refine W.ifF (pc' := 203) X d_m4_200 (XT.ll_le_f hb18) rfl ?_
                                        refine W.bipush (pc' := 205) X (18 : Int32) d_m4_203 (by decide) rfl ?_
                                        exact W.ireturn X d_m4_205 rfl (by decide) rfl (by decide) (by decide) ⟨(by rw [len_eq (i := 18) (by decide) ((ltL (P := 10 ^ 18) hw rfl).mp hb18) (Or.inr (Nat.le_of_not_lt fun z => hb17 ((ltL (P := 10 ^ 17) hw rfl).mpr z)))]; rfl), rfl, rfl⟩
                                      · skip
                                        refine W.ifT (pc' := 206) X d_m4_200 (XT.ll_le_t hb18) (by decide) (by decide) ?_
                                        refine W.bipush (pc' := 208) X (19 : Int32) d_m4_206 (by decide) rfl ?_
                                        exact W.ireturn X d_m4_208 rfl (by decide) rfl (by decide) (by decide) ⟨(by rw [len_eq (i := 19) (by decide) (n19 x) (Or.inr (Nat.le_of_not_lt fun z => hb18 ((ltL (P := 10 ^ 18) hw rfl).mpr z)))]; rfl), rfl, rfl⟩
  refine W.lloadN (pc' := 1) X d_m4_0 rfl rfl ?_
  refine W.lconst (pc' := 2) X (0 : Int64) d_m4_1 (by decide) rfl ?_
  refine W.lcmp (pc' := 3) (w := (XT.cmpL x (0 : Int64))) X d_m4_2 rfl rfl ?_
  by_cases hs : x < (0 : Int64)
  · skip
    refine W.ifF (pc' := 6) X d_m4_3 (XT.ll_ge_f hs) rfl ?_
    refine W.lloadN (pc' := 7) X d_m4_6 rfl rfl ?_
    refine W.goto (pc' := 12) X d_m4_7 (by decide) (by decide) ?_
    exact s12 _ (neg_n hs)
  · skip
    refine W.ifT (pc' := 10) X d_m4_3 (XT.ll_ge_t hs) (by decide) (by decide) ?_
    refine W.lloadN (pc' := 11) X d_m4_10 rfl rfl ?_
    refine W.lneg (pc' := 12) (w := (-x)) X d_m4_11 rfl rfl ?_
    exact s12 _ (neg_p hs)
def c_idc_rm : Room := { frames := 4, cells := 0, slots := 0, locals := 53 }
set_option maxRecDepth 65536 in
set_option maxHeartbeats 40000000 in
theorem c_idc {l : Launch} {Z : State} {a0 : Array Value} {zC : Int32} {fS : Value} {dO : Addr} {dT : Addr} {h : Heap} {B : Addr → Prop} {r rb w : Addr} {x : Int64} {sg k : Nat} (G : Gl Z a0 zC fS dO dT) (hE : En Z B h) (P0 : Str Z h r rb (lstr x)) (P1 : Ar Z h w .long pwl) (P2 : sg = (sl (decide (x < 0))).length) (P3 : k ≤ 19) : Con l Z consts_1 [] (⟨"com/example/dutiful_pruner/dutifulpruner/collection/LineFileCollectionParseLinePinLaw", "idc", "(Ljava/lang/String;JII[JI)Z"⟩ : MethodName) method_5_code 10 (some .boolean) c_idc_rm B h #[(.ref r), (.long x), (.int sg.toInt32), (.int (digs (nabs x)).length.toInt32), (.ref w), (.int k.toInt32)] (fun vR hR BR => vR = some (.int (1 : Int32)) ∧ hR = h ∧ BR = B) := by
  have hz0 := hE.1.1
  refine Con.intro (ls := #[.val (.ref r), .val (.long x), .second, .val (.int sg.toInt32), .val (.int (digs (nabs x)).length.toInt32), .val (.ref w), .val (.int k.toInt32), .unset, .unset, .unset]) (plainFor_of_name pn38) G.2.1 hE (fun m => by first | (simp [entryFrame, mkF, argsToLocals, Value.category]; done) | rfl) ?_
  intro pP eE sS mM blw mth cC T hs X
  have hd1 := digs_20 x
  have hd0 := digs_pos (nabs x)
  have hs1 := sl_len (decide (x < 0))
  have hln := lstr_len x
  refine W.iload (pc' := 2) X d_m5_0 rfl rfl ?_
  refine W.iloadN (pc' := 3) X d_m5_2 rfl rfl ?_
  refine W.iload (pc' := 5) X d_m5_3 rfl rfl ?_
  refine W.iadd (pc' := 6) (w := (sg + (digs (nabs x)).length).toInt32) X d_m5_5 (add32 (by omega)) rfl ?_
  by_cases hc1 : k.toInt32 < (sg + (digs (nabs x)).length).toInt32
  · skip
    refine W.icT (pc' := 11) X d_m5_6 (XT.ii_lt_t hc1) (by decide) (by decide) ?_
    have hk := (lt32 (by omega) (by omega)).mp hc1
    refine W.iload (pc' := 13) X d_m5_11 rfl rfl ?_
    refine W.iloadN (pc' := 14) X d_m5_13 rfl rfl ?_
    by_cases hc2 : k.toInt32 < sg.toInt32
    · skip
      refine W.icF (pc' := 17) X d_m5_14 (XT.ii_ge_f hc2) rfl ?_
      refine W.aloadN (pc' := 18) X d_m5_17 rfl rfl rfl ?_
      refine W.iload (pc' := 20) X d_m5_18 rfl rfl ?_
      refine W.callV (pc' := 23) (W := 0) (argsL := [(.int k.toInt32)]) (st := []) (k' := 0) (n' := 0) (a := r) X (c_ch (a := r) (b := rb) (cs := (lstr x)) (i := k) G X.en P0 (by omega)) (w189 G) (w190 G) (nfM (z' := (⟨"java/lang/String", "indexOf", "(I)I"⟩ : MethodName)) rfl (w62 G)) (w192 G) (w191 G) P0.exa (w193 G) (w28 G) (by decide) (by decide) (by decide) rfl (lenOf pd39 rfl) rfl rfl (Nat.le_of_eq rfl) d_m5_20 rfl (by decide) (by decide) (by decide) (by decide) (kp fun T X => ?_)
      refine W.bipush (pc' := 25) X (45 : Int32) d_m5_23 (by decide) rfl ?_
      refine W.icF (pc' := 28) X d_m5_25 (XT.ii_ne_f (lstr_m P2 ((lt32 (by omega) (by omega)).mp hc2))) rfl ?_
      refine W.iconst (pc' := 29) X (1 : Int32) d_m5_28 (by decide) rfl ?_
      refine W.goto (pc' := 33) X d_m5_29 (by decide) (by decide) ?_
      exact W.ireturn X d_m5_33 rfl (by decide) (by decide) (by decide) (by decide) ⟨rfl, rfl, rfl⟩
    · skip
      refine W.icT (pc' := 34) X d_m5_14 (XT.ii_ge_t hc2) (by decide) (by decide) ?_
      have hk2 : ¬ k < sg := fun z => hc2 ((lt32 (by omega) (by omega)).mpr z)
      refine W.iload (pc' := 36) X d_m5_34 rfl rfl ?_
      refine W.iloadN (pc' := 37) X d_m5_36 rfl rfl ?_
      refine W.isub (pc' := 38) (w := (k - sg).toInt32) X d_m5_37 (sub32 (by omega) (by omega)) rfl ?_
      refine W.istore (pc' := 40) (ls' := #[.val (.ref r), .val (.long x), .second, .val (.int sg.toInt32), .val (.int (digs (nabs x)).length.toInt32), .val (.ref w), .val (.int k.toInt32), .val (.int (k - sg).toInt32), .unset, .unset]) X d_m5_38 rfl rfl ?_
      refine W.lloadN (pc' := 41) X d_m5_40 rfl rfl ?_
      refine W.aload (pc' := 43) X d_m5_41 rfl rfl rfl ?_
      refine W.iload (pc' := 45) X d_m5_43 rfl rfl ?_
      refine W.iconst (pc' := 46) X (1 : Int32) d_m5_45 (by decide) rfl ?_
      refine W.isub (pc' := 47) (w := ((digs (nabs x)).length - 1).toInt32) X d_m5_46 (sub32 (b := 1) (by omega) (by omega)) rfl ?_
      refine W.iload (pc' := 49) X d_m5_47 rfl rfl ?_
      refine W.isub (pc' := 50) (w := ((digs (nabs x)).length - 1 - (k - sg)).toInt32) X d_m5_49 (sub32 (by omega) (by omega)) rfl ?_
      refine W.laload (pc' := 51) (v := (.long (p10 ((digs (nabs x)).length - 1 - (k - sg))))) X P1 (len32 (by omega)).1 (pwl_get (by omega)) d_m5_50 rfl ?_
      refine W.ldiv (pc' := 52) (w := (x / (p10 ((digs (nabs x)).length - 1 - (k - sg))))) X d_m5_51 (p10_ne (by omega)) rfl rfl ?_
      refine W.ldcJ (pc' := 55) X (w8 G) d_m5_52 rfl ?_
      refine W.lrem (pc' := 56) (w := ((x / (p10 ((digs (nabs x)).length - 1 - (k - sg)))) - ((x / (p10 ((digs (nabs x)).length - 1 - (k - sg)))) / (10 : Int64)) * (10 : Int64))) X d_m5_55 (by decide) rfl rfl ?_
      refine W.lstore (pc' := 58) (ls' := #[.val (.ref r), .val (.long x), .second, .val (.int sg.toInt32), .val (.int (digs (nabs x)).length.toInt32), .val (.ref w), .val (.int k.toInt32), .val (.int (k - sg).toInt32), .val (.long ((x / (p10 ((digs (nabs x)).length - 1 - (k - sg)))) - ((x / (p10 ((digs (nabs x)).length - 1 - (k - sg)))) / (10 : Int64)) * (10 : Int64))), .second]) X d_m5_56 rfl rfl ?_
      refine W.aloadN (pc' := 59) X d_m5_58 rfl rfl rfl ?_
      refine W.iload (pc' := 61) X d_m5_59 rfl rfl ?_
      refine W.callV (pc' := 64) (W := 0) (argsL := [(.int k.toInt32)]) (st := []) (k' := 0) (n' := 0) (a := r) X (c_ch (a := r) (b := rb) (cs := (lstr x)) (i := k) G X.en P0 (by omega)) (w189 G) (w190 G) (nfM (z' := (⟨"java/lang/String", "indexOf", "(I)I"⟩ : MethodName)) rfl (w62 G)) (w192 G) (w191 G) P0.exa (w193 G) (w28 G) (by decide) (by decide) (by decide) rfl (lenOf pd39 rfl) rfl rfl (Nat.le_of_eq rfl) d_m5_61 rfl (by decide) (by decide) (by decide) (by decide) (kp fun T X => ?_)
      refine W.bipush (pc' := 66) X (48 : Int32) d_m5_64 (by decide) rfl ?_
      refine W.lload (pc' := 68) X d_m5_66 rfl rfl ?_
      refine W.callS (pc' := 71) (W := 2) (argsL := [(.long ((x / (p10 ((digs (nabs x)).length - 1 - (k - sg)))) - ((x / (p10 ((digs (nabs x)).length - 1 - (k - sg)))) / (10 : Int64)) * (10 : Int64)))]) (st := [(.int (48 : Int32)), (.int ((lstr x).getD k 0))]) (k' := 0) (n' := 0) X (c_abs (x := ((x / (p10 ((digs (nabs x)).length - 1 - (k - sg)))) - ((x / (p10 ((digs (nabs x)).length - 1 - (k - sg)))) / (10 : Int64)) * (10 : Int64))) G X.en) (w210 G) (w211 G) (w212 G) (w93 G) (by decide) (by decide) (by decide) rfl (lenOf pd40 rfl) rfl rfl (Nat.le_of_eq rfl) d_m5_68 rfl (by decide) (by decide) (by decide) (by decide) (kp fun T X => ?_)
      refine W.l2i (pc' := 72) (w := (labs ((x / (p10 ((digs (nabs x)).length - 1 - (k - sg)))) - ((x / (p10 ((digs (nabs x)).length - 1 - (k - sg)))) / (10 : Int64)) * (10 : Int64))).toInt32) X d_m5_71 rfl rfl ?_
      refine W.iadd (pc' := 73) (w := ((48 : Int32) + ((labs ((x / (p10 ((digs (nabs x)).length - 1 - (k - sg)))) - ((x / (p10 ((digs (nabs x)).length - 1 - (k - sg)))) / (10 : Int64)) * (10 : Int64))).toInt32))) X d_m5_72 rfl rfl ?_
      refine W.i2c (pc' := 74) (w := ((48 : Int32) + ((labs ((x / (p10 ((digs (nabs x)).length - 1 - (k - sg)))) - ((x / (p10 ((digs (nabs x)).length - 1 - (k - sg)))) / (10 : Int64)) * (10 : Int64))).toInt32)).toUInt32.toUInt16.toUInt32.toInt32) X d_m5_73 rfl rfl ?_
      refine W.icF (pc' := 77) X d_m5_74 (XT.ii_ne_f ((lstr_d P2 hk2 hk).trans (dg_abs (by omega)).symm)) rfl ?_
      refine W.iconst (pc' := 78) X (1 : Int32) d_m5_77 (by decide) rfl ?_
      refine W.goto (pc' := 82) X d_m5_78 (by decide) (by decide) ?_
      exact W.ireturn X d_m5_82 rfl (by decide) (by decide) (by decide) (by decide) ⟨rfl, rfl, rfl⟩
  · skip
    refine W.icF (pc' := 9) X d_m5_6 (XT.ii_lt_f hc1) rfl ?_
    refine W.iconst (pc' := 10) X (1 : Int32) d_m5_9 (by decide) rfl ?_
    exact W.ireturn X d_m5_10 rfl (by decide) (by decide) (by decide) (by decide) ⟨rfl, rfl, rfl⟩
set_option maxRecDepth 65536 in
set_option maxHeartbeats 40000000 in
theorem c_law {l : Launch} {Z : State} {a0 : Array Value} {zC : Int32} {fS : Value} {dO : Addr} {dT : Addr} {h : Heap} {B : Addr → Prop} {p0 p1 : Int64} {p2 : Int32} (G : Gl Z a0 zC fS dO dT) (hE : En Z B h)  : Con l Z consts_1 tables_1 x code maxLocals ret room_1 B h #[(.long p0), (.long p1), (.int p2)] (fun vR hR BR => vR = some (.int (1 : Int32))) := by
  have hz0 := hE.1.1
  refine Con.intro (ls := #[.val (.long p0), .second, .val (.long p1), .second, .val (.int p2), .unset, .unset, .unset, .unset, .unset, .unset, .unset, .unset, .unset, .unset, .unset, .unset, .unset]) (plainFor_of_name pn38) G.2.1 hE (fun m => by first | (simp [entryFrame, mkF, argsToLocals, Value.category, maxLocals]; done) | rfl) ?_
  intro pP eE sS mM blw mth cC T hs X
  obtain ⟨u, hu, eu⟩ := pick_u p2
  obtain ⟨hnz, v, huv, hv, ev⟩ := pick_v (XT.ushr p2 (8 : Int32)) hu
  refine W.iload (pc' := 2) X at_0 rfl rfl ?_
  refine W.ldcI (pc' := 4) X (w0 G) at_2 rfl ?_
  refine W.iand (pc' := 5) (w := (p2 &&& (2147483647 : Int32))) X at_4 rfl rfl ?_
  refine W.bipush (pc' := 7) X (6 : Int32) at_5 (by decide) rfl ?_
  refine W.irem (pc' := 8) (w := u.toInt32) X at_7 (by decide) eu rfl ?_
  refine W.istore (pc' := 10) (ls' := #[.val (.long p0), .second, .val (.long p1), .second, .val (.int p2), .val (.int u.toInt32), .unset, .unset, .unset, .unset, .unset, .unset, .unset, .unset, .unset, .unset, .unset, .unset]) X at_8 rfl rfl ?_
  refine W.iload (pc' := 12) X at_10 rfl rfl ?_
  refine W.iconst (pc' := 13) X (1 : Int32) at_12 (by decide) rfl ?_
  refine W.iadd (pc' := 14) (w := (u.toInt32 + (1 : Int32))) X at_13 rfl rfl ?_
  refine W.iload (pc' := 16) X at_14 rfl rfl ?_
  refine W.bipush (pc' := 18) X (8 : Int32) at_16 (by decide) rfl ?_
  refine W.iushr (pc' := 19) (w := (XT.ushr p2 (8 : Int32))) X at_18 rfl rfl ?_
  refine W.ldcI (pc' := 21) X (w0 G) at_19 rfl ?_
  refine W.iand (pc' := 22) (w := ((XT.ushr p2 (8 : Int32)) &&& (2147483647 : Int32))) X at_21 rfl rfl ?_
  refine W.bipush (pc' := 24) X (6 : Int32) at_22 (by decide) rfl ?_
  refine W.iload (pc' := 26) X at_24 rfl rfl ?_
  refine W.isub (pc' := 27) (w := ((6 : Int32) - u.toInt32)) X at_26 rfl rfl ?_
  refine W.irem (pc' := 28) (w := (((XT.ushr p2 (8 : Int32)) &&& (2147483647 : Int32)) % ((6 : Int32) - u.toInt32))) X at_27 hnz rfl rfl ?_
  refine W.iadd (pc' := 29) (w := v.toInt32) X at_28 ev rfl ?_
  refine W.istore (pc' := 31) (ls' := #[.val (.long p0), .second, .val (.long p1), .second, .val (.int p2), .val (.int u.toInt32), .val (.int v.toInt32), .unset, .unset, .unset, .unset, .unset, .unset, .unset, .unset, .unset, .unset, .unset]) X at_29 rfl rfl ?_
  refine W.bipush (pc' := 33) X (7 : Int32) at_31 (by decide) rfl ?_
  refine W.newA (aty := .char) (pc' := 35) (k' := 1) (n' := 7) (cap := 7) X (w1 G) at_33 (by decide) (by decide) (by decide) rfl (by decide) (by decide) (by decide) (by decide) fun T h1 a2 X K3 g4 g5 nb6 A7 => ?_
  have A7 : Ar Z h1 a2 .char [(.int (0 : Int32)), (.int (0 : Int32)), (.int (0 : Int32)), (.int (0 : Int32)), (.int (0 : Int32)), (.int (0 : Int32)), (.int (0 : Int32))] := A7
  refine W.astore (pc' := 37) (ls' := #[.val (.long p0), .second, .val (.long p1), .second, .val (.int p2), .val (.int u.toInt32), .val (.int v.toInt32), .val (.ref a2), .unset, .unset, .unset, .unset, .unset, .unset, .unset, .unset, .unset, .unset]) X at_35 rfl rfl rfl ?_
  refine W.aload (pc' := 39) X at_37 rfl rfl rfl ?_
  refine W.iconst (pc' := 40) X (0 : Int32) at_39 (by decide) rfl ?_
  refine W.lloadN (pc' := 41) X at_40 rfl rfl ?_
  refine W.iconst (pc' := 42) X (0 : Int32) at_41 (by decide) rfl ?_
  refine W.iload (pc' := 44) X at_42 rfl rfl ?_
  refine W.iload (pc' := 46) X at_44 rfl rfl ?_
  refine W.callS (pc' := 49) (W := 2) (argsL := [(.long p1), (.int (0 : Int32)), (.int u.toInt32), (.int v.toInt32)]) (st := [(.int (0 : Int32)), (.ref a2)]) (k' := 1) (n' := 7) X (c_pick (x := p1) (i := 0) (u := u) (v := v) G X.en (by decide) (by omega) hv) (w2 G) (w3 G) (w5 G) (w4 G) (by decide) (by decide) (by decide) rfl (lenOf pd41 rfl) rfl rfl (Nat.le_of_eq rfl) at_46 rfl (by decide) (by decide) (by decide) (by decide) (kp fun T X => ?_)
  refine W.castore (pc' := 50) (i := 0) X A7 (by decide) rfl (ltb rfl) (i2cx (to16 (pk_rng _ _ _ _))) g5 nb6 at_49 rfl fun T h8 X K9 A10 => ?_
  have A10 : Ar Z h8 a2 .char [(.int (pk p1 0 u v)), (.int (0 : Int32)), (.int (0 : Int32)), (.int (0 : Int32)), (.int (0 : Int32)), (.int (0 : Int32)), (.int (0 : Int32))] := A10
  refine W.aload (pc' := 52) X at_50 rfl rfl rfl ?_
  refine W.iconst (pc' := 53) X (1 : Int32) at_52 (by decide) rfl ?_
  refine W.lloadN (pc' := 54) X at_53 rfl rfl ?_
  refine W.iconst (pc' := 55) X (1 : Int32) at_54 (by decide) rfl ?_
  refine W.iload (pc' := 57) X at_55 rfl rfl ?_
  refine W.iload (pc' := 59) X at_57 rfl rfl ?_
  refine W.callS (pc' := 62) (W := 2) (argsL := [(.long p1), (.int (1 : Int32)), (.int u.toInt32), (.int v.toInt32)]) (st := [(.int (1 : Int32)), (.ref a2)]) (k' := 1) (n' := 7) X (c_pick (x := p1) (i := 1) (u := u) (v := v) G X.en (by decide) (by omega) hv) (w2 G) (w3 G) (w5 G) (w4 G) (by decide) (by decide) (by decide) rfl (lenOf pd41 rfl) rfl rfl (Nat.le_of_eq rfl) at_59 rfl (by decide) (by decide) (by decide) (by decide) (kp fun T X => ?_)
  refine W.castore (pc' := 63) (i := 1) X A10 (by decide) rfl (ltb rfl) (i2cx (to16 (pk_rng _ _ _ _))) g5 nb6 at_62 rfl fun T h11 X K12 A13 => ?_
  have A13 : Ar Z h11 a2 .char [(.int (pk p1 0 u v)), (.int (pk p1 1 u v)), (.int (0 : Int32)), (.int (0 : Int32)), (.int (0 : Int32)), (.int (0 : Int32)), (.int (0 : Int32))] := A13
  refine W.aload (pc' := 65) X at_63 rfl rfl rfl ?_
  refine W.iconst (pc' := 66) X (2 : Int32) at_65 (by decide) rfl ?_
  refine W.lloadN (pc' := 67) X at_66 rfl rfl ?_
  refine W.iconst (pc' := 68) X (2 : Int32) at_67 (by decide) rfl ?_
  refine W.iload (pc' := 70) X at_68 rfl rfl ?_
  refine W.iload (pc' := 72) X at_70 rfl rfl ?_
  refine W.callS (pc' := 75) (W := 2) (argsL := [(.long p1), (.int (2 : Int32)), (.int u.toInt32), (.int v.toInt32)]) (st := [(.int (2 : Int32)), (.ref a2)]) (k' := 1) (n' := 7) X (c_pick (x := p1) (i := 2) (u := u) (v := v) G X.en (by decide) (by omega) hv) (w2 G) (w3 G) (w5 G) (w4 G) (by decide) (by decide) (by decide) rfl (lenOf pd41 rfl) rfl rfl (Nat.le_of_eq rfl) at_72 rfl (by decide) (by decide) (by decide) (by decide) (kp fun T X => ?_)
  refine W.castore (pc' := 76) (i := 2) X A13 (by decide) rfl (ltb rfl) (i2cx (to16 (pk_rng _ _ _ _))) g5 nb6 at_75 rfl fun T h14 X K15 A16 => ?_
  have A16 : Ar Z h14 a2 .char [(.int (pk p1 0 u v)), (.int (pk p1 1 u v)), (.int (pk p1 2 u v)), (.int (0 : Int32)), (.int (0 : Int32)), (.int (0 : Int32)), (.int (0 : Int32))] := A16
  refine W.aload (pc' := 78) X at_76 rfl rfl rfl ?_
  refine W.iconst (pc' := 79) X (3 : Int32) at_78 (by decide) rfl ?_
  refine W.lloadN (pc' := 80) X at_79 rfl rfl ?_
  refine W.iconst (pc' := 81) X (3 : Int32) at_80 (by decide) rfl ?_
  refine W.iload (pc' := 83) X at_81 rfl rfl ?_
  refine W.iload (pc' := 85) X at_83 rfl rfl ?_
  refine W.callS (pc' := 88) (W := 2) (argsL := [(.long p1), (.int (3 : Int32)), (.int u.toInt32), (.int v.toInt32)]) (st := [(.int (3 : Int32)), (.ref a2)]) (k' := 1) (n' := 7) X (c_pick (x := p1) (i := 3) (u := u) (v := v) G X.en (by decide) (by omega) hv) (w2 G) (w3 G) (w5 G) (w4 G) (by decide) (by decide) (by decide) rfl (lenOf pd41 rfl) rfl rfl (Nat.le_of_eq rfl) at_85 rfl (by decide) (by decide) (by decide) (by decide) (kp fun T X => ?_)
  refine W.castore (pc' := 89) (i := 3) X A16 (by decide) rfl (ltb rfl) (i2cx (to16 (pk_rng _ _ _ _))) g5 nb6 at_88 rfl fun T h17 X K18 A19 => ?_
  have A19 : Ar Z h17 a2 .char [(.int (pk p1 0 u v)), (.int (pk p1 1 u v)), (.int (pk p1 2 u v)), (.int (pk p1 3 u v)), (.int (0 : Int32)), (.int (0 : Int32)), (.int (0 : Int32))] := A19
  refine W.aload (pc' := 91) X at_89 rfl rfl rfl ?_
  refine W.iconst (pc' := 92) X (4 : Int32) at_91 (by decide) rfl ?_
  refine W.lloadN (pc' := 93) X at_92 rfl rfl ?_
  refine W.iconst (pc' := 94) X (4 : Int32) at_93 (by decide) rfl ?_
  refine W.iload (pc' := 96) X at_94 rfl rfl ?_
  refine W.iload (pc' := 98) X at_96 rfl rfl ?_
  refine W.callS (pc' := 101) (W := 2) (argsL := [(.long p1), (.int (4 : Int32)), (.int u.toInt32), (.int v.toInt32)]) (st := [(.int (4 : Int32)), (.ref a2)]) (k' := 1) (n' := 7) X (c_pick (x := p1) (i := 4) (u := u) (v := v) G X.en (by decide) (by omega) hv) (w2 G) (w3 G) (w5 G) (w4 G) (by decide) (by decide) (by decide) rfl (lenOf pd41 rfl) rfl rfl (Nat.le_of_eq rfl) at_98 rfl (by decide) (by decide) (by decide) (by decide) (kp fun T X => ?_)
  refine W.castore (pc' := 102) (i := 4) X A19 (by decide) rfl (ltb rfl) (i2cx (to16 (pk_rng _ _ _ _))) g5 nb6 at_101 rfl fun T h20 X K21 A22 => ?_
  have A22 : Ar Z h20 a2 .char [(.int (pk p1 0 u v)), (.int (pk p1 1 u v)), (.int (pk p1 2 u v)), (.int (pk p1 3 u v)), (.int (pk p1 4 u v)), (.int (0 : Int32)), (.int (0 : Int32))] := A22
  refine W.aload (pc' := 104) X at_102 rfl rfl rfl ?_
  refine W.iconst (pc' := 105) X (5 : Int32) at_104 (by decide) rfl ?_
  refine W.lloadN (pc' := 106) X at_105 rfl rfl ?_
  refine W.iconst (pc' := 107) X (5 : Int32) at_106 (by decide) rfl ?_
  refine W.iload (pc' := 109) X at_107 rfl rfl ?_
  refine W.iload (pc' := 111) X at_109 rfl rfl ?_
  refine W.callS (pc' := 114) (W := 2) (argsL := [(.long p1), (.int (5 : Int32)), (.int u.toInt32), (.int v.toInt32)]) (st := [(.int (5 : Int32)), (.ref a2)]) (k' := 1) (n' := 7) X (c_pick (x := p1) (i := 5) (u := u) (v := v) G X.en (by decide) (by omega) hv) (w2 G) (w3 G) (w5 G) (w4 G) (by decide) (by decide) (by decide) rfl (lenOf pd41 rfl) rfl rfl (Nat.le_of_eq rfl) at_111 rfl (by decide) (by decide) (by decide) (by decide) (kp fun T X => ?_)
  refine W.castore (pc' := 115) (i := 5) X A22 (by decide) rfl (ltb rfl) (i2cx (to16 (pk_rng _ _ _ _))) g5 nb6 at_114 rfl fun T h23 X K24 A25 => ?_
  have A25 : Ar Z h23 a2 .char [(.int (pk p1 0 u v)), (.int (pk p1 1 u v)), (.int (pk p1 2 u v)), (.int (pk p1 3 u v)), (.int (pk p1 4 u v)), (.int (pk p1 5 u v)), (.int (0 : Int32))] := A25
  refine W.aload (pc' := 117) X at_115 rfl rfl rfl ?_
  refine W.bipush (pc' := 119) X (6 : Int32) at_117 (by decide) rfl ?_
  refine W.lloadN (pc' := 120) X at_119 rfl rfl ?_
  refine W.bipush (pc' := 122) X (6 : Int32) at_120 (by decide) rfl ?_
  refine W.iload (pc' := 124) X at_122 rfl rfl ?_
  refine W.iload (pc' := 126) X at_124 rfl rfl ?_
  refine W.callS (pc' := 129) (W := 2) (argsL := [(.long p1), (.int (6 : Int32)), (.int u.toInt32), (.int v.toInt32)]) (st := [(.int (6 : Int32)), (.ref a2)]) (k' := 1) (n' := 7) X (c_pick (x := p1) (i := 6) (u := u) (v := v) G X.en (by decide) (by omega) hv) (w2 G) (w3 G) (w5 G) (w4 G) (by decide) (by decide) (by decide) rfl (lenOf pd41 rfl) rfl rfl (Nat.le_of_eq rfl) at_126 rfl (by decide) (by decide) (by decide) (by decide) (kp fun T X => ?_)
  refine W.castore (pc' := 130) (i := 6) X A25 (by decide) rfl (ltb rfl) (i2cx (to16 (pk_rng _ _ _ _))) g5 nb6 at_129 rfl fun T h26 X K27 A28 => ?_
  have A28 : Ar Z h26 a2 .char [(.int (pk p1 0 u v)), (.int (pk p1 1 u v)), (.int (pk p1 2 u v)), (.int (pk p1 3 u v)), (.int (pk p1 4 u v)), (.int (pk p1 5 u v)), (.int (pk p1 6 u v))] := A28
  refine W.bipush (pc' := 132) X (19 : Int32) at_130 (by decide) rfl ?_
  refine W.newA (aty := .long) (pc' := 134) (k' := 2) (n' := 26) (cap := 19) X (w7 G) at_132 (by decide) (by decide) (by decide) rfl (by decide) (by decide) (by decide) (by decide) fun T h29 a30 X K31 g32 g33 nb34 A35 => ?_
  have A35 : Ar Z h29 a30 .long [(.long (0 : Int64)), (.long (0 : Int64)), (.long (0 : Int64)), (.long (0 : Int64)), (.long (0 : Int64)), (.long (0 : Int64)), (.long (0 : Int64)), (.long (0 : Int64)), (.long (0 : Int64)), (.long (0 : Int64)), (.long (0 : Int64)), (.long (0 : Int64)), (.long (0 : Int64)), (.long (0 : Int64)), (.long (0 : Int64)), (.long (0 : Int64)), (.long (0 : Int64)), (.long (0 : Int64)), (.long (0 : Int64))] := A35
  refine W.dup (pc' := 135) X at_134 rfl rfl ?_
  refine W.iconst (pc' := 136) X (0 : Int32) at_135 (by decide) rfl ?_
  refine W.lconst (pc' := 137) X (1 : Int64) at_136 (by decide) rfl ?_
  refine W.lastore (pc' := 138) (i := 0) X A35 (by decide) rfl (ltb rfl) rfl g33 nb34 at_137 rfl fun T h36 X K37 A38 => ?_
  have A38 : Ar Z h36 a30 .long [(.long (1 : Int64)), (.long (0 : Int64)), (.long (0 : Int64)), (.long (0 : Int64)), (.long (0 : Int64)), (.long (0 : Int64)), (.long (0 : Int64)), (.long (0 : Int64)), (.long (0 : Int64)), (.long (0 : Int64)), (.long (0 : Int64)), (.long (0 : Int64)), (.long (0 : Int64)), (.long (0 : Int64)), (.long (0 : Int64)), (.long (0 : Int64)), (.long (0 : Int64)), (.long (0 : Int64)), (.long (0 : Int64))] := A38
  refine W.dup (pc' := 139) X at_138 rfl rfl ?_
  refine W.iconst (pc' := 140) X (1 : Int32) at_139 (by decide) rfl ?_
  refine W.ldcJ (pc' := 143) X (w8 G) at_140 rfl ?_
  refine W.lastore (pc' := 144) (i := 1) X A38 (by decide) rfl (ltb rfl) rfl g33 nb34 at_143 rfl fun T h39 X K40 A41 => ?_
  have A41 : Ar Z h39 a30 .long [(.long (1 : Int64)), (.long (10 : Int64)), (.long (0 : Int64)), (.long (0 : Int64)), (.long (0 : Int64)), (.long (0 : Int64)), (.long (0 : Int64)), (.long (0 : Int64)), (.long (0 : Int64)), (.long (0 : Int64)), (.long (0 : Int64)), (.long (0 : Int64)), (.long (0 : Int64)), (.long (0 : Int64)), (.long (0 : Int64)), (.long (0 : Int64)), (.long (0 : Int64)), (.long (0 : Int64)), (.long (0 : Int64))] := A41
  refine W.dup (pc' := 145) X at_144 rfl rfl ?_
  refine W.iconst (pc' := 146) X (2 : Int32) at_145 (by decide) rfl ?_
  refine W.ldcJ (pc' := 149) X (w9 G) at_146 rfl ?_
  refine W.lastore (pc' := 150) (i := 2) X A41 (by decide) rfl (ltb rfl) rfl g33 nb34 at_149 rfl fun T h42 X K43 A44 => ?_
  have A44 : Ar Z h42 a30 .long [(.long (1 : Int64)), (.long (10 : Int64)), (.long (100 : Int64)), (.long (0 : Int64)), (.long (0 : Int64)), (.long (0 : Int64)), (.long (0 : Int64)), (.long (0 : Int64)), (.long (0 : Int64)), (.long (0 : Int64)), (.long (0 : Int64)), (.long (0 : Int64)), (.long (0 : Int64)), (.long (0 : Int64)), (.long (0 : Int64)), (.long (0 : Int64)), (.long (0 : Int64)), (.long (0 : Int64)), (.long (0 : Int64))] := A44
  refine W.dup (pc' := 151) X at_150 rfl rfl ?_
  refine W.iconst (pc' := 152) X (3 : Int32) at_151 (by decide) rfl ?_
  refine W.ldcJ (pc' := 155) X (w10 G) at_152 rfl ?_
  refine W.lastore (pc' := 156) (i := 3) X A44 (by decide) rfl (ltb rfl) rfl g33 nb34 at_155 rfl fun T h45 X K46 A47 => ?_
  have A47 : Ar Z h45 a30 .long [(.long (1 : Int64)), (.long (10 : Int64)), (.long (100 : Int64)), (.long (1000 : Int64)), (.long (0 : Int64)), (.long (0 : Int64)), (.long (0 : Int64)), (.long (0 : Int64)), (.long (0 : Int64)), (.long (0 : Int64)), (.long (0 : Int64)), (.long (0 : Int64)), (.long (0 : Int64)), (.long (0 : Int64)), (.long (0 : Int64)), (.long (0 : Int64)), (.long (0 : Int64)), (.long (0 : Int64)), (.long (0 : Int64))] := A47
  refine W.dup (pc' := 157) X at_156 rfl rfl ?_
  refine W.iconst (pc' := 158) X (4 : Int32) at_157 (by decide) rfl ?_
  refine W.ldcJ (pc' := 161) X (w11 G) at_158 rfl ?_
  refine W.lastore (pc' := 162) (i := 4) X A47 (by decide) rfl (ltb rfl) rfl g33 nb34 at_161 rfl fun T h48 X K49 A50 => ?_
  have A50 : Ar Z h48 a30 .long [(.long (1 : Int64)), (.long (10 : Int64)), (.long (100 : Int64)), (.long (1000 : Int64)), (.long (10000 : Int64)), (.long (0 : Int64)), (.long (0 : Int64)), (.long (0 : Int64)), (.long (0 : Int64)), (.long (0 : Int64)), (.long (0 : Int64)), (.long (0 : Int64)), (.long (0 : Int64)), (.long (0 : Int64)), (.long (0 : Int64)), (.long (0 : Int64)), (.long (0 : Int64)), (.long (0 : Int64)), (.long (0 : Int64))] := A50
  refine W.dup (pc' := 163) X at_162 rfl rfl ?_
  refine W.iconst (pc' := 164) X (5 : Int32) at_163 (by decide) rfl ?_
  refine W.ldcJ (pc' := 167) X (w12 G) at_164 rfl ?_
  refine W.lastore (pc' := 168) (i := 5) X A50 (by decide) rfl (ltb rfl) rfl g33 nb34 at_167 rfl fun T h51 X K52 A53 => ?_
  have A53 : Ar Z h51 a30 .long [(.long (1 : Int64)), (.long (10 : Int64)), (.long (100 : Int64)), (.long (1000 : Int64)), (.long (10000 : Int64)), (.long (100000 : Int64)), (.long (0 : Int64)), (.long (0 : Int64)), (.long (0 : Int64)), (.long (0 : Int64)), (.long (0 : Int64)), (.long (0 : Int64)), (.long (0 : Int64)), (.long (0 : Int64)), (.long (0 : Int64)), (.long (0 : Int64)), (.long (0 : Int64)), (.long (0 : Int64)), (.long (0 : Int64))] := A53
  refine W.dup (pc' := 169) X at_168 rfl rfl ?_
  refine W.bipush (pc' := 171) X (6 : Int32) at_169 (by decide) rfl ?_
  refine W.ldcJ (pc' := 174) X (w13 G) at_171 rfl ?_
  refine W.lastore (pc' := 175) (i := 6) X A53 (by decide) rfl (ltb rfl) rfl g33 nb34 at_174 rfl fun T h54 X K55 A56 => ?_
  have A56 : Ar Z h54 a30 .long [(.long (1 : Int64)), (.long (10 : Int64)), (.long (100 : Int64)), (.long (1000 : Int64)), (.long (10000 : Int64)), (.long (100000 : Int64)), (.long (1000000 : Int64)), (.long (0 : Int64)), (.long (0 : Int64)), (.long (0 : Int64)), (.long (0 : Int64)), (.long (0 : Int64)), (.long (0 : Int64)), (.long (0 : Int64)), (.long (0 : Int64)), (.long (0 : Int64)), (.long (0 : Int64)), (.long (0 : Int64)), (.long (0 : Int64))] := A56
  refine W.dup (pc' := 176) X at_175 rfl rfl ?_
  refine W.bipush (pc' := 178) X (7 : Int32) at_176 (by decide) rfl ?_
  refine W.ldcJ (pc' := 181) X (w14 G) at_178 rfl ?_
  refine W.lastore (pc' := 182) (i := 7) X A56 (by decide) rfl (ltb rfl) rfl g33 nb34 at_181 rfl fun T h57 X K58 A59 => ?_
  have A59 : Ar Z h57 a30 .long [(.long (1 : Int64)), (.long (10 : Int64)), (.long (100 : Int64)), (.long (1000 : Int64)), (.long (10000 : Int64)), (.long (100000 : Int64)), (.long (1000000 : Int64)), (.long (10000000 : Int64)), (.long (0 : Int64)), (.long (0 : Int64)), (.long (0 : Int64)), (.long (0 : Int64)), (.long (0 : Int64)), (.long (0 : Int64)), (.long (0 : Int64)), (.long (0 : Int64)), (.long (0 : Int64)), (.long (0 : Int64)), (.long (0 : Int64))] := A59
  refine W.dup (pc' := 183) X at_182 rfl rfl ?_
  refine W.bipush (pc' := 185) X (8 : Int32) at_183 (by decide) rfl ?_
  refine W.ldcJ (pc' := 188) X (w15 G) at_185 rfl ?_
  refine W.lastore (pc' := 189) (i := 8) X A59 (by decide) rfl (ltb rfl) rfl g33 nb34 at_188 rfl fun T h60 X K61 A62 => ?_
  have A62 : Ar Z h60 a30 .long [(.long (1 : Int64)), (.long (10 : Int64)), (.long (100 : Int64)), (.long (1000 : Int64)), (.long (10000 : Int64)), (.long (100000 : Int64)), (.long (1000000 : Int64)), (.long (10000000 : Int64)), (.long (100000000 : Int64)), (.long (0 : Int64)), (.long (0 : Int64)), (.long (0 : Int64)), (.long (0 : Int64)), (.long (0 : Int64)), (.long (0 : Int64)), (.long (0 : Int64)), (.long (0 : Int64)), (.long (0 : Int64)), (.long (0 : Int64))] := A62
  refine W.dup (pc' := 190) X at_189 rfl rfl ?_
  refine W.bipush (pc' := 192) X (9 : Int32) at_190 (by decide) rfl ?_
  refine W.ldcJ (pc' := 195) X (w16 G) at_192 rfl ?_
  refine W.lastore (pc' := 196) (i := 9) X A62 (by decide) rfl (ltb rfl) rfl g33 nb34 at_195 rfl fun T h63 X K64 A65 => ?_
  have A65 : Ar Z h63 a30 .long [(.long (1 : Int64)), (.long (10 : Int64)), (.long (100 : Int64)), (.long (1000 : Int64)), (.long (10000 : Int64)), (.long (100000 : Int64)), (.long (1000000 : Int64)), (.long (10000000 : Int64)), (.long (100000000 : Int64)), (.long (1000000000 : Int64)), (.long (0 : Int64)), (.long (0 : Int64)), (.long (0 : Int64)), (.long (0 : Int64)), (.long (0 : Int64)), (.long (0 : Int64)), (.long (0 : Int64)), (.long (0 : Int64)), (.long (0 : Int64))] := A65
  refine W.dup (pc' := 197) X at_196 rfl rfl ?_
  refine W.bipush (pc' := 199) X (10 : Int32) at_197 (by decide) rfl ?_
  refine W.ldcJ (pc' := 202) X (w17 G) at_199 rfl ?_
  refine W.lastore (pc' := 203) (i := 10) X A65 (by decide) rfl (ltb rfl) rfl g33 nb34 at_202 rfl fun T h66 X K67 A68 => ?_
  have A68 : Ar Z h66 a30 .long [(.long (1 : Int64)), (.long (10 : Int64)), (.long (100 : Int64)), (.long (1000 : Int64)), (.long (10000 : Int64)), (.long (100000 : Int64)), (.long (1000000 : Int64)), (.long (10000000 : Int64)), (.long (100000000 : Int64)), (.long (1000000000 : Int64)), (.long (10000000000 : Int64)), (.long (0 : Int64)), (.long (0 : Int64)), (.long (0 : Int64)), (.long (0 : Int64)), (.long (0 : Int64)), (.long (0 : Int64)), (.long (0 : Int64)), (.long (0 : Int64))] := A68
  refine W.dup (pc' := 204) X at_203 rfl rfl ?_
  refine W.bipush (pc' := 206) X (11 : Int32) at_204 (by decide) rfl ?_
  refine W.ldcJ (pc' := 209) X (w18 G) at_206 rfl ?_
  refine W.lastore (pc' := 210) (i := 11) X A68 (by decide) rfl (ltb rfl) rfl g33 nb34 at_209 rfl fun T h69 X K70 A71 => ?_
  have A71 : Ar Z h69 a30 .long [(.long (1 : Int64)), (.long (10 : Int64)), (.long (100 : Int64)), (.long (1000 : Int64)), (.long (10000 : Int64)), (.long (100000 : Int64)), (.long (1000000 : Int64)), (.long (10000000 : Int64)), (.long (100000000 : Int64)), (.long (1000000000 : Int64)), (.long (10000000000 : Int64)), (.long (100000000000 : Int64)), (.long (0 : Int64)), (.long (0 : Int64)), (.long (0 : Int64)), (.long (0 : Int64)), (.long (0 : Int64)), (.long (0 : Int64)), (.long (0 : Int64))] := A71
  refine W.dup (pc' := 211) X at_210 rfl rfl ?_
  refine W.bipush (pc' := 213) X (12 : Int32) at_211 (by decide) rfl ?_
  refine W.ldcJ (pc' := 216) X (w19 G) at_213 rfl ?_
  refine W.lastore (pc' := 217) (i := 12) X A71 (by decide) rfl (ltb rfl) rfl g33 nb34 at_216 rfl fun T h72 X K73 A74 => ?_
  have A74 : Ar Z h72 a30 .long [(.long (1 : Int64)), (.long (10 : Int64)), (.long (100 : Int64)), (.long (1000 : Int64)), (.long (10000 : Int64)), (.long (100000 : Int64)), (.long (1000000 : Int64)), (.long (10000000 : Int64)), (.long (100000000 : Int64)), (.long (1000000000 : Int64)), (.long (10000000000 : Int64)), (.long (100000000000 : Int64)), (.long (1000000000000 : Int64)), (.long (0 : Int64)), (.long (0 : Int64)), (.long (0 : Int64)), (.long (0 : Int64)), (.long (0 : Int64)), (.long (0 : Int64))] := A74
  refine W.dup (pc' := 218) X at_217 rfl rfl ?_
  refine W.bipush (pc' := 220) X (13 : Int32) at_218 (by decide) rfl ?_
  refine W.ldcJ (pc' := 223) X (w20 G) at_220 rfl ?_
  refine W.lastore (pc' := 224) (i := 13) X A74 (by decide) rfl (ltb rfl) rfl g33 nb34 at_223 rfl fun T h75 X K76 A77 => ?_
  have A77 : Ar Z h75 a30 .long [(.long (1 : Int64)), (.long (10 : Int64)), (.long (100 : Int64)), (.long (1000 : Int64)), (.long (10000 : Int64)), (.long (100000 : Int64)), (.long (1000000 : Int64)), (.long (10000000 : Int64)), (.long (100000000 : Int64)), (.long (1000000000 : Int64)), (.long (10000000000 : Int64)), (.long (100000000000 : Int64)), (.long (1000000000000 : Int64)), (.long (10000000000000 : Int64)), (.long (0 : Int64)), (.long (0 : Int64)), (.long (0 : Int64)), (.long (0 : Int64)), (.long (0 : Int64))] := A77
  refine W.dup (pc' := 225) X at_224 rfl rfl ?_
  refine W.bipush (pc' := 227) X (14 : Int32) at_225 (by decide) rfl ?_
  refine W.ldcJ (pc' := 230) X (w21 G) at_227 rfl ?_
  refine W.lastore (pc' := 231) (i := 14) X A77 (by decide) rfl (ltb rfl) rfl g33 nb34 at_230 rfl fun T h78 X K79 A80 => ?_
  have A80 : Ar Z h78 a30 .long [(.long (1 : Int64)), (.long (10 : Int64)), (.long (100 : Int64)), (.long (1000 : Int64)), (.long (10000 : Int64)), (.long (100000 : Int64)), (.long (1000000 : Int64)), (.long (10000000 : Int64)), (.long (100000000 : Int64)), (.long (1000000000 : Int64)), (.long (10000000000 : Int64)), (.long (100000000000 : Int64)), (.long (1000000000000 : Int64)), (.long (10000000000000 : Int64)), (.long (100000000000000 : Int64)), (.long (0 : Int64)), (.long (0 : Int64)), (.long (0 : Int64)), (.long (0 : Int64))] := A80
  refine W.dup (pc' := 232) X at_231 rfl rfl ?_
  refine W.bipush (pc' := 234) X (15 : Int32) at_232 (by decide) rfl ?_
  refine W.ldcJ (pc' := 237) X (w22 G) at_234 rfl ?_
  refine W.lastore (pc' := 238) (i := 15) X A80 (by decide) rfl (ltb rfl) rfl g33 nb34 at_237 rfl fun T h81 X K82 A83 => ?_
  have A83 : Ar Z h81 a30 .long [(.long (1 : Int64)), (.long (10 : Int64)), (.long (100 : Int64)), (.long (1000 : Int64)), (.long (10000 : Int64)), (.long (100000 : Int64)), (.long (1000000 : Int64)), (.long (10000000 : Int64)), (.long (100000000 : Int64)), (.long (1000000000 : Int64)), (.long (10000000000 : Int64)), (.long (100000000000 : Int64)), (.long (1000000000000 : Int64)), (.long (10000000000000 : Int64)), (.long (100000000000000 : Int64)), (.long (1000000000000000 : Int64)), (.long (0 : Int64)), (.long (0 : Int64)), (.long (0 : Int64))] := A83
  refine W.dup (pc' := 239) X at_238 rfl rfl ?_
  refine W.bipush (pc' := 241) X (16 : Int32) at_239 (by decide) rfl ?_
  refine W.ldcJ (pc' := 244) X (w23 G) at_241 rfl ?_
  refine W.lastore (pc' := 245) (i := 16) X A83 (by decide) rfl (ltb rfl) rfl g33 nb34 at_244 rfl fun T h84 X K85 A86 => ?_
  have A86 : Ar Z h84 a30 .long [(.long (1 : Int64)), (.long (10 : Int64)), (.long (100 : Int64)), (.long (1000 : Int64)), (.long (10000 : Int64)), (.long (100000 : Int64)), (.long (1000000 : Int64)), (.long (10000000 : Int64)), (.long (100000000 : Int64)), (.long (1000000000 : Int64)), (.long (10000000000 : Int64)), (.long (100000000000 : Int64)), (.long (1000000000000 : Int64)), (.long (10000000000000 : Int64)), (.long (100000000000000 : Int64)), (.long (1000000000000000 : Int64)), (.long (10000000000000000 : Int64)), (.long (0 : Int64)), (.long (0 : Int64))] := A86
  refine W.dup (pc' := 246) X at_245 rfl rfl ?_
  refine W.bipush (pc' := 248) X (17 : Int32) at_246 (by decide) rfl ?_
  refine W.ldcJ (pc' := 251) X (w24 G) at_248 rfl ?_
  refine W.lastore (pc' := 252) (i := 17) X A86 (by decide) rfl (ltb rfl) rfl g33 nb34 at_251 rfl fun T h87 X K88 A89 => ?_
  have A89 : Ar Z h87 a30 .long [(.long (1 : Int64)), (.long (10 : Int64)), (.long (100 : Int64)), (.long (1000 : Int64)), (.long (10000 : Int64)), (.long (100000 : Int64)), (.long (1000000 : Int64)), (.long (10000000 : Int64)), (.long (100000000 : Int64)), (.long (1000000000 : Int64)), (.long (10000000000 : Int64)), (.long (100000000000 : Int64)), (.long (1000000000000 : Int64)), (.long (10000000000000 : Int64)), (.long (100000000000000 : Int64)), (.long (1000000000000000 : Int64)), (.long (10000000000000000 : Int64)), (.long (100000000000000000 : Int64)), (.long (0 : Int64))] := A89
  refine W.dup (pc' := 253) X at_252 rfl rfl ?_
  refine W.bipush (pc' := 255) X (18 : Int32) at_253 (by decide) rfl ?_
  refine W.ldcJ (pc' := 258) X (w25 G) at_255 rfl ?_
  refine W.lastore (pc' := 259) (i := 18) X A89 (by decide) rfl (ltb rfl) rfl g33 nb34 at_258 rfl fun T h90 X K91 A92 => ?_
  have A92 : Ar Z h90 a30 .long [(.long (1 : Int64)), (.long (10 : Int64)), (.long (100 : Int64)), (.long (1000 : Int64)), (.long (10000 : Int64)), (.long (100000 : Int64)), (.long (1000000 : Int64)), (.long (10000000 : Int64)), (.long (100000000 : Int64)), (.long (1000000000 : Int64)), (.long (10000000000 : Int64)), (.long (100000000000 : Int64)), (.long (1000000000000 : Int64)), (.long (10000000000000 : Int64)), (.long (100000000000000 : Int64)), (.long (1000000000000000 : Int64)), (.long (10000000000000000 : Int64)), (.long (100000000000000000 : Int64)), (.long (1000000000000000000 : Int64))] := A92
  refine W.astore (pc' := 261) (ls' := #[.val (.long p0), .second, .val (.long p1), .second, .val (.int p2), .val (.int u.toInt32), .val (.int v.toInt32), .val (.ref a2), .val (.ref a30), .unset, .unset, .unset, .unset, .unset, .unset, .unset, .unset, .unset]) X at_259 rfl rfl rfl ?_
  refine W.new (pc' := 264) (k' := 3) (n' := 30) X (w26 G) (w27 G) (w28 G) at_261 rfl (by decide) (by decide) (by decide) (by decide) fun T h93 a94 X K95 g96 g97 nb98 E99 D100 => ?_
  have F101 : Fld Z h93 a94 "java/lang/String" "coder" "B" (.int (0 : Int32)) := D100 (Or.inr (w52 G)) (ty := .byte) (by decide)
  have F102 : Fld Z h93 a94 "java/lang/String" "value" "[B" .null := D100 (Or.inr (w54 G)) (ty := (.array .byte)) (by decide)
  refine W.dup (pc' := 265) X at_264 rfl rfl ?_
  refine W.aload (pc' := 267) X at_265 rfl rfl rfl ?_
  have F103 := (((((((((((((((((((((A28.keep K31 nin0).keep K37 (ninS (Nat.ne_of_lt (Nat.lt_of_lt_of_le A7.lt (Nat.le_trans (Nat.le_trans (Nat.le_trans (Nat.le_trans (Nat.le_trans (Nat.le_trans (Nat.le_trans K9.1 K12.1) K15.1) K18.1) K21.1) K24.1) K27.1) g32))) nin0)).keep K40 (ninS (Nat.ne_of_lt (Nat.lt_of_lt_of_le A7.lt (Nat.le_trans (Nat.le_trans (Nat.le_trans (Nat.le_trans (Nat.le_trans (Nat.le_trans (Nat.le_trans K9.1 K12.1) K15.1) K18.1) K21.1) K24.1) K27.1) g32))) nin0)).keep K43 (ninS (Nat.ne_of_lt (Nat.lt_of_lt_of_le A7.lt (Nat.le_trans (Nat.le_trans (Nat.le_trans (Nat.le_trans (Nat.le_trans (Nat.le_trans (Nat.le_trans K9.1 K12.1) K15.1) K18.1) K21.1) K24.1) K27.1) g32))) nin0)).keep K46 (ninS (Nat.ne_of_lt (Nat.lt_of_lt_of_le A7.lt (Nat.le_trans (Nat.le_trans (Nat.le_trans (Nat.le_trans (Nat.le_trans (Nat.le_trans (Nat.le_trans K9.1 K12.1) K15.1) K18.1) K21.1) K24.1) K27.1) g32))) nin0)).keep K49 (ninS (Nat.ne_of_lt (Nat.lt_of_lt_of_le A7.lt (Nat.le_trans (Nat.le_trans (Nat.le_trans (Nat.le_trans (Nat.le_trans (Nat.le_trans (Nat.le_trans K9.1 K12.1) K15.1) K18.1) K21.1) K24.1) K27.1) g32))) nin0)).keep K52 (ninS (Nat.ne_of_lt (Nat.lt_of_lt_of_le A7.lt (Nat.le_trans (Nat.le_trans (Nat.le_trans (Nat.le_trans (Nat.le_trans (Nat.le_trans (Nat.le_trans K9.1 K12.1) K15.1) K18.1) K21.1) K24.1) K27.1) g32))) nin0)).keep K55 (ninS (Nat.ne_of_lt (Nat.lt_of_lt_of_le A7.lt (Nat.le_trans (Nat.le_trans (Nat.le_trans (Nat.le_trans (Nat.le_trans (Nat.le_trans (Nat.le_trans K9.1 K12.1) K15.1) K18.1) K21.1) K24.1) K27.1) g32))) nin0)).keep K58 (ninS (Nat.ne_of_lt (Nat.lt_of_lt_of_le A7.lt (Nat.le_trans (Nat.le_trans (Nat.le_trans (Nat.le_trans (Nat.le_trans (Nat.le_trans (Nat.le_trans K9.1 K12.1) K15.1) K18.1) K21.1) K24.1) K27.1) g32))) nin0)).keep K61 (ninS (Nat.ne_of_lt (Nat.lt_of_lt_of_le A7.lt (Nat.le_trans (Nat.le_trans (Nat.le_trans (Nat.le_trans (Nat.le_trans (Nat.le_trans (Nat.le_trans K9.1 K12.1) K15.1) K18.1) K21.1) K24.1) K27.1) g32))) nin0)).keep K64 (ninS (Nat.ne_of_lt (Nat.lt_of_lt_of_le A7.lt (Nat.le_trans (Nat.le_trans (Nat.le_trans (Nat.le_trans (Nat.le_trans (Nat.le_trans (Nat.le_trans K9.1 K12.1) K15.1) K18.1) K21.1) K24.1) K27.1) g32))) nin0)).keep K67 (ninS (Nat.ne_of_lt (Nat.lt_of_lt_of_le A7.lt (Nat.le_trans (Nat.le_trans (Nat.le_trans (Nat.le_trans (Nat.le_trans (Nat.le_trans (Nat.le_trans K9.1 K12.1) K15.1) K18.1) K21.1) K24.1) K27.1) g32))) nin0)).keep K70 (ninS (Nat.ne_of_lt (Nat.lt_of_lt_of_le A7.lt (Nat.le_trans (Nat.le_trans (Nat.le_trans (Nat.le_trans (Nat.le_trans (Nat.le_trans (Nat.le_trans K9.1 K12.1) K15.1) K18.1) K21.1) K24.1) K27.1) g32))) nin0)).keep K73 (ninS (Nat.ne_of_lt (Nat.lt_of_lt_of_le A7.lt (Nat.le_trans (Nat.le_trans (Nat.le_trans (Nat.le_trans (Nat.le_trans (Nat.le_trans (Nat.le_trans K9.1 K12.1) K15.1) K18.1) K21.1) K24.1) K27.1) g32))) nin0)).keep K76 (ninS (Nat.ne_of_lt (Nat.lt_of_lt_of_le A7.lt (Nat.le_trans (Nat.le_trans (Nat.le_trans (Nat.le_trans (Nat.le_trans (Nat.le_trans (Nat.le_trans K9.1 K12.1) K15.1) K18.1) K21.1) K24.1) K27.1) g32))) nin0)).keep K79 (ninS (Nat.ne_of_lt (Nat.lt_of_lt_of_le A7.lt (Nat.le_trans (Nat.le_trans (Nat.le_trans (Nat.le_trans (Nat.le_trans (Nat.le_trans (Nat.le_trans K9.1 K12.1) K15.1) K18.1) K21.1) K24.1) K27.1) g32))) nin0)).keep K82 (ninS (Nat.ne_of_lt (Nat.lt_of_lt_of_le A7.lt (Nat.le_trans (Nat.le_trans (Nat.le_trans (Nat.le_trans (Nat.le_trans (Nat.le_trans (Nat.le_trans K9.1 K12.1) K15.1) K18.1) K21.1) K24.1) K27.1) g32))) nin0)).keep K85 (ninS (Nat.ne_of_lt (Nat.lt_of_lt_of_le A7.lt (Nat.le_trans (Nat.le_trans (Nat.le_trans (Nat.le_trans (Nat.le_trans (Nat.le_trans (Nat.le_trans K9.1 K12.1) K15.1) K18.1) K21.1) K24.1) K27.1) g32))) nin0)).keep K88 (ninS (Nat.ne_of_lt (Nat.lt_of_lt_of_le A7.lt (Nat.le_trans (Nat.le_trans (Nat.le_trans (Nat.le_trans (Nat.le_trans (Nat.le_trans (Nat.le_trans K9.1 K12.1) K15.1) K18.1) K21.1) K24.1) K27.1) g32))) nin0)).keep K91 (ninS (Nat.ne_of_lt (Nat.lt_of_lt_of_le A7.lt (Nat.le_trans (Nat.le_trans (Nat.le_trans (Nat.le_trans (Nat.le_trans (Nat.le_trans (Nat.le_trans K9.1 K12.1) K15.1) K18.1) K21.1) K24.1) K27.1) g32))) nin0)).keep K95 nin0)
  have en104 := X.en
  refine W.callN (pc' := 270) (W := 1) (argsL := [(.ref a2)]) (st := [(.ref a94)]) (k' := 4) (n' := 37) (a := a94) X (c_init1 (x := a94) (a := a2) (cs := [(pk p1 0 u v), (pk p1 1 u v), (pk p1 2 u v), (pk p1 3 u v), (pk p1 4 u v), (pk p1 5 u v), (pk p1 6 u v)]) (v0 := .null) (c0 := (.int (0 : Int32))) G X.en E99 F102 F101 F103 (latS (pk_rng _ _ _ _) (latS (pk_rng _ _ _ _) (latS (pk_rng _ _ _ _) (latS (pk_rng _ _ _ _) (latS (pk_rng _ _ _ _) (latS (pk_rng _ _ _ _) (latS (pk_rng _ _ _ _) lat0))))))) (ltb rfl) (leb rfl) g97 nb98) rfl (w29 G) (w30 G) (w31 G) (w28 G) (by decide) (by decide) (by decide) rfl (lenOf pd42 rfl) rfl rfl (Nat.le_of_eq rfl) at_267 rfl (by decide) (by decide) (by decide) (by decide) (kv fun T h105 X z106 q107 => ?_)
  obtain ⟨a108, K109, g110, F111⟩ := q107
  have g112 : Z.heap.size ≤ a108 := Nat.le_trans (Nat.le_trans hz0 (Nat.le_trans (Nat.le_trans (Nat.le_trans (Nat.le_trans (Nat.le_trans (Nat.le_trans (Nat.le_trans (Nat.le_trans (Nat.le_trans (Nat.le_trans (Nat.le_trans (Nat.le_trans (Nat.le_trans (Nat.le_trans (Nat.le_trans (Nat.le_trans (Nat.le_trans (Nat.le_trans (Nat.le_trans (Nat.le_trans (Nat.le_trans (Nat.le_trans (Nat.le_trans (Nat.le_trans (Nat.le_trans (Nat.le_trans (Nat.le_trans (Nat.le_trans K3.1 K9.1) K12.1) K15.1) K18.1) K21.1) K24.1) K27.1) K31.1) K37.1) K40.1) K43.1) K46.1) K49.1) K52.1) K55.1) K58.1) K61.1) K64.1) K67.1) K70.1) K73.1) K76.1) K79.1) K82.1) K85.1) K88.1) K91.1) K95.1)) g110
  have nb113 : ¬ B a108 := fun q => absurd (en104.2 _ q) (Nat.not_lt.mpr g110)
  refine W.astore (pc' := 272) (ls' := #[.val (.long p0), .second, .val (.long p1), .second, .val (.int p2), .val (.int u.toInt32), .val (.int v.toInt32), .val (.ref a2), .val (.ref a30), .val (.ref a94), .unset, .unset, .unset, .unset, .unset, .unset, .unset, .unset]) X at_270 rfl rfl rfl ?_
  refine W.aload (pc' := 274) X at_272 rfl rfl rfl ?_
  refine W.lloadN (pc' := 275) X at_274 rfl rfl ?_
  refine W.callS (pc' := 278) (W := 0) (argsL := [(.ref a94), (.long p0)]) (st := []) (k' := 9) (n' := 74) X (c_parse (r := a94) (rb := a108) (cs := [(pk p1 0 u v), (pk p1 1 u v), (pk p1 2 u v), (pk p1 3 u v), (pk p1 4 u v), (pk p1 5 u v), (pk p1 6 u v)]) (x := p0) (u := u) (v := v) G X.en F111 rfl huv hv ((pkl p1 u v (by omega)).trans (pk_u _ _ _)) ((pkl p1 u v hv).trans (pk_v _ _ _)) (fun j hj hn => by rw [pkl p1 u v (by omega)]; exact pk_n p1 hj hn)) (w55 G) (w56 G) (w58 G) (w57 G) (by decide) (by decide) (by decide) rfl (lenOf pd43 rfl) rfl rfl (Nat.le_of_eq rfl) at_275 rfl (by decide) (by decide) (by decide) (by decide) (kri fun T h114 B117 xr X z115 zb118 q116 => ?_)
  obtain ⟨a119, a120, a121, a122, a123, rfl, K124, F125, F126, F127, F128, F129⟩ := q116
  refine W.astore (pc' := 280) (ls' := #[.val (.long p0), .second, .val (.long p1), .second, .val (.int p2), .val (.int u.toInt32), .val (.int v.toInt32), .val (.ref a2), .val (.ref a30), .val (.ref a94), .val (.ref a119), .unset, .unset, .unset, .unset, .unset, .unset, .unset]) X at_278 rfl rfl rfl ?_
  refine W.aload (pc' := 282) X at_280 rfl rfl rfl ?_
  refine W.callV (pc' := 285) (W := 0) (argsL := []) (st := []) (k' := 9) (n' := 74) (a := a119) X (c_cont (a := a119) (b := a122) G X.en F127) (w175 G) (w176 G) (nfM (z' := (⟨"com/example/dutiful_pruner/dutifulpruner/collection/CollectionDocument", "contents", "()Ljava/lang/String;"⟩ : MethodName)) rfl (w178 G)) (w178 G) (w177 G) F125 (w179 G) (w104 G) (by decide) (by decide) (by decide) rfl (lenOf pd44 rfl) rfl rfl (Nat.le_of_eq rfl) at_282 rfl (by decide) (by decide) (by decide) (by decide) (kp fun T X => ?_)
  refine W.astore (pc' := 287) (ls' := #[.val (.long p0), .second, .val (.long p1), .second, .val (.int p2), .val (.int u.toInt32), .val (.int v.toInt32), .val (.ref a2), .val (.ref a30), .val (.ref a94), .val (.ref a119), .val (.ref a122), .unset, .unset, .unset, .unset, .unset, .unset]) X at_285 rfl rfl rfl ?_
  refine W.aload (pc' := 289) X at_287 rfl rfl rfl ?_
  refine W.callV (pc' := 292) (W := 0) (argsL := []) (st := []) (k' := 9) (n' := 74) (a := a119) X (c_id (a := a119) (b := a120) G X.en F126) (w180 G) (w181 G) (nfM (z' := (⟨"com/example/dutiful_pruner/dutifulpruner/collection/CollectionDocument", "contents", "()Ljava/lang/String;"⟩ : MethodName)) rfl (w178 G)) (w183 G) (w182 G) F125 (w184 G) (w104 G) (by decide) (by decide) (by decide) rfl (lenOf pd44 rfl) rfl rfl (Nat.le_of_eq rfl) at_289 rfl (by decide) (by decide) (by decide) (by decide) (kp fun T X => ?_)
  refine W.astore (pc' := 294) (ls' := #[.val (.long p0), .second, .val (.long p1), .second, .val (.int p2), .val (.int u.toInt32), .val (.int v.toInt32), .val (.ref a2), .val (.ref a30), .val (.ref a94), .val (.ref a119), .val (.ref a122), .val (.ref a120), .unset, .unset, .unset, .unset, .unset]) X at_292 rfl rfl rfl ?_
  refine W.aload (pc' := 296) X at_294 rfl rfl rfl ?_
  refine W.nullF (pc' := 299) X at_296 rfl ?_
  refine W.aload (pc' := 301) X at_299 rfl rfl rfl ?_
  refine W.nonnullT (pc' := 306) X at_301 (by decide) (by decide) ?_
  refine W.bipush (pc' := 308) X (6 : Int32) at_306 (by decide) rfl ?_
  refine W.iload (pc' := 310) X at_308 rfl rfl ?_
  refine W.isub (pc' := 311) (w := (6 - v).toInt32) X at_310 (sub32 (a := 6) hv (by decide)) rfl ?_
  refine W.istore (pc' := 313) (ls' := #[.val (.long p0), .second, .val (.long p1), .second, .val (.int p2), .val (.int u.toInt32), .val (.int v.toInt32), .val (.ref a2), .val (.ref a30), .val (.ref a94), .val (.ref a119), .val (.ref a122), .val (.ref a120), .val (.int (6 - v).toInt32), .unset, .unset, .unset, .unset]) X at_311 rfl rfl ?_
  refine W.aload (pc' := 315) X at_313 rfl rfl rfl ?_
  refine W.callV (pc' := 318) (W := 0) (argsL := []) (st := []) (k' := 9) (n' := 74) (a := a122) X (c_len (a := a122) (b := a123) (cs := ([(pk p1 0 u v), (pk p1 1 u v), (pk p1 2 u v), (pk p1 3 u v), (pk p1 4 u v), (pk p1 5 u v), (pk p1 6 u v)].drop (v + 1))) G X.en F129) (w185 G) (w75 G) (nfM (z' := (⟨"java/lang/String", "indexOf", "(I)I"⟩ : MethodName)) rfl (w62 G)) (w77 G) (w76 G) F129.exa (w78 G) (w28 G) (by decide) (by decide) (by decide) rfl (lenOf pd22 rfl) rfl rfl (Nat.le_of_eq rfl) at_315 rfl (by decide) (by decide) (by decide) (by decide) (kp fun T X => ?_)
  refine W.iload (pc' := 320) X at_318 rfl rfl ?_
  refine W.icF (pc' := 323) X at_320 (XT.ii_ne_f (by rw [List.length_drop]; show (7 - (v + 1)).toInt32 = (6 - v).toInt32; rw [show 7 - (v + 1) = 6 - v by omega])) rfl ?_
  refine W.aload (pc' := 325) X at_323 rfl rfl rfl ?_
  refine W.aload (pc' := 327) X at_325 rfl rfl rfl ?_
  refine W.iload (pc' := 329) X at_327 rfl rfl ?_
  refine W.iload (pc' := 331) X at_329 rfl rfl ?_
  refine W.iconst (pc' := 332) X (0 : Int32) at_331 (by decide) rfl ?_
  have F130 := ((F103.keep K109 (ninS (Nat.ne_of_lt (Nat.lt_of_lt_of_le A7.lt (Nat.le_trans (Nat.le_trans (Nat.le_trans (Nat.le_trans (Nat.le_trans (Nat.le_trans (Nat.le_trans (Nat.le_trans (Nat.le_trans (Nat.le_trans (Nat.le_trans (Nat.le_trans (Nat.le_trans (Nat.le_trans (Nat.le_trans (Nat.le_trans (Nat.le_trans (Nat.le_trans (Nat.le_trans (Nat.le_trans (Nat.le_trans (Nat.le_trans (Nat.le_trans (Nat.le_trans (Nat.le_trans (Nat.le_trans (Nat.le_trans K9.1 K12.1) K15.1) K18.1) K21.1) K24.1) K27.1) K31.1) K37.1) K40.1) K43.1) K46.1) K49.1) K52.1) K55.1) K58.1) K61.1) K64.1) K67.1) K70.1) K73.1) K76.1) K79.1) K82.1) K85.1) K88.1) K91.1) g96))) nin0)).keep K124 nin0)
  refine W.callS (pc' := 335) (W := 0) (argsL := [(.ref a122), (.ref a2), (.int v.toInt32), (.int (6 - v).toInt32), (.int (0 : Int32))]) (st := []) (k' := 9) (n' := 74) X (c_bc (r := a122) (rb := a123) (w := a2) (cs := [(pk p1 0 u v), (pk p1 1 u v), (pk p1 2 u v), (pk p1 3 u v), (pk p1 4 u v), (pk p1 5 u v), (pk p1 6 u v)]) (v := v) (n := (6 - v)) (k := 0) G X.en F130 F129 rfl hv rfl (by decide)) (w186 G) (w187 G) (w188 G) (w4 G) (by decide) (by decide) (by decide) rfl (lenOf pd45 rfl) rfl rfl (Nat.le_of_eq rfl) at_332 rfl (by decide) (by decide) (by decide) (by decide) (kp fun T X => ?_)
  refine W.ifF (pc' := 338) X at_335 (by decide) rfl ?_
  refine W.aload (pc' := 340) X at_338 rfl rfl rfl ?_
  refine W.aload (pc' := 342) X at_340 rfl rfl rfl ?_
  refine W.iload (pc' := 344) X at_342 rfl rfl ?_
  refine W.iload (pc' := 346) X at_344 rfl rfl ?_
  refine W.iconst (pc' := 347) X (1 : Int32) at_346 (by decide) rfl ?_
  refine W.callS (pc' := 350) (W := 0) (argsL := [(.ref a122), (.ref a2), (.int v.toInt32), (.int (6 - v).toInt32), (.int (1 : Int32))]) (st := []) (k' := 9) (n' := 74) X (c_bc (r := a122) (rb := a123) (w := a2) (cs := [(pk p1 0 u v), (pk p1 1 u v), (pk p1 2 u v), (pk p1 3 u v), (pk p1 4 u v), (pk p1 5 u v), (pk p1 6 u v)]) (v := v) (n := (6 - v)) (k := 1) G X.en F130 F129 rfl hv rfl (by decide)) (w186 G) (w187 G) (w188 G) (w4 G) (by decide) (by decide) (by decide) rfl (lenOf pd45 rfl) rfl rfl (Nat.le_of_eq rfl) at_347 rfl (by decide) (by decide) (by decide) (by decide) (kp fun T X => ?_)
  refine W.ifF (pc' := 353) X at_350 (by decide) rfl ?_
  refine W.aload (pc' := 355) X at_353 rfl rfl rfl ?_
  refine W.aload (pc' := 357) X at_355 rfl rfl rfl ?_
  refine W.iload (pc' := 359) X at_357 rfl rfl ?_
  refine W.iload (pc' := 361) X at_359 rfl rfl ?_
  refine W.iconst (pc' := 362) X (2 : Int32) at_361 (by decide) rfl ?_
  refine W.callS (pc' := 365) (W := 0) (argsL := [(.ref a122), (.ref a2), (.int v.toInt32), (.int (6 - v).toInt32), (.int (2 : Int32))]) (st := []) (k' := 9) (n' := 74) X (c_bc (r := a122) (rb := a123) (w := a2) (cs := [(pk p1 0 u v), (pk p1 1 u v), (pk p1 2 u v), (pk p1 3 u v), (pk p1 4 u v), (pk p1 5 u v), (pk p1 6 u v)]) (v := v) (n := (6 - v)) (k := 2) G X.en F130 F129 rfl hv rfl (by decide)) (w186 G) (w187 G) (w188 G) (w4 G) (by decide) (by decide) (by decide) rfl (lenOf pd45 rfl) rfl rfl (Nat.le_of_eq rfl) at_362 rfl (by decide) (by decide) (by decide) (by decide) (kp fun T X => ?_)
  refine W.ifF (pc' := 368) X at_365 (by decide) rfl ?_
  refine W.aload (pc' := 370) X at_368 rfl rfl rfl ?_
  refine W.aload (pc' := 372) X at_370 rfl rfl rfl ?_
  refine W.iload (pc' := 374) X at_372 rfl rfl ?_
  refine W.iload (pc' := 376) X at_374 rfl rfl ?_
  refine W.iconst (pc' := 377) X (3 : Int32) at_376 (by decide) rfl ?_
  refine W.callS (pc' := 380) (W := 0) (argsL := [(.ref a122), (.ref a2), (.int v.toInt32), (.int (6 - v).toInt32), (.int (3 : Int32))]) (st := []) (k' := 9) (n' := 74) X (c_bc (r := a122) (rb := a123) (w := a2) (cs := [(pk p1 0 u v), (pk p1 1 u v), (pk p1 2 u v), (pk p1 3 u v), (pk p1 4 u v), (pk p1 5 u v), (pk p1 6 u v)]) (v := v) (n := (6 - v)) (k := 3) G X.en F130 F129 rfl hv rfl (by decide)) (w186 G) (w187 G) (w188 G) (w4 G) (by decide) (by decide) (by decide) rfl (lenOf pd45 rfl) rfl rfl (Nat.le_of_eq rfl) at_377 rfl (by decide) (by decide) (by decide) (by decide) (kp fun T X => ?_)
  refine W.ifF (pc' := 383) X at_380 (by decide) rfl ?_
  refine W.aload (pc' := 385) X at_383 rfl rfl rfl ?_
  refine W.aload (pc' := 387) X at_385 rfl rfl rfl ?_
  refine W.iload (pc' := 389) X at_387 rfl rfl ?_
  refine W.iload (pc' := 391) X at_389 rfl rfl ?_
  refine W.iconst (pc' := 392) X (4 : Int32) at_391 (by decide) rfl ?_
  refine W.callS (pc' := 395) (W := 0) (argsL := [(.ref a122), (.ref a2), (.int v.toInt32), (.int (6 - v).toInt32), (.int (4 : Int32))]) (st := []) (k' := 9) (n' := 74) X (c_bc (r := a122) (rb := a123) (w := a2) (cs := [(pk p1 0 u v), (pk p1 1 u v), (pk p1 2 u v), (pk p1 3 u v), (pk p1 4 u v), (pk p1 5 u v), (pk p1 6 u v)]) (v := v) (n := (6 - v)) (k := 4) G X.en F130 F129 rfl hv rfl (by decide)) (w186 G) (w187 G) (w188 G) (w4 G) (by decide) (by decide) (by decide) rfl (lenOf pd45 rfl) rfl rfl (Nat.le_of_eq rfl) at_392 rfl (by decide) (by decide) (by decide) (by decide) (kp fun T X => ?_)
  refine W.ifF (pc' := 398) X at_395 (by decide) rfl ?_
  refine W.aload (pc' := 400) X at_398 rfl rfl rfl ?_
  refine W.aload (pc' := 402) X at_400 rfl rfl rfl ?_
  refine W.iload (pc' := 404) X at_402 rfl rfl ?_
  refine W.iload (pc' := 406) X at_404 rfl rfl ?_
  refine W.iconst (pc' := 407) X (5 : Int32) at_406 (by decide) rfl ?_
  refine W.callS (pc' := 410) (W := 0) (argsL := [(.ref a122), (.ref a2), (.int v.toInt32), (.int (6 - v).toInt32), (.int (5 : Int32))]) (st := []) (k' := 9) (n' := 74) X (c_bc (r := a122) (rb := a123) (w := a2) (cs := [(pk p1 0 u v), (pk p1 1 u v), (pk p1 2 u v), (pk p1 3 u v), (pk p1 4 u v), (pk p1 5 u v), (pk p1 6 u v)]) (v := v) (n := (6 - v)) (k := 5) G X.en F130 F129 rfl hv rfl (by decide)) (w186 G) (w187 G) (w188 G) (w4 G) (by decide) (by decide) (by decide) rfl (lenOf pd45 rfl) rfl rfl (Nat.le_of_eq rfl) at_407 rfl (by decide) (by decide) (by decide) (by decide) (kp fun T X => ?_)
  refine W.ifF (pc' := 413) X at_410 (by decide) rfl ?_
  refine W.iconst (pc' := 414) X (1 : Int32) at_413 (by decide) rfl ?_
  refine W.goto (pc' := 418) X at_414 (by decide) (by decide) ?_
  refine W.istore (pc' := 420) (ls' := #[.val (.long p0), .second, .val (.long p1), .second, .val (.int p2), .val (.int u.toInt32), .val (.int v.toInt32), .val (.ref a2), .val (.ref a30), .val (.ref a94), .val (.ref a119), .val (.ref a122), .val (.ref a120), .val (.int (6 - v).toInt32), .val (.int (1 : Int32)), .unset, .unset, .unset]) X at_418 rfl rfl ?_
  have s433 : ∀ sg : Nat, sg = (sl (decide (p0 < 0))).length → Go l Z consts_1 room_1 B (fun vR hR BR => vR = some (.int (1 : Int32))) pP eE sS mM blw T 433 #[.val (.long p0), .second, .val (.long p1), .second, .val (.int p2), .val (.int u.toInt32), .val (.int v.toInt32), .val (.ref a2), .val (.ref a30), .val (.ref a94), .val (.ref a119), .val (.ref a122), .val (.ref a120), .val (.int (6 - v).toInt32), .val (.int (1 : Int32)), .val (.int sg.toInt32), .unset, .unset] [] := by
    intro sg hsg
    have hs1 := sl_len (decide (p0 < 0))
    have hd1 := digs_20 p0
    have hln := lstr_len p0
    have F131 := (((A92.keep K95 nin0).keep K109 (ninS (Nat.ne_of_lt (Nat.lt_of_lt_of_le A35.lt (Nat.le_trans (Nat.le_trans (Nat.le_trans (Nat.le_trans (Nat.le_trans (Nat.le_trans (Nat.le_trans (Nat.le_trans (Nat.le_trans (Nat.le_trans (Nat.le_trans (Nat.le_trans (Nat.le_trans (Nat.le_trans (Nat.le_trans (Nat.le_trans (Nat.le_trans (Nat.le_trans (Nat.le_trans K37.1 K40.1) K43.1) K46.1) K49.1) K52.1) K55.1) K58.1) K61.1) K64.1) K67.1) K70.1) K73.1) K76.1) K79.1) K82.1) K85.1) K88.1) K91.1) g96))) nin0)).keep K124 nin0)
    have FP : Ar Z h114 a30 .long pwl := pwl_eq ▸ F131
    refine W.lloadN (pc' := 434) X at_433 rfl rfl ?_
    refine W.callS (pc' := 437) (W := 0) (argsL := [(.long p0)]) (st := []) (k' := 9) (n' := 74) X (c_dig (x := p0) G X.en) (w203 G) (w204 G) (w205 G) (w4 G) (by decide) (by decide) (by decide) rfl (lenOf pd29 rfl) rfl rfl (Nat.le_of_eq rfl) at_434 rfl (by decide) (by decide) (by decide) (by decide) (kp fun T X => ?_)
    refine W.istore (pc' := 439) (ls' := #[.val (.long p0), .second, .val (.long p1), .second, .val (.int p2), .val (.int u.toInt32), .val (.int v.toInt32), .val (.ref a2), .val (.ref a30), .val (.ref a94), .val (.ref a119), .val (.ref a122), .val (.ref a120), .val (.int (6 - v).toInt32), .val (.int (1 : Int32)), .val (.int sg.toInt32), .val (.int (digs (nabs p0)).length.toInt32), .unset]) X at_437 rfl rfl ?_
    refine W.aload (pc' := 441) X at_439 rfl rfl rfl ?_
    refine W.callV (pc' := 444) (W := 0) (argsL := []) (st := []) (k' := 9) (n' := 74) (a := a120) X (c_len (a := a120) (b := a121) (cs := (lstr p0)) G X.en F128) (w185 G) (w75 G) (nfM (z' := (⟨"java/lang/String", "indexOf", "(I)I"⟩ : MethodName)) rfl (w62 G)) (w77 G) (w76 G) F128.exa (w78 G) (w28 G) (by decide) (by decide) (by decide) rfl (lenOf pd22 rfl) rfl rfl (Nat.le_of_eq rfl) at_441 rfl (by decide) (by decide) (by decide) (by decide) (kp fun T X => ?_)
    refine W.iload (pc' := 446) X at_444 rfl rfl ?_
    refine W.iload (pc' := 448) X at_446 rfl rfl ?_
    refine W.iadd (pc' := 449) (w := (sg + (digs (nabs p0)).length).toInt32) X at_448 (add32 (by omega)) rfl ?_
    refine W.icF (pc' := 452) X at_449 (XT.ii_ne_f (by rw [hln, hsg])) rfl ?_
    refine W.aload (pc' := 454) X at_452 rfl rfl rfl ?_
    refine W.lloadN (pc' := 455) X at_454 rfl rfl ?_
    refine W.iload (pc' := 457) X at_455 rfl rfl ?_
    refine W.iload (pc' := 459) X at_457 rfl rfl ?_
    refine W.aload (pc' := 461) X at_459 rfl rfl rfl ?_
    refine W.iconst (pc' := 462) X (0 : Int32) at_461 (by decide) rfl ?_
    refine W.callS (pc' := 465) (W := 0) (argsL := [(.ref a120), (.long p0), (.int sg.toInt32), (.int (digs (nabs p0)).length.toInt32), (.ref a30), (.int (0 : Int32))]) (st := []) (k' := 9) (n' := 74) X (c_idc (r := a120) (rb := a121) (w := a30) (x := p0) (sg := sg) (k := 0) G X.en F128 FP hsg (by decide)) (w207 G) (w208 G) (w209 G) (w4 G) (by decide) (by decide) (by decide) rfl (lenOf pd46 rfl) rfl rfl (Nat.le_of_eq rfl) at_462 rfl (by decide) (by decide) (by decide) (by decide) (kp fun T X => ?_)
    refine W.ifF (pc' := 468) X at_465 (by decide) rfl ?_
    refine W.aload (pc' := 470) X at_468 rfl rfl rfl ?_
    refine W.lloadN (pc' := 471) X at_470 rfl rfl ?_
    refine W.iload (pc' := 473) X at_471 rfl rfl ?_
    refine W.iload (pc' := 475) X at_473 rfl rfl ?_
    refine W.aload (pc' := 477) X at_475 rfl rfl rfl ?_
    refine W.iconst (pc' := 478) X (1 : Int32) at_477 (by decide) rfl ?_
    refine W.callS (pc' := 481) (W := 0) (argsL := [(.ref a120), (.long p0), (.int sg.toInt32), (.int (digs (nabs p0)).length.toInt32), (.ref a30), (.int (1 : Int32))]) (st := []) (k' := 9) (n' := 74) X (c_idc (r := a120) (rb := a121) (w := a30) (x := p0) (sg := sg) (k := 1) G X.en F128 FP hsg (by decide)) (w207 G) (w208 G) (w209 G) (w4 G) (by decide) (by decide) (by decide) rfl (lenOf pd46 rfl) rfl rfl (Nat.le_of_eq rfl) at_478 rfl (by decide) (by decide) (by decide) (by decide) (kp fun T X => ?_)
    refine W.ifF (pc' := 484) X at_481 (by decide) rfl ?_
    refine W.aload (pc' := 486) X at_484 rfl rfl rfl ?_
    refine W.lloadN (pc' := 487) X at_486 rfl rfl ?_
    refine W.iload (pc' := 489) X at_487 rfl rfl ?_
    refine W.iload (pc' := 491) X at_489 rfl rfl ?_
    refine W.aload (pc' := 493) X at_491 rfl rfl rfl ?_
    refine W.iconst (pc' := 494) X (2 : Int32) at_493 (by decide) rfl ?_
    refine W.callS (pc' := 497) (W := 0) (argsL := [(.ref a120), (.long p0), (.int sg.toInt32), (.int (digs (nabs p0)).length.toInt32), (.ref a30), (.int (2 : Int32))]) (st := []) (k' := 9) (n' := 74) X (c_idc (r := a120) (rb := a121) (w := a30) (x := p0) (sg := sg) (k := 2) G X.en F128 FP hsg (by decide)) (w207 G) (w208 G) (w209 G) (w4 G) (by decide) (by decide) (by decide) rfl (lenOf pd46 rfl) rfl rfl (Nat.le_of_eq rfl) at_494 rfl (by decide) (by decide) (by decide) (by decide) (kp fun T X => ?_)
    refine W.ifF (pc' := 500) X at_497 (by decide) rfl ?_
    refine W.aload (pc' := 502) X at_500 rfl rfl rfl ?_
    refine W.lloadN (pc' := 503) X at_502 rfl rfl ?_
    refine W.iload (pc' := 505) X at_503 rfl rfl ?_
    refine W.iload (pc' := 507) X at_505 rfl rfl ?_
    refine W.aload (pc' := 509) X at_507 rfl rfl rfl ?_
    refine W.iconst (pc' := 510) X (3 : Int32) at_509 (by decide) rfl ?_
    refine W.callS (pc' := 513) (W := 0) (argsL := [(.ref a120), (.long p0), (.int sg.toInt32), (.int (digs (nabs p0)).length.toInt32), (.ref a30), (.int (3 : Int32))]) (st := []) (k' := 9) (n' := 74) X (c_idc (r := a120) (rb := a121) (w := a30) (x := p0) (sg := sg) (k := 3) G X.en F128 FP hsg (by decide)) (w207 G) (w208 G) (w209 G) (w4 G) (by decide) (by decide) (by decide) rfl (lenOf pd46 rfl) rfl rfl (Nat.le_of_eq rfl) at_510 rfl (by decide) (by decide) (by decide) (by decide) (kp fun T X => ?_)
    refine W.ifF (pc' := 516) X at_513 (by decide) rfl ?_
    refine W.aload (pc' := 518) X at_516 rfl rfl rfl ?_
    refine W.lloadN (pc' := 519) X at_518 rfl rfl ?_
    refine W.iload (pc' := 521) X at_519 rfl rfl ?_
    refine W.iload (pc' := 523) X at_521 rfl rfl ?_
    refine W.aload (pc' := 525) X at_523 rfl rfl rfl ?_
    refine W.iconst (pc' := 526) X (4 : Int32) at_525 (by decide) rfl ?_
    refine W.callS (pc' := 529) (W := 0) (argsL := [(.ref a120), (.long p0), (.int sg.toInt32), (.int (digs (nabs p0)).length.toInt32), (.ref a30), (.int (4 : Int32))]) (st := []) (k' := 9) (n' := 74) X (c_idc (r := a120) (rb := a121) (w := a30) (x := p0) (sg := sg) (k := 4) G X.en F128 FP hsg (by decide)) (w207 G) (w208 G) (w209 G) (w4 G) (by decide) (by decide) (by decide) rfl (lenOf pd46 rfl) rfl rfl (Nat.le_of_eq rfl) at_526 rfl (by decide) (by decide) (by decide) (by decide) (kp fun T X => ?_)
    refine W.ifF (pc' := 532) X at_529 (by decide) rfl ?_
    refine W.aload (pc' := 534) X at_532 rfl rfl rfl ?_
    refine W.lloadN (pc' := 535) X at_534 rfl rfl ?_
    refine W.iload (pc' := 537) X at_535 rfl rfl ?_
    refine W.iload (pc' := 539) X at_537 rfl rfl ?_
    refine W.aload (pc' := 541) X at_539 rfl rfl rfl ?_
    refine W.iconst (pc' := 542) X (5 : Int32) at_541 (by decide) rfl ?_
    refine W.callS (pc' := 545) (W := 0) (argsL := [(.ref a120), (.long p0), (.int sg.toInt32), (.int (digs (nabs p0)).length.toInt32), (.ref a30), (.int (5 : Int32))]) (st := []) (k' := 9) (n' := 74) X (c_idc (r := a120) (rb := a121) (w := a30) (x := p0) (sg := sg) (k := 5) G X.en F128 FP hsg (by decide)) (w207 G) (w208 G) (w209 G) (w4 G) (by decide) (by decide) (by decide) rfl (lenOf pd46 rfl) rfl rfl (Nat.le_of_eq rfl) at_542 rfl (by decide) (by decide) (by decide) (by decide) (kp fun T X => ?_)
    refine W.ifF (pc' := 548) X at_545 (by decide) rfl ?_
    refine W.aload (pc' := 550) X at_548 rfl rfl rfl ?_
    refine W.lloadN (pc' := 551) X at_550 rfl rfl ?_
    refine W.iload (pc' := 553) X at_551 rfl rfl ?_
    refine W.iload (pc' := 555) X at_553 rfl rfl ?_
    refine W.aload (pc' := 557) X at_555 rfl rfl rfl ?_
    refine W.bipush (pc' := 559) X (6 : Int32) at_557 (by decide) rfl ?_
    refine W.callS (pc' := 562) (W := 0) (argsL := [(.ref a120), (.long p0), (.int sg.toInt32), (.int (digs (nabs p0)).length.toInt32), (.ref a30), (.int (6 : Int32))]) (st := []) (k' := 9) (n' := 74) X (c_idc (r := a120) (rb := a121) (w := a30) (x := p0) (sg := sg) (k := 6) G X.en F128 FP hsg (by decide)) (w207 G) (w208 G) (w209 G) (w4 G) (by decide) (by decide) (by decide) rfl (lenOf pd46 rfl) rfl rfl (Nat.le_of_eq rfl) at_559 rfl (by decide) (by decide) (by decide) (by decide) (kp fun T X => ?_)
    refine W.ifF (pc' := 565) X at_562 (by decide) rfl ?_
    refine W.aload (pc' := 567) X at_565 rfl rfl rfl ?_
    refine W.lloadN (pc' := 568) X at_567 rfl rfl ?_
    refine W.iload (pc' := 570) X at_568 rfl rfl ?_
    refine W.iload (pc' := 572) X at_570 rfl rfl ?_
    refine W.aload (pc' := 574) X at_572 rfl rfl rfl ?_
    refine W.bipush (pc' := 576) X (7 : Int32) at_574 (by decide) rfl ?_
    refine W.callS (pc' := 579) (W := 0) (argsL := [(.ref a120), (.long p0), (.int sg.toInt32), (.int (digs (nabs p0)).length.toInt32), (.ref a30), (.int (7 : Int32))]) (st := []) (k' := 9) (n' := 74) X (c_idc (r := a120) (rb := a121) (w := a30) (x := p0) (sg := sg) (k := 7) G X.en F128 FP hsg (by decide)) (w207 G) (w208 G) (w209 G) (w4 G) (by decide) (by decide) (by decide) rfl (lenOf pd46 rfl) rfl rfl (Nat.le_of_eq rfl) at_576 rfl (by decide) (by decide) (by decide) (by decide) (kp fun T X => ?_)
    refine W.ifF (pc' := 582) X at_579 (by decide) rfl ?_
    refine W.aload (pc' := 584) X at_582 rfl rfl rfl ?_
    refine W.lloadN (pc' := 585) X at_584 rfl rfl ?_
    refine W.iload (pc' := 587) X at_585 rfl rfl ?_
    refine W.iload (pc' := 589) X at_587 rfl rfl ?_
    refine W.aload (pc' := 591) X at_589 rfl rfl rfl ?_
    refine W.bipush (pc' := 593) X (8 : Int32) at_591 (by decide) rfl ?_
    refine W.callS (pc' := 596) (W := 0) (argsL := [(.ref a120), (.long p0), (.int sg.toInt32), (.int (digs (nabs p0)).length.toInt32), (.ref a30), (.int (8 : Int32))]) (st := []) (k' := 9) (n' := 74) X (c_idc (r := a120) (rb := a121) (w := a30) (x := p0) (sg := sg) (k := 8) G X.en F128 FP hsg (by decide)) (w207 G) (w208 G) (w209 G) (w4 G) (by decide) (by decide) (by decide) rfl (lenOf pd46 rfl) rfl rfl (Nat.le_of_eq rfl) at_593 rfl (by decide) (by decide) (by decide) (by decide) (kp fun T X => ?_)
    refine W.ifF (pc' := 599) X at_596 (by decide) rfl ?_
    refine W.aload (pc' := 601) X at_599 rfl rfl rfl ?_
    refine W.lloadN (pc' := 602) X at_601 rfl rfl ?_
    refine W.iload (pc' := 604) X at_602 rfl rfl ?_
    refine W.iload (pc' := 606) X at_604 rfl rfl ?_
    refine W.aload (pc' := 608) X at_606 rfl rfl rfl ?_
    refine W.bipush (pc' := 610) X (9 : Int32) at_608 (by decide) rfl ?_
    refine W.callS (pc' := 613) (W := 0) (argsL := [(.ref a120), (.long p0), (.int sg.toInt32), (.int (digs (nabs p0)).length.toInt32), (.ref a30), (.int (9 : Int32))]) (st := []) (k' := 9) (n' := 74) X (c_idc (r := a120) (rb := a121) (w := a30) (x := p0) (sg := sg) (k := 9) G X.en F128 FP hsg (by decide)) (w207 G) (w208 G) (w209 G) (w4 G) (by decide) (by decide) (by decide) rfl (lenOf pd46 rfl) rfl rfl (Nat.le_of_eq rfl) at_610 rfl (by decide) (by decide) (by decide) (by decide) (kp fun T X => ?_)
    refine W.ifF (pc' := 616) X at_613 (by decide) rfl ?_
    refine W.aload (pc' := 618) X at_616 rfl rfl rfl ?_
    refine W.lloadN (pc' := 619) X at_618 rfl rfl ?_
    refine W.iload (pc' := 621) X at_619 rfl rfl ?_
    refine W.iload (pc' := 623) X at_621 rfl rfl ?_
    refine W.aload (pc' := 625) X at_623 rfl rfl rfl ?_
    refine W.bipush (pc' := 627) X (10 : Int32) at_625 (by decide) rfl ?_
    refine W.callS (pc' := 630) (W := 0) (argsL := [(.ref a120), (.long p0), (.int sg.toInt32), (.int (digs (nabs p0)).length.toInt32), (.ref a30), (.int (10 : Int32))]) (st := []) (k' := 9) (n' := 74) X (c_idc (r := a120) (rb := a121) (w := a30) (x := p0) (sg := sg) (k := 10) G X.en F128 FP hsg (by decide)) (w207 G) (w208 G) (w209 G) (w4 G) (by decide) (by decide) (by decide) rfl (lenOf pd46 rfl) rfl rfl (Nat.le_of_eq rfl) at_627 rfl (by decide) (by decide) (by decide) (by decide) (kp fun T X => ?_)
    refine W.ifF (pc' := 633) X at_630 (by decide) rfl ?_
    refine W.aload (pc' := 635) X at_633 rfl rfl rfl ?_
    refine W.lloadN (pc' := 636) X at_635 rfl rfl ?_
    refine W.iload (pc' := 638) X at_636 rfl rfl ?_
    refine W.iload (pc' := 640) X at_638 rfl rfl ?_
    refine W.aload (pc' := 642) X at_640 rfl rfl rfl ?_
    refine W.bipush (pc' := 644) X (11 : Int32) at_642 (by decide) rfl ?_
    refine W.callS (pc' := 647) (W := 0) (argsL := [(.ref a120), (.long p0), (.int sg.toInt32), (.int (digs (nabs p0)).length.toInt32), (.ref a30), (.int (11 : Int32))]) (st := []) (k' := 9) (n' := 74) X (c_idc (r := a120) (rb := a121) (w := a30) (x := p0) (sg := sg) (k := 11) G X.en F128 FP hsg (by decide)) (w207 G) (w208 G) (w209 G) (w4 G) (by decide) (by decide) (by decide) rfl (lenOf pd46 rfl) rfl rfl (Nat.le_of_eq rfl) at_644 rfl (by decide) (by decide) (by decide) (by decide) (kp fun T X => ?_)
    refine W.ifF (pc' := 650) X at_647 (by decide) rfl ?_
    refine W.aload (pc' := 652) X at_650 rfl rfl rfl ?_
    refine W.lloadN (pc' := 653) X at_652 rfl rfl ?_
    refine W.iload (pc' := 655) X at_653 rfl rfl ?_
    refine W.iload (pc' := 657) X at_655 rfl rfl ?_
    refine W.aload (pc' := 659) X at_657 rfl rfl rfl ?_
    refine W.bipush (pc' := 661) X (12 : Int32) at_659 (by decide) rfl ?_
    refine W.callS (pc' := 664) (W := 0) (argsL := [(.ref a120), (.long p0), (.int sg.toInt32), (.int (digs (nabs p0)).length.toInt32), (.ref a30), (.int (12 : Int32))]) (st := []) (k' := 9) (n' := 74) X (c_idc (r := a120) (rb := a121) (w := a30) (x := p0) (sg := sg) (k := 12) G X.en F128 FP hsg (by decide)) (w207 G) (w208 G) (w209 G) (w4 G) (by decide) (by decide) (by decide) rfl (lenOf pd46 rfl) rfl rfl (Nat.le_of_eq rfl) at_661 rfl (by decide) (by decide) (by decide) (by decide) (kp fun T X => ?_)
    refine W.ifF (pc' := 667) X at_664 (by decide) rfl ?_
    refine W.aload (pc' := 669) X at_667 rfl rfl rfl ?_
    refine W.lloadN (pc' := 670) X at_669 rfl rfl ?_
    refine W.iload (pc' := 672) X at_670 rfl rfl ?_
    refine W.iload (pc' := 674) X at_672 rfl rfl ?_
    refine W.aload (pc' := 676) X at_674 rfl rfl rfl ?_
    refine W.bipush (pc' := 678) X (13 : Int32) at_676 (by decide) rfl ?_
    refine W.callS (pc' := 681) (W := 0) (argsL := [(.ref a120), (.long p0), (.int sg.toInt32), (.int (digs (nabs p0)).length.toInt32), (.ref a30), (.int (13 : Int32))]) (st := []) (k' := 9) (n' := 74) X (c_idc (r := a120) (rb := a121) (w := a30) (x := p0) (sg := sg) (k := 13) G X.en F128 FP hsg (by decide)) (w207 G) (w208 G) (w209 G) (w4 G) (by decide) (by decide) (by decide) rfl (lenOf pd46 rfl) rfl rfl (Nat.le_of_eq rfl) at_678 rfl (by decide) (by decide) (by decide) (by decide) (kp fun T X => ?_)
    refine W.ifF (pc' := 684) X at_681 (by decide) rfl ?_
    refine W.aload (pc' := 686) X at_684 rfl rfl rfl ?_
    refine W.lloadN (pc' := 687) X at_686 rfl rfl ?_
    refine W.iload (pc' := 689) X at_687 rfl rfl ?_
    refine W.iload (pc' := 691) X at_689 rfl rfl ?_
    refine W.aload (pc' := 693) X at_691 rfl rfl rfl ?_
    refine W.bipush (pc' := 695) X (14 : Int32) at_693 (by decide) rfl ?_
    refine W.callS (pc' := 698) (W := 0) (argsL := [(.ref a120), (.long p0), (.int sg.toInt32), (.int (digs (nabs p0)).length.toInt32), (.ref a30), (.int (14 : Int32))]) (st := []) (k' := 9) (n' := 74) X (c_idc (r := a120) (rb := a121) (w := a30) (x := p0) (sg := sg) (k := 14) G X.en F128 FP hsg (by decide)) (w207 G) (w208 G) (w209 G) (w4 G) (by decide) (by decide) (by decide) rfl (lenOf pd46 rfl) rfl rfl (Nat.le_of_eq rfl) at_695 rfl (by decide) (by decide) (by decide) (by decide) (kp fun T X => ?_)
    refine W.ifF (pc' := 701) X at_698 (by decide) rfl ?_
    refine W.aload (pc' := 703) X at_701 rfl rfl rfl ?_
    refine W.lloadN (pc' := 704) X at_703 rfl rfl ?_
    refine W.iload (pc' := 706) X at_704 rfl rfl ?_
    refine W.iload (pc' := 708) X at_706 rfl rfl ?_
    refine W.aload (pc' := 710) X at_708 rfl rfl rfl ?_
    refine W.bipush (pc' := 712) X (15 : Int32) at_710 (by decide) rfl ?_
    refine W.callS (pc' := 715) (W := 0) (argsL := [(.ref a120), (.long p0), (.int sg.toInt32), (.int (digs (nabs p0)).length.toInt32), (.ref a30), (.int (15 : Int32))]) (st := []) (k' := 9) (n' := 74) X (c_idc (r := a120) (rb := a121) (w := a30) (x := p0) (sg := sg) (k := 15) G X.en F128 FP hsg (by decide)) (w207 G) (w208 G) (w209 G) (w4 G) (by decide) (by decide) (by decide) rfl (lenOf pd46 rfl) rfl rfl (Nat.le_of_eq rfl) at_712 rfl (by decide) (by decide) (by decide) (by decide) (kp fun T X => ?_)
    refine W.ifF (pc' := 718) X at_715 (by decide) rfl ?_
    refine W.aload (pc' := 720) X at_718 rfl rfl rfl ?_
    refine W.lloadN (pc' := 721) X at_720 rfl rfl ?_
    refine W.iload (pc' := 723) X at_721 rfl rfl ?_
    refine W.iload (pc' := 725) X at_723 rfl rfl ?_
    refine W.aload (pc' := 727) X at_725 rfl rfl rfl ?_
    refine W.bipush (pc' := 729) X (16 : Int32) at_727 (by decide) rfl ?_
    refine W.callS (pc' := 732) (W := 0) (argsL := [(.ref a120), (.long p0), (.int sg.toInt32), (.int (digs (nabs p0)).length.toInt32), (.ref a30), (.int (16 : Int32))]) (st := []) (k' := 9) (n' := 74) X (c_idc (r := a120) (rb := a121) (w := a30) (x := p0) (sg := sg) (k := 16) G X.en F128 FP hsg (by decide)) (w207 G) (w208 G) (w209 G) (w4 G) (by decide) (by decide) (by decide) rfl (lenOf pd46 rfl) rfl rfl (Nat.le_of_eq rfl) at_729 rfl (by decide) (by decide) (by decide) (by decide) (kp fun T X => ?_)
    refine W.ifF (pc' := 735) X at_732 (by decide) rfl ?_
    refine W.aload (pc' := 737) X at_735 rfl rfl rfl ?_
    refine W.lloadN (pc' := 738) X at_737 rfl rfl ?_
    refine W.iload (pc' := 740) X at_738 rfl rfl ?_
    refine W.iload (pc' := 742) X at_740 rfl rfl ?_
    refine W.aload (pc' := 744) X at_742 rfl rfl rfl ?_
    refine W.bipush (pc' := 746) X (17 : Int32) at_744 (by decide) rfl ?_
    refine W.callS (pc' := 749) (W := 0) (argsL := [(.ref a120), (.long p0), (.int sg.toInt32), (.int (digs (nabs p0)).length.toInt32), (.ref a30), (.int (17 : Int32))]) (st := []) (k' := 9) (n' := 74) X (c_idc (r := a120) (rb := a121) (w := a30) (x := p0) (sg := sg) (k := 17) G X.en F128 FP hsg (by decide)) (w207 G) (w208 G) (w209 G) (w4 G) (by decide) (by decide) (by decide) rfl (lenOf pd46 rfl) rfl rfl (Nat.le_of_eq rfl) at_746 rfl (by decide) (by decide) (by decide) (by decide) (kp fun T X => ?_)
    refine W.ifF (pc' := 752) X at_749 (by decide) rfl ?_
    refine W.aload (pc' := 754) X at_752 rfl rfl rfl ?_
    refine W.lloadN (pc' := 755) X at_754 rfl rfl ?_
    refine W.iload (pc' := 757) X at_755 rfl rfl ?_
    refine W.iload (pc' := 759) X at_757 rfl rfl ?_
    refine W.aload (pc' := 761) X at_759 rfl rfl rfl ?_
    refine W.bipush (pc' := 763) X (18 : Int32) at_761 (by decide) rfl ?_
    refine W.callS (pc' := 766) (W := 0) (argsL := [(.ref a120), (.long p0), (.int sg.toInt32), (.int (digs (nabs p0)).length.toInt32), (.ref a30), (.int (18 : Int32))]) (st := []) (k' := 9) (n' := 74) X (c_idc (r := a120) (rb := a121) (w := a30) (x := p0) (sg := sg) (k := 18) G X.en F128 FP hsg (by decide)) (w207 G) (w208 G) (w209 G) (w4 G) (by decide) (by decide) (by decide) rfl (lenOf pd46 rfl) rfl rfl (Nat.le_of_eq rfl) at_763 rfl (by decide) (by decide) (by decide) (by decide) (kp fun T X => ?_)
    refine W.ifF (pc' := 769) X at_766 (by decide) rfl ?_
    refine W.aload (pc' := 771) X at_769 rfl rfl rfl ?_
    refine W.lloadN (pc' := 772) X at_771 rfl rfl ?_
    refine W.iload (pc' := 774) X at_772 rfl rfl ?_
    refine W.iload (pc' := 776) X at_774 rfl rfl ?_
    refine W.aload (pc' := 778) X at_776 rfl rfl rfl ?_
    refine W.bipush (pc' := 780) X (19 : Int32) at_778 (by decide) rfl ?_
    refine W.callS (pc' := 783) (W := 0) (argsL := [(.ref a120), (.long p0), (.int sg.toInt32), (.int (digs (nabs p0)).length.toInt32), (.ref a30), (.int (19 : Int32))]) (st := []) (k' := 9) (n' := 74) X (c_idc (r := a120) (rb := a121) (w := a30) (x := p0) (sg := sg) (k := 19) G X.en F128 FP hsg (by decide)) (w207 G) (w208 G) (w209 G) (w4 G) (by decide) (by decide) (by decide) rfl (lenOf pd46 rfl) rfl rfl (Nat.le_of_eq rfl) at_780 rfl (by decide) (by decide) (by decide) (by decide) (kp fun T X => ?_)
    refine W.ifF (pc' := 786) X at_783 (by decide) rfl ?_
    refine W.iconst (pc' := 787) X (1 : Int32) at_786 (by decide) rfl ?_
    refine W.goto (pc' := 791) X at_787 (by decide) (by decide) ?_
    refine W.istore (pc' := 793) (ls' := #[.val (.long p0), .second, .val (.long p1), .second, .val (.int p2), .val (.int u.toInt32), .val (.int v.toInt32), .val (.ref a2), .val (.ref a30), .val (.ref a94), .val (.ref a119), .val (.ref a122), .val (.ref a120), .val (.int (6 - v).toInt32), .val (.int (1 : Int32)), .val (.int sg.toInt32), .val (.int (digs (nabs p0)).length.toInt32), .val (.int (1 : Int32))]) X at_791 rfl rfl ?_
    refine W.iload (pc' := 795) X at_793 rfl rfl ?_
    refine W.ifF (pc' := 798) X at_795 (by decide) rfl ?_
    refine W.iload (pc' := 800) X at_798 rfl rfl ?_
    refine W.ifF (pc' := 803) X at_800 (by decide) rfl ?_
    refine W.iconst (pc' := 804) X (1 : Int32) at_803 (by decide) rfl ?_
    refine W.goto (pc' := 808) X at_804 (by decide) (by decide) ?_
    exact W.ireturn X at_808 rfl (by decide) (by decide) (by decide) (by decide) rfl
  refine W.lloadN (pc' := 421) X at_420 rfl rfl ?_
  refine W.lconst (pc' := 422) X (0 : Int64) at_421 (by decide) rfl ?_
  refine W.lcmp (pc' := 423) (w := (XT.cmpL p0 (0 : Int64))) X at_422 rfl rfl ?_
  by_cases hs : p0 < (0 : Int64)
  · skip
    refine W.ifF (pc' := 426) X at_423 (XT.ll_ge_f hs) rfl ?_
    refine W.iconst (pc' := 427) X (1 : Int32) at_426 (by decide) rfl ?_
    refine W.goto (pc' := 431) X at_427 (by decide) (by decide) ?_
    refine W.istore (pc' := 433) (ls' := #[.val (.long p0), .second, .val (.long p1), .second, .val (.int p2), .val (.int u.toInt32), .val (.int v.toInt32), .val (.ref a2), .val (.ref a30), .val (.ref a94), .val (.ref a119), .val (.ref a122), .val (.ref a120), .val (.int (6 - v).toInt32), .val (.int (1 : Int32)), .val (.int (1 : Int32)), .unset, .unset]) X at_431 rfl rfl ?_
    exact s433 1 (by rw [decide_eq_true hs]; rfl)
  · skip
    refine W.ifT (pc' := 430) X at_423 (XT.ll_ge_t hs) (by decide) (by decide) ?_
    refine W.iconst (pc' := 431) X (0 : Int32) at_430 (by decide) rfl ?_
    refine W.istore (pc' := 433) (ls' := #[.val (.long p0), .second, .val (.long p1), .second, .val (.int p2), .val (.int u.toInt32), .val (.int v.toInt32), .val (.ref a2), .val (.ref a30), .val (.ref a94), .val (.ref a119), .val (.ref a122), .val (.ref a120), .val (.int (6 - v).toInt32), .val (.int (1 : Int32)), .val (.int (0 : Int32)), .unset, .unset]) X at_431 rfl rfl ?_
    exact s433 0 (by rw [decide_eq_false hs]; rfl)
set_option maxRecDepth 65536 in
set_option maxHeartbeats 40000000 in
theorem comes_1 {Post : Tables → Env → Array Value → State → Outcome → State → Prop} (hpost : ∀ tb e args s v u, (limb_1_1.after args s (.returned v) u = true ∧ limb_1_2.after args s (.returned v) u = true ∧ True) → ReturnedEndW s (.returned v) u (Jvm.fieldLocs frame_1_writes args s ++ Jvm.arrayLocs frame_1_arrays args s ++ Jvm.staticLocs frame_1_statics s) 32 1280 → Post tb e args s (.returned v) u) :
    ArmFor flags0 classFile x code maxLocals ret World_1 tables_1 room_1 Calls_1 rest_1 Pre_1 Post := by
  intro l hfl _ _ p e ha hc hk s m args below hf hA hF happ hP
  obtain ⟨hcalls, hrest, hpre⟩ := hP
  obtain ⟨-, -, -, hnamed, -, -, -, hat⟩ := (Spec.applies_iff hf).mp happ
  obtain ⟨hg, hn⟩ := and_e (Cond.before_iff.mp (show (Jvm.Cond.and given_1 narrow_1).before args s = true from hpre))
  obtain ⟨h1, h2⟩ := and_e hg
  obtain ⟨w0, w1, w2, rfl⟩ : ∃ w0 w1 w2 : Value, args = #[w0, w1, w2] := by
    have hs : args.size = 3 := by simpa [Cond.value, given_1] using h1
    obtain ⟨L⟩ := args
    match L, hs with
    | [w0, w1, w2], _ => exact ⟨w0, w1, w2, rfl⟩
  obtain ⟨k0, r0⟩ := and_e h2
  obtain ⟨i0, e0⟩ := isL_v k0
  obtain rfl : w0 = (.long i0) := Option.some.inj e0
  obtain ⟨k1, r1⟩ := and_e r0
  obtain ⟨i1, e1⟩ := isL_v k1
  obtain rfl : w1 = (.long i1) := Option.some.inj e1
  obtain ⟨i2, e2⟩ := is_v r1
  obtain rfl : w2 = (.int i2) := Option.some.inj e2
  have hw := fun d (hd : d ∈ tables_1) => atoms_spec (ws := Jvm.Cond.code x code maxLocals ret :: tables_1) hat d (List.mem_cons_of_mem _ hd)
  obtain ⟨hsets, hown0⟩ := atoms_of _ (rest_1_c_eq ▸ (show rest_1_c.before _ s = true from hrest))
  obtain ⟨zC, v1⟩ := is_v (Cond.before_iff.mp (hsets _ (List.mem_of_getElem? (i := 1) rfl)))
  have c1 : ¬ (zC = (0 : Int32)) := gotF (Cond.eq_ints v1 (Term.int_eval (0))) (not_v (Cond.before_iff.mp (hsets _ (List.mem_of_getElem? (i := 2) rfl))))
  have S1 := Sta.start v1 (Or.inl (hsets _ (List.mem_of_getElem? (i := 0) rfl)))
  obtain ⟨fS, v2, c2⟩ := isR_v (Cond.before_iff.mp (hsets _ (List.mem_of_getElem? (i := 8) rfl)))
  have S2 := Sta.start v2 (Or.inl (hsets _ (List.mem_of_getElem? (i := 7) rfl)))
  obtain ⟨dO, v3⟩ := exa_v (Cond.before_iff.mp (hsets _ (List.mem_of_getElem? (i := 12) rfl)))
  have S3 := Sta.start v3 (Or.inl (hsets _ (List.mem_of_getElem? (i := 11) rfl)))
  obtain ⟨dT, v4⟩ := exa_v (Cond.before_iff.mp (hsets _ (List.mem_of_getElem? (i := 17) rfl)))
  have S4 := Sta.start v4 (Or.inl (hsets _ (List.mem_of_getElem? (i := 16) rfl)))
  have Y1 : Ar s s.heap dO .byte ones := dig_start (fun idx => v3) (hw _ (List.mem_of_getElem? (i := 44) rfl)) (hsets _ (List.mem_of_getElem? (i := 12) rfl)) (Cond.before_iff.mp (hsets _ (List.mem_of_getElem? (i := 13) rfl))) (Cond.before_iff.mp (hsets _ (List.mem_of_getElem? (i := 14) rfl))) (fun i hi => Term.add_int (Term.int_eval 48) (rem_f (show (Term.index 0).eval _ s none [i] s = some (.int i.toInt32) from rfl) (Term.int_eval 10) (by decide))) (by decide +kernel)
  have Y2 : Ar s s.heap dT .byte tens := dig_start (fun idx => v4) (hw _ (List.mem_of_getElem? (i := 44) rfl)) (hsets _ (List.mem_of_getElem? (i := 17) rfl)) (Cond.before_iff.mp (hsets _ (List.mem_of_getElem? (i := 18) rfl))) (Cond.before_iff.mp (hsets _ (List.mem_of_getElem? (i := 19) rfl))) (fun i hi => Term.add_int (Term.int_eval 48) (div_f (show (Term.index 0).eval _ s none [i] s = some (.int i.toInt32) from rfl) (Term.int_eval 10) (by decide))) (by decide +kernel)
  have hew : EW s #[(.long i0), (.long i1), (.int i2)] consts_1 := (EW.cons (hw _ (List.mem_of_getElem? (i := 233) rfl)) (by decide) EW.nil)
  have G : Gl s #[(.long i0), (.long i1), (.int i2)] zC fS dO dT := ⟨hw, hew, S1, c1, S2, c2, S3, S4, Y1, Y2, trivial⟩
  have hch : CHv s consts_1 s.vm s.heap := CHv.start hew (fun p hp => hcalls.1 p hp) (hsets _ (List.mem_of_getElem? (i := 2) rfl)) (hw _ (List.mem_of_getElem? (i := 44) rfl)) (hw _ (List.mem_of_getElem? (i := 27) rfl))
  obtain ⟨n, o, h1, h2, h3, v, L, B', rfl, N, -, -, -, -, -, rfl, hq⟩ := c_law (l := l) (B := fun x => Bk s consts_1 s.vm s.heap x) G ⟨⟨Nat.le_refl _, fun _ _ q => q⟩, fun x r => by obtain ⟨cell, q⟩ := r.there; exact (Array.getElem?_eq_some_iff.mp q).1⟩ p e ha hc hk s m _ below hf ((Spec.applies_iff_loose hf).mp happ).1 ⟨rfl, State.Warmed39.refl s, rfl, hch, fun x r => r⟩ trivial
  refine ⟨n, _, h1, h2, h3, hpost _ _ _ _ _ _ ⟨Cond.after_iff.mpr rfl, Cond.after_iff.mpr (eq_i res_at (Term.int_eval (1)) rfl), trivial⟩ ⟨hq.1, hq.2.1, hq.2.2.1, (hq.2.2.2.sift fun y hy => Or.inr (N y hy)).mono (by decide) (by decide)⟩⟩
theorem main_1_1 : Claimed_1_1 := comes_1 fun _ _ _ _ _ _ h hF => ⟨h.1, hF⟩
theorem main_1_2 : Claimed_1_2 := comes_1 fun _ _ _ _ _ _ h hF => ⟨h.2.1, hF⟩
end Jvm.Pilot.@@N@@
namespace Jvm.Pilot.@@N@@
open Jvm Jvm.ClassFile Sem Op Lib Jvm.Free Jvm.Stand Jvm.Pilot.@@N@@.Jvm.D
/-! MADE BY PROGRAM (witnessworld.py) out of the Statement's table words and the real class files: 30 classes; the members and pool entries that the words name. The judged class is class 1, her method 5. -/
namespace start1
open Jvm.ClassFile
def u (s : String) : CpInfo := .utf8 (stringToUtf16 s)
/-- a pool by its gaps: so many unusable entries, then the entry; so many at the end -/
def gap : Nat → List CpInfo → List CpInfo
  | 0, r => r
  | n + 1, r => .unusable :: gap n r
def poolList (es : List (Nat × CpInfo)) (last : Nat) : List CpInfo := es.foldr (fun e r => gap e.1 (e.2 :: r)) (gap last [])
def pool (es : List (Nat × CpInfo)) (last : Nat) : Array CpInfo := ⟨poolList es last⟩
def fileOf (pool : Array CpInfo) (this : Nat) (attrs : Array Attribute := #[]) (ms : Array MethodInfo := #[]) (fl : Nat := 33) (sup : Nat := 0) (ifs : Array Nat := #[]) (fds : Array FieldInfo := #[]) : ClassFile where
  minorVersion := 0
  majorVersion := 65
  constantPool := pool
  accessFlags := fl
  thisClass := this
  superClass := sup
  interfaces := ifs
  fields := fds
  methods := ms
  attributes := attrs
def plain (name : String) (sup : Option ClassId) : Class where
  name := name
  kind := .ordinary
  loader := none
  accessFlags := 33
  super := sup
  interfaces := #[]
  cf := none
  fields := #[]
  methods := #[]
  instanceTypes := #[]
  staticTypes := #[]
  resolved := #[]
  callSites := []
  init := .initialized
  statics := none
  mirror := none

def pool0 : Array CpInfo := pool [(5, u "<init>"), (0, u "()V"), (1, .class_ 10), (1, u "java/lang/Object")] 113

def k0c0 : Code := { maxStack := 0, maxLocals := 1, code := object_method_1_code, exceptionTable := #[], attributes := #[] }
def k0m0 : Method := { name := "<init>", desc := "()V", sig := { parameters := [], returnType := none }, accessFlags := 1, code := some k0c0 }
/-- java/lang/Object -/
def k0 : Class := { plain "java/lang/Object" none with
  accessFlags := 33
  interfaces := #[]
  cf := some (fileOf pool0 8 #[] #[{ accessFlags := 1, nameIndex := 5, descriptorIndex := 6, attributes := #[] }] 33 0 #[] #[])
  fields := #[]
  methods := #[k0m0]
  instanceTypes := #[]
  staticTypes := #[]
  resolved := Array.replicate 124 none
  statics := none }

def pool1 : Array CpInfo := pool [(2, .class_ 4), (1, u "java/lang/Object"), (0, u "<init>"), (0, u "()V"), (0, .long 255), (1, .methodref 10 11), (0, .class_ 12), (0, .nameAndType 13 14), (0, u "java/lang/String"), (0, u "charAt"), (0, u "(I)C"), (0, .long 18446744073709551606), (1, .long 18446744073709551516), (1, .long 18446744073709550616), (1, .long 18446744073709541616), (1, .long 18446744073709451616), (1, .long 18446744073708551616), (1, .long 18446744073699551616), (1, .long 18446744073609551616), (1, .long 18446744072709551616), (1, .long 18446744063709551616), (1, .long 18446743973709551616), (1, .long 18446743073709551616), (1, .long 18446734073709551616), (1, .long 18446644073709551616), (1, .long 18445744073709551616), (1, .long 18436744073709551616), (1, .long 18346744073709551616), (1, .long 17446744073709551616), (1, .long 10), (1, .methodref 54 55), (0, .class_ 56), (0, .nameAndType 57 58), (0, u "java/lang/Math"), (0, u "abs"), (0, u "(J)J"), (0, .integer 2147483647), (0, .methodref 61 62), (0, .class_ 63), (0, .nameAndType 64 65), (0, u "com/example/dutiful_pruner/dutifulpruner/collection/LineFileCollectionParseLinePinLaw"), (0, u "pick"), (0, u "(JIII)C"), (0, .long 100), (1, .long 1000), (1, .long 10000), (1, .long 100000), (1, .long 1000000), (1, .long 10000000), (1, .long 100000000), (1, .long 1000000000), (1, .long 10000000000), (1, .long 100000000000), (1, .long 1000000000000), (1, .long 10000000000000), (1, .long 100000000000000), (1, .long 1000000000000000), (1, .long 10000000000000000), (1, .long 100000000000000000), (1, .long 1000000000000000000), (1, .methodref 10 101), (0, .nameAndType 5 102), (0, u "([C)V"), (0, .methodref 104 105), (0, .class_ 106), (0, .nameAndType 107 108), (0, u "com/example/dutiful_pruner/dutifulpruner/collection/LineFileCollection"), (0, u "parseLine"), (0, u "(Ljava/lang/String;J)Lcom/example/dutiful_pruner/dutifulpruner/collection/CollectionDocument;"), (0, .methodref 110 111), (0, .class_ 112), (0, .nameAndType 113 114), (0, u "com/example/dutiful_pruner/dutifulpruner/collection/CollectionDocument"), (0, u "contents"), (0, u "()Ljava/lang/String;"), (0, .methodref 110 116), (0, .nameAndType 117 114), (0, u "id"), (0, .methodref 10 119), (0, .nameAndType 120 121), (0, u "length"), (0, u "()I"), (0, .methodref 61 123), (0, .nameAndType 124 125), (0, u "bc"), (0, u "(Ljava/lang/String;[CIII)Z"), (0, .methodref 61 127), (0, .nameAndType 128 129), (0, u "digits"), (0, u "(J)I"), (0, .methodref 61 131), (0, .nameAndType 132 133), (0, u "idc"), (0, u "(Ljava/lang/String;JII[JI)Z"), (3, u "law"), (0, u "(JJI)Z")] 9

def k1m0 : Method := { name := "<init>", desc := "()V", sig := { parameters := [], returnType := none }, accessFlags := 1, code := none }
def k1c1 : Code := { maxStack := 4, maxLocals := 6, code := method_2_code, exceptionTable := #[], attributes := #[] }
def k1m1 : Method := { name := "pick", desc := "(JIII)C", sig := { parameters := [.long, .int, .int, .int], returnType := some .char }, accessFlags := 10, code := some k1c1 }
def k1c2 : Code := { maxStack := 4, maxLocals := 5, code := method_3_code, exceptionTable := #[], attributes := #[] }
def k1m2 : Method := { name := "bc", desc := "(Ljava/lang/String;[CIII)Z", sig := { parameters := [(.object "java/lang/String"), (.array .char), .int, .int, .int], returnType := some .boolean }, accessFlags := 10, code := some k1c2 }
def k1c3 : Code := { maxStack := 4, maxLocals := 4, code := method_4_code, exceptionTable := #[], attributes := #[] }
def k1m3 : Method := { name := "digits", desc := "(J)I", sig := { parameters := [.long], returnType := some .int }, accessFlags := 10, code := some k1c3 }
def k1c4 : Code := { maxStack := 5, maxLocals := 10, code := method_5_code, exceptionTable := #[], attributes := #[] }
def k1m4 : Method := { name := "idc", desc := "(Ljava/lang/String;JII[JI)Z", sig := { parameters := [(.object "java/lang/String"), .long, .int, .int, (.array .long), .int], returnType := some .boolean }, accessFlags := 10, code := some k1c4 }
def k1c5 : Code := { maxStack := 7, maxLocals := 18, code := code, exceptionTable := #[], attributes := #[] }
def k1m5 : Method := { name := "law", desc := "(JJI)Z", sig := { parameters := [.long, .long, .int], returnType := some .boolean }, accessFlags := 9, code := some k1c5 }
/-- com/example/dutiful_pruner/dutifulpruner/collection/LineFileCollectionParseLinePinLaw -/
def k1 : Class := { plain "com/example/dutiful_pruner/dutifulpruner/collection/LineFileCollectionParseLinePinLaw" (some 0) with
  accessFlags := 49
  interfaces := #[]
  cf := some (fileOf pool1 61 #[] #[{ accessFlags := 1, nameIndex := 5, descriptorIndex := 6, attributes := #[] }, { accessFlags := 10, nameIndex := 64, descriptorIndex := 65, attributes := #[] }, { accessFlags := 10, nameIndex := 124, descriptorIndex := 125, attributes := #[] }, { accessFlags := 10, nameIndex := 128, descriptorIndex := 129, attributes := #[] }, { accessFlags := 10, nameIndex := 132, descriptorIndex := 133, attributes := #[] }, { accessFlags := 9, nameIndex := 137, descriptorIndex := 138, attributes := #[] }] 49 2 #[] #[])
  fields := #[]
  methods := #[k1m0, k1m1, k1m2, k1m3, k1m4, k1m5]
  instanceTypes := #[]
  staticTypes := #[]
  resolved := Array.replicate 148 none
  statics := none }

def pool2 : Array CpInfo := pool [(1, .class_ 2), (0, u "java/io/Serializable"), (0, .class_ 4), (0, u "java/lang/Object")] 2

/-- java/io/Serializable -/
def k2 : Class := { plain "java/io/Serializable" (some 0) with
  accessFlags := 1537
  interfaces := #[]
  cf := some (fileOf pool2 1 #[] #[] 1537 3 #[] #[])
  fields := #[]
  methods := #[]
  instanceTypes := #[]
  staticTypes := #[]
  resolved := Array.replicate 7 none
  statics := none }

def pool3 : Array CpInfo := pool [(1, .class_ 2), (0, u "java/lang/Comparable"), (0, .class_ 4), (0, u "java/lang/Object")] 7

/-- java/lang/Comparable -/
def k3 : Class := { plain "java/lang/Comparable" (some 0) with
  accessFlags := 1537
  interfaces := #[]
  cf := some (fileOf pool3 1 #[] #[] 1537 3 #[] #[])
  fields := #[]
  methods := #[]
  instanceTypes := #[]
  staticTypes := #[]
  resolved := Array.replicate 12 none
  statics := none }

def pool4 : Array CpInfo := pool [(2, .class_ 4), (1, u "java/lang/CharSequence"), (42, .class_ 48), (0, u "java/lang/CharSequence$1CodePointIterator"), (10, .class_ 60), (0, u "java/lang/CharSequence$1CharIterator"), (5, .class_ 67), (0, u "java/lang/Object")] 63

/-- java/lang/CharSequence -/
def k4 : Class := { plain "java/lang/CharSequence" (some 0) with
  accessFlags := 1537
  interfaces := #[]
  cf := some (fileOf pool4 2 #[.nestMembers #[47, 59]] #[] 1537 66 #[] #[])
  fields := #[]
  methods := #[]
  instanceTypes := #[]
  staticTypes := #[]
  resolved := Array.replicate 131 none
  statics := none }

def pool5 : Array CpInfo := pool [(1, .class_ 2), (0, u "java/lang/constant/Constable"), (0, .class_ 4), (0, u "java/lang/Object")] 6

/-- java/lang/constant/Constable -/
def k5 : Class := { plain "java/lang/constant/Constable" (some 0) with
  accessFlags := 1537
  interfaces := #[]
  cf := some (fileOf pool5 1 #[] #[] 1537 3 #[] #[])
  fields := #[]
  methods := #[]
  instanceTypes := #[]
  staticTypes := #[]
  resolved := Array.replicate 11 none
  statics := none }

def pool6 : Array CpInfo := pool [(1, .class_ 2), (0, u "java/lang/constant/ConstantDesc"), (0, .class_ 4), (0, u "java/lang/Object")] 32

/-- java/lang/constant/ConstantDesc -/
def k6 : Class := { plain "java/lang/constant/ConstantDesc" (some 0) with
  accessFlags := 1537
  interfaces := #[]
  cf := some (fileOf pool6 1 #[] #[] 1537 3 #[] #[])
  fields := #[]
  methods := #[]
  instanceTypes := #[]
  staticTypes := #[]
  resolved := Array.replicate 37 none
  statics := none }

def pool7 : Array CpInfo := pool [(1, .methodref 2 3), (0, .class_ 4), (0, .nameAndType 5 6), (0, u "java/lang/Object"), (0, u "<init>"), (0, u "()V"), (2, .fieldref 10 11), (0, .class_ 12), (0, .nameAndType 13 14), (0, u "java/lang/String"), (0, u "value"), (0, u "[B"), (0, .fieldref 10 16), (0, .nameAndType 17 18), (0, u "coder"), (0, u "B"), (2, u "hash"), (0, u "I"), (2, u "hashIsZero"), (0, u "Z"), (0, .methodref 10 28), (0, .nameAndType 5 29), (0, u "([CIILjava/lang/Void;)V"), (8, .fieldref 10 39), (0, .nameAndType 40 26), (0, u "COMPACT_STRINGS"), (1, .class_ 44), (1, u "java/lang/StringUTF16"), (0, u "compress"), (1, .methodref 42 48), (0, .nameAndType 49 50), (0, u "coderFromArrayLen"), (0, u "([BI)B"), (56, .class_ 109), (1, u "java/lang/StringLatin1"), (32, u "()Z"), (34, .methodref 42 178), (0, .nameAndType 45 179), (0, u "([CII)[B"), (31, u "([BB)V"), (122, u "()I"), (0, .methodref 10 336), (0, .nameAndType 17 337), (0, u "()B"), (25, u "([BI)C"), (27, u "(II)V"), (35, u "(I)C"), (64, .methodref 10 493), (0, .nameAndType 494 142), (0, u "isLatin1"), (0, .methodref 107 496), (0, .nameAndType 497 363), (0, u "charAt"), (3, u "checkIndex"), (3, .methodref 10 506), (0, .nameAndType 507 334), (0, u "length"), (5, u "checkFromToIndex"), (7, .methodref 10 522), (0, .nameAndType 523 524), (0, u "checkBoundsBeginEnd"), (0, u "(III)V"), (50, .class_ 576), (0, u "java/lang/CharSequence"), (22, u "CASE_INSENSITIVE_ORDER"), (0, u "Ljava/util/Comparator;"), (32, .methodref 10 634), (0, .nameAndType 635 636), (0, u "indexOf"), (0, u "(II)I"), (0, .methodref 107 638), (0, .nameAndType 635 639), (0, u "([BIII)I"), (41, .methodref 10 682), (0, .nameAndType 683 684), (0, u "substring"), (0, u "(II)Ljava/lang/String;"), (0, .methodref 107 686), (0, .nameAndType 687 688), (0, u "newString"), (0, u "([BII)Ljava/lang/String;"), (76, u "(I)I"), (126, u "(I)Ljava/lang/String;"), (117, u "([C)V"), (42, .fieldref 1054 1055), (0, .class_ 1056), (0, .nameAndType 1057 1058), (0, u "jdk/internal/util/Preconditions"), (0, u "SIOOBE_FORMATTER"), (0, u "Ljava/util/function/BiFunction;"), (0, .methodref 1054 1060), (0, .nameAndType 501 1061), (0, u "(IILjava/util/function/BiFunction;)I"), (0, .methodref 1054 1063), (0, .nameAndType 513 1064), (0, u "(IIILjava/util/function/BiFunction;)I"), (36, u "serialPersistentFields"), (0, u "[Ljava/io/ObjectStreamField;"), (0, .class_ 1104), (0, u "java/lang/String$CaseInsensitiveComparator"), (1, .class_ 1107), (0, u "java/io/Serializable"), (0, .class_ 1109), (0, u "java/lang/Comparable"), (0, .class_ 1111), (0, u "java/lang/constant/Constable"), (0, .class_ 1113), (0, u "java/lang/constant/ConstantDesc"), (2, u "serialVersionUID"), (0, u "J"), (3, u "REPL"), (0, u "C"), (2, u "LATIN1"), (1, u "UTF16")] 323

def k7m0 : Method := { name := "<init>", desc := "()V", sig := { parameters := [], returnType := none }, accessFlags := 1, code := none }
def k7c1 : Code := { maxStack := 5, maxLocals := 2, code := jdk_42_method_3_code, exceptionTable := #[], attributes := #[] }
def k7m1 : Method := { name := "<init>", desc := "([C)V", sig := { parameters := [(.array .char)], returnType := none }, accessFlags := 1, code := some k7c1 }
def k7c2 : Code := { maxStack := 2, maxLocals := 1, code := jdk_42_method_54_code, exceptionTable := #[], attributes := #[] }
def k7m2 : Method := { name := "length", desc := "()I", sig := { parameters := [], returnType := some .int }, accessFlags := 1, code := some k7c2 }
def k7c3 : Code := { maxStack := 2, maxLocals := 2, code := jdk_42_method_56_code, exceptionTable := #[], attributes := #[] }
def k7m3 : Method := { name := "charAt", desc := "(I)C", sig := { parameters := [.int], returnType := some .char }, accessFlags := 1, code := some k7c3 }
def k7c4 : Code := { maxStack := 3, maxLocals := 2, code := jdk_42_method_79_code, exceptionTable := #[], attributes := #[] }
def k7m4 : Method := { name := "indexOf", desc := "(I)I", sig := { parameters := [.int], returnType := some .int }, accessFlags := 1, code := some k7c4 }
def k7c5 : Code := { maxStack := 4, maxLocals := 3, code := jdk_42_method_80_code, exceptionTable := #[], attributes := #[] }
def k7m5 : Method := { name := "indexOf", desc := "(II)I", sig := { parameters := [.int, .int], returnType := some .int }, accessFlags := 1, code := some k7c5 }
def k7c6 : Code := { maxStack := 3, maxLocals := 2, code := jdk_42_method_91_code, exceptionTable := #[], attributes := #[] }
def k7m6 : Method := { name := "substring", desc := "(I)Ljava/lang/String;", sig := { parameters := [.int], returnType := some (.object "java/lang/String") }, accessFlags := 1, code := some k7c6 }
def k7c7 : Code := { maxStack := 3, maxLocals := 5, code := jdk_42_method_92_code, exceptionTable := #[], attributes := #[] }
def k7m7 : Method := { name := "substring", desc := "(II)Ljava/lang/String;", sig := { parameters := [.int, .int], returnType := some (.object "java/lang/String") }, accessFlags := 1, code := some k7c7 }
def k7c8 : Code := { maxStack := 4, maxLocals := 6, code := jdk_42_method_149_code, exceptionTable := #[], attributes := #[] }
def k7m8 : Method := { name := "<init>", desc := "([CIILjava/lang/Void;)V", sig := { parameters := [(.array .char), .int, .int, (.object "java/lang/Void")], returnType := none }, accessFlags := 2, code := some k7c8 }
def k7c9 : Code := { maxStack := 2, maxLocals := 3, code := jdk_42_method_151_code, exceptionTable := #[], attributes := #[] }
def k7m9 : Method := { name := "<init>", desc := "([BB)V", sig := { parameters := [(.array .byte), .byte], returnType := none }, accessFlags := 0, code := some k7c9 }
def k7c10 : Code := { maxStack := 1, maxLocals := 1, code := jdk_42_method_152_code, exceptionTable := #[], attributes := #[] }
def k7m10 : Method := { name := "coder", desc := "()B", sig := { parameters := [], returnType := some .byte }, accessFlags := 0, code := some k7c10 }
def k7c11 : Code := { maxStack := 1, maxLocals := 1, code := jdk_42_method_154_code, exceptionTable := #[], attributes := #[] }
def k7m11 : Method := { name := "isLatin1", desc := "()Z", sig := { parameters := [], returnType := some .boolean }, accessFlags := 0, code := some k7c11 }
def k7c12 : Code := { maxStack := 3, maxLocals := 2, code := jdk_42_method_155_code, exceptionTable := #[], attributes := #[] }
def k7m12 : Method := { name := "checkIndex", desc := "(II)V", sig := { parameters := [.int, .int], returnType := none }, accessFlags := 8, code := some k7c12 }
def k7c13 : Code := { maxStack := 4, maxLocals := 3, code := jdk_42_method_158_code, exceptionTable := #[], attributes := #[] }
def k7m13 : Method := { name := "checkBoundsBeginEnd", desc := "(III)V", sig := { parameters := [.int, .int, .int], returnType := none }, accessFlags := 8, code := some k7c13 }
/-- java/lang/String -/
def k7 : Class := { plain "java/lang/String" (some 0) with
  accessFlags := 49
  interfaces := #[2, 3, 4, 5, 6]
  cf := some (fileOf pool7 10 #[.nestMembers #[1103]] #[{ accessFlags := 1, nameIndex := 5, descriptorIndex := 6, attributes := #[] }, { accessFlags := 1, nameIndex := 5, descriptorIndex := 1010, attributes := #[] }, { accessFlags := 1, nameIndex := 507, descriptorIndex := 334, attributes := #[] }, { accessFlags := 1, nameIndex := 497, descriptorIndex := 427, attributes := #[] }, { accessFlags := 1, nameIndex := 635, descriptorIndex := 765, attributes := #[] }, { accessFlags := 1, nameIndex := 635, descriptorIndex := 636, attributes := #[] }, { accessFlags := 1, nameIndex := 683, descriptorIndex := 892, attributes := #[] }, { accessFlags := 1, nameIndex := 683, descriptorIndex := 684, attributes := #[] }, { accessFlags := 2, nameIndex := 5, descriptorIndex := 29, attributes := #[] }, { accessFlags := 0, nameIndex := 5, descriptorIndex := 211, attributes := #[] }, { accessFlags := 0, nameIndex := 17, descriptorIndex := 337, attributes := #[] }, { accessFlags := 0, nameIndex := 494, descriptorIndex := 142, attributes := #[] }, { accessFlags := 8, nameIndex := 501, descriptorIndex := 391, attributes := #[] }, { accessFlags := 8, nameIndex := 523, descriptorIndex := 524, attributes := #[] }] 49 2 #[1106, 1108, 575, 1110, 1112] #[{ accessFlags := 18, nameIndex := 13, descriptorIndex := 14, attributes := #[] }, { accessFlags := 18, nameIndex := 17, descriptorIndex := 18, attributes := #[] }, { accessFlags := 2, nameIndex := 21, descriptorIndex := 22, attributes := #[] }, { accessFlags := 2, nameIndex := 25, descriptorIndex := 26, attributes := #[] }, { accessFlags := 26, nameIndex := 1116, descriptorIndex := 1117, attributes := #[] }, { accessFlags := 24, nameIndex := 40, descriptorIndex := 26, attributes := #[] }, { accessFlags := 26, nameIndex := 1101, descriptorIndex := 1102, attributes := #[] }, { accessFlags := 26, nameIndex := 1121, descriptorIndex := 1122, attributes := #[] }, { accessFlags := 25, nameIndex := 599, descriptorIndex := 600, attributes := #[] }, { accessFlags := 24, nameIndex := 1125, descriptorIndex := 18, attributes := #[] }, { accessFlags := 24, nameIndex := 1127, descriptorIndex := 18, attributes := #[] }])
  fields := #[{ name := "value", type := (.array .byte), accessFlags := 18, slot := 0, constantValue := 0 }, { name := "coder", type := .byte, accessFlags := 18, slot := 1, constantValue := 0 }, { name := "hash", type := .int, accessFlags := 2, slot := 2, constantValue := 0 }, { name := "hashIsZero", type := .boolean, accessFlags := 2, slot := 3, constantValue := 0 }, { name := "serialVersionUID", type := .long, accessFlags := 26, slot := 0, constantValue := 0 }, { name := "COMPACT_STRINGS", type := .boolean, accessFlags := 24, slot := 1, constantValue := 0 }, { name := "serialPersistentFields", type := (.array (.object "java/io/ObjectStreamField")), accessFlags := 26, slot := 2, constantValue := 0 }, { name := "REPL", type := .char, accessFlags := 26, slot := 3, constantValue := 0 }, { name := "CASE_INSENSITIVE_ORDER", type := (.object "java/util/Comparator"), accessFlags := 25, slot := 4, constantValue := 0 }, { name := "LATIN1", type := .byte, accessFlags := 24, slot := 5, constantValue := 0 }, { name := "UTF16", type := .byte, accessFlags := 24, slot := 6, constantValue := 0 }]
  methods := #[k7m0, k7m1, k7m2, k7m3, k7m4, k7m5, k7m6, k7m7, k7m8, k7m9, k7m10, k7m11, k7m12, k7m13]
  instanceTypes := #[(.array .byte), .byte, .int, .boolean]
  staticTypes := #[.long, .boolean, (.array (.object "java/io/ObjectStreamField")), .char, (.object "java/util/Comparator"), .byte, .byte]
  resolved := Array.replicate 1451 none
  statics := some 0 }

def pool8 : Array CpInfo := pool [(6, .class_ 8), (1, u "java/lang/Object"), (0, u "<init>"), (0, u "()V"), (1, .class_ 14), (1, u "java/lang/StringUTF16"), (31, u "$assertionsDisabled"), (0, u "Z"), (13, u "HI_BYTE_SHIFT"), (0, u "I"), (2, u "LO_BYTE_SHIFT"), (49, .methodref 12 116), (0, .nameAndType 117 118), (0, u "compress"), (0, u "([CI[BII)I"), (3, u "([CII)[B"), (138, u "coderFromArrayLen"), (0, u "([BI)B"), (106, .class_ 371), (1, u "java/lang/StringUTF16$LinesSpliterator"), (58, u "MAX_LENGTH"), (196, .class_ 628), (0, u "java/lang/StringUTF16$CodePointsSpliterator"), (0, .class_ 630), (0, u "java/lang/StringUTF16$CharsSpliterator")] 4

def k8m0 : Method := { name := "<init>", desc := "()V", sig := { parameters := [], returnType := none }, accessFlags := 0, code := none }
def k8c1 : Code := { maxStack := 2, maxLocals := 2, code := jdk_52_method_15_code, exceptionTable := #[], attributes := #[] }
def k8m1 : Method := { name := "coderFromArrayLen", desc := "([BI)B", sig := { parameters := [(.array .byte), .int], returnType := some .byte }, accessFlags := 8, code := some k8c1 }
def k8c2 : Code := { maxStack := 5, maxLocals := 6, code := jdk_52_method_16_code, exceptionTable := #[], attributes := #[] }
def k8m2 : Method := { name := "compress", desc := "([CII)[B", sig := { parameters := [(.array .char), .int, .int], returnType := some (.array .byte) }, accessFlags := 9, code := some k8c2 }
def k8c3 : Code := { maxStack := 3, maxLocals := 7, code := jdk_52_method_21_code, exceptionTable := #[], attributes := #[] }
def k8m3 : Method := { name := "compress", desc := "([CI[BII)I", sig := { parameters := [(.array .char), .int, (.array .byte), .int, .int], returnType := some .int }, accessFlags := 9, code := some k8c3 }
/-- java/lang/StringUTF16 -/
def k8 : Class := { plain "java/lang/StringUTF16" (some 0) with
  accessFlags := 48
  interfaces := #[]
  cf := some (fileOf pool8 12 #[.nestMembers #[627, 629, 369]] #[{ accessFlags := 0, nameIndex := 9, descriptorIndex := 10, attributes := #[] }, { accessFlags := 8, nameIndex := 261, descriptorIndex := 262, attributes := #[] }, { accessFlags := 9, nameIndex := 117, descriptorIndex := 122, attributes := #[] }, { accessFlags := 9, nameIndex := 117, descriptorIndex := 118, attributes := #[] }] 48 6 #[] #[{ accessFlags := 26, nameIndex := 61, descriptorIndex := 62, attributes := #[] }, { accessFlags := 26, nameIndex := 65, descriptorIndex := 62, attributes := #[] }, { accessFlags := 24, nameIndex := 430, descriptorIndex := 62, attributes := #[] }, { accessFlags := 4120, nameIndex := 46, descriptorIndex := 47, attributes := #[] }])
  fields := #[{ name := "HI_BYTE_SHIFT", type := .int, accessFlags := 26, slot := 0, constantValue := 0 }, { name := "LO_BYTE_SHIFT", type := .int, accessFlags := 26, slot := 1, constantValue := 0 }, { name := "MAX_LENGTH", type := .int, accessFlags := 24, slot := 2, constantValue := 0 }, { name := "$assertionsDisabled", type := .boolean, accessFlags := 4120, slot := 3, constantValue := 0 }]
  methods := #[k8m0, k8m1, k8m2, k8m3]
  instanceTypes := #[]
  staticTypes := #[.int, .int, .int, .boolean]
  resolved := Array.replicate 635 none
  statics := none }

def pool9 : Array CpInfo := pool [(2, .class_ 4), (1, u "java/lang/Object"), (0, u "<init>"), (0, u "()V"), (0, .class_ 8), (0, u "com/example/dutiful_pruner/dutifulpruner/collection/LineFileCollection"), (0, .methodref 10 11), (0, .class_ 12), (0, .nameAndType 13 14), (0, u "java/lang/String"), (0, u "indexOf"), (0, u "(I)I"), (0, .methodref 10 16), (0, .nameAndType 13 17), (0, u "(II)I"), (7, .class_ 26), (0, u "com/example/dutiful_pruner/dutifulpruner/collection/CollectionDocument"), (0, .methodref 28 29), (0, .class_ 30), (0, .nameAndType 31 32), (0, u "java/lang/Long"), (0, u "toString"), (0, u "(J)Ljava/lang/String;"), (0, .methodref 10 34), (0, .nameAndType 35 36), (0, u "substring"), (0, u "(I)Ljava/lang/String;"), (0, .methodref 25 38), (0, .nameAndType 5 39), (0, u "(Ljava/lang/String;Ljava/lang/String;)V"), (0, u "SEPARATOR"), (0, u "C"), (4, u "parseLine"), (0, u "(Ljava/lang/String;J)Lcom/example/dutiful_pruner/dutifulpruner/collection/CollectionDocument;")] 4

def k9m0 : Method := { name := "<init>", desc := "()V", sig := { parameters := [], returnType := none }, accessFlags := 2, code := none }
def k9c1 : Code := { maxStack := 6, maxLocals := 5, code := prog_4_method_2_code, exceptionTable := #[], attributes := #[] }
def k9m1 : Method := { name := "parseLine", desc := "(Ljava/lang/String;J)Lcom/example/dutiful_pruner/dutifulpruner/collection/CollectionDocument;", sig := { parameters := [(.object "java/lang/String"), .long], returnType := some (.object "com/example/dutiful_pruner/dutifulpruner/collection/CollectionDocument") }, accessFlags := 9, code := some k9c1 }
/-- com/example/dutiful_pruner/dutifulpruner/collection/LineFileCollection -/
def k9 : Class := { plain "com/example/dutiful_pruner/dutifulpruner/collection/LineFileCollection" (some 0) with
  accessFlags := 49
  interfaces := #[]
  cf := some (fileOf pool9 7 #[] #[{ accessFlags := 2, nameIndex := 5, descriptorIndex := 6, attributes := #[] }, { accessFlags := 9, nameIndex := 46, descriptorIndex := 47, attributes := #[] }] 49 2 #[] #[{ accessFlags := 26, nameIndex := 40, descriptorIndex := 41, attributes := #[] }])
  fields := #[{ name := "SEPARATOR", type := .char, accessFlags := 26, slot := 0, constantValue := 0 }]
  methods := #[k9m0, k9m1]
  instanceTypes := #[]
  staticTypes := #[.char]
  resolved := Array.replicate 52 none
  statics := none }

def pool10 : Array CpInfo := pool [(1, .class_ 2), (0, u "java/lang/String"), (1, .class_ 6), (1, u "java/lang/Object"), (0, u "<init>"), (0, u "()V"), (0, .methodref 1 10), (0, .nameAndType 11 12), (0, u "checkIndex"), (0, u "(II)V"), (1, .class_ 16), (1, u "java/lang/StringLatin1"), (21, .methodref 39 40), (0, .class_ 41), (0, .nameAndType 42 43), (0, u "java/lang/Math"), (0, u "min"), (0, u "(II)I"), (9, u "([BI)C"), (34, .methodref 14 89), (0, .nameAndType 90 91), (0, u "canEncode"), (0, u "(I)Z"), (0, .methodref 39 93), (0, .nameAndType 94 43), (0, u "max"), (0, .methodref 14 96), (0, .nameAndType 97 98), (0, u "indexOfChar"), (0, u "([BIII)I"), (2, u "indexOf"), (10, .methodref 1 113), (0, .nameAndType 7 114), (0, u "([BB)V"), (6, u "$assertionsDisabled"), (0, u "Z"), (8, .class_ 133), (1, u "java/util/Arrays"), (17, .string 152), (0, u ""), (43, u "newString"), (0, u "([BII)Ljava/lang/String;"), (23, .class_ 223), (1, u "java/lang/StringLatin1$LinesSpliterator"), (8, .methodref 131 233), (0, .nameAndType 234 235), (0, u "copyOfRange"), (0, u "([BII)[B"), (16, u "charAt"), (137, .class_ 391), (0, u "java/lang/StringLatin1$CharsSpliterator")] 3

def k10m0 : Method := { name := "<init>", desc := "()V", sig := { parameters := [], returnType := none }, accessFlags := 0, code := none }
def k10c1 : Code := { maxStack := 2, maxLocals := 2, code := jdk_43_method_2_code, exceptionTable := #[], attributes := #[] }
def k10m1 : Method := { name := "charAt", desc := "([BI)C", sig := { parameters := [(.array .byte), .int], returnType := some .char }, accessFlags := 9, code := some k10c1 }
def k10c2 : Code := { maxStack := 2, maxLocals := 1, code := jdk_43_method_4_code, exceptionTable := #[], attributes := #[] }
def k10m2 : Method := { name := "canEncode", desc := "(I)Z", sig := { parameters := [.int], returnType := some .boolean }, accessFlags := 9, code := some k10c2 }
def k10c3 : Code := { maxStack := 4, maxLocals := 4, code := jdk_43_method_22_code, exceptionTable := #[], attributes := #[] }
def k10m3 : Method := { name := "indexOf", desc := "([BIII)I", sig := { parameters := [(.array .byte), .int, .int, .int], returnType := some .int }, accessFlags := 9, code := some k10c3 }
def k10c4 : Code := { maxStack := 2, maxLocals := 6, code := jdk_43_method_23_code, exceptionTable := #[], attributes := #[] }
def k10m4 : Method := { name := "indexOfChar", desc := "([BIII)I", sig := { parameters := [(.array .byte), .int, .int, .int], returnType := some .int }, accessFlags := 10, code := some k10c4 }
def k10c5 : Code := { maxStack := 6, maxLocals := 3, code := jdk_43_method_47_code, exceptionTable := #[], attributes := #[] }
def k10m5 : Method := { name := "newString", desc := "([BII)Ljava/lang/String;", sig := { parameters := [(.array .byte), .int, .int], returnType := some (.object "java/lang/String") }, accessFlags := 9, code := some k10c5 }
/-- java/lang/StringLatin1 -/
def k10 : Class := { plain "java/lang/StringLatin1" (some 0) with
  accessFlags := 48
  interfaces := #[]
  cf := some (fileOf pool10 14 #[.nestMembers #[390, 221]] #[{ accessFlags := 0, nameIndex := 7, descriptorIndex := 8, attributes := #[] }, { accessFlags := 9, nameIndex := 252, descriptorIndex := 53, attributes := #[] }, { accessFlags := 9, nameIndex := 90, descriptorIndex := 91, attributes := #[] }, { accessFlags := 9, nameIndex := 101, descriptorIndex := 98, attributes := #[] }, { accessFlags := 10, nameIndex := 97, descriptorIndex := 98, attributes := #[] }, { accessFlags := 9, nameIndex := 196, descriptorIndex := 197, attributes := #[] }] 48 4 #[] #[{ accessFlags := 4120, nameIndex := 121, descriptorIndex := 122, attributes := #[] }])
  fields := #[{ name := "$assertionsDisabled", type := .boolean, accessFlags := 4120, slot := 0, constantValue := 0 }]
  methods := #[k10m0, k10m1, k10m2, k10m3, k10m4, k10m5]
  instanceTypes := #[]
  staticTypes := #[.boolean]
  resolved := Array.replicate 395 none
  statics := none }

def pool11 : Array CpInfo := pool [(1, .class_ 2), (0, u "java/lang/Math"), (1, .class_ 6), (1, u "java/lang/Object"), (0, u "<init>"), (0, u "()V"), (89, .class_ 100), (1, u "java/lang/Math$RandomNumberGeneratorHolder"), (23, u "abs"), (0, u "(J)J"), (46, u "negativeZeroFloatBits"), (0, u "J"), (2, u "negativeZeroDoubleBits"), (21, u "max"), (2, u "min"), (43, u "$assertionsDisabled"), (0, u "Z"), (88, u "(II)I"), (2, u "twoToTheDoubleScaleDown"), (0, u "D"), (4, u "twoToTheDoubleScaleUp"), (9, u "E"), (3, u "PI"), (2, u "TAU"), (2, u "DEGREES_TO_RADIANS"), (0, u "RADIANS_TO_DEGREES")] 94

def k11m0 : Method := { name := "<init>", desc := "()V", sig := { parameters := [], returnType := none }, accessFlags := 2, code := none }
def k11c1 : Code := { maxStack := 4, maxLocals := 2, code := jdk_29_method_61_code, exceptionTable := #[], attributes := #[] }
def k11m1 : Method := { name := "abs", desc := "(J)J", sig := { parameters := [.long], returnType := some .long }, accessFlags := 9, code := some k11c1 }
def k11c2 : Code := { maxStack := 2, maxLocals := 2, code := jdk_29_method_65_code, exceptionTable := #[], attributes := #[] }
def k11m2 : Method := { name := "max", desc := "(II)I", sig := { parameters := [.int, .int], returnType := some .int }, accessFlags := 9, code := some k11c2 }
def k11c3 : Code := { maxStack := 2, maxLocals := 2, code := jdk_29_method_69_code, exceptionTable := #[], attributes := #[] }
def k11m3 : Method := { name := "min", desc := "(II)I", sig := { parameters := [.int, .int], returnType := some .int }, accessFlags := 9, code := some k11c3 }
/-- java/lang/Math -/
def k11 : Class := { plain "java/lang/Math" (some 0) with
  accessFlags := 49
  interfaces := #[]
  cf := some (fileOf pool11 1 #[.nestMembers #[98]] #[{ accessFlags := 2, nameIndex := 7, descriptorIndex := 8, attributes := #[] }, { accessFlags := 9, nameIndex := 124, descriptorIndex := 125, attributes := #[] }, { accessFlags := 9, nameIndex := 198, descriptorIndex := 335, attributes := #[] }, { accessFlags := 9, nameIndex := 201, descriptorIndex := 335, attributes := #[] }] 49 4 #[] #[{ accessFlags := 25, nameIndex := 354, descriptorIndex := 339, attributes := #[] }, { accessFlags := 25, nameIndex := 358, descriptorIndex := 339, attributes := #[] }, { accessFlags := 25, nameIndex := 361, descriptorIndex := 339, attributes := #[] }, { accessFlags := 26, nameIndex := 364, descriptorIndex := 339, attributes := #[] }, { accessFlags := 26, nameIndex := 365, descriptorIndex := 339, attributes := #[] }, { accessFlags := 26, nameIndex := 172, descriptorIndex := 173, attributes := #[] }, { accessFlags := 26, nameIndex := 176, descriptorIndex := 173, attributes := #[] }, { accessFlags := 8, nameIndex := 344, descriptorIndex := 339, attributes := #[] }, { accessFlags := 8, nameIndex := 338, descriptorIndex := 339, attributes := #[] }, { accessFlags := 4120, nameIndex := 245, descriptorIndex := 246, attributes := #[] }])
  fields := #[{ name := "E", type := .double, accessFlags := 25, slot := 0, constantValue := 0 }, { name := "PI", type := .double, accessFlags := 25, slot := 1, constantValue := 0 }, { name := "TAU", type := .double, accessFlags := 25, slot := 2, constantValue := 0 }, { name := "DEGREES_TO_RADIANS", type := .double, accessFlags := 26, slot := 3, constantValue := 0 }, { name := "RADIANS_TO_DEGREES", type := .double, accessFlags := 26, slot := 4, constantValue := 0 }, { name := "negativeZeroFloatBits", type := .long, accessFlags := 26, slot := 5, constantValue := 0 }, { name := "negativeZeroDoubleBits", type := .long, accessFlags := 26, slot := 6, constantValue := 0 }, { name := "twoToTheDoubleScaleUp", type := .double, accessFlags := 8, slot := 7, constantValue := 0 }, { name := "twoToTheDoubleScaleDown", type := .double, accessFlags := 8, slot := 8, constantValue := 0 }, { name := "$assertionsDisabled", type := .boolean, accessFlags := 4120, slot := 9, constantValue := 0 }]
  methods := #[k11m0, k11m1, k11m2, k11m3]
  instanceTypes := #[]
  staticTypes := #[.double, .double, .double, .double, .double, .long, .long, .double, .double, .boolean]
  resolved := Array.replicate 460 none
  statics := none }

def pool12 : Array CpInfo := pool [(1, .methodref 2 3), (0, .class_ 4), (0, .nameAndType 5 6), (0, u "java/lang/Object"), (0, u "<init>"), (0, u "()V"), (0, .class_ 8), (0, u "java/lang/Record")] 13

def k12c0 : Code := { maxStack := 1, maxLocals := 1, code := jdk_30_method_1_code, exceptionTable := #[], attributes := #[] }
def k12m0 : Method := { name := "<init>", desc := "()V", sig := { parameters := [], returnType := none }, accessFlags := 4, code := some k12c0 }
/-- java/lang/Record -/
def k12 : Class := { plain "java/lang/Record" (some 0) with
  accessFlags := 1057
  interfaces := #[]
  cf := some (fileOf pool12 7 #[] #[{ accessFlags := 4, nameIndex := 5, descriptorIndex := 6, attributes := #[] }] 1057 2 #[] #[])
  fields := #[]
  methods := #[k12m0]
  instanceTypes := #[]
  staticTypes := #[]
  resolved := Array.replicate 22 none
  statics := none }

def pool13 : Array CpInfo := pool [(1, .methodref 2 3), (0, .class_ 4), (0, .nameAndType 5 6), (0, u "java/lang/Record"), (0, u "<init>"), (0, u "()V"), (0, .fieldref 8 9), (0, .class_ 10), (0, .nameAndType 11 12), (0, u "com/example/dutiful_pruner/dutifulpruner/collection/CollectionDocument"), (0, u "id"), (0, u "Ljava/lang/String;"), (0, .fieldref 8 14), (0, .nameAndType 15 12), (0, u "contents"), (12, u "(Ljava/lang/String;Ljava/lang/String;)V"), (3, u "()Ljava/lang/String;")] 23

def k13c0 : Code := { maxStack := 2, maxLocals := 3, code := prog_3_method_1_code, exceptionTable := #[], attributes := #[] }
def k13m0 : Method := { name := "<init>", desc := "(Ljava/lang/String;Ljava/lang/String;)V", sig := { parameters := [(.object "java/lang/String"), (.object "java/lang/String")], returnType := none }, accessFlags := 1, code := some k13c0 }
def k13c1 : Code := { maxStack := 1, maxLocals := 1, code := prog_3_method_5_code, exceptionTable := #[], attributes := #[] }
def k13m1 : Method := { name := "id", desc := "()Ljava/lang/String;", sig := { parameters := [], returnType := some (.object "java/lang/String") }, accessFlags := 1, code := some k13c1 }
def k13c2 : Code := { maxStack := 1, maxLocals := 1, code := prog_3_method_6_code, exceptionTable := #[], attributes := #[] }
def k13m2 : Method := { name := "contents", desc := "()Ljava/lang/String;", sig := { parameters := [], returnType := some (.object "java/lang/String") }, accessFlags := 1, code := some k13c2 }
/-- com/example/dutiful_pruner/dutifulpruner/collection/CollectionDocument -/
def k13 : Class := { plain "com/example/dutiful_pruner/dutifulpruner/collection/CollectionDocument" (some 12) with
  accessFlags := 49
  interfaces := #[]
  cf := some (fileOf pool13 8 #[] #[{ accessFlags := 1, nameIndex := 5, descriptorIndex := 28, attributes := #[] }, { accessFlags := 1, nameIndex := 11, descriptorIndex := 32, attributes := #[] }, { accessFlags := 1, nameIndex := 15, descriptorIndex := 32, attributes := #[] }] 49 2 #[] #[{ accessFlags := 18, nameIndex := 11, descriptorIndex := 12, attributes := #[] }, { accessFlags := 18, nameIndex := 15, descriptorIndex := 12, attributes := #[] }])
  fields := #[{ name := "id", type := (.object "java/lang/String"), accessFlags := 18, slot := 0, constantValue := 0 }, { name := "contents", type := (.object "java/lang/String"), accessFlags := 18, slot := 1, constantValue := 0 }]
  methods := #[k13m0, k13m1, k13m2]
  instanceTypes := #[(.object "java/lang/String"), (.object "java/lang/String")]
  staticTypes := #[]
  resolved := Array.replicate 56 none
  statics := none }

def pool14 : Array CpInfo := pool [(2, .class_ 4), (1, u "java/lang/Object"), (0, u "<init>"), (0, u "()V"), (1, .class_ 10), (1, u "java/lang/Number"), (2, .class_ 14), (0, u "java/io/Serializable"), (0, u "serialVersionUID"), (0, u "J")] 20

def k14m0 : Method := { name := "<init>", desc := "()V", sig := { parameters := [], returnType := none }, accessFlags := 1, code := none }
/-- java/lang/Number -/
def k14 : Class := { plain "java/lang/Number" (some 0) with
  accessFlags := 1057
  interfaces := #[2]
  cf := some (fileOf pool14 8 #[] #[{ accessFlags := 1, nameIndex := 5, descriptorIndex := 6, attributes := #[] }] 1057 2 #[13] #[{ accessFlags := 26, nameIndex := 15, descriptorIndex := 16, attributes := #[] }])
  fields := #[{ name := "serialVersionUID", type := .long, accessFlags := 26, slot := 0, constantValue := 0 }]
  methods := #[k14m0]
  instanceTypes := #[]
  staticTypes := #[.long]
  resolved := Array.replicate 37 none
  statics := none }

def pool15 : Array CpInfo := pool [(1, .class_ 2), (0, u "java/lang/Long"), (2, .class_ 6), (0, u "java/lang/String"), (4, u "toString"), (0, u "(J)Ljava/lang/String;"), (0, .fieldref 5 14), (0, .nameAndType 15 16), (0, u "COMPACT_STRINGS"), (0, u "Z"), (1, .class_ 20), (1, u "java/lang/Integer"), (32, .long 10), (5, u "<init>"), (41, u "(J)I"), (10, .methodref 5 113), (0, .nameAndType 59 114), (0, u "([BB)V"), (3, .methodref 1 119), (0, .nameAndType 120 101), (0, u "stringSize"), (0, .methodref 1 122), (0, .nameAndType 123 124), (0, u "getChars"), (0, u "(JI[B)I"), (4, .long 18446744071562067968), (1, .long 100), (1, .fieldref 18 134), (0, .nameAndType 135 136), (0, u "DigitOnes"), (0, u "[B"), (0, .fieldref 18 138), (0, .nameAndType 139 136), (0, u "DigitTens"), (0, .long 18446744073709551606), (94, .class_ 237), (1, u "java/lang/Long$LongCache"), (33, .class_ 272), (0, u "java/lang/Number"), (2, u "value"), (0, u "J"), (84, u "TYPE"), (0, u "Ljava/lang/Class;"), (0, .class_ 364), (0, u "java/lang/Comparable"), (0, .class_ 366), (0, u "java/lang/constant/Constable"), (0, .class_ 368), (0, u "java/lang/constant/ConstantDesc"), (0, u "MIN_VALUE"), (1, u "MAX_VALUE"), (4, u "SIZE"), (0, u "I"), (1, u "BYTES"), (1, u "serialVersionUID")] 142

def k15c0 : Code := { maxStack := 4, maxLocals := 4, code := jdk_35_method_12_code, exceptionTable := #[], attributes := #[] }
def k15m0 : Method := { name := "toString", desc := "(J)Ljava/lang/String;", sig := { parameters := [.long], returnType := some (.object "java/lang/String") }, accessFlags := 9, code := some k15c0 }
def k15c1 : Code := { maxStack := 4, maxLocals := 11, code := jdk_35_method_14_code, exceptionTable := #[], attributes := #[] }
def k15m1 : Method := { name := "getChars", desc := "(JI[B)I", sig := { parameters := [.long, .int, (.array .byte)], returnType := some .int }, accessFlags := 8, code := some k15c1 }
def k15c2 : Code := { maxStack := 4, maxLocals := 6, code := jdk_35_method_15_code, exceptionTable := #[], attributes := #[] }
def k15m2 : Method := { name := "stringSize", desc := "(J)I", sig := { parameters := [.long], returnType := some .int }, accessFlags := 8, code := some k15c2 }
/-- java/lang/Long -/
def k15 : Class := { plain "java/lang/Long" (some 14) with
  accessFlags := 49
  interfaces := #[3, 5, 6]
  cf := some (fileOf pool15 1 #[.nestMembers #[235]] #[{ accessFlags := 9, nameIndex := 11, descriptorIndex := 12, attributes := #[] }, { accessFlags := 8, nameIndex := 123, descriptorIndex := 124, attributes := #[] }, { accessFlags := 8, nameIndex := 120, descriptorIndex := 101, attributes := #[] }] 49 271 #[363, 365, 367] #[{ accessFlags := 25, nameIndex := 369, descriptorIndex := 276, attributes := #[] }, { accessFlags := 25, nameIndex := 371, descriptorIndex := 276, attributes := #[] }, { accessFlags := 25, nameIndex := 361, descriptorIndex := 362, attributes := #[] }, { accessFlags := 18, nameIndex := 275, descriptorIndex := 276, attributes := #[] }, { accessFlags := 25, nameIndex := 376, descriptorIndex := 377, attributes := #[] }, { accessFlags := 25, nameIndex := 379, descriptorIndex := 377, attributes := #[] }, { accessFlags := 26, nameIndex := 381, descriptorIndex := 276, attributes := #[] }])
  fields := #[{ name := "MIN_VALUE", type := .long, accessFlags := 25, slot := 0, constantValue := 0 }, { name := "MAX_VALUE", type := .long, accessFlags := 25, slot := 1, constantValue := 0 }, { name := "TYPE", type := (.object "java/lang/Class"), accessFlags := 25, slot := 2, constantValue := 0 }, { name := "value", type := .long, accessFlags := 18, slot := 0, constantValue := 0 }, { name := "SIZE", type := .int, accessFlags := 25, slot := 3, constantValue := 0 }, { name := "BYTES", type := .int, accessFlags := 25, slot := 4, constantValue := 0 }, { name := "serialVersionUID", type := .long, accessFlags := 26, slot := 5, constantValue := 0 }]
  methods := #[k15m0, k15m1, k15m2]
  instanceTypes := #[.long]
  staticTypes := #[.long, .long, (.object "java/lang/Class"), .int, .int, .long]
  resolved := Array.replicate 524 none
  statics := none }

def pool16 : Array CpInfo := pool [(1, .class_ 2), (0, u "java/lang/Integer"), (16, u "digits"), (0, u "[C"), (64, u "DigitOnes"), (0, u "[B"), (2, u "DigitTens"), (99, .class_ 190), (0, u "java/lang/Integer$IntegerCache"), (3, u "I"), (8, .class_ 204), (0, u "java/lang/Number"), (2, u "value"), (94, u "TYPE"), (0, u "Ljava/lang/Class;"), (0, .class_ 305), (0, u "java/lang/Comparable"), (0, .class_ 307), (0, u "java/lang/constant/Constable"), (0, .class_ 309), (0, u "java/lang/constant/ConstantDesc"), (0, u "MIN_VALUE"), (1, u "MAX_VALUE"), (3, u "SIZE"), (1, u "BYTES"), (1, u "serialVersionUID"), (0, u "J")] 131

/-- java/lang/Integer -/
def k16 : Class := { plain "java/lang/Integer" (some 14) with
  accessFlags := 49
  interfaces := #[3, 5, 6]
  cf := some (fileOf pool16 1 #[.nestMembers #[189]] #[] 49 203 #[304, 306, 308] #[{ accessFlags := 25, nameIndex := 310, descriptorIndex := 194, attributes := #[] }, { accessFlags := 25, nameIndex := 312, descriptorIndex := 194, attributes := #[] }, { accessFlags := 25, nameIndex := 302, descriptorIndex := 303, attributes := #[] }, { accessFlags := 24, nameIndex := 19, descriptorIndex := 20, attributes := #[] }, { accessFlags := 24, nameIndex := 89, descriptorIndex := 86, attributes := #[] }, { accessFlags := 24, nameIndex := 85, descriptorIndex := 86, attributes := #[] }, { accessFlags := 18, nameIndex := 207, descriptorIndex := 194, attributes := #[] }, { accessFlags := 25, nameIndex := 316, descriptorIndex := 194, attributes := #[] }, { accessFlags := 25, nameIndex := 318, descriptorIndex := 194, attributes := #[] }, { accessFlags := 26, nameIndex := 320, descriptorIndex := 321, attributes := #[] }])
  fields := #[{ name := "MIN_VALUE", type := .int, accessFlags := 25, slot := 0, constantValue := 0 }, { name := "MAX_VALUE", type := .int, accessFlags := 25, slot := 1, constantValue := 0 }, { name := "TYPE", type := (.object "java/lang/Class"), accessFlags := 25, slot := 2, constantValue := 0 }, { name := "digits", type := (.array .char), accessFlags := 24, slot := 3, constantValue := 0 }, { name := "DigitTens", type := (.array .byte), accessFlags := 24, slot := 4, constantValue := 0 }, { name := "DigitOnes", type := (.array .byte), accessFlags := 24, slot := 5, constantValue := 0 }, { name := "value", type := .int, accessFlags := 18, slot := 0, constantValue := 0 }, { name := "SIZE", type := .int, accessFlags := 25, slot := 6, constantValue := 0 }, { name := "BYTES", type := .int, accessFlags := 25, slot := 7, constantValue := 0 }, { name := "serialVersionUID", type := .long, accessFlags := 26, slot := 8, constantValue := 0 }]
  methods := #[]
  instanceTypes := #[.int]
  staticTypes := #[.int, .int, (.object "java/lang/Class"), (.array .char), (.array .byte), (.array .byte), .int, .int, .long]
  resolved := Array.replicate 453 none
  statics := some 1 }

def pool17 : Array CpInfo := pool [(2, .class_ 4), (1, u "java/lang/Object"), (0, u "<init>"), (0, u "()V"), (17, .class_ 26), (1, u "jdk/internal/util/Preconditions"), (6, u "checkIndex"), (13, u "checkFromToIndex"), (7, .class_ 56), (0, u "jdk/internal/util/Preconditions$4"), (57, .class_ 115), (0, u "jdk/internal/util/Preconditions$1"), (7, u "SIOOBE_FORMATTER"), (0, u "Ljava/util/function/BiFunction;"), (0, .class_ 126), (0, u "jdk/internal/util/Preconditions$2"), (3, u "AIOOBE_FORMATTER"), (0, .class_ 132), (0, u "jdk/internal/util/Preconditions$3"), (3, u "IOOBE_FORMATTER"), (41, u "(IILjava/util/function/BiFunction;)I"), (4, u "(IIILjava/util/function/BiFunction;)I")] 10

def k17m0 : Method := { name := "<init>", desc := "()V", sig := { parameters := [], returnType := none }, accessFlags := 1, code := none }
def k17c1 : Code := { maxStack := 3, maxLocals := 3, code := jdk_41_method_11_code, exceptionTable := #[], attributes := #[] }
def k17m1 : Method := { name := "checkIndex", desc := "(IILjava/util/function/BiFunction;)I", sig := { parameters := [.int, .int, (.object "java/util/function/BiFunction")], returnType := some .int }, accessFlags := 9, code := some k17c1 }
def k17c2 : Code := { maxStack := 4, maxLocals := 4, code := jdk_41_method_12_code, exceptionTable := #[], attributes := #[] }
def k17m2 : Method := { name := "checkFromToIndex", desc := "(IIILjava/util/function/BiFunction;)I", sig := { parameters := [.int, .int, .int, (.object "java/util/function/BiFunction")], returnType := some .int }, accessFlags := 9, code := some k17c2 }
/-- jdk/internal/util/Preconditions -/
def k17 : Class := { plain "jdk/internal/util/Preconditions" (some 0) with
  accessFlags := 33
  interfaces := #[]
  cf := some (fileOf pool17 24 #[.nestMembers #[55, 131, 125, 114]] #[{ accessFlags := 1, nameIndex := 5, descriptorIndex := 6, attributes := #[] }, { accessFlags := 9, nameIndex := 33, descriptorIndex := 178, attributes := #[] }, { accessFlags := 9, nameIndex := 47, descriptorIndex := 183, attributes := #[] }] 33 2 #[] #[{ accessFlags := 25, nameIndex := 123, descriptorIndex := 124, attributes := #[] }, { accessFlags := 25, nameIndex := 130, descriptorIndex := 124, attributes := #[] }, { accessFlags := 25, nameIndex := 136, descriptorIndex := 124, attributes := #[] }])
  fields := #[{ name := "SIOOBE_FORMATTER", type := (.object "java/util/function/BiFunction"), accessFlags := 25, slot := 0, constantValue := 0 }, { name := "AIOOBE_FORMATTER", type := (.object "java/util/function/BiFunction"), accessFlags := 25, slot := 1, constantValue := 0 }, { name := "IOOBE_FORMATTER", type := (.object "java/util/function/BiFunction"), accessFlags := 25, slot := 2, constantValue := 0 }]
  methods := #[k17m0, k17m1, k17m2]
  instanceTypes := #[]
  staticTypes := #[(.object "java/util/function/BiFunction"), (.object "java/util/function/BiFunction"), (.object "java/util/function/BiFunction")]
  resolved := Array.replicate 194 none
  statics := some 2 }

def pool18 : Array CpInfo := pool [(2, .class_ 4), (1, u "java/lang/Object"), (0, u "<init>"), (0, u "()V"), (7, .class_ 16), (1, u "java/util/Arrays"), (57, .class_ 76), (1, u "java/util/Arrays$NaturalOrder"), (36, .class_ 115), (1, u "java/util/Arrays$LegacyMergeSort"), (1, u "Z"), (21, u "copyOfRange"), (10, .methodref 151 152), (0, .class_ 153), (0, .nameAndType 154 155), (0, u "java/lang/System"), (0, u "arraycopy"), (0, u "(Ljava/lang/Object;ILjava/lang/Object;II)V"), (148, .methodref 305 306), (0, .class_ 307), (0, .nameAndType 308 309), (0, u "java/lang/Math"), (0, u "min"), (0, u "(II)I"), (29, .methodref 14 340), (0, .nameAndType 341 342), (0, u "copyOfRangeByte"), (0, u "([BII)[B"), (0, .methodref 14 344), (0, .nameAndType 345 346), (0, u "checkLength"), (0, u "(II)V"), (28, .class_ 376), (0, u "java/util/Arrays$ArrayList"), (68, u "$assertionsDisabled"), (269, u "MIN_ARRAY_SORT_GRAN"), (0, u "I"), (2, u "INSERTIONSORT_THRESHOLD"), (255, .class_ 976), (0, u "java/util/Arrays$ArrayItr")] 52

def k18m0 : Method := { name := "<init>", desc := "()V", sig := { parameters := [], returnType := none }, accessFlags := 2, code := none }
def k18c1 : Code := { maxStack := 4, maxLocals := 2, code := jdk_65_method_131_code, exceptionTable := #[], attributes := #[] }
def k18m1 : Method := { name := "checkLength", desc := "(II)V", sig := { parameters := [.int, .int], returnType := none }, accessFlags := 10, code := some k18c1 }
def k18c2 : Code := { maxStack := 3, maxLocals := 3, code := jdk_65_method_132_code, exceptionTable := #[], attributes := #[] }
def k18m2 : Method := { name := "copyOfRange", desc := "([BII)[B", sig := { parameters := [(.array .byte), .int, .int], returnType := some (.array .byte) }, accessFlags := 9, code := some k18c2 }
def k18c3 : Code := { maxStack := 6, maxLocals := 5, code := jdk_65_method_133_code, exceptionTable := #[], attributes := #[] }
def k18m3 : Method := { name := "copyOfRangeByte", desc := "([BII)[B", sig := { parameters := [(.array .byte), .int, .int], returnType := some (.array .byte) }, accessFlags := 10, code := some k18c3 }
/-- java/util/Arrays -/
def k18 : Class := { plain "java/util/Arrays" (some 0) with
  accessFlags := 49
  interfaces := #[]
  cf := some (fileOf pool18 14 #[.nestMembers #[975, 375, 113, 74]] #[{ accessFlags := 2, nameIndex := 5, descriptorIndex := 6, attributes := #[] }, { accessFlags := 10, nameIndex := 345, descriptorIndex := 346, attributes := #[] }, { accessFlags := 9, nameIndex := 139, descriptorIndex := 342, attributes := #[] }, { accessFlags := 10, nameIndex := 341, descriptorIndex := 342, attributes := #[] }] 49 2 #[] #[{ accessFlags := 26, nameIndex := 715, descriptorIndex := 716, attributes := #[] }, { accessFlags := 26, nameIndex := 719, descriptorIndex := 716, attributes := #[] }, { accessFlags := 4120, nameIndex := 445, descriptorIndex := 117, attributes := #[] }])
  fields := #[{ name := "MIN_ARRAY_SORT_GRAN", type := .int, accessFlags := 26, slot := 0, constantValue := 0 }, { name := "INSERTIONSORT_THRESHOLD", type := .int, accessFlags := 26, slot := 1, constantValue := 0 }, { name := "$assertionsDisabled", type := .boolean, accessFlags := 4120, slot := 2, constantValue := 0 }]
  methods := #[k18m0, k18m1, k18m2, k18m3]
  instanceTypes := #[]
  staticTypes := #[.int, .int, .boolean]
  resolved := Array.replicate 1029 none
  statics := none }

def pool19 : Array CpInfo := pool [(2, .class_ 4), (1, u "java/lang/Object"), (0, u "<init>"), (0, u "()V"), (1, .class_ 10), (1, u "java/lang/System"), (0, u "allowSecurityManager"), (0, u "I"), (16, u "cons"), (0, u "Ljava/io/Console;"), (77, .class_ 110), (1, u "java/lang/System$CallersHolder"), (43, u "initialErrStream"), (0, u "Ljava/io/PrintStream;"), (19, u "security"), (0, u "Ljava/lang/SecurityManager;"), (31, .class_ 209), (0, u "java/lang/System$1"), (7, u "props"), (0, u "Ljava/util/Properties;"), (2, u "lineSeparator"), (0, u "Ljava/lang/String;"), (96, .class_ 321), (1, u "java/lang/System$LoggerFinder"), (5, .class_ 328), (0, u "java/lang/System$Logger"), (67, u "err"), (2, u "out"), (91, u "notSupportedJnuEncoding"), (15, u "in"), (17, u "initialIn"), (0, u "Ljava/io/InputStream;"), (35, u "bootLayer"), (0, u "Ljava/lang/ModuleLayer;"), (99, .class_ 664), (0, u "java/lang/System$2"), (9, u "NEVER"), (2, u "MAYBE"), (49, u "arraycopy"), (0, u "(Ljava/lang/Object;ILjava/lang/Object;II)V"), (72, .class_ 802), (0, u "java/lang/System$Logger$Level")] 31

def k19m0 : Method := { name := "<init>", desc := "()V", sig := { parameters := [], returnType := none }, accessFlags := 2, code := none }
def k19m1 : Method := { name := "arraycopy", desc := "(Ljava/lang/Object;ILjava/lang/Object;II)V", sig := { parameters := [(.object "java/lang/Object"), .int, (.object "java/lang/Object"), .int, .int], returnType := none }, accessFlags := 265, code := none }
/-- java/lang/System -/
def k19 : Class := { plain "java/lang/System" (some 0) with
  accessFlags := 49
  interfaces := #[]
  cf := some (fileOf pool19 8 #[.nestMembers #[319, 327, 801, 108, 663, 208]] #[{ accessFlags := 2, nameIndex := 5, descriptorIndex := 6, attributes := #[] }, { accessFlags := 265, nameIndex := 727, descriptorIndex := 728, attributes := #[] }] 49 2 #[] #[{ accessFlags := 25, nameIndex := 507, descriptorIndex := 526, attributes := #[] }, { accessFlags := 25, nameIndex := 399, descriptorIndex := 155, attributes := #[] }, { accessFlags := 25, nameIndex := 396, descriptorIndex := 155, attributes := #[] }, { accessFlags := 10, nameIndex := 525, descriptorIndex := 526, attributes := #[] }, { accessFlags := 26, nameIndex := 674, descriptorIndex := 12, attributes := #[] }, { accessFlags := 26, nameIndex := 677, descriptorIndex := 12, attributes := #[] }, { accessFlags := 10, nameIndex := 11, descriptorIndex := 12, attributes := #[] }, { accessFlags := 74, nameIndex := 175, descriptorIndex := 176, attributes := #[] }, { accessFlags := 10, nameIndex := 491, descriptorIndex := 222, attributes := #[] }, { accessFlags := 74, nameIndex := 29, descriptorIndex := 30, attributes := #[] }, { accessFlags := 74, nameIndex := 154, descriptorIndex := 155, attributes := #[] }, { accessFlags := 10, nameIndex := 217, descriptorIndex := 218, attributes := #[] }, { accessFlags := 10, nameIndex := 221, descriptorIndex := 222, attributes := #[] }, { accessFlags := 8, nameIndex := 562, descriptorIndex := 563, attributes := #[] }])
  fields := #[{ name := "in", type := (.object "java/io/InputStream"), accessFlags := 25, slot := 0, constantValue := 0 }, { name := "out", type := (.object "java/io/PrintStream"), accessFlags := 25, slot := 1, constantValue := 0 }, { name := "err", type := (.object "java/io/PrintStream"), accessFlags := 25, slot := 2, constantValue := 0 }, { name := "initialIn", type := (.object "java/io/InputStream"), accessFlags := 10, slot := 3, constantValue := 0 }, { name := "NEVER", type := .int, accessFlags := 26, slot := 4, constantValue := 0 }, { name := "MAYBE", type := .int, accessFlags := 26, slot := 5, constantValue := 0 }, { name := "allowSecurityManager", type := .int, accessFlags := 10, slot := 6, constantValue := 0 }, { name := "security", type := (.object "java/lang/SecurityManager"), accessFlags := 74, slot := 7, constantValue := 0 }, { name := "notSupportedJnuEncoding", type := (.object "java/lang/String"), accessFlags := 10, slot := 8, constantValue := 0 }, { name := "cons", type := (.object "java/io/Console"), accessFlags := 74, slot := 9, constantValue := 0 }, { name := "initialErrStream", type := (.object "java/io/PrintStream"), accessFlags := 74, slot := 10, constantValue := 0 }, { name := "props", type := (.object "java/util/Properties"), accessFlags := 10, slot := 11, constantValue := 0 }, { name := "lineSeparator", type := (.object "java/lang/String"), accessFlags := 10, slot := 12, constantValue := 0 }, { name := "bootLayer", type := (.object "java/lang/ModuleLayer"), accessFlags := 8, slot := 13, constantValue := 0 }]
  methods := #[k19m0, k19m1]
  instanceTypes := #[]
  staticTypes := #[(.object "java/io/InputStream"), (.object "java/io/PrintStream"), (.object "java/io/PrintStream"), (.object "java/io/InputStream"), .int, .int, .int, (.object "java/lang/SecurityManager"), (.object "java/lang/String"), (.object "java/io/Console"), (.object "java/io/PrintStream"), (.object "java/util/Properties"), (.object "java/lang/String"), (.object "java/lang/ModuleLayer")]
  resolved := Array.replicate 834 none
  statics := none }

def pool20 : Array CpInfo := pool [(9, u "<init>"), (6, .class_ 18), (1, u "java/lang/Object"), (0, u "()V"), (1, .class_ 23), (1, u "jdk/internal/util/ArraysSupport"), (0, u "LOG2_ARRAY_LONG_INDEX_SCALE"), (0, u "I"), (2, u "U"), (0, u "Ljdk/internal/misc/Unsafe;"), (8, u "BIG_ENDIAN"), (0, u "Z"), (8, u "LOG2_BYTE_BIT_SIZE"), (4, u "LOG2_ARRAY_INT_INDEX_SCALE"), (54, u "JLA"), (0, u "Ljdk/internal/access/JavaLangAccess;"), (11, u "LOG2_ARRAY_BOOLEAN_INDEX_SCALE"), (9, u "LOG2_ARRAY_BYTE_INDEX_SCALE"), (5, u "LOG2_ARRAY_CHAR_INDEX_SCALE"), (5, u "LOG2_ARRAY_SHORT_INDEX_SCALE"), (18, u "LOG2_ARRAY_FLOAT_INDEX_SCALE"), (24, u "LOG2_ARRAY_DOUBLE_INDEX_SCALE"), (89, u "T_BOOLEAN"), (2, u "T_CHAR"), (1, u "T_FLOAT"), (1, u "T_DOUBLE"), (1, u "T_BYTE"), (1, u "T_SHORT"), (1, u "T_INT"), (1, u "T_LONG"), (1, u "SOFT_MAX_ARRAY_LENGTH")] 83

def k20m0 : Method := { name := "<init>", desc := "()V", sig := { parameters := [], returnType := none }, accessFlags := 2, code := none }
/-- jdk/internal/util/ArraysSupport -/
def k20 : Class := { plain "jdk/internal/util/ArraysSupport" (some 0) with
  accessFlags := 33
  interfaces := #[]
  cf := some (fileOf pool20 21 #[] #[{ accessFlags := 2, nameIndex := 9, descriptorIndex := 19, attributes := #[] }] 33 16 #[] #[{ accessFlags := 24, nameIndex := 28, descriptorIndex := 29, attributes := #[] }, { accessFlags := 26, nameIndex := 38, descriptorIndex := 39, attributes := #[] }, { accessFlags := 25, nameIndex := 121, descriptorIndex := 25, attributes := #[] }, { accessFlags := 25, nameIndex := 131, descriptorIndex := 25, attributes := #[] }, { accessFlags := 25, nameIndex := 137, descriptorIndex := 25, attributes := #[] }, { accessFlags := 25, nameIndex := 143, descriptorIndex := 25, attributes := #[] }, { accessFlags := 25, nameIndex := 53, descriptorIndex := 25, attributes := #[] }, { accessFlags := 25, nameIndex := 24, descriptorIndex := 25, attributes := #[] }, { accessFlags := 25, nameIndex := 162, descriptorIndex := 25, attributes := #[] }, { accessFlags := 25, nameIndex := 187, descriptorIndex := 25, attributes := #[] }, { accessFlags := 26, nameIndex := 48, descriptorIndex := 25, attributes := #[] }, { accessFlags := 25, nameIndex := 277, descriptorIndex := 25, attributes := #[] }, { accessFlags := 25, nameIndex := 280, descriptorIndex := 25, attributes := #[] }, { accessFlags := 25, nameIndex := 282, descriptorIndex := 25, attributes := #[] }, { accessFlags := 25, nameIndex := 284, descriptorIndex := 25, attributes := #[] }, { accessFlags := 25, nameIndex := 286, descriptorIndex := 25, attributes := #[] }, { accessFlags := 25, nameIndex := 288, descriptorIndex := 25, attributes := #[] }, { accessFlags := 25, nameIndex := 290, descriptorIndex := 25, attributes := #[] }, { accessFlags := 25, nameIndex := 292, descriptorIndex := 25, attributes := #[] }, { accessFlags := 26, nameIndex := 108, descriptorIndex := 109, attributes := #[] }, { accessFlags := 25, nameIndex := 294, descriptorIndex := 25, attributes := #[] }])
  fields := #[{ name := "U", type := (.object "jdk/internal/misc/Unsafe"), accessFlags := 24, slot := 0, constantValue := 0 }, { name := "BIG_ENDIAN", type := .boolean, accessFlags := 26, slot := 1, constantValue := 0 }, { name := "LOG2_ARRAY_BOOLEAN_INDEX_SCALE", type := .int, accessFlags := 25, slot := 2, constantValue := 0 }, { name := "LOG2_ARRAY_BYTE_INDEX_SCALE", type := .int, accessFlags := 25, slot := 3, constantValue := 0 }, { name := "LOG2_ARRAY_CHAR_INDEX_SCALE", type := .int, accessFlags := 25, slot := 4, constantValue := 0 }, { name := "LOG2_ARRAY_SHORT_INDEX_SCALE", type := .int, accessFlags := 25, slot := 5, constantValue := 0 }, { name := "LOG2_ARRAY_INT_INDEX_SCALE", type := .int, accessFlags := 25, slot := 6, constantValue := 0 }, { name := "LOG2_ARRAY_LONG_INDEX_SCALE", type := .int, accessFlags := 25, slot := 7, constantValue := 0 }, { name := "LOG2_ARRAY_FLOAT_INDEX_SCALE", type := .int, accessFlags := 25, slot := 8, constantValue := 0 }, { name := "LOG2_ARRAY_DOUBLE_INDEX_SCALE", type := .int, accessFlags := 25, slot := 9, constantValue := 0 }, { name := "LOG2_BYTE_BIT_SIZE", type := .int, accessFlags := 26, slot := 10, constantValue := 0 }, { name := "T_BOOLEAN", type := .int, accessFlags := 25, slot := 11, constantValue := 0 }, { name := "T_CHAR", type := .int, accessFlags := 25, slot := 12, constantValue := 0 }, { name := "T_FLOAT", type := .int, accessFlags := 25, slot := 13, constantValue := 0 }, { name := "T_DOUBLE", type := .int, accessFlags := 25, slot := 14, constantValue := 0 }, { name := "T_BYTE", type := .int, accessFlags := 25, slot := 15, constantValue := 0 }, { name := "T_SHORT", type := .int, accessFlags := 25, slot := 16, constantValue := 0 }, { name := "T_INT", type := .int, accessFlags := 25, slot := 17, constantValue := 0 }, { name := "T_LONG", type := .int, accessFlags := 25, slot := 18, constantValue := 0 }, { name := "JLA", type := (.object "jdk/internal/access/JavaLangAccess"), accessFlags := 26, slot := 19, constantValue := 0 }, { name := "SOFT_MAX_ARRAY_LENGTH", type := .int, accessFlags := 25, slot := 20, constantValue := 0 }]
  methods := #[k20m0]
  instanceTypes := #[]
  staticTypes := #[(.object "jdk/internal/misc/Unsafe"), .boolean, .int, .int, .int, .int, .int, .int, .int, .int, .int, .int, .int, .int, .int, .int, .int, .int, .int, (.object "jdk/internal/access/JavaLangAccess"), .int]
  resolved := Array.replicate 378 none
  statics := none }

def pool21 : Array CpInfo := pool [(1, u "java/lang/Cloneable"), (0, .class_ 1), (0, u "java/lang/Object"), (0, .class_ 3)] 3

/-- java/lang/Cloneable -/
def k21 : Class := { plain "java/lang/Cloneable" (some 0) with
  accessFlags := 1537
  interfaces := #[]
  cf := some (fileOf pool21 2 #[] #[] 1537 4 #[] #[])
  fields := #[]
  methods := #[]
  instanceTypes := #[]
  staticTypes := #[]
  resolved := Array.replicate 8 none
  statics := none }

/-- the primitive byte -/
def k22 : Class := { plain "byte" none with kind := .primitive 'B', accessFlags := 0x411 }
/-- [B -/
def k23 : Class := { plain "[B" (some 0) with kind := .array 22 .byte, interfaces := #[21, 2], accessFlags := 1041 }

/-- the primitive char -/
def k24 : Class := { plain "char" none with kind := .primitive 'C', accessFlags := 0x411 }
/-- [C -/
def k25 : Class := { plain "[C" (some 0) with kind := .array 24 .char, interfaces := #[21, 2], accessFlags := 1041 }

/-- the primitive int -/
def k26 : Class := { plain "int" none with kind := .primitive 'I', accessFlags := 0x411 }
/-- [I -/
def k27 : Class := { plain "[I" (some 0) with kind := .array 26 .int, interfaces := #[21, 2], accessFlags := 1041 }

/-- the primitive long -/
def k28 : Class := { plain "long" none with kind := .primitive 'J', accessFlags := 0x411 }
/-- [J -/
def k29 : Class := { plain "[J" (some 0) with kind := .array 28 .long, interfaces := #[21, 2], accessFlags := 1041 }

def heap : Heap := #[{ cls := 7, slots := #[.long 0, .int 1, .null, .int 0, .null, .int 0, .int 0], vm := .statics 7 },
  { cls := 16, slots := #[.int 0, .int 0, .null, .null, .ref 4, .ref 3, .int 0, .int 0, .long 0], vm := .statics 16 },
  { cls := 17, slots := #[.null, .null, .null], vm := .statics 17 },
  { cls := 23, slots := #[.int 48, .int 49, .int 50, .int 51, .int 52, .int 53, .int 54, .int 55, .int 56, .int 57, .int 48, .int 49, .int 50, .int 51, .int 52, .int 53, .int 54, .int 55, .int 56, .int 57, .int 48, .int 49, .int 50, .int 51, .int 52, .int 53, .int 54, .int 55, .int 56, .int 57, .int 48, .int 49, .int 50, .int 51, .int 52, .int 53, .int 54, .int 55, .int 56, .int 57, .int 48, .int 49, .int 50, .int 51, .int 52, .int 53, .int 54, .int 55, .int 56, .int 57, .int 48, .int 49, .int 50, .int 51, .int 52, .int 53, .int 54, .int 55, .int 56, .int 57, .int 48, .int 49, .int 50, .int 51, .int 52, .int 53, .int 54, .int 55, .int 56, .int 57, .int 48, .int 49, .int 50, .int 51, .int 52, .int 53, .int 54, .int 55, .int 56, .int 57, .int 48, .int 49, .int 50, .int 51, .int 52, .int 53, .int 54, .int 55, .int 56, .int 57, .int 48, .int 49, .int 50, .int 51, .int 52, .int 53, .int 54, .int 55, .int 56, .int 57], vm := .none },
  { cls := 23, slots := #[.int 48, .int 48, .int 48, .int 48, .int 48, .int 48, .int 48, .int 48, .int 48, .int 48, .int 49, .int 49, .int 49, .int 49, .int 49, .int 49, .int 49, .int 49, .int 49, .int 49, .int 50, .int 50, .int 50, .int 50, .int 50, .int 50, .int 50, .int 50, .int 50, .int 50, .int 51, .int 51, .int 51, .int 51, .int 51, .int 51, .int 51, .int 51, .int 51, .int 51, .int 52, .int 52, .int 52, .int 52, .int 52, .int 52, .int 52, .int 52, .int 52, .int 52, .int 53, .int 53, .int 53, .int 53, .int 53, .int 53, .int 53, .int 53, .int 53, .int 53, .int 54, .int 54, .int 54, .int 54, .int 54, .int 54, .int 54, .int 54, .int 54, .int 54, .int 55, .int 55, .int 55, .int 55, .int 55, .int 55, .int 55, .int 55, .int 55, .int 55, .int 56, .int 56, .int 56, .int 56, .int 56, .int 56, .int 56, .int 56, .int 56, .int 56, .int 57, .int 57, .int 57, .int 57, .int 57, .int 57, .int 57, .int 57, .int 57, .int 57], vm := .none }]
def classes : Array Class := #[k0, k1, k2, k3, k4, k5, k6, k7, k8, k9, k10, k11, k12, k13, k14, k15, k16, k17, k18, k19, k20, k21, k22, k23, k24, k25, k26, k27, k28, k29]
def interned : List (Array UInt16 × Addr) := []
def slotsUsed : Nat := 219
def theMethod : MethodId := ⟨1, 5⟩
def args0 : Array Value := #[.long 5, .long 5, .int 5]
def aboutOver (below : List Frame) : State where
  vm := { classes := classes, interned := interned.toArray }
  heap := heap
  slotsUsed := slotsUsed
  threads := #[{ frames := .invoking theMethod args0 :: below }]
def below0 : List Frame := [.native { method := ⟨0, 0⟩, args := #[] }]
def about1 : State := aboutOver below0
def p0 : Program := .bare "" "" ""
def e0 : Env := launch0.env 0 0 0
theorem w_frames : about1.frames = Frame.invoking theMethod args0 :: below0 := rfl
set_option maxRecDepth 65536 in
theorem w_args : argsFit about1.vm theMethod args0 = true := by decide +kernel
set_option maxRecDepth 65536 in
theorem w_heap : heapFits about1 = true := by decide +kernel
set_option maxRecDepth 65536 in
theorem w_runnable : about1.curStatus? = some .runnable := by decide +kernel
set_option maxRecDepth 65536 in
theorem w_alone : about1.alone = true := by decide +kernel
set_option maxRecDepth 65536 in
theorem w_named : about1.methodNamed? x = some theMethod := by decide +kernel
set_option maxRecDepth 65536 in
theorem w_hears : about1.hears theMethod below0 = true := by decide +kernel
set_option maxRecDepth 65536 in
theorem w_ripe : about1.ripe theMethod args0 below0 = true := by decide +kernel
theorem w_running : about1.status = .running := rfl
set_option maxRecDepth 65536 in
theorem w_room : about1.hasRoom e0.platform room_1 = true :=
  launch0.hasRoom_least _ room_1 (by decide +kernel) (by decide +kernel) (by decide +kernel) (by decide +kernel) (by decide +kernel) (by decide +kernel)
theorem allAtoms_all (ts : List Jvm.Cond) (a : Array Jvm.Value) (st : Jvm.State) : (allAtoms ts).before a st = ts.all (fun c => c.before a st) := by
  induction ts with
  | nil => rfl
  | cons c t ih =>
    show (Jvm.Cond.and c (allAtoms t)).before a st = _
    rw [Jvm.Cond.before_and, ih, List.all_cons]
def words1 : List Jvm.Cond := Jvm.Cond.code x code maxLocals ret :: tables_1
/-- a 'code' word, met by the world's own term for the bytes: nothing is compared byte by byte -/
theorem code_word {y : MethodName} {bytes : ByteArray} {mx : Nat} {rt : Option FieldType} {a : Array Value} {s : State} {m : MethodId} {meth : Method} {c : Code} (h1 : s.methodNamed? y = some m) (h2 : s.vm.method? m = some meth) (h3 : meth.code = some c) (h4 : c.code = bytes)
    (h5 : (c.maxLocals == mx && c.exceptionTable.isEmpty && decide (c.maxStack ≤ mostOperands) && decide (meth.sig.returnType = rt) && !meth.locks && decide (parseMethodDescriptor y.desc = some meth.sig)) = true) : (Jvm.Cond.code y bytes mx rt).before a s = true := by
  simp only [Bool.and_eq_true, beq_iff_eq, Bool.not_eq_true', decide_eq_true_eq] at h5
  obtain ⟨⟨⟨⟨⟨g1, g2⟩, g3⟩, g4⟩, g5⟩, g6⟩ := h5
  simp [Cond.before, Cond.holds, Cond.value, h1, h2, h3, h4, g1, g2, g3, g4, g5, g6]
def isCode : Jvm.Cond → Bool
  | .code _ _ _ _ => true
  | _ => false
theorem all_split {L : List Jvm.Cond} {P : Jvm.Cond → Bool} (h1 : L.all (fun c => isCode c || P c) = true) (h2 : ∀ c ∈ L.filter isCode, P c = true) : L.all P = true := by
  refine List.all_eq_true.mpr fun c hc => ?_
  have h := List.all_eq_true.mp h1 c hc
  rcases Bool.eq_false_or_eq_true (isCode c) with hi | hi
  · exact h2 c (List.mem_filter.mpr ⟨hc, hi⟩)
  · simpa [hi] using h
set_option maxRecDepth 65536 in
theorem w_c0 : (Jvm.Cond.code x code maxLocals ret).before args0 about1 = true := code_word (m := ⟨1, 5⟩) (meth := k1m5) (c := k1c5) (by decide +kernel) rfl rfl rfl (by decide +kernel)
set_option maxRecDepth 65536 in
theorem w_c1 : (Jvm.Cond.code ({ cls := "com/example/dutiful_pruner/dutifulpruner/collection/LineFileCollectionParseLinePinLaw", name := "pick", desc := "(JIII)C" } : Jvm.MethodName) method_2_code (6 : Nat) (Option.some Jvm.ClassFile.FieldType.char)).before args0 about1 = true := code_word (m := ⟨1, 1⟩) (meth := k1m1) (c := k1c1) (by decide +kernel) rfl rfl rfl (by decide +kernel)
set_option maxRecDepth 65536 in
theorem w_c2 : (Jvm.Cond.code ({ cls := "java/lang/String", name := "<init>", desc := "([C)V" } : Jvm.MethodName) jdk_42_method_3_code (2 : Nat) (Option.none : Option Jvm.ClassFile.FieldType)).before args0 about1 = true := code_word (m := ⟨7, 1⟩) (meth := k7m1) (c := k7c1) (by decide +kernel) rfl rfl rfl (by decide +kernel)
set_option maxRecDepth 65536 in
theorem w_c3 : (Jvm.Cond.code ({ cls := "java/lang/String", name := "<init>", desc := "([CIILjava/lang/Void;)V" } : Jvm.MethodName) jdk_42_method_149_code (6 : Nat) (Option.none : Option Jvm.ClassFile.FieldType)).before args0 about1 = true := code_word (m := ⟨7, 8⟩) (meth := k7m8) (c := k7c8) (by decide +kernel) rfl rfl rfl (by decide +kernel)
set_option maxRecDepth 65536 in
theorem w_c4 : (Jvm.Cond.code ({ cls := "java/lang/Object", name := "<init>", desc := "()V" } : Jvm.MethodName) object_method_1_code (1 : Nat) (Option.none : Option Jvm.ClassFile.FieldType)).before args0 about1 = true := code_word (m := ⟨0, 0⟩) (meth := k0m0) (c := k0c0) (by decide +kernel) rfl rfl rfl (by decide +kernel)
set_option maxRecDepth 65536 in
theorem w_c5 : (Jvm.Cond.code ({ cls := "java/lang/StringUTF16", name := "compress", desc := "([CII)[B" } : Jvm.MethodName) jdk_52_method_16_code (6 : Nat) (Option.some (Jvm.ClassFile.FieldType.array Jvm.ClassFile.FieldType.byte))).before args0 about1 = true := code_word (m := ⟨8, 2⟩) (meth := k8m2) (c := k8c2) (by decide +kernel) rfl rfl rfl (by decide +kernel)
set_option maxRecDepth 65536 in
theorem w_c6 : (Jvm.Cond.code ({ cls := "java/lang/StringUTF16", name := "compress", desc := "([CI[BII)I" } : Jvm.MethodName) jdk_52_method_21_code (7 : Nat) (Option.some Jvm.ClassFile.FieldType.int)).before args0 about1 = true := code_word (m := ⟨8, 3⟩) (meth := k8m3) (c := k8c3) (by decide +kernel) rfl rfl rfl (by decide +kernel)
set_option maxRecDepth 65536 in
theorem w_c7 : (Jvm.Cond.code ({ cls := "java/lang/StringUTF16", name := "coderFromArrayLen", desc := "([BI)B" } : Jvm.MethodName) jdk_52_method_15_code (2 : Nat) (Option.some Jvm.ClassFile.FieldType.byte)).before args0 about1 = true := code_word (m := ⟨8, 1⟩) (meth := k8m1) (c := k8c1) (by decide +kernel) rfl rfl rfl (by decide +kernel)
set_option maxRecDepth 65536 in
theorem w_c8 : (Jvm.Cond.code ({ cls := "com/example/dutiful_pruner/dutifulpruner/collection/LineFileCollection", name := "parseLine", desc := "(Ljava/lang/String;J)Lcom/example/dutiful_pruner/dutifulpruner/collection/CollectionDocument;" } : Jvm.MethodName) prog_4_method_2_code (5 : Nat) (Option.some (Jvm.ClassFile.FieldType.object "com/example/dutiful_pruner/dutifulpruner/collection/CollectionDocument"))).before args0 about1 = true := code_word (m := ⟨9, 1⟩) (meth := k9m1) (c := k9c1) (by decide +kernel) rfl rfl rfl (by decide +kernel)
set_option maxRecDepth 65536 in
theorem w_c9 : (Jvm.Cond.code ({ cls := "java/lang/String", name := "indexOf", desc := "(I)I" } : Jvm.MethodName) jdk_42_method_79_code (2 : Nat) (Option.some Jvm.ClassFile.FieldType.int)).before args0 about1 = true := code_word (m := ⟨7, 4⟩) (meth := k7m4) (c := k7c4) (by decide +kernel) rfl rfl rfl (by decide +kernel)
set_option maxRecDepth 65536 in
theorem w_c10 : (Jvm.Cond.code ({ cls := "java/lang/String", name := "indexOf", desc := "(II)I" } : Jvm.MethodName) jdk_42_method_80_code (3 : Nat) (Option.some Jvm.ClassFile.FieldType.int)).before args0 about1 = true := code_word (m := ⟨7, 5⟩) (meth := k7m5) (c := k7c5) (by decide +kernel) rfl rfl rfl (by decide +kernel)
set_option maxRecDepth 65536 in
theorem w_c11 : (Jvm.Cond.code ({ cls := "java/lang/String", name := "isLatin1", desc := "()Z" } : Jvm.MethodName) jdk_42_method_154_code (1 : Nat) (Option.some Jvm.ClassFile.FieldType.boolean)).before args0 about1 = true := code_word (m := ⟨7, 11⟩) (meth := k7m11) (c := k7c11) (by decide +kernel) rfl rfl rfl (by decide +kernel)
set_option maxRecDepth 65536 in
theorem w_c12 : (Jvm.Cond.code ({ cls := "java/lang/String", name := "length", desc := "()I" } : Jvm.MethodName) jdk_42_method_54_code (1 : Nat) (Option.some Jvm.ClassFile.FieldType.int)).before args0 about1 = true := code_word (m := ⟨7, 2⟩) (meth := k7m2) (c := k7c2) (by decide +kernel) rfl rfl rfl (by decide +kernel)
set_option maxRecDepth 65536 in
theorem w_c13 : (Jvm.Cond.code ({ cls := "java/lang/String", name := "coder", desc := "()B" } : Jvm.MethodName) jdk_42_method_152_code (1 : Nat) (Option.some Jvm.ClassFile.FieldType.byte)).before args0 about1 = true := code_word (m := ⟨7, 10⟩) (meth := k7m10) (c := k7c10) (by decide +kernel) rfl rfl rfl (by decide +kernel)
set_option maxRecDepth 65536 in
theorem w_c14 : (Jvm.Cond.code ({ cls := "java/lang/StringLatin1", name := "indexOf", desc := "([BIII)I" } : Jvm.MethodName) jdk_43_method_22_code (4 : Nat) (Option.some Jvm.ClassFile.FieldType.int)).before args0 about1 = true := code_word (m := ⟨10, 3⟩) (meth := k10m3) (c := k10c3) (by decide +kernel) rfl rfl rfl (by decide +kernel)
set_option maxRecDepth 65536 in
theorem w_c15 : (Jvm.Cond.code ({ cls := "java/lang/StringLatin1", name := "canEncode", desc := "(I)Z" } : Jvm.MethodName) jdk_43_method_4_code (1 : Nat) (Option.some Jvm.ClassFile.FieldType.boolean)).before args0 about1 = true := code_word (m := ⟨10, 2⟩) (meth := k10m2) (c := k10c2) (by decide +kernel) rfl rfl rfl (by decide +kernel)
set_option maxRecDepth 65536 in
theorem w_c16 : (Jvm.Cond.code ({ cls := "java/lang/Math", name := "max", desc := "(II)I" } : Jvm.MethodName) jdk_29_method_65_code (2 : Nat) (Option.some Jvm.ClassFile.FieldType.int)).before args0 about1 = true := code_word (m := ⟨11, 2⟩) (meth := k11m2) (c := k11c2) (by decide +kernel) rfl rfl rfl (by decide +kernel)
set_option maxRecDepth 65536 in
theorem w_c17 : (Jvm.Cond.code ({ cls := "java/lang/Math", name := "min", desc := "(II)I" } : Jvm.MethodName) jdk_29_method_69_code (2 : Nat) (Option.some Jvm.ClassFile.FieldType.int)).before args0 about1 = true := code_word (m := ⟨11, 3⟩) (meth := k11m3) (c := k11c3) (by decide +kernel) rfl rfl rfl (by decide +kernel)
set_option maxRecDepth 65536 in
theorem w_c18 : (Jvm.Cond.code ({ cls := "java/lang/StringLatin1", name := "indexOfChar", desc := "([BIII)I" } : Jvm.MethodName) jdk_43_method_23_code (6 : Nat) (Option.some Jvm.ClassFile.FieldType.int)).before args0 about1 = true := code_word (m := ⟨10, 4⟩) (meth := k10m4) (c := k10c4) (by decide +kernel) rfl rfl rfl (by decide +kernel)
set_option maxRecDepth 65536 in
theorem w_c19 : (Jvm.Cond.code ({ cls := "java/lang/Long", name := "toString", desc := "(J)Ljava/lang/String;" } : Jvm.MethodName) jdk_35_method_12_code (4 : Nat) (Option.some (Jvm.ClassFile.FieldType.object "java/lang/String"))).before args0 about1 = true := code_word (m := ⟨15, 0⟩) (meth := k15m0) (c := k15c0) (by decide +kernel) rfl rfl rfl (by decide +kernel)
set_option maxRecDepth 65536 in
theorem w_c20 : (Jvm.Cond.code ({ cls := "java/lang/Long", name := "stringSize", desc := "(J)I" } : Jvm.MethodName) jdk_35_method_15_code (6 : Nat) (Option.some Jvm.ClassFile.FieldType.int)).before args0 about1 = true := code_word (m := ⟨15, 2⟩) (meth := k15m2) (c := k15c2) (by decide +kernel) rfl rfl rfl (by decide +kernel)
set_option maxRecDepth 65536 in
theorem w_c21 : (Jvm.Cond.code ({ cls := "java/lang/Long", name := "getChars", desc := "(JI[B)I" } : Jvm.MethodName) jdk_35_method_14_code (11 : Nat) (Option.some Jvm.ClassFile.FieldType.int)).before args0 about1 = true := code_word (m := ⟨15, 1⟩) (meth := k15m1) (c := k15c1) (by decide +kernel) rfl rfl rfl (by decide +kernel)
set_option maxRecDepth 65536 in
theorem w_c22 : (Jvm.Cond.code ({ cls := "java/lang/String", name := "<init>", desc := "([BB)V" } : Jvm.MethodName) jdk_42_method_151_code (3 : Nat) (Option.none : Option Jvm.ClassFile.FieldType)).before args0 about1 = true := code_word (m := ⟨7, 9⟩) (meth := k7m9) (c := k7c9) (by decide +kernel) rfl rfl rfl (by decide +kernel)
set_option maxRecDepth 65536 in
theorem w_c23 : (Jvm.Cond.code ({ cls := "java/lang/String", name := "substring", desc := "(I)Ljava/lang/String;" } : Jvm.MethodName) jdk_42_method_91_code (2 : Nat) (Option.some (Jvm.ClassFile.FieldType.object "java/lang/String"))).before args0 about1 = true := code_word (m := ⟨7, 6⟩) (meth := k7m6) (c := k7c6) (by decide +kernel) rfl rfl rfl (by decide +kernel)
set_option maxRecDepth 65536 in
theorem w_c24 : (Jvm.Cond.code ({ cls := "java/lang/String", name := "substring", desc := "(II)Ljava/lang/String;" } : Jvm.MethodName) jdk_42_method_92_code (5 : Nat) (Option.some (Jvm.ClassFile.FieldType.object "java/lang/String"))).before args0 about1 = true := code_word (m := ⟨7, 7⟩) (meth := k7m7) (c := k7c7) (by decide +kernel) rfl rfl rfl (by decide +kernel)
set_option maxRecDepth 65536 in
theorem w_c25 : (Jvm.Cond.code ({ cls := "java/lang/String", name := "checkBoundsBeginEnd", desc := "(III)V" } : Jvm.MethodName) jdk_42_method_158_code (3 : Nat) (Option.none : Option Jvm.ClassFile.FieldType)).before args0 about1 = true := code_word (m := ⟨7, 13⟩) (meth := k7m13) (c := k7c13) (by decide +kernel) rfl rfl rfl (by decide +kernel)
set_option maxRecDepth 65536 in
theorem w_c26 : (Jvm.Cond.code ({ cls := "jdk/internal/util/Preconditions", name := "checkFromToIndex", desc := "(IIILjava/util/function/BiFunction;)I" } : Jvm.MethodName) jdk_41_method_12_code (4 : Nat) (Option.some Jvm.ClassFile.FieldType.int)).before args0 about1 = true := code_word (m := ⟨17, 2⟩) (meth := k17m2) (c := k17c2) (by decide +kernel) rfl rfl rfl (by decide +kernel)
set_option maxRecDepth 65536 in
theorem w_c27 : (Jvm.Cond.code ({ cls := "java/lang/StringLatin1", name := "newString", desc := "([BII)Ljava/lang/String;" } : Jvm.MethodName) jdk_43_method_47_code (3 : Nat) (Option.some (Jvm.ClassFile.FieldType.object "java/lang/String"))).before args0 about1 = true := code_word (m := ⟨10, 5⟩) (meth := k10m5) (c := k10c5) (by decide +kernel) rfl rfl rfl (by decide +kernel)
set_option maxRecDepth 65536 in
theorem w_c28 : (Jvm.Cond.code ({ cls := "java/util/Arrays", name := "copyOfRange", desc := "([BII)[B" } : Jvm.MethodName) jdk_65_method_132_code (3 : Nat) (Option.some (Jvm.ClassFile.FieldType.array Jvm.ClassFile.FieldType.byte))).before args0 about1 = true := code_word (m := ⟨18, 2⟩) (meth := k18m2) (c := k18c2) (by decide +kernel) rfl rfl rfl (by decide +kernel)
set_option maxRecDepth 65536 in
theorem w_c29 : (Jvm.Cond.code ({ cls := "java/util/Arrays", name := "copyOfRangeByte", desc := "([BII)[B" } : Jvm.MethodName) jdk_65_method_133_code (5 : Nat) (Option.some (Jvm.ClassFile.FieldType.array Jvm.ClassFile.FieldType.byte))).before args0 about1 = true := code_word (m := ⟨18, 3⟩) (meth := k18m3) (c := k18c3) (by decide +kernel) rfl rfl rfl (by decide +kernel)
set_option maxRecDepth 65536 in
theorem w_c30 : (Jvm.Cond.code ({ cls := "java/util/Arrays", name := "checkLength", desc := "(II)V" } : Jvm.MethodName) jdk_65_method_131_code (2 : Nat) (Option.none : Option Jvm.ClassFile.FieldType)).before args0 about1 = true := code_word (m := ⟨18, 1⟩) (meth := k18m1) (c := k18c1) (by decide +kernel) rfl rfl rfl (by decide +kernel)
set_option maxRecDepth 65536 in
theorem w_c31 : (Jvm.Cond.code ({ cls := "com/example/dutiful_pruner/dutifulpruner/collection/CollectionDocument", name := "<init>", desc := "(Ljava/lang/String;Ljava/lang/String;)V" } : Jvm.MethodName) prog_3_method_1_code (3 : Nat) (Option.none : Option Jvm.ClassFile.FieldType)).before args0 about1 = true := code_word (m := ⟨13, 0⟩) (meth := k13m0) (c := k13c0) (by decide +kernel) rfl rfl rfl (by decide +kernel)
set_option maxRecDepth 65536 in
theorem w_c32 : (Jvm.Cond.code ({ cls := "java/lang/Record", name := "<init>", desc := "()V" } : Jvm.MethodName) jdk_30_method_1_code (1 : Nat) (Option.none : Option Jvm.ClassFile.FieldType)).before args0 about1 = true := code_word (m := ⟨12, 0⟩) (meth := k12m0) (c := k12c0) (by decide +kernel) rfl rfl rfl (by decide +kernel)
set_option maxRecDepth 65536 in
theorem w_c33 : (Jvm.Cond.code ({ cls := "com/example/dutiful_pruner/dutifulpruner/collection/CollectionDocument", name := "contents", desc := "()Ljava/lang/String;" } : Jvm.MethodName) prog_3_method_6_code (1 : Nat) (Option.some (Jvm.ClassFile.FieldType.object "java/lang/String"))).before args0 about1 = true := code_word (m := ⟨13, 2⟩) (meth := k13m2) (c := k13c2) (by decide +kernel) rfl rfl rfl (by decide +kernel)
set_option maxRecDepth 65536 in
theorem w_c34 : (Jvm.Cond.code ({ cls := "com/example/dutiful_pruner/dutifulpruner/collection/CollectionDocument", name := "id", desc := "()Ljava/lang/String;" } : Jvm.MethodName) prog_3_method_5_code (1 : Nat) (Option.some (Jvm.ClassFile.FieldType.object "java/lang/String"))).before args0 about1 = true := code_word (m := ⟨13, 1⟩) (meth := k13m1) (c := k13c1) (by decide +kernel) rfl rfl rfl (by decide +kernel)
set_option maxRecDepth 65536 in
theorem w_c35 : (Jvm.Cond.code ({ cls := "com/example/dutiful_pruner/dutifulpruner/collection/LineFileCollectionParseLinePinLaw", name := "bc", desc := "(Ljava/lang/String;[CIII)Z" } : Jvm.MethodName) method_3_code (5 : Nat) (Option.some Jvm.ClassFile.FieldType.boolean)).before args0 about1 = true := code_word (m := ⟨1, 2⟩) (meth := k1m2) (c := k1c2) (by decide +kernel) rfl rfl rfl (by decide +kernel)
set_option maxRecDepth 65536 in
theorem w_c36 : (Jvm.Cond.code ({ cls := "java/lang/String", name := "charAt", desc := "(I)C" } : Jvm.MethodName) jdk_42_method_56_code (2 : Nat) (Option.some Jvm.ClassFile.FieldType.char)).before args0 about1 = true := code_word (m := ⟨7, 3⟩) (meth := k7m3) (c := k7c3) (by decide +kernel) rfl rfl rfl (by decide +kernel)
set_option maxRecDepth 65536 in
theorem w_c37 : (Jvm.Cond.code ({ cls := "java/lang/StringLatin1", name := "charAt", desc := "([BI)C" } : Jvm.MethodName) jdk_43_method_2_code (2 : Nat) (Option.some Jvm.ClassFile.FieldType.char)).before args0 about1 = true := code_word (m := ⟨10, 1⟩) (meth := k10m1) (c := k10c1) (by decide +kernel) rfl rfl rfl (by decide +kernel)
set_option maxRecDepth 65536 in
theorem w_c38 : (Jvm.Cond.code ({ cls := "java/lang/String", name := "checkIndex", desc := "(II)V" } : Jvm.MethodName) jdk_42_method_155_code (2 : Nat) (Option.none : Option Jvm.ClassFile.FieldType)).before args0 about1 = true := code_word (m := ⟨7, 12⟩) (meth := k7m12) (c := k7c12) (by decide +kernel) rfl rfl rfl (by decide +kernel)
set_option maxRecDepth 65536 in
theorem w_c39 : (Jvm.Cond.code ({ cls := "jdk/internal/util/Preconditions", name := "checkIndex", desc := "(IILjava/util/function/BiFunction;)I" } : Jvm.MethodName) jdk_41_method_11_code (3 : Nat) (Option.some Jvm.ClassFile.FieldType.int)).before args0 about1 = true := code_word (m := ⟨17, 1⟩) (meth := k17m1) (c := k17c1) (by decide +kernel) rfl rfl rfl (by decide +kernel)
set_option maxRecDepth 65536 in
theorem w_c40 : (Jvm.Cond.code ({ cls := "com/example/dutiful_pruner/dutifulpruner/collection/LineFileCollectionParseLinePinLaw", name := "digits", desc := "(J)I" } : Jvm.MethodName) method_4_code (4 : Nat) (Option.some Jvm.ClassFile.FieldType.int)).before args0 about1 = true := code_word (m := ⟨1, 3⟩) (meth := k1m3) (c := k1c3) (by decide +kernel) rfl rfl rfl (by decide +kernel)
set_option maxRecDepth 65536 in
theorem w_c41 : (Jvm.Cond.code ({ cls := "com/example/dutiful_pruner/dutifulpruner/collection/LineFileCollectionParseLinePinLaw", name := "idc", desc := "(Ljava/lang/String;JII[JI)Z" } : Jvm.MethodName) method_5_code (10 : Nat) (Option.some Jvm.ClassFile.FieldType.boolean)).before args0 about1 = true := code_word (m := ⟨1, 4⟩) (meth := k1m4) (c := k1c4) (by decide +kernel) rfl rfl rfl (by decide +kernel)
set_option maxRecDepth 65536 in
theorem w_c42 : (Jvm.Cond.code ({ cls := "java/lang/Math", name := "abs", desc := "(J)J" } : Jvm.MethodName) jdk_29_method_61_code (2 : Nat) (Option.some Jvm.ClassFile.FieldType.long)).before args0 about1 = true := code_word (m := ⟨11, 1⟩) (meth := k11m1) (c := k11c1) (by decide +kernel) rfl rfl rfl (by decide +kernel)
def codes1 : List Jvm.Cond := [Jvm.Cond.code x code maxLocals ret, Jvm.Cond.code ({ cls := "com/example/dutiful_pruner/dutifulpruner/collection/LineFileCollectionParseLinePinLaw", name := "pick", desc := "(JIII)C" } : Jvm.MethodName) method_2_code (6 : Nat) (Option.some Jvm.ClassFile.FieldType.char), Jvm.Cond.code ({ cls := "java/lang/String", name := "<init>", desc := "([C)V" } : Jvm.MethodName) jdk_42_method_3_code (2 : Nat) (Option.none : Option Jvm.ClassFile.FieldType), Jvm.Cond.code ({ cls := "java/lang/String", name := "<init>", desc := "([CIILjava/lang/Void;)V" } : Jvm.MethodName) jdk_42_method_149_code (6 : Nat) (Option.none : Option Jvm.ClassFile.FieldType), Jvm.Cond.code ({ cls := "java/lang/Object", name := "<init>", desc := "()V" } : Jvm.MethodName) object_method_1_code (1 : Nat) (Option.none : Option Jvm.ClassFile.FieldType), Jvm.Cond.code ({ cls := "java/lang/StringUTF16", name := "compress", desc := "([CII)[B" } : Jvm.MethodName) jdk_52_method_16_code (6 : Nat) (Option.some (Jvm.ClassFile.FieldType.array Jvm.ClassFile.FieldType.byte)), Jvm.Cond.code ({ cls := "java/lang/StringUTF16", name := "compress", desc := "([CI[BII)I" } : Jvm.MethodName) jdk_52_method_21_code (7 : Nat) (Option.some Jvm.ClassFile.FieldType.int), Jvm.Cond.code ({ cls := "java/lang/StringUTF16", name := "coderFromArrayLen", desc := "([BI)B" } : Jvm.MethodName) jdk_52_method_15_code (2 : Nat) (Option.some Jvm.ClassFile.FieldType.byte), Jvm.Cond.code ({ cls := "com/example/dutiful_pruner/dutifulpruner/collection/LineFileCollection", name := "parseLine", desc := "(Ljava/lang/String;J)Lcom/example/dutiful_pruner/dutifulpruner/collection/CollectionDocument;" } : Jvm.MethodName) prog_4_method_2_code (5 : Nat) (Option.some (Jvm.ClassFile.FieldType.object "com/example/dutiful_pruner/dutifulpruner/collection/CollectionDocument")), Jvm.Cond.code ({ cls := "java/lang/String", name := "indexOf", desc := "(I)I" } : Jvm.MethodName) jdk_42_method_79_code (2 : Nat) (Option.some Jvm.ClassFile.FieldType.int), Jvm.Cond.code ({ cls := "java/lang/String", name := "indexOf", desc := "(II)I" } : Jvm.MethodName) jdk_42_method_80_code (3 : Nat) (Option.some Jvm.ClassFile.FieldType.int), Jvm.Cond.code ({ cls := "java/lang/String", name := "isLatin1", desc := "()Z" } : Jvm.MethodName) jdk_42_method_154_code (1 : Nat) (Option.some Jvm.ClassFile.FieldType.boolean), Jvm.Cond.code ({ cls := "java/lang/String", name := "length", desc := "()I" } : Jvm.MethodName) jdk_42_method_54_code (1 : Nat) (Option.some Jvm.ClassFile.FieldType.int), Jvm.Cond.code ({ cls := "java/lang/String", name := "coder", desc := "()B" } : Jvm.MethodName) jdk_42_method_152_code (1 : Nat) (Option.some Jvm.ClassFile.FieldType.byte), Jvm.Cond.code ({ cls := "java/lang/StringLatin1", name := "indexOf", desc := "([BIII)I" } : Jvm.MethodName) jdk_43_method_22_code (4 : Nat) (Option.some Jvm.ClassFile.FieldType.int), Jvm.Cond.code ({ cls := "java/lang/StringLatin1", name := "canEncode", desc := "(I)Z" } : Jvm.MethodName) jdk_43_method_4_code (1 : Nat) (Option.some Jvm.ClassFile.FieldType.boolean), Jvm.Cond.code ({ cls := "java/lang/Math", name := "max", desc := "(II)I" } : Jvm.MethodName) jdk_29_method_65_code (2 : Nat) (Option.some Jvm.ClassFile.FieldType.int), Jvm.Cond.code ({ cls := "java/lang/Math", name := "min", desc := "(II)I" } : Jvm.MethodName) jdk_29_method_69_code (2 : Nat) (Option.some Jvm.ClassFile.FieldType.int), Jvm.Cond.code ({ cls := "java/lang/StringLatin1", name := "indexOfChar", desc := "([BIII)I" } : Jvm.MethodName) jdk_43_method_23_code (6 : Nat) (Option.some Jvm.ClassFile.FieldType.int), Jvm.Cond.code ({ cls := "java/lang/Long", name := "toString", desc := "(J)Ljava/lang/String;" } : Jvm.MethodName) jdk_35_method_12_code (4 : Nat) (Option.some (Jvm.ClassFile.FieldType.object "java/lang/String")), Jvm.Cond.code ({ cls := "java/lang/Long", name := "stringSize", desc := "(J)I" } : Jvm.MethodName) jdk_35_method_15_code (6 : Nat) (Option.some Jvm.ClassFile.FieldType.int), Jvm.Cond.code ({ cls := "java/lang/Long", name := "getChars", desc := "(JI[B)I" } : Jvm.MethodName) jdk_35_method_14_code (11 : Nat) (Option.some Jvm.ClassFile.FieldType.int), Jvm.Cond.code ({ cls := "java/lang/String", name := "<init>", desc := "([BB)V" } : Jvm.MethodName) jdk_42_method_151_code (3 : Nat) (Option.none : Option Jvm.ClassFile.FieldType), Jvm.Cond.code ({ cls := "java/lang/String", name := "substring", desc := "(I)Ljava/lang/String;" } : Jvm.MethodName) jdk_42_method_91_code (2 : Nat) (Option.some (Jvm.ClassFile.FieldType.object "java/lang/String")), Jvm.Cond.code ({ cls := "java/lang/String", name := "substring", desc := "(II)Ljava/lang/String;" } : Jvm.MethodName) jdk_42_method_92_code (5 : Nat) (Option.some (Jvm.ClassFile.FieldType.object "java/lang/String")), Jvm.Cond.code ({ cls := "java/lang/String", name := "checkBoundsBeginEnd", desc := "(III)V" } : Jvm.MethodName) jdk_42_method_158_code (3 : Nat) (Option.none : Option Jvm.ClassFile.FieldType), Jvm.Cond.code ({ cls := "jdk/internal/util/Preconditions", name := "checkFromToIndex", desc := "(IIILjava/util/function/BiFunction;)I" } : Jvm.MethodName) jdk_41_method_12_code (4 : Nat) (Option.some Jvm.ClassFile.FieldType.int), Jvm.Cond.code ({ cls := "java/lang/StringLatin1", name := "newString", desc := "([BII)Ljava/lang/String;" } : Jvm.MethodName) jdk_43_method_47_code (3 : Nat) (Option.some (Jvm.ClassFile.FieldType.object "java/lang/String")), Jvm.Cond.code ({ cls := "java/util/Arrays", name := "copyOfRange", desc := "([BII)[B" } : Jvm.MethodName) jdk_65_method_132_code (3 : Nat) (Option.some (Jvm.ClassFile.FieldType.array Jvm.ClassFile.FieldType.byte)), Jvm.Cond.code ({ cls := "java/util/Arrays", name := "copyOfRangeByte", desc := "([BII)[B" } : Jvm.MethodName) jdk_65_method_133_code (5 : Nat) (Option.some (Jvm.ClassFile.FieldType.array Jvm.ClassFile.FieldType.byte)), Jvm.Cond.code ({ cls := "java/util/Arrays", name := "checkLength", desc := "(II)V" } : Jvm.MethodName) jdk_65_method_131_code (2 : Nat) (Option.none : Option Jvm.ClassFile.FieldType), Jvm.Cond.code ({ cls := "com/example/dutiful_pruner/dutifulpruner/collection/CollectionDocument", name := "<init>", desc := "(Ljava/lang/String;Ljava/lang/String;)V" } : Jvm.MethodName) prog_3_method_1_code (3 : Nat) (Option.none : Option Jvm.ClassFile.FieldType), Jvm.Cond.code ({ cls := "java/lang/Record", name := "<init>", desc := "()V" } : Jvm.MethodName) jdk_30_method_1_code (1 : Nat) (Option.none : Option Jvm.ClassFile.FieldType), Jvm.Cond.code ({ cls := "com/example/dutiful_pruner/dutifulpruner/collection/CollectionDocument", name := "contents", desc := "()Ljava/lang/String;" } : Jvm.MethodName) prog_3_method_6_code (1 : Nat) (Option.some (Jvm.ClassFile.FieldType.object "java/lang/String")), Jvm.Cond.code ({ cls := "com/example/dutiful_pruner/dutifulpruner/collection/CollectionDocument", name := "id", desc := "()Ljava/lang/String;" } : Jvm.MethodName) prog_3_method_5_code (1 : Nat) (Option.some (Jvm.ClassFile.FieldType.object "java/lang/String")), Jvm.Cond.code ({ cls := "com/example/dutiful_pruner/dutifulpruner/collection/LineFileCollectionParseLinePinLaw", name := "bc", desc := "(Ljava/lang/String;[CIII)Z" } : Jvm.MethodName) method_3_code (5 : Nat) (Option.some Jvm.ClassFile.FieldType.boolean), Jvm.Cond.code ({ cls := "java/lang/String", name := "charAt", desc := "(I)C" } : Jvm.MethodName) jdk_42_method_56_code (2 : Nat) (Option.some Jvm.ClassFile.FieldType.char), Jvm.Cond.code ({ cls := "java/lang/StringLatin1", name := "charAt", desc := "([BI)C" } : Jvm.MethodName) jdk_43_method_2_code (2 : Nat) (Option.some Jvm.ClassFile.FieldType.char), Jvm.Cond.code ({ cls := "java/lang/String", name := "checkIndex", desc := "(II)V" } : Jvm.MethodName) jdk_42_method_155_code (2 : Nat) (Option.none : Option Jvm.ClassFile.FieldType), Jvm.Cond.code ({ cls := "jdk/internal/util/Preconditions", name := "checkIndex", desc := "(IILjava/util/function/BiFunction;)I" } : Jvm.MethodName) jdk_41_method_11_code (3 : Nat) (Option.some Jvm.ClassFile.FieldType.int), Jvm.Cond.code ({ cls := "com/example/dutiful_pruner/dutifulpruner/collection/LineFileCollectionParseLinePinLaw", name := "digits", desc := "(J)I" } : Jvm.MethodName) method_4_code (4 : Nat) (Option.some Jvm.ClassFile.FieldType.int), Jvm.Cond.code ({ cls := "com/example/dutiful_pruner/dutifulpruner/collection/LineFileCollectionParseLinePinLaw", name := "idc", desc := "(Ljava/lang/String;JII[JI)Z" } : Jvm.MethodName) method_5_code (10 : Nat) (Option.some Jvm.ClassFile.FieldType.boolean), Jvm.Cond.code ({ cls := "java/lang/Math", name := "abs", desc := "(J)J" } : Jvm.MethodName) jdk_29_method_61_code (2 : Nat) (Option.some Jvm.ClassFile.FieldType.long)]
set_option maxRecDepth 65536 in
theorem codes_eq : words1.filter isCode = codes1 := rfl
theorem w_codes : ∀ c ∈ words1.filter isCode, c.before args0 about1 = true := by
  rw [codes_eq]
  intro c hc
  simp only [codes1, List.mem_cons, List.not_mem_nil, or_false] at hc
  rcases hc with rfl | rfl | rfl | rfl | rfl | rfl | rfl | rfl | rfl | rfl | rfl | rfl | rfl | rfl | rfl | rfl | rfl | rfl | rfl | rfl | rfl | rfl | rfl | rfl | rfl | rfl | rfl | rfl | rfl | rfl | rfl | rfl | rfl | rfl | rfl | rfl | rfl | rfl | rfl | rfl | rfl | rfl | rfl
  · exact w_c0
  · exact w_c1
  · exact w_c2
  · exact w_c3
  · exact w_c4
  · exact w_c5
  · exact w_c6
  · exact w_c7
  · exact w_c8
  · exact w_c9
  · exact w_c10
  · exact w_c11
  · exact w_c12
  · exact w_c13
  · exact w_c14
  · exact w_c15
  · exact w_c16
  · exact w_c17
  · exact w_c18
  · exact w_c19
  · exact w_c20
  · exact w_c21
  · exact w_c22
  · exact w_c23
  · exact w_c24
  · exact w_c25
  · exact w_c26
  · exact w_c27
  · exact w_c28
  · exact w_c29
  · exact w_c30
  · exact w_c31
  · exact w_c32
  · exact w_c33
  · exact w_c34
  · exact w_c35
  · exact w_c36
  · exact w_c37
  · exact w_c38
  · exact w_c39
  · exact w_c40
  · exact w_c41
  · exact w_c42
set_option maxRecDepth 65536 in
theorem w_t1 : (words1.take 24).all (fun c => isCode c || c.before args0 about1) = true := by decide +kernel
set_option maxRecDepth 65536 in
theorem w_t2 : ((words1.drop 24).take 24).all (fun c => isCode c || c.before args0 about1) = true := by decide +kernel
set_option maxRecDepth 65536 in
theorem w_t3 : (((words1.drop 24).drop 24).take 24).all (fun c => isCode c || c.before args0 about1) = true := by decide +kernel
set_option maxRecDepth 65536 in
theorem w_t4 : ((((words1.drop 24).drop 24).drop 24).take 24).all (fun c => isCode c || c.before args0 about1) = true := by decide +kernel
set_option maxRecDepth 65536 in
theorem w_t5 : (((((words1.drop 24).drop 24).drop 24).drop 24).take 24).all (fun c => isCode c || c.before args0 about1) = true := by decide +kernel
set_option maxRecDepth 65536 in
theorem w_t6 : ((((((words1.drop 24).drop 24).drop 24).drop 24).drop 24).take 24).all (fun c => isCode c || c.before args0 about1) = true := by decide +kernel
set_option maxRecDepth 65536 in
theorem w_t7 : (((((((words1.drop 24).drop 24).drop 24).drop 24).drop 24).drop 24).take 24).all (fun c => isCode c || c.before args0 about1) = true := by decide +kernel
set_option maxRecDepth 65536 in
theorem w_t8 : ((((((((words1.drop 24).drop 24).drop 24).drop 24).drop 24).drop 24).drop 24).take 24).all (fun c => isCode c || c.before args0 about1) = true := by decide +kernel
set_option maxRecDepth 65536 in
theorem w_t9 : (((((((((words1.drop 24).drop 24).drop 24).drop 24).drop 24).drop 24).drop 24).drop 24).take 24).all (fun c => isCode c || c.before args0 about1) = true := by decide +kernel
set_option maxRecDepth 65536 in
theorem w_t10 : (((((((((words1.drop 24).drop 24).drop 24).drop 24).drop 24).drop 24).drop 24).drop 24).drop 24).all (fun c => isCode c || c.before args0 about1) = true := by decide +kernel
theorem w_tables : (allAtoms (Jvm.Cond.code x code maxLocals ret :: tables_1)).before args0 about1 = true := by
  rw [allAtoms_all]
  show words1.all (fun c => c.before args0 about1) = true
  refine all_split ?_ w_codes
  rw [← List.take_append_drop 24 words1, List.all_append, w_t1, ← List.take_append_drop 24 (words1.drop 24), List.all_append, w_t2, ← List.take_append_drop 24 ((words1.drop 24).drop 24), List.all_append, w_t3, ← List.take_append_drop 24 (((words1.drop 24).drop 24).drop 24), List.all_append, w_t4, ← List.take_append_drop 24 ((((words1.drop 24).drop 24).drop 24).drop 24), List.all_append, w_t5, ← List.take_append_drop 24 (((((words1.drop 24).drop 24).drop 24).drop 24).drop 24), List.all_append, w_t6, ← List.take_append_drop 24 ((((((words1.drop 24).drop 24).drop 24).drop 24).drop 24).drop 24), List.all_append, w_t7, ← List.take_append_drop 24 (((((((words1.drop 24).drop 24).drop 24).drop 24).drop 24).drop 24).drop 24), List.all_append, w_t8, ← List.take_append_drop 24 ((((((((words1.drop 24).drop 24).drop 24).drop 24).drop 24).drop 24).drop 24).drop 24), List.all_append, w_t9, w_t10]
  rfl
set_option maxRecDepth 65536 in
theorem w_rest : rest_1_c.before args0 about1 = true := by decide +kernel
set_option maxRecDepth 65536 in
theorem w_case : (Jvm.Cond.and given_1 narrow_1).before args0 about1 = true := by decide +kernel
set_option maxRecDepth 65536 in
theorem w_consts : constsHeld consts_1 about1 := Jvm.Lit.constsHeldB_iff.mp (by decide +kernel)
theorem w_applies : (headSpec (Jvm.Cond.code x code maxLocals ret :: tables_1) room_1).applies x e0.platform about1 = true :=
  (Spec.applies_iff w_frames).mpr ⟨w_running, w_runnable, w_alone, w_named, w_hears, w_ripe, w_room, w_tables⟩
theorem atStart : AtStart classFile x code maxLocals ret World_1 tables_1 room_1 Calls_1 rest_1 Pre_1 launch0 p0 e0 about1 theMethod args0 below0 :=
  ⟨lists_1, trivial, launch0.admits_env _ _ _, launch0.least_env, fairChoices_fair.cas, fairChoices_fair.clock, w_frames, w_args, w_heap, w_applies, ⟨w_consts, trivial⟩, w_rest, w_case⟩
end start1
theorem witness_1 : WitnessClaimed_1 := ⟨start1.p0, start1.e0, start1.about1, start1.theMethod, start1.args0, start1.below0, start1.atStart⟩
end Jvm.Pilot.@@N@@
