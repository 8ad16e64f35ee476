import JvmDerived
import JvmDerived.Pilot.@@N@@Statement
import JvmDerived.Pilot.@@N@@Code
set_option linter.unusedVariables false
set_option linter.unusedSimpArgs false

namespace Jvm.Pilot.@@N@@
namespace Own
open Jvm Jvm.ClassFile Sem Op Lib Bundle Jvm.Free Jvm.Stand Jvm.LawKit Jvm.RoadKit
section Own
variable {l : Launch} {Z : State} {EL : List (String × Nat)} {y : MethodName} {bytes : ByteArray} {maxL : Nat} {ret : Option FieldType} {R : Room} {B0 : Addr → Prop} {Q : Option Value → Heap → (Addr → Prop) → Prop} {p : Program} {e : Env} {s : State} {m : MethodId} {args : Array Value} {below : List Frame} {meth : Method} {c : Code} {B : Addr → Prop} {T : State} {h h' : Heap} {k n : Nat} {a0 : Array Value} {pc pc' : Nat} {ls ls' : Array Slot} {st : List Value} {a b : Addr} {ws : List Addr} {ty : FieldType} {vs : List Value}
/-! facts on arrays and Strings -/
def Ar (Z : State) (h : Heap) (a : Addr) (ty : FieldType) (vs : List Value) : Prop := ∃ c : Cell, Arr Z h a c ty ∧ c.slots.toList = vs ∧ vs.length < 2 ^ 31 ∧ ∀ v ∈ vs, fits ty v = true
theorem Ar.keep (F : Ar Z h a ty vs) (K : Keep h h' ws) (q : a ∉ ws) : Ar Z h' a ty vs := by
  obtain ⟨c, A, r⟩ := F; exact ⟨c, ⟨K.2.1 a c A.1 q, A.2⟩, r⟩
theorem Ar.lt (F : Ar Z h a ty vs) : a < h.size := by obtain ⟨c, A, -⟩ := F; exact A.lt
theorem Ar.new {kc : ClassId} {z : Int32} (A : Arr Z h a (newA kc ty z) ty) (q : ¬ z < 0) : Ar Z h a ty (List.replicate z.toNatClampNeg (defaultValue ty)) :=
  ⟨_, A, by simp [newA], by simpa using (back32 q).2, fun v hv => by rw [List.eq_of_mem_replicate hv]; cases ty <;> rfl⟩
theorem len32 {n : Nat} (h : n < 2 ^ 31) : ¬ n.toInt32 < 0 ∧ n.toInt32.toNatClampNeg = n ∧ n.toInt32.toInt = n := by
  have e3 : n.toInt32.toInt = n := len_toInt h
  have e0 : (0 : Int32).toInt = 0 := rfl
  refine ⟨by rw [Int32.lt_iff_toInt_lt, e3, e0]; omega, by simp only [Int32.toNatClampNeg, e3]; omega, e3⟩
theorem Ar.toArv {z : Int32} (F : Ar Z h a ty vs) (hz : vs.length.toInt32 = z) (d : Value) : ∃ k, Arv Z h a k ty z vs d := by
  obtain ⟨c, A, e, hl, hf⟩ := F
  subst hz
  obtain ⟨q1, q2, -⟩ := len32 hl
  have e2 : c.slots.size = vs.length := by rw [← e]; simp
  refine ⟨c.cls, c, A, rfl, by rw [e2, q2], q1, fun i hi => ?_, fun i hi => ?_⟩
  · have hi' : i < vs.length := by omega
    rw [← Array.getElem?_toList, e, List.getD_eq_getElem?_getD, List.getElem?_eq_getElem hi']; rfl
  · have hi' : i < vs.length := by omega
    rw [List.getD_eq_getElem?_getD, List.getElem?_eq_getElem hi']; exact hf _ (List.getElem_mem _)
theorem Ar.ofArv {kc : ClassId} {z : Int32} {d : Value} (F : Arv Z h a kc ty z vs d) (hl : z.toNatClampNeg = vs.length) : Ar Z h a ty vs := by
  obtain ⟨c, A, -, S, q, H, G⟩ := F
  have e2 : c.slots.size = vs.length := by rw [S, hl]
  have e3 : c.slots.toList = vs := by
    apply List.ext_getElem?
    intro i
    by_cases hi : i < vs.length
    · rw [Array.getElem?_toList, H i (by omega), List.getD_eq_getElem?_getD, List.getElem?_eq_getElem hi]; rfl
    · rw [List.getElem?_eq_none (by rw [Array.length_toList]; omega), List.getElem?_eq_none (by omega)]
  refine ⟨c, A, e3, by rw [← hl]; exact (back32 q).2, fun v hv => ?_⟩
  obtain ⟨i, hi, rfl⟩ := List.getElem_of_mem hv
  have := G i (by omega)
  rwa [List.getD_eq_getElem?_getD, List.getElem?_eq_getElem hi] at this
theorem Ar.len_lt (F : Ar Z h a ty vs) : vs.length < 2 ^ 31 := by obtain ⟨c, A, e, hl, hf⟩ := F; exact hl
theorem Ar.fit (F : Ar Z h a ty vs) : ∀ v ∈ vs, fits ty v = true := by obtain ⟨c, A, e, hl, hf⟩ := F; exact hf
abbrev ST : String := "java/lang/String"
/-- bytes of Latin-1 chars -/
abbrev by8 (cs : List Int32) : List Value := cs.map fun c => Value.int c.toInt8.toInt32
def Lat (cs : List Int32) : Prop := ∀ c ∈ cs, 0 ≤ c.toInt ∧ c.toInt ≤ 255
/-- a is a String of the Latin-1 chars cs, its bytes in b -/
def Str (Z : State) (h : Heap) (a b : Addr) (cs : List Int32) : Prop := Exa Z h a ST ∧ Fld Z h a ST "coder" "B" (.int 0) ∧ Fld Z h a ST "value" "[B" (.ref b) ∧ Ar Z h b .byte (by8 cs) ∧ Lat cs
theorem Str.keep {cs : List Int32} (F : Str Z h a b cs) (K : Keep h h' ws) (q : a ∉ ws) (q' : b ∉ ws) : Str Z h' a b cs := ⟨F.1.keep K, F.2.1.keep K q, F.2.2.1.keep K q, F.2.2.2.1.keep K q', F.2.2.2.2⟩
theorem Str.exa {cs : List Int32} (F : Str Z h a b cs) : Exa Z h a ST := F.1
theorem Str.cod {cs : List Int32} (F : Str Z h a b cs) : Fld Z h a ST "coder" "B" (.int 0) := F.2.1
theorem Str.val {cs : List Int32} (F : Str Z h a b cs) : Fld Z h a ST "value" "[B" (.ref b) := F.2.2.1
theorem Str.arr {cs : List Int32} (F : Str Z h a b cs) : Ar Z h b .byte (by8 cs) := F.2.2.2.1
theorem Str.lat {cs : List Int32} (F : Str Z h a b cs) : Lat cs := F.2.2.2.2
theorem Str.lt {cs : List Int32} (F : Str Z h a b cs) : a < h.size := F.1.lt
theorem Str.ltb {cs : List Int32} (F : Str Z h a b cs) : b < h.size := F.arr.lt
theorem Str.len_lt {cs : List Int32} (F : Str Z h a b cs) : cs.length < 2 ^ 31 := by simpa using F.arr.len_lt
theorem strc {cs ds : List Int32} (F : Str Z h a b cs) (q : cs = ds) : Str Z h a b ds := q ▸ F
theorem Ar.ext (E : Ext h h') (F : Ar Z h a ty vs) : Ar Z h' a ty vs := by obtain ⟨c, A, r⟩ := F; exact ⟨c, A.ext E, r⟩
theorem Str.ext {cs : List Int32} (E : Ext h h') (F : Str Z h a b cs) : Str Z h' a b cs := ⟨F.1.ext E, F.2.1.ext E, F.2.2.1.ext E, F.2.2.2.1.ext E, F.2.2.2.2⟩
abbrev ASB : String := "java/lang/AbstractStringBuilder"
/-- a is a StringBuilder that holds the Latin-1 chars cs, in the array v of length cap -/
def Sb (Z : State) (h : Heap) (a v : Addr) (cs : List Int32) (cap : Nat) : Prop := Exa Z h a "java/lang/StringBuilder" ∧ Fld Z h a ASB "value" "[B" (.ref v) ∧ Fld Z h a ASB "coder" "B" (.int 0) ∧ Fld Z h a ASB "count" "I" (.int cs.length.toInt32) ∧ Lat cs ∧ cs.length ≤ cap ∧ ∃ vs, Ar Z h v .byte vs ∧ vs.length = cap ∧ vs.take cs.length = by8 cs
theorem Sb.keep {v : Addr} {cs : List Int32} {cap : Nat} (F : Sb Z h a v cs cap) (K : Keep h h' ws) (q : a ∉ ws) (q' : v ∉ ws) : Sb Z h' a v cs cap := by
  obtain ⟨h1, h2, h3, h4, h5, h6, vs, h7, h8⟩ := F
  exact ⟨h1.keep K, h2.keep K q, h3.keep K q, h4.keep K q, h5, h6, vs, h7.keep K q', h8⟩
theorem Sb.exa {v : Addr} {cs : List Int32} {cap : Nat} (F : Sb Z h a v cs cap) : Exa Z h a "java/lang/StringBuilder" := F.1
theorem Sb.val {v : Addr} {cs : List Int32} {cap : Nat} (F : Sb Z h a v cs cap) : Fld Z h a ASB "value" "[B" (.ref v) := F.2.1
theorem Sb.cod {v : Addr} {cs : List Int32} {cap : Nat} (F : Sb Z h a v cs cap) : Fld Z h a ASB "coder" "B" (.int 0) := F.2.2.1
theorem Sb.cnt {v : Addr} {cs : List Int32} {cap : Nat} (F : Sb Z h a v cs cap) : Fld Z h a ASB "count" "I" (.int cs.length.toInt32) := F.2.2.2.1
theorem Sb.lat {v : Addr} {cs : List Int32} {cap : Nat} (F : Sb Z h a v cs cap) : Lat cs := F.2.2.2.2.1
theorem Sb.lt {v : Addr} {cs : List Int32} {cap : Nat} (F : Sb Z h a v cs cap) : a < h.size := F.1.lt
theorem Sb.ltb {v : Addr} {cs : List Int32} {cap : Nat} (F : Sb Z h a v cs cap) : v < h.size := by obtain ⟨h1, h2, h3, h4, h5, h6, vs, h7, h8⟩ := F; exact h7.lt
/-- the array at a takes objects of class C -/
def Tk (Z : State) (h : Heap) (a : Addr) (C : String) : Prop := ∃ (c : Cell) (ty : FieldType), Arr Z h a c ty ∧ Ovr Z c.cls C
theorem Tk.keep {C : String} (F : Tk Z h a C) (K : Keep h h' ws) : Tk Z h' a C := by
  obtain ⟨c, ty, ⟨h1, ⟨s1, k1, s2, comp, s3⟩, h3⟩, O⟩ := F
  obtain ⟨c', q1, q2, q3, q4⟩ := K.2.2 a c h1
  exact ⟨c', ty, ⟨q1, ⟨by rw [q3]; exact s1, k1, by rw [q2]; exact s2, comp, s3⟩, by rw [q3]; exact h3⟩, by rw [q2]; exact O⟩
theorem exa_ne_ar {C : String} {kI : Nat} (E : Exa Z h a C) (wi : (Jvm.Cond.instantiable C kI).before a0 Z = true) (A : Ar Z h b ty vs) : a ≠ b := by obtain ⟨c, A, -⟩ := A; exact ne_arr E wi A
theorem ar_ne {ty' : FieldType} {vs' : List Value} (A : Ar Z h a ty vs) (A' : Ar Z h b ty' vs') (ht : ty ≠ ty') : a ≠ b := fun q => by
  subst q
  obtain ⟨c, ⟨h1, ⟨-, k1, h2, c1, h3⟩, -⟩, -⟩ := A
  obtain ⟨c', ⟨g1, ⟨-, k2, g2, c2, g3⟩, -⟩, -⟩ := A'
  cases h1.symm.trans g1
  cases h2.symm.trans g2
  have := h3.symm.trans g3
  injection this with _ e
  exact ht e
theorem ltb {a b : Nat} (q : Nat.ble (a + 1) b = true) : a < b := Nat.le_of_ble_eq_true q
theorem leb {a b : Nat} (q : Nat.ble a b = true) : a ≤ b := Nat.le_of_ble_eq_true q
/-! where the walk stands -/
def En (Z : State) (B : Addr → Prop) (h : Heap) : Prop := Ext Z.heap h ∧ ∀ x, B x → x < h.size
def Wk (l : Launch) (Z : State) (EL : List (String × Nat)) (y : MethodName) (bytes : ByteArray) (maxL : Nat) (ret : Option FieldType) (R : Room) (B0 : Addr → Prop) (p : Program) (e : Env) (s : State) (m : MethodId) (args : Array Value) (below : List Frame) (meth : Method) (c : Code) (B : Addr → Prop) (T : State) (h : Heap) (k n : Nat) : Prop :=
  (p.tables.exec = Jvm.exec ∧ c.code = bytes ∧ c.maxLocals = maxL ∧ meth.sig.returnType = ret ∧ meth.locks = false ∧ meth.name = y.name ∧ ∃ a1, EW Z a1 EL) ∧
  En Z B h ∧ s.heap.size ≤ h.size ∧ (∀ x, B x → B0 x ∨ s.heap.size ≤ x) ∧
  ∃ (V : Vm) (locs : List Loc) (q : Nat), Stand p l e R (s.setVm V) m args below meth c T locs k n ∧ T.heap = h ∧ Z.Warmed39 V ∧ V.findClass y.cls = some m.cls ∧ s.Since V q ∧ q ≤ h.size ∧ Fr Z.heap.size locs ∧ CHv Z EL V h ∧ (∀ x, Bk Z EL V h x → B x)
def Go (l : Launch) (Z : State) (EL : List (String × Nat)) (R : Room) (B0 : Addr → Prop) (Q : Option Value → Heap → (Addr → Prop) → Prop) (p : Program) (e : Env) (s : State) (m : MethodId) (below : List Frame) (T : State) (pc : Nat) (ls : Array Slot) (st : List Value) : Prop :=
  ∃ s₂ o, Steps p.tables e below (T.setTop (mkF m pc ls st)) s₂ ∧ s₂.status = .running ∧ Ended s₂ below o ∧ ∃ v L B', o = .returned v ∧ Fr Z.heap.size L ∧ CHv Z EL s₂.vm s₂.heap ∧ (∀ x, Bk Z EL s₂.vm s₂.heap x → B' x) ∧ (∀ x, B' x → B0 x ∨ s.heap.size ≤ x) ∧ En Z B' s₂.heap ∧ s.heap.size ≤ s₂.heap.size ∧ Q v s₂.heap B' ∧ ReturnedEndW s o s₂ L R.cells R.slots
def Con (l : Launch) (Z : State) (EL : List (String × Nat)) (wl : List Jvm.Cond) (y : MethodName) (bytes : ByteArray) (maxL : Nat) (ret : Option FieldType) (rm : Room) (B : Addr → Prop) (h : Heap) (as' : Array Value) (Q : Option Value → Heap → (Addr → Prop) → Prop) : Prop :=
  MetFree l y (head1 (Jvm.Cond.code y bytes maxL ret :: wl) rm) (fun a U => a = as' ∧ Z.Warmed39 U.vm ∧ U.heap = h ∧ CHv Z EL U.vm h ∧ ∀ x, Bk Z EL U.vm h x → B x) (fun _ _ _ _ _ => True)
    (fun _ U o U' => ∃ v L B', o = .returned v ∧ Fr Z.heap.size L ∧ CHv Z EL U'.vm U'.heap ∧ (∀ x, Bk Z EL U'.vm U'.heap x → B' x) ∧ (∀ x, B' x → B x ∨ h.size ≤ x) ∧ En Z B' U'.heap ∧ h.size ≤ U'.heap.size ∧ Q v U'.heap B' ∧ ReturnedEndW U o U' L rm.cells rm.slots)
theorem Wk.hx (X : Wk l Z EL y bytes maxL ret R B0 p e s m args below meth c B T h k n) : p.tables.exec = Jvm.exec := X.1.1
theorem Wk.dec (X : Wk l Z EL y bytes maxL ret R B0 p e s m args below meth c B T h k n) {r : Except DecodeError (Instr × Nat)} (hd : decode bytes pc = r) : decode c.code pc = r := X.1.2.1 ▸ hd
theorem Wk.en (X : Wk l Z EL y bytes maxL ret R B0 p e s m args below meth c B T h k n) : En Z B h := X.2.1
theorem Wk.old (X : Wk l Z EL y bytes maxL ret R B0 p e s m args below meth c B T h k n) : Ext Z.heap h := X.2.1.1
theorem Wk.z0 (X : Wk l Z EL y bytes maxL ret R B0 p e s m args below meth c B T h k n) : Z.heap.size ≤ h.size := X.2.1.1.1
theorem Wk.zs (X : Wk l Z EL y bytes maxL ret R B0 p e s m args below meth c B T h k n) : s.heap.size ≤ h.size := X.2.2.1
theorem Wk.nb (X : Wk l Z EL y bytes maxL ret R B0 p e s m args below meth c B T h k n) (q : h.size ≤ a) : ¬ B a := fun r => absurd (X.2.1.2 a r) (Nat.not_lt.mpr q)
theorem Wk.here (X : Wk l Z EL y bytes maxL ret R B0 p e s m args below meth c B T h k n) : At T m c below := by obtain ⟨-, -, -, -, V, locs, q, X1, -⟩ := X; exact X1.here
theorem Wk.mono (X : Wk l Z EL y bytes maxL ret R B0 p e s m args below meth c B T h k n) {k' n' : Nat} (q : k ≤ k') (r : n ≤ n') : Wk l Z EL y bytes maxL ret R B0 p e s m args below meth c B T h k' n' := by
  obtain ⟨i, hE, hz, hB, V, locs, q0, X1, rest⟩ := X; exact ⟨i, hE, hz, hB, V, locs, q0, X1.mono q r, rest⟩
theorem Go.step {T' : State} {st' : List Value} (hst : ∀ t, Steps p.tables e below (T'.setTop (mkF m pc' ls' st')) t → Steps p.tables e below (T.setTop (mkF m pc ls st)) t) (g : Go l Z EL R B0 Q p e s m below T' pc' ls' st') : Go l Z EL R B0 Q p e s m below T pc ls st := by
  obtain ⟨s₂, o, h1, r⟩ := g
  exact ⟨s₂, o, hst _ h1, r⟩
theorem Go.via {T' : State} {st' : List Value} (hst : Steps p.tables e below (T.setTop (mkF m pc ls st)) (T'.setTop (mkF m pc' ls' st'))) (g : Go l Z EL R B0 Q p e s m below T' pc' ls' st') : Go l Z EL R B0 Q p e s m below T pc ls st := Go.step (fun _ r => hst.trans r) g
theorem gh (e1 : Go l Z EL R B0 Q p e s m below T pc ls st) (e2 : st = vs) : Go l Z EL R B0 Q p e s m below T pc ls vs := e2 ▸ e1

theorem W.iload (X : Wk l Z EL y bytes maxL ret R B0 p e s m args below meth c B T h k n) {j : Nat} {v : Int32} (hd : decode bytes pc = .ok (.iload j, 2)) (hl : ls[j]? = some (.val (.int v))) (hp : pc + 2 = pc') (g : Go l Z EL R B0 Q p e s m below T pc' ls (.int v :: st)) : Go l Z EL R B0 Q p e s m below T pc ls st := by
  subst hp; exact Go.step (fun t hr => XS.iload X.here X.hx rfl (X.dec hd) hl hr) g
theorem W.iloadN (X : Wk l Z EL y bytes maxL ret R B0 p e s m args below meth c B T h k n) {j : Fin 4} {v : Int32} (hd : decode bytes pc = .ok (.iload_n j, 1)) (hl : ls[j.val]? = some (.val (.int v))) (hp : pc + 1 = pc') (g : Go l Z EL R B0 Q p e s m below T pc' ls (.int v :: st)) : Go l Z EL R B0 Q p e s m below T pc ls st := by
  subst hp; exact Go.step (fun t hr => XS.iloadN X.here X.hx rfl (X.dec hd) hl hr) g
theorem W.istore (X : Wk l Z EL y bytes maxL ret R B0 p e s m args below meth c B T h k n) {j : Nat} {v : Int32} (hd : decode bytes pc = .ok (.istore j, 2)) (hl : storeLocals ls j (.int v) = some ls') (hp : pc + 2 = pc') (g : Go l Z EL R B0 Q p e s m below T pc' ls' st) : Go l Z EL R B0 Q p e s m below T pc ls (.int v :: st) := by
  subst hp; exact Go.step (fun t hr => XS.istore X.here X.hx rfl (X.dec hd) rfl hl hr) g
theorem W.istoreN (X : Wk l Z EL y bytes maxL ret R B0 p e s m args below meth c B T h k n) {j : Fin 4} {v : Int32} (hd : decode bytes pc = .ok (.istore_n j, 1)) (hl : storeLocals ls j.val (.int v) = some ls') (hp : pc + 1 = pc') (g : Go l Z EL R B0 Q p e s m below T pc' ls' st) : Go l Z EL R B0 Q p e s m below T pc ls (.int v :: st) := by
  subst hp; exact Go.step (fun t hr => XS.istoreN X.here X.hx rfl (X.dec hd) rfl hl hr) g
theorem W.lload (X : Wk l Z EL y bytes maxL ret R B0 p e s m args below meth c B T h k n) {j : Nat} {v : Int64} (hd : decode bytes pc = .ok (.lload j, 2)) (hl : ls[j]? = some (.val (.long v))) (hp : pc + 2 = pc') (g : Go l Z EL R B0 Q p e s m below T pc' ls (.long v :: st)) : Go l Z EL R B0 Q p e s m below T pc ls st := by
  subst hp; exact Go.step (fun t hr => XT.lload X.here X.hx rfl (X.dec hd) hl hr) g
theorem W.lloadN (X : Wk l Z EL y bytes maxL ret R B0 p e s m args below meth c B T h k n) {j : Fin 4} {v : Int64} (hd : decode bytes pc = .ok (.lload_n j, 1)) (hl : ls[j.val]? = some (.val (.long v))) (hp : pc + 1 = pc') (g : Go l Z EL R B0 Q p e s m below T pc' ls (.long v :: st)) : Go l Z EL R B0 Q p e s m below T pc ls st := by
  subst hp; exact Go.step (fun t hr => XT.lloadN X.here X.hx rfl (X.dec hd) hl hr) g
theorem W.lstore (X : Wk l Z EL y bytes maxL ret R B0 p e s m args below meth c B T h k n) {j : Nat} {v : Int64} (hd : decode bytes pc = .ok (.lstore j, 2)) (hl : storeLocals ls j (.long v) = some ls') (hp : pc + 2 = pc') (g : Go l Z EL R B0 Q p e s m below T pc' ls' st) : Go l Z EL R B0 Q p e s m below T pc ls (.long v :: st) := by
  subst hp; exact Go.step (fun t hr => XT.lstore X.here X.hx rfl (X.dec hd) rfl hl hr) g
theorem W.lstoreN (X : Wk l Z EL y bytes maxL ret R B0 p e s m args below meth c B T h k n) {j : Fin 4} {v : Int64} (hd : decode bytes pc = .ok (.lstore_n j, 1)) (hl : storeLocals ls j.val (.long v) = some ls') (hp : pc + 1 = pc') (g : Go l Z EL R B0 Q p e s m below T pc' ls' st) : Go l Z EL R B0 Q p e s m below T pc ls (.long v :: st) := by
  subst hp; exact Go.step (fun t hr => XT.lstoreN X.here X.hx rfl (X.dec hd) rfl hl hr) g
theorem W.aload (X : Wk l Z EL y bytes maxL ret R B0 p e s m args below meth c B T h k n) {j : Nat} {v : Value} (hd : decode bytes pc = .ok (.aload j, 2)) (hl : ls[j]? = some (.val v)) (hv : v.isRef = true) (hp : pc + 2 = pc') (g : Go l Z EL R B0 Q p e s m below T pc' ls (v :: st)) : Go l Z EL R B0 Q p e s m below T pc ls st := by
  subst hp; exact Go.step (fun t hr => XS.aload X.here X.hx rfl (X.dec hd) hl hv hr) g
theorem W.aloadN (X : Wk l Z EL y bytes maxL ret R B0 p e s m args below meth c B T h k n) {j : Fin 4} {v : Value} (hd : decode bytes pc = .ok (.aload_n j, 1)) (hl : ls[j.val]? = some (.val v)) (hv : v.isRef = true) (hp : pc + 1 = pc') (g : Go l Z EL R B0 Q p e s m below T pc' ls (v :: st)) : Go l Z EL R B0 Q p e s m below T pc ls st := by
  subst hp; exact Go.step (fun t hr => XS.aloadN X.here X.hx rfl (X.dec hd) hl hv hr) g
theorem W.astore (X : Wk l Z EL y bytes maxL ret R B0 p e s m args below meth c B T h k n) {j : Nat} {v : Value} (hd : decode bytes pc = .ok (.astore j, 2)) (hv : v.isRef = true) (hl : storeLocals ls j v = some ls') (hp : pc + 2 = pc') (g : Go l Z EL R B0 Q p e s m below T pc' ls' st) : Go l Z EL R B0 Q p e s m below T pc ls (v :: st) := by
  subst hp; exact Go.step (fun t hr => XS.astore X.here X.hx rfl (X.dec hd) rfl hv hl hr) g
theorem W.astoreN (X : Wk l Z EL y bytes maxL ret R B0 p e s m args below meth c B T h k n) {j : Fin 4} {v : Value} (hd : decode bytes pc = .ok (.astore_n j, 1)) (hv : v.isRef = true) (hl : storeLocals ls j.val v = some ls') (hp : pc + 1 = pc') (g : Go l Z EL R B0 Q p e s m below T pc' ls' st) : Go l Z EL R B0 Q p e s m below T pc ls (v :: st) := by
  subst hp; exact Go.step (fun t hr => XS.astoreN X.here X.hx rfl (X.dec hd) rfl hv hl hr) g
theorem W.iconst (X : Wk l Z EL y bytes maxL ret R B0 p e s m args below meth c B T h k n) {i : Int} (v : Int32) (hd : decode bytes pc = .ok (.iconst i, 1)) (hv : Int32.ofInt i = v) (hp : pc + 1 = pc') (g : Go l Z EL R B0 Q p e s m below T pc' ls (.int v :: st)) : Go l Z EL R B0 Q p e s m below T pc ls st := by
  subst hp; exact Go.step (fun t hr => XT.iconstV X.here X.hx rfl v (X.dec hd) hv hr) g
theorem W.bipush (X : Wk l Z EL y bytes maxL ret R B0 p e s m args below meth c B T h k n) {i : Int} (v : Int32) (hd : decode bytes pc = .ok (.bipush i, 2)) (hv : (Int8.ofInt i).toInt32 = v) (hp : pc + 2 = pc') (g : Go l Z EL R B0 Q p e s m below T pc' ls (.int v :: st)) : Go l Z EL R B0 Q p e s m below T pc ls st := by
  subst hp; exact Go.step (fun t hr => XT.bipushV X.here X.hx rfl v (X.dec hd) hv hr) g
theorem W.sipush (X : Wk l Z EL y bytes maxL ret R B0 p e s m args below meth c B T h k n) {i : Int} (v : Int32) (hd : decode bytes pc = .ok (.sipush i, 3)) (hv : (Int16.ofInt i).toInt32 = v) (hp : pc + 3 = pc') (g : Go l Z EL R B0 Q p e s m below T pc' ls (.int v :: st)) : Go l Z EL R B0 Q p e s m below T pc ls st := by
  subst hp; exact Go.step (fun t hr => XT.sipushV X.here X.hx rfl v (X.dec hd) hv hr) g
theorem W.lconst (X : Wk l Z EL y bytes maxL ret R B0 p e s m args below meth c B T h k n) {i : Fin 2} (v : Int64) (hd : decode bytes pc = .ok (.lconst i, 1)) (hv : Int64.ofNat i = v) (hp : pc + 1 = pc') (g : Go l Z EL R B0 Q p e s m below T pc' ls (.long v :: st)) : Go l Z EL R B0 Q p e s m below T pc ls st := by
  subst hp; exact Go.step (fun t hr => XT.lconstV X.here X.hx rfl v (X.dec hd) hv hr) g
theorem W.aconst_null (X : Wk l Z EL y bytes maxL ret R B0 p e s m args below meth c B T h k n)  (hd : decode bytes pc = .ok (.aconst_null, 1))  (hp : pc + 1 = pc') (g : Go l Z EL R B0 Q p e s m below T pc' ls (.null :: st)) : Go l Z EL R B0 Q p e s m below T pc ls st := by
  subst hp; exact Go.step (fun t hr => XS.aconstNull X.here X.hx rfl (X.dec hd) hr) g
theorem W.iadd (X : Wk l Z EL y bytes maxL ret R B0 p e s m args below meth c B T h k n) {x z : Int32} {w : Int32} (hd : decode bytes pc = .ok (.iadd, 1)) (hw : x + z = w) (hp : pc + 1 = pc') (g : Go l Z EL R B0 Q p e s m below T pc' ls (.int w :: st)) : Go l Z EL R B0 Q p e s m below T pc ls (.int z :: .int x :: st) := by
  subst hp; exact Go.step (fun t hr => by subst hw; exact XS.iadd X.here X.hx rfl (X.dec hd) rfl hr) g
theorem W.isub (X : Wk l Z EL y bytes maxL ret R B0 p e s m args below meth c B T h k n) {x z : Int32} {w : Int32} (hd : decode bytes pc = .ok (.isub, 1)) (hw : x - z = w) (hp : pc + 1 = pc') (g : Go l Z EL R B0 Q p e s m below T pc' ls (.int w :: st)) : Go l Z EL R B0 Q p e s m below T pc ls (.int z :: .int x :: st) := by
  subst hp; exact Go.step (fun t hr => by subst hw; exact XS.isub X.here X.hx rfl (X.dec hd) rfl hr) g
theorem W.iand (X : Wk l Z EL y bytes maxL ret R B0 p e s m args below meth c B T h k n) {x z : Int32} {w : Int32} (hd : decode bytes pc = .ok (.iand, 1)) (hw : x &&& z = w) (hp : pc + 1 = pc') (g : Go l Z EL R B0 Q p e s m below T pc' ls (.int w :: st)) : Go l Z EL R B0 Q p e s m below T pc ls (.int z :: .int x :: st) := by
  subst hp; exact Go.step (fun t hr => by subst hw; exact XS.iand X.here X.hx rfl (X.dec hd) rfl hr) g
theorem W.imul (X : Wk l Z EL y bytes maxL ret R B0 p e s m args below meth c B T h k n) {x z : Int32} {w : Int32} (hd : decode bytes pc = .ok (.imul, 1)) (hw : x * z = w) (hp : pc + 1 = pc') (g : Go l Z EL R B0 Q p e s m below T pc' ls (.int w :: st)) : Go l Z EL R B0 Q p e s m below T pc ls (.int z :: .int x :: st) := by
  subst hp; exact Go.step (fun t hr => by subst hw; exact XS.imul X.here X.hx rfl (X.dec hd) rfl hr) g
theorem W.ixor (X : Wk l Z EL y bytes maxL ret R B0 p e s m args below meth c B T h k n) {x z : Int32} {w : Int32} (hd : decode bytes pc = .ok (.ixor, 1)) (hw : x ^^^ z = w) (hp : pc + 1 = pc') (g : Go l Z EL R B0 Q p e s m below T pc' ls (.int w :: st)) : Go l Z EL R B0 Q p e s m below T pc ls (.int z :: .int x :: st) := by
  subst hp; exact Go.step (fun t hr => by subst hw; exact XT.ixor X.here X.hx rfl (X.dec hd) rfl hr) g
theorem W.ior (X : Wk l Z EL y bytes maxL ret R B0 p e s m args below meth c B T h k n) {x z : Int32} {w : Int32} (hd : decode bytes pc = .ok (.ior, 1)) (hw : x ||| z = w) (hp : pc + 1 = pc') (g : Go l Z EL R B0 Q p e s m below T pc' ls (.int w :: st)) : Go l Z EL R B0 Q p e s m below T pc ls (.int z :: .int x :: st) := by
  subst hp; exact Go.step (fun t hr => by subst hw; exact XT.ior X.here X.hx rfl (X.dec hd) rfl hr) g
theorem W.ishl (X : Wk l Z EL y bytes maxL ret R B0 p e s m args below meth c B T h k n) {x z : Int32} {w : Int32} (hd : decode bytes pc = .ok (.ishl, 1)) (hw : x <<< (z &&& 31) = w) (hp : pc + 1 = pc') (g : Go l Z EL R B0 Q p e s m below T pc' ls (.int w :: st)) : Go l Z EL R B0 Q p e s m below T pc ls (.int z :: .int x :: st) := by
  subst hp; exact Go.step (fun t hr => by subst hw; exact XT.ishl X.here X.hx rfl (X.dec hd) rfl hr) g
theorem W.ishr (X : Wk l Z EL y bytes maxL ret R B0 p e s m args below meth c B T h k n) {x z : Int32} {w : Int32} (hd : decode bytes pc = .ok (.ishr, 1)) (hw : x >>> (z &&& 31) = w) (hp : pc + 1 = pc') (g : Go l Z EL R B0 Q p e s m below T pc' ls (.int w :: st)) : Go l Z EL R B0 Q p e s m below T pc ls (.int z :: .int x :: st) := by
  subst hp; exact Go.step (fun t hr => by subst hw; exact XT.ishr X.here X.hx rfl (X.dec hd) rfl hr) g
theorem W.iushr (X : Wk l Z EL y bytes maxL ret R B0 p e s m args below meth c B T h k n) {x z : Int32} {w : Int32} (hd : decode bytes pc = .ok (.iushr, 1)) (hw : XT.ushr x z = w) (hp : pc + 1 = pc') (g : Go l Z EL R B0 Q p e s m below T pc' ls (.int w :: st)) : Go l Z EL R B0 Q p e s m below T pc ls (.int z :: .int x :: st) := by
  subst hp; exact Go.step (fun t hr => by subst hw; exact XT.iushr X.here X.hx rfl (X.dec hd) rfl hr) g
theorem W.idiv (X : Wk l Z EL y bytes maxL ret R B0 p e s m args below meth c B T h k n) {x z : Int32} {w : Int32} (hd : decode bytes pc = .ok (.idiv, 1)) (hz : z ≠ 0) (hw : x / z = w) (hp : pc + 1 = pc') (g : Go l Z EL R B0 Q p e s m below T pc' ls (.int w :: st)) : Go l Z EL R B0 Q p e s m below T pc ls (.int z :: .int x :: st) := by
  subst hp; exact Go.step (fun t hr => by subst hw; exact XS.idiv X.here X.hx rfl (X.dec hd) rfl hz hr) g
theorem W.irem (X : Wk l Z EL y bytes maxL ret R B0 p e s m args below meth c B T h k n) {x z : Int32} {w : Int32} (hd : decode bytes pc = .ok (.irem, 1)) (hz : z ≠ 0) (hw : x % z = w) (hp : pc + 1 = pc') (g : Go l Z EL R B0 Q p e s m below T pc' ls (.int w :: st)) : Go l Z EL R B0 Q p e s m below T pc ls (.int z :: .int x :: st) := by
  subst hp; exact Go.step (fun t hr => by subst hw; exact XS.irem X.here X.hx rfl (X.dec hd) rfl hz (by rw [Jvm.irem_eq_mod]; exact hr)) g
theorem W.ineg (X : Wk l Z EL y bytes maxL ret R B0 p e s m args below meth c B T h k n) {x : Int32} {w : Int32} (hd : decode bytes pc = .ok (.ineg, 1)) (hw : -x = w) (hp : pc + 1 = pc') (g : Go l Z EL R B0 Q p e s m below T pc' ls (.int w :: st)) : Go l Z EL R B0 Q p e s m below T pc ls (.int x :: st) := by
  subst hp; exact Go.step (fun t hr => by subst hw; exact XS.ineg X.here X.hx rfl (X.dec hd) rfl hr) g
theorem W.ladd (X : Wk l Z EL y bytes maxL ret R B0 p e s m args below meth c B T h k n) {x z : Int64} {w : Int64} (hd : decode bytes pc = .ok (.ladd, 1)) (hw : x + z = w) (hp : pc + 1 = pc') (g : Go l Z EL R B0 Q p e s m below T pc' ls (.long w :: st)) : Go l Z EL R B0 Q p e s m below T pc ls (.long z :: .long x :: st) := by
  subst hp; exact Go.step (fun t hr => by subst hw; exact XT.ladd X.here X.hx rfl (X.dec hd) rfl hr) g
theorem W.lsub (X : Wk l Z EL y bytes maxL ret R B0 p e s m args below meth c B T h k n) {x z : Int64} {w : Int64} (hd : decode bytes pc = .ok (.lsub, 1)) (hw : x - z = w) (hp : pc + 1 = pc') (g : Go l Z EL R B0 Q p e s m below T pc' ls (.long w :: st)) : Go l Z EL R B0 Q p e s m below T pc ls (.long z :: .long x :: st) := by
  subst hp; exact Go.step (fun t hr => by subst hw; exact XT.lsub X.here X.hx rfl (X.dec hd) rfl hr) g
theorem W.land (X : Wk l Z EL y bytes maxL ret R B0 p e s m args below meth c B T h k n) {x z : Int64} {w : Int64} (hd : decode bytes pc = .ok (.land, 1)) (hw : x &&& z = w) (hp : pc + 1 = pc') (g : Go l Z EL R B0 Q p e s m below T pc' ls (.long w :: st)) : Go l Z EL R B0 Q p e s m below T pc ls (.long z :: .long x :: st) := by
  subst hp; exact Go.step (fun t hr => by subst hw; exact XT.land X.here X.hx rfl (X.dec hd) rfl hr) g
theorem W.lmul (X : Wk l Z EL y bytes maxL ret R B0 p e s m args below meth c B T h k n) {x z : Int64} {w : Int64} (hd : decode bytes pc = .ok (.lmul, 1)) (hw : x * z = w) (hp : pc + 1 = pc') (g : Go l Z EL R B0 Q p e s m below T pc' ls (.long w :: st)) : Go l Z EL R B0 Q p e s m below T pc ls (.long z :: .long x :: st) := by
  subst hp; exact Go.step (fun t hr => by subst hw; exact XT.lmul X.here X.hx rfl (X.dec hd) rfl hr) g
theorem W.lor (X : Wk l Z EL y bytes maxL ret R B0 p e s m args below meth c B T h k n) {x z : Int64} {w : Int64} (hd : decode bytes pc = .ok (.lor, 1)) (hw : x ||| z = w) (hp : pc + 1 = pc') (g : Go l Z EL R B0 Q p e s m below T pc' ls (.long w :: st)) : Go l Z EL R B0 Q p e s m below T pc ls (.long z :: .long x :: st) := by
  subst hp; exact Go.step (fun t hr => by subst hw; exact XT.lor X.here X.hx rfl (X.dec hd) rfl hr) g
theorem W.ldiv (X : Wk l Z EL y bytes maxL ret R B0 p e s m args below meth c B T h k n) {x z : Int64} {w : Int64} (hd : decode bytes pc = .ok (.ldiv, 1)) (hz : z ≠ 0) (hw : x / z = w) (hp : pc + 1 = pc') (g : Go l Z EL R B0 Q p e s m below T pc' ls (.long w :: st)) : Go l Z EL R B0 Q p e s m below T pc ls (.long z :: .long x :: st) := by
  subst hp; exact Go.step (fun t hr => by subst hw; exact XT.ldiv X.here X.hx rfl (X.dec hd) rfl hz hr) g
theorem W.lrem (X : Wk l Z EL y bytes maxL ret R B0 p e s m args below meth c B T h k n) {x z : Int64} {w : Int64} (hd : decode bytes pc = .ok (.lrem, 1)) (hz : z ≠ 0) (hw : x - (x / z) * z = w) (hp : pc + 1 = pc') (g : Go l Z EL R B0 Q p e s m below T pc' ls (.long w :: st)) : Go l Z EL R B0 Q p e s m below T pc ls (.long z :: .long x :: st) := by
  subst hp; exact Go.step (fun t hr => by subst hw; exact XT.lrem X.here X.hx rfl (X.dec hd) rfl hz hr) g
theorem W.lneg (X : Wk l Z EL y bytes maxL ret R B0 p e s m args below meth c B T h k n) {x : Int64} {w : Int64} (hd : decode bytes pc = .ok (.lneg, 1)) (hw : -x = w) (hp : pc + 1 = pc') (g : Go l Z EL R B0 Q p e s m below T pc' ls (.long w :: st)) : Go l Z EL R B0 Q p e s m below T pc ls (.long x :: st) := by
  subst hp; exact Go.step (fun t hr => by subst hw; exact XT.lneg X.here X.hx rfl (X.dec hd) rfl hr) g
theorem W.lushr (X : Wk l Z EL y bytes maxL ret R B0 p e s m args below meth c B T h k n) {x : Int64} {z : Int32} {w : Int64} (hd : decode bytes pc = .ok (.lushr, 1)) (hw : XT.ushrL x z = w) (hp : pc + 1 = pc') (g : Go l Z EL R B0 Q p e s m below T pc' ls (.long w :: st)) : Go l Z EL R B0 Q p e s m below T pc ls (.int z :: .long x :: st) := by
  subst hp; exact Go.step (fun t hr => by subst hw; exact XT.lushr X.here X.hx rfl (X.dec hd) rfl hr) g
theorem W.lcmp (X : Wk l Z EL y bytes maxL ret R B0 p e s m args below meth c B T h k n) {x z : Int64} {w : Int32} (hd : decode bytes pc = .ok (.lcmp, 1)) (hw : XT.cmpL x z = w) (hp : pc + 1 = pc') (g : Go l Z EL R B0 Q p e s m below T pc' ls (.int w :: st)) : Go l Z EL R B0 Q p e s m below T pc ls (.long z :: .long x :: st) := by
  subst hp; exact Go.step (fun t hr => by subst hw; exact XT.lcmp X.here X.hx rfl (X.dec hd) rfl hr) g
theorem W.i2l (X : Wk l Z EL y bytes maxL ret R B0 p e s m args below meth c B T h k n) {x : Int32} {w : Int64} (hd : decode bytes pc = .ok (.i2l, 1)) (hw : x.toInt64 = w) (hp : pc + 1 = pc') (g : Go l Z EL R B0 Q p e s m below T pc' ls (.long w :: st)) : Go l Z EL R B0 Q p e s m below T pc ls (.int x :: st) := by
  subst hp; exact Go.step (fun t hr => by subst hw; exact XT.i2l X.here X.hx rfl (X.dec hd) rfl hr) g
theorem W.l2i (X : Wk l Z EL y bytes maxL ret R B0 p e s m args below meth c B T h k n) {x : Int64} {w : Int32} (hd : decode bytes pc = .ok (.l2i, 1)) (hw : x.toInt32 = w) (hp : pc + 1 = pc') (g : Go l Z EL R B0 Q p e s m below T pc' ls (.int w :: st)) : Go l Z EL R B0 Q p e s m below T pc ls (.long x :: st) := by
  subst hp; exact Go.step (fun t hr => by subst hw; exact XT.l2i X.here X.hx rfl (X.dec hd) rfl hr) g
theorem W.i2b (X : Wk l Z EL y bytes maxL ret R B0 p e s m args below meth c B T h k n) {x : Int32} {w : Int32} (hd : decode bytes pc = .ok (.i2b, 1)) (hw : x.toInt8.toInt32 = w) (hp : pc + 1 = pc') (g : Go l Z EL R B0 Q p e s m below T pc' ls (.int w :: st)) : Go l Z EL R B0 Q p e s m below T pc ls (.int x :: st) := by
  subst hp; exact Go.step (fun t hr => by subst hw; exact XT.i2b X.here X.hx rfl (X.dec hd) rfl hr) g
theorem W.i2c (X : Wk l Z EL y bytes maxL ret R B0 p e s m args below meth c B T h k n) {x : Int32} {w : Int32} (hd : decode bytes pc = .ok (.i2c, 1)) (hw : x.toUInt32.toUInt16.toUInt32.toInt32 = w) (hp : pc + 1 = pc') (g : Go l Z EL R B0 Q p e s m below T pc' ls (.int w :: st)) : Go l Z EL R B0 Q p e s m below T pc ls (.int x :: st) := by
  subst hp; exact Go.step (fun t hr => by subst hw; exact XT.i2c X.here X.hx rfl (X.dec hd) rfl hr) g
theorem W.iinc (X : Wk l Z EL y bytes maxL ret R B0 p e s m args below meth c B T h k n) {j : Nat} {cst : Int} {x : Int32} (v : Int32) {w : Int32} (hd : decode bytes pc = .ok (.iinc j cst, 3)) (hv : Int32.ofInt cst = v) (hl : ls[j]? = some (.val (.int x))) (hw : x + v = w) (hl' : storeLocals ls j (.int w) = some ls') (hp : pc + 3 = pc') (g : Go l Z EL R B0 Q p e s m below T pc' ls' st) : Go l Z EL R B0 Q p e s m below T pc ls st := by
  subst hp; exact Go.step (fun t hr => by subst hw; exact XT.iincV X.here X.hx rfl v (X.dec hd) hv hl hl' hr) g
theorem W.popV (X : Wk l Z EL y bytes maxL ret R B0 p e s m args below meth c B T h k n) {v : Value} (hd : decode bytes pc = .ok (.pop, 1)) (hc : v.category = 1) (hp : pc + 1 = pc') (g : Go l Z EL R B0 Q p e s m below T pc' ls st) : Go l Z EL R B0 Q p e s m below T pc ls (v :: st) := by
  subst hp; exact Go.step (fun t hr => XT.pop X.here X.hx rfl (X.dec hd) rfl hc hr) g
theorem W.dup (X : Wk l Z EL y bytes maxL ret R B0 p e s m args below meth c B T h k n) {v : Value} (hd : decode bytes pc = .ok (.dup, 1)) (hc : v.category = 1) (hp : pc + 1 = pc') (g : Go l Z EL R B0 Q p e s m below T pc' ls (v :: v :: st)) : Go l Z EL R B0 Q p e s m below T pc ls (v :: st) := by
  subst hp; exact Go.step (fun t hr => XS.dup X.here X.hx rfl (X.dec hd) rfl hc hr) g
theorem W.dup_x1 (X : Wk l Z EL y bytes maxL ret R B0 p e s m args below meth c B T h k n) {v w : Value} (hd : decode bytes pc = .ok (.dup_x1, 1)) (hc : v.category = 1) (hc' : w.category = 1) (hp : pc + 1 = pc') (g : Go l Z EL R B0 Q p e s m below T pc' ls (v :: w :: v :: st)) : Go l Z EL R B0 Q p e s m below T pc ls (v :: w :: st) := by
  subst hp; exact Go.step (fun t hr => XT.dupX1 X.here X.hx rfl (X.dec hd) rfl hc hc' hr) g
theorem W.dup2 (X : Wk l Z EL y bytes maxL ret R B0 p e s m args below meth c B T h k n) {v w : Value} (hd : decode bytes pc = .ok (.dup2, 1)) (hc : v.category = 1) (hc' : w.category = 1) (hp : pc + 1 = pc') (g : Go l Z EL R B0 Q p e s m below T pc' ls (v :: w :: v :: w :: st)) : Go l Z EL R B0 Q p e s m below T pc ls (v :: w :: st) := by
  subst hp; exact Go.step (fun t hr => XT.dup2 X.here X.hx rfl (X.dec hd) rfl hc hc' hr) g
theorem W.dup2L (X : Wk l Z EL y bytes maxL ret R B0 p e s m args below meth c B T h k n) {v : Int64} (hd : decode bytes pc = .ok (.dup2, 1))  (hp : pc + 1 = pc') (g : Go l Z EL R B0 Q p e s m below T pc' ls (.long v :: .long v :: st)) : Go l Z EL R B0 Q p e s m below T pc ls (.long v :: st) := by
  subst hp; exact Go.step (fun t hr => XT.dup2L X.here X.hx rfl (X.dec hd) rfl hr) g
theorem W.goto (X : Wk l Z EL y bytes maxL ret R B0 p e s m args below meth c B T h k n)  {o : Int} (hd : decode bytes pc = .ok (.goto o, 3))  (ho : 0 ≤ (pc : Int) + o) (hp : ((pc : Int) + o).toNat = pc') (g : Go l Z EL R B0 Q p e s m below T pc' ls st) : Go l Z EL R B0 Q p e s m below T pc ls st :=
  Go.step (fun t hr => XS.goto X.here X.hx rfl rfl (X.dec hd) ho hp hr) g
theorem W.ifT (X : Wk l Z EL y bytes maxL ret R B0 p e s m args below meth c B T h k n) {cd : ClassFile.Cond} {x : Int32} {o : Int} (hd : decode bytes pc = .ok (.ifCond cd o, 3)) (hc : ifCond.holds cd x = true) (ho : 0 ≤ (pc : Int) + o) (hp : ((pc : Int) + o).toNat = pc') (g : Go l Z EL R B0 Q p e s m below T pc' ls st) : Go l Z EL R B0 Q p e s m below T pc ls (.int x :: st) :=
  Go.step (fun t hr => XS.ifYes X.here X.hx rfl rfl (X.dec hd) rfl hc ho hp hr) g
theorem W.ifF (X : Wk l Z EL y bytes maxL ret R B0 p e s m args below meth c B T h k n) {cd : ClassFile.Cond} {o : Int} {x : Int32} (hd : decode bytes pc = .ok (.ifCond cd o, 3)) (hc : ifCond.holds cd x = false) (hp : pc + 3 = pc') (g : Go l Z EL R B0 Q p e s m below T pc' ls st) : Go l Z EL R B0 Q p e s m below T pc ls (.int x :: st) := by
  subst hp; exact Go.step (fun t hr => XS.ifNo X.here X.hx rfl (X.dec hd) rfl hc hr) g
theorem W.icT (X : Wk l Z EL y bytes maxL ret R B0 p e s m args below meth c B T h k n) {cd : ClassFile.Cond} {x z : Int32} {o : Int} (hd : decode bytes pc = .ok (.if_icmp cd o, 3)) (hc : if_icmp.holds cd x z = true) (ho : 0 ≤ (pc : Int) + o) (hp : ((pc : Int) + o).toNat = pc') (g : Go l Z EL R B0 Q p e s m below T pc' ls st) : Go l Z EL R B0 Q p e s m below T pc ls (.int z :: .int x :: st) :=
  Go.step (fun t hr => XS.icmpYes X.here X.hx rfl rfl (X.dec hd) rfl hc ho hp hr) g
theorem W.icF (X : Wk l Z EL y bytes maxL ret R B0 p e s m args below meth c B T h k n) {cd : ClassFile.Cond} {o : Int} {x z : Int32} (hd : decode bytes pc = .ok (.if_icmp cd o, 3)) (hc : if_icmp.holds cd x z = false) (hp : pc + 3 = pc') (g : Go l Z EL R B0 Q p e s m below T pc' ls st) : Go l Z EL R B0 Q p e s m below T pc ls (.int z :: .int x :: st) := by
  subst hp; exact Go.step (fun t hr => XS.icmpNo X.here X.hx rfl (X.dec hd) rfl hc hr) g
theorem W.acT (X : Wk l Z EL y bytes maxL ret R B0 p e s m args below meth c B T h k n) {cd : ClassFile.ACond} {x z : Value} {o : Int} (hd : decode bytes pc = .ok (.if_acmp cd o, 3)) (h1 : x.isRef = true) (h2 : z.isRef = true) (hc : XT.acmp cd x z = true) (ho : 0 ≤ (pc : Int) + o) (hp : ((pc : Int) + o).toNat = pc') (g : Go l Z EL R B0 Q p e s m below T pc' ls st) : Go l Z EL R B0 Q p e s m below T pc ls (z :: x :: st) :=
  Go.step (fun t hr => XT.acmpYes X.here X.hx rfl rfl (X.dec hd) rfl h1 h2 hc ho hp hr) g
theorem W.acF (X : Wk l Z EL y bytes maxL ret R B0 p e s m args below meth c B T h k n) {cd : ClassFile.ACond} {o : Int} {x z : Value} (hd : decode bytes pc = .ok (.if_acmp cd o, 3)) (h1 : x.isRef = true) (h2 : z.isRef = true) (hc : XT.acmp cd x z = false) (hp : pc + 3 = pc') (g : Go l Z EL R B0 Q p e s m below T pc' ls st) : Go l Z EL R B0 Q p e s m below T pc ls (z :: x :: st) := by
  subst hp; exact Go.step (fun t hr => XT.acmpNo X.here X.hx rfl (X.dec hd) rfl h1 h2 hc hr) g
theorem W.nullT (X : Wk l Z EL y bytes maxL ret R B0 p e s m args below meth c B T h k n)  {o : Int} (hd : decode bytes pc = .ok (.ifnull o, 3))  (ho : 0 ≤ (pc : Int) + o) (hp : ((pc : Int) + o).toNat = pc') (g : Go l Z EL R B0 Q p e s m below T pc' ls st) : Go l Z EL R B0 Q p e s m below T pc ls (.null :: st) :=
  Go.step (fun t hr => XS.ifnullYes X.here X.hx rfl rfl (X.dec hd) rfl ho hp hr) g
theorem W.nullF (X : Wk l Z EL y bytes maxL ret R B0 p e s m args below meth c B T h k n) {o : Int} {r : Addr} (hd : decode bytes pc = .ok (.ifnull o, 3))  (hp : pc + 3 = pc') (g : Go l Z EL R B0 Q p e s m below T pc' ls st) : Go l Z EL R B0 Q p e s m below T pc ls (.ref r :: st) := by
  subst hp; exact Go.step (fun t hr => XS.ifnullNo X.here X.hx rfl (X.dec hd) rfl hr) g
theorem W.nonnullT (X : Wk l Z EL y bytes maxL ret R B0 p e s m args below meth c B T h k n) {r : Addr} {o : Int} (hd : decode bytes pc = .ok (.ifnonnull o, 3))  (ho : 0 ≤ (pc : Int) + o) (hp : ((pc : Int) + o).toNat = pc') (g : Go l Z EL R B0 Q p e s m below T pc' ls st) : Go l Z EL R B0 Q p e s m below T pc ls (.ref r :: st) :=
  Go.step (fun t hr => XT.ifnonnullYes X.here X.hx rfl rfl (X.dec hd) rfl ho hp hr) g
theorem W.nonnullF (X : Wk l Z EL y bytes maxL ret R B0 p e s m args below meth c B T h k n) {o : Int} (hd : decode bytes pc = .ok (.ifnonnull o, 3))  (hp : pc + 3 = pc') (g : Go l Z EL R B0 Q p e s m below T pc' ls st) : Go l Z EL R B0 Q p e s m below T pc ls (.null :: st) := by
  subst hp; exact Go.step (fun t hr => XT.ifnonnullNo X.here X.hx rfl (X.dec hd) rfl hr) g
theorem W.tsw (X : Wk l Z EL y bytes maxL ret R B0 p e s m args below meth c B T h k n) {dflt low high : Int} {offs : Array Int} {len : Nat} {o : Int} {i : Int32} (hd : decode bytes pc = .ok (.tableswitch dflt low high offs, len)) (hin : ¬ (i.toInt < low ∨ i.toInt > high)) (hoff : offs[(i.toInt - low).toNat]? = some o) (ho : 0 ≤ (pc : Int) + o) (hp : ((pc : Int) + o).toNat = pc') (g : Go l Z EL R B0 Q p e s m below T pc' ls st) : Go l Z EL R B0 Q p e s m below T pc ls (.int i :: st) :=
  Go.step (fun t hr => XS.tswIn X.here X.hx rfl rfl (X.dec hd) rfl hin hoff ho hp hr) g
theorem W.ldcI (X : Wk l Z EL y bytes maxL ret R B0 p e s m args below meth c B T h k n) {index : Nat} {v : Int32} (w : (Jvm.Cond.constant y.cls index v).before a0 Z = true) (hd : decode bytes pc = .ok (.ldc index, 2)) (hp : pc + 2 = pc') (g : Go l Z EL R B0 Q p e s m below T pc' ls (.int v :: st)) : Go l Z EL R B0 Q p e s m below T pc ls st := by
  obtain ⟨i0, hE, hz, hB, V, locs, q0, X1, eT, hZ, hown, hS, hq, hF, hC, hK⟩ := X
  subst hp
  exact Go.step (fun t hr => Jvm.Stand.ldcI (g := mkF m pc ls st) X1 i0.1 hown (mv (s := s.setVm V) hZ w) rfl (i0.2.1 ▸ hd) hr) g
theorem W.ldcJ (X : Wk l Z EL y bytes maxL ret R B0 p e s m args below meth c B T h k n) {index : Nat} {v : Int64} (w : (Jvm.Cond.constantLong y.cls index v).before a0 Z = true) (hd : decode bytes pc = .ok (.ldc2_w index, 3)) (hp : pc + 3 = pc') (g : Go l Z EL R B0 Q p e s m below T pc' ls (.long v :: st)) : Go l Z EL R B0 Q p e s m below T pc ls st := by
  obtain ⟨i0, hE, hz, hB, V, locs, q0, X1, eT, hZ, hown, hS, hq, hF, hC, hK⟩ := X
  subst hp
  exact Go.step (fun t hr => Jvm.Stand.ldc2J (g := mkF m pc ls st) X1 i0.1 hown (mv (s := s.setVm V) hZ w) rfl (i0.2.1 ▸ hd) hr) g
theorem W.getF (X : Wk l Z EL y bytes maxL ret R B0 p e s m args below meth c B T h k n) {index : Nat} {R0 O nm d : String} {v : Value} (w : (Jvm.Cond.fieldLink y.cls index R0 nm d).before a0 Z = true) (via : Via Z R0 O nm d) (F : Fld Z h a O nm d v) (hd : decode bytes pc = .ok (.getfield index, 3)) (hp : pc + 3 = pc') (g : ∀ T', Wk l Z EL y bytes maxL ret R B0 p e s m args below meth c B T' h k n → Go l Z EL R B0 Q p e s m below T' pc' ls (v :: st)) : Go l Z EL R B0 Q p e s m below T pc ls (.ref a :: st) := by
  obtain ⟨i0, hE, hz, hB, V, locs, q0, X1, eT, hZ, hown, hS, hq, hF, hC, hK⟩ := X
  obtain ⟨T', X', e', st'⟩ := RoadKit.getF X1 i0.1 hZ hown (host := "") (Or.inl w) via eT F (g := mkF m pc ls (.ref a :: st)) rfl rfl (i0.2.1 ▸ hd)
  subst hp
  exact Go.step st' (g T' ⟨i0, hE, hz, hB, V, locs, q0, X', e', hZ, hown, hS, hq, hF, hC, hK⟩)
theorem W.getS (X : Wk l Z EL y bytes maxL ret R B0 p e s m args below meth c B T h k n) {index : Nat} {R0 O nm d host : String} {v : Value} (w : (Jvm.Cond.fieldLink y.cls index R0 nm d).before a0 Z = true ∨ (Jvm.Cond.fieldLinkNest y.cls index R0 nm d host).before a0 Z = true) (via : Via Z R0 O nm d) (F : Sta Z Z.heap O nm d v) (hd : decode bytes pc = .ok (.getstatic index, 3)) (hp : pc + 3 = pc') (g : ∀ T', Wk l Z EL y bytes maxL ret R B0 p e s m args below meth c B T' h k n → Go l Z EL R B0 Q p e s m below T' pc' ls (v :: st)) : Go l Z EL R B0 Q p e s m below T pc ls st := by
  obtain ⟨i0, hE, hz, hB, V, locs, q0, X1, eT, hZ, hown, hS, hq, hF, hC, hK⟩ := X
  obtain ⟨T', X', e', st'⟩ := RoadKit.getS2 X1 i0.1 hZ hown w via eT (F.ext hE.1) (g := mkF m pc ls st) rfl (i0.2.1 ▸ hd)
  subst hp
  exact Go.step st' (g T' ⟨i0, hE, hz, hB, V, locs, q0, X', e', hZ, hown, hS, hq, hF, hC, hK⟩)
theorem En.wr {sl : Nat} {v : Value} (E : En Z B h) (W : Wr h h' a sl v) (q : Z.heap.size ≤ a) : En Z B h' := ⟨(Old.wr (n0 := Z.heap.size) ⟨rfl, E.1⟩ W q).2, fun x r => by rw [W.size]; exact E.2 x r⟩
theorem W.putF (X : Wk l Z EL y bytes maxL ret R B0 p e s m args below meth c B T h k n) {index kk : Nat} {R0 O nm d C : String} {v old : Value} {ty : FieldType} (w : (Jvm.Cond.fieldLink y.cls index R0 nm d).before a0 Z = true) (via : Via Z R0 O nm d) (F : Fld Z h a O nm d old) (E : Exa Z h a C) (L : (Jvm.Cond.lays C O nm d).before a0 Z = true ∨ ((Jvm.Cond.laysFinal C O nm d).before a0 Z = true ∧ y.cls = O ∧ y.name = "<init>")) (wi : (Jvm.Cond.instantiable C kk).before a0 Z = true)
    (hty : parseFieldDescriptor d = some ty) (hn : narrow ty v = v) (hf : fits ty v = true) (ha : Z.heap.size ≤ a) (hnb : ¬ B a) (hd : decode bytes pc = .ok (.putfield index, 3)) (hp : pc + 3 = pc') (g : ∀ T' h', Wk l Z EL y bytes maxL ret R B0 p e s m args below meth c B T' h' k n → Wr h h' a (RoadKit.slotOf Z O nm d) v → Go l Z EL R B0 Q p e s m below T' pc' ls st) : Go l Z EL R B0 Q p e s m below T pc ls (v :: .ref a :: st) := by
  obtain ⟨i0, hE, hz, hB, V, locs, q0, X1, eT, hZ, hown, hS, hq, hF, hC, hK⟩ := X
  obtain ⟨T', h', X', e', W, st'⟩ := RoadKit.putF X1 i0.1 hZ hown (host := "") (Or.inl w) via eT F E (L.imp id fun q => ⟨q.1, q.2.1, i0.2.2.2.2.2.1.trans q.2.2⟩) wi hty hn hf (g := mkF m pc ls (v :: .ref a :: st)) rfl rfl (i0.2.1 ▸ hd)
  subst hp
  have S : Safe Z EL V h a := fun r => hnb (hK a r)
  exact Go.step st' (g T' h' ⟨i0, hE.wr W ha, by rw [W.size]; exact hz, hB, V, _, q0, X', e', hZ, hown, hS, by rw [W.size]; exact hq, Fr.snoc X' hF ha, hC.wr W S, fun x r => hK x ((hC.wrStep W S).2 x r)⟩ W)
theorem W.cast (X : Wk l Z EL y bytes maxL ret R B0 p e s m args below meth c B T h k n) {index : Nat} {K : String} (w : (Jvm.Cond.classLink y.cls index K).before a0 Z = true) (F : Ins Z h a K true) (hd : decode bytes pc = .ok (.checkcast index, 3)) (hp : pc + 3 = pc') (g : ∀ T', Wk l Z EL y bytes maxL ret R B0 p e s m args below meth c B T' h k n → Go l Z EL R B0 Q p e s m below T' pc' ls (.ref a :: st)) : Go l Z EL R B0 Q p e s m below T pc ls (.ref a :: st) := by
  obtain ⟨i0, hE, hz, hB, V, locs, q0, X1, eT, hZ, hown, hS, hq, hF, hC, hK⟩ := X
  obtain ⟨T', X', e', st'⟩ := RoadKit.castY X1 i0.1 hZ hown w eT F (g := mkF m pc ls (.ref a :: st)) rfl rfl (i0.2.1 ▸ hd)
  subst hp
  exact Go.step st' (g T' ⟨i0, hE, hz, hB, V, locs, q0, X', e', hZ, hown, hS, hq, hF, hC, hK⟩)
theorem W.instY (X : Wk l Z EL y bytes maxL ret R B0 p e s m args below meth c B T h k n) {index : Nat} {K : String} (w : (Jvm.Cond.classLink y.cls index K).before a0 Z = true) (F : Ins Z h a K true) (hd : decode bytes pc = .ok (.instanceof index, 3)) (hp : pc + 3 = pc') (g : ∀ T', Wk l Z EL y bytes maxL ret R B0 p e s m args below meth c B T' h k n → Go l Z EL R B0 Q p e s m below T' pc' ls (.int 1 :: st)) : Go l Z EL R B0 Q p e s m below T pc ls (.ref a :: st) := by
  obtain ⟨i0, hE, hz, hB, V, locs, q0, X1, eT, hZ, hown, hS, hq, hF, hC, hK⟩ := X
  obtain ⟨T', X', e', st'⟩ := RoadKit.instY X1 i0.1 hZ hown w eT F (g := mkF m pc ls (.ref a :: st)) rfl rfl (i0.2.1 ▸ hd)
  subst hp
  exact Go.step st' (g T' ⟨i0, hE, hz, hB, V, locs, q0, X', e', hZ, hown, hS, hq, hF, hC, hK⟩)
theorem W.instN (X : Wk l Z EL y bytes maxL ret R B0 p e s m args below meth c B T h k n) {index : Nat} {K C : String} (w : (Jvm.Cond.classLink y.cls index K).before a0 Z = true) (E : Exa Z h a C) (F : ∃ c t, Z.vm.findClass C = some c ∧ Z.vm.findClass K = some t ∧ Z.vm.assignable c t = false) (hd : decode bytes pc = .ok (.instanceof index, 3)) (hp : pc + 3 = pc') (g : ∀ T', Wk l Z EL y bytes maxL ret R B0 p e s m args below meth c B T' h k n → Go l Z EL R B0 Q p e s m below T' pc' ls (.int 0 :: st)) : Go l Z EL R B0 Q p e s m below T pc ls (.ref a :: st) := by
  obtain ⟨i0, hE, hz, hB, V, locs, q0, X1, eT, hZ, hown, hS, hq, hF, hC, hK⟩ := X
  obtain ⟨T', X', e', st'⟩ := RoadKit.instNo X1 i0.1 hZ hown w eT E F (g := mkF m pc ls (.ref a :: st)) rfl rfl (i0.2.1 ▸ hd)
  subst hp
  exact Go.step st' (g T' ⟨i0, hE, hz, hB, V, locs, q0, X', e', hZ, hown, hS, hq, hF, hC, hK⟩)
theorem W.instNull (X : Wk l Z EL y bytes maxL ret R B0 p e s m args below meth c B T h k n) {index : Nat} (hd : decode bytes pc = .ok (.instanceof index, 3)) (hp : pc + 3 = pc') (g : Go l Z EL R B0 Q p e s m below T pc' ls (.int 0 :: st)) : Go l Z EL R B0 Q p e s m below T pc ls (.null :: st) := by
  obtain ⟨i0, hE, hz, hB, V, locs, q0, X1, eT, hZ, hown, hS, hq, hF, hC, hK⟩ := X
  subst hp
  exact Go.step (fun t hr => Jvm.Stand.instanceofNull X1 i0.1 (g := mkF m pc ls (.null :: st)) rfl rfl (i0.2.1 ▸ hd) t hr) g
theorem inst_ord {K : String} {n : Nat} (w : (Jvm.Cond.instantiable K n).before a0 Z = true) : ∃ t k, Z.vm.findClass K = some t ∧ Z.vm.classes[t]? = some k ∧ k.kind = .ordinary ∧ k.isInterface = false := by
  simp only [Cond.before, Cond.holds, Cond.value] at w
  cases ht : Z.vm.findClass K with
  | none => simp [ht] at w
  | some t =>
    cases hk : Z.vm.classes[t]? with
    | none => simp [ht, hk] at w
    | some k =>
      simp [ht, hk] at w
      exact ⟨t, k, rfl, hk, w.1.1.1, w.1.1.2.1⟩
theorem nsRoot {O K : String} {n : Nat} (wo : (Jvm.Cond.noSuperclass O).before a0 Z = true) (wk : (Jvm.Cond.instantiable K n).before a0 Z = true) (hn' : O ≠ K) : NS Z O K := by
  obtain ⟨t, kt, g0, g2, g5, g7⟩ := inst_ord wk
  obtain ⟨c, k, h1, h2, h3, -, -⟩ := Cond.noSuperclass_spec wo
  have ne := ids_ne h1 g0 hn'
  refine ⟨c, t, h1, g0, fun fuel => ?_⟩
  cases fuel with
  | zero => rfl
  | succ f => simp [Vm.isSubclassAux, ne, h2, h3]
theorem nsNo {C S K : String} {n : Nat} (w : (Jvm.Cond.superclass C S).before a0 Z = true) (wk : (Jvm.Cond.instantiable K n).before a0 Z = true) (N : NS Z S K) (hn : C ≠ K) : ∃ c t, Z.vm.findClass C = some c ∧ Z.vm.findClass K = some t ∧ Z.vm.assignable c t = false := by
  obtain ⟨t, kt, g0, g2, g5, g7⟩ := inst_ord wk
  obtain ⟨c, t', h0, g0', n3⟩ := NS.step w N hn
  cases g0.symm.trans g0'
  obtain ⟨p, k, kp, h1, h2, h3, h4, h5, -, h7⟩ := Cond.superclass_spec h0 w
  have ne := ids_ne h0 g0 hn
  refine ⟨c, t, h0, g0, ?_⟩
  show Z.vm.assignableAux (255 + 1) c t = false
  simp [Vm.assignableAux, ne, h2, g2, h5, g5, g7, Vm.isSubclass, n3]
theorem En.ext (E : En Z B h) (W : Ext h h') : En Z B h' := ⟨⟨Nat.le_trans E.1.1 W.1, fun x c q => W.2 x c (E.1.2 x c q)⟩, fun x r => Nat.lt_of_lt_of_le (E.2 x r) W.1⟩
theorem keepE (E : Ext h h') : Keep h h' [] := (Keep.refl h []).ext E
theorem W.new (X : Wk l Z EL y bytes maxL ret R B0 p e s m args below meth c B T h k n) {index sz : Nat} {C : String} (w : (Jvm.Cond.classLink y.cls index C).before a0 Z = true) (wi : (Jvm.Cond.instantiable C sz).before a0 Z = true) (wz : (Jvm.Cond.initialized C).before a0 Z = true) (hd : decode bytes pc = .ok (.new index, 3)) (hp : pc + 3 = pc') {k' n' : Nat} (hk : k + 1 ≤ k') (hn : n + sz ≤ n') (hk' : k' ≤ R.cells) (hn' : n' ≤ R.slots)
    (g : ∀ T' h' a, Wk l Z EL y bytes maxL ret R B0 p e s m args below meth c B T' h' k' n' → Keep h h' [] → h.size ≤ a → Z.heap.size ≤ a → ¬ B a → Exa Z h' a C → (∀ {O nm d : String} {ty : FieldType}, Laid Z a0 C O nm d → parseFieldDescriptor d = some ty → Fld Z h' a O nm d (defaultValue ty)) → Go l Z EL R B0 Q p e s m below T' pc' ls (.ref a :: st)) : Go l Z EL R B0 Q p e s m below T pc ls st := by
  have X0 := X
  obtain ⟨i0, hE, hz, hB, V, locs, q0, X1, eT, hZ, hown, hS, hq, hF, hC, hK⟩ := X
  obtain ⟨T', h', X', e', E, A, D, -, st'⟩ := RoadKit.newO X1 i0.1 hZ hown w wi wz eT (g := mkF m pc ls st) rfl (i0.2.1 ▸ hd) (Nat.le_trans hk hk') (Nat.le_trans hn hn')
  subst hp
  exact Go.step st' (g T' h' h.size ⟨i0, hE.ext E, Nat.le_trans hz E.1, hB, V, locs, q0, X'.mono hk hn, e', hZ, hown, hS, Nat.le_trans hq E.1, hF, hC.ext E, fun x r => hK x ((hC.step fun _ _ _ q => E.2 _ _ q).2 x r)⟩ (keepE E) (Nat.le_refl _) X0.z0 (X0.nb (Nat.le_refl _)) A D)
theorem W.newA (X : Wk l Z EL y bytes maxL ret R B0 p e s m args below meth c B T h k n) {aty : ArrayType} {z : Int32} {cap : Nat} (w : (Jvm.Cond.arrayClass (newarray.typeOf aty)).before a0 Z = true) (hd : decode bytes pc = .ok (.newarray aty, 2)) (hz0 : ¬ z < 0) (hcap : z.toNatClampNeg ≤ cap) (hcb : cap * 8 ≤ 536870912) (hp : pc + 2 = pc') {k' n' : Nat} (hk : k + 1 ≤ k') (hn : n + cap ≤ n') (hk' : k' ≤ R.cells) (hn' : n' ≤ R.slots)
    (g : ∀ T' h' a, Wk l Z EL y bytes maxL ret R B0 p e s m args below meth c B T' h' k' n' → Keep h h' [] → h.size ≤ a → Z.heap.size ≤ a → ¬ B a → Ar Z h' a (newarray.typeOf aty) (List.replicate z.toNatClampNeg (defaultValue (newarray.typeOf aty))) → Go l Z EL R B0 Q p e s m below T' pc' ls (.ref a :: st)) : Go l Z EL R B0 Q p e s m below T pc ls (.int z :: st) := by
  have X0 := X
  obtain ⟨i0, hE, hz, hB, V, locs, q0, X1, eT, hZ, hown, hS, hq, hF, hC, hK⟩ := X
  obtain ⟨T', h', cA, X', e', E, A, st'⟩ := RoadKit.newP X1 i0.1 hZ w eT (g := mkF m pc ls (.int z :: st)) rfl (i0.2.1 ▸ hd) rfl hz0 hcap hcb (Nat.le_trans hk hk') (Nat.le_trans hn hn')
  subst hp
  exact Go.step st' (g T' h' h.size ⟨i0, hE.ext E, Nat.le_trans hz E.1, hB, V, locs, q0, X'.mono hk hn, e', hZ, hown, hS, Nat.le_trans hq E.1, hF, hC.ext E, fun x r => hK x ((hC.step fun _ _ _ q => E.2 _ _ q).2 x r)⟩ (keepE E) (Nat.le_refl _) X0.z0 (X0.nb (Nat.le_refl _)) (Ar.new A hz0))
theorem W.newR (X : Wk l Z EL y bytes maxL ret R B0 p e s m args below meth c B T h k n) {index : Nat} {C : String} {z : Int32} {cap : Nat} (w1 : (Jvm.Cond.classLink y.cls index C).before a0 Z = true) (w2 : (Jvm.Cond.arrayOver (.object C)).before a0 Z = true) (hd : decode bytes pc = .ok (.anewarray index, 3)) (hz0 : ¬ z < 0) (hcap : z.toNatClampNeg ≤ cap) (hcb : cap * 8 ≤ 536870912) (hp : pc + 3 = pc') {k' n' : Nat} (hk : k + 1 ≤ k') (hn : n + cap ≤ n') (hk' : k' ≤ R.cells) (hn' : n' ≤ R.slots)
    (g : ∀ T' h' a, Wk l Z EL y bytes maxL ret R B0 p e s m args below meth c B T' h' k' n' → Keep h h' [] → h.size ≤ a → Z.heap.size ≤ a → ¬ B a → Ar Z h' a (.object C) (List.replicate z.toNatClampNeg .null) → Tk Z h' a C → Go l Z EL R B0 Q p e s m below T' pc' ls (.ref a :: st)) : Go l Z EL R B0 Q p e s m below T pc ls (.int z :: st) := by
  have X0 := X
  obtain ⟨i0, hE, hz, hB, V, locs, q0, X1, eT, hZ, hown, hS, hq, hF, hC, hK⟩ := X
  obtain ⟨T', h', cA, X', e', E, A, O, st'⟩ := RoadKit.newR X1 i0.1 hZ hown w1 w2 eT (g := mkF m pc ls (.int z :: st)) rfl (i0.2.1 ▸ hd) rfl hz0 hcap hcb (Nat.le_trans hk hk') (Nat.le_trans hn hn')
  subst hp
  exact Go.step st' (g T' h' h.size ⟨i0, hE.ext E, Nat.le_trans hz E.1, hB, V, locs, q0, X'.mono hk hn, e', hZ, hown, hS, Nat.le_trans hq E.1, hF, hC.ext E, fun x r => hK x ((hC.step fun _ _ _ q => E.2 _ _ q).2 x r)⟩ (keepE E) (Nat.le_refl _) X0.z0 (X0.nb (Nat.le_refl _)) (Ar.new A hz0) ⟨_, _, A, O⟩)
theorem W.alen (X : Wk l Z EL y bytes maxL ret R B0 p e s m args below meth c B T h k n) {z : Int32} (A : Ar Z h a ty vs) (hv : vs.length.toInt32 = z) (hd : decode bytes pc = .ok (.arraylength, 1)) (hp : pc + 1 = pc') (g : Go l Z EL R B0 Q p e s m below T pc' ls (.int z :: st)) : Go l Z EL R B0 Q p e s m below T pc ls (.ref a :: st) := by
  obtain ⟨i0, hE, hz, hB, V, locs, q0, X1, eT, hZ, hown, hS, hq, hF, hC, hK⟩ := X
  obtain ⟨cl, A, e1, -, -⟩ := A
  have e2 : cl.slots.size = vs.length := by rw [← e1]; simp
  subst hp hv
  rw [← e2] at g
  exact Go.step (fun t hr => X1.arraylength i0.1 (by rw [eT]; exact A.1) (State.isArrayOf_alike hZ.alike A.2.1) (g := mkF m pc ls (.ref a :: st)) rfl rfl (i0.2.1 ▸ hd) t hr) g
theorem W.caload (X : Wk l Z EL y bytes maxL ret R B0 p e s m args below meth c B T h k n) {j : Int32} {v : Value} (A : Ar Z h a .char vs) (hj : ¬ j < 0) (hv : vs[j.toNatClampNeg]? = some v) (hd : decode bytes pc = .ok (.caload, 1)) (hp : pc + 1 = pc') (g : Go l Z EL R B0 Q p e s m below T pc' ls (v :: st)) : Go l Z EL R B0 Q p e s m below T pc ls (.int j :: .ref a :: st) := by
  obtain ⟨i0, hE, hz, hB, V, locs, q0, X1, eT, hZ, hown, hS, hq, hF, hC, hK⟩ := X
  obtain ⟨cl, A, e1, -, -⟩ := A
  have e2 : cl.slots.size = vs.length := by rw [← e1]; simp
  have hlt : j.toNatClampNeg < vs.length := (List.getElem?_eq_some_iff.mp hv).1
  subst hp
  exact Go.step (fun t hr => X1.caload i0.1 (by rw [eT]; exact A.1) (State.isArrayOf_alike hZ.alike A.2.1) A.2.2 (fun r => r.elim hj fun z => by omega) (by rw [← Array.getElem?_toList, e1]; exact hv) (g := mkF m pc ls (.int j :: .ref a :: st)) rfl rfl (i0.2.1 ▸ hd) t hr) g
theorem W.baload (X : Wk l Z EL y bytes maxL ret R B0 p e s m args below meth c B T h k n) {j : Int32} {v : Value} (A : Ar Z h a .byte vs) (hj : ¬ j < 0) (hv : vs[j.toNatClampNeg]? = some v) (hd : decode bytes pc = .ok (.baload, 1)) (hp : pc + 1 = pc') (g : Go l Z EL R B0 Q p e s m below T pc' ls (v :: st)) : Go l Z EL R B0 Q p e s m below T pc ls (.int j :: .ref a :: st) := by
  obtain ⟨i0, hE, hz, hB, V, locs, q0, X1, eT, hZ, hown, hS, hq, hF, hC, hK⟩ := X
  obtain ⟨cl, A, e1, -, -⟩ := A
  have e2 : cl.slots.size = vs.length := by rw [← e1]; simp
  have hlt : j.toNatClampNeg < vs.length := (List.getElem?_eq_some_iff.mp hv).1
  subst hp
  exact Go.step (fun t hr => X1.baloadBytes i0.1 (by rw [eT]; exact A.1) (State.isArrayOf_alike hZ.alike A.2.1) A.2.2 (fun r => r.elim hj fun z => by omega) (by rw [← Array.getElem?_toList, e1]; exact hv) (g := mkF m pc ls (.int j :: .ref a :: st)) rfl rfl (i0.2.1 ▸ hd) t hr) g
theorem W.iaload (X : Wk l Z EL y bytes maxL ret R B0 p e s m args below meth c B T h k n) {j : Int32} {v : Value} (A : Ar Z h a .int vs) (hj : ¬ j < 0) (hv : vs[j.toNatClampNeg]? = some v) (hd : decode bytes pc = .ok (.iaload, 1)) (hp : pc + 1 = pc') (g : Go l Z EL R B0 Q p e s m below T pc' ls (v :: st)) : Go l Z EL R B0 Q p e s m below T pc ls (.int j :: .ref a :: st) := by
  obtain ⟨i0, hE, hz, hB, V, locs, q0, X1, eT, hZ, hown, hS, hq, hF, hC, hK⟩ := X
  obtain ⟨cl, A, e1, -, -⟩ := A
  have e2 : cl.slots.size = vs.length := by rw [← e1]; simp
  have hlt : j.toNatClampNeg < vs.length := (List.getElem?_eq_some_iff.mp hv).1
  subst hp
  exact Go.step (fun t hr => X1.iaload i0.1 (by rw [eT]; exact A.1) (State.isArrayOf_alike hZ.alike A.2.1) A.2.2 (fun r => r.elim hj fun z => by omega) (by rw [← Array.getElem?_toList, e1]; exact hv) (g := mkF m pc ls (.int j :: .ref a :: st)) rfl rfl (i0.2.1 ▸ hd) t hr) g
theorem W.laload (X : Wk l Z EL y bytes maxL ret R B0 p e s m args below meth c B T h k n) {j : Int32} {v : Value} (A : Ar Z h a .long vs) (hj : ¬ j < 0) (hv : vs[j.toNatClampNeg]? = some v) (hd : decode bytes pc = .ok (.laload, 1)) (hp : pc + 1 = pc') (g : Go l Z EL R B0 Q p e s m below T pc' ls (v :: st)) : Go l Z EL R B0 Q p e s m below T pc ls (.int j :: .ref a :: st) := by
  obtain ⟨i0, hE, hz, hB, V, locs, q0, X1, eT, hZ, hown, hS, hq, hF, hC, hK⟩ := X
  obtain ⟨cl, A, e1, -, -⟩ := A
  have e2 : cl.slots.size = vs.length := by rw [← e1]; simp
  have hlt : j.toNatClampNeg < vs.length := (List.getElem?_eq_some_iff.mp hv).1
  subst hp
  exact Go.step (fun t hr => X1.laload i0.1 (by rw [eT]; exact A.1) (State.isArrayOf_alike hZ.alike A.2.1) A.2.2 (fun r => r.elim hj fun z => by omega) (by rw [← Array.getElem?_toList, e1]; exact hv) (g := mkF m pc ls (.int j :: .ref a :: st)) rfl rfl (i0.2.1 ▸ hd) t hr) g
theorem W.zaload (X : Wk l Z EL y bytes maxL ret R B0 p e s m args below meth c B T h k n) {j : Int32} {v : Value} (A : Ar Z h a .boolean vs) (hj : ¬ j < 0) (hv : vs[j.toNatClampNeg]? = some v) (hd : decode bytes pc = .ok (.baload, 1)) (hp : pc + 1 = pc') (g : Go l Z EL R B0 Q p e s m below T pc' ls (v :: st)) : Go l Z EL R B0 Q p e s m below T pc ls (.int j :: .ref a :: st) := by
  obtain ⟨i0, hE, hz, hB, V, locs, q0, X1, eT, hZ, hown, hS, hq, hF, hC, hK⟩ := X
  obtain ⟨cl, A, e1, -, -⟩ := A
  have e2 : cl.slots.size = vs.length := by rw [← e1]; simp
  have hlt : j.toNatClampNeg < vs.length := (List.getElem?_eq_some_iff.mp hv).1
  subst hp
  exact Go.step (fun t hr => X1.baloadBooleans i0.1 (by rw [eT]; exact A.1) (State.isArrayOf_alike hZ.alike A.2.1) A.2.2 (fun r => r.elim hj fun z => by omega) (by rw [← Array.getElem?_toList, e1]; exact hv) (g := mkF m pc ls (.int j :: .ref a :: st)) rfl rfl (i0.2.1 ▸ hd) t hr) g
theorem W.aaload (X : Wk l Z EL y bytes maxL ret R B0 p e s m args below meth c B T h k n) {j : Int32} {v : Value} (A : Ar Z h a ty vs) (hty : ty.isReference = true) (hj : ¬ j < 0) (hv : vs[j.toNatClampNeg]? = some v) (hd : decode bytes pc = .ok (.aaload, 1)) (hp : pc + 1 = pc') (g : Go l Z EL R B0 Q p e s m below T pc' ls (v :: st)) : Go l Z EL R B0 Q p e s m below T pc ls (.int j :: .ref a :: st) := by
  obtain ⟨i0, hE, hz, hB, V, locs, q0, X1, eT, hZ, hown, hS, hq, hF, hC, hK⟩ := X
  obtain ⟨cl, A, e1, -, -⟩ := A
  have e2 : cl.slots.size = vs.length := by rw [← e1]; simp
  have hlt : j.toNatClampNeg < vs.length := (List.getElem?_eq_some_iff.mp hv).1
  subst hp
  exact Go.step (fun t hr => X1.aaload i0.1 (by rw [eT]; exact A.1) (State.isArrayOf_alike hZ.alike A.2.1) hty A.2.2 (fun r => r.elim hj fun z => by omega) (by rw [← Array.getElem?_toList, e1]; exact hv) (g := mkF m pc ls (.int j :: .ref a :: st)) rfl rfl (i0.2.1 ▸ hd) t hr) g
theorem Ar.set {cl : Cell} {i : Nat} {v : Value} (A : Arr Z h a cl ty) (e1 : cl.slots.toList = vs) (hl : vs.length < 2 ^ 31) (hf : ∀ v ∈ vs, fits ty v = true) (hv : fits ty v = true) (W : Wr h h' a i v) : Ar Z h' a ty (vs.set i v) :=
  ⟨_, A.same W, by simp [Cell.setSlot, ← e1], by simpa using hl, fun w hw => (List.mem_or_eq_of_mem_set hw).elim (hf w) fun q => q ▸ hv⟩
theorem W.castore (X : Wk l Z EL y bytes maxL ret R B0 p e s m args below meth c B T h k n) {j : Int32} {x x' : Int32} {i : Nat} (A : Ar Z h a .char vs) (hj : ¬ j < 0) (hi : j.toNatClampNeg = i) (hl : i < vs.length) (hx : nar .char x = x') (ha : Z.heap.size ≤ a) (hnb : ¬ B a) (hd : decode bytes pc = .ok (.castore, 1)) (hp : pc + 1 = pc') (g : ∀ T' h', Wk l Z EL y bytes maxL ret R B0 p e s m args below meth c B T' h' k n → Keep h h' [a] → Ar Z h' a .char (vs.set i (.int x')) → Go l Z EL R B0 Q p e s m below T' pc' ls st) : Go l Z EL R B0 Q p e s m below T pc ls (.int x :: .int j :: .ref a :: st) := by
  obtain ⟨i0, hE, hz, hB, V, locs, q0, X1, eT, hZ, hown, hS, hq, hF, hC, hK⟩ := X
  obtain ⟨cl, A, e1, hl31, hfit⟩ := A
  have e2 : cl.slots.size = vs.length := by rw [← e1]; simp
  subst hi hx
  obtain ⟨T', h', X', e', W, st'⟩ := RoadKit.stC X1 i0.1 hZ eT A (fun r => r.elim hj fun z => by omega) (g := mkF m pc ls (.int x :: .int j :: .ref a :: st)) rfl rfl (i0.2.1 ▸ hd)
  subst hp
  have S : Safe Z EL V h a := fun r => hnb (hK a r)
  exact Go.step st' (g T' h' ⟨i0, hE.wr W ha, by rw [W.size]; exact hz, hB, V, _, q0, X', e', hZ, hown, hS, by rw [W.size]; exact hq, Fr.snoc X' hF ha, hC.wr W S, fun x r => hK x ((hC.wrStep W S).2 x r)⟩ (Keep.of_wr W) (Ar.set A e1 hl31 hfit (fits_nar_char x) W))
theorem W.bastore (X : Wk l Z EL y bytes maxL ret R B0 p e s m args below meth c B T h k n) {j : Int32} {x x' : Int32} {i : Nat} (A : Ar Z h a .byte vs) (hj : ¬ j < 0) (hi : j.toNatClampNeg = i) (hl : i < vs.length) (hx : nar .byte x = x') (ha : Z.heap.size ≤ a) (hnb : ¬ B a) (hd : decode bytes pc = .ok (.bastore, 1)) (hp : pc + 1 = pc') (g : ∀ T' h', Wk l Z EL y bytes maxL ret R B0 p e s m args below meth c B T' h' k n → Keep h h' [a] → Ar Z h' a .byte (vs.set i (.int x')) → Go l Z EL R B0 Q p e s m below T' pc' ls st) : Go l Z EL R B0 Q p e s m below T pc ls (.int x :: .int j :: .ref a :: st) := by
  obtain ⟨i0, hE, hz, hB, V, locs, q0, X1, eT, hZ, hown, hS, hq, hF, hC, hK⟩ := X
  obtain ⟨cl, A, e1, hl31, hfit⟩ := A
  have e2 : cl.slots.size = vs.length := by rw [← e1]; simp
  subst hi hx
  obtain ⟨T', h', X', e', W, st'⟩ := RoadKit.stB X1 i0.1 hZ eT A (fun r => r.elim hj fun z => by omega) (g := mkF m pc ls (.int x :: .int j :: .ref a :: st)) rfl rfl (i0.2.1 ▸ hd)
  subst hp
  have S : Safe Z EL V h a := fun r => hnb (hK a r)
  exact Go.step st' (g T' h' ⟨i0, hE.wr W ha, by rw [W.size]; exact hz, hB, V, _, q0, X', e', hZ, hown, hS, by rw [W.size]; exact hq, Fr.snoc X' hF ha, hC.wr W S, fun x r => hK x ((hC.wrStep W S).2 x r)⟩ (Keep.of_wr W) (Ar.set A e1 hl31 hfit (fits_nar_byte x) W))
theorem W.iastore (X : Wk l Z EL y bytes maxL ret R B0 p e s m args below meth c B T h k n) {j : Int32} {x x' : Int32} {i : Nat} (A : Ar Z h a .int vs) (hj : ¬ j < 0) (hi : j.toNatClampNeg = i) (hl : i < vs.length) (hx : x = x') (ha : Z.heap.size ≤ a) (hnb : ¬ B a) (hd : decode bytes pc = .ok (.iastore, 1)) (hp : pc + 1 = pc') (g : ∀ T' h', Wk l Z EL y bytes maxL ret R B0 p e s m args below meth c B T' h' k n → Keep h h' [a] → Ar Z h' a .int (vs.set i (.int x')) → Go l Z EL R B0 Q p e s m below T' pc' ls st) : Go l Z EL R B0 Q p e s m below T pc ls (.int x :: .int j :: .ref a :: st) := by
  obtain ⟨i0, hE, hz, hB, V, locs, q0, X1, eT, hZ, hown, hS, hq, hF, hC, hK⟩ := X
  obtain ⟨cl, A, e1, hl31, hfit⟩ := A
  have e2 : cl.slots.size = vs.length := by rw [← e1]; simp
  subst hi hx
  obtain ⟨T', h', X', e', W, st'⟩ := RoadKit.stI X1 i0.1 hZ eT A (fun r => r.elim hj fun z => by omega) (g := mkF m pc ls (.int x :: .int j :: .ref a :: st)) rfl rfl (i0.2.1 ▸ hd)
  subst hp
  have S : Safe Z EL V h a := fun r => hnb (hK a r)
  exact Go.step st' (g T' h' ⟨i0, hE.wr W ha, by rw [W.size]; exact hz, hB, V, _, q0, X', e', hZ, hown, hS, by rw [W.size]; exact hq, Fr.snoc X' hF ha, hC.wr W S, fun x r => hK x ((hC.wrStep W S).2 x r)⟩ (Keep.of_wr W) (Ar.set A e1 hl31 hfit (rfl) W))
theorem W.lastore (X : Wk l Z EL y bytes maxL ret R B0 p e s m args below meth c B T h k n) {j : Int32} {x x' : Int64} {i : Nat} (A : Ar Z h a .long vs) (hj : ¬ j < 0) (hi : j.toNatClampNeg = i) (hl : i < vs.length) (hx : x = x') (ha : Z.heap.size ≤ a) (hnb : ¬ B a) (hd : decode bytes pc = .ok (.lastore, 1)) (hp : pc + 1 = pc') (g : ∀ T' h', Wk l Z EL y bytes maxL ret R B0 p e s m args below meth c B T' h' k n → Keep h h' [a] → Ar Z h' a .long (vs.set i (.long x')) → Go l Z EL R B0 Q p e s m below T' pc' ls st) : Go l Z EL R B0 Q p e s m below T pc ls (.long x :: .int j :: .ref a :: st) := by
  obtain ⟨i0, hE, hz, hB, V, locs, q0, X1, eT, hZ, hown, hS, hq, hF, hC, hK⟩ := X
  obtain ⟨cl, A, e1, hl31, hfit⟩ := A
  have e2 : cl.slots.size = vs.length := by rw [← e1]; simp
  subst hi hx
  obtain ⟨T', h', X', e', W, st'⟩ := RoadKit.stJ X1 i0.1 hZ eT A (fun r => r.elim hj fun z => by omega) (g := mkF m pc ls (.long x :: .int j :: .ref a :: st)) rfl rfl (i0.2.1 ▸ hd)
  subst hp
  have S : Safe Z EL V h a := fun r => hnb (hK a r)
  exact Go.step st' (g T' h' ⟨i0, hE.wr W ha, by rw [W.size]; exact hz, hB, V, _, q0, X', e', hZ, hown, hS, by rw [W.size]; exact hq, Fr.snoc X' hF ha, hC.wr W S, fun x r => hK x ((hC.wrStep W S).2 x r)⟩ (Keep.of_wr W) (Ar.set A e1 hl31 hfit (rfl) W))
theorem W.aastore (X : Wk l Z EL y bytes maxL ret R B0 p e s m args below meth c B T h k n) {j : Int32} {v : Value} {i : Nat} (A : Ar Z h a ty vs) (hj : ¬ j < 0) (hi : j.toNatClampNeg = i) (hl : i < vs.length) (hty : ty.isReference = true) (F : Sto Z h a v) (hvf : fits ty v = true) (ha : Z.heap.size ≤ a) (hnb : ¬ B a) (hd : decode bytes pc = .ok (.aastore, 1)) (hp : pc + 1 = pc') (g : ∀ T' h', Wk l Z EL y bytes maxL ret R B0 p e s m args below meth c B T' h' k n → Keep h h' [a] → Ar Z h' a ty (vs.set i v) → Go l Z EL R B0 Q p e s m below T' pc' ls st) : Go l Z EL R B0 Q p e s m below T pc ls (v :: .int j :: .ref a :: st) := by
  obtain ⟨i0, hE, hz, hB, V, locs, q0, X1, eT, hZ, hown, hS, hq, hF, hC, hK⟩ := X
  obtain ⟨cl, A, e1, hl31, hfit⟩ := A
  have e2 : cl.slots.size = vs.length := by rw [← e1]; simp
  subst hi
  obtain ⟨T', h', X', e', W, st'⟩ := RoadKit.stR X1 i0.1 hZ eT A (fun r => r.elim hj fun z => by omega) hty F (g := mkF m pc ls (v :: .int j :: .ref a :: st)) rfl rfl (i0.2.1 ▸ hd)
  subst hp
  have S : Safe Z EL V h a := fun r => hnb (hK a r)
  exact Go.step st' (g T' h' ⟨i0, hE.wr W ha, by rw [W.size]; exact hz, hB, V, _, q0, X', e', hZ, hown, hS, by rw [W.size]; exact hq, Fr.snoc X' hF ha, hC.wr W S, fun x r => hK x ((hC.wrStep W S).2 x r)⟩ (Keep.of_wr W) (Ar.set A e1 hl31 hfit hvf W))
theorem Sto.tk {C : String} (F : Tk Z h a C) (I : Ins Z h b C true) : Sto Z h a (.ref b) := by obtain ⟨c, ty, A, O⟩ := F; exact Sto.of A O I
/-! Object.<init> -/
theorem W.initO (X : Wk l Z EL y bytes maxL ret R B0 p e s m args below meth c B T h k n) {idx W : Nat} (w1 : (Jvm.Cond.methodLink y.cls idx Lib.objectInit).before a0 Z = true) (w2 : (Jvm.Cond.instanceMethod Lib.objectInit).before a0 Z = true) (w3 : (Jvm.Cond.code Lib.objectInit ⟨#[0xb1]⟩ 1 none).before a0 Z = true) (hd : decode bytes pc = .ok (.invokespecial idx, 3)) (hsize : ls.size = maxL) (hf : 1 ≤ R.frames) (hW : (st.map fun v => v.category).sum ≤ W) (hl : W + 12 ≤ R.locals) (hp : pc + 3 = pc') (g : ∀ T', Wk l Z EL y bytes maxL ret R B0 p e s m args below meth c B T' h k n → Go l Z EL R B0 Q p e s m below T' pc' ls st) : Go l Z EL R B0 Q p e s m below T pc ls (.ref a :: st) := by
  obtain ⟨i0, hE, hz, hB, V, locs, q0, X1, eT, hZ, hown, hS, hq, hF, hC, hK⟩ := X
  obtain ⟨T', X', e', st'⟩ := RoadKit.initO X1 i0.1 hZ hown w1 w2 w3 eT (g := mkF m pc ls (.ref a :: st)) rfl (hsize.trans i0.2.2.1.symm) rfl (i0.2.1 ▸ hd) hf (W := W) (by show 2 * 0 + _ ≤ _; omega) hl
  subst hp
  exact Go.step st' (g T' ⟨i0, hE, hz, hB, V, locs, q0, X', e', hZ, hown, hS, hq, hF, hC, hK⟩)
theorem sameM {C : String} {z z' : MethodName} (hc : z.cls = z'.cls) (hy : z.cls ≠ "java/lang/invoke/MethodHandle" ∧ z.cls ≠ "java/lang/invoke/VarHandle") (wi : (Jvm.Cond.instanceMethod z).before a0 Z = true) (ws : (Jvm.Cond.selects C z' z').before a0 Z = true) : (Jvm.Cond.sameMethod z.cls z.cls z.name z.desc).before a0 Z = true := by
  obtain ⟨mk, methM, hnamed, -, -, -⟩ := Cond.instanceMethod_spec wi
  obtain ⟨c2, r2, m2, q1, q2, q3, q4, kP, hkP, hkPi⟩ := Cond.selects_spec ws
  have f1 := findClass_of_methodNamed hnamed
  have f2 := findClass_of_methodNamed q3
  rw [← hc, f1] at f2
  have e : mk.cls = m2.cls := Option.some.inj f2
  have hf : Z.methodFound? z.cls z.name z.desc = some mk := State.methodFound?_of_named hnamed hy
  have hn' : Z.methodNamed? ⟨z.cls, z.name, z.desc⟩ = some mk := hnamed
  simp [Cond.before, Cond.holds, Cond.value, f1, hf, hn', e, hkP, hkPi]
theorem nfM {C : String} {z z' : MethodName} (hc : z.cls = z'.cls) (ws : (Jvm.Cond.selects C z' z').before a0 Z = true) : NotFace Z z := fun r0 h0 => by
  obtain ⟨c2, r2, m2, q1, q2, q3, q4, kP, hkP, hkPi⟩ := Cond.selects_spec ws
  have f1 := findClass_of_methodNamed h0
  have f2 := findClass_of_methodNamed q3
  rw [← hc, f1] at f2
  have e : r0.cls = m2.cls := Option.some.inj f2
  exact ⟨kP, by rw [e]; exact hkP, hkPi⟩
/-! calls -/
theorem BackS.con {z : MethodName} {zb : ByteArray} {zl len W : Nat} {zr : Option FieldType} {rm : Room} {as' : Array Value} {Qc : Option Value → Heap → (Addr → Prop) → Prop} {V : Vm} (K : Con l Z EL [] z zb zl zr rm B h as' Qc) (hZ : Z.Warmed39 V) (wc : (Jvm.Cond.code z zb zl zr).before a0 Z = true) (wz : (Jvm.Cond.initialized z.cls).before a0 Z = true) (hf : rm.frames + 1 ≤ R.frames) (hl : W + (zl + 11) + rm.locals ≤ R.locals) {a1 : Array Value} (hEL : EW Z a1 EL) (H : CHv Z EL V h) (hK : ∀ x, Bk Z EL V h x → B x) :
    BackS l R p e below (s.setVm V) args z len W (fun A a => a = as' ∧ A.U.heap = h ∧ A.cells + rm.cells ≤ R.cells ∧ A.slots + rm.slots ≤ R.slots)
      (fun A _ v B1 => ∃ L B', B1.locs = A.locs ++ L ∧ B1.cells = A.cells + rm.cells ∧ B1.slots = A.slots + rm.slots ∧ Fr Z.heap.size L ∧ CHv Z EL B1.U.vm B1.U.heap ∧ (∀ x, Bk Z EL B1.U.vm B1.U.heap x → B' x) ∧ (∀ x, B' x → B x ∨ h.size ≤ x) ∧ En Z B' B1.U.heap ∧ h.size ≤ B1.U.heap.size ∧ Qc v B1.U.heap B') :=
  BackS.of_freeW (bytes := zb) (maxL := zl) (ret := zr) (E := fun _ first o t L k n => k = rm.cells ∧ n = rm.slots ∧ ∃ v B', o = .returned v ∧ Fr Z.heap.size L ∧ CHv Z EL t.vm t.heap ∧ (∀ x, Bk Z EL t.vm t.heap x → B' x) ∧ (∀ x, B' x → B x ∨ h.size ≤ x) ∧ En Z B' t.heap ∧ h.size ≤ t.heap.size ∧ Qc v t.heap B') K hf hl
    (fun m meth c A a Y hp => have hU : Z.Warmed39 A.U.vm := wtrans (s := s.setVm V) hZ Y.warmed
      ⟨by show (Jvm.Cond.and _ .tt).before a A.U = true; rw [Cond.before_and, mv hU wc]; rfl, mv hU wc, mv hU wz, hp.2.2.1, hp.2.2.2⟩)
    (fun m meth c A a g mk Y hp => ⟨hp.1, wtrans (s := s.setVm V) hZ Y.warmed, hp.2.1, (CHv.at Y hZ hEL H).1, fun x r => by
      rcases (CHv.at Y hZ hEL H).2.2 x r with q | q
      · exact hK x q
      · obtain ⟨cell, q2⟩ := r.there
        exact absurd (Array.getElem?_eq_some_iff.mp q2).1 (Nat.not_lt.mpr q)⟩) (fun _ _ _ _ _ _ _ _ _ => trivial)
    (fun _ _ _ _ ⟨v, L, B', h1, h2, h3, h4, h5, h6, h7, h8, h9⟩ => ⟨L, _, _, h9, rfl, rfl, v, B', h1, h2, h3, h4, h5, h6, h7, h8⟩)
    (fun m meth c A a g mk v t L k n Y hp _ _ ⟨e1, e2, v', B', e3, e4, e5, e6, e7, e8, e9, e10⟩ => by
      cases e3; subst e1 e2
      exact ⟨L, B', rfl, rfl, rfl, e4, e5, e6, e7, e8, e9, e10⟩)
/-- behind a call -/
theorem Wk.after {V : Vm} {q0 : Nat} {locs : List Loc} {U : State} {L : List Loc} {B' : Addr → Prop} {k1 n1 : Nat} (i0 : p.tables.exec = Jvm.exec ∧ c.code = bytes ∧ c.maxLocals = maxL ∧ meth.sig.returnType = ret ∧ meth.locks = false ∧ meth.name = y.name ∧ ∃ a1, EW Z a1 EL) (hz : s.heap.size ≤ h.size) (hB : ∀ x, B x → B0 x ∨ s.heap.size ≤ x) (hZ : Z.Warmed39 V) (hown : V.findClass y.cls = some m.cls) (hS : s.Since V q0) (hq : q0 ≤ h.size) (hF : Fr Z.heap.size locs)
    (X2 : Stand p l e R ((s.setVm V).setVm U.vm) m args below meth c U (locs ++ L) k1 n1) (hS2 : (s.setVm V).Since U.vm U.heap.size) (r1 : Fr Z.heap.size L) (r2 : CHv Z EL U.vm U.heap) (r3 : ∀ x, Bk Z EL U.vm U.heap x → B' x) (r4 : ∀ x, B' x → B x ∨ h.size ≤ x) (r5 : En Z B' U.heap) (r6 : h.size ≤ U.heap.size) : Wk l Z EL y bytes maxL ret R B0 p e s m args below meth c B' U U.heap k1 n1 :=
  ⟨i0, r5, Nat.le_trans hz r6, fun x r => (r4 x r).elim (hB x) fun q => Or.inr (Nat.le_trans hz q), U.vm, locs ++ L, U.heap.size, X2, rfl, State.Warmed39.trans (t := s.setVm V) hZ hS2.1, (hS2.1.alike.findClass _ _).trans hown, hS.trans hS2 (Nat.le_trans hq r6), Nat.le_refl _, hF.app r1, r2, r3⟩
theorem W.callS (X : Wk l Z EL y bytes maxL ret R B0 p e s m args below meth c B T h k n) {index : Nat} {z : MethodName} {zb : ByteArray} {zl W : Nat} {zr : Option FieldType} {rm : Room} {as' : Array Value} {Qc : Option Value → Heap → (Addr → Prop) → Prop} {argsL stk : List Value} (K : Con l Z EL [] z zb zl zr rm B h as' Qc) (w1 : (Jvm.Cond.methodLink y.cls index z).before a0 Z = true) (w2 : (Jvm.Cond.static z).before a0 Z = true) (wc : (Jvm.Cond.code z zb zl zr).before a0 Z = true) (wz : (Jvm.Cond.initialized z.cls).before a0 Z = true) (hy : z.cls ≠ "java/lang/invoke/MethodHandle" ∧ z.cls ≠ "java/lang/invoke/VarHandle") (hf : rm.frames + 1 ≤ R.frames) (hl : W + (zl + 11) + rm.locals ≤ R.locals) (hsize : ls.size = maxL)
    (hlen : ∀ sig, parseMethodDescriptor z.desc = some sig → argsL.length = sig.parameters.length) (has : argsL.toArray = as') (hstk : stk = argsL.reverse ++ st) (hW : (st.map fun v => v.category).sum ≤ W) (hd : decode bytes pc = .ok (.invokestatic index, 3)) (hp : pc + 3 = pc') {k' n' : Nat} (hk1 : k + rm.cells ≤ k') (hn1 : n + rm.slots ≤ n') (hk2 : k' ≤ R.cells) (hn2 : n' ≤ R.slots)
    (g : ∀ T' h' B' v, Wk l Z EL y bytes maxL ret R B0 p e s m args below meth c B' T' h' k' n' → h.size ≤ h'.size → (∀ x, B' x → B x ∨ h.size ≤ x) → Qc v h' B' → Go l Z EL R B0 Q p e s m below T' pc' ls (v.toList ++ st)) : Go l Z EL R B0 Q p e s m below T pc ls stk := by
  obtain ⟨i0, hE, hz, hB, V, locs, q0, X1, eT, hZ, hown, hS, hq, hF, hC, hK⟩ := X
  obtain ⟨a1, hEL⟩ := i0.2.2.2.2.2.2
  obtain ⟨v, vm₁, ⟨U, Lu, ku, nu⟩, hWv, X2, hS2, hgr, ⟨L, B', e1, e2, e3, r1, r2, r3, r4, r5, r6, r7⟩, st'⟩ := Jvm.RoadKit.callSS X1 i0.1 (y := z) hown (mv (s := s.setVm V) hZ w1) (mv (s := s.setVm V) hZ w2) (mv (s := s.setVm V) hZ wz) (mv (s := s.setVm V) hZ wc) hy (BackS.con K hZ wc wz hf hl hEL hC hK) (g := mkF m pc ls stk) rfl (hsize.trans i0.2.2.1.symm) (argsL := argsL) (rest := st) hlen hstk (by show 2 * 0 + _ ≤ _; omega) (i0.2.1 ▸ hd) (fun _ _ => ⟨has, eT, by show k + _ ≤ _; omega, by show n + _ ≤ _; omega⟩)
  dsimp only [Pt.U, Pt.locs, Pt.cells, Pt.slots] at X2 hS2 hgr e1 e2 e3 r2 r3 r5 r6 r7 st'
  subst e1 e2 e3 hp
  exact Go.via st' (g U U.heap B' v ((Wk.after i0 hz hB hZ hown hS hq hF X2 hS2 r1 r2 r3 r4 r5 r6).mono hk1 hn1) r6 r4 r7)
theorem W.callV (X : Wk l Z EL y bytes maxL ret R B0 p e s m args below meth c B T h k n) {index : Nat} {z : MethodName} {zi : MethodName} {C : String} {zb : ByteArray} {zl W : Nat} {zr : Option FieldType} {rm : Room} {as' : Array Value} {Qc : Option Value → Heap → (Addr → Prop) → Prop} {argsL stk : List Value} (K : Con l Z EL [] z zb zl zr rm B h as' Qc) (w1 : (Jvm.Cond.methodLink y.cls index zi).before a0 Z = true) (w2 : (Jvm.Cond.declares zi).before a0 Z = true) (w3 : NotFace Z zi) (w4 : (Jvm.Cond.selects C zi z).before a0 Z = true) (w5 : (Jvm.Cond.instanceMethod z).before a0 Z = true) (E : Exa Z h a C) (wc : (Jvm.Cond.code z zb zl zr).before a0 Z = true) (wz : (Jvm.Cond.initialized z.cls).before a0 Z = true) (hy : zi.cls ≠ "java/lang/invoke/MethodHandle" ∧ zi.cls ≠ "java/lang/invoke/VarHandle") (hf : rm.frames + 1 ≤ R.frames) (hl : W + (zl + 11) + rm.locals ≤ R.locals) (hsize : ls.size = maxL)
    (hlen : ∀ sig, parseMethodDescriptor zi.desc = some sig → argsL.length = sig.parameters.length) (has : (.ref a :: argsL).toArray = as') (hstk : stk = argsL.reverse ++ .ref a :: st) (hW : (st.map fun v => v.category).sum ≤ W) (hd : decode bytes pc = .ok (.invokevirtual index, 3)) (hp : pc + 3 = pc') {k' n' : Nat} (hk1 : k + rm.cells ≤ k') (hn1 : n + rm.slots ≤ n') (hk2 : k' ≤ R.cells) (hn2 : n' ≤ R.slots)
    (g : ∀ T' h' B' v, Wk l Z EL y bytes maxL ret R B0 p e s m args below meth c B' T' h' k' n' → h.size ≤ h'.size → (∀ x, B' x → B x ∨ h.size ≤ x) → Qc v h' B' → Go l Z EL R B0 Q p e s m below T' pc' ls (v.toList ++ st)) : Go l Z EL R B0 Q p e s m below T pc ls stk := by
  obtain ⟨i0, hE, hz, hB, V, locs, q0, X1, eT, hZ, hown, hS, hq, hF, hC, hK⟩ := X
  obtain ⟨a1, hEL⟩ := i0.2.2.2.2.2.2
  obtain ⟨cB, kB, j1, j2, j3⟩ := isOf (s := s.setVm V) hZ eT E
  have w3' : NotFace (s.setVm V) zi := fun r0 h0 => by
    have h0' : (Z.setVm V).methodNamed? zi = some r0 := h0
    rw [State.methodNamed?_setVm hZ.alike] at h0'
    obtain ⟨kr, q1, q2⟩ := w3 r0 h0'
    obtain ⟨k2, q3, q4⟩ := hZ.alike.2.2 _ _ q1
    exact ⟨k2, q3, by rw [q4]; exact q2⟩
  obtain ⟨v, vm₁, ⟨U, Lu, ku, nu⟩, hWv, X2, hS2, hgr, ⟨L, B', e1, e2, e3, r1, r2, r3, r4, r5, r6, r7⟩, st'⟩ := X1.virtualBackS i0.1 (y := zi) (z := z) hown (mv (s := s.setVm V) hZ w1) (mv (s := s.setVm V) hZ w2) w3' (mv (s := s.setVm V) hZ w4) (mv (s := s.setVm V) hZ w5) hy (BackS.con K hZ wc wz hf hl hEL hC hK) j1 j3 (g := mkF m pc ls stk) rfl (hsize.trans i0.2.2.1.symm) (Steps.refl _) (argsL := argsL) (rest := st) hlen hstk (by show 2 * 0 + _ ≤ _; omega) (i0.2.1 ▸ hd) (fun _ _ => ⟨has, eT, by show k + _ ≤ _; omega, by show n + _ ≤ _; omega⟩)
  dsimp only [Pt.U, Pt.locs, Pt.cells, Pt.slots] at X2 hS2 hgr e1 e2 e3 r2 r3 r5 r6 r7 st'
  subst e1 e2 e3 hp
  exact Go.via st' (g U U.heap B' v ((Wk.after i0 hz hB hZ hown hS hq hF X2 hS2 r1 r2 r3 r4 r5 r6).mono hk1 hn1) r6 r4 r7)
theorem W.callI (X : Wk l Z EL y bytes maxL ret R B0 p e s m args below meth c B T h k n) {index : Nat} {count : Nat} {z : MethodName} {zi : MethodName} {C : String} {zb : ByteArray} {zl W : Nat} {zr : Option FieldType} {rm : Room} {as' : Array Value} {Qc : Option Value → Heap → (Addr → Prop) → Prop} {argsL stk : List Value} (K : Con l Z EL [] z zb zl zr rm B h as' Qc) (w1 : (Jvm.Cond.methodLink y.cls index zi).before a0 Z = true) (w2 : (Jvm.Cond.declares zi).before a0 Z = true) (w3 : (Jvm.Cond.interfaceMethod zi.cls zi.cls zi.name zi.desc).before a0 Z = true) (w4 : (Jvm.Cond.selects C zi z).before a0 Z = true) (w5 : (Jvm.Cond.instanceMethod z).before a0 Z = true) (w6 : (Jvm.Cond.publicMethod z).before a0 Z = true) (w7 : (Jvm.Cond.unhidden C zi.name zi.desc).before a0 Z = true) (w8 : (Jvm.Cond.castable C zi.cls).before a0 Z = true) (E : Exa Z h a C) (wc : (Jvm.Cond.code z zb zl zr).before a0 Z = true) (wz : (Jvm.Cond.initialized z.cls).before a0 Z = true) (hy : zi.cls ≠ "java/lang/invoke/MethodHandle" ∧ zi.cls ≠ "java/lang/invoke/VarHandle") (hf : rm.frames + 1 ≤ R.frames) (hl : W + (zl + 11) + rm.locals ≤ R.locals) (hsize : ls.size = maxL)
    (hlen : ∀ sig, parseMethodDescriptor zi.desc = some sig → argsL.length = sig.parameters.length) (has : (.ref a :: argsL).toArray = as') (hstk : stk = argsL.reverse ++ .ref a :: st) (hW : (st.map fun v => v.category).sum ≤ W) (hd : decode bytes pc = .ok (.invokeinterface index count, 5)) (hp : pc + 5 = pc') {k' n' : Nat} (hk1 : k + rm.cells ≤ k') (hn1 : n + rm.slots ≤ n') (hk2 : k' ≤ R.cells) (hn2 : n' ≤ R.slots)
    (g : ∀ T' h' B' v, Wk l Z EL y bytes maxL ret R B0 p e s m args below meth c B' T' h' k' n' → h.size ≤ h'.size → (∀ x, B' x → B x ∨ h.size ≤ x) → Qc v h' B' → Go l Z EL R B0 Q p e s m below T' pc' ls (v.toList ++ st)) : Go l Z EL R B0 Q p e s m below T pc ls stk := by
  obtain ⟨i0, hE, hz, hB, V, locs, q0, X1, eT, hZ, hown, hS, hq, hF, hC, hK⟩ := X
  obtain ⟨a1, hEL⟩ := i0.2.2.2.2.2.2
  obtain ⟨cB, kB, j1, j2, j3⟩ := isOf (s := s.setVm V) hZ eT E
  obtain ⟨v, vm₁, ⟨U, Lu, ku, nu⟩, hWv, X2, hS2, hgr, ⟨L, B', e1, e2, e3, r1, r2, r3, r4, r5, r6, r7⟩, st'⟩ := X1.interfaceBackS i0.1 (xi := zi) (y := z) hown (mv (s := s.setVm V) hZ w1) (mv (s := s.setVm V) hZ w2) (mv (s := s.setVm V) hZ w3 (by simp [Cond.onTables, Cond.keepsFace, Cond.keeps, Cond.steady, Cond.faceAtom, hy.1, hy.2])) (mv (s := s.setVm V) hZ w4) (mv (s := s.setVm V) hZ w5) (mv (s := s.setVm V) hZ w6) (mv (s := s.setVm V) hZ w7) (mv (s := s.setVm V) hZ w8) hy (BackS.con K hZ wc wz hf hl hEL hC hK) j1 j2 j3 (g := mkF m pc ls stk) rfl (hsize.trans i0.2.2.1.symm) (Steps.refl _) (argsL := argsL) (rest := st) hlen hstk (by show 2 * 0 + _ ≤ _; omega) (i0.2.1 ▸ hd) (fun _ _ => ⟨has, eT, by show k + _ ≤ _; omega, by show n + _ ≤ _; omega⟩)
  dsimp only [Pt.U, Pt.locs, Pt.cells, Pt.slots] at X2 hS2 hgr e1 e2 e3 r2 r3 r5 r6 r7 st'
  subst e1 e2 e3 hp
  exact Go.via st' (g U U.heap B' v ((Wk.after i0 hz hB hZ hown hS hq hF X2 hS2 r1 r2 r3 r4 r5 r6).mono hk1 hn1) r6 r4 r7)
theorem W.callN (X : Wk l Z EL y bytes maxL ret R B0 p e s m args below meth c B T h k n) {index : Nat} {z : MethodName} {zb : ByteArray} {zl W : Nat} {rm : Room} {as' : Array Value} {Qc : Option Value → Heap → (Addr → Prop) → Prop} {argsL stk : List Value} (K : Con l Z EL [] z zb zl none rm B h as' Qc) (hn : z.name = "<init>") (w1 : (Jvm.Cond.methodLink y.cls index z).before a0 Z = true) (w2 : (Jvm.Cond.instanceMethod z).before a0 Z = true) (wc : (Jvm.Cond.code z zb zl none).before a0 Z = true) (wz : (Jvm.Cond.initialized z.cls).before a0 Z = true) (hy : z.cls ≠ "java/lang/invoke/MethodHandle" ∧ z.cls ≠ "java/lang/invoke/VarHandle") (hf : rm.frames + 1 ≤ R.frames) (hl : W + (zl + 11) + rm.locals ≤ R.locals) (hsize : ls.size = maxL)
    (hlen : ∀ sig, parseMethodDescriptor z.desc = some sig → argsL.length = sig.parameters.length) (has : (.ref a :: argsL).toArray = as') (hstk : stk = argsL.reverse ++ .ref a :: st) (hW : (st.map fun v => v.category).sum ≤ W) (hd : decode bytes pc = .ok (.invokespecial index, 3)) (hp : pc + 3 = pc') {k' n' : Nat} (hk1 : k + rm.cells ≤ k') (hn1 : n + rm.slots ≤ n') (hk2 : k' ≤ R.cells) (hn2 : n' ≤ R.slots)
    (g : ∀ T' h' B' v, Wk l Z EL y bytes maxL ret R B0 p e s m args below meth c B' T' h' k' n' → h.size ≤ h'.size → (∀ x, B' x → B x ∨ h.size ≤ x) → Qc v h' B' → Go l Z EL R B0 Q p e s m below T' pc' ls (v.toList ++ st)) : Go l Z EL R B0 Q p e s m below T pc ls stk := by
  obtain ⟨i0, hE, hz, hB, V, locs, q0, X1, eT, hZ, hown, hS, hq, hF, hC, hK⟩ := X
  obtain ⟨a1, hEL⟩ := i0.2.2.2.2.2.2
  obtain ⟨v, vm₁, ⟨U, Lu, ku, nu⟩, hWv, X2, hS2, hgr, ⟨L, B', e1, e2, e3, r1, r2, r3, r4, r5, r6, r7⟩, st'⟩ := X1.specialBackS i0.1 (y := z) hn hown (mv (s := s.setVm V) hZ w1) (mv (s := s.setVm V) hZ w2) (mv (s := s.setVm V) hZ wc) hy (BackS.con K hZ wc wz hf hl hEL hC hK) (g := mkF m pc ls stk) rfl (hsize.trans i0.2.2.1.symm) (Steps.refl _) (a := a) (argsL := argsL) (rest := st) hlen hstk (by show 2 * 0 + _ ≤ _; omega) (i0.2.1 ▸ hd) (fun _ _ => ⟨has, eT, by show k + _ ≤ _; omega, by show n + _ ≤ _; omega⟩)
  dsimp only [Pt.U, Pt.locs, Pt.cells, Pt.slots] at X2 hS2 hgr e1 e2 e3 r2 r3 r5 r6 r7 st'
  subst e1 e2 e3 hp
  exact Go.via st' (g U U.heap B' v ((Wk.after i0 hz hB hZ hown hS hq hF X2 hS2 r1 r2 r3 r4 r5 r6).mono hk1 hn1) r6 r4 r7)
theorem W.callU (X : Wk l Z EL y bytes maxL ret R B0 p e s m args below meth c B T h k n) {index : Nat} {z : MethodName} {zi : MethodName} {C : String} {owner : String} {zb : ByteArray} {zl W : Nat} {zr : Option FieldType} {rm : Room} {as' : Array Value} {Qc : Option Value → Heap → (Addr → Prop) → Prop} {argsL stk : List Value} (K : Con l Z EL [] z zb zl zr rm B h as' Qc) (w1 : (Jvm.Cond.methodLink y.cls index zi).before a0 Z = true) (w2 : (Jvm.Cond.sameMethod zi.cls owner zi.name zi.desc).before a0 Z = true) (w3 : (Jvm.Cond.declares ⟨owner, zi.name, zi.desc⟩).before a0 Z = true) (ho : owner ≠ "java/lang/invoke/MethodHandle" ∧ owner ≠ "java/lang/invoke/VarHandle") (w4 : (Jvm.Cond.selects C zi z).before a0 Z = true) (w5 : (Jvm.Cond.instanceMethod z).before a0 Z = true) (E : Exa Z h a C) (wc : (Jvm.Cond.code z zb zl zr).before a0 Z = true) (wz : (Jvm.Cond.initialized z.cls).before a0 Z = true)  (hf : rm.frames + 1 ≤ R.frames) (hl : W + (zl + 11) + rm.locals ≤ R.locals) (hsize : ls.size = maxL)
    (hlen : ∀ sig, parseMethodDescriptor zi.desc = some sig → argsL.length = sig.parameters.length) (has : (.ref a :: argsL).toArray = as') (hstk : stk = argsL.reverse ++ .ref a :: st) (hW : (st.map fun v => v.category).sum ≤ W) (hd : decode bytes pc = .ok (.invokevirtual index, 3)) (hp : pc + 3 = pc') {k' n' : Nat} (hk1 : k + rm.cells ≤ k') (hn1 : n + rm.slots ≤ n') (hk2 : k' ≤ R.cells) (hn2 : n' ≤ R.slots)
    (g : ∀ T' h' B' v, Wk l Z EL y bytes maxL ret R B0 p e s m args below meth c B' T' h' k' n' → h.size ≤ h'.size → (∀ x, B' x → B x ∨ h.size ≤ x) → Qc v h' B' → Go l Z EL R B0 Q p e s m below T' pc' ls (v.toList ++ st)) : Go l Z EL R B0 Q p e s m below T pc ls stk := by
  obtain ⟨i0, hE, hz, hB, V, locs, q0, X1, eT, hZ, hown, hS, hq, hF, hC, hK⟩ := X
  obtain ⟨a1, hEL⟩ := i0.2.2.2.2.2.2
  obtain ⟨cB, kB, j1, j2, j3⟩ := isOf (s := s.setVm V) hZ eT E
  obtain ⟨v, vm₁, ⟨U, Lu, ku, nu⟩, hWv, X2, hS2, hgr, ⟨L, B', e1, e2, e3, r1, r2, r3, r4, r5, r6, r7⟩, st'⟩ := X1.virtualBackUpS i0.1 (x := zi) (y := z) (owner := owner) hown (mv (s := s.setVm V) hZ w1) (mv (s := s.setVm V) hZ w2) (mv (s := s.setVm V) hZ w3) ho (mv (s := s.setVm V) hZ w4) (mv (s := s.setVm V) hZ w5) (BackS.con K hZ wc wz hf hl hEL hC hK) j1 j3 (g := mkF m pc ls stk) rfl (hsize.trans i0.2.2.1.symm) (Steps.refl _) (argsL := argsL) (rest := st) hlen hstk (by show 2 * 0 + _ ≤ _; omega) (i0.2.1 ▸ hd) (fun _ _ => ⟨has, eT, by show k + _ ≤ _; omega, by show n + _ ≤ _; omega⟩)
  dsimp only [Pt.U, Pt.locs, Pt.cells, Pt.slots] at X2 hS2 hgr e1 e2 e3 r2 r3 r5 r6 r7 st'
  subst e1 e2 e3 hp
  exact Go.via st' (g U U.heap B' v ((Wk.after i0 hz hB hZ hown hS hq hF X2 hS2 r1 r2 r3 r4 r5 r6).mono hk1 hn1) r6 r4 r7)
theorem privAt {s : State} {z : MethodName} (hZ : Z.Warmed39 s.vm) (w : (Jvm.Cond.privateMethod z).before a0 Z = true) : s.PrivateAt z := Cond.privateMethod_at (mvP (args := #[]) hZ w)
theorem W.callP (X : Wk l Z EL y bytes maxL ret R B0 p e s m args below meth c B T h k n) {index : Nat} {z : MethodName} {C : String} {zb : ByteArray} {zl W : Nat} {zr : Option FieldType} {rm : Room} {as' : Array Value} {Qc : Option Value → Heap → (Addr → Prop) → Prop} {argsL stk : List Value} (K : Con l Z EL [] z zb zl zr rm B h as' Qc) (w1 : (Jvm.Cond.methodLink y.cls index z).before a0 Z = true) (w2 : (Jvm.Cond.instanceMethod z).before a0 Z = true) (w3 : NotFace Z z) (w4 : (Jvm.Cond.privateMethod z).before a0 Z = true) (E : Exa Z h a C) (wc : (Jvm.Cond.code z zb zl zr).before a0 Z = true) (wz : (Jvm.Cond.initialized z.cls).before a0 Z = true) (hy : z.cls ≠ "java/lang/invoke/MethodHandle" ∧ z.cls ≠ "java/lang/invoke/VarHandle") (hf : rm.frames + 1 ≤ R.frames) (hl : W + (zl + 11) + rm.locals ≤ R.locals) (hsize : ls.size = maxL)
    (hlen : ∀ sig, parseMethodDescriptor z.desc = some sig → argsL.length = sig.parameters.length) (has : (.ref a :: argsL).toArray = as') (hstk : stk = argsL.reverse ++ .ref a :: st) (hW : (st.map fun v => v.category).sum ≤ W) (hd : decode bytes pc = .ok (.invokevirtual index, 3)) (hp : pc + 3 = pc') {k' n' : Nat} (hk1 : k + rm.cells ≤ k') (hn1 : n + rm.slots ≤ n') (hk2 : k' ≤ R.cells) (hn2 : n' ≤ R.slots)
    (g : ∀ T' h' B' v, Wk l Z EL y bytes maxL ret R B0 p e s m args below meth c B' T' h' k' n' → h.size ≤ h'.size → (∀ x, B' x → B x ∨ h.size ≤ x) → Qc v h' B' → Go l Z EL R B0 Q p e s m below T' pc' ls (v.toList ++ st)) : Go l Z EL R B0 Q p e s m below T pc ls stk := by
  obtain ⟨i0, hE, hz, hB, V, locs, q0, X1, eT, hZ, hown, hS, hq, hF, hC, hK⟩ := X
  obtain ⟨a1, hEL⟩ := i0.2.2.2.2.2.2
  have w3' : NotFace (s.setVm V) z := fun r0 h0 => by
    have h0' : (Z.setVm V).methodNamed? z = some r0 := h0
    rw [State.methodNamed?_setVm hZ.alike] at h0'
    obtain ⟨kr, q1, q2⟩ := w3 r0 h0'
    obtain ⟨k2, q3, q4⟩ := hZ.alike.2.2 _ _ q1
    exact ⟨k2, q3, by rw [q4]; exact q2⟩
  obtain ⟨cellP, hcP, hobj⟩ := Exa.cell E
  have hcell : T.heap[a]? = some cellP := by rw [eT]; exact hcP
  obtain ⟨mkP, methP, hnP, -⟩ := Cond.instanceMethod_spec (mv (args := args) (s := s.setVm V) hZ w2)
  obtain ⟨kP, hkP, hkPi⟩ := w3' mkP hnP
  have hsel : (Jvm.Cond.selects z.cls z z).before args (s.setVm V) = true := Jvm.Stand.selects_self_of_private (findClass_of_methodNamed hnP) hkP hkPi (privAt (s := s.setVm V) hZ w4) (mv (s := s.setVm V) hZ w2) hy
  obtain ⟨v, vm₁, ⟨U, Lu, ku, nu⟩, hWv, X2, hS2, hgr, ⟨L, B', e1, e2, e3, r1, r2, r3, r4, r5, r6, r7⟩, st'⟩ := X1.privateBackS i0.1 (y := z) hown (mv (s := s.setVm V) hZ w1) (mv (s := s.setVm V) hZ w2) hsel (privAt (s := s.setVm V) hZ w4) (mv (s := s.setVm V) hZ wc) hy (BackS.con K hZ wc wz hf hl hEL hC hK) (g := mkF m pc ls stk) rfl (hsize.trans i0.2.2.1.symm) (Steps.refl _) hcell hobj (argsL := argsL) (rest := st) hlen hstk (by show 2 * 0 + _ ≤ _; omega) (i0.2.1 ▸ hd) (fun _ _ => ⟨has, eT, by show k + _ ≤ _; omega, by show n + _ ≤ _; omega⟩)
  dsimp only [Pt.U, Pt.locs, Pt.cells, Pt.slots] at X2 hS2 hgr e1 e2 e3 r2 r3 r5 r6 r7 st'
  subst e1 e2 e3 hp
  exact Go.via st' (g U U.heap B' v ((Wk.after i0 hz hB hZ hown hS hq hF X2 hS2 r1 r2 r3 r4 r5 r6).mono hk1 hn1) r6 r4 r7)
theorem W.callX (X : Wk l Z EL y bytes maxL ret R B0 p e s m args below meth c B T h k n) {index : Nat} {z : MethodName} {C : String} {zb : ByteArray} {zl W : Nat} {zr : Option FieldType} {rm : Room} {as' : Array Value} {Qc : Option Value → Heap → (Addr → Prop) → Prop} {argsL stk : List Value} (K : Con l Z EL [] z zb zl zr rm B h as' Qc) (w1 : (Jvm.Cond.methodLink y.cls index z).before a0 Z = true) (w2 : (Jvm.Cond.sameMethod z.cls z.cls z.name z.desc).before a0 Z = true) (w3 : (Jvm.Cond.instanceMethod z).before a0 Z = true) (w4 : (Jvm.Cond.superclass y.cls z.cls).before a0 Z = true) (hn : z.name ≠ "<init>") (E : Exa Z h a C) (wc : (Jvm.Cond.code z zb zl zr).before a0 Z = true) (wz : (Jvm.Cond.initialized z.cls).before a0 Z = true)  (hf : rm.frames + 1 ≤ R.frames) (hl : W + (zl + 11) + rm.locals ≤ R.locals) (hsize : ls.size = maxL)
    (hlen : ∀ sig, parseMethodDescriptor z.desc = some sig → argsL.length = sig.parameters.length) (has : (.ref a :: argsL).toArray = as') (hstk : stk = argsL.reverse ++ .ref a :: st) (hW : (st.map fun v => v.category).sum ≤ W) (hd : decode bytes pc = .ok (.invokespecial index, 3)) (hp : pc + 3 = pc') {k' n' : Nat} (hk1 : k + rm.cells ≤ k') (hn1 : n + rm.slots ≤ n') (hk2 : k' ≤ R.cells) (hn2 : n' ≤ R.slots)
    (g : ∀ T' h' B' v, Wk l Z EL y bytes maxL ret R B0 p e s m args below meth c B' T' h' k' n' → h.size ≤ h'.size → (∀ x, B' x → B x ∨ h.size ≤ x) → Qc v h' B' → Go l Z EL R B0 Q p e s m below T' pc' ls (v.toList ++ st)) : Go l Z EL R B0 Q p e s m below T pc ls stk := by
  obtain ⟨i0, hE, hz, hB, V, locs, q0, X1, eT, hZ, hown, hS, hq, hF, hC, hK⟩ := X
  obtain ⟨a1, hEL⟩ := i0.2.2.2.2.2.2
  obtain ⟨v, vm₁, ⟨U, Lu, ku, nu⟩, hWv, X2, hS2, hgr, ⟨L, B', e1, e2, e3, r1, r2, r3, r4, r5, r6, r7⟩, st'⟩ := Jvm.RoadKit.superBackS X1 i0.1 hZ hown w1 w2 w3 w4 hn (BackS.con K hZ wc wz hf hl hEL hC hK) eT (Ins.self E) (g := mkF m pc ls stk) rfl (hsize.trans i0.2.2.1.symm) wc (argsL := argsL) (rest := st) hlen hstk (by show 2 * 0 + _ ≤ _; omega) (i0.2.1 ▸ hd) (fun _ _ => ⟨has, eT, by show k + _ ≤ _; omega, by show n + _ ≤ _; omega⟩)
  dsimp only [Pt.U, Pt.locs, Pt.cells, Pt.slots] at X2 hS2 hgr e1 e2 e3 r2 r3 r5 r6 r7 st'
  subst e1 e2 e3 hp
  exact Go.via st' (g U U.heap B' v ((Wk.after i0 hz hB hZ hown hS hq hF X2 hS2 r1 r2 r3 r4 r5 r6).mono hk1 hn1) r6 r4 r7)
theorem kp {xv : Value} (g : ∀ T', Wk l Z EL y bytes maxL ret R B0 p e s m args below meth c B T' h k n → Go l Z EL R B0 Q p e s m below T' pc' ls (xv :: st)) : ∀ T' h' B' v, Wk l Z EL y bytes maxL ret R B0 p e s m args below meth c B' T' h' k n → h.size ≤ h'.size → (∀ x, B' x → B x ∨ h.size ≤ x) → (v = some xv ∧ h' = h ∧ B' = B) → Go l Z EL R B0 Q p e s m below T' pc' ls (v.toList ++ st) := by
  rintro T' h' B' v X - - ⟨rfl, rfl, rfl⟩; exact g T' X
theorem kpv (g : ∀ T', Wk l Z EL y bytes maxL ret R B0 p e s m args below meth c B T' h k n → Go l Z EL R B0 Q p e s m below T' pc' ls st) : ∀ T' h' B' v, Wk l Z EL y bytes maxL ret R B0 p e s m args below meth c B' T' h' k n → h.size ≤ h'.size → (∀ x, B' x → B x ∨ h.size ≤ x) → (v = none ∧ h' = h ∧ B' = B) → Go l Z EL R B0 Q p e s m below T' pc' ls (v.toList ++ st) := by
  rintro T' h' B' v X - - ⟨rfl, rfl, rfl⟩; exact g T' X
theorem kr {Qc : Value → Heap → Prop} (g : ∀ T' h' x, Wk l Z EL y bytes maxL ret R B0 p e s m args below meth c B T' h' k n → h.size ≤ h'.size → Qc x h' → Go l Z EL R B0 Q p e s m below T' pc' ls (x :: st)) : ∀ T' h' B' v, Wk l Z EL y bytes maxL ret R B0 p e s m args below meth c B' T' h' k n → h.size ≤ h'.size → (∀ x, B' x → B x ∨ h.size ≤ x) → (∃ x, v = some x ∧ B' = B ∧ Qc x h') → Go l Z EL R B0 Q p e s m below T' pc' ls (v.toList ++ st) := by
  rintro T' h' B' v X z - ⟨x, rfl, rfl, q⟩; exact g T' h' x X z q
theorem kv {Qc : Heap → Prop} (g : ∀ T' h', Wk l Z EL y bytes maxL ret R B0 p e s m args below meth c B T' h' k n → h.size ≤ h'.size → Qc h' → Go l Z EL R B0 Q p e s m below T' pc' ls st) : ∀ T' h' B' v, Wk l Z EL y bytes maxL ret R B0 p e s m args below meth c B' T' h' k n → h.size ≤ h'.size → (∀ x, B' x → B x ∨ h.size ≤ x) → (v = none ∧ B' = B ∧ Qc h') → Go l Z EL R B0 Q p e s m below T' pc' ls (v.toList ++ st) := by
  rintro T' h' B' v X z - ⟨rfl, rfl, q⟩; exact g T' h' X z q
theorem kri {Qc : Value → Heap → (Addr → Prop) → Prop} (g : ∀ T' h' B' x, Wk l Z EL y bytes maxL ret R B0 p e s m args below meth c B' T' h' k n → h.size ≤ h'.size → (∀ x, B' x → B x ∨ h.size ≤ x) → Qc x h' B' → Go l Z EL R B0 Q p e s m below T' pc' ls (x :: st)) : ∀ T' h' B' v, Wk l Z EL y bytes maxL ret R B0 p e s m args below meth c B' T' h' k n → h.size ≤ h'.size → (∀ x, B' x → B x ∨ h.size ≤ x) → (∃ x, v = some x ∧ Qc x h' B') → Go l Z EL R B0 Q p e s m below T' pc' ls (v.toList ++ st) := by
  rintro T' h' B' v X z zb ⟨x, rfl, q⟩; exact g T' h' B' x X z zb q
theorem kvi {Qc : Heap → (Addr → Prop) → Prop} (g : ∀ T' h' B', Wk l Z EL y bytes maxL ret R B0 p e s m args below meth c B' T' h' k n → h.size ≤ h'.size → (∀ x, B' x → B x ∨ h.size ≤ x) → Qc h' B' → Go l Z EL R B0 Q p e s m below T' pc' ls st) : ∀ T' h' B' v, Wk l Z EL y bytes maxL ret R B0 p e s m args below meth c B' T' h' k n → h.size ≤ h'.size → (∀ x, B' x → B x ∨ h.size ≤ x) → (v = none ∧ Qc h' B') → Go l Z EL R B0 Q p e s m below T' pc' ls (v.toList ++ st) := by
  rintro T' h' B' v X z zb ⟨rfl, q⟩; exact g T' h' B' X z zb q
/-! System.arraycopy -/
theorem range_getD {vs : List Value} {i len : Nat} (d : Value) (hl : i + len ≤ vs.length) : (List.range len).map (fun q => vs.getD (i + q) d) = (vs.drop i).take len := by
  apply List.ext_getElem?
  intro j
  by_cases hj : j < len
  · rw [List.getElem?_map, List.getElem?_range hj, List.getElem?_take_of_lt hj, List.getElem?_drop]
    simp only [Option.map_some, List.getD_eq_getElem?_getD]
    rw [List.getElem?_eq_getElem (by omega : i + j < vs.length)]; rfl
  · rw [List.getElem?_eq_none (by simpa using hj), List.getElem?_eq_none (by simp; omega)]
theorem W.acopy (X : Wk l Z EL y bytes maxL ret R B0 p e s m args below meth c B T h k n) {index W : Nat} {sp dp nn : Int32} {i j len : Nat} {us : List Value} (A : Ar Z h a ty vs) (D : Ar Z h b ty us) (w1 : (Jvm.Cond.methodLink y.cls index Jvm.Stand.acN).before a0 Z = true) (w2 : (Jvm.Cond.native Jvm.Stand.acN).before a0 Z = true) (w3 : (Jvm.Cond.static Jvm.Stand.acN).before a0 Z = true) (w4 : (Jvm.Cond.initialized "java/lang/System").before a0 Z = true) (hty : refKind ty = false)
    (h1 : i.toInt32 = sp) (h2 : j.toInt32 = dp) (h3 : len.toInt32 = nn) (h4 : i + len ≤ vs.length) (h5 : j + len ≤ us.length) (ha : Z.heap.size ≤ b) (hnb : ¬ B b) (hsize : ls.size = maxL) (hf : 1 ≤ R.frames) (hW : (st.map fun v => v.category).sum ≤ W) (hlo : W + (nativeFrameWords "java/lang/System" "arraycopy" 5 + 11) ≤ R.locals) (hd : decode bytes pc = .ok (.invokestatic index, 3)) (hp : pc + 3 = pc')
    (g : ∀ T' h', Wk l Z EL y bytes maxL ret R B0 p e s m args below meth c B T' h' k n → Keep h h' [b] → Ar Z h' b ty (us.take j ++ (vs.drop i).take len ++ us.drop (j + len)) → Go l Z EL R B0 Q p e s m below T' pc' ls st) : Go l Z EL R B0 Q p e s m below T pc ls (.int nn :: .int dp :: .ref b :: .int sp :: .ref a :: st) := by
  obtain ⟨i0, hE, hz, hB, V, locs, q0, X1, eT, hZ, hown, hS, hq, hF, hC, hK⟩ := X
  have hv := A.len_lt
  have hu := D.len_lt
  subst h1 h2 h3 hp
  obtain ⟨n1, e1, -⟩ := len32 (show i < 2 ^ 31 by omega)
  obtain ⟨n2, e2, -⟩ := len32 (show j < 2 ^ 31 by omega)
  obtain ⟨n3, e3, -⟩ := len32 (show len < 2 ^ 31 by omega)
  obtain ⟨n4, e4, -⟩ := len32 hv
  obtain ⟨n5, e5, -⟩ := len32 hu
  obtain ⟨ka, A'⟩ := A.toArv rfl (.int 0)
  obtain ⟨kb, D'⟩ := D.toArv rfl (.int 0)
  obtain ⟨T', h', L, X', e', N', K', R', st'⟩ := RoadKit.cpA X1 i0.1 hZ hown w1 w2 w3 w4 eT A' D' (us := (List.range len).map fun q => vs.getD (i + q) (.int 0)) (Or.inl ⟨rfl, hty⟩) n1 n2 n3 (by rw [e1, e3, e4]; exact h4) (by rw [e2, e3, e5]; exact h5) (by rw [e1, e3]) (by rw [e2, e3]; exact h5) hF ha (g := mkF m pc ls (.int len.toInt32 :: .int j.toInt32 :: .ref b :: .int i.toInt32 :: .ref a :: st)) rfl (hsize.trans i0.2.2.1.symm) rfl (i0.2.1 ▸ hd) hf (W := W) (by show 2 * 0 + _ ≤ _; omega) hlo
  rw [range_getD _ h4, e2, e3] at R'
  have S : ∀ x ∈ [b], Safe Z EL V h x := fun x hx => by cases List.mem_singleton.mp hx; exact fun r => hnb (hK b r)
  have hO := (Old.keep (n0 := Z.heap.size) ⟨rfl, hE.1⟩ K' (allS ha all0)).2
  exact Go.step st' (g T' h' ⟨i0, ⟨hO, fun x r => Nat.lt_of_lt_of_le (hE.2 x r) K'.1⟩, Nat.le_trans hz K'.1, hB, V, L, q0, X', e', hZ, hown, hS, Nat.le_trans hq K'.1, N', hC.keep K' S, fun x r => hK x ((hC.keepStep K' S).2 x r)⟩ K' (Ar.ofArv R' (by rw [e5]; simp; omega)))
/-! the end -/
theorem W.fin (X : Wk l Z EL y bytes maxL ret R B0 p e s m args below meth c B T h k n) {v : Option Value} (hv : ret = none → v = none) (hk : k ≤ R.cells) (hn : n ≤ R.slots) (q : Q v h B) (run : ∀ fs, (∀ (f : JFrame) (acts : List Action), f.method = m → f.locked = none → f.entered = [] → (doReturn e (T.setTop f) acts v).1 = T.setFrames fs) → Steps p.tables e below (T.setTop (mkF m pc ls st)) (T.setFrames fs)) : Go l Z EL R B0 Q p e s m below T pc ls st := by
  obtain ⟨i0, hE, hz, hB, V, locs, q0, X1, eT, hZ, hown, hS, hq, hF, hC, hK⟩ := X
  obtain ⟨a1, hEL⟩ := i0.2.2.2.2.2.2
  obtain ⟨fs, hr, hrun, hend, hW⟩ := X1.leaveW hS (by rw [eT]; exact hq) (v := v) (fun z => hv (i0.2.2.2.1.symm.trans z)) i0.2.2.2.2.1
  have eh : (T.setFrames fs).heap = h := eT
  have q1 := CHv.at X1 hZ hEL hC
  refine ⟨T.setFrames fs, _, run fs hr, hrun, hend, v, locs, B, rfl, hF, by rw [eh]; exact q1.1, fun x r => ?_, hB, by rw [eh]; exact hE, by rw [eh]; exact hz, by rw [eh]; exact q, hW.1, hW.2.1, hW.2.2.1, hW.2.2.2.mono hk hn⟩
  rw [eh] at r
  rcases q1.2.2 x r with z | z
  · exact hK x z
  · obtain ⟨cell, q2⟩ := r.there
    exact absurd (Array.getElem?_eq_some_iff.mp q2).1 (Nat.not_lt.mpr z)
theorem W.ireturn (X : Wk l Z EL y bytes maxL ret R B0 p e s m args below meth c B T h k n) {t : FieldType} {x : Int32} (hd : decode bytes pc = .ok (.ireturn, 1)) (hret : ret = some t) (ht : t = .int ∨ t = .boolean ∨ t = .byte ∨ t = .char ∨ t = .short) (hnw : narrow t (.int x) = .int x) (hk : k ≤ R.cells) (hn : n ≤ R.slots) (q : Q (some (.int x)) h B) : Go l Z EL R B0 Q p e s m below T pc ls (.int x :: st) := by
  have X0 := X
  obtain ⟨i0, hE, hz, hB, V, locs, q0, X1, eT, hZ, hown, hS, hq, hF, hC, hK⟩ := X
  exact W.fin X0 (fun z => by rw [hret] at z; cases z) hk hn q fun fs hl => RoadKit.retOut (i := .ireturn) X1 i0.1 (i0.2.2.2.1.trans hret) hnw (Or.inl ⟨rfl, ht, x, rfl⟩) (i0.2.1 ▸ hd) hl
theorem W.lreturn (X : Wk l Z EL y bytes maxL ret R B0 p e s m args below meth c B T h k n) {x : Int64} (hd : decode bytes pc = .ok (.lreturn, 1)) (hret : ret = some .long) (hk : k ≤ R.cells) (hn : n ≤ R.slots) (q : Q (some (.long x)) h B) : Go l Z EL R B0 Q p e s m below T pc ls (.long x :: st) := by
  have X0 := X
  obtain ⟨i0, hE, hz, hB, V, locs, q0, X1, eT, hZ, hown, hS, hq, hF, hC, hK⟩ := X
  exact W.fin X0 (fun z => by rw [hret] at z; cases z) hk hn q fun fs hl => RoadKit.retOut (i := .lreturn) X1 i0.1 (i0.2.2.2.1.trans hret) rfl (Or.inr (Or.inl ⟨rfl, rfl, x, rfl⟩)) (i0.2.1 ▸ hd) hl
theorem W.areturn (X : Wk l Z EL y bytes maxL ret R B0 p e s m args below meth c B T h k n) {t : FieldType} {v : Value} (hd : decode bytes pc = .ok (.areturn, 1)) (hret : ret = some t) (ht : t.isReference = true) (hv : v.isRef = true) (hnw : narrow t v = v) (hk : k ≤ R.cells) (hn : n ≤ R.slots) (q : Q (some v) h B) : Go l Z EL R B0 Q p e s m below T pc ls (v :: st) := by
  have X0 := X
  obtain ⟨i0, hE, hz, hB, V, locs, q0, X1, eT, hZ, hown, hS, hq, hF, hC, hK⟩ := X
  exact W.fin X0 (fun z => by rw [hret] at z; cases z) hk hn q fun fs hl => RoadKit.retOut (i := .areturn) X1 i0.1 (i0.2.2.2.1.trans hret) hnw (Or.inr (Or.inr (Or.inr (Or.inr ⟨rfl, ht, hv⟩)))) (i0.2.1 ▸ hd) hl
theorem W.vreturn (X : Wk l Z EL y bytes maxL ret R B0 p e s m args below meth c B T h k n) (hd : decode bytes pc = .ok (.return_, 1)) (hret : ret = none) (hk : k ≤ R.cells) (hn : n ≤ R.slots) (q : Q none h B) : Go l Z EL R B0 Q p e s m below T pc ls [] := by
  have X0 := X
  obtain ⟨i0, hE, hz, hB, V, locs, q0, X1, eT, hZ, hown, hS, hq, hF, hC, hK⟩ := X
  exact W.fin X0 (fun _ => rfl) hk hn q fun fs hl => X1.returnOut i0.1 (i0.2.2.2.1.trans hret) (i0.2.1 ▸ hd) hl
/-! the entry -/
theorem Con.intro {wl : List Jvm.Cond} {rm : Room} {as' : Array Value} (hpl : plainFor y = true) (hEW : EW Z a0 EL) (hE : En Z B h) (hef : ∀ m, entryFrame m as' maxL = mkF m 0 ls [])
    (body : ∀ p e s m below meth c T, s.heap = h → Wk l Z EL y bytes maxL ret rm B p e s m as' below meth c B T h 0 0 → Go l Z EL rm B Q p e s m below T 0 ls []) : Con l Z EL wl y bytes maxL ret rm B h as' Q := by
  refine MetFree.of_bodySF hpl hisR ?_
  intro p e s m args below meth c s₁ Bd hml0 hP hK
  obtain ⟨rfl, hZ, hh, hC, hBk⟩ := hP
  have X0 : Stand p l e rm s m args below meth c s₁ [] 0 0 := Stand.of_body Bd
  have e0 : s₁.heap = h := by rw [← hh, Bd.state]; rfl
  have hg : Go l Z EL rm B Q p e s m below s₁ 0 ls [] := body p e s m below meth c s₁ hh ⟨⟨Bd.exec, Bd.bytes, hml0, Bd.returns, Bd.notSynchronized, (name_of_methodNamed Bd.named Bd.method).1, a0, hEW⟩, hE, by rw [hh]; exact Nat.le_refl _, fun x r => Or.inl r, s.vm, [], s.heap.size, X0, e0, hZ, findClass_of_methodNamed Bd.named, (State.WarmedH.refl s).since _, by rw [hh]; exact Nat.le_refl _, Fr.nil _, hC, hBk⟩
  obtain ⟨s₂, o, h1, h2, h3, v, L, B', g1, g2, g3, g4, g5, g6, g7, g8, g9⟩ := hg
  rw [hh] at g5 g7
  exact ⟨s₂, o, castTop (hef m) h1, h2, h3, v, L, B', g1, g2, g3, g4, g5, g6, g7, g8, g9⟩
/-! String constants -/
theorem W.ldcO (X : Wk l Z EL y bytes maxL ret R B0 p e s m args below meth c B T h k n) {index cap : Nat} {text : String} (hEW : EW Z a0 EL) (w : (Jvm.Cond.stringLink y.cls index text).before a0 Z = true) (wS : ∀ a ∈ Bundle.stringAtoms, a.before a0 Z = true) (hd : decode bytes pc = .ok (.ldc index, 2)) (hcap : 4 * text.toList.length ≤ cap) (hbig : cap ≤ 536870912) (hp : pc + 2 = pc') {k' n' : Nat} (hk : k + 2 ≤ k') (hn : n + (cap + 4) ≤ n') (hk' : k' ≤ R.cells) (hn' : n' ≤ R.slots)
    (g : ∀ T' h' B' a, Wk l Z EL y bytes maxL ret R B0 p e s m args below meth c B' T' h' k' n' → Keep h h' [] → (∀ x, B' x → B x ∨ h.size ≤ x) → Go l Z EL R B0 Q p e s m below T' pc' ls (.ref a :: st)) : Go l Z EL R B0 Q p e s m below T pc ls st := by
  obtain ⟨i0, hE, hz, hB, V, locs, q0, X1, eT, hZ, hown, hS, hq, hF, hC, hK⟩ := X
  obtain ⟨a1, hEL⟩ := i0.2.2.2.2.2.2
  obtain ⟨a, T', h', k1, X', e', E, hS', hk1, hZ', hown', hr, -, st'⟩ := ldcOH X1 i0.1 hZ hown w wS eT hS hq hEW hC (g := mkF m pc ls st) rfl (i0.2.1 ▸ hd) hcap hbig (Nat.le_trans hk hk') (Nat.le_trans hn hn')
  subst hp
  let B' : Addr → Prop := fun x => B x ∨ (h.size ≤ x ∧ x < h'.size)
  have hB' : ∀ x, Bk Z EL T'.vm h' x → B' x := fun x r => (hr.2.2 x r).elim (fun z => Or.inl (hK x z)) fun z => by
    obtain ⟨cell, q⟩ := r.there
    exact Or.inr ⟨z, (Array.getElem?_eq_some_iff.mp q).1⟩
  refine Go.step st' (g T' h' B' a ⟨i0, ⟨(hE.ext E).1, fun x r => r.elim (fun z => Nat.lt_of_lt_of_le (hE.2 x z) E.1) fun z => z.2⟩, Nat.le_trans hz E.1, fun x r => r.elim (hB x) fun z => Or.inr (Nat.le_trans hz z.1), T'.vm, locs, k1, X'.mono hk hn, e', hZ', hown', hS', hk1, hF, hr.1, hB'⟩ (keepE E) (fun x r => r.imp id fun z => z.1))
theorem W.ldcR (X : Wk l Z EL y bytes maxL ret R B0 p e s m args below meth c B T h k n) {index cap : Nat} {text : String} {cs : List Int32} (hmem : (y.cls, index) ∈ EL) (w : (Jvm.Cond.stringLink y.cls index text).before a0 Z = true) (wS : ∀ a ∈ Bundle.stringAtoms, a.before a0 Z = true) (hEW : EW Z a0 EL) (ht : (∀ c ∈ text.toList, c.toNat < 256) ∧ text.toList.map (fun c => Value.int (Jvm.Lit.byteI c.toNat.toUInt16)) = by8 cs) (hlat : Lat cs) (hlen : cs.length < 2 ^ 31) (hd : decode bytes pc = .ok (.ldc index, 2)) (hcap : 4 * text.toList.length ≤ cap) (hbig : cap ≤ 536870912) (hp : pc + 2 = pc') {k' n' : Nat} (hk : k + 2 ≤ k') (hn : n + (cap + 4) ≤ n') (hk' : k' ≤ R.cells) (hn' : n' ≤ R.slots)
    (g : ∀ T' h' B' a b, Wk l Z EL y bytes maxL ret R B0 p e s m args below meth c B' T' h' k' n' → Keep h h' [] → (∀ x, B' x → B x ∨ h.size ≤ x) → Str Z h' a b cs → (∀ x, ¬ B' x → x ≠ a ∧ x ≠ b) → Go l Z EL R B0 Q p e s m below T' pc' ls (.ref a :: st)) : Go l Z EL R B0 Q p e s m below T pc ls st := by
  obtain ⟨i0, hE, hz, hB, V, locs, q0, X1, eT, hZ, hown, hS, hq, hF, hC, hK⟩ := X
  obtain ⟨q1, q2, q3⟩ := len32 hlen
  obtain ⟨a, T', h', k1, b, kb, X', e', E, hS', hk1, hZ', hown', f1, f2, f3, f4, la, lb, hr, -, hne, st'⟩ := ldcCH X1 i0.1 hZ hown w wS eT hS hq hEW hmem hC ht q1 (by rw [q2]; simp) (g := mkF m pc ls st) rfl (i0.2.1 ▸ hd) hcap hbig (Nat.le_trans hk hk') (Nat.le_trans hn hn')
  subst hp
  let B' : Addr → Prop := fun x => B x ∨ (h.size ≤ x ∧ x < h'.size)
  have hB' : ∀ x, Bk Z EL T'.vm h' x → B' x := fun x r => (hr.2.2 x r).elim (fun z => Or.inl (hK x z)) fun z => by
    obtain ⟨cell, q⟩ := r.there
    exact Or.inr ⟨z, (Array.getElem?_eq_some_iff.mp q).1⟩
  refine Go.step st' (g T' h' B' a b ⟨i0, ⟨(hE.ext E).1, fun x r => r.elim (fun z => Nat.lt_of_lt_of_le (hE.2 x z) E.1) fun z => z.2⟩, Nat.le_trans hz E.1, fun x r => r.elim (hB x) fun z => Or.inr (Nat.le_trans hz z.1), T'.vm, locs, k1, X'.mono hk hn, e', hZ', hown', hS', hk1, hF, hr.1, hB'⟩ (keepE E) (fun x r => r.imp id fun z => z.1) ⟨f1, f2, f3, Ar.ofArv f4 (by rw [q2]; simp), hlat⟩ fun x r => hne x fun z => r (hB' x z))

end Own
end Own
end Jvm.Pilot.@@N@@

namespace Jvm.Pilot.@@N@@
open Jvm Jvm.ClassFile Sem Op Lib Jvm.Free Jvm.Stand Jvm.LawKit Jvm.RoadKit Bundle Jvm.Pilot.@@N@@.Jvm.D Own Jvm.Free.XT

def Gl (Z : State) (a0 : Array Value) (zC : Int32) (fS : Value) (bO : Addr) (bN : Addr) (bA : Addr) : Prop := (∀ d ∈ tables_1, d.before a0 Z = true) ∧ EW Z a0 consts_1 ∧ Sta Z Z.heap "java/lang/String" "COMPACT_STRINGS" "Z" (.int zC) ∧ ¬ zC = 0 ∧ Sta Z Z.heap "jdk/internal/util/Preconditions" "SIOOBE_FORMATTER" "Ljava/util/function/BiFunction;" fS ∧ fS.isRef = true ∧ Sta Z Z.heap "com/example/compendio/compendio/cli/Arguments" "BOOK" "Lcom/example/compendio/compendio/cli/Arguments$Option;" (.ref bO) ∧ Exa Z Z.heap bO "com/example/compendio/compendio/cli/Arguments$Option" ∧ Fld Z Z.heap bO "com/example/compendio/compendio/cli/Arguments$Option" "name" "Ljava/lang/String;" (.ref bN) ∧ Str Z Z.heap bN bA [(45 : Int32), (45 : Int32), (98 : Int32), (111 : Int32), (111 : Int32), (107 : Int32)] ∧ True
theorem w0 {Z : State} {a0 : Array Value} {zC : Int32} {fS : Value} {bO : Addr} {bN : Addr} {bA : Addr} (G : Gl Z a0 zC fS bO bN bA) : (Jvm.Cond.methodLink "com/example/compendio/compendio/cli/ArgumentsUsageWithBookPinLaw" (7 : Nat) ({ cls := "com/example/compendio/compendio/cli/ArgumentsUsageWithBookPinLaw", name := "make", desc := "(ICC)Ljava/lang/String;" } : Jvm.MethodName)).before a0 Z = true := G.1 _ (List.mem_of_getElem? (i := 0) rfl)
theorem w1 {Z : State} {a0 : Array Value} {zC : Int32} {fS : Value} {bO : Addr} {bN : Addr} {bA : Addr} (G : Gl Z a0 zC fS bO bN bA) : (Jvm.Cond.static ({ cls := "com/example/compendio/compendio/cli/ArgumentsUsageWithBookPinLaw", name := "make", desc := "(ICC)Ljava/lang/String;" } : Jvm.MethodName)).before a0 Z = true := G.1 _ (List.mem_of_getElem? (i := 1) rfl)
theorem w2 {Z : State} {a0 : Array Value} {zC : Int32} {fS : Value} {bO : Addr} {bN : Addr} {bA : Addr} (G : Gl Z a0 zC fS bO bN bA) : (Jvm.Cond.initialized "com/example/compendio/compendio/cli/ArgumentsUsageWithBookPinLaw").before a0 Z = true := G.1 _ (List.mem_of_getElem? (i := 2) rfl)
theorem w3 {Z : State} {a0 : Array Value} {zC : Int32} {fS : Value} {bO : Addr} {bN : Addr} {bA : Addr} (G : Gl Z a0 zC fS bO bN bA) : (Jvm.Cond.code ({ cls := "com/example/compendio/compendio/cli/ArgumentsUsageWithBookPinLaw", name := "make", desc := "(ICC)Ljava/lang/String;" } : Jvm.MethodName) method_3_code (3 : Nat) (Option.some (Jvm.ClassFile.FieldType.object "java/lang/String"))).before a0 Z = true := G.1 _ (List.mem_of_getElem? (i := 3) rfl)
theorem w4 {Z : State} {a0 : Array Value} {zC : Int32} {fS : Value} {bO : Addr} {bN : Addr} {bA : Addr} (G : Gl Z a0 zC fS bO bN bA) : (Jvm.Cond.classLink "com/example/compendio/compendio/cli/ArgumentsUsageWithBookPinLaw" (20 : Nat) "java/lang/String").before a0 Z = true := G.1 _ (List.mem_of_getElem? (i := 4) rfl)
theorem w5 {Z : State} {a0 : Array Value} {zC : Int32} {fS : Value} {bO : Addr} {bN : Addr} {bA : Addr} (G : Gl Z a0 zC fS bO bN bA) : (Jvm.Cond.instantiable "java/lang/String" (4 : Nat)).before a0 Z = true := G.1 _ (List.mem_of_getElem? (i := 5) rfl)
theorem w6 {Z : State} {a0 : Array Value} {zC : Int32} {fS : Value} {bO : Addr} {bN : Addr} {bA : Addr} (G : Gl Z a0 zC fS bO bN bA) : (Jvm.Cond.initialized "java/lang/String").before a0 Z = true := G.1 _ (List.mem_of_getElem? (i := 6) rfl)
theorem w7 {Z : State} {a0 : Array Value} {zC : Int32} {fS : Value} {bO : Addr} {bN : Addr} {bA : Addr} (G : Gl Z a0 zC fS bO bN bA) : (Jvm.Cond.arrayClass Jvm.ClassFile.FieldType.char).before a0 Z = true := G.1 _ (List.mem_of_getElem? (i := 7) rfl)
theorem w8 {Z : State} {a0 : Array Value} {zC : Int32} {fS : Value} {bO : Addr} {bN : Addr} {bA : Addr} (G : Gl Z a0 zC fS bO bN bA) : (Jvm.Cond.methodLink "com/example/compendio/compendio/cli/ArgumentsUsageWithBookPinLaw" (60 : Nat) ({ cls := "java/lang/String", name := "<init>", desc := "([C)V" } : Jvm.MethodName)).before a0 Z = true := G.1 _ (List.mem_of_getElem? (i := 8) rfl)
theorem w9 {Z : State} {a0 : Array Value} {zC : Int32} {fS : Value} {bO : Addr} {bN : Addr} {bA : Addr} (G : Gl Z a0 zC fS bO bN bA) : (Jvm.Cond.instanceMethod ({ cls := "java/lang/String", name := "<init>", desc := "([C)V" } : Jvm.MethodName)).before a0 Z = true := G.1 _ (List.mem_of_getElem? (i := 9) rfl)
theorem w10 {Z : State} {a0 : Array Value} {zC : Int32} {fS : Value} {bO : Addr} {bN : Addr} {bA : Addr} (G : Gl Z a0 zC fS bO bN bA) : (Jvm.Cond.code ({ cls := "java/lang/String", name := "<init>", desc := "([C)V" } : Jvm.MethodName) jdk_42_method_3_code (2 : Nat) (Option.none : Option Jvm.ClassFile.FieldType)).before a0 Z = true := G.1 _ (List.mem_of_getElem? (i := 10) rfl)
theorem w11 {Z : State} {a0 : Array Value} {zC : Int32} {fS : Value} {bO : Addr} {bN : Addr} {bA : Addr} (G : Gl Z a0 zC fS bO bN bA) : (Jvm.Cond.methodLink "java/lang/String" (27 : Nat) ({ cls := "java/lang/String", name := "<init>", desc := "([CIILjava/lang/Void;)V" } : Jvm.MethodName)).before a0 Z = true := G.1 _ (List.mem_of_getElem? (i := 11) rfl)
theorem w12 {Z : State} {a0 : Array Value} {zC : Int32} {fS : Value} {bO : Addr} {bN : Addr} {bA : Addr} (G : Gl Z a0 zC fS bO bN bA) : (Jvm.Cond.instanceMethod ({ cls := "java/lang/String", name := "<init>", desc := "([CIILjava/lang/Void;)V" } : Jvm.MethodName)).before a0 Z = true := G.1 _ (List.mem_of_getElem? (i := 12) rfl)
theorem w14 {Z : State} {a0 : Array Value} {zC : Int32} {fS : Value} {bO : Addr} {bN : Addr} {bA : Addr} (G : Gl Z a0 zC fS bO bN bA) : (Jvm.Cond.code ({ cls := "java/lang/String", name := "<init>", desc := "([CIILjava/lang/Void;)V" } : Jvm.MethodName) jdk_42_method_149_code (6 : Nat) (Option.none : Option Jvm.ClassFile.FieldType)).before a0 Z = true := G.1 _ (List.mem_of_getElem? (i := 14) rfl)
theorem w15 {Z : State} {a0 : Array Value} {zC : Int32} {fS : Value} {bO : Addr} {bN : Addr} {bA : Addr} (G : Gl Z a0 zC fS bO bN bA) : (Jvm.Cond.methodLink "java/lang/String" (1 : Nat) ({ cls := "java/lang/Object", name := "<init>", desc := "()V" } : Jvm.MethodName)).before a0 Z = true := G.1 _ (List.mem_of_getElem? (i := 15) rfl)
theorem w16 {Z : State} {a0 : Array Value} {zC : Int32} {fS : Value} {bO : Addr} {bN : Addr} {bA : Addr} (G : Gl Z a0 zC fS bO bN bA) : (Jvm.Cond.instanceMethod ({ cls := "java/lang/Object", name := "<init>", desc := "()V" } : Jvm.MethodName)).before a0 Z = true := G.1 _ (List.mem_of_getElem? (i := 16) rfl)
theorem w17 {Z : State} {a0 : Array Value} {zC : Int32} {fS : Value} {bO : Addr} {bN : Addr} {bA : Addr} (G : Gl Z a0 zC fS bO bN bA) : (Jvm.Cond.code ({ cls := "java/lang/Object", name := "<init>", desc := "()V" } : Jvm.MethodName) object_method_1_code (1 : Nat) (Option.none : Option Jvm.ClassFile.FieldType)).before a0 Z = true := G.1 _ (List.mem_of_getElem? (i := 17) rfl)
theorem w18 {Z : State} {a0 : Array Value} {zC : Int32} {fS : Value} {bO : Addr} {bN : Addr} {bA : Addr} (G : Gl Z a0 zC fS bO bN bA) : (Jvm.Cond.fieldLink "java/lang/String" (38 : Nat) "java/lang/String" "COMPACT_STRINGS" "Z").before a0 Z = true := G.1 _ (List.mem_of_getElem? (i := 18) rfl)
theorem w19 {Z : State} {a0 : Array Value} {zC : Int32} {fS : Value} {bO : Addr} {bN : Addr} {bA : Addr} (G : Gl Z a0 zC fS bO bN bA) : (Jvm.Cond.methodLink "java/lang/String" (177 : Nat) ({ cls := "java/lang/StringUTF16", name := "compress", desc := "([CII)[B" } : Jvm.MethodName)).before a0 Z = true := G.1 _ (List.mem_of_getElem? (i := 19) rfl)
theorem w20 {Z : State} {a0 : Array Value} {zC : Int32} {fS : Value} {bO : Addr} {bN : Addr} {bA : Addr} (G : Gl Z a0 zC fS bO bN bA) : (Jvm.Cond.static ({ cls := "java/lang/StringUTF16", name := "compress", desc := "([CII)[B" } : Jvm.MethodName)).before a0 Z = true := G.1 _ (List.mem_of_getElem? (i := 20) rfl)
theorem w21 {Z : State} {a0 : Array Value} {zC : Int32} {fS : Value} {bO : Addr} {bN : Addr} {bA : Addr} (G : Gl Z a0 zC fS bO bN bA) : (Jvm.Cond.initialized "java/lang/StringUTF16").before a0 Z = true := G.1 _ (List.mem_of_getElem? (i := 21) rfl)
theorem w22 {Z : State} {a0 : Array Value} {zC : Int32} {fS : Value} {bO : Addr} {bN : Addr} {bA : Addr} (G : Gl Z a0 zC fS bO bN bA) : (Jvm.Cond.code ({ cls := "java/lang/StringUTF16", name := "compress", desc := "([CII)[B" } : Jvm.MethodName) jdk_52_method_16_code (6 : Nat) (Option.some (Jvm.ClassFile.FieldType.array Jvm.ClassFile.FieldType.byte))).before a0 Z = true := G.1 _ (List.mem_of_getElem? (i := 22) rfl)
theorem w23 {Z : State} {a0 : Array Value} {zC : Int32} {fS : Value} {bO : Addr} {bN : Addr} {bA : Addr} (G : Gl Z a0 zC fS bO bN bA) : (Jvm.Cond.arrayClass Jvm.ClassFile.FieldType.byte).before a0 Z = true := G.1 _ (List.mem_of_getElem? (i := 23) rfl)
theorem w24 {Z : State} {a0 : Array Value} {zC : Int32} {fS : Value} {bO : Addr} {bN : Addr} {bA : Addr} (G : Gl Z a0 zC fS bO bN bA) : (Jvm.Cond.methodLink "java/lang/StringUTF16" (115 : Nat) ({ cls := "java/lang/StringUTF16", name := "compress", desc := "([CI[BII)I" } : Jvm.MethodName)).before a0 Z = true := G.1 _ (List.mem_of_getElem? (i := 24) rfl)
theorem w25 {Z : State} {a0 : Array Value} {zC : Int32} {fS : Value} {bO : Addr} {bN : Addr} {bA : Addr} (G : Gl Z a0 zC fS bO bN bA) : (Jvm.Cond.static ({ cls := "java/lang/StringUTF16", name := "compress", desc := "([CI[BII)I" } : Jvm.MethodName)).before a0 Z = true := G.1 _ (List.mem_of_getElem? (i := 25) rfl)
theorem w26 {Z : State} {a0 : Array Value} {zC : Int32} {fS : Value} {bO : Addr} {bN : Addr} {bA : Addr} (G : Gl Z a0 zC fS bO bN bA) : (Jvm.Cond.code ({ cls := "java/lang/StringUTF16", name := "compress", desc := "([CI[BII)I" } : Jvm.MethodName) jdk_52_method_21_code (7 : Nat) (Option.some Jvm.ClassFile.FieldType.int)).before a0 Z = true := G.1 _ (List.mem_of_getElem? (i := 26) rfl)
theorem w27 {Z : State} {a0 : Array Value} {zC : Int32} {fS : Value} {bO : Addr} {bN : Addr} {bA : Addr} (G : Gl Z a0 zC fS bO bN bA) : (Jvm.Cond.methodLink "java/lang/String" (47 : Nat) ({ cls := "java/lang/StringUTF16", name := "coderFromArrayLen", desc := "([BI)B" } : Jvm.MethodName)).before a0 Z = true := G.1 _ (List.mem_of_getElem? (i := 27) rfl)
theorem w28 {Z : State} {a0 : Array Value} {zC : Int32} {fS : Value} {bO : Addr} {bN : Addr} {bA : Addr} (G : Gl Z a0 zC fS bO bN bA) : (Jvm.Cond.static ({ cls := "java/lang/StringUTF16", name := "coderFromArrayLen", desc := "([BI)B" } : Jvm.MethodName)).before a0 Z = true := G.1 _ (List.mem_of_getElem? (i := 28) rfl)
theorem w29 {Z : State} {a0 : Array Value} {zC : Int32} {fS : Value} {bO : Addr} {bN : Addr} {bA : Addr} (G : Gl Z a0 zC fS bO bN bA) : (Jvm.Cond.code ({ cls := "java/lang/StringUTF16", name := "coderFromArrayLen", desc := "([BI)B" } : Jvm.MethodName) jdk_52_method_15_code (2 : Nat) (Option.some Jvm.ClassFile.FieldType.byte)).before a0 Z = true := G.1 _ (List.mem_of_getElem? (i := 29) rfl)
theorem w30 {Z : State} {a0 : Array Value} {zC : Int32} {fS : Value} {bO : Addr} {bN : Addr} {bA : Addr} (G : Gl Z a0 zC fS bO bN bA) : (Jvm.Cond.fieldLink "java/lang/String" (15 : Nat) "java/lang/String" "coder" "B").before a0 Z = true := G.1 _ (List.mem_of_getElem? (i := 30) rfl)
theorem w31 {Z : State} {a0 : Array Value} {zC : Int32} {fS : Value} {bO : Addr} {bN : Addr} {bA : Addr} (G : Gl Z a0 zC fS bO bN bA) : (Jvm.Cond.laysFinal "java/lang/String" "java/lang/String" "coder" "B").before a0 Z = true := G.1 _ (List.mem_of_getElem? (i := 31) rfl)
theorem w32 {Z : State} {a0 : Array Value} {zC : Int32} {fS : Value} {bO : Addr} {bN : Addr} {bA : Addr} (G : Gl Z a0 zC fS bO bN bA) : (Jvm.Cond.fieldLink "java/lang/String" (9 : Nat) "java/lang/String" "value" "[B").before a0 Z = true := G.1 _ (List.mem_of_getElem? (i := 32) rfl)
theorem w33 {Z : State} {a0 : Array Value} {zC : Int32} {fS : Value} {bO : Addr} {bN : Addr} {bA : Addr} (G : Gl Z a0 zC fS bO bN bA) : (Jvm.Cond.laysFinal "java/lang/String" "java/lang/String" "value" "[B").before a0 Z = true := G.1 _ (List.mem_of_getElem? (i := 33) rfl)
theorem w34 {Z : State} {a0 : Array Value} {zC : Int32} {fS : Value} {bO : Addr} {bN : Addr} {bA : Addr} (G : Gl Z a0 zC fS bO bN bA) : (Jvm.Cond.stringLink "com/example/compendio/compendio/cli/ArgumentsUsageWithBookPinLaw" (54 : Nat) "").before a0 Z = true := G.1 _ (List.mem_of_getElem? (i := 34) rfl)
theorem w35 {Z : State} {a0 : Array Value} {zC : Int32} {fS : Value} {bO : Addr} {bN : Addr} {bA : Addr} (G : Gl Z a0 zC fS bO bN bA) : (Jvm.Cond.soleField "java/lang/String" "value").before a0 Z = true := G.1 _ (List.mem_of_getElem? (i := 35) rfl)
theorem w36 {Z : State} {a0 : Array Value} {zC : Int32} {fS : Value} {bO : Addr} {bN : Addr} {bA : Addr} (G : Gl Z a0 zC fS bO bN bA) : (Jvm.Cond.soleField "java/lang/String" "coder").before a0 Z = true := G.1 _ (List.mem_of_getElem? (i := 36) rfl)
theorem w37 {Z : State} {a0 : Array Value} {zC : Int32} {fS : Value} {bO : Addr} {bN : Addr} {bA : Addr} (G : Gl Z a0 zC fS bO bN bA) : (Jvm.Cond.methodLink "com/example/compendio/compendio/cli/ArgumentsUsageWithBookPinLaw" (13 : Nat) ({ cls := "com/example/compendio/compendio/cli/Arguments", name := "usageWithBook", desc := "(Ljava/lang/String;Ljava/lang/String;)Ljava/lang/String;" } : Jvm.MethodName)).before a0 Z = true := G.1 _ (List.mem_of_getElem? (i := 37) rfl)
theorem w38 {Z : State} {a0 : Array Value} {zC : Int32} {fS : Value} {bO : Addr} {bN : Addr} {bA : Addr} (G : Gl Z a0 zC fS bO bN bA) : (Jvm.Cond.static ({ cls := "com/example/compendio/compendio/cli/Arguments", name := "usageWithBook", desc := "(Ljava/lang/String;Ljava/lang/String;)Ljava/lang/String;" } : Jvm.MethodName)).before a0 Z = true := G.1 _ (List.mem_of_getElem? (i := 38) rfl)
theorem w39 {Z : State} {a0 : Array Value} {zC : Int32} {fS : Value} {bO : Addr} {bN : Addr} {bA : Addr} (G : Gl Z a0 zC fS bO bN bA) : (Jvm.Cond.initialized "com/example/compendio/compendio/cli/Arguments").before a0 Z = true := G.1 _ (List.mem_of_getElem? (i := 39) rfl)
theorem w40 {Z : State} {a0 : Array Value} {zC : Int32} {fS : Value} {bO : Addr} {bN : Addr} {bA : Addr} (G : Gl Z a0 zC fS bO bN bA) : (Jvm.Cond.code ({ cls := "com/example/compendio/compendio/cli/Arguments", name := "usageWithBook", desc := "(Ljava/lang/String;Ljava/lang/String;)Ljava/lang/String;" } : Jvm.MethodName) prog_3_method_3_code (2 : Nat) (Option.some (Jvm.ClassFile.FieldType.object "java/lang/String"))).before a0 Z = true := G.1 _ (List.mem_of_getElem? (i := 40) rfl)
theorem w41 {Z : State} {a0 : Array Value} {zC : Int32} {fS : Value} {bO : Addr} {bN : Addr} {bA : Addr} (G : Gl Z a0 zC fS bO bN bA) : (Jvm.Cond.classLink "com/example/compendio/compendio/cli/Arguments" (23 : Nat) "java/lang/StringBuilder").before a0 Z = true := G.1 _ (List.mem_of_getElem? (i := 41) rfl)
theorem w42 {Z : State} {a0 : Array Value} {zC : Int32} {fS : Value} {bO : Addr} {bN : Addr} {bA : Addr} (G : Gl Z a0 zC fS bO bN bA) : (Jvm.Cond.instantiable "java/lang/StringBuilder" (4 : Nat)).before a0 Z = true := G.1 _ (List.mem_of_getElem? (i := 42) rfl)
theorem w43 {Z : State} {a0 : Array Value} {zC : Int32} {fS : Value} {bO : Addr} {bN : Addr} {bA : Addr} (G : Gl Z a0 zC fS bO bN bA) : (Jvm.Cond.initialized "java/lang/StringBuilder").before a0 Z = true := G.1 _ (List.mem_of_getElem? (i := 43) rfl)
theorem w44 {Z : State} {a0 : Array Value} {zC : Int32} {fS : Value} {bO : Addr} {bN : Addr} {bA : Addr} (G : Gl Z a0 zC fS bO bN bA) : (Jvm.Cond.methodLink "com/example/compendio/compendio/cli/Arguments" (25 : Nat) ({ cls := "java/lang/StringBuilder", name := "<init>", desc := "()V" } : Jvm.MethodName)).before a0 Z = true := G.1 _ (List.mem_of_getElem? (i := 44) rfl)
theorem w45 {Z : State} {a0 : Array Value} {zC : Int32} {fS : Value} {bO : Addr} {bN : Addr} {bA : Addr} (G : Gl Z a0 zC fS bO bN bA) : (Jvm.Cond.instanceMethod ({ cls := "java/lang/StringBuilder", name := "<init>", desc := "()V" } : Jvm.MethodName)).before a0 Z = true := G.1 _ (List.mem_of_getElem? (i := 45) rfl)
theorem w46 {Z : State} {a0 : Array Value} {zC : Int32} {fS : Value} {bO : Addr} {bN : Addr} {bA : Addr} (G : Gl Z a0 zC fS bO bN bA) : (Jvm.Cond.code ({ cls := "java/lang/StringBuilder", name := "<init>", desc := "()V" } : Jvm.MethodName) jdk_67_method_1_code (1 : Nat) (Option.none : Option Jvm.ClassFile.FieldType)).before a0 Z = true := G.1 _ (List.mem_of_getElem? (i := 46) rfl)
theorem w47 {Z : State} {a0 : Array Value} {zC : Int32} {fS : Value} {bO : Addr} {bN : Addr} {bA : Addr} (G : Gl Z a0 zC fS bO bN bA) : (Jvm.Cond.methodLink "java/lang/StringBuilder" (1 : Nat) ({ cls := "java/lang/AbstractStringBuilder", name := "<init>", desc := "(I)V" } : Jvm.MethodName)).before a0 Z = true := G.1 _ (List.mem_of_getElem? (i := 47) rfl)
theorem w48 {Z : State} {a0 : Array Value} {zC : Int32} {fS : Value} {bO : Addr} {bN : Addr} {bA : Addr} (G : Gl Z a0 zC fS bO bN bA) : (Jvm.Cond.instanceMethod ({ cls := "java/lang/AbstractStringBuilder", name := "<init>", desc := "(I)V" } : Jvm.MethodName)).before a0 Z = true := G.1 _ (List.mem_of_getElem? (i := 48) rfl)
theorem w51 {Z : State} {a0 : Array Value} {zC : Int32} {fS : Value} {bO : Addr} {bN : Addr} {bA : Addr} (G : Gl Z a0 zC fS bO bN bA) : (Jvm.Cond.initialized "java/lang/AbstractStringBuilder").before a0 Z = true := G.1 _ (List.mem_of_getElem? (i := 51) rfl)
theorem w52 {Z : State} {a0 : Array Value} {zC : Int32} {fS : Value} {bO : Addr} {bN : Addr} {bA : Addr} (G : Gl Z a0 zC fS bO bN bA) : (Jvm.Cond.code ({ cls := "java/lang/AbstractStringBuilder", name := "<init>", desc := "(I)V" } : Jvm.MethodName) jdk_68_method_2_code (2 : Nat) (Option.none : Option Jvm.ClassFile.FieldType)).before a0 Z = true := G.1 _ (List.mem_of_getElem? (i := 52) rfl)
theorem w53 {Z : State} {a0 : Array Value} {zC : Int32} {fS : Value} {bO : Addr} {bN : Addr} {bA : Addr} (G : Gl Z a0 zC fS bO bN bA) : (Jvm.Cond.methodLink "java/lang/AbstractStringBuilder" (3 : Nat) ({ cls := "java/lang/Object", name := "<init>", desc := "()V" } : Jvm.MethodName)).before a0 Z = true := G.1 _ (List.mem_of_getElem? (i := 53) rfl)
theorem w54 {Z : State} {a0 : Array Value} {zC : Int32} {fS : Value} {bO : Addr} {bN : Addr} {bA : Addr} (G : Gl Z a0 zC fS bO bN bA) : (Jvm.Cond.fieldLink "java/lang/AbstractStringBuilder" (18 : Nat) "java/lang/String" "COMPACT_STRINGS" "Z").before a0 Z = true := G.1 _ (List.mem_of_getElem? (i := 54) rfl)
theorem w55 {Z : State} {a0 : Array Value} {zC : Int32} {fS : Value} {bO : Addr} {bN : Addr} {bA : Addr} (G : Gl Z a0 zC fS bO bN bA) : (Jvm.Cond.fieldLink "java/lang/AbstractStringBuilder" (15 : Nat) "java/lang/AbstractStringBuilder" "value" "[B").before a0 Z = true := G.1 _ (List.mem_of_getElem? (i := 55) rfl)
theorem w56 {Z : State} {a0 : Array Value} {zC : Int32} {fS : Value} {bO : Addr} {bN : Addr} {bA : Addr} (G : Gl Z a0 zC fS bO bN bA) : (Jvm.Cond.lays "java/lang/StringBuilder" "java/lang/AbstractStringBuilder" "value" "[B").before a0 Z = true := G.1 _ (List.mem_of_getElem? (i := 56) rfl)
theorem w57 {Z : State} {a0 : Array Value} {zC : Int32} {fS : Value} {bO : Addr} {bN : Addr} {bA : Addr} (G : Gl Z a0 zC fS bO bN bA) : (Jvm.Cond.fieldLink "java/lang/AbstractStringBuilder" (22 : Nat) "java/lang/AbstractStringBuilder" "coder" "B").before a0 Z = true := G.1 _ (List.mem_of_getElem? (i := 57) rfl)
theorem w58 {Z : State} {a0 : Array Value} {zC : Int32} {fS : Value} {bO : Addr} {bN : Addr} {bA : Addr} (G : Gl Z a0 zC fS bO bN bA) : (Jvm.Cond.lays "java/lang/StringBuilder" "java/lang/AbstractStringBuilder" "coder" "B").before a0 Z = true := G.1 _ (List.mem_of_getElem? (i := 58) rfl)
theorem w59 {Z : State} {a0 : Array Value} {zC : Int32} {fS : Value} {bO : Addr} {bN : Addr} {bA : Addr} (G : Gl Z a0 zC fS bO bN bA) : (Jvm.Cond.stringLink "com/example/compendio/compendio/cli/Arguments" (26 : Nat) "Usage: ").before a0 Z = true := G.1 _ (List.mem_of_getElem? (i := 59) rfl)
theorem w60 {Z : State} {a0 : Array Value} {zC : Int32} {fS : Value} {bO : Addr} {bN : Addr} {bA : Addr} (G : Gl Z a0 zC fS bO bN bA) : (Jvm.Cond.methodLink "com/example/compendio/compendio/cli/Arguments" (28 : Nat) ({ cls := "java/lang/StringBuilder", name := "append", desc := "(Ljava/lang/String;)Ljava/lang/StringBuilder;" } : Jvm.MethodName)).before a0 Z = true := G.1 _ (List.mem_of_getElem? (i := 60) rfl)
theorem w61 {Z : State} {a0 : Array Value} {zC : Int32} {fS : Value} {bO : Addr} {bN : Addr} {bA : Addr} (G : Gl Z a0 zC fS bO bN bA) : (Jvm.Cond.declares ({ cls := "java/lang/StringBuilder", name := "append", desc := "(Ljava/lang/String;)Ljava/lang/StringBuilder;" } : Jvm.MethodName)).before a0 Z = true := G.1 _ (List.mem_of_getElem? (i := 61) rfl)
theorem w62 {Z : State} {a0 : Array Value} {zC : Int32} {fS : Value} {bO : Addr} {bN : Addr} {bA : Addr} (G : Gl Z a0 zC fS bO bN bA) : (Jvm.Cond.instanceMethod ({ cls := "java/lang/StringBuilder", name := "append", desc := "(Ljava/lang/String;)Ljava/lang/StringBuilder;" } : Jvm.MethodName)).before a0 Z = true := G.1 _ (List.mem_of_getElem? (i := 62) rfl)
theorem w63 {Z : State} {a0 : Array Value} {zC : Int32} {fS : Value} {bO : Addr} {bN : Addr} {bA : Addr} (G : Gl Z a0 zC fS bO bN bA) : (Jvm.Cond.selects "java/lang/StringBuilder" ({ cls := "java/lang/StringBuilder", name := "append", desc := "(Ljava/lang/String;)Ljava/lang/StringBuilder;" } : Jvm.MethodName) ({ cls := "java/lang/StringBuilder", name := "append", desc := "(Ljava/lang/String;)Ljava/lang/StringBuilder;" } : Jvm.MethodName)).before a0 Z = true := G.1 _ (List.mem_of_getElem? (i := 63) rfl)
theorem w64 {Z : State} {a0 : Array Value} {zC : Int32} {fS : Value} {bO : Addr} {bN : Addr} {bA : Addr} (G : Gl Z a0 zC fS bO bN bA) : (Jvm.Cond.code ({ cls := "java/lang/StringBuilder", name := "append", desc := "(Ljava/lang/String;)Ljava/lang/StringBuilder;" } : Jvm.MethodName) jdk_67_method_7_code (2 : Nat) (Option.some (Jvm.ClassFile.FieldType.object "java/lang/StringBuilder"))).before a0 Z = true := G.1 _ (List.mem_of_getElem? (i := 64) rfl)
theorem w65 {Z : State} {a0 : Array Value} {zC : Int32} {fS : Value} {bO : Addr} {bN : Addr} {bA : Addr} (G : Gl Z a0 zC fS bO bN bA) : (Jvm.Cond.methodLink "java/lang/StringBuilder" (29 : Nat) ({ cls := "java/lang/AbstractStringBuilder", name := "append", desc := "(Ljava/lang/String;)Ljava/lang/AbstractStringBuilder;" } : Jvm.MethodName)).before a0 Z = true := G.1 _ (List.mem_of_getElem? (i := 65) rfl)
theorem w66 {Z : State} {a0 : Array Value} {zC : Int32} {fS : Value} {bO : Addr} {bN : Addr} {bA : Addr} (G : Gl Z a0 zC fS bO bN bA) : (Jvm.Cond.instanceMethod ({ cls := "java/lang/AbstractStringBuilder", name := "append", desc := "(Ljava/lang/String;)Ljava/lang/AbstractStringBuilder;" } : Jvm.MethodName)).before a0 Z = true := G.1 _ (List.mem_of_getElem? (i := 66) rfl)
theorem w67 {Z : State} {a0 : Array Value} {zC : Int32} {fS : Value} {bO : Addr} {bN : Addr} {bA : Addr} (G : Gl Z a0 zC fS bO bN bA) : (Jvm.Cond.superclass "java/lang/StringBuilder" "java/lang/AbstractStringBuilder").before a0 Z = true := G.1 _ (List.mem_of_getElem? (i := 67) rfl)
theorem w69 {Z : State} {a0 : Array Value} {zC : Int32} {fS : Value} {bO : Addr} {bN : Addr} {bA : Addr} (G : Gl Z a0 zC fS bO bN bA) : (Jvm.Cond.code ({ cls := "java/lang/AbstractStringBuilder", name := "append", desc := "(Ljava/lang/String;)Ljava/lang/AbstractStringBuilder;" } : Jvm.MethodName) jdk_68_method_22_code (3 : Nat) (Option.some (Jvm.ClassFile.FieldType.object "java/lang/AbstractStringBuilder"))).before a0 Z = true := G.1 _ (List.mem_of_getElem? (i := 69) rfl)
theorem w70 {Z : State} {a0 : Array Value} {zC : Int32} {fS : Value} {bO : Addr} {bN : Addr} {bA : Addr} (G : Gl Z a0 zC fS bO bN bA) : (Jvm.Cond.methodLink "java/lang/AbstractStringBuilder" (32 : Nat) ({ cls := "java/lang/String", name := "length", desc := "()I" } : Jvm.MethodName)).before a0 Z = true := G.1 _ (List.mem_of_getElem? (i := 70) rfl)
theorem w71 {Z : State} {a0 : Array Value} {zC : Int32} {fS : Value} {bO : Addr} {bN : Addr} {bA : Addr} (G : Gl Z a0 zC fS bO bN bA) : (Jvm.Cond.declares ({ cls := "java/lang/String", name := "length", desc := "()I" } : Jvm.MethodName)).before a0 Z = true := G.1 _ (List.mem_of_getElem? (i := 71) rfl)
theorem w72 {Z : State} {a0 : Array Value} {zC : Int32} {fS : Value} {bO : Addr} {bN : Addr} {bA : Addr} (G : Gl Z a0 zC fS bO bN bA) : (Jvm.Cond.instanceMethod ({ cls := "java/lang/String", name := "length", desc := "()I" } : Jvm.MethodName)).before a0 Z = true := G.1 _ (List.mem_of_getElem? (i := 72) rfl)
theorem w73 {Z : State} {a0 : Array Value} {zC : Int32} {fS : Value} {bO : Addr} {bN : Addr} {bA : Addr} (G : Gl Z a0 zC fS bO bN bA) : (Jvm.Cond.selects "java/lang/String" ({ cls := "java/lang/String", name := "length", desc := "()I" } : Jvm.MethodName) ({ cls := "java/lang/String", name := "length", desc := "()I" } : Jvm.MethodName)).before a0 Z = true := G.1 _ (List.mem_of_getElem? (i := 73) rfl)
theorem w74 {Z : State} {a0 : Array Value} {zC : Int32} {fS : Value} {bO : Addr} {bN : Addr} {bA : Addr} (G : Gl Z a0 zC fS bO bN bA) : (Jvm.Cond.code ({ cls := "java/lang/String", name := "length", desc := "()I" } : Jvm.MethodName) jdk_42_method_54_code (1 : Nat) (Option.some Jvm.ClassFile.FieldType.int)).before a0 Z = true := G.1 _ (List.mem_of_getElem? (i := 74) rfl)
theorem w75 {Z : State} {a0 : Array Value} {zC : Int32} {fS : Value} {bO : Addr} {bN : Addr} {bA : Addr} (G : Gl Z a0 zC fS bO bN bA) : (Jvm.Cond.methodLink "java/lang/String" (335 : Nat) ({ cls := "java/lang/String", name := "coder", desc := "()B" } : Jvm.MethodName)).before a0 Z = true := G.1 _ (List.mem_of_getElem? (i := 75) rfl)
theorem w76 {Z : State} {a0 : Array Value} {zC : Int32} {fS : Value} {bO : Addr} {bN : Addr} {bA : Addr} (G : Gl Z a0 zC fS bO bN bA) : (Jvm.Cond.declares ({ cls := "java/lang/String", name := "coder", desc := "()B" } : Jvm.MethodName)).before a0 Z = true := G.1 _ (List.mem_of_getElem? (i := 76) rfl)
theorem w77 {Z : State} {a0 : Array Value} {zC : Int32} {fS : Value} {bO : Addr} {bN : Addr} {bA : Addr} (G : Gl Z a0 zC fS bO bN bA) : (Jvm.Cond.instanceMethod ({ cls := "java/lang/String", name := "coder", desc := "()B" } : Jvm.MethodName)).before a0 Z = true := G.1 _ (List.mem_of_getElem? (i := 77) rfl)
theorem w78 {Z : State} {a0 : Array Value} {zC : Int32} {fS : Value} {bO : Addr} {bN : Addr} {bA : Addr} (G : Gl Z a0 zC fS bO bN bA) : (Jvm.Cond.selects "java/lang/String" ({ cls := "java/lang/String", name := "coder", desc := "()B" } : Jvm.MethodName) ({ cls := "java/lang/String", name := "coder", desc := "()B" } : Jvm.MethodName)).before a0 Z = true := G.1 _ (List.mem_of_getElem? (i := 78) rfl)
theorem w79 {Z : State} {a0 : Array Value} {zC : Int32} {fS : Value} {bO : Addr} {bN : Addr} {bA : Addr} (G : Gl Z a0 zC fS bO bN bA) : (Jvm.Cond.code ({ cls := "java/lang/String", name := "coder", desc := "()B" } : Jvm.MethodName) jdk_42_method_152_code (1 : Nat) (Option.some Jvm.ClassFile.FieldType.byte)).before a0 Z = true := G.1 _ (List.mem_of_getElem? (i := 79) rfl)
theorem w80 {Z : State} {a0 : Array Value} {zC : Int32} {fS : Value} {bO : Addr} {bN : Addr} {bA : Addr} (G : Gl Z a0 zC fS bO bN bA) : (Jvm.Cond.fieldLink "java/lang/AbstractStringBuilder" (79 : Nat) "java/lang/AbstractStringBuilder" "count" "I").before a0 Z = true := G.1 _ (List.mem_of_getElem? (i := 80) rfl)
theorem w81 {Z : State} {a0 : Array Value} {zC : Int32} {fS : Value} {bO : Addr} {bN : Addr} {bA : Addr} (G : Gl Z a0 zC fS bO bN bA) : (Jvm.Cond.lays "java/lang/StringBuilder" "java/lang/AbstractStringBuilder" "count" "I").before a0 Z = true := G.1 _ (List.mem_of_getElem? (i := 81) rfl)
theorem w82 {Z : State} {a0 : Array Value} {zC : Int32} {fS : Value} {bO : Addr} {bN : Addr} {bA : Addr} (G : Gl Z a0 zC fS bO bN bA) : (Jvm.Cond.methodLink "java/lang/AbstractStringBuilder" (100 : Nat) ({ cls := "java/lang/AbstractStringBuilder", name := "ensureCapacityInternal", desc := "(I)V" } : Jvm.MethodName)).before a0 Z = true := G.1 _ (List.mem_of_getElem? (i := 82) rfl)
theorem w83 {Z : State} {a0 : Array Value} {zC : Int32} {fS : Value} {bO : Addr} {bN : Addr} {bA : Addr} (G : Gl Z a0 zC fS bO bN bA) : (Jvm.Cond.instanceMethod ({ cls := "java/lang/AbstractStringBuilder", name := "ensureCapacityInternal", desc := "(I)V" } : Jvm.MethodName)).before a0 Z = true := G.1 _ (List.mem_of_getElem? (i := 83) rfl)
theorem w84 {Z : State} {a0 : Array Value} {zC : Int32} {fS : Value} {bO : Addr} {bN : Addr} {bA : Addr} (G : Gl Z a0 zC fS bO bN bA) : (Jvm.Cond.privateMethod ({ cls := "java/lang/AbstractStringBuilder", name := "ensureCapacityInternal", desc := "(I)V" } : Jvm.MethodName)).before a0 Z = true := G.1 _ (List.mem_of_getElem? (i := 84) rfl)
theorem w85 {Z : State} {a0 : Array Value} {zC : Int32} {fS : Value} {bO : Addr} {bN : Addr} {bA : Addr} (G : Gl Z a0 zC fS bO bN bA) : (Jvm.Cond.selects "java/lang/StringBuilder" ({ cls := "java/lang/AbstractStringBuilder", name := "ensureCapacityInternal", desc := "(I)V" } : Jvm.MethodName) ({ cls := "java/lang/AbstractStringBuilder", name := "ensureCapacityInternal", desc := "(I)V" } : Jvm.MethodName)).before a0 Z = true := G.1 _ (List.mem_of_getElem? (i := 85) rfl)
theorem w86 {Z : State} {a0 : Array Value} {zC : Int32} {fS : Value} {bO : Addr} {bN : Addr} {bA : Addr} (G : Gl Z a0 zC fS bO bN bA) : (Jvm.Cond.code ({ cls := "java/lang/AbstractStringBuilder", name := "ensureCapacityInternal", desc := "(I)V" } : Jvm.MethodName) jdk_68_method_9_code (3 : Nat) (Option.none : Option Jvm.ClassFile.FieldType)).before a0 Z = true := G.1 _ (List.mem_of_getElem? (i := 86) rfl)
theorem w87 {Z : State} {a0 : Array Value} {zC : Int32} {fS : Value} {bO : Addr} {bN : Addr} {bA : Addr} (G : Gl Z a0 zC fS bO bN bA) : (Jvm.Cond.methodLink "java/lang/AbstractStringBuilder" (208 : Nat) ({ cls := "java/lang/AbstractStringBuilder", name := "putStringAt", desc := "(ILjava/lang/String;)V" } : Jvm.MethodName)).before a0 Z = true := G.1 _ (List.mem_of_getElem? (i := 87) rfl)
theorem w88 {Z : State} {a0 : Array Value} {zC : Int32} {fS : Value} {bO : Addr} {bN : Addr} {bA : Addr} (G : Gl Z a0 zC fS bO bN bA) : (Jvm.Cond.instanceMethod ({ cls := "java/lang/AbstractStringBuilder", name := "putStringAt", desc := "(ILjava/lang/String;)V" } : Jvm.MethodName)).before a0 Z = true := G.1 _ (List.mem_of_getElem? (i := 88) rfl)
theorem w89 {Z : State} {a0 : Array Value} {zC : Int32} {fS : Value} {bO : Addr} {bN : Addr} {bA : Addr} (G : Gl Z a0 zC fS bO bN bA) : (Jvm.Cond.privateMethod ({ cls := "java/lang/AbstractStringBuilder", name := "putStringAt", desc := "(ILjava/lang/String;)V" } : Jvm.MethodName)).before a0 Z = true := G.1 _ (List.mem_of_getElem? (i := 89) rfl)
theorem w91 {Z : State} {a0 : Array Value} {zC : Int32} {fS : Value} {bO : Addr} {bN : Addr} {bA : Addr} (G : Gl Z a0 zC fS bO bN bA) : (Jvm.Cond.code ({ cls := "java/lang/AbstractStringBuilder", name := "putStringAt", desc := "(ILjava/lang/String;)V" } : Jvm.MethodName) jdk_68_method_73_code (3 : Nat) (Option.none : Option Jvm.ClassFile.FieldType)).before a0 Z = true := G.1 _ (List.mem_of_getElem? (i := 91) rfl)
theorem w92 {Z : State} {a0 : Array Value} {zC : Int32} {fS : Value} {bO : Addr} {bN : Addr} {bA : Addr} (G : Gl Z a0 zC fS bO bN bA) : (Jvm.Cond.methodLink "java/lang/AbstractStringBuilder" (397 : Nat) ({ cls := "java/lang/AbstractStringBuilder", name := "inflateIfNeededFor", desc := "(Ljava/lang/String;)V" } : Jvm.MethodName)).before a0 Z = true := G.1 _ (List.mem_of_getElem? (i := 92) rfl)
theorem w93 {Z : State} {a0 : Array Value} {zC : Int32} {fS : Value} {bO : Addr} {bN : Addr} {bA : Addr} (G : Gl Z a0 zC fS bO bN bA) : (Jvm.Cond.instanceMethod ({ cls := "java/lang/AbstractStringBuilder", name := "inflateIfNeededFor", desc := "(Ljava/lang/String;)V" } : Jvm.MethodName)).before a0 Z = true := G.1 _ (List.mem_of_getElem? (i := 93) rfl)
theorem w94 {Z : State} {a0 : Array Value} {zC : Int32} {fS : Value} {bO : Addr} {bN : Addr} {bA : Addr} (G : Gl Z a0 zC fS bO bN bA) : (Jvm.Cond.privateMethod ({ cls := "java/lang/AbstractStringBuilder", name := "inflateIfNeededFor", desc := "(Ljava/lang/String;)V" } : Jvm.MethodName)).before a0 Z = true := G.1 _ (List.mem_of_getElem? (i := 94) rfl)
theorem w96 {Z : State} {a0 : Array Value} {zC : Int32} {fS : Value} {bO : Addr} {bN : Addr} {bA : Addr} (G : Gl Z a0 zC fS bO bN bA) : (Jvm.Cond.code ({ cls := "java/lang/AbstractStringBuilder", name := "inflateIfNeededFor", desc := "(Ljava/lang/String;)V" } : Jvm.MethodName) jdk_68_method_71_code (2 : Nat) (Option.none : Option Jvm.ClassFile.FieldType)).before a0 Z = true := G.1 _ (List.mem_of_getElem? (i := 96) rfl)
theorem w97 {Z : State} {a0 : Array Value} {zC : Int32} {fS : Value} {bO : Addr} {bN : Addr} {bA : Addr} (G : Gl Z a0 zC fS bO bN bA) : (Jvm.Cond.methodLink "java/lang/AbstractStringBuilder" (40 : Nat) ({ cls := "java/lang/String", name := "coder", desc := "()B" } : Jvm.MethodName)).before a0 Z = true := G.1 _ (List.mem_of_getElem? (i := 97) rfl)
theorem w98 {Z : State} {a0 : Array Value} {zC : Int32} {fS : Value} {bO : Addr} {bN : Addr} {bA : Addr} (G : Gl Z a0 zC fS bO bN bA) : (Jvm.Cond.methodLink "java/lang/AbstractStringBuilder" (399 : Nat) ({ cls := "java/lang/String", name := "getBytes", desc := "([BIB)V" } : Jvm.MethodName)).before a0 Z = true := G.1 _ (List.mem_of_getElem? (i := 98) rfl)
theorem w99 {Z : State} {a0 : Array Value} {zC : Int32} {fS : Value} {bO : Addr} {bN : Addr} {bA : Addr} (G : Gl Z a0 zC fS bO bN bA) : (Jvm.Cond.declares ({ cls := "java/lang/String", name := "getBytes", desc := "([BIB)V" } : Jvm.MethodName)).before a0 Z = true := G.1 _ (List.mem_of_getElem? (i := 99) rfl)
theorem w100 {Z : State} {a0 : Array Value} {zC : Int32} {fS : Value} {bO : Addr} {bN : Addr} {bA : Addr} (G : Gl Z a0 zC fS bO bN bA) : (Jvm.Cond.instanceMethod ({ cls := "java/lang/String", name := "getBytes", desc := "([BIB)V" } : Jvm.MethodName)).before a0 Z = true := G.1 _ (List.mem_of_getElem? (i := 100) rfl)
theorem w101 {Z : State} {a0 : Array Value} {zC : Int32} {fS : Value} {bO : Addr} {bN : Addr} {bA : Addr} (G : Gl Z a0 zC fS bO bN bA) : (Jvm.Cond.selects "java/lang/String" ({ cls := "java/lang/String", name := "getBytes", desc := "([BIB)V" } : Jvm.MethodName) ({ cls := "java/lang/String", name := "getBytes", desc := "([BIB)V" } : Jvm.MethodName)).before a0 Z = true := G.1 _ (List.mem_of_getElem? (i := 101) rfl)
theorem w102 {Z : State} {a0 : Array Value} {zC : Int32} {fS : Value} {bO : Addr} {bN : Addr} {bA : Addr} (G : Gl Z a0 zC fS bO bN bA) : (Jvm.Cond.code ({ cls := "java/lang/String", name := "getBytes", desc := "([BIB)V" } : Jvm.MethodName) jdk_42_method_147_code (4 : Nat) (Option.none : Option Jvm.ClassFile.FieldType)).before a0 Z = true := G.1 _ (List.mem_of_getElem? (i := 102) rfl)
theorem w103 {Z : State} {a0 : Array Value} {zC : Int32} {fS : Value} {bO : Addr} {bN : Addr} {bA : Addr} (G : Gl Z a0 zC fS bO bN bA) : (Jvm.Cond.methodLink "java/lang/String" (212 : Nat) ({ cls := "java/lang/System", name := "arraycopy", desc := "(Ljava/lang/Object;ILjava/lang/Object;II)V" } : Jvm.MethodName)).before a0 Z = true := G.1 _ (List.mem_of_getElem? (i := 103) rfl)
theorem w104 {Z : State} {a0 : Array Value} {zC : Int32} {fS : Value} {bO : Addr} {bN : Addr} {bA : Addr} (G : Gl Z a0 zC fS bO bN bA) : (Jvm.Cond.static ({ cls := "java/lang/System", name := "arraycopy", desc := "(Ljava/lang/Object;ILjava/lang/Object;II)V" } : Jvm.MethodName)).before a0 Z = true := G.1 _ (List.mem_of_getElem? (i := 104) rfl)
theorem w105 {Z : State} {a0 : Array Value} {zC : Int32} {fS : Value} {bO : Addr} {bN : Addr} {bA : Addr} (G : Gl Z a0 zC fS bO bN bA) : (Jvm.Cond.initialized "java/lang/System").before a0 Z = true := G.1 _ (List.mem_of_getElem? (i := 105) rfl)
theorem w106 {Z : State} {a0 : Array Value} {zC : Int32} {fS : Value} {bO : Addr} {bN : Addr} {bA : Addr} (G : Gl Z a0 zC fS bO bN bA) : (Jvm.Cond.native ({ cls := "java/lang/System", name := "arraycopy", desc := "(Ljava/lang/Object;ILjava/lang/Object;II)V" } : Jvm.MethodName)).before a0 Z = true := G.1 _ (List.mem_of_getElem? (i := 106) rfl)
theorem w107 {Z : State} {a0 : Array Value} {zC : Int32} {fS : Value} {bO : Addr} {bN : Addr} {bA : Addr} (G : Gl Z a0 zC fS bO bN bA) : (Jvm.Cond.stringLink "com/example/compendio/compendio/cli/Arguments" (32 : Nat) "<term file>").before a0 Z = true := G.1 _ (List.mem_of_getElem? (i := 107) rfl)
theorem w108 {Z : State} {a0 : Array Value} {zC : Int32} {fS : Value} {bO : Addr} {bN : Addr} {bA : Addr} (G : Gl Z a0 zC fS bO bN bA) : (Jvm.Cond.methodLink "com/example/compendio/compendio/cli/Arguments" (34 : Nat) ({ cls := "com/example/compendio/compendio/cli/Arguments", name := "synopsis", desc := "(Ljava/lang/String;Ljava/lang/String;Ljava/lang/String;)Ljava/lang/String;" } : Jvm.MethodName)).before a0 Z = true := G.1 _ (List.mem_of_getElem? (i := 108) rfl)
theorem w109 {Z : State} {a0 : Array Value} {zC : Int32} {fS : Value} {bO : Addr} {bN : Addr} {bA : Addr} (G : Gl Z a0 zC fS bO bN bA) : (Jvm.Cond.static ({ cls := "com/example/compendio/compendio/cli/Arguments", name := "synopsis", desc := "(Ljava/lang/String;Ljava/lang/String;Ljava/lang/String;)Ljava/lang/String;" } : Jvm.MethodName)).before a0 Z = true := G.1 _ (List.mem_of_getElem? (i := 109) rfl)
theorem w110 {Z : State} {a0 : Array Value} {zC : Int32} {fS : Value} {bO : Addr} {bN : Addr} {bA : Addr} (G : Gl Z a0 zC fS bO bN bA) : (Jvm.Cond.code ({ cls := "com/example/compendio/compendio/cli/Arguments", name := "synopsis", desc := "(Ljava/lang/String;Ljava/lang/String;Ljava/lang/String;)Ljava/lang/String;" } : Jvm.MethodName) prog_3_method_4_code (4 : Nat) (Option.some (Jvm.ClassFile.FieldType.object "java/lang/String"))).before a0 Z = true := G.1 _ (List.mem_of_getElem? (i := 110) rfl)
theorem w111 {Z : State} {a0 : Array Value} {zC : Int32} {fS : Value} {bO : Addr} {bN : Addr} {bA : Addr} (G : Gl Z a0 zC fS bO bN bA) : (Jvm.Cond.methodLink "com/example/compendio/compendio/cli/Arguments" (57 : Nat) ({ cls := "java/lang/String", name := "isEmpty", desc := "()Z" } : Jvm.MethodName)).before a0 Z = true := G.1 _ (List.mem_of_getElem? (i := 111) rfl)
theorem w112 {Z : State} {a0 : Array Value} {zC : Int32} {fS : Value} {bO : Addr} {bN : Addr} {bA : Addr} (G : Gl Z a0 zC fS bO bN bA) : (Jvm.Cond.declares ({ cls := "java/lang/String", name := "isEmpty", desc := "()Z" } : Jvm.MethodName)).before a0 Z = true := G.1 _ (List.mem_of_getElem? (i := 112) rfl)
theorem w113 {Z : State} {a0 : Array Value} {zC : Int32} {fS : Value} {bO : Addr} {bN : Addr} {bA : Addr} (G : Gl Z a0 zC fS bO bN bA) : (Jvm.Cond.instanceMethod ({ cls := "java/lang/String", name := "isEmpty", desc := "()Z" } : Jvm.MethodName)).before a0 Z = true := G.1 _ (List.mem_of_getElem? (i := 113) rfl)
theorem w114 {Z : State} {a0 : Array Value} {zC : Int32} {fS : Value} {bO : Addr} {bN : Addr} {bA : Addr} (G : Gl Z a0 zC fS bO bN bA) : (Jvm.Cond.selects "java/lang/String" ({ cls := "java/lang/String", name := "isEmpty", desc := "()Z" } : Jvm.MethodName) ({ cls := "java/lang/String", name := "isEmpty", desc := "()Z" } : Jvm.MethodName)).before a0 Z = true := G.1 _ (List.mem_of_getElem? (i := 114) rfl)
theorem w115 {Z : State} {a0 : Array Value} {zC : Int32} {fS : Value} {bO : Addr} {bN : Addr} {bA : Addr} (G : Gl Z a0 zC fS bO bN bA) : (Jvm.Cond.code ({ cls := "java/lang/String", name := "isEmpty", desc := "()Z" } : Jvm.MethodName) jdk_42_method_55_code (1 : Nat) (Option.some Jvm.ClassFile.FieldType.boolean)).before a0 Z = true := G.1 _ (List.mem_of_getElem? (i := 115) rfl)
theorem w116 {Z : State} {a0 : Array Value} {zC : Int32} {fS : Value} {bO : Addr} {bN : Addr} {bA : Addr} (G : Gl Z a0 zC fS bO bN bA) : (Jvm.Cond.stringLink "com/example/compendio/compendio/cli/Arguments" (63 : Nat) "").before a0 Z = true := G.1 _ (List.mem_of_getElem? (i := 116) rfl)
theorem w117 {Z : State} {a0 : Array Value} {zC : Int32} {fS : Value} {bO : Addr} {bN : Addr} {bA : Addr} (G : Gl Z a0 zC fS bO bN bA) : (Jvm.Cond.stringLink "com/example/compendio/compendio/cli/Arguments" (67 : Nat) "java -jar compendio.jar ").before a0 Z = true := G.1 _ (List.mem_of_getElem? (i := 117) rfl)
theorem w118 {Z : State} {a0 : Array Value} {zC : Int32} {fS : Value} {bO : Addr} {bN : Addr} {bA : Addr} (G : Gl Z a0 zC fS bO bN bA) : (Jvm.Cond.methodLink "java/lang/AbstractStringBuilder" (104 : Nat) ({ cls := "java/lang/AbstractStringBuilder", name := "newCapacity", desc := "(I)I" } : Jvm.MethodName)).before a0 Z = true := G.1 _ (List.mem_of_getElem? (i := 118) rfl)
theorem w119 {Z : State} {a0 : Array Value} {zC : Int32} {fS : Value} {bO : Addr} {bN : Addr} {bA : Addr} (G : Gl Z a0 zC fS bO bN bA) : (Jvm.Cond.instanceMethod ({ cls := "java/lang/AbstractStringBuilder", name := "newCapacity", desc := "(I)I" } : Jvm.MethodName)).before a0 Z = true := G.1 _ (List.mem_of_getElem? (i := 119) rfl)
theorem w120 {Z : State} {a0 : Array Value} {zC : Int32} {fS : Value} {bO : Addr} {bN : Addr} {bA : Addr} (G : Gl Z a0 zC fS bO bN bA) : (Jvm.Cond.privateMethod ({ cls := "java/lang/AbstractStringBuilder", name := "newCapacity", desc := "(I)I" } : Jvm.MethodName)).before a0 Z = true := G.1 _ (List.mem_of_getElem? (i := 120) rfl)
theorem w122 {Z : State} {a0 : Array Value} {zC : Int32} {fS : Value} {bO : Addr} {bN : Addr} {bA : Addr} (G : Gl Z a0 zC fS bO bN bA) : (Jvm.Cond.code ({ cls := "java/lang/AbstractStringBuilder", name := "newCapacity", desc := "(I)I" } : Jvm.MethodName) jdk_68_method_10_code (6 : Nat) (Option.some Jvm.ClassFile.FieldType.int)).before a0 Z = true := G.1 _ (List.mem_of_getElem? (i := 122) rfl)
theorem w123 {Z : State} {a0 : Array Value} {zC : Int32} {fS : Value} {bO : Addr} {bN : Addr} {bA : Addr} (G : Gl Z a0 zC fS bO bN bA) : (Jvm.Cond.methodLink "java/lang/AbstractStringBuilder" (114 : Nat) ({ cls := "jdk/internal/util/ArraysSupport", name := "newLength", desc := "(III)I" } : Jvm.MethodName)).before a0 Z = true := G.1 _ (List.mem_of_getElem? (i := 123) rfl)
theorem w124 {Z : State} {a0 : Array Value} {zC : Int32} {fS : Value} {bO : Addr} {bN : Addr} {bA : Addr} (G : Gl Z a0 zC fS bO bN bA) : (Jvm.Cond.static ({ cls := "jdk/internal/util/ArraysSupport", name := "newLength", desc := "(III)I" } : Jvm.MethodName)).before a0 Z = true := G.1 _ (List.mem_of_getElem? (i := 124) rfl)
theorem w125 {Z : State} {a0 : Array Value} {zC : Int32} {fS : Value} {bO : Addr} {bN : Addr} {bA : Addr} (G : Gl Z a0 zC fS bO bN bA) : (Jvm.Cond.initialized "jdk/internal/util/ArraysSupport").before a0 Z = true := G.1 _ (List.mem_of_getElem? (i := 125) rfl)
theorem w126 {Z : State} {a0 : Array Value} {zC : Int32} {fS : Value} {bO : Addr} {bN : Addr} {bA : Addr} (G : Gl Z a0 zC fS bO bN bA) : (Jvm.Cond.code ({ cls := "jdk/internal/util/ArraysSupport", name := "newLength", desc := "(III)I" } : Jvm.MethodName) jdk_48_method_27_code (4 : Nat) (Option.some Jvm.ClassFile.FieldType.int)).before a0 Z = true := G.1 _ (List.mem_of_getElem? (i := 126) rfl)
theorem w127 {Z : State} {a0 : Array Value} {zC : Int32} {fS : Value} {bO : Addr} {bN : Addr} {bA : Addr} (G : Gl Z a0 zC fS bO bN bA) : (Jvm.Cond.methodLink "jdk/internal/util/ArraysSupport" (194 : Nat) ({ cls := "java/lang/Math", name := "max", desc := "(II)I" } : Jvm.MethodName)).before a0 Z = true := G.1 _ (List.mem_of_getElem? (i := 127) rfl)
theorem w128 {Z : State} {a0 : Array Value} {zC : Int32} {fS : Value} {bO : Addr} {bN : Addr} {bA : Addr} (G : Gl Z a0 zC fS bO bN bA) : (Jvm.Cond.static ({ cls := "java/lang/Math", name := "max", desc := "(II)I" } : Jvm.MethodName)).before a0 Z = true := G.1 _ (List.mem_of_getElem? (i := 128) rfl)
theorem w129 {Z : State} {a0 : Array Value} {zC : Int32} {fS : Value} {bO : Addr} {bN : Addr} {bA : Addr} (G : Gl Z a0 zC fS bO bN bA) : (Jvm.Cond.initialized "java/lang/Math").before a0 Z = true := G.1 _ (List.mem_of_getElem? (i := 129) rfl)
theorem w130 {Z : State} {a0 : Array Value} {zC : Int32} {fS : Value} {bO : Addr} {bN : Addr} {bA : Addr} (G : Gl Z a0 zC fS bO bN bA) : (Jvm.Cond.code ({ cls := "java/lang/Math", name := "max", desc := "(II)I" } : Jvm.MethodName) jdk_29_method_65_code (2 : Nat) (Option.some Jvm.ClassFile.FieldType.int)).before a0 Z = true := G.1 _ (List.mem_of_getElem? (i := 130) rfl)
theorem w131 {Z : State} {a0 : Array Value} {zC : Int32} {fS : Value} {bO : Addr} {bN : Addr} {bA : Addr} (G : Gl Z a0 zC fS bO bN bA) : (Jvm.Cond.constant "jdk/internal/util/ArraysSupport" (200 : Nat) (2147483639 : Int32)).before a0 Z = true := G.1 _ (List.mem_of_getElem? (i := 131) rfl)
theorem w132 {Z : State} {a0 : Array Value} {zC : Int32} {fS : Value} {bO : Addr} {bN : Addr} {bA : Addr} (G : Gl Z a0 zC fS bO bN bA) : (Jvm.Cond.constant "java/lang/AbstractStringBuilder" (39 : Nat) (2147483647 : Int32)).before a0 Z = true := G.1 _ (List.mem_of_getElem? (i := 132) rfl)
theorem w133 {Z : State} {a0 : Array Value} {zC : Int32} {fS : Value} {bO : Addr} {bN : Addr} {bA : Addr} (G : Gl Z a0 zC fS bO bN bA) : (Jvm.Cond.methodLink "java/lang/AbstractStringBuilder" (108 : Nat) ({ cls := "java/util/Arrays", name := "copyOf", desc := "([BI)[B" } : Jvm.MethodName)).before a0 Z = true := G.1 _ (List.mem_of_getElem? (i := 133) rfl)
theorem w134 {Z : State} {a0 : Array Value} {zC : Int32} {fS : Value} {bO : Addr} {bN : Addr} {bA : Addr} (G : Gl Z a0 zC fS bO bN bA) : (Jvm.Cond.static ({ cls := "java/util/Arrays", name := "copyOf", desc := "([BI)[B" } : Jvm.MethodName)).before a0 Z = true := G.1 _ (List.mem_of_getElem? (i := 134) rfl)
theorem w135 {Z : State} {a0 : Array Value} {zC : Int32} {fS : Value} {bO : Addr} {bN : Addr} {bA : Addr} (G : Gl Z a0 zC fS bO bN bA) : (Jvm.Cond.initialized "java/util/Arrays").before a0 Z = true := G.1 _ (List.mem_of_getElem? (i := 135) rfl)
theorem w136 {Z : State} {a0 : Array Value} {zC : Int32} {fS : Value} {bO : Addr} {bN : Addr} {bA : Addr} (G : Gl Z a0 zC fS bO bN bA) : (Jvm.Cond.code ({ cls := "java/util/Arrays", name := "copyOf", desc := "([BI)[B" } : Jvm.MethodName) jdk_65_method_121_code (3 : Nat) (Option.some (Jvm.ClassFile.FieldType.array Jvm.ClassFile.FieldType.byte))).before a0 Z = true := G.1 _ (List.mem_of_getElem? (i := 136) rfl)
theorem w137 {Z : State} {a0 : Array Value} {zC : Int32} {fS : Value} {bO : Addr} {bN : Addr} {bA : Addr} (G : Gl Z a0 zC fS bO bN bA) : (Jvm.Cond.methodLink "java/util/Arrays" (304 : Nat) ({ cls := "java/lang/Math", name := "min", desc := "(II)I" } : Jvm.MethodName)).before a0 Z = true := G.1 _ (List.mem_of_getElem? (i := 137) rfl)
theorem w138 {Z : State} {a0 : Array Value} {zC : Int32} {fS : Value} {bO : Addr} {bN : Addr} {bA : Addr} (G : Gl Z a0 zC fS bO bN bA) : (Jvm.Cond.static ({ cls := "java/lang/Math", name := "min", desc := "(II)I" } : Jvm.MethodName)).before a0 Z = true := G.1 _ (List.mem_of_getElem? (i := 138) rfl)
theorem w139 {Z : State} {a0 : Array Value} {zC : Int32} {fS : Value} {bO : Addr} {bN : Addr} {bA : Addr} (G : Gl Z a0 zC fS bO bN bA) : (Jvm.Cond.code ({ cls := "java/lang/Math", name := "min", desc := "(II)I" } : Jvm.MethodName) jdk_29_method_69_code (2 : Nat) (Option.some Jvm.ClassFile.FieldType.int)).before a0 Z = true := G.1 _ (List.mem_of_getElem? (i := 139) rfl)
theorem w140 {Z : State} {a0 : Array Value} {zC : Int32} {fS : Value} {bO : Addr} {bN : Addr} {bA : Addr} (G : Gl Z a0 zC fS bO bN bA) : (Jvm.Cond.methodLink "java/util/Arrays" (150 : Nat) ({ cls := "java/lang/System", name := "arraycopy", desc := "(Ljava/lang/Object;ILjava/lang/Object;II)V" } : Jvm.MethodName)).before a0 Z = true := G.1 _ (List.mem_of_getElem? (i := 140) rfl)
theorem w141 {Z : State} {a0 : Array Value} {zC : Int32} {fS : Value} {bO : Addr} {bN : Addr} {bA : Addr} (G : Gl Z a0 zC fS bO bN bA) : (Jvm.Cond.stringLink "com/example/compendio/compendio/cli/Arguments" (65 : Nat) " ").before a0 Z = true := G.1 _ (List.mem_of_getElem? (i := 141) rfl)
theorem w142 {Z : State} {a0 : Array Value} {zC : Int32} {fS : Value} {bO : Addr} {bN : Addr} {bA : Addr} (G : Gl Z a0 zC fS bO bN bA) : (Jvm.Cond.stringLink "com/example/compendio/compendio/cli/Arguments" (69 : Nat) "[--set KEY=VALUE]... ").before a0 Z = true := G.1 _ (List.mem_of_getElem? (i := 142) rfl)
theorem w143 {Z : State} {a0 : Array Value} {zC : Int32} {fS : Value} {bO : Addr} {bN : Addr} {bA : Addr} (G : Gl Z a0 zC fS bO bN bA) : (Jvm.Cond.methodLink "com/example/compendio/compendio/cli/Arguments" (40 : Nat) ({ cls := "java/lang/StringBuilder", name := "toString", desc := "()Ljava/lang/String;" } : Jvm.MethodName)).before a0 Z = true := G.1 _ (List.mem_of_getElem? (i := 143) rfl)
theorem w144 {Z : State} {a0 : Array Value} {zC : Int32} {fS : Value} {bO : Addr} {bN : Addr} {bA : Addr} (G : Gl Z a0 zC fS bO bN bA) : (Jvm.Cond.declares ({ cls := "java/lang/StringBuilder", name := "toString", desc := "()Ljava/lang/String;" } : Jvm.MethodName)).before a0 Z = true := G.1 _ (List.mem_of_getElem? (i := 144) rfl)
theorem w145 {Z : State} {a0 : Array Value} {zC : Int32} {fS : Value} {bO : Addr} {bN : Addr} {bA : Addr} (G : Gl Z a0 zC fS bO bN bA) : (Jvm.Cond.instanceMethod ({ cls := "java/lang/StringBuilder", name := "toString", desc := "()Ljava/lang/String;" } : Jvm.MethodName)).before a0 Z = true := G.1 _ (List.mem_of_getElem? (i := 145) rfl)
theorem w146 {Z : State} {a0 : Array Value} {zC : Int32} {fS : Value} {bO : Addr} {bN : Addr} {bA : Addr} (G : Gl Z a0 zC fS bO bN bA) : (Jvm.Cond.selects "java/lang/StringBuilder" ({ cls := "java/lang/StringBuilder", name := "toString", desc := "()Ljava/lang/String;" } : Jvm.MethodName) ({ cls := "java/lang/StringBuilder", name := "toString", desc := "()Ljava/lang/String;" } : Jvm.MethodName)).before a0 Z = true := G.1 _ (List.mem_of_getElem? (i := 146) rfl)
theorem w147 {Z : State} {a0 : Array Value} {zC : Int32} {fS : Value} {bO : Addr} {bN : Addr} {bA : Addr} (G : Gl Z a0 zC fS bO bN bA) : (Jvm.Cond.code ({ cls := "java/lang/StringBuilder", name := "toString", desc := "()Ljava/lang/String;" } : Jvm.MethodName) jdk_67_method_42_code (1 : Nat) (Option.some (Jvm.ClassFile.FieldType.object "java/lang/String"))).before a0 Z = true := G.1 _ (List.mem_of_getElem? (i := 147) rfl)
theorem w148 {Z : State} {a0 : Array Value} {zC : Int32} {fS : Value} {bO : Addr} {bN : Addr} {bA : Addr} (G : Gl Z a0 zC fS bO bN bA) : (Jvm.Cond.classLink "java/lang/StringBuilder" (18 : Nat) "java/lang/String").before a0 Z = true := G.1 _ (List.mem_of_getElem? (i := 148) rfl)
theorem w149 {Z : State} {a0 : Array Value} {zC : Int32} {fS : Value} {bO : Addr} {bN : Addr} {bA : Addr} (G : Gl Z a0 zC fS bO bN bA) : (Jvm.Cond.methodLink "java/lang/StringBuilder" (137 : Nat) ({ cls := "java/lang/String", name := "<init>", desc := "(Ljava/lang/StringBuilder;)V" } : Jvm.MethodName)).before a0 Z = true := G.1 _ (List.mem_of_getElem? (i := 149) rfl)
theorem w150 {Z : State} {a0 : Array Value} {zC : Int32} {fS : Value} {bO : Addr} {bN : Addr} {bA : Addr} (G : Gl Z a0 zC fS bO bN bA) : (Jvm.Cond.instanceMethod ({ cls := "java/lang/String", name := "<init>", desc := "(Ljava/lang/StringBuilder;)V" } : Jvm.MethodName)).before a0 Z = true := G.1 _ (List.mem_of_getElem? (i := 150) rfl)
theorem w151 {Z : State} {a0 : Array Value} {zC : Int32} {fS : Value} {bO : Addr} {bN : Addr} {bA : Addr} (G : Gl Z a0 zC fS bO bN bA) : (Jvm.Cond.code ({ cls := "java/lang/String", name := "<init>", desc := "(Ljava/lang/StringBuilder;)V" } : Jvm.MethodName) jdk_42_method_53_code (2 : Nat) (Option.none : Option Jvm.ClassFile.FieldType)).before a0 Z = true := G.1 _ (List.mem_of_getElem? (i := 151) rfl)
theorem w152 {Z : State} {a0 : Array Value} {zC : Int32} {fS : Value} {bO : Addr} {bN : Addr} {bA : Addr} (G : Gl Z a0 zC fS bO bN bA) : (Jvm.Cond.methodLink "java/lang/String" (489 : Nat) ({ cls := "java/lang/String", name := "<init>", desc := "(Ljava/lang/AbstractStringBuilder;Ljava/lang/Void;)V" } : Jvm.MethodName)).before a0 Z = true := G.1 _ (List.mem_of_getElem? (i := 152) rfl)
theorem w153 {Z : State} {a0 : Array Value} {zC : Int32} {fS : Value} {bO : Addr} {bN : Addr} {bA : Addr} (G : Gl Z a0 zC fS bO bN bA) : (Jvm.Cond.instanceMethod ({ cls := "java/lang/String", name := "<init>", desc := "(Ljava/lang/AbstractStringBuilder;Ljava/lang/Void;)V" } : Jvm.MethodName)).before a0 Z = true := G.1 _ (List.mem_of_getElem? (i := 153) rfl)
theorem w154 {Z : State} {a0 : Array Value} {zC : Int32} {fS : Value} {bO : Addr} {bN : Addr} {bA : Addr} (G : Gl Z a0 zC fS bO bN bA) : (Jvm.Cond.code ({ cls := "java/lang/String", name := "<init>", desc := "(Ljava/lang/AbstractStringBuilder;Ljava/lang/Void;)V" } : Jvm.MethodName) jdk_42_method_150_code (5 : Nat) (Option.none : Option Jvm.ClassFile.FieldType)).before a0 Z = true := G.1 _ (List.mem_of_getElem? (i := 154) rfl)
theorem w155 {Z : State} {a0 : Array Value} {zC : Int32} {fS : Value} {bO : Addr} {bN : Addr} {bA : Addr} (G : Gl Z a0 zC fS bO bN bA) : (Jvm.Cond.methodLink "java/lang/String" (552 : Nat) ({ cls := "java/lang/AbstractStringBuilder", name := "getValue", desc := "()[B" } : Jvm.MethodName)).before a0 Z = true := G.1 _ (List.mem_of_getElem? (i := 155) rfl)
theorem w156 {Z : State} {a0 : Array Value} {zC : Int32} {fS : Value} {bO : Addr} {bN : Addr} {bA : Addr} (G : Gl Z a0 zC fS bO bN bA) : (Jvm.Cond.declares ({ cls := "java/lang/AbstractStringBuilder", name := "getValue", desc := "()[B" } : Jvm.MethodName)).before a0 Z = true := G.1 _ (List.mem_of_getElem? (i := 156) rfl)
theorem w157 {Z : State} {a0 : Array Value} {zC : Int32} {fS : Value} {bO : Addr} {bN : Addr} {bA : Addr} (G : Gl Z a0 zC fS bO bN bA) : (Jvm.Cond.instanceMethod ({ cls := "java/lang/AbstractStringBuilder", name := "getValue", desc := "()[B" } : Jvm.MethodName)).before a0 Z = true := G.1 _ (List.mem_of_getElem? (i := 157) rfl)
theorem w158 {Z : State} {a0 : Array Value} {zC : Int32} {fS : Value} {bO : Addr} {bN : Addr} {bA : Addr} (G : Gl Z a0 zC fS bO bN bA) : (Jvm.Cond.selects "java/lang/StringBuilder" ({ cls := "java/lang/AbstractStringBuilder", name := "getValue", desc := "()[B" } : Jvm.MethodName) ({ cls := "java/lang/AbstractStringBuilder", name := "getValue", desc := "()[B" } : Jvm.MethodName)).before a0 Z = true := G.1 _ (List.mem_of_getElem? (i := 158) rfl)
theorem w159 {Z : State} {a0 : Array Value} {zC : Int32} {fS : Value} {bO : Addr} {bN : Addr} {bA : Addr} (G : Gl Z a0 zC fS bO bN bA) : (Jvm.Cond.code ({ cls := "java/lang/AbstractStringBuilder", name := "getValue", desc := "()[B" } : Jvm.MethodName) jdk_68_method_64_code (1 : Nat) (Option.some (Jvm.ClassFile.FieldType.array Jvm.ClassFile.FieldType.byte))).before a0 Z = true := G.1 _ (List.mem_of_getElem? (i := 159) rfl)
theorem w160 {Z : State} {a0 : Array Value} {zC : Int32} {fS : Value} {bO : Addr} {bN : Addr} {bA : Addr} (G : Gl Z a0 zC fS bO bN bA) : (Jvm.Cond.methodLink "java/lang/String" (549 : Nat) ({ cls := "java/lang/AbstractStringBuilder", name := "length", desc := "()I" } : Jvm.MethodName)).before a0 Z = true := G.1 _ (List.mem_of_getElem? (i := 160) rfl)
theorem w161 {Z : State} {a0 : Array Value} {zC : Int32} {fS : Value} {bO : Addr} {bN : Addr} {bA : Addr} (G : Gl Z a0 zC fS bO bN bA) : (Jvm.Cond.declares ({ cls := "java/lang/AbstractStringBuilder", name := "length", desc := "()I" } : Jvm.MethodName)).before a0 Z = true := G.1 _ (List.mem_of_getElem? (i := 161) rfl)
theorem w162 {Z : State} {a0 : Array Value} {zC : Int32} {fS : Value} {bO : Addr} {bN : Addr} {bA : Addr} (G : Gl Z a0 zC fS bO bN bA) : (Jvm.Cond.instanceMethod ({ cls := "java/lang/AbstractStringBuilder", name := "length", desc := "()I" } : Jvm.MethodName)).before a0 Z = true := G.1 _ (List.mem_of_getElem? (i := 162) rfl)
theorem w163 {Z : State} {a0 : Array Value} {zC : Int32} {fS : Value} {bO : Addr} {bN : Addr} {bA : Addr} (G : Gl Z a0 zC fS bO bN bA) : (Jvm.Cond.selects "java/lang/StringBuilder" ({ cls := "java/lang/AbstractStringBuilder", name := "length", desc := "()I" } : Jvm.MethodName) ({ cls := "java/lang/StringBuilder", name := "length", desc := "()I" } : Jvm.MethodName)).before a0 Z = true := G.1 _ (List.mem_of_getElem? (i := 163) rfl)
theorem w164 {Z : State} {a0 : Array Value} {zC : Int32} {fS : Value} {bO : Addr} {bN : Addr} {bA : Addr} (G : Gl Z a0 zC fS bO bN bA) : (Jvm.Cond.instanceMethod ({ cls := "java/lang/StringBuilder", name := "length", desc := "()I" } : Jvm.MethodName)).before a0 Z = true := G.1 _ (List.mem_of_getElem? (i := 164) rfl)
theorem w165 {Z : State} {a0 : Array Value} {zC : Int32} {fS : Value} {bO : Addr} {bN : Addr} {bA : Addr} (G : Gl Z a0 zC fS bO bN bA) : (Jvm.Cond.code ({ cls := "java/lang/StringBuilder", name := "length", desc := "()I" } : Jvm.MethodName) jdk_67_method_93_code (1 : Nat) (Option.some Jvm.ClassFile.FieldType.int)).before a0 Z = true := G.1 _ (List.mem_of_getElem? (i := 165) rfl)
theorem w166 {Z : State} {a0 : Array Value} {zC : Int32} {fS : Value} {bO : Addr} {bN : Addr} {bA : Addr} (G : Gl Z a0 zC fS bO bN bA) : (Jvm.Cond.methodLink "java/lang/StringBuilder" (343 : Nat) ({ cls := "java/lang/AbstractStringBuilder", name := "length", desc := "()I" } : Jvm.MethodName)).before a0 Z = true := G.1 _ (List.mem_of_getElem? (i := 166) rfl)
theorem w167 {Z : State} {a0 : Array Value} {zC : Int32} {fS : Value} {bO : Addr} {bN : Addr} {bA : Addr} (G : Gl Z a0 zC fS bO bN bA) : (Jvm.Cond.code ({ cls := "java/lang/AbstractStringBuilder", name := "length", desc := "()I" } : Jvm.MethodName) jdk_68_method_6_code (1 : Nat) (Option.some Jvm.ClassFile.FieldType.int)).before a0 Z = true := G.1 _ (List.mem_of_getElem? (i := 167) rfl)
theorem w168 {Z : State} {a0 : Array Value} {zC : Int32} {fS : Value} {bO : Addr} {bN : Addr} {bA : Addr} (G : Gl Z a0 zC fS bO bN bA) : (Jvm.Cond.methodLink "java/lang/String" (1047 : Nat) ({ cls := "java/lang/AbstractStringBuilder", name := "isLatin1", desc := "()Z" } : Jvm.MethodName)).before a0 Z = true := G.1 _ (List.mem_of_getElem? (i := 168) rfl)
theorem w169 {Z : State} {a0 : Array Value} {zC : Int32} {fS : Value} {bO : Addr} {bN : Addr} {bA : Addr} (G : Gl Z a0 zC fS bO bN bA) : (Jvm.Cond.declares ({ cls := "java/lang/AbstractStringBuilder", name := "isLatin1", desc := "()Z" } : Jvm.MethodName)).before a0 Z = true := G.1 _ (List.mem_of_getElem? (i := 169) rfl)
theorem w170 {Z : State} {a0 : Array Value} {zC : Int32} {fS : Value} {bO : Addr} {bN : Addr} {bA : Addr} (G : Gl Z a0 zC fS bO bN bA) : (Jvm.Cond.instanceMethod ({ cls := "java/lang/AbstractStringBuilder", name := "isLatin1", desc := "()Z" } : Jvm.MethodName)).before a0 Z = true := G.1 _ (List.mem_of_getElem? (i := 170) rfl)
theorem w171 {Z : State} {a0 : Array Value} {zC : Int32} {fS : Value} {bO : Addr} {bN : Addr} {bA : Addr} (G : Gl Z a0 zC fS bO bN bA) : (Jvm.Cond.selects "java/lang/StringBuilder" ({ cls := "java/lang/AbstractStringBuilder", name := "isLatin1", desc := "()Z" } : Jvm.MethodName) ({ cls := "java/lang/AbstractStringBuilder", name := "isLatin1", desc := "()Z" } : Jvm.MethodName)).before a0 Z = true := G.1 _ (List.mem_of_getElem? (i := 171) rfl)
theorem w172 {Z : State} {a0 : Array Value} {zC : Int32} {fS : Value} {bO : Addr} {bN : Addr} {bA : Addr} (G : Gl Z a0 zC fS bO bN bA) : (Jvm.Cond.code ({ cls := "java/lang/AbstractStringBuilder", name := "isLatin1", desc := "()Z" } : Jvm.MethodName) jdk_68_method_68_code (1 : Nat) (Option.some Jvm.ClassFile.FieldType.boolean)).before a0 Z = true := G.1 _ (List.mem_of_getElem? (i := 172) rfl)
theorem w173 {Z : State} {a0 : Array Value} {zC : Int32} {fS : Value} {bO : Addr} {bN : Addr} {bA : Addr} (G : Gl Z a0 zC fS bO bN bA) : (Jvm.Cond.methodLink "java/lang/String" (54 : Nat) ({ cls := "java/util/Arrays", name := "copyOfRange", desc := "([BII)[B" } : Jvm.MethodName)).before a0 Z = true := G.1 _ (List.mem_of_getElem? (i := 173) rfl)
theorem w174 {Z : State} {a0 : Array Value} {zC : Int32} {fS : Value} {bO : Addr} {bN : Addr} {bA : Addr} (G : Gl Z a0 zC fS bO bN bA) : (Jvm.Cond.static ({ cls := "java/util/Arrays", name := "copyOfRange", desc := "([BII)[B" } : Jvm.MethodName)).before a0 Z = true := G.1 _ (List.mem_of_getElem? (i := 174) rfl)
theorem w175 {Z : State} {a0 : Array Value} {zC : Int32} {fS : Value} {bO : Addr} {bN : Addr} {bA : Addr} (G : Gl Z a0 zC fS bO bN bA) : (Jvm.Cond.code ({ cls := "java/util/Arrays", name := "copyOfRange", desc := "([BII)[B" } : Jvm.MethodName) jdk_65_method_132_code (3 : Nat) (Option.some (Jvm.ClassFile.FieldType.array Jvm.ClassFile.FieldType.byte))).before a0 Z = true := G.1 _ (List.mem_of_getElem? (i := 175) rfl)
theorem w176 {Z : State} {a0 : Array Value} {zC : Int32} {fS : Value} {bO : Addr} {bN : Addr} {bA : Addr} (G : Gl Z a0 zC fS bO bN bA) : (Jvm.Cond.methodLink "java/util/Arrays" (339 : Nat) ({ cls := "java/util/Arrays", name := "copyOfRangeByte", desc := "([BII)[B" } : Jvm.MethodName)).before a0 Z = true := G.1 _ (List.mem_of_getElem? (i := 176) rfl)
theorem w177 {Z : State} {a0 : Array Value} {zC : Int32} {fS : Value} {bO : Addr} {bN : Addr} {bA : Addr} (G : Gl Z a0 zC fS bO bN bA) : (Jvm.Cond.static ({ cls := "java/util/Arrays", name := "copyOfRangeByte", desc := "([BII)[B" } : Jvm.MethodName)).before a0 Z = true := G.1 _ (List.mem_of_getElem? (i := 177) rfl)
theorem w178 {Z : State} {a0 : Array Value} {zC : Int32} {fS : Value} {bO : Addr} {bN : Addr} {bA : Addr} (G : Gl Z a0 zC fS bO bN bA) : (Jvm.Cond.code ({ cls := "java/util/Arrays", name := "copyOfRangeByte", desc := "([BII)[B" } : Jvm.MethodName) jdk_65_method_133_code (5 : Nat) (Option.some (Jvm.ClassFile.FieldType.array Jvm.ClassFile.FieldType.byte))).before a0 Z = true := G.1 _ (List.mem_of_getElem? (i := 178) rfl)
theorem w179 {Z : State} {a0 : Array Value} {zC : Int32} {fS : Value} {bO : Addr} {bN : Addr} {bA : Addr} (G : Gl Z a0 zC fS bO bN bA) : (Jvm.Cond.methodLink "java/util/Arrays" (343 : Nat) ({ cls := "java/util/Arrays", name := "checkLength", desc := "(II)V" } : Jvm.MethodName)).before a0 Z = true := G.1 _ (List.mem_of_getElem? (i := 179) rfl)
theorem w180 {Z : State} {a0 : Array Value} {zC : Int32} {fS : Value} {bO : Addr} {bN : Addr} {bA : Addr} (G : Gl Z a0 zC fS bO bN bA) : (Jvm.Cond.static ({ cls := "java/util/Arrays", name := "checkLength", desc := "(II)V" } : Jvm.MethodName)).before a0 Z = true := G.1 _ (List.mem_of_getElem? (i := 180) rfl)
theorem w181 {Z : State} {a0 : Array Value} {zC : Int32} {fS : Value} {bO : Addr} {bN : Addr} {bA : Addr} (G : Gl Z a0 zC fS bO bN bA) : (Jvm.Cond.code ({ cls := "java/util/Arrays", name := "checkLength", desc := "(II)V" } : Jvm.MethodName) jdk_65_method_131_code (2 : Nat) (Option.none : Option Jvm.ClassFile.FieldType)).before a0 Z = true := G.1 _ (List.mem_of_getElem? (i := 181) rfl)
theorem w182 {Z : State} {a0 : Array Value} {zC : Int32} {fS : Value} {bO : Addr} {bN : Addr} {bA : Addr} (G : Gl Z a0 zC fS bO bN bA) : (Jvm.Cond.stringLink "com/example/compendio/compendio/cli/Arguments" (44 : Nat) "\n       ").before a0 Z = true := G.1 _ (List.mem_of_getElem? (i := 182) rfl)
theorem w183 {Z : State} {a0 : Array Value} {zC : Int32} {fS : Value} {bO : Addr} {bN : Addr} {bA : Addr} (G : Gl Z a0 zC fS bO bN bA) : (Jvm.Cond.fieldLink "com/example/compendio/compendio/cli/Arguments" (46 : Nat) "com/example/compendio/compendio/cli/Arguments" "BOOK" "Lcom/example/compendio/compendio/cli/Arguments$Option;").before a0 Z = true := G.1 _ (List.mem_of_getElem? (i := 183) rfl)
theorem w185 {Z : State} {a0 : Array Value} {zC : Int32} {fS : Value} {bO : Addr} {bN : Addr} {bA : Addr} (G : Gl Z a0 zC fS bO bN bA) : (Jvm.Cond.methodLink "com/example/compendio/compendio/cli/Arguments" (50 : Nat) ({ cls := "com/example/compendio/compendio/cli/Arguments$Option", name := "name", desc := "()Ljava/lang/String;" } : Jvm.MethodName)).before a0 Z = true := G.1 _ (List.mem_of_getElem? (i := 185) rfl)
theorem w186 {Z : State} {a0 : Array Value} {zC : Int32} {fS : Value} {bO : Addr} {bN : Addr} {bA : Addr} (G : Gl Z a0 zC fS bO bN bA) : (Jvm.Cond.declares ({ cls := "com/example/compendio/compendio/cli/Arguments$Option", name := "name", desc := "()Ljava/lang/String;" } : Jvm.MethodName)).before a0 Z = true := G.1 _ (List.mem_of_getElem? (i := 186) rfl)
theorem w187 {Z : State} {a0 : Array Value} {zC : Int32} {fS : Value} {bO : Addr} {bN : Addr} {bA : Addr} (G : Gl Z a0 zC fS bO bN bA) : (Jvm.Cond.instanceMethod ({ cls := "com/example/compendio/compendio/cli/Arguments$Option", name := "name", desc := "()Ljava/lang/String;" } : Jvm.MethodName)).before a0 Z = true := G.1 _ (List.mem_of_getElem? (i := 187) rfl)
theorem w188 {Z : State} {a0 : Array Value} {zC : Int32} {fS : Value} {bO : Addr} {bN : Addr} {bA : Addr} (G : Gl Z a0 zC fS bO bN bA) : (Jvm.Cond.selects "com/example/compendio/compendio/cli/Arguments$Option" ({ cls := "com/example/compendio/compendio/cli/Arguments$Option", name := "name", desc := "()Ljava/lang/String;" } : Jvm.MethodName) ({ cls := "com/example/compendio/compendio/cli/Arguments$Option", name := "name", desc := "()Ljava/lang/String;" } : Jvm.MethodName)).before a0 Z = true := G.1 _ (List.mem_of_getElem? (i := 188) rfl)
theorem w189 {Z : State} {a0 : Array Value} {zC : Int32} {fS : Value} {bO : Addr} {bN : Addr} {bA : Addr} (G : Gl Z a0 zC fS bO bN bA) : (Jvm.Cond.initialized "com/example/compendio/compendio/cli/Arguments$Option").before a0 Z = true := G.1 _ (List.mem_of_getElem? (i := 189) rfl)
theorem w190 {Z : State} {a0 : Array Value} {zC : Int32} {fS : Value} {bO : Addr} {bN : Addr} {bA : Addr} (G : Gl Z a0 zC fS bO bN bA) : (Jvm.Cond.code ({ cls := "com/example/compendio/compendio/cli/Arguments$Option", name := "name", desc := "()Ljava/lang/String;" } : Jvm.MethodName) prog_4_method_5_code (1 : Nat) (Option.some (Jvm.ClassFile.FieldType.object "java/lang/String"))).before a0 Z = true := G.1 _ (List.mem_of_getElem? (i := 190) rfl)
theorem w191 {Z : State} {a0 : Array Value} {zC : Int32} {fS : Value} {bO : Addr} {bN : Addr} {bA : Addr} (G : Gl Z a0 zC fS bO bN bA) : (Jvm.Cond.fieldLink "com/example/compendio/compendio/cli/Arguments$Option" (7 : Nat) "com/example/compendio/compendio/cli/Arguments$Option" "name" "Ljava/lang/String;").before a0 Z = true := G.1 _ (List.mem_of_getElem? (i := 191) rfl)
theorem w193 {Z : State} {a0 : Array Value} {zC : Int32} {fS : Value} {bO : Addr} {bN : Addr} {bA : Addr} (G : Gl Z a0 zC fS bO bN bA) : (Jvm.Cond.stringLink "com/example/compendio/compendio/cli/Arguments" (55 : Nat) " <directory>").before a0 Z = true := G.1 _ (List.mem_of_getElem? (i := 193) rfl)
theorem w194 {Z : State} {a0 : Array Value} {zC : Int32} {fS : Value} {bO : Addr} {bN : Addr} {bA : Addr} (G : Gl Z a0 zC fS bO bN bA) : (Jvm.Cond.stringLink "com/example/compendio/compendio/cli/Arguments" (38 : Nat) "\n\n").before a0 Z = true := G.1 _ (List.mem_of_getElem? (i := 194) rfl)
theorem w195 {Z : State} {a0 : Array Value} {zC : Int32} {fS : Value} {bO : Addr} {bN : Addr} {bA : Addr} (G : Gl Z a0 zC fS bO bN bA) : (Jvm.Cond.methodLink "com/example/compendio/compendio/cli/ArgumentsUsageWithBookPinLaw" (19 : Nat) ({ cls := "java/lang/String", name := "length", desc := "()I" } : Jvm.MethodName)).before a0 Z = true := G.1 _ (List.mem_of_getElem? (i := 195) rfl)
theorem w196 {Z : State} {a0 : Array Value} {zC : Int32} {fS : Value} {bO : Addr} {bN : Addr} {bA : Addr} (G : Gl Z a0 zC fS bO bN bA) : (Jvm.Cond.stringLink "com/example/compendio/compendio/cli/ArgumentsUsageWithBookPinLaw" (25 : Nat) "Usage: java -jar ").before a0 Z = true := G.1 _ (List.mem_of_getElem? (i := 196) rfl)
theorem w197 {Z : State} {a0 : Array Value} {zC : Int32} {fS : Value} {bO : Addr} {bN : Addr} {bA : Addr} (G : Gl Z a0 zC fS bO bN bA) : (Jvm.Cond.methodLink "com/example/compendio/compendio/cli/ArgumentsUsageWithBookPinLaw" (27 : Nat) ({ cls := "com/example/compendio/compendio/cli/ArgumentsUsageWithBookPinLaw", name := "lit", desc := "(Ljava/lang/String;ILjava/lang/String;)Z" } : Jvm.MethodName)).before a0 Z = true := G.1 _ (List.mem_of_getElem? (i := 197) rfl)
theorem w198 {Z : State} {a0 : Array Value} {zC : Int32} {fS : Value} {bO : Addr} {bN : Addr} {bA : Addr} (G : Gl Z a0 zC fS bO bN bA) : (Jvm.Cond.static ({ cls := "com/example/compendio/compendio/cli/ArgumentsUsageWithBookPinLaw", name := "lit", desc := "(Ljava/lang/String;ILjava/lang/String;)Z" } : Jvm.MethodName)).before a0 Z = true := G.1 _ (List.mem_of_getElem? (i := 198) rfl)
theorem w199 {Z : State} {a0 : Array Value} {zC : Int32} {fS : Value} {bO : Addr} {bN : Addr} {bA : Addr} (G : Gl Z a0 zC fS bO bN bA) : (Jvm.Cond.code ({ cls := "com/example/compendio/compendio/cli/ArgumentsUsageWithBookPinLaw", name := "lit", desc := "(Ljava/lang/String;ILjava/lang/String;)Z" } : Jvm.MethodName) method_6_code (5 : Nat) (Option.some Jvm.ClassFile.FieldType.boolean)).before a0 Z = true := G.1 _ (List.mem_of_getElem? (i := 199) rfl)
theorem w200 {Z : State} {a0 : Array Value} {zC : Int32} {fS : Value} {bO : Addr} {bN : Addr} {bA : Addr} (G : Gl Z a0 zC fS bO bN bA) : (Jvm.Cond.methodLink "com/example/compendio/compendio/cli/ArgumentsUsageWithBookPinLaw" (37 : Nat) ({ cls := "java/lang/String", name := "charAt", desc := "(I)C" } : Jvm.MethodName)).before a0 Z = true := G.1 _ (List.mem_of_getElem? (i := 200) rfl)
theorem w201 {Z : State} {a0 : Array Value} {zC : Int32} {fS : Value} {bO : Addr} {bN : Addr} {bA : Addr} (G : Gl Z a0 zC fS bO bN bA) : (Jvm.Cond.declares ({ cls := "java/lang/String", name := "charAt", desc := "(I)C" } : Jvm.MethodName)).before a0 Z = true := G.1 _ (List.mem_of_getElem? (i := 201) rfl)
theorem w202 {Z : State} {a0 : Array Value} {zC : Int32} {fS : Value} {bO : Addr} {bN : Addr} {bA : Addr} (G : Gl Z a0 zC fS bO bN bA) : (Jvm.Cond.instanceMethod ({ cls := "java/lang/String", name := "charAt", desc := "(I)C" } : Jvm.MethodName)).before a0 Z = true := G.1 _ (List.mem_of_getElem? (i := 202) rfl)
theorem w203 {Z : State} {a0 : Array Value} {zC : Int32} {fS : Value} {bO : Addr} {bN : Addr} {bA : Addr} (G : Gl Z a0 zC fS bO bN bA) : (Jvm.Cond.selects "java/lang/String" ({ cls := "java/lang/String", name := "charAt", desc := "(I)C" } : Jvm.MethodName) ({ cls := "java/lang/String", name := "charAt", desc := "(I)C" } : Jvm.MethodName)).before a0 Z = true := G.1 _ (List.mem_of_getElem? (i := 203) rfl)
theorem w204 {Z : State} {a0 : Array Value} {zC : Int32} {fS : Value} {bO : Addr} {bN : Addr} {bA : Addr} (G : Gl Z a0 zC fS bO bN bA) : (Jvm.Cond.code ({ cls := "java/lang/String", name := "charAt", desc := "(I)C" } : Jvm.MethodName) jdk_42_method_56_code (2 : Nat) (Option.some Jvm.ClassFile.FieldType.char)).before a0 Z = true := G.1 _ (List.mem_of_getElem? (i := 204) rfl)
theorem w205 {Z : State} {a0 : Array Value} {zC : Int32} {fS : Value} {bO : Addr} {bN : Addr} {bA : Addr} (G : Gl Z a0 zC fS bO bN bA) : (Jvm.Cond.methodLink "java/lang/String" (492 : Nat) ({ cls := "java/lang/String", name := "isLatin1", desc := "()Z" } : Jvm.MethodName)).before a0 Z = true := G.1 _ (List.mem_of_getElem? (i := 205) rfl)
theorem w206 {Z : State} {a0 : Array Value} {zC : Int32} {fS : Value} {bO : Addr} {bN : Addr} {bA : Addr} (G : Gl Z a0 zC fS bO bN bA) : (Jvm.Cond.declares ({ cls := "java/lang/String", name := "isLatin1", desc := "()Z" } : Jvm.MethodName)).before a0 Z = true := G.1 _ (List.mem_of_getElem? (i := 206) rfl)
theorem w207 {Z : State} {a0 : Array Value} {zC : Int32} {fS : Value} {bO : Addr} {bN : Addr} {bA : Addr} (G : Gl Z a0 zC fS bO bN bA) : (Jvm.Cond.instanceMethod ({ cls := "java/lang/String", name := "isLatin1", desc := "()Z" } : Jvm.MethodName)).before a0 Z = true := G.1 _ (List.mem_of_getElem? (i := 207) rfl)
theorem w208 {Z : State} {a0 : Array Value} {zC : Int32} {fS : Value} {bO : Addr} {bN : Addr} {bA : Addr} (G : Gl Z a0 zC fS bO bN bA) : (Jvm.Cond.selects "java/lang/String" ({ cls := "java/lang/String", name := "isLatin1", desc := "()Z" } : Jvm.MethodName) ({ cls := "java/lang/String", name := "isLatin1", desc := "()Z" } : Jvm.MethodName)).before a0 Z = true := G.1 _ (List.mem_of_getElem? (i := 208) rfl)
theorem w209 {Z : State} {a0 : Array Value} {zC : Int32} {fS : Value} {bO : Addr} {bN : Addr} {bA : Addr} (G : Gl Z a0 zC fS bO bN bA) : (Jvm.Cond.code ({ cls := "java/lang/String", name := "isLatin1", desc := "()Z" } : Jvm.MethodName) jdk_42_method_154_code (1 : Nat) (Option.some Jvm.ClassFile.FieldType.boolean)).before a0 Z = true := G.1 _ (List.mem_of_getElem? (i := 209) rfl)
theorem w210 {Z : State} {a0 : Array Value} {zC : Int32} {fS : Value} {bO : Addr} {bN : Addr} {bA : Addr} (G : Gl Z a0 zC fS bO bN bA) : (Jvm.Cond.methodLink "java/lang/String" (495 : Nat) ({ cls := "java/lang/StringLatin1", name := "charAt", desc := "([BI)C" } : Jvm.MethodName)).before a0 Z = true := G.1 _ (List.mem_of_getElem? (i := 210) rfl)
theorem w211 {Z : State} {a0 : Array Value} {zC : Int32} {fS : Value} {bO : Addr} {bN : Addr} {bA : Addr} (G : Gl Z a0 zC fS bO bN bA) : (Jvm.Cond.static ({ cls := "java/lang/StringLatin1", name := "charAt", desc := "([BI)C" } : Jvm.MethodName)).before a0 Z = true := G.1 _ (List.mem_of_getElem? (i := 211) rfl)
theorem w212 {Z : State} {a0 : Array Value} {zC : Int32} {fS : Value} {bO : Addr} {bN : Addr} {bA : Addr} (G : Gl Z a0 zC fS bO bN bA) : (Jvm.Cond.initialized "java/lang/StringLatin1").before a0 Z = true := G.1 _ (List.mem_of_getElem? (i := 212) rfl)
theorem w213 {Z : State} {a0 : Array Value} {zC : Int32} {fS : Value} {bO : Addr} {bN : Addr} {bA : Addr} (G : Gl Z a0 zC fS bO bN bA) : (Jvm.Cond.code ({ cls := "java/lang/StringLatin1", name := "charAt", desc := "([BI)C" } : Jvm.MethodName) jdk_43_method_2_code (2 : Nat) (Option.some Jvm.ClassFile.FieldType.char)).before a0 Z = true := G.1 _ (List.mem_of_getElem? (i := 213) rfl)
theorem w214 {Z : State} {a0 : Array Value} {zC : Int32} {fS : Value} {bO : Addr} {bN : Addr} {bA : Addr} (G : Gl Z a0 zC fS bO bN bA) : (Jvm.Cond.methodLink "java/lang/StringLatin1" (9 : Nat) ({ cls := "java/lang/String", name := "checkIndex", desc := "(II)V" } : Jvm.MethodName)).before a0 Z = true := G.1 _ (List.mem_of_getElem? (i := 214) rfl)
theorem w215 {Z : State} {a0 : Array Value} {zC : Int32} {fS : Value} {bO : Addr} {bN : Addr} {bA : Addr} (G : Gl Z a0 zC fS bO bN bA) : (Jvm.Cond.static ({ cls := "java/lang/String", name := "checkIndex", desc := "(II)V" } : Jvm.MethodName)).before a0 Z = true := G.1 _ (List.mem_of_getElem? (i := 215) rfl)
theorem w216 {Z : State} {a0 : Array Value} {zC : Int32} {fS : Value} {bO : Addr} {bN : Addr} {bA : Addr} (G : Gl Z a0 zC fS bO bN bA) : (Jvm.Cond.code ({ cls := "java/lang/String", name := "checkIndex", desc := "(II)V" } : Jvm.MethodName) jdk_42_method_155_code (2 : Nat) (Option.none : Option Jvm.ClassFile.FieldType)).before a0 Z = true := G.1 _ (List.mem_of_getElem? (i := 216) rfl)
theorem w217 {Z : State} {a0 : Array Value} {zC : Int32} {fS : Value} {bO : Addr} {bN : Addr} {bA : Addr} (G : Gl Z a0 zC fS bO bN bA) : (Jvm.Cond.fieldLink "java/lang/String" (1053 : Nat) "jdk/internal/util/Preconditions" "SIOOBE_FORMATTER" "Ljava/util/function/BiFunction;").before a0 Z = true := G.1 _ (List.mem_of_getElem? (i := 217) rfl)
theorem w218 {Z : State} {a0 : Array Value} {zC : Int32} {fS : Value} {bO : Addr} {bN : Addr} {bA : Addr} (G : Gl Z a0 zC fS bO bN bA) : (Jvm.Cond.initialized "jdk/internal/util/Preconditions").before a0 Z = true := G.1 _ (List.mem_of_getElem? (i := 218) rfl)
theorem w219 {Z : State} {a0 : Array Value} {zC : Int32} {fS : Value} {bO : Addr} {bN : Addr} {bA : Addr} (G : Gl Z a0 zC fS bO bN bA) : (Jvm.Cond.methodLink "java/lang/String" (1059 : Nat) ({ cls := "jdk/internal/util/Preconditions", name := "checkIndex", desc := "(IILjava/util/function/BiFunction;)I" } : Jvm.MethodName)).before a0 Z = true := G.1 _ (List.mem_of_getElem? (i := 219) rfl)
theorem w220 {Z : State} {a0 : Array Value} {zC : Int32} {fS : Value} {bO : Addr} {bN : Addr} {bA : Addr} (G : Gl Z a0 zC fS bO bN bA) : (Jvm.Cond.static ({ cls := "jdk/internal/util/Preconditions", name := "checkIndex", desc := "(IILjava/util/function/BiFunction;)I" } : Jvm.MethodName)).before a0 Z = true := G.1 _ (List.mem_of_getElem? (i := 220) rfl)
theorem w221 {Z : State} {a0 : Array Value} {zC : Int32} {fS : Value} {bO : Addr} {bN : Addr} {bA : Addr} (G : Gl Z a0 zC fS bO bN bA) : (Jvm.Cond.code ({ cls := "jdk/internal/util/Preconditions", name := "checkIndex", desc := "(IILjava/util/function/BiFunction;)I" } : Jvm.MethodName) jdk_41_method_11_code (3 : Nat) (Option.some Jvm.ClassFile.FieldType.int)).before a0 Z = true := G.1 _ (List.mem_of_getElem? (i := 221) rfl)
theorem w222 {Z : State} {a0 : Array Value} {zC : Int32} {fS : Value} {bO : Addr} {bN : Addr} {bA : Addr} (G : Gl Z a0 zC fS bO bN bA) : (Jvm.Cond.stringLink "com/example/compendio/compendio/cli/ArgumentsUsageWithBookPinLaw" (31 : Nat) "compendio.jar ").before a0 Z = true := G.1 _ (List.mem_of_getElem? (i := 222) rfl)
theorem w223 {Z : State} {a0 : Array Value} {zC : Int32} {fS : Value} {bO : Addr} {bN : Addr} {bA : Addr} (G : Gl Z a0 zC fS bO bN bA) : (Jvm.Cond.methodLink "com/example/compendio/compendio/cli/ArgumentsUsageWithBookPinLaw" (33 : Nat) ({ cls := "com/example/compendio/compendio/cli/ArgumentsUsageWithBookPinLaw", name := "word", desc := "(Ljava/lang/String;IICC)Z" } : Jvm.MethodName)).before a0 Z = true := G.1 _ (List.mem_of_getElem? (i := 223) rfl)
theorem w224 {Z : State} {a0 : Array Value} {zC : Int32} {fS : Value} {bO : Addr} {bN : Addr} {bA : Addr} (G : Gl Z a0 zC fS bO bN bA) : (Jvm.Cond.static ({ cls := "com/example/compendio/compendio/cli/ArgumentsUsageWithBookPinLaw", name := "word", desc := "(Ljava/lang/String;IICC)Z" } : Jvm.MethodName)).before a0 Z = true := G.1 _ (List.mem_of_getElem? (i := 224) rfl)
theorem w225 {Z : State} {a0 : Array Value} {zC : Int32} {fS : Value} {bO : Addr} {bN : Addr} {bA : Addr} (G : Gl Z a0 zC fS bO bN bA) : (Jvm.Cond.code ({ cls := "com/example/compendio/compendio/cli/ArgumentsUsageWithBookPinLaw", name := "word", desc := "(Ljava/lang/String;IICC)Z" } : Jvm.MethodName) method_4_code (5 : Nat) (Option.some Jvm.ClassFile.FieldType.boolean)).before a0 Z = true := G.1 _ (List.mem_of_getElem? (i := 225) rfl)
theorem w226 {Z : State} {a0 : Array Value} {zC : Int32} {fS : Value} {bO : Addr} {bN : Addr} {bA : Addr} (G : Gl Z a0 zC fS bO bN bA) : (Jvm.Cond.methodLink "com/example/compendio/compendio/cli/ArgumentsUsageWithBookPinLaw" (41 : Nat) ({ cls := "com/example/compendio/compendio/cli/ArgumentsUsageWithBookPinLaw", name := "own", desc := "(Ljava/lang/String;IICC)Z" } : Jvm.MethodName)).before a0 Z = true := G.1 _ (List.mem_of_getElem? (i := 226) rfl)
theorem w227 {Z : State} {a0 : Array Value} {zC : Int32} {fS : Value} {bO : Addr} {bN : Addr} {bA : Addr} (G : Gl Z a0 zC fS bO bN bA) : (Jvm.Cond.static ({ cls := "com/example/compendio/compendio/cli/ArgumentsUsageWithBookPinLaw", name := "own", desc := "(Ljava/lang/String;IICC)Z" } : Jvm.MethodName)).before a0 Z = true := G.1 _ (List.mem_of_getElem? (i := 227) rfl)
theorem w228 {Z : State} {a0 : Array Value} {zC : Int32} {fS : Value} {bO : Addr} {bN : Addr} {bA : Addr} (G : Gl Z a0 zC fS bO bN bA) : (Jvm.Cond.code ({ cls := "com/example/compendio/compendio/cli/ArgumentsUsageWithBookPinLaw", name := "own", desc := "(Ljava/lang/String;IICC)Z" } : Jvm.MethodName) method_5_code (5 : Nat) (Option.some Jvm.ClassFile.FieldType.boolean)).before a0 Z = true := G.1 _ (List.mem_of_getElem? (i := 228) rfl)
theorem w229 {Z : State} {a0 : Array Value} {zC : Int32} {fS : Value} {bO : Addr} {bN : Addr} {bA : Addr} (G : Gl Z a0 zC fS bO bN bA) : (Jvm.Cond.stringLink "com/example/compendio/compendio/cli/ArgumentsUsageWithBookPinLaw" (44 : Nat) "[--set KEY=VALUE]... ").before a0 Z = true := G.1 _ (List.mem_of_getElem? (i := 229) rfl)
theorem w230 {Z : State} {a0 : Array Value} {zC : Int32} {fS : Value} {bO : Addr} {bN : Addr} {bA : Addr} (G : Gl Z a0 zC fS bO bN bA) : (Jvm.Cond.stringLink "com/example/compendio/compendio/cli/ArgumentsUsageWithBookPinLaw" (46 : Nat) "<term file>").before a0 Z = true := G.1 _ (List.mem_of_getElem? (i := 230) rfl)
theorem w231 {Z : State} {a0 : Array Value} {zC : Int32} {fS : Value} {bO : Addr} {bN : Addr} {bA : Addr} (G : Gl Z a0 zC fS bO bN bA) : (Jvm.Cond.stringLink "com/example/compendio/compendio/cli/ArgumentsUsageWithBookPinLaw" (48 : Nat) "\n       ").before a0 Z = true := G.1 _ (List.mem_of_getElem? (i := 231) rfl)
theorem w232 {Z : State} {a0 : Array Value} {zC : Int32} {fS : Value} {bO : Addr} {bN : Addr} {bA : Addr} (G : Gl Z a0 zC fS bO bN bA) : (Jvm.Cond.stringLink "com/example/compendio/compendio/cli/ArgumentsUsageWithBookPinLaw" (50 : Nat) "java -jar ").before a0 Z = true := G.1 _ (List.mem_of_getElem? (i := 232) rfl)
theorem w233 {Z : State} {a0 : Array Value} {zC : Int32} {fS : Value} {bO : Addr} {bN : Addr} {bA : Addr} (G : Gl Z a0 zC fS bO bN bA) : (Jvm.Cond.stringLink "com/example/compendio/compendio/cli/ArgumentsUsageWithBookPinLaw" (52 : Nat) "--book <directory>\n\n").before a0 Z = true := G.1 _ (List.mem_of_getElem? (i := 233) rfl)
theorem w234 {Z : State} {a0 : Array Value} {zC : Int32} {fS : Value} {bO : Addr} {bN : Addr} {bA : Addr} (G : Gl Z a0 zC fS bO bN bA) : (Jvm.Cond.methodLink "com/example/compendio/compendio/cli/ArgumentsUsageWithBookPinLaw" (56 : Nat) ({ cls := "java/lang/String", name := "valueOf", desc := "(C)Ljava/lang/String;" } : Jvm.MethodName)).before a0 Z = true := G.1 _ (List.mem_of_getElem? (i := 234) rfl)
theorem w235 {Z : State} {a0 : Array Value} {zC : Int32} {fS : Value} {bO : Addr} {bN : Addr} {bA : Addr} (G : Gl Z a0 zC fS bO bN bA) : (Jvm.Cond.static ({ cls := "java/lang/String", name := "valueOf", desc := "(C)Ljava/lang/String;" } : Jvm.MethodName)).before a0 Z = true := G.1 _ (List.mem_of_getElem? (i := 235) rfl)
theorem w236 {Z : State} {a0 : Array Value} {zC : Int32} {fS : Value} {bO : Addr} {bN : Addr} {bA : Addr} (G : Gl Z a0 zC fS bO bN bA) : (Jvm.Cond.code ({ cls := "java/lang/String", name := "valueOf", desc := "(C)Ljava/lang/String;" } : Jvm.MethodName) jdk_42_method_139_code (1 : Nat) (Option.some (Jvm.ClassFile.FieldType.object "java/lang/String"))).before a0 Z = true := G.1 _ (List.mem_of_getElem? (i := 236) rfl)
theorem w237 {Z : State} {a0 : Array Value} {zC : Int32} {fS : Value} {bO : Addr} {bN : Addr} {bA : Addr} (G : Gl Z a0 zC fS bO bN bA) : (Jvm.Cond.methodLink "java/lang/String" (1015 : Nat) ({ cls := "java/lang/StringLatin1", name := "canEncode", desc := "(C)Z" } : Jvm.MethodName)).before a0 Z = true := G.1 _ (List.mem_of_getElem? (i := 237) rfl)
theorem w238 {Z : State} {a0 : Array Value} {zC : Int32} {fS : Value} {bO : Addr} {bN : Addr} {bA : Addr} (G : Gl Z a0 zC fS bO bN bA) : (Jvm.Cond.static ({ cls := "java/lang/StringLatin1", name := "canEncode", desc := "(C)Z" } : Jvm.MethodName)).before a0 Z = true := G.1 _ (List.mem_of_getElem? (i := 238) rfl)
theorem w239 {Z : State} {a0 : Array Value} {zC : Int32} {fS : Value} {bO : Addr} {bN : Addr} {bA : Addr} (G : Gl Z a0 zC fS bO bN bA) : (Jvm.Cond.code ({ cls := "java/lang/StringLatin1", name := "canEncode", desc := "(C)Z" } : Jvm.MethodName) jdk_43_method_3_code (1 : Nat) (Option.some Jvm.ClassFile.FieldType.boolean)).before a0 Z = true := G.1 _ (List.mem_of_getElem? (i := 239) rfl)
theorem w240 {Z : State} {a0 : Array Value} {zC : Int32} {fS : Value} {bO : Addr} {bN : Addr} {bA : Addr} (G : Gl Z a0 zC fS bO bN bA) : (Jvm.Cond.classLink "java/lang/String" (10 : Nat) "java/lang/String").before a0 Z = true := G.1 _ (List.mem_of_getElem? (i := 240) rfl)
theorem w241 {Z : State} {a0 : Array Value} {zC : Int32} {fS : Value} {bO : Addr} {bN : Addr} {bA : Addr} (G : Gl Z a0 zC fS bO bN bA) : (Jvm.Cond.methodLink "java/lang/String" (1018 : Nat) ({ cls := "java/lang/StringLatin1", name := "toBytes", desc := "(C)[B" } : Jvm.MethodName)).before a0 Z = true := G.1 _ (List.mem_of_getElem? (i := 241) rfl)
theorem w242 {Z : State} {a0 : Array Value} {zC : Int32} {fS : Value} {bO : Addr} {bN : Addr} {bA : Addr} (G : Gl Z a0 zC fS bO bN bA) : (Jvm.Cond.static ({ cls := "java/lang/StringLatin1", name := "toBytes", desc := "(C)[B" } : Jvm.MethodName)).before a0 Z = true := G.1 _ (List.mem_of_getElem? (i := 242) rfl)
theorem w243 {Z : State} {a0 : Array Value} {zC : Int32} {fS : Value} {bO : Addr} {bN : Addr} {bA : Addr} (G : Gl Z a0 zC fS bO bN bA) : (Jvm.Cond.code ({ cls := "java/lang/StringLatin1", name := "toBytes", desc := "(C)[B" } : Jvm.MethodName) jdk_43_method_46_code (1 : Nat) (Option.some (Jvm.ClassFile.FieldType.array Jvm.ClassFile.FieldType.byte))).before a0 Z = true := G.1 _ (List.mem_of_getElem? (i := 243) rfl)
theorem w244 {Z : State} {a0 : Array Value} {zC : Int32} {fS : Value} {bO : Addr} {bN : Addr} {bA : Addr} (G : Gl Z a0 zC fS bO bN bA) : (Jvm.Cond.methodLink "java/lang/String" (209 : Nat) ({ cls := "java/lang/String", name := "<init>", desc := "([BB)V" } : Jvm.MethodName)).before a0 Z = true := G.1 _ (List.mem_of_getElem? (i := 244) rfl)
theorem w245 {Z : State} {a0 : Array Value} {zC : Int32} {fS : Value} {bO : Addr} {bN : Addr} {bA : Addr} (G : Gl Z a0 zC fS bO bN bA) : (Jvm.Cond.instanceMethod ({ cls := "java/lang/String", name := "<init>", desc := "([BB)V" } : Jvm.MethodName)).before a0 Z = true := G.1 _ (List.mem_of_getElem? (i := 245) rfl)
theorem w246 {Z : State} {a0 : Array Value} {zC : Int32} {fS : Value} {bO : Addr} {bN : Addr} {bA : Addr} (G : Gl Z a0 zC fS bO bN bA) : (Jvm.Cond.code ({ cls := "java/lang/String", name := "<init>", desc := "([BB)V" } : Jvm.MethodName) jdk_42_method_151_code (3 : Nat) (Option.none : Option Jvm.ClassFile.FieldType)).before a0 Z = true := G.1 _ (List.mem_of_getElem? (i := 246) rfl)
theorem watoms {Z : State} {a0 : Array Value} {zC : Int32} {fS : Value} {bO : Addr} {bN : Addr} {bA : Addr} (G : Gl Z a0 zC fS bO bN bA) : ∀ a ∈ Bundle.stringAtoms, a.before a0 Z = true := fun d hd => by
  simp only [Bundle.stringAtoms, List.mem_cons, List.not_mem_nil, or_false] at hd
  rcases hd with rfl | rfl | rfl | rfl | rfl | rfl | rfl
  · exact (w6 G)
  · exact (w5 G)
  · exact (w23 G)
  · exact (w33 G)
  · exact (w31 G)
  · exact (w35 G)
  · exact (w36 G)
theorem d_jdk_52_m21_3 : decode jdk_52_method_21_code 3 = .ok (.iload 5, 2) := by decide +kernel
theorem d_jdk_52_m21_5 : decode jdk_52_method_21_code 5 = .ok (.iload 4, 2) := by decide +kernel
theorem d_jdk_52_m21_7 : decode jdk_52_method_21_code 7 = .ok (.if_icmp .ge 37, 3) := by decide +kernel
theorem d_jdk_52_m21_44 : decode jdk_52_method_21_code 44 = .ok (.iload 4, 2) := by decide +kernel
theorem d_jdk_52_m21_46 : decode jdk_52_method_21_code 46 = .ok (.ireturn, 1) := by decide +kernel
theorem d_jdk_52_m21_10 : decode jdk_52_method_21_code 10 = .ok (.aload_n 0, 1) := by decide +kernel
theorem d_jdk_52_m21_11 : decode jdk_52_method_21_code 11 = .ok (.iload_n 1, 1) := by decide +kernel
theorem d_jdk_52_m21_12 : decode jdk_52_method_21_code 12 = .ok (.caload, 1) := by decide +kernel
theorem d_jdk_52_m21_13 : decode jdk_52_method_21_code 13 = .ok (.istore 6, 2) := by decide +kernel
theorem d_jdk_52_m21_15 : decode jdk_52_method_21_code 15 = .ok (.iload 6, 2) := by decide +kernel
theorem d_jdk_52_m21_17 : decode jdk_52_method_21_code 17 = .ok (.sipush 255, 3) := by decide +kernel
theorem d_jdk_52_m21_20 : decode jdk_52_method_21_code 20 = .ok (.if_icmp .le 6, 3) := by decide +kernel
theorem d_jdk_52_m21_26 : decode jdk_52_method_21_code 26 = .ok (.aload_n 2, 1) := by decide +kernel
theorem d_jdk_52_m21_27 : decode jdk_52_method_21_code 27 = .ok (.iload_n 3, 1) := by decide +kernel
theorem d_jdk_52_m21_28 : decode jdk_52_method_21_code 28 = .ok (.iload 6, 2) := by decide +kernel
theorem d_jdk_52_m21_30 : decode jdk_52_method_21_code 30 = .ok (.i2b, 1) := by decide +kernel
theorem d_jdk_52_m21_31 : decode jdk_52_method_21_code 31 = .ok (.bastore, 1) := by decide +kernel
theorem d_jdk_52_m21_32 : decode jdk_52_method_21_code 32 = .ok (.iinc 1 1, 3) := by decide +kernel
theorem d_jdk_52_m21_35 : decode jdk_52_method_21_code 35 = .ok (.iinc 3 1, 3) := by decide +kernel
theorem d_jdk_52_m21_38 : decode jdk_52_method_21_code 38 = .ok (.iinc 5 1, 3) := by decide +kernel
theorem d_jdk_52_m21_41 : decode jdk_52_method_21_code 41 = .ok (.goto (-38), 3) := by decide +kernel
theorem d_jdk_52_m21_0 : decode jdk_52_method_21_code 0 = .ok (.iconst 0, 1) := by decide +kernel
theorem d_jdk_52_m21_1 : decode jdk_52_method_21_code 1 = .ok (.istore 5, 2) := by decide +kernel
theorem pn0 : plainName "java/lang/StringUTF16" = true := by first | (simp [plainName, overriddenIn]; done) | decide +kernel
theorem d_jdk_52_m15_0 : decode jdk_52_method_15_code 0 = .ok (.iload_n 1, 1) := by decide +kernel
theorem d_jdk_52_m15_1 : decode jdk_52_method_15_code 1 = .ok (.aload_n 0, 1) := by decide +kernel
theorem d_jdk_52_m15_2 : decode jdk_52_method_15_code 2 = .ok (.arraylength, 1) := by decide +kernel
theorem d_jdk_52_m15_3 : decode jdk_52_method_15_code 3 = .ok (.isub, 1) := by decide +kernel
theorem d_jdk_52_m15_4 : decode jdk_52_method_15_code 4 = .ok (.bipush 31, 2) := by decide +kernel
theorem d_jdk_52_m15_6 : decode jdk_52_method_15_code 6 = .ok (.iushr, 1) := by decide +kernel
theorem d_jdk_52_m15_7 : decode jdk_52_method_15_code 7 = .ok (.i2b, 1) := by decide +kernel
theorem d_jdk_52_m15_8 : decode jdk_52_method_15_code 8 = .ok (.ireturn, 1) := by decide +kernel
theorem d_jdk_52_m16_0 : decode jdk_52_method_16_code 0 = .ok (.iload_n 2, 1) := by decide +kernel
theorem d_jdk_52_m16_1 : decode jdk_52_method_16_code 1 = .ok (.newarray .byte, 2) := by decide +kernel
theorem d_jdk_52_m16_3 : decode jdk_52_method_16_code 3 = .ok (.astore_n 3, 1) := by decide +kernel
theorem d_jdk_52_m16_4 : decode jdk_52_method_16_code 4 = .ok (.aload_n 0, 1) := by decide +kernel
theorem d_jdk_52_m16_5 : decode jdk_52_method_16_code 5 = .ok (.iload_n 1, 1) := by decide +kernel
theorem d_jdk_52_m16_6 : decode jdk_52_method_16_code 6 = .ok (.aload_n 3, 1) := by decide +kernel
theorem d_jdk_52_m16_7 : decode jdk_52_method_16_code 7 = .ok (.iconst 0, 1) := by decide +kernel
theorem d_jdk_52_m16_8 : decode jdk_52_method_16_code 8 = .ok (.iload_n 2, 1) := by decide +kernel
theorem d_jdk_52_m16_9 : decode jdk_52_method_16_code 9 = .ok (.invokestatic 115, 3) := by decide +kernel
theorem pd1 : parseMethodDescriptor "([CI[BII)I" = some ⟨[(.array .char), .int, (.array .byte), .int, .int], some .int⟩ := by decide +kernel
theorem d_jdk_52_m16_12 : decode jdk_52_method_16_code 12 = .ok (.istore 4, 2) := by decide +kernel
theorem d_jdk_52_m16_14 : decode jdk_52_method_16_code 14 = .ok (.iload 4, 2) := by decide +kernel
theorem d_jdk_52_m16_16 : decode jdk_52_method_16_code 16 = .ok (.iload_n 2, 1) := by decide +kernel
theorem d_jdk_52_m16_17 : decode jdk_52_method_16_code 17 = .ok (.if_icmp .eq 40, 3) := by decide +kernel
theorem d_jdk_52_m16_57 : decode jdk_52_method_16_code 57 = .ok (.aload_n 3, 1) := by decide +kernel
theorem d_jdk_52_m16_58 : decode jdk_52_method_16_code 58 = .ok (.areturn, 1) := by decide +kernel
theorem d_jdk_42_m149_0 : decode jdk_42_method_149_code 0 = .ok (.aload_n 0, 1) := by decide +kernel
theorem d_jdk_42_m149_1 : decode jdk_42_method_149_code 1 = .ok (.invokespecial 1, 3) := by decide +kernel
theorem d_jdk_42_m149_4 : decode jdk_42_method_149_code 4 = .ok (.iload_n 3, 1) := by decide +kernel
theorem d_jdk_42_m149_5 : decode jdk_42_method_149_code 5 = .ok (.ifCond .ne 22, 3) := by decide +kernel
theorem d_jdk_42_m149_27 : decode jdk_42_method_149_code 27 = .ok (.getstatic 38, 3) := by decide +kernel
theorem d_jdk_42_m149_30 : decode jdk_42_method_149_code 30 = .ok (.ifCond .eq 28, 3) := by decide +kernel
theorem d_jdk_42_m149_33 : decode jdk_42_method_149_code 33 = .ok (.aload_n 1, 1) := by decide +kernel
theorem d_jdk_42_m149_34 : decode jdk_42_method_149_code 34 = .ok (.iload_n 2, 1) := by decide +kernel
theorem d_jdk_42_m149_35 : decode jdk_42_method_149_code 35 = .ok (.iload_n 3, 1) := by decide +kernel
theorem d_jdk_42_m149_36 : decode jdk_42_method_149_code 36 = .ok (.invokestatic 177, 3) := by decide +kernel
theorem pd2 : parseMethodDescriptor "([CII)[B" = some ⟨[(.array .char), .int, .int], some (.array .byte)⟩ := by decide +kernel
theorem d_jdk_42_m149_39 : decode jdk_42_method_149_code 39 = .ok (.astore 5, 2) := by decide +kernel
theorem d_jdk_42_m149_41 : decode jdk_42_method_149_code 41 = .ok (.aload_n 0, 1) := by decide +kernel
theorem d_jdk_42_m149_42 : decode jdk_42_method_149_code 42 = .ok (.aload 5, 2) := by decide +kernel
theorem d_jdk_42_m149_44 : decode jdk_42_method_149_code 44 = .ok (.iload_n 3, 1) := by decide +kernel
theorem d_jdk_42_m149_45 : decode jdk_42_method_149_code 45 = .ok (.invokestatic 47, 3) := by decide +kernel
theorem pd3 : parseMethodDescriptor "([BI)B" = some ⟨[(.array .byte), .int], some .byte⟩ := by decide +kernel
theorem d_jdk_42_m149_48 : decode jdk_42_method_149_code 48 = .ok (.putfield 15, 3) := by decide +kernel
theorem d_jdk_42_m149_51 : decode jdk_42_method_149_code 51 = .ok (.aload_n 0, 1) := by decide +kernel
theorem d_jdk_42_m149_52 : decode jdk_42_method_149_code 52 = .ok (.aload 5, 2) := by decide +kernel
theorem d_jdk_42_m149_54 : decode jdk_42_method_149_code 54 = .ok (.putfield 9, 3) := by decide +kernel
theorem d_jdk_42_m149_57 : decode jdk_42_method_149_code 57 = .ok (.return_, 1) := by decide +kernel
theorem pn4 : plainName "java/lang/String" = true := by first | (simp [plainName, overriddenIn]; done) | decide +kernel
theorem d_jdk_42_m3_0 : decode jdk_42_method_3_code 0 = .ok (.aload_n 0, 1) := by decide +kernel
theorem d_jdk_42_m3_1 : decode jdk_42_method_3_code 1 = .ok (.aload_n 1, 1) := by decide +kernel
theorem d_jdk_42_m3_2 : decode jdk_42_method_3_code 2 = .ok (.iconst 0, 1) := by decide +kernel
theorem d_jdk_42_m3_3 : decode jdk_42_method_3_code 3 = .ok (.aload_n 1, 1) := by decide +kernel
theorem d_jdk_42_m3_4 : decode jdk_42_method_3_code 4 = .ok (.arraylength, 1) := by decide +kernel
theorem d_jdk_42_m3_5 : decode jdk_42_method_3_code 5 = .ok (.aconst_null, 1) := by decide +kernel
theorem d_jdk_42_m3_6 : decode jdk_42_method_3_code 6 = .ok (.invokespecial 27, 3) := by decide +kernel
theorem pd5 : parseMethodDescriptor "([CIILjava/lang/Void;)V" = some ⟨[(.array .char), .int, .int, (.object "java/lang/Void")], none⟩ := by decide +kernel
theorem d_jdk_42_m3_9 : decode jdk_42_method_3_code 9 = .ok (.return_, 1) := by decide +kernel
theorem d_jdk_42_m152_0 : decode jdk_42_method_152_code 0 = .ok (.getstatic 38, 3) := by decide +kernel
theorem d_jdk_42_m152_3 : decode jdk_42_method_152_code 3 = .ok (.ifCond .eq 10, 3) := by decide +kernel
theorem d_jdk_42_m152_6 : decode jdk_42_method_152_code 6 = .ok (.aload_n 0, 1) := by decide +kernel
theorem d_jdk_42_m152_7 : decode jdk_42_method_152_code 7 = .ok (.getfield 15, 3) := by decide +kernel
theorem d_jdk_42_m152_10 : decode jdk_42_method_152_code 10 = .ok (.goto 4, 3) := by decide +kernel
theorem d_jdk_42_m152_14 : decode jdk_42_method_152_code 14 = .ok (.ireturn, 1) := by decide +kernel
theorem d_jdk_42_m54_0 : decode jdk_42_method_54_code 0 = .ok (.aload_n 0, 1) := by decide +kernel
theorem d_jdk_42_m54_1 : decode jdk_42_method_54_code 1 = .ok (.getfield 9, 3) := by decide +kernel
theorem d_jdk_42_m54_4 : decode jdk_42_method_54_code 4 = .ok (.arraylength, 1) := by decide +kernel
theorem d_jdk_42_m54_5 : decode jdk_42_method_54_code 5 = .ok (.aload_n 0, 1) := by decide +kernel
theorem d_jdk_42_m54_6 : decode jdk_42_method_54_code 6 = .ok (.invokevirtual 335, 3) := by decide +kernel
theorem pd6 : parseMethodDescriptor "()B" = some ⟨[], some .byte⟩ := by decide +kernel
theorem d_jdk_42_m54_9 : decode jdk_42_method_54_code 9 = .ok (.ishr, 1) := by decide +kernel
theorem d_jdk_42_m54_10 : decode jdk_42_method_54_code 10 = .ok (.ireturn, 1) := by decide +kernel
theorem d_jdk_42_m154_0 : decode jdk_42_method_154_code 0 = .ok (.getstatic 38, 3) := by decide +kernel
theorem d_jdk_42_m154_3 : decode jdk_42_method_154_code 3 = .ok (.ifCond .eq 14, 3) := by decide +kernel
theorem d_jdk_42_m154_6 : decode jdk_42_method_154_code 6 = .ok (.aload_n 0, 1) := by decide +kernel
theorem d_jdk_42_m154_7 : decode jdk_42_method_154_code 7 = .ok (.getfield 15, 3) := by decide +kernel
theorem d_jdk_42_m154_10 : decode jdk_42_method_154_code 10 = .ok (.ifCond .ne 7, 3) := by decide +kernel
theorem d_jdk_42_m154_13 : decode jdk_42_method_154_code 13 = .ok (.iconst 1, 1) := by decide +kernel
theorem d_jdk_42_m154_14 : decode jdk_42_method_154_code 14 = .ok (.goto 4, 3) := by decide +kernel
theorem d_jdk_42_m154_18 : decode jdk_42_method_154_code 18 = .ok (.ireturn, 1) := by decide +kernel
theorem d_jdk_41_m11_0 : decode jdk_41_method_11_code 0 = .ok (.iload_n 0, 1) := by decide +kernel
theorem d_jdk_41_m11_1 : decode jdk_41_method_11_code 1 = .ok (.ifCond .lt 8, 3) := by decide +kernel
theorem d_jdk_41_m11_4 : decode jdk_41_method_11_code 4 = .ok (.iload_n 0, 1) := by decide +kernel
theorem d_jdk_41_m11_5 : decode jdk_41_method_11_code 5 = .ok (.iload_n 1, 1) := by decide +kernel
theorem d_jdk_41_m11_6 : decode jdk_41_method_11_code 6 = .ok (.if_icmp .lt 10, 3) := by decide +kernel
theorem d_jdk_41_m11_16 : decode jdk_41_method_11_code 16 = .ok (.iload_n 0, 1) := by decide +kernel
theorem d_jdk_41_m11_17 : decode jdk_41_method_11_code 17 = .ok (.ireturn, 1) := by decide +kernel
theorem pn7 : plainName "jdk/internal/util/Preconditions" = true := by first | (simp [plainName, overriddenIn]; done) | decide +kernel
theorem d_jdk_42_m155_0 : decode jdk_42_method_155_code 0 = .ok (.iload_n 0, 1) := by decide +kernel
theorem d_jdk_42_m155_1 : decode jdk_42_method_155_code 1 = .ok (.iload_n 1, 1) := by decide +kernel
theorem d_jdk_42_m155_2 : decode jdk_42_method_155_code 2 = .ok (.getstatic 1053, 3) := by decide +kernel
theorem d_jdk_42_m155_5 : decode jdk_42_method_155_code 5 = .ok (.invokestatic 1059, 3) := by decide +kernel
theorem pd8 : parseMethodDescriptor "(IILjava/util/function/BiFunction;)I" = some ⟨[.int, .int, (.object "java/util/function/BiFunction")], some .int⟩ := by decide +kernel
theorem d_jdk_42_m155_8 : decode jdk_42_method_155_code 8 = .ok (.pop, 1) := by decide +kernel
theorem d_jdk_42_m155_9 : decode jdk_42_method_155_code 9 = .ok (.return_, 1) := by decide +kernel
theorem d_jdk_43_m2_0 : decode jdk_43_method_2_code 0 = .ok (.iload_n 1, 1) := by decide +kernel
theorem d_jdk_43_m2_1 : decode jdk_43_method_2_code 1 = .ok (.aload_n 0, 1) := by decide +kernel
theorem d_jdk_43_m2_2 : decode jdk_43_method_2_code 2 = .ok (.arraylength, 1) := by decide +kernel
theorem d_jdk_43_m2_3 : decode jdk_43_method_2_code 3 = .ok (.invokestatic 9, 3) := by decide +kernel
theorem pd9 : parseMethodDescriptor "(II)V" = some ⟨[.int, .int], none⟩ := by decide +kernel
theorem d_jdk_43_m2_6 : decode jdk_43_method_2_code 6 = .ok (.aload_n 0, 1) := by decide +kernel
theorem d_jdk_43_m2_7 : decode jdk_43_method_2_code 7 = .ok (.iload_n 1, 1) := by decide +kernel
theorem d_jdk_43_m2_8 : decode jdk_43_method_2_code 8 = .ok (.baload, 1) := by decide +kernel
theorem d_jdk_43_m2_9 : decode jdk_43_method_2_code 9 = .ok (.sipush 255, 3) := by decide +kernel
theorem d_jdk_43_m2_12 : decode jdk_43_method_2_code 12 = .ok (.iand, 1) := by decide +kernel
theorem d_jdk_43_m2_13 : decode jdk_43_method_2_code 13 = .ok (.i2c, 1) := by decide +kernel
theorem d_jdk_43_m2_14 : decode jdk_43_method_2_code 14 = .ok (.ireturn, 1) := by decide +kernel
theorem pn10 : plainName "java/lang/StringLatin1" = true := by first | (simp [plainName, overriddenIn]; done) | decide +kernel
theorem d_jdk_42_m56_0 : decode jdk_42_method_56_code 0 = .ok (.aload_n 0, 1) := by decide +kernel
theorem d_jdk_42_m56_1 : decode jdk_42_method_56_code 1 = .ok (.invokevirtual 492, 3) := by decide +kernel
theorem pd11 : parseMethodDescriptor "()Z" = some ⟨[], some .boolean⟩ := by decide +kernel
theorem d_jdk_42_m56_4 : decode jdk_42_method_56_code 4 = .ok (.ifCond .eq 12, 3) := by decide +kernel
theorem d_jdk_42_m56_7 : decode jdk_42_method_56_code 7 = .ok (.aload_n 0, 1) := by decide +kernel
theorem d_jdk_42_m56_8 : decode jdk_42_method_56_code 8 = .ok (.getfield 9, 3) := by decide +kernel
theorem d_jdk_42_m56_11 : decode jdk_42_method_56_code 11 = .ok (.iload_n 1, 1) := by decide +kernel
theorem d_jdk_42_m56_12 : decode jdk_42_method_56_code 12 = .ok (.invokestatic 495, 3) := by decide +kernel
theorem pd12 : parseMethodDescriptor "([BI)C" = some ⟨[(.array .byte), .int], some .char⟩ := by decide +kernel
theorem d_jdk_42_m56_15 : decode jdk_42_method_56_code 15 = .ok (.ireturn, 1) := by decide +kernel
theorem d_jdk_42_m55_0 : decode jdk_42_method_55_code 0 = .ok (.aload_n 0, 1) := by decide +kernel
theorem d_jdk_42_m55_1 : decode jdk_42_method_55_code 1 = .ok (.getfield 9, 3) := by decide +kernel
theorem d_jdk_42_m55_4 : decode jdk_42_method_55_code 4 = .ok (.arraylength, 1) := by decide +kernel
theorem d_jdk_42_m55_5 : decode jdk_42_method_55_code 5 = .ok (.ifCond .ne 7, 3) := by decide +kernel
theorem d_jdk_42_m55_8 : decode jdk_42_method_55_code 8 = .ok (.iconst 1, 1) := by decide +kernel
theorem d_jdk_42_m55_9 : decode jdk_42_method_55_code 9 = .ok (.goto 4, 3) := by decide +kernel
theorem d_jdk_42_m55_13 : decode jdk_42_method_55_code 13 = .ok (.ireturn, 1) := by decide +kernel
theorem d_jdk_42_m55_12 : decode jdk_42_method_55_code 12 = .ok (.iconst 0, 1) := by decide +kernel
theorem d_jdk_29_m65_0 : decode jdk_29_method_65_code 0 = .ok (.iload_n 0, 1) := by decide +kernel
theorem d_jdk_29_m65_1 : decode jdk_29_method_65_code 1 = .ok (.iload_n 1, 1) := by decide +kernel
theorem d_jdk_29_m65_2 : decode jdk_29_method_65_code 2 = .ok (.if_icmp .lt 7, 3) := by decide +kernel
theorem d_jdk_29_m65_9 : decode jdk_29_method_65_code 9 = .ok (.iload_n 1, 1) := by decide +kernel
theorem d_jdk_29_m65_10 : decode jdk_29_method_65_code 10 = .ok (.ireturn, 1) := by decide +kernel
theorem d_jdk_29_m65_5 : decode jdk_29_method_65_code 5 = .ok (.iload_n 0, 1) := by decide +kernel
theorem d_jdk_29_m65_6 : decode jdk_29_method_65_code 6 = .ok (.goto 4, 3) := by decide +kernel
theorem pn13 : plainFor (⟨"java/lang/Math", "max", "(II)I"⟩ : MethodName) = true := by decide +kernel
theorem d_jdk_29_m69_0 : decode jdk_29_method_69_code 0 = .ok (.iload_n 0, 1) := by decide +kernel
theorem d_jdk_29_m69_1 : decode jdk_29_method_69_code 1 = .ok (.iload_n 1, 1) := by decide +kernel
theorem d_jdk_29_m69_2 : decode jdk_29_method_69_code 2 = .ok (.if_icmp .gt 7, 3) := by decide +kernel
theorem d_jdk_29_m69_9 : decode jdk_29_method_69_code 9 = .ok (.iload_n 1, 1) := by decide +kernel
theorem d_jdk_29_m69_10 : decode jdk_29_method_69_code 10 = .ok (.ireturn, 1) := by decide +kernel
theorem d_jdk_29_m69_5 : decode jdk_29_method_69_code 5 = .ok (.iload_n 0, 1) := by decide +kernel
theorem d_jdk_29_m69_6 : decode jdk_29_method_69_code 6 = .ok (.goto 4, 3) := by decide +kernel
theorem pn14 : plainFor (⟨"java/lang/Math", "min", "(II)I"⟩ : MethodName) = true := by decide +kernel
theorem d_jdk_65_m121_0 : decode jdk_65_method_121_code 0 = .ok (.iload_n 1, 1) := by decide +kernel
theorem d_jdk_65_m121_1 : decode jdk_65_method_121_code 1 = .ok (.aload_n 0, 1) := by decide +kernel
theorem d_jdk_65_m121_2 : decode jdk_65_method_121_code 2 = .ok (.arraylength, 1) := by decide +kernel
theorem d_jdk_65_m121_3 : decode jdk_65_method_121_code 3 = .ok (.if_icmp .ne 11, 3) := by decide +kernel
theorem d_jdk_65_m121_14 : decode jdk_65_method_121_code 14 = .ok (.iload_n 1, 1) := by decide +kernel
theorem d_jdk_65_m121_15 : decode jdk_65_method_121_code 15 = .ok (.newarray .byte, 2) := by decide +kernel
theorem d_jdk_65_m121_17 : decode jdk_65_method_121_code 17 = .ok (.astore_n 2, 1) := by decide +kernel
theorem d_jdk_65_m121_18 : decode jdk_65_method_121_code 18 = .ok (.aload_n 0, 1) := by decide +kernel
theorem d_jdk_65_m121_19 : decode jdk_65_method_121_code 19 = .ok (.iconst 0, 1) := by decide +kernel
theorem d_jdk_65_m121_20 : decode jdk_65_method_121_code 20 = .ok (.aload_n 2, 1) := by decide +kernel
theorem d_jdk_65_m121_21 : decode jdk_65_method_121_code 21 = .ok (.iconst 0, 1) := by decide +kernel
theorem d_jdk_65_m121_22 : decode jdk_65_method_121_code 22 = .ok (.aload_n 0, 1) := by decide +kernel
theorem d_jdk_65_m121_23 : decode jdk_65_method_121_code 23 = .ok (.arraylength, 1) := by decide +kernel
theorem d_jdk_65_m121_24 : decode jdk_65_method_121_code 24 = .ok (.iload_n 1, 1) := by decide +kernel
theorem d_jdk_65_m121_25 : decode jdk_65_method_121_code 25 = .ok (.invokestatic 304, 3) := by decide +kernel
theorem pd15 : parseMethodDescriptor "(II)I" = some ⟨[.int, .int], some .int⟩ := by decide +kernel
theorem d_jdk_65_m121_28 : decode jdk_65_method_121_code 28 = .ok (.invokestatic 150, 3) := by decide +kernel
theorem d_jdk_65_m121_31 : decode jdk_65_method_121_code 31 = .ok (.aload_n 2, 1) := by decide +kernel
theorem d_jdk_65_m121_32 : decode jdk_65_method_121_code 32 = .ok (.areturn, 1) := by decide +kernel
theorem pn16 : plainName "java/util/Arrays" = true := by first | (simp [plainName, overriddenIn]; done) | decide +kernel
theorem d_jdk_48_m27_0 : decode jdk_48_method_27_code 0 = .ok (.iload_n 0, 1) := by decide +kernel
theorem d_jdk_48_m27_1 : decode jdk_48_method_27_code 1 = .ok (.iload_n 1, 1) := by decide +kernel
theorem d_jdk_48_m27_2 : decode jdk_48_method_27_code 2 = .ok (.iload_n 2, 1) := by decide +kernel
theorem d_jdk_48_m27_3 : decode jdk_48_method_27_code 3 = .ok (.invokestatic 194, 3) := by decide +kernel
theorem d_jdk_48_m27_6 : decode jdk_48_method_27_code 6 = .ok (.iadd, 1) := by decide +kernel
theorem d_jdk_48_m27_7 : decode jdk_48_method_27_code 7 = .ok (.istore_n 3, 1) := by decide +kernel
theorem d_jdk_48_m27_8 : decode jdk_48_method_27_code 8 = .ok (.iconst 0, 1) := by decide +kernel
theorem d_jdk_48_m27_9 : decode jdk_48_method_27_code 9 = .ok (.iload_n 3, 1) := by decide +kernel
theorem d_jdk_48_m27_10 : decode jdk_48_method_27_code 10 = .ok (.if_icmp .ge 11, 3) := by decide +kernel
theorem d_jdk_48_m27_13 : decode jdk_48_method_27_code 13 = .ok (.iload_n 3, 1) := by decide +kernel
theorem d_jdk_48_m27_14 : decode jdk_48_method_27_code 14 = .ok (.ldc 200, 2) := by decide +kernel
theorem d_jdk_48_m27_16 : decode jdk_48_method_27_code 16 = .ok (.if_icmp .gt 5, 3) := by decide +kernel
theorem d_jdk_48_m27_19 : decode jdk_48_method_27_code 19 = .ok (.iload_n 3, 1) := by decide +kernel
theorem d_jdk_48_m27_20 : decode jdk_48_method_27_code 20 = .ok (.ireturn, 1) := by decide +kernel
theorem pn17 : plainName "jdk/internal/util/ArraysSupport" = true := by first | (simp [plainName, overriddenIn]; done) | decide +kernel
theorem d_jdk_68_m10_0 : decode jdk_68_method_10_code 0 = .ok (.aload_n 0, 1) := by decide +kernel
theorem d_jdk_68_m10_1 : decode jdk_68_method_10_code 1 = .ok (.getfield 15, 3) := by decide +kernel
theorem d_jdk_68_m10_4 : decode jdk_68_method_10_code 4 = .ok (.arraylength, 1) := by decide +kernel
theorem d_jdk_68_m10_5 : decode jdk_68_method_10_code 5 = .ok (.istore_n 2, 1) := by decide +kernel
theorem d_jdk_68_m10_6 : decode jdk_68_method_10_code 6 = .ok (.iload_n 1, 1) := by decide +kernel
theorem d_jdk_68_m10_7 : decode jdk_68_method_10_code 7 = .ok (.aload_n 0, 1) := by decide +kernel
theorem d_jdk_68_m10_8 : decode jdk_68_method_10_code 8 = .ok (.getfield 22, 3) := by decide +kernel
theorem d_jdk_68_m10_11 : decode jdk_68_method_10_code 11 = .ok (.ishl, 1) := by decide +kernel
theorem d_jdk_68_m10_12 : decode jdk_68_method_10_code 12 = .ok (.istore_n 3, 1) := by decide +kernel
theorem d_jdk_68_m10_13 : decode jdk_68_method_10_code 13 = .ok (.iload_n 3, 1) := by decide +kernel
theorem d_jdk_68_m10_14 : decode jdk_68_method_10_code 14 = .ok (.iload_n 2, 1) := by decide +kernel
theorem d_jdk_68_m10_15 : decode jdk_68_method_10_code 15 = .ok (.isub, 1) := by decide +kernel
theorem d_jdk_68_m10_16 : decode jdk_68_method_10_code 16 = .ok (.istore 4, 2) := by decide +kernel
theorem d_jdk_68_m10_18 : decode jdk_68_method_10_code 18 = .ok (.iload_n 2, 1) := by decide +kernel
theorem d_jdk_68_m10_19 : decode jdk_68_method_10_code 19 = .ok (.iload 4, 2) := by decide +kernel
theorem d_jdk_68_m10_21 : decode jdk_68_method_10_code 21 = .ok (.iload_n 2, 1) := by decide +kernel
theorem d_jdk_68_m10_22 : decode jdk_68_method_10_code 22 = .ok (.iconst 2, 1) := by decide +kernel
theorem d_jdk_68_m10_23 : decode jdk_68_method_10_code 23 = .ok (.aload_n 0, 1) := by decide +kernel
theorem d_jdk_68_m10_24 : decode jdk_68_method_10_code 24 = .ok (.getfield 22, 3) := by decide +kernel
theorem d_jdk_68_m10_27 : decode jdk_68_method_10_code 27 = .ok (.ishl, 1) := by decide +kernel
theorem d_jdk_68_m10_28 : decode jdk_68_method_10_code 28 = .ok (.iadd, 1) := by decide +kernel
theorem d_jdk_68_m10_29 : decode jdk_68_method_10_code 29 = .ok (.invokestatic 114, 3) := by decide +kernel
theorem pd18 : parseMethodDescriptor "(III)I" = some ⟨[.int, .int, .int], some .int⟩ := by decide +kernel
theorem d_jdk_68_m10_32 : decode jdk_68_method_10_code 32 = .ok (.istore 5, 2) := by decide +kernel
theorem d_jdk_68_m10_34 : decode jdk_68_method_10_code 34 = .ok (.iload 5, 2) := by decide +kernel
theorem d_jdk_68_m10_36 : decode jdk_68_method_10_code 36 = .ok (.ldc 39, 2) := by decide +kernel
theorem d_jdk_68_m10_38 : decode jdk_68_method_10_code 38 = .ok (.if_icmp .ne 13, 3) := by decide +kernel
theorem d_jdk_68_m10_51 : decode jdk_68_method_10_code 51 = .ok (.iload 5, 2) := by decide +kernel
theorem d_jdk_68_m10_53 : decode jdk_68_method_10_code 53 = .ok (.aload_n 0, 1) := by decide +kernel
theorem d_jdk_68_m10_54 : decode jdk_68_method_10_code 54 = .ok (.getfield 22, 3) := by decide +kernel
theorem d_jdk_68_m10_57 : decode jdk_68_method_10_code 57 = .ok (.ishr, 1) := by decide +kernel
theorem d_jdk_68_m10_58 : decode jdk_68_method_10_code 58 = .ok (.ireturn, 1) := by decide +kernel
theorem pn19 : plainName "java/lang/AbstractStringBuilder" = true := by first | (simp [plainName, overriddenIn]; done) | decide +kernel
theorem d_jdk_68_m9_0 : decode jdk_68_method_9_code 0 = .ok (.aload_n 0, 1) := by decide +kernel
theorem d_jdk_68_m9_1 : decode jdk_68_method_9_code 1 = .ok (.getfield 15, 3) := by decide +kernel
theorem d_jdk_68_m9_4 : decode jdk_68_method_9_code 4 = .ok (.arraylength, 1) := by decide +kernel
theorem d_jdk_68_m9_5 : decode jdk_68_method_9_code 5 = .ok (.aload_n 0, 1) := by decide +kernel
theorem d_jdk_68_m9_6 : decode jdk_68_method_9_code 6 = .ok (.getfield 22, 3) := by decide +kernel
theorem d_jdk_68_m9_9 : decode jdk_68_method_9_code 9 = .ok (.ishr, 1) := by decide +kernel
theorem d_jdk_68_m9_10 : decode jdk_68_method_9_code 10 = .ok (.istore_n 2, 1) := by decide +kernel
theorem d_jdk_68_m9_11 : decode jdk_68_method_9_code 11 = .ok (.iload_n 1, 1) := by decide +kernel
theorem d_jdk_68_m9_12 : decode jdk_68_method_9_code 12 = .ok (.iload_n 2, 1) := by decide +kernel
theorem d_jdk_68_m9_13 : decode jdk_68_method_9_code 13 = .ok (.isub, 1) := by decide +kernel
theorem d_jdk_68_m9_14 : decode jdk_68_method_9_code 14 = .ok (.ifCond .le 24, 3) := by decide +kernel
theorem d_jdk_68_m9_38 : decode jdk_68_method_9_code 38 = .ok (.return_, 1) := by decide +kernel
theorem d_jdk_68_m9_17 : decode jdk_68_method_9_code 17 = .ok (.aload_n 0, 1) := by decide +kernel
theorem d_jdk_68_m9_18 : decode jdk_68_method_9_code 18 = .ok (.aload_n 0, 1) := by decide +kernel
theorem d_jdk_68_m9_19 : decode jdk_68_method_9_code 19 = .ok (.getfield 15, 3) := by decide +kernel
theorem d_jdk_68_m9_22 : decode jdk_68_method_9_code 22 = .ok (.aload_n 0, 1) := by decide +kernel
theorem d_jdk_68_m9_23 : decode jdk_68_method_9_code 23 = .ok (.iload_n 1, 1) := by decide +kernel
theorem d_jdk_68_m9_24 : decode jdk_68_method_9_code 24 = .ok (.invokevirtual 104, 3) := by decide +kernel
theorem pd20 : parseMethodDescriptor "(I)I" = some ⟨[.int], some .int⟩ := by decide +kernel
theorem d_jdk_68_m9_27 : decode jdk_68_method_9_code 27 = .ok (.aload_n 0, 1) := by decide +kernel
theorem d_jdk_68_m9_28 : decode jdk_68_method_9_code 28 = .ok (.getfield 22, 3) := by decide +kernel
theorem d_jdk_68_m9_31 : decode jdk_68_method_9_code 31 = .ok (.ishl, 1) := by decide +kernel
theorem d_jdk_68_m9_32 : decode jdk_68_method_9_code 32 = .ok (.invokestatic 108, 3) := by decide +kernel
theorem pd21 : parseMethodDescriptor "([BI)[B" = some ⟨[(.array .byte), .int], some (.array .byte)⟩ := by decide +kernel
theorem d_jdk_68_m9_35 : decode jdk_68_method_9_code 35 = .ok (.putfield 15, 3) := by decide +kernel
theorem d_jdk_68_m71_0 : decode jdk_68_method_71_code 0 = .ok (.getstatic 18, 3) := by decide +kernel
theorem d_jdk_68_m71_3 : decode jdk_68_method_71_code 3 = .ok (.ifCond .eq 18, 3) := by decide +kernel
theorem d_jdk_68_m71_6 : decode jdk_68_method_71_code 6 = .ok (.aload_n 0, 1) := by decide +kernel
theorem d_jdk_68_m71_7 : decode jdk_68_method_71_code 7 = .ok (.getfield 22, 3) := by decide +kernel
theorem d_jdk_68_m71_10 : decode jdk_68_method_71_code 10 = .ok (.aload_n 1, 1) := by decide +kernel
theorem d_jdk_68_m71_11 : decode jdk_68_method_71_code 11 = .ok (.invokevirtual 40, 3) := by decide +kernel
theorem d_jdk_68_m71_14 : decode jdk_68_method_71_code 14 = .ok (.if_icmp .eq 7, 3) := by decide +kernel
theorem d_jdk_68_m71_21 : decode jdk_68_method_71_code 21 = .ok (.return_, 1) := by decide +kernel
theorem d_jdk_42_m147_0 : decode jdk_42_method_147_code 0 = .ok (.aload_n 0, 1) := by decide +kernel
theorem d_jdk_42_m147_1 : decode jdk_42_method_147_code 1 = .ok (.invokevirtual 335, 3) := by decide +kernel
theorem d_jdk_42_m147_4 : decode jdk_42_method_147_code 4 = .ok (.iload_n 3, 1) := by decide +kernel
theorem d_jdk_42_m147_5 : decode jdk_42_method_147_code 5 = .ok (.if_icmp .ne 23, 3) := by decide +kernel
theorem d_jdk_42_m147_8 : decode jdk_42_method_147_code 8 = .ok (.aload_n 0, 1) := by decide +kernel
theorem d_jdk_42_m147_9 : decode jdk_42_method_147_code 9 = .ok (.getfield 9, 3) := by decide +kernel
theorem d_jdk_42_m147_12 : decode jdk_42_method_147_code 12 = .ok (.iconst 0, 1) := by decide +kernel
theorem d_jdk_42_m147_13 : decode jdk_42_method_147_code 13 = .ok (.aload_n 1, 1) := by decide +kernel
theorem d_jdk_42_m147_14 : decode jdk_42_method_147_code 14 = .ok (.iload_n 2, 1) := by decide +kernel
theorem d_jdk_42_m147_15 : decode jdk_42_method_147_code 15 = .ok (.iload_n 3, 1) := by decide +kernel
theorem d_jdk_42_m147_16 : decode jdk_42_method_147_code 16 = .ok (.ishl, 1) := by decide +kernel
theorem d_jdk_42_m147_17 : decode jdk_42_method_147_code 17 = .ok (.aload_n 0, 1) := by decide +kernel
theorem d_jdk_42_m147_18 : decode jdk_42_method_147_code 18 = .ok (.getfield 9, 3) := by decide +kernel
theorem d_jdk_42_m147_21 : decode jdk_42_method_147_code 21 = .ok (.arraylength, 1) := by decide +kernel
theorem d_jdk_42_m147_22 : decode jdk_42_method_147_code 22 = .ok (.invokestatic 212, 3) := by decide +kernel
theorem d_jdk_42_m147_25 : decode jdk_42_method_147_code 25 = .ok (.goto 18, 3) := by decide +kernel
theorem d_jdk_42_m147_43 : decode jdk_42_method_147_code 43 = .ok (.return_, 1) := by decide +kernel
theorem d_jdk_68_m73_0 : decode jdk_68_method_73_code 0 = .ok (.aload_n 0, 1) := by decide +kernel
theorem d_jdk_68_m73_1 : decode jdk_68_method_73_code 1 = .ok (.aload_n 2, 1) := by decide +kernel
theorem d_jdk_68_m73_2 : decode jdk_68_method_73_code 2 = .ok (.invokevirtual 397, 3) := by decide +kernel
theorem pd22 : parseMethodDescriptor "(Ljava/lang/String;)V" = some ⟨[(.object "java/lang/String")], none⟩ := by decide +kernel
theorem d_jdk_68_m73_5 : decode jdk_68_method_73_code 5 = .ok (.aload_n 2, 1) := by decide +kernel
theorem d_jdk_68_m73_6 : decode jdk_68_method_73_code 6 = .ok (.aload_n 0, 1) := by decide +kernel
theorem d_jdk_68_m73_7 : decode jdk_68_method_73_code 7 = .ok (.getfield 15, 3) := by decide +kernel
theorem d_jdk_68_m73_10 : decode jdk_68_method_73_code 10 = .ok (.iload_n 1, 1) := by decide +kernel
theorem d_jdk_68_m73_11 : decode jdk_68_method_73_code 11 = .ok (.aload_n 0, 1) := by decide +kernel
theorem d_jdk_68_m73_12 : decode jdk_68_method_73_code 12 = .ok (.getfield 22, 3) := by decide +kernel
theorem d_jdk_68_m73_15 : decode jdk_68_method_73_code 15 = .ok (.invokevirtual 399, 3) := by decide +kernel
theorem pd23 : parseMethodDescriptor "([BIB)V" = some ⟨[(.array .byte), .int, .byte], none⟩ := by decide +kernel
theorem d_jdk_68_m73_18 : decode jdk_68_method_73_code 18 = .ok (.return_, 1) := by decide +kernel
theorem d_jdk_68_m22_0 : decode jdk_68_method_22_code 0 = .ok (.aload_n 1, 1) := by decide +kernel
theorem d_jdk_68_m22_1 : decode jdk_68_method_22_code 1 = .ok (.ifnonnull 8, 3) := by decide +kernel
theorem d_jdk_68_m22_9 : decode jdk_68_method_22_code 9 = .ok (.aload_n 1, 1) := by decide +kernel
theorem d_jdk_68_m22_10 : decode jdk_68_method_22_code 10 = .ok (.invokevirtual 32, 3) := by decide +kernel
theorem pd24 : parseMethodDescriptor "()I" = some ⟨[], some .int⟩ := by decide +kernel
theorem d_jdk_68_m22_13 : decode jdk_68_method_22_code 13 = .ok (.istore_n 2, 1) := by decide +kernel
theorem d_jdk_68_m22_14 : decode jdk_68_method_22_code 14 = .ok (.aload_n 0, 1) := by decide +kernel
theorem d_jdk_68_m22_15 : decode jdk_68_method_22_code 15 = .ok (.aload_n 0, 1) := by decide +kernel
theorem d_jdk_68_m22_16 : decode jdk_68_method_22_code 16 = .ok (.getfield 79, 3) := by decide +kernel
theorem d_jdk_68_m22_19 : decode jdk_68_method_22_code 19 = .ok (.iload_n 2, 1) := by decide +kernel
theorem d_jdk_68_m22_20 : decode jdk_68_method_22_code 20 = .ok (.iadd, 1) := by decide +kernel
theorem d_jdk_68_m22_21 : decode jdk_68_method_22_code 21 = .ok (.invokevirtual 100, 3) := by decide +kernel
theorem pd25 : parseMethodDescriptor "(I)V" = some ⟨[.int], none⟩ := by decide +kernel
theorem d_jdk_68_m22_24 : decode jdk_68_method_22_code 24 = .ok (.aload_n 0, 1) := by decide +kernel
theorem d_jdk_68_m22_25 : decode jdk_68_method_22_code 25 = .ok (.aload_n 0, 1) := by decide +kernel
theorem d_jdk_68_m22_26 : decode jdk_68_method_22_code 26 = .ok (.getfield 79, 3) := by decide +kernel
theorem d_jdk_68_m22_29 : decode jdk_68_method_22_code 29 = .ok (.aload_n 1, 1) := by decide +kernel
theorem d_jdk_68_m22_30 : decode jdk_68_method_22_code 30 = .ok (.invokevirtual 208, 3) := by decide +kernel
theorem pd26 : parseMethodDescriptor "(ILjava/lang/String;)V" = some ⟨[.int, (.object "java/lang/String")], none⟩ := by decide +kernel
theorem d_jdk_68_m22_33 : decode jdk_68_method_22_code 33 = .ok (.aload_n 0, 1) := by decide +kernel
theorem d_jdk_68_m22_34 : decode jdk_68_method_22_code 34 = .ok (.dup, 1) := by decide +kernel
theorem d_jdk_68_m22_35 : decode jdk_68_method_22_code 35 = .ok (.getfield 79, 3) := by decide +kernel
theorem d_jdk_68_m22_38 : decode jdk_68_method_22_code 38 = .ok (.iload_n 2, 1) := by decide +kernel
theorem d_jdk_68_m22_39 : decode jdk_68_method_22_code 39 = .ok (.iadd, 1) := by decide +kernel
theorem d_jdk_68_m22_40 : decode jdk_68_method_22_code 40 = .ok (.putfield 79, 3) := by decide +kernel
theorem d_jdk_68_m22_43 : decode jdk_68_method_22_code 43 = .ok (.aload_n 0, 1) := by decide +kernel
theorem d_jdk_68_m22_44 : decode jdk_68_method_22_code 44 = .ok (.areturn, 1) := by decide +kernel
theorem d_jdk_67_m7_0 : decode jdk_67_method_7_code 0 = .ok (.aload_n 0, 1) := by decide +kernel
theorem d_jdk_67_m7_1 : decode jdk_67_method_7_code 1 = .ok (.aload_n 1, 1) := by decide +kernel
theorem d_jdk_67_m7_2 : decode jdk_67_method_7_code 2 = .ok (.invokespecial 29, 3) := by decide +kernel
theorem pd27 : parseMethodDescriptor "(Ljava/lang/String;)Ljava/lang/AbstractStringBuilder;" = some ⟨[(.object "java/lang/String")], some (.object "java/lang/AbstractStringBuilder")⟩ := by decide +kernel
theorem d_jdk_67_m7_5 : decode jdk_67_method_7_code 5 = .ok (.pop, 1) := by decide +kernel
theorem d_jdk_67_m7_6 : decode jdk_67_method_7_code 6 = .ok (.aload_n 0, 1) := by decide +kernel
theorem d_jdk_67_m7_7 : decode jdk_67_method_7_code 7 = .ok (.areturn, 1) := by decide +kernel
theorem pn28 : plainName "java/lang/StringBuilder" = true := by first | (simp [plainName, overriddenIn]; done) | decide +kernel
theorem d_jdk_68_m2_0 : decode jdk_68_method_2_code 0 = .ok (.aload_n 0, 1) := by decide +kernel
theorem d_jdk_68_m2_1 : decode jdk_68_method_2_code 1 = .ok (.invokespecial 3, 3) := by decide +kernel
theorem d_jdk_68_m2_4 : decode jdk_68_method_2_code 4 = .ok (.getstatic 18, 3) := by decide +kernel
theorem d_jdk_68_m2_7 : decode jdk_68_method_2_code 7 = .ok (.ifCond .eq 18, 3) := by decide +kernel
theorem d_jdk_68_m2_10 : decode jdk_68_method_2_code 10 = .ok (.aload_n 0, 1) := by decide +kernel
theorem d_jdk_68_m2_11 : decode jdk_68_method_2_code 11 = .ok (.iload_n 1, 1) := by decide +kernel
theorem d_jdk_68_m2_12 : decode jdk_68_method_2_code 12 = .ok (.newarray .byte, 2) := by decide +kernel
theorem d_jdk_68_m2_14 : decode jdk_68_method_2_code 14 = .ok (.putfield 15, 3) := by decide +kernel
theorem d_jdk_68_m2_17 : decode jdk_68_method_2_code 17 = .ok (.aload_n 0, 1) := by decide +kernel
theorem d_jdk_68_m2_18 : decode jdk_68_method_2_code 18 = .ok (.iconst 0, 1) := by decide +kernel
theorem d_jdk_68_m2_19 : decode jdk_68_method_2_code 19 = .ok (.putfield 22, 3) := by decide +kernel
theorem d_jdk_68_m2_22 : decode jdk_68_method_2_code 22 = .ok (.goto 16, 3) := by decide +kernel
theorem d_jdk_68_m2_38 : decode jdk_68_method_2_code 38 = .ok (.return_, 1) := by decide +kernel
theorem d_jdk_67_m1_0 : decode jdk_67_method_1_code 0 = .ok (.aload_n 0, 1) := by decide +kernel
theorem d_jdk_67_m1_1 : decode jdk_67_method_1_code 1 = .ok (.bipush 16, 2) := by decide +kernel
theorem d_jdk_67_m1_3 : decode jdk_67_method_1_code 3 = .ok (.invokespecial 1, 3) := by decide +kernel
theorem d_jdk_67_m1_6 : decode jdk_67_method_1_code 6 = .ok (.return_, 1) := by decide +kernel
theorem d_jdk_68_m64_0 : decode jdk_68_method_64_code 0 = .ok (.aload_n 0, 1) := by decide +kernel
theorem d_jdk_68_m64_1 : decode jdk_68_method_64_code 1 = .ok (.getfield 15, 3) := by decide +kernel
theorem d_jdk_68_m64_4 : decode jdk_68_method_64_code 4 = .ok (.areturn, 1) := by decide +kernel
theorem d_jdk_68_m6_0 : decode jdk_68_method_6_code 0 = .ok (.aload_n 0, 1) := by decide +kernel
theorem d_jdk_68_m6_1 : decode jdk_68_method_6_code 1 = .ok (.getfield 79, 3) := by decide +kernel
theorem d_jdk_68_m6_4 : decode jdk_68_method_6_code 4 = .ok (.ireturn, 1) := by decide +kernel
theorem d_jdk_67_m93_0 : decode jdk_67_method_93_code 0 = .ok (.aload_n 0, 1) := by decide +kernel
theorem d_jdk_67_m93_1 : decode jdk_67_method_93_code 1 = .ok (.invokespecial 343, 3) := by decide +kernel
theorem d_jdk_67_m93_4 : decode jdk_67_method_93_code 4 = .ok (.ireturn, 1) := by decide +kernel
theorem d_jdk_68_m68_0 : decode jdk_68_method_68_code 0 = .ok (.getstatic 18, 3) := by decide +kernel
theorem d_jdk_68_m68_3 : decode jdk_68_method_68_code 3 = .ok (.ifCond .eq 14, 3) := by decide +kernel
theorem d_jdk_68_m68_6 : decode jdk_68_method_68_code 6 = .ok (.aload_n 0, 1) := by decide +kernel
theorem d_jdk_68_m68_7 : decode jdk_68_method_68_code 7 = .ok (.getfield 22, 3) := by decide +kernel
theorem d_jdk_68_m68_10 : decode jdk_68_method_68_code 10 = .ok (.ifCond .ne 7, 3) := by decide +kernel
theorem d_jdk_68_m68_13 : decode jdk_68_method_68_code 13 = .ok (.iconst 1, 1) := by decide +kernel
theorem d_jdk_68_m68_14 : decode jdk_68_method_68_code 14 = .ok (.goto 4, 3) := by decide +kernel
theorem d_jdk_68_m68_18 : decode jdk_68_method_68_code 18 = .ok (.ireturn, 1) := by decide +kernel
theorem d_jdk_65_m131_0 : decode jdk_65_method_131_code 0 = .ok (.iload_n 1, 1) := by decide +kernel
theorem d_jdk_65_m131_1 : decode jdk_65_method_131_code 1 = .ok (.iload_n 0, 1) := by decide +kernel
theorem d_jdk_65_m131_2 : decode jdk_65_method_131_code 2 = .ok (.if_icmp .ge 35, 3) := by decide +kernel
theorem d_jdk_65_m131_37 : decode jdk_65_method_131_code 37 = .ok (.return_, 1) := by decide +kernel
theorem d_jdk_65_m133_0 : decode jdk_65_method_133_code 0 = .ok (.iload_n 1, 1) := by decide +kernel
theorem d_jdk_65_m133_1 : decode jdk_65_method_133_code 1 = .ok (.iload_n 2, 1) := by decide +kernel
theorem d_jdk_65_m133_2 : decode jdk_65_method_133_code 2 = .ok (.invokestatic 343, 3) := by decide +kernel
theorem d_jdk_65_m133_5 : decode jdk_65_method_133_code 5 = .ok (.iload_n 2, 1) := by decide +kernel
theorem d_jdk_65_m133_6 : decode jdk_65_method_133_code 6 = .ok (.iload_n 1, 1) := by decide +kernel
theorem d_jdk_65_m133_7 : decode jdk_65_method_133_code 7 = .ok (.isub, 1) := by decide +kernel
theorem d_jdk_65_m133_8 : decode jdk_65_method_133_code 8 = .ok (.istore_n 3, 1) := by decide +kernel
theorem d_jdk_65_m133_9 : decode jdk_65_method_133_code 9 = .ok (.iload_n 3, 1) := by decide +kernel
theorem d_jdk_65_m133_10 : decode jdk_65_method_133_code 10 = .ok (.newarray .byte, 2) := by decide +kernel
theorem d_jdk_65_m133_12 : decode jdk_65_method_133_code 12 = .ok (.astore 4, 2) := by decide +kernel
theorem d_jdk_65_m133_14 : decode jdk_65_method_133_code 14 = .ok (.aload_n 0, 1) := by decide +kernel
theorem d_jdk_65_m133_15 : decode jdk_65_method_133_code 15 = .ok (.iload_n 1, 1) := by decide +kernel
theorem d_jdk_65_m133_16 : decode jdk_65_method_133_code 16 = .ok (.aload 4, 2) := by decide +kernel
theorem d_jdk_65_m133_18 : decode jdk_65_method_133_code 18 = .ok (.iconst 0, 1) := by decide +kernel
theorem d_jdk_65_m133_19 : decode jdk_65_method_133_code 19 = .ok (.aload_n 0, 1) := by decide +kernel
theorem d_jdk_65_m133_20 : decode jdk_65_method_133_code 20 = .ok (.arraylength, 1) := by decide +kernel
theorem d_jdk_65_m133_21 : decode jdk_65_method_133_code 21 = .ok (.iload_n 1, 1) := by decide +kernel
theorem d_jdk_65_m133_22 : decode jdk_65_method_133_code 22 = .ok (.isub, 1) := by decide +kernel
theorem d_jdk_65_m133_23 : decode jdk_65_method_133_code 23 = .ok (.iload_n 3, 1) := by decide +kernel
theorem d_jdk_65_m133_24 : decode jdk_65_method_133_code 24 = .ok (.invokestatic 304, 3) := by decide +kernel
theorem d_jdk_65_m133_27 : decode jdk_65_method_133_code 27 = .ok (.invokestatic 150, 3) := by decide +kernel
theorem d_jdk_65_m133_30 : decode jdk_65_method_133_code 30 = .ok (.aload 4, 2) := by decide +kernel
theorem d_jdk_65_m133_32 : decode jdk_65_method_133_code 32 = .ok (.areturn, 1) := by decide +kernel
theorem d_jdk_65_m132_0 : decode jdk_65_method_132_code 0 = .ok (.iload_n 1, 1) := by decide +kernel
theorem d_jdk_65_m132_1 : decode jdk_65_method_132_code 1 = .ok (.ifCond .ne 9, 3) := by decide +kernel
theorem d_jdk_65_m132_4 : decode jdk_65_method_132_code 4 = .ok (.iload_n 2, 1) := by decide +kernel
theorem d_jdk_65_m132_5 : decode jdk_65_method_132_code 5 = .ok (.aload_n 0, 1) := by decide +kernel
theorem d_jdk_65_m132_6 : decode jdk_65_method_132_code 6 = .ok (.arraylength, 1) := by decide +kernel
theorem d_jdk_65_m132_7 : decode jdk_65_method_132_code 7 = .ok (.if_icmp .eq 10, 3) := by decide +kernel
theorem d_jdk_65_m132_10 : decode jdk_65_method_132_code 10 = .ok (.aload_n 0, 1) := by decide +kernel
theorem d_jdk_65_m132_11 : decode jdk_65_method_132_code 11 = .ok (.iload_n 1, 1) := by decide +kernel
theorem d_jdk_65_m132_12 : decode jdk_65_method_132_code 12 = .ok (.iload_n 2, 1) := by decide +kernel
theorem d_jdk_65_m132_13 : decode jdk_65_method_132_code 13 = .ok (.invokestatic 339, 3) := by decide +kernel
theorem pd29 : parseMethodDescriptor "([BII)[B" = some ⟨[(.array .byte), .int, .int], some (.array .byte)⟩ := by decide +kernel
theorem d_jdk_65_m132_16 : decode jdk_65_method_132_code 16 = .ok (.areturn, 1) := by decide +kernel
theorem d_jdk_42_m150_0 : decode jdk_42_method_150_code 0 = .ok (.aload_n 0, 1) := by decide +kernel
theorem d_jdk_42_m150_1 : decode jdk_42_method_150_code 1 = .ok (.invokespecial 1, 3) := by decide +kernel
theorem d_jdk_42_m150_4 : decode jdk_42_method_150_code 4 = .ok (.aload_n 1, 1) := by decide +kernel
theorem d_jdk_42_m150_5 : decode jdk_42_method_150_code 5 = .ok (.invokevirtual 552, 3) := by decide +kernel
theorem pd30 : parseMethodDescriptor "()[B" = some ⟨[], some (.array .byte)⟩ := by decide +kernel
theorem d_jdk_42_m150_8 : decode jdk_42_method_150_code 8 = .ok (.astore_n 3, 1) := by decide +kernel
theorem d_jdk_42_m150_9 : decode jdk_42_method_150_code 9 = .ok (.aload_n 1, 1) := by decide +kernel
theorem d_jdk_42_m150_10 : decode jdk_42_method_150_code 10 = .ok (.invokevirtual 549, 3) := by decide +kernel
theorem d_jdk_42_m150_13 : decode jdk_42_method_150_code 13 = .ok (.istore 4, 2) := by decide +kernel
theorem d_jdk_42_m150_15 : decode jdk_42_method_150_code 15 = .ok (.aload_n 1, 1) := by decide +kernel
theorem d_jdk_42_m150_16 : decode jdk_42_method_150_code 16 = .ok (.invokevirtual 1047, 3) := by decide +kernel
theorem d_jdk_42_m150_19 : decode jdk_42_method_150_code 19 = .ok (.ifCond .eq 22, 3) := by decide +kernel
theorem d_jdk_42_m150_22 : decode jdk_42_method_150_code 22 = .ok (.aload_n 0, 1) := by decide +kernel
theorem d_jdk_42_m150_23 : decode jdk_42_method_150_code 23 = .ok (.iconst 0, 1) := by decide +kernel
theorem d_jdk_42_m150_24 : decode jdk_42_method_150_code 24 = .ok (.putfield 15, 3) := by decide +kernel
theorem d_jdk_42_m150_27 : decode jdk_42_method_150_code 27 = .ok (.aload_n 0, 1) := by decide +kernel
theorem d_jdk_42_m150_28 : decode jdk_42_method_150_code 28 = .ok (.aload_n 3, 1) := by decide +kernel
theorem d_jdk_42_m150_29 : decode jdk_42_method_150_code 29 = .ok (.iconst 0, 1) := by decide +kernel
theorem d_jdk_42_m150_30 : decode jdk_42_method_150_code 30 = .ok (.iload 4, 2) := by decide +kernel
theorem d_jdk_42_m150_32 : decode jdk_42_method_150_code 32 = .ok (.invokestatic 54, 3) := by decide +kernel
theorem d_jdk_42_m150_35 : decode jdk_42_method_150_code 35 = .ok (.putfield 9, 3) := by decide +kernel
theorem d_jdk_42_m150_38 : decode jdk_42_method_150_code 38 = .ok (.goto 59, 3) := by decide +kernel
theorem d_jdk_42_m150_97 : decode jdk_42_method_150_code 97 = .ok (.return_, 1) := by decide +kernel
theorem d_jdk_42_m53_0 : decode jdk_42_method_53_code 0 = .ok (.aload_n 0, 1) := by decide +kernel
theorem d_jdk_42_m53_1 : decode jdk_42_method_53_code 1 = .ok (.aload_n 1, 1) := by decide +kernel
theorem d_jdk_42_m53_2 : decode jdk_42_method_53_code 2 = .ok (.aconst_null, 1) := by decide +kernel
theorem d_jdk_42_m53_3 : decode jdk_42_method_53_code 3 = .ok (.invokespecial 489, 3) := by decide +kernel
theorem pd31 : parseMethodDescriptor "(Ljava/lang/AbstractStringBuilder;Ljava/lang/Void;)V" = some ⟨[(.object "java/lang/AbstractStringBuilder"), (.object "java/lang/Void")], none⟩ := by decide +kernel
theorem d_jdk_42_m53_6 : decode jdk_42_method_53_code 6 = .ok (.return_, 1) := by decide +kernel
theorem d_jdk_67_m42_0 : decode jdk_67_method_42_code 0 = .ok (.new 18, 3) := by decide +kernel
theorem d_jdk_67_m42_3 : decode jdk_67_method_42_code 3 = .ok (.dup, 1) := by decide +kernel
theorem d_jdk_67_m42_4 : decode jdk_67_method_42_code 4 = .ok (.aload_n 0, 1) := by decide +kernel
theorem d_jdk_67_m42_5 : decode jdk_67_method_42_code 5 = .ok (.invokespecial 137, 3) := by decide +kernel
theorem pd32 : parseMethodDescriptor "(Ljava/lang/StringBuilder;)V" = some ⟨[(.object "java/lang/StringBuilder")], none⟩ := by decide +kernel
theorem d_jdk_67_m42_8 : decode jdk_67_method_42_code 8 = .ok (.areturn, 1) := by decide +kernel
theorem d_jdk_43_m3_0 : decode jdk_43_method_3_code 0 = .ok (.iload_n 0, 1) := by decide +kernel
theorem d_jdk_43_m3_1 : decode jdk_43_method_3_code 1 = .ok (.sipush 255, 3) := by decide +kernel
theorem d_jdk_43_m3_4 : decode jdk_43_method_3_code 4 = .ok (.if_icmp .gt 7, 3) := by decide +kernel
theorem d_jdk_43_m3_7 : decode jdk_43_method_3_code 7 = .ok (.iconst 1, 1) := by decide +kernel
theorem d_jdk_43_m3_8 : decode jdk_43_method_3_code 8 = .ok (.goto 4, 3) := by decide +kernel
theorem d_jdk_43_m3_12 : decode jdk_43_method_3_code 12 = .ok (.ireturn, 1) := by decide +kernel
theorem d_jdk_43_m46_0 : decode jdk_43_method_46_code 0 = .ok (.iconst 1, 1) := by decide +kernel
theorem d_jdk_43_m46_1 : decode jdk_43_method_46_code 1 = .ok (.newarray .byte, 2) := by decide +kernel
theorem d_jdk_43_m46_3 : decode jdk_43_method_46_code 3 = .ok (.dup, 1) := by decide +kernel
theorem d_jdk_43_m46_4 : decode jdk_43_method_46_code 4 = .ok (.iconst 0, 1) := by decide +kernel
theorem d_jdk_43_m46_5 : decode jdk_43_method_46_code 5 = .ok (.iload_n 0, 1) := by decide +kernel
theorem d_jdk_43_m46_6 : decode jdk_43_method_46_code 6 = .ok (.i2b, 1) := by decide +kernel
theorem d_jdk_43_m46_7 : decode jdk_43_method_46_code 7 = .ok (.bastore, 1) := by decide +kernel
theorem d_jdk_43_m46_8 : decode jdk_43_method_46_code 8 = .ok (.areturn, 1) := by decide +kernel
theorem d_jdk_42_m151_0 : decode jdk_42_method_151_code 0 = .ok (.aload_n 0, 1) := by decide +kernel
theorem d_jdk_42_m151_1 : decode jdk_42_method_151_code 1 = .ok (.invokespecial 1, 3) := by decide +kernel
theorem d_jdk_42_m151_4 : decode jdk_42_method_151_code 4 = .ok (.aload_n 0, 1) := by decide +kernel
theorem d_jdk_42_m151_5 : decode jdk_42_method_151_code 5 = .ok (.aload_n 1, 1) := by decide +kernel
theorem d_jdk_42_m151_6 : decode jdk_42_method_151_code 6 = .ok (.putfield 9, 3) := by decide +kernel
theorem d_jdk_42_m151_9 : decode jdk_42_method_151_code 9 = .ok (.aload_n 0, 1) := by decide +kernel
theorem d_jdk_42_m151_10 : decode jdk_42_method_151_code 10 = .ok (.iload_n 2, 1) := by decide +kernel
theorem d_jdk_42_m151_11 : decode jdk_42_method_151_code 11 = .ok (.putfield 15, 3) := by decide +kernel
theorem d_jdk_42_m151_14 : decode jdk_42_method_151_code 14 = .ok (.return_, 1) := by decide +kernel
theorem d_jdk_42_m139_0 : decode jdk_42_method_139_code 0 = .ok (.getstatic 38, 3) := by decide +kernel
theorem d_jdk_42_m139_3 : decode jdk_42_method_139_code 3 = .ok (.ifCond .eq 23, 3) := by decide +kernel
theorem d_jdk_42_m139_6 : decode jdk_42_method_139_code 6 = .ok (.iload_n 0, 1) := by decide +kernel
theorem d_jdk_42_m139_7 : decode jdk_42_method_139_code 7 = .ok (.invokestatic 1015, 3) := by decide +kernel
theorem pd33 : parseMethodDescriptor "(C)Z" = some ⟨[.char], some .boolean⟩ := by decide +kernel
theorem d_jdk_42_m139_10 : decode jdk_42_method_139_code 10 = .ok (.ifCond .eq 16, 3) := by decide +kernel
theorem d_jdk_42_m139_13 : decode jdk_42_method_139_code 13 = .ok (.new 10, 3) := by decide +kernel
theorem d_jdk_42_m139_16 : decode jdk_42_method_139_code 16 = .ok (.dup, 1) := by decide +kernel
theorem d_jdk_42_m139_17 : decode jdk_42_method_139_code 17 = .ok (.iload_n 0, 1) := by decide +kernel
theorem d_jdk_42_m139_18 : decode jdk_42_method_139_code 18 = .ok (.invokestatic 1018, 3) := by decide +kernel
theorem pd34 : parseMethodDescriptor "(C)[B" = some ⟨[.char], some (.array .byte)⟩ := by decide +kernel
theorem d_jdk_42_m139_21 : decode jdk_42_method_139_code 21 = .ok (.iconst 0, 1) := by decide +kernel
theorem d_jdk_42_m139_22 : decode jdk_42_method_139_code 22 = .ok (.invokespecial 209, 3) := by decide +kernel
theorem pd35 : parseMethodDescriptor "([BB)V" = some ⟨[(.array .byte), .byte], none⟩ := by decide +kernel
theorem d_jdk_42_m139_25 : decode jdk_42_method_139_code 25 = .ok (.areturn, 1) := by decide +kernel
theorem d_m3_0 : decode method_3_code 0 = .ok (.iload_n 0, 1) := by decide +kernel
theorem d_m3_1 : decode method_3_code 1 = .ok (.ifCond .ne 6, 3) := by decide +kernel
theorem d_m3_4 : decode method_3_code 4 = .ok (.ldc 54, 2) := by decide +kernel
theorem d_m3_6 : decode method_3_code 6 = .ok (.areturn, 1) := by decide +kernel
theorem d_m3_7 : decode method_3_code 7 = .ok (.iload_n 0, 1) := by decide +kernel
theorem d_m3_8 : decode method_3_code 8 = .ok (.iconst 1, 1) := by decide +kernel
theorem d_m3_9 : decode method_3_code 9 = .ok (.if_icmp .ne 8, 3) := by decide +kernel
theorem d_m3_12 : decode method_3_code 12 = .ok (.iload_n 1, 1) := by decide +kernel
theorem d_m3_13 : decode method_3_code 13 = .ok (.invokestatic 56, 3) := by decide +kernel
theorem pd36 : parseMethodDescriptor "(C)Ljava/lang/String;" = some ⟨[.char], some (.object "java/lang/String")⟩ := by decide +kernel
theorem d_m3_16 : decode method_3_code 16 = .ok (.areturn, 1) := by decide +kernel
theorem d_m3_17 : decode method_3_code 17 = .ok (.new 20, 3) := by decide +kernel
theorem d_m3_20 : decode method_3_code 20 = .ok (.dup, 1) := by decide +kernel
theorem d_m3_21 : decode method_3_code 21 = .ok (.iconst 2, 1) := by decide +kernel
theorem d_m3_22 : decode method_3_code 22 = .ok (.newarray .char, 2) := by decide +kernel
theorem d_m3_24 : decode method_3_code 24 = .ok (.dup, 1) := by decide +kernel
theorem d_m3_25 : decode method_3_code 25 = .ok (.iconst 0, 1) := by decide +kernel
theorem d_m3_26 : decode method_3_code 26 = .ok (.iload_n 1, 1) := by decide +kernel
theorem d_m3_27 : decode method_3_code 27 = .ok (.castore, 1) := by decide +kernel
theorem d_m3_28 : decode method_3_code 28 = .ok (.dup, 1) := by decide +kernel
theorem d_m3_29 : decode method_3_code 29 = .ok (.iconst 1, 1) := by decide +kernel
theorem d_m3_30 : decode method_3_code 30 = .ok (.iload_n 2, 1) := by decide +kernel
theorem d_m3_31 : decode method_3_code 31 = .ok (.castore, 1) := by decide +kernel
theorem d_m3_32 : decode method_3_code 32 = .ok (.invokespecial 60, 3) := by decide +kernel
theorem pd37 : parseMethodDescriptor "([C)V" = some ⟨[(.array .char)], none⟩ := by decide +kernel
theorem d_m3_35 : decode method_3_code 35 = .ok (.areturn, 1) := by decide +kernel
theorem pn38 : plainName "com/example/compendio/compendio/cli/ArgumentsUsageWithBookPinLaw" = true := by first | (simp [plainName, overriddenIn]; done) | decide +kernel
theorem d_prog_4_m5_0 : decode prog_4_method_5_code 0 = .ok (.aload_n 0, 1) := by decide +kernel
theorem d_prog_4_m5_1 : decode prog_4_method_5_code 1 = .ok (.getfield 7, 3) := by decide +kernel
theorem d_prog_4_m5_4 : decode prog_4_method_5_code 4 = .ok (.areturn, 1) := by decide +kernel
theorem pn39 : plainName "com/example/compendio/compendio/cli/Arguments$Option" = true := by first | (simp [plainName, overriddenIn]; done) | decide +kernel
theorem d_prog_3_m4_0 : decode prog_3_method_4_code 0 = .ok (.aload_n 1, 1) := by decide +kernel
theorem d_prog_3_m4_1 : decode prog_3_method_4_code 1 = .ok (.invokevirtual 57, 3) := by decide +kernel
theorem d_prog_3_m4_4 : decode prog_3_method_4_code 4 = .ok (.ifCond .eq 8, 3) := by decide +kernel
theorem d_prog_3_m4_7 : decode prog_3_method_4_code 7 = .ok (.ldc 63, 2) := by decide +kernel
theorem d_prog_3_m4_9 : decode prog_3_method_4_code 9 = .ok (.goto 22, 3) := by decide +kernel
theorem d_prog_3_m4_31 : decode prog_3_method_4_code 31 = .ok (.astore_n 3, 1) := by decide +kernel
theorem d_prog_3_m4_32 : decode prog_3_method_4_code 32 = .ok (.new 23, 3) := by decide +kernel
theorem d_prog_3_m4_35 : decode prog_3_method_4_code 35 = .ok (.dup, 1) := by decide +kernel
theorem d_prog_3_m4_36 : decode prog_3_method_4_code 36 = .ok (.invokespecial 25, 3) := by decide +kernel
theorem pd40 : parseMethodDescriptor "()V" = some ⟨[], none⟩ := by decide +kernel
theorem d_prog_3_m4_39 : decode prog_3_method_4_code 39 = .ok (.ldc 67, 2) := by decide +kernel
theorem d_prog_3_m4_41 : decode prog_3_method_4_code 41 = .ok (.invokevirtual 28, 3) := by decide +kernel
theorem pd41 : parseMethodDescriptor "(Ljava/lang/String;)Ljava/lang/StringBuilder;" = some ⟨[(.object "java/lang/String")], some (.object "java/lang/StringBuilder")⟩ := by decide +kernel
theorem d_prog_3_m4_44 : decode prog_3_method_4_code 44 = .ok (.aload_n 0, 1) := by decide +kernel
theorem d_prog_3_m4_45 : decode prog_3_method_4_code 45 = .ok (.invokevirtual 28, 3) := by decide +kernel
theorem d_prog_3_m4_48 : decode prog_3_method_4_code 48 = .ok (.ldc 65, 2) := by decide +kernel
theorem d_prog_3_m4_50 : decode prog_3_method_4_code 50 = .ok (.invokevirtual 28, 3) := by decide +kernel
theorem d_prog_3_m4_53 : decode prog_3_method_4_code 53 = .ok (.aload_n 3, 1) := by decide +kernel
theorem d_prog_3_m4_54 : decode prog_3_method_4_code 54 = .ok (.invokevirtual 28, 3) := by decide +kernel
theorem d_prog_3_m4_57 : decode prog_3_method_4_code 57 = .ok (.ldc 69, 2) := by decide +kernel
theorem d_prog_3_m4_59 : decode prog_3_method_4_code 59 = .ok (.invokevirtual 28, 3) := by decide +kernel
theorem d_prog_3_m4_62 : decode prog_3_method_4_code 62 = .ok (.aload_n 2, 1) := by decide +kernel
theorem d_prog_3_m4_63 : decode prog_3_method_4_code 63 = .ok (.invokevirtual 28, 3) := by decide +kernel
theorem d_prog_3_m4_66 : decode prog_3_method_4_code 66 = .ok (.invokevirtual 40, 3) := by decide +kernel
theorem pd42 : parseMethodDescriptor "()Ljava/lang/String;" = some ⟨[], some (.object "java/lang/String")⟩ := by decide +kernel
theorem d_prog_3_m4_69 : decode prog_3_method_4_code 69 = .ok (.areturn, 1) := by decide +kernel
theorem d_prog_3_m4_12 : decode prog_3_method_4_code 12 = .ok (.new 23, 3) := by decide +kernel
theorem d_prog_3_m4_15 : decode prog_3_method_4_code 15 = .ok (.dup, 1) := by decide +kernel
theorem d_prog_3_m4_16 : decode prog_3_method_4_code 16 = .ok (.invokespecial 25, 3) := by decide +kernel
theorem d_prog_3_m4_19 : decode prog_3_method_4_code 19 = .ok (.aload_n 1, 1) := by decide +kernel
theorem d_prog_3_m4_20 : decode prog_3_method_4_code 20 = .ok (.invokevirtual 28, 3) := by decide +kernel
theorem d_prog_3_m4_23 : decode prog_3_method_4_code 23 = .ok (.ldc 65, 2) := by decide +kernel
theorem d_prog_3_m4_25 : decode prog_3_method_4_code 25 = .ok (.invokevirtual 28, 3) := by decide +kernel
theorem d_prog_3_m4_28 : decode prog_3_method_4_code 28 = .ok (.invokevirtual 40, 3) := by decide +kernel
theorem pn43 : plainName "com/example/compendio/compendio/cli/Arguments" = true := by first | (simp [plainName, overriddenIn]; done) | decide +kernel
theorem d_prog_3_m3_0 : decode prog_3_method_3_code 0 = .ok (.new 23, 3) := by decide +kernel
theorem d_prog_3_m3_3 : decode prog_3_method_3_code 3 = .ok (.dup, 1) := by decide +kernel
theorem d_prog_3_m3_4 : decode prog_3_method_3_code 4 = .ok (.invokespecial 25, 3) := by decide +kernel
theorem d_prog_3_m3_7 : decode prog_3_method_3_code 7 = .ok (.ldc 26, 2) := by decide +kernel
theorem d_prog_3_m3_9 : decode prog_3_method_3_code 9 = .ok (.invokevirtual 28, 3) := by decide +kernel
theorem d_prog_3_m3_12 : decode prog_3_method_3_code 12 = .ok (.aload_n 0, 1) := by decide +kernel
theorem d_prog_3_m3_13 : decode prog_3_method_3_code 13 = .ok (.aload_n 1, 1) := by decide +kernel
theorem d_prog_3_m3_14 : decode prog_3_method_3_code 14 = .ok (.ldc 32, 2) := by decide +kernel
theorem d_prog_3_m3_16 : decode prog_3_method_3_code 16 = .ok (.invokestatic 34, 3) := by decide +kernel
theorem pd44 : parseMethodDescriptor "(Ljava/lang/String;Ljava/lang/String;Ljava/lang/String;)Ljava/lang/String;" = some ⟨[(.object "java/lang/String"), (.object "java/lang/String"), (.object "java/lang/String")], some (.object "java/lang/String")⟩ := by decide +kernel
theorem d_prog_3_m3_19 : decode prog_3_method_3_code 19 = .ok (.invokevirtual 28, 3) := by decide +kernel
theorem d_prog_3_m3_22 : decode prog_3_method_3_code 22 = .ok (.ldc 44, 2) := by decide +kernel
theorem d_prog_3_m3_24 : decode prog_3_method_3_code 24 = .ok (.invokevirtual 28, 3) := by decide +kernel
theorem d_prog_3_m3_27 : decode prog_3_method_3_code 27 = .ok (.aload_n 0, 1) := by decide +kernel
theorem d_prog_3_m3_28 : decode prog_3_method_3_code 28 = .ok (.aload_n 1, 1) := by decide +kernel
theorem d_prog_3_m3_29 : decode prog_3_method_3_code 29 = .ok (.new 23, 3) := by decide +kernel
theorem d_prog_3_m3_32 : decode prog_3_method_3_code 32 = .ok (.dup, 1) := by decide +kernel
theorem d_prog_3_m3_33 : decode prog_3_method_3_code 33 = .ok (.invokespecial 25, 3) := by decide +kernel
theorem d_prog_3_m3_36 : decode prog_3_method_3_code 36 = .ok (.getstatic 46, 3) := by decide +kernel
theorem d_prog_3_m3_39 : decode prog_3_method_3_code 39 = .ok (.invokevirtual 50, 3) := by decide +kernel
theorem d_prog_3_m3_42 : decode prog_3_method_3_code 42 = .ok (.invokevirtual 28, 3) := by decide +kernel
theorem d_prog_3_m3_45 : decode prog_3_method_3_code 45 = .ok (.ldc 55, 2) := by decide +kernel
theorem d_prog_3_m3_47 : decode prog_3_method_3_code 47 = .ok (.invokevirtual 28, 3) := by decide +kernel
theorem d_prog_3_m3_50 : decode prog_3_method_3_code 50 = .ok (.invokevirtual 40, 3) := by decide +kernel
theorem d_prog_3_m3_53 : decode prog_3_method_3_code 53 = .ok (.invokestatic 34, 3) := by decide +kernel
theorem d_prog_3_m3_56 : decode prog_3_method_3_code 56 = .ok (.invokevirtual 28, 3) := by decide +kernel
theorem d_prog_3_m3_59 : decode prog_3_method_3_code 59 = .ok (.ldc 38, 2) := by decide +kernel
theorem d_prog_3_m3_61 : decode prog_3_method_3_code 61 = .ok (.invokevirtual 28, 3) := by decide +kernel
theorem d_prog_3_m3_64 : decode prog_3_method_3_code 64 = .ok (.invokevirtual 40, 3) := by decide +kernel
theorem d_prog_3_m3_67 : decode prog_3_method_3_code 67 = .ok (.areturn, 1) := by decide +kernel
theorem d_m6_0 : decode method_6_code 0 = .ok (.aload_n 2, 1) := by decide +kernel
theorem d_m6_1 : decode method_6_code 1 = .ok (.invokevirtual 19, 3) := by decide +kernel
theorem d_m6_4 : decode method_6_code 4 = .ok (.istore_n 3, 1) := by decide +kernel
theorem d_m6_5 : decode method_6_code 5 = .ok (.iconst 1, 1) := by decide +kernel
theorem d_m6_6 : decode method_6_code 6 = .ok (.istore 4, 2) := by decide +kernel
theorem d_m6_722 : decode method_6_code 722 = .ok (.iload 4, 2) := by decide +kernel
theorem d_m6_724 : decode method_6_code 724 = .ok (.ireturn, 1) := by decide +kernel
theorem d_m6_687 : decode method_6_code 687 = .ok (.iload 4, 2) := by decide +kernel
theorem d_m6_689 : decode method_6_code 689 = .ok (.ifCond .eq 30, 3) := by decide +kernel
theorem d_m6_692 : decode method_6_code 692 = .ok (.iload_n 3, 1) := by decide +kernel
theorem d_m6_693 : decode method_6_code 693 = .ok (.bipush 20, 2) := by decide +kernel
theorem d_m6_695 : decode method_6_code 695 = .ok (.if_icmp .le 20, 3) := by decide +kernel
theorem d_m6_698 : decode method_6_code 698 = .ok (.aload_n 0, 1) := by decide +kernel
theorem d_m6_699 : decode method_6_code 699 = .ok (.iload_n 1, 1) := by decide +kernel
theorem d_m6_700 : decode method_6_code 700 = .ok (.bipush 20, 2) := by decide +kernel
theorem d_m6_702 : decode method_6_code 702 = .ok (.iadd, 1) := by decide +kernel
theorem d_m6_703 : decode method_6_code 703 = .ok (.invokevirtual 37, 3) := by decide +kernel
theorem pd45 : parseMethodDescriptor "(I)C" = some ⟨[.int], some .char⟩ := by decide +kernel
theorem d_m6_706 : decode method_6_code 706 = .ok (.aload_n 2, 1) := by decide +kernel
theorem d_m6_707 : decode method_6_code 707 = .ok (.bipush 20, 2) := by decide +kernel
theorem d_m6_709 : decode method_6_code 709 = .ok (.invokevirtual 37, 3) := by decide +kernel
theorem d_m6_712 : decode method_6_code 712 = .ok (.if_icmp .ne 7, 3) := by decide +kernel
theorem d_m6_715 : decode method_6_code 715 = .ok (.iconst 1, 1) := by decide +kernel
theorem d_m6_716 : decode method_6_code 716 = .ok (.goto 4, 3) := by decide +kernel
theorem d_m6_720 : decode method_6_code 720 = .ok (.istore 4, 2) := by decide +kernel
theorem d_m6_652 : decode method_6_code 652 = .ok (.iload 4, 2) := by decide +kernel
theorem d_m6_654 : decode method_6_code 654 = .ok (.ifCond .eq 30, 3) := by decide +kernel
theorem d_m6_657 : decode method_6_code 657 = .ok (.iload_n 3, 1) := by decide +kernel
theorem d_m6_658 : decode method_6_code 658 = .ok (.bipush 19, 2) := by decide +kernel
theorem d_m6_660 : decode method_6_code 660 = .ok (.if_icmp .le 20, 3) := by decide +kernel
theorem d_m6_663 : decode method_6_code 663 = .ok (.aload_n 0, 1) := by decide +kernel
theorem d_m6_664 : decode method_6_code 664 = .ok (.iload_n 1, 1) := by decide +kernel
theorem d_m6_665 : decode method_6_code 665 = .ok (.bipush 19, 2) := by decide +kernel
theorem d_m6_667 : decode method_6_code 667 = .ok (.iadd, 1) := by decide +kernel
theorem d_m6_668 : decode method_6_code 668 = .ok (.invokevirtual 37, 3) := by decide +kernel
theorem d_m6_671 : decode method_6_code 671 = .ok (.aload_n 2, 1) := by decide +kernel
theorem d_m6_672 : decode method_6_code 672 = .ok (.bipush 19, 2) := by decide +kernel
theorem d_m6_674 : decode method_6_code 674 = .ok (.invokevirtual 37, 3) := by decide +kernel
theorem d_m6_677 : decode method_6_code 677 = .ok (.if_icmp .ne 7, 3) := by decide +kernel
theorem d_m6_680 : decode method_6_code 680 = .ok (.iconst 1, 1) := by decide +kernel
theorem d_m6_681 : decode method_6_code 681 = .ok (.goto 4, 3) := by decide +kernel
theorem d_m6_685 : decode method_6_code 685 = .ok (.istore 4, 2) := by decide +kernel
theorem d_m6_617 : decode method_6_code 617 = .ok (.iload 4, 2) := by decide +kernel
theorem d_m6_619 : decode method_6_code 619 = .ok (.ifCond .eq 30, 3) := by decide +kernel
theorem d_m6_622 : decode method_6_code 622 = .ok (.iload_n 3, 1) := by decide +kernel
theorem d_m6_623 : decode method_6_code 623 = .ok (.bipush 18, 2) := by decide +kernel
theorem d_m6_625 : decode method_6_code 625 = .ok (.if_icmp .le 20, 3) := by decide +kernel
theorem d_m6_628 : decode method_6_code 628 = .ok (.aload_n 0, 1) := by decide +kernel
theorem d_m6_629 : decode method_6_code 629 = .ok (.iload_n 1, 1) := by decide +kernel
theorem d_m6_630 : decode method_6_code 630 = .ok (.bipush 18, 2) := by decide +kernel
theorem d_m6_632 : decode method_6_code 632 = .ok (.iadd, 1) := by decide +kernel
theorem d_m6_633 : decode method_6_code 633 = .ok (.invokevirtual 37, 3) := by decide +kernel
theorem d_m6_636 : decode method_6_code 636 = .ok (.aload_n 2, 1) := by decide +kernel
theorem d_m6_637 : decode method_6_code 637 = .ok (.bipush 18, 2) := by decide +kernel
theorem d_m6_639 : decode method_6_code 639 = .ok (.invokevirtual 37, 3) := by decide +kernel
theorem d_m6_642 : decode method_6_code 642 = .ok (.if_icmp .ne 7, 3) := by decide +kernel
theorem d_m6_645 : decode method_6_code 645 = .ok (.iconst 1, 1) := by decide +kernel
theorem d_m6_646 : decode method_6_code 646 = .ok (.goto 4, 3) := by decide +kernel
theorem d_m6_650 : decode method_6_code 650 = .ok (.istore 4, 2) := by decide +kernel
theorem d_m6_582 : decode method_6_code 582 = .ok (.iload 4, 2) := by decide +kernel
theorem d_m6_584 : decode method_6_code 584 = .ok (.ifCond .eq 30, 3) := by decide +kernel
theorem d_m6_587 : decode method_6_code 587 = .ok (.iload_n 3, 1) := by decide +kernel
theorem d_m6_588 : decode method_6_code 588 = .ok (.bipush 17, 2) := by decide +kernel
theorem d_m6_590 : decode method_6_code 590 = .ok (.if_icmp .le 20, 3) := by decide +kernel
theorem d_m6_593 : decode method_6_code 593 = .ok (.aload_n 0, 1) := by decide +kernel
theorem d_m6_594 : decode method_6_code 594 = .ok (.iload_n 1, 1) := by decide +kernel
theorem d_m6_595 : decode method_6_code 595 = .ok (.bipush 17, 2) := by decide +kernel
theorem d_m6_597 : decode method_6_code 597 = .ok (.iadd, 1) := by decide +kernel
theorem d_m6_598 : decode method_6_code 598 = .ok (.invokevirtual 37, 3) := by decide +kernel
theorem d_m6_601 : decode method_6_code 601 = .ok (.aload_n 2, 1) := by decide +kernel
theorem d_m6_602 : decode method_6_code 602 = .ok (.bipush 17, 2) := by decide +kernel
theorem d_m6_604 : decode method_6_code 604 = .ok (.invokevirtual 37, 3) := by decide +kernel
theorem d_m6_607 : decode method_6_code 607 = .ok (.if_icmp .ne 7, 3) := by decide +kernel
theorem d_m6_610 : decode method_6_code 610 = .ok (.iconst 1, 1) := by decide +kernel
theorem d_m6_611 : decode method_6_code 611 = .ok (.goto 4, 3) := by decide +kernel
theorem d_m6_615 : decode method_6_code 615 = .ok (.istore 4, 2) := by decide +kernel
theorem d_m6_547 : decode method_6_code 547 = .ok (.iload 4, 2) := by decide +kernel
theorem d_m6_549 : decode method_6_code 549 = .ok (.ifCond .eq 30, 3) := by decide +kernel
theorem d_m6_552 : decode method_6_code 552 = .ok (.iload_n 3, 1) := by decide +kernel
theorem d_m6_553 : decode method_6_code 553 = .ok (.bipush 16, 2) := by decide +kernel
theorem d_m6_555 : decode method_6_code 555 = .ok (.if_icmp .le 20, 3) := by decide +kernel
theorem d_m6_558 : decode method_6_code 558 = .ok (.aload_n 0, 1) := by decide +kernel
theorem d_m6_559 : decode method_6_code 559 = .ok (.iload_n 1, 1) := by decide +kernel
theorem d_m6_560 : decode method_6_code 560 = .ok (.bipush 16, 2) := by decide +kernel
theorem d_m6_562 : decode method_6_code 562 = .ok (.iadd, 1) := by decide +kernel
theorem d_m6_563 : decode method_6_code 563 = .ok (.invokevirtual 37, 3) := by decide +kernel
theorem d_m6_566 : decode method_6_code 566 = .ok (.aload_n 2, 1) := by decide +kernel
theorem d_m6_567 : decode method_6_code 567 = .ok (.bipush 16, 2) := by decide +kernel
theorem d_m6_569 : decode method_6_code 569 = .ok (.invokevirtual 37, 3) := by decide +kernel
theorem d_m6_572 : decode method_6_code 572 = .ok (.if_icmp .ne 7, 3) := by decide +kernel
theorem d_m6_575 : decode method_6_code 575 = .ok (.iconst 1, 1) := by decide +kernel
theorem d_m6_576 : decode method_6_code 576 = .ok (.goto 4, 3) := by decide +kernel
theorem d_m6_580 : decode method_6_code 580 = .ok (.istore 4, 2) := by decide +kernel
theorem d_m6_512 : decode method_6_code 512 = .ok (.iload 4, 2) := by decide +kernel
theorem d_m6_514 : decode method_6_code 514 = .ok (.ifCond .eq 30, 3) := by decide +kernel
theorem d_m6_517 : decode method_6_code 517 = .ok (.iload_n 3, 1) := by decide +kernel
theorem d_m6_518 : decode method_6_code 518 = .ok (.bipush 15, 2) := by decide +kernel
theorem d_m6_520 : decode method_6_code 520 = .ok (.if_icmp .le 20, 3) := by decide +kernel
theorem d_m6_523 : decode method_6_code 523 = .ok (.aload_n 0, 1) := by decide +kernel
theorem d_m6_524 : decode method_6_code 524 = .ok (.iload_n 1, 1) := by decide +kernel
theorem d_m6_525 : decode method_6_code 525 = .ok (.bipush 15, 2) := by decide +kernel
theorem d_m6_527 : decode method_6_code 527 = .ok (.iadd, 1) := by decide +kernel
theorem d_m6_528 : decode method_6_code 528 = .ok (.invokevirtual 37, 3) := by decide +kernel
theorem d_m6_531 : decode method_6_code 531 = .ok (.aload_n 2, 1) := by decide +kernel
theorem d_m6_532 : decode method_6_code 532 = .ok (.bipush 15, 2) := by decide +kernel
theorem d_m6_534 : decode method_6_code 534 = .ok (.invokevirtual 37, 3) := by decide +kernel
theorem d_m6_537 : decode method_6_code 537 = .ok (.if_icmp .ne 7, 3) := by decide +kernel
theorem d_m6_540 : decode method_6_code 540 = .ok (.iconst 1, 1) := by decide +kernel
theorem d_m6_541 : decode method_6_code 541 = .ok (.goto 4, 3) := by decide +kernel
theorem d_m6_545 : decode method_6_code 545 = .ok (.istore 4, 2) := by decide +kernel
theorem d_m6_477 : decode method_6_code 477 = .ok (.iload 4, 2) := by decide +kernel
theorem d_m6_479 : decode method_6_code 479 = .ok (.ifCond .eq 30, 3) := by decide +kernel
theorem d_m6_482 : decode method_6_code 482 = .ok (.iload_n 3, 1) := by decide +kernel
theorem d_m6_483 : decode method_6_code 483 = .ok (.bipush 14, 2) := by decide +kernel
theorem d_m6_485 : decode method_6_code 485 = .ok (.if_icmp .le 20, 3) := by decide +kernel
theorem d_m6_488 : decode method_6_code 488 = .ok (.aload_n 0, 1) := by decide +kernel
theorem d_m6_489 : decode method_6_code 489 = .ok (.iload_n 1, 1) := by decide +kernel
theorem d_m6_490 : decode method_6_code 490 = .ok (.bipush 14, 2) := by decide +kernel
theorem d_m6_492 : decode method_6_code 492 = .ok (.iadd, 1) := by decide +kernel
theorem d_m6_493 : decode method_6_code 493 = .ok (.invokevirtual 37, 3) := by decide +kernel
theorem d_m6_496 : decode method_6_code 496 = .ok (.aload_n 2, 1) := by decide +kernel
theorem d_m6_497 : decode method_6_code 497 = .ok (.bipush 14, 2) := by decide +kernel
theorem d_m6_499 : decode method_6_code 499 = .ok (.invokevirtual 37, 3) := by decide +kernel
theorem d_m6_502 : decode method_6_code 502 = .ok (.if_icmp .ne 7, 3) := by decide +kernel
theorem d_m6_505 : decode method_6_code 505 = .ok (.iconst 1, 1) := by decide +kernel
theorem d_m6_506 : decode method_6_code 506 = .ok (.goto 4, 3) := by decide +kernel
theorem d_m6_510 : decode method_6_code 510 = .ok (.istore 4, 2) := by decide +kernel
theorem d_m6_442 : decode method_6_code 442 = .ok (.iload 4, 2) := by decide +kernel
theorem d_m6_444 : decode method_6_code 444 = .ok (.ifCond .eq 30, 3) := by decide +kernel
theorem d_m6_447 : decode method_6_code 447 = .ok (.iload_n 3, 1) := by decide +kernel
theorem d_m6_448 : decode method_6_code 448 = .ok (.bipush 13, 2) := by decide +kernel
theorem d_m6_450 : decode method_6_code 450 = .ok (.if_icmp .le 20, 3) := by decide +kernel
theorem d_m6_453 : decode method_6_code 453 = .ok (.aload_n 0, 1) := by decide +kernel
theorem d_m6_454 : decode method_6_code 454 = .ok (.iload_n 1, 1) := by decide +kernel
theorem d_m6_455 : decode method_6_code 455 = .ok (.bipush 13, 2) := by decide +kernel
theorem d_m6_457 : decode method_6_code 457 = .ok (.iadd, 1) := by decide +kernel
theorem d_m6_458 : decode method_6_code 458 = .ok (.invokevirtual 37, 3) := by decide +kernel
theorem d_m6_461 : decode method_6_code 461 = .ok (.aload_n 2, 1) := by decide +kernel
theorem d_m6_462 : decode method_6_code 462 = .ok (.bipush 13, 2) := by decide +kernel
theorem d_m6_464 : decode method_6_code 464 = .ok (.invokevirtual 37, 3) := by decide +kernel
theorem d_m6_467 : decode method_6_code 467 = .ok (.if_icmp .ne 7, 3) := by decide +kernel
theorem d_m6_470 : decode method_6_code 470 = .ok (.iconst 1, 1) := by decide +kernel
theorem d_m6_471 : decode method_6_code 471 = .ok (.goto 4, 3) := by decide +kernel
theorem d_m6_475 : decode method_6_code 475 = .ok (.istore 4, 2) := by decide +kernel
theorem d_m6_407 : decode method_6_code 407 = .ok (.iload 4, 2) := by decide +kernel
theorem d_m6_409 : decode method_6_code 409 = .ok (.ifCond .eq 30, 3) := by decide +kernel
theorem d_m6_412 : decode method_6_code 412 = .ok (.iload_n 3, 1) := by decide +kernel
theorem d_m6_413 : decode method_6_code 413 = .ok (.bipush 12, 2) := by decide +kernel
theorem d_m6_415 : decode method_6_code 415 = .ok (.if_icmp .le 20, 3) := by decide +kernel
theorem d_m6_418 : decode method_6_code 418 = .ok (.aload_n 0, 1) := by decide +kernel
theorem d_m6_419 : decode method_6_code 419 = .ok (.iload_n 1, 1) := by decide +kernel
theorem d_m6_420 : decode method_6_code 420 = .ok (.bipush 12, 2) := by decide +kernel
theorem d_m6_422 : decode method_6_code 422 = .ok (.iadd, 1) := by decide +kernel
theorem d_m6_423 : decode method_6_code 423 = .ok (.invokevirtual 37, 3) := by decide +kernel
theorem d_m6_426 : decode method_6_code 426 = .ok (.aload_n 2, 1) := by decide +kernel
theorem d_m6_427 : decode method_6_code 427 = .ok (.bipush 12, 2) := by decide +kernel
theorem d_m6_429 : decode method_6_code 429 = .ok (.invokevirtual 37, 3) := by decide +kernel
theorem d_m6_432 : decode method_6_code 432 = .ok (.if_icmp .ne 7, 3) := by decide +kernel
theorem d_m6_435 : decode method_6_code 435 = .ok (.iconst 1, 1) := by decide +kernel
theorem d_m6_436 : decode method_6_code 436 = .ok (.goto 4, 3) := by decide +kernel
theorem d_m6_440 : decode method_6_code 440 = .ok (.istore 4, 2) := by decide +kernel
theorem d_m6_372 : decode method_6_code 372 = .ok (.iload 4, 2) := by decide +kernel
theorem d_m6_374 : decode method_6_code 374 = .ok (.ifCond .eq 30, 3) := by decide +kernel
theorem d_m6_377 : decode method_6_code 377 = .ok (.iload_n 3, 1) := by decide +kernel
theorem d_m6_378 : decode method_6_code 378 = .ok (.bipush 11, 2) := by decide +kernel
theorem d_m6_380 : decode method_6_code 380 = .ok (.if_icmp .le 20, 3) := by decide +kernel
theorem d_m6_383 : decode method_6_code 383 = .ok (.aload_n 0, 1) := by decide +kernel
theorem d_m6_384 : decode method_6_code 384 = .ok (.iload_n 1, 1) := by decide +kernel
theorem d_m6_385 : decode method_6_code 385 = .ok (.bipush 11, 2) := by decide +kernel
theorem d_m6_387 : decode method_6_code 387 = .ok (.iadd, 1) := by decide +kernel
theorem d_m6_388 : decode method_6_code 388 = .ok (.invokevirtual 37, 3) := by decide +kernel
theorem d_m6_391 : decode method_6_code 391 = .ok (.aload_n 2, 1) := by decide +kernel
theorem d_m6_392 : decode method_6_code 392 = .ok (.bipush 11, 2) := by decide +kernel
theorem d_m6_394 : decode method_6_code 394 = .ok (.invokevirtual 37, 3) := by decide +kernel
theorem d_m6_397 : decode method_6_code 397 = .ok (.if_icmp .ne 7, 3) := by decide +kernel
theorem d_m6_400 : decode method_6_code 400 = .ok (.iconst 1, 1) := by decide +kernel
theorem d_m6_401 : decode method_6_code 401 = .ok (.goto 4, 3) := by decide +kernel
theorem d_m6_405 : decode method_6_code 405 = .ok (.istore 4, 2) := by decide +kernel
theorem d_m6_337 : decode method_6_code 337 = .ok (.iload 4, 2) := by decide +kernel
theorem d_m6_339 : decode method_6_code 339 = .ok (.ifCond .eq 30, 3) := by decide +kernel
theorem d_m6_342 : decode method_6_code 342 = .ok (.iload_n 3, 1) := by decide +kernel
theorem d_m6_343 : decode method_6_code 343 = .ok (.bipush 10, 2) := by decide +kernel
theorem d_m6_345 : decode method_6_code 345 = .ok (.if_icmp .le 20, 3) := by decide +kernel
theorem d_m6_348 : decode method_6_code 348 = .ok (.aload_n 0, 1) := by decide +kernel
theorem d_m6_349 : decode method_6_code 349 = .ok (.iload_n 1, 1) := by decide +kernel
theorem d_m6_350 : decode method_6_code 350 = .ok (.bipush 10, 2) := by decide +kernel
theorem d_m6_352 : decode method_6_code 352 = .ok (.iadd, 1) := by decide +kernel
theorem d_m6_353 : decode method_6_code 353 = .ok (.invokevirtual 37, 3) := by decide +kernel
theorem d_m6_356 : decode method_6_code 356 = .ok (.aload_n 2, 1) := by decide +kernel
theorem d_m6_357 : decode method_6_code 357 = .ok (.bipush 10, 2) := by decide +kernel
theorem d_m6_359 : decode method_6_code 359 = .ok (.invokevirtual 37, 3) := by decide +kernel
theorem d_m6_362 : decode method_6_code 362 = .ok (.if_icmp .ne 7, 3) := by decide +kernel
theorem d_m6_365 : decode method_6_code 365 = .ok (.iconst 1, 1) := by decide +kernel
theorem d_m6_366 : decode method_6_code 366 = .ok (.goto 4, 3) := by decide +kernel
theorem d_m6_370 : decode method_6_code 370 = .ok (.istore 4, 2) := by decide +kernel
theorem d_m6_302 : decode method_6_code 302 = .ok (.iload 4, 2) := by decide +kernel
theorem d_m6_304 : decode method_6_code 304 = .ok (.ifCond .eq 30, 3) := by decide +kernel
theorem d_m6_307 : decode method_6_code 307 = .ok (.iload_n 3, 1) := by decide +kernel
theorem d_m6_308 : decode method_6_code 308 = .ok (.bipush 9, 2) := by decide +kernel
theorem d_m6_310 : decode method_6_code 310 = .ok (.if_icmp .le 20, 3) := by decide +kernel
theorem d_m6_313 : decode method_6_code 313 = .ok (.aload_n 0, 1) := by decide +kernel
theorem d_m6_314 : decode method_6_code 314 = .ok (.iload_n 1, 1) := by decide +kernel
theorem d_m6_315 : decode method_6_code 315 = .ok (.bipush 9, 2) := by decide +kernel
theorem d_m6_317 : decode method_6_code 317 = .ok (.iadd, 1) := by decide +kernel
theorem d_m6_318 : decode method_6_code 318 = .ok (.invokevirtual 37, 3) := by decide +kernel
theorem d_m6_321 : decode method_6_code 321 = .ok (.aload_n 2, 1) := by decide +kernel
theorem d_m6_322 : decode method_6_code 322 = .ok (.bipush 9, 2) := by decide +kernel
theorem d_m6_324 : decode method_6_code 324 = .ok (.invokevirtual 37, 3) := by decide +kernel
theorem d_m6_327 : decode method_6_code 327 = .ok (.if_icmp .ne 7, 3) := by decide +kernel
theorem d_m6_330 : decode method_6_code 330 = .ok (.iconst 1, 1) := by decide +kernel
theorem d_m6_331 : decode method_6_code 331 = .ok (.goto 4, 3) := by decide +kernel
theorem d_m6_335 : decode method_6_code 335 = .ok (.istore 4, 2) := by decide +kernel
theorem d_m6_267 : decode method_6_code 267 = .ok (.iload 4, 2) := by decide +kernel
theorem d_m6_269 : decode method_6_code 269 = .ok (.ifCond .eq 30, 3) := by decide +kernel
theorem d_m6_272 : decode method_6_code 272 = .ok (.iload_n 3, 1) := by decide +kernel
theorem d_m6_273 : decode method_6_code 273 = .ok (.bipush 8, 2) := by decide +kernel
theorem d_m6_275 : decode method_6_code 275 = .ok (.if_icmp .le 20, 3) := by decide +kernel
theorem d_m6_278 : decode method_6_code 278 = .ok (.aload_n 0, 1) := by decide +kernel
theorem d_m6_279 : decode method_6_code 279 = .ok (.iload_n 1, 1) := by decide +kernel
theorem d_m6_280 : decode method_6_code 280 = .ok (.bipush 8, 2) := by decide +kernel
theorem d_m6_282 : decode method_6_code 282 = .ok (.iadd, 1) := by decide +kernel
theorem d_m6_283 : decode method_6_code 283 = .ok (.invokevirtual 37, 3) := by decide +kernel
theorem d_m6_286 : decode method_6_code 286 = .ok (.aload_n 2, 1) := by decide +kernel
theorem d_m6_287 : decode method_6_code 287 = .ok (.bipush 8, 2) := by decide +kernel
theorem d_m6_289 : decode method_6_code 289 = .ok (.invokevirtual 37, 3) := by decide +kernel
theorem d_m6_292 : decode method_6_code 292 = .ok (.if_icmp .ne 7, 3) := by decide +kernel
theorem d_m6_295 : decode method_6_code 295 = .ok (.iconst 1, 1) := by decide +kernel
theorem d_m6_296 : decode method_6_code 296 = .ok (.goto 4, 3) := by decide +kernel
theorem d_m6_300 : decode method_6_code 300 = .ok (.istore 4, 2) := by decide +kernel
theorem d_m6_232 : decode method_6_code 232 = .ok (.iload 4, 2) := by decide +kernel
theorem d_m6_234 : decode method_6_code 234 = .ok (.ifCond .eq 30, 3) := by decide +kernel
theorem d_m6_237 : decode method_6_code 237 = .ok (.iload_n 3, 1) := by decide +kernel
theorem d_m6_238 : decode method_6_code 238 = .ok (.bipush 7, 2) := by decide +kernel
theorem d_m6_240 : decode method_6_code 240 = .ok (.if_icmp .le 20, 3) := by decide +kernel
theorem d_m6_243 : decode method_6_code 243 = .ok (.aload_n 0, 1) := by decide +kernel
theorem d_m6_244 : decode method_6_code 244 = .ok (.iload_n 1, 1) := by decide +kernel
theorem d_m6_245 : decode method_6_code 245 = .ok (.bipush 7, 2) := by decide +kernel
theorem d_m6_247 : decode method_6_code 247 = .ok (.iadd, 1) := by decide +kernel
theorem d_m6_248 : decode method_6_code 248 = .ok (.invokevirtual 37, 3) := by decide +kernel
theorem d_m6_251 : decode method_6_code 251 = .ok (.aload_n 2, 1) := by decide +kernel
theorem d_m6_252 : decode method_6_code 252 = .ok (.bipush 7, 2) := by decide +kernel
theorem d_m6_254 : decode method_6_code 254 = .ok (.invokevirtual 37, 3) := by decide +kernel
theorem d_m6_257 : decode method_6_code 257 = .ok (.if_icmp .ne 7, 3) := by decide +kernel
theorem d_m6_260 : decode method_6_code 260 = .ok (.iconst 1, 1) := by decide +kernel
theorem d_m6_261 : decode method_6_code 261 = .ok (.goto 4, 3) := by decide +kernel
theorem d_m6_265 : decode method_6_code 265 = .ok (.istore 4, 2) := by decide +kernel
theorem d_m6_197 : decode method_6_code 197 = .ok (.iload 4, 2) := by decide +kernel
theorem d_m6_199 : decode method_6_code 199 = .ok (.ifCond .eq 30, 3) := by decide +kernel
theorem d_m6_202 : decode method_6_code 202 = .ok (.iload_n 3, 1) := by decide +kernel
theorem d_m6_203 : decode method_6_code 203 = .ok (.bipush 6, 2) := by decide +kernel
theorem d_m6_205 : decode method_6_code 205 = .ok (.if_icmp .le 20, 3) := by decide +kernel
theorem d_m6_208 : decode method_6_code 208 = .ok (.aload_n 0, 1) := by decide +kernel
theorem d_m6_209 : decode method_6_code 209 = .ok (.iload_n 1, 1) := by decide +kernel
theorem d_m6_210 : decode method_6_code 210 = .ok (.bipush 6, 2) := by decide +kernel
theorem d_m6_212 : decode method_6_code 212 = .ok (.iadd, 1) := by decide +kernel
theorem d_m6_213 : decode method_6_code 213 = .ok (.invokevirtual 37, 3) := by decide +kernel
theorem d_m6_216 : decode method_6_code 216 = .ok (.aload_n 2, 1) := by decide +kernel
theorem d_m6_217 : decode method_6_code 217 = .ok (.bipush 6, 2) := by decide +kernel
theorem d_m6_219 : decode method_6_code 219 = .ok (.invokevirtual 37, 3) := by decide +kernel
theorem d_m6_222 : decode method_6_code 222 = .ok (.if_icmp .ne 7, 3) := by decide +kernel
theorem d_m6_225 : decode method_6_code 225 = .ok (.iconst 1, 1) := by decide +kernel
theorem d_m6_226 : decode method_6_code 226 = .ok (.goto 4, 3) := by decide +kernel
theorem d_m6_230 : decode method_6_code 230 = .ok (.istore 4, 2) := by decide +kernel
theorem d_m6_165 : decode method_6_code 165 = .ok (.iload 4, 2) := by decide +kernel
theorem d_m6_167 : decode method_6_code 167 = .ok (.ifCond .eq 27, 3) := by decide +kernel
theorem d_m6_170 : decode method_6_code 170 = .ok (.iload_n 3, 1) := by decide +kernel
theorem d_m6_171 : decode method_6_code 171 = .ok (.iconst 5, 1) := by decide +kernel
theorem d_m6_172 : decode method_6_code 172 = .ok (.if_icmp .le 18, 3) := by decide +kernel
theorem d_m6_175 : decode method_6_code 175 = .ok (.aload_n 0, 1) := by decide +kernel
theorem d_m6_176 : decode method_6_code 176 = .ok (.iload_n 1, 1) := by decide +kernel
theorem d_m6_177 : decode method_6_code 177 = .ok (.iconst 5, 1) := by decide +kernel
theorem d_m6_178 : decode method_6_code 178 = .ok (.iadd, 1) := by decide +kernel
theorem d_m6_179 : decode method_6_code 179 = .ok (.invokevirtual 37, 3) := by decide +kernel
theorem d_m6_182 : decode method_6_code 182 = .ok (.aload_n 2, 1) := by decide +kernel
theorem d_m6_183 : decode method_6_code 183 = .ok (.iconst 5, 1) := by decide +kernel
theorem d_m6_184 : decode method_6_code 184 = .ok (.invokevirtual 37, 3) := by decide +kernel
theorem d_m6_187 : decode method_6_code 187 = .ok (.if_icmp .ne 7, 3) := by decide +kernel
theorem d_m6_190 : decode method_6_code 190 = .ok (.iconst 1, 1) := by decide +kernel
theorem d_m6_191 : decode method_6_code 191 = .ok (.goto 4, 3) := by decide +kernel
theorem d_m6_195 : decode method_6_code 195 = .ok (.istore 4, 2) := by decide +kernel
theorem d_m6_133 : decode method_6_code 133 = .ok (.iload 4, 2) := by decide +kernel
theorem d_m6_135 : decode method_6_code 135 = .ok (.ifCond .eq 27, 3) := by decide +kernel
theorem d_m6_138 : decode method_6_code 138 = .ok (.iload_n 3, 1) := by decide +kernel
theorem d_m6_139 : decode method_6_code 139 = .ok (.iconst 4, 1) := by decide +kernel
theorem d_m6_140 : decode method_6_code 140 = .ok (.if_icmp .le 18, 3) := by decide +kernel
theorem d_m6_143 : decode method_6_code 143 = .ok (.aload_n 0, 1) := by decide +kernel
theorem d_m6_144 : decode method_6_code 144 = .ok (.iload_n 1, 1) := by decide +kernel
theorem d_m6_145 : decode method_6_code 145 = .ok (.iconst 4, 1) := by decide +kernel
theorem d_m6_146 : decode method_6_code 146 = .ok (.iadd, 1) := by decide +kernel
theorem d_m6_147 : decode method_6_code 147 = .ok (.invokevirtual 37, 3) := by decide +kernel
theorem d_m6_150 : decode method_6_code 150 = .ok (.aload_n 2, 1) := by decide +kernel
theorem d_m6_151 : decode method_6_code 151 = .ok (.iconst 4, 1) := by decide +kernel
theorem d_m6_152 : decode method_6_code 152 = .ok (.invokevirtual 37, 3) := by decide +kernel
theorem d_m6_155 : decode method_6_code 155 = .ok (.if_icmp .ne 7, 3) := by decide +kernel
theorem d_m6_158 : decode method_6_code 158 = .ok (.iconst 1, 1) := by decide +kernel
theorem d_m6_159 : decode method_6_code 159 = .ok (.goto 4, 3) := by decide +kernel
theorem d_m6_163 : decode method_6_code 163 = .ok (.istore 4, 2) := by decide +kernel
theorem d_m6_101 : decode method_6_code 101 = .ok (.iload 4, 2) := by decide +kernel
theorem d_m6_103 : decode method_6_code 103 = .ok (.ifCond .eq 27, 3) := by decide +kernel
theorem d_m6_106 : decode method_6_code 106 = .ok (.iload_n 3, 1) := by decide +kernel
theorem d_m6_107 : decode method_6_code 107 = .ok (.iconst 3, 1) := by decide +kernel
theorem d_m6_108 : decode method_6_code 108 = .ok (.if_icmp .le 18, 3) := by decide +kernel
theorem d_m6_111 : decode method_6_code 111 = .ok (.aload_n 0, 1) := by decide +kernel
theorem d_m6_112 : decode method_6_code 112 = .ok (.iload_n 1, 1) := by decide +kernel
theorem d_m6_113 : decode method_6_code 113 = .ok (.iconst 3, 1) := by decide +kernel
theorem d_m6_114 : decode method_6_code 114 = .ok (.iadd, 1) := by decide +kernel
theorem d_m6_115 : decode method_6_code 115 = .ok (.invokevirtual 37, 3) := by decide +kernel
theorem d_m6_118 : decode method_6_code 118 = .ok (.aload_n 2, 1) := by decide +kernel
theorem d_m6_119 : decode method_6_code 119 = .ok (.iconst 3, 1) := by decide +kernel
theorem d_m6_120 : decode method_6_code 120 = .ok (.invokevirtual 37, 3) := by decide +kernel
theorem d_m6_123 : decode method_6_code 123 = .ok (.if_icmp .ne 7, 3) := by decide +kernel
theorem d_m6_126 : decode method_6_code 126 = .ok (.iconst 1, 1) := by decide +kernel
theorem d_m6_127 : decode method_6_code 127 = .ok (.goto 4, 3) := by decide +kernel
theorem d_m6_131 : decode method_6_code 131 = .ok (.istore 4, 2) := by decide +kernel
theorem d_m6_69 : decode method_6_code 69 = .ok (.iload 4, 2) := by decide +kernel
theorem d_m6_71 : decode method_6_code 71 = .ok (.ifCond .eq 27, 3) := by decide +kernel
theorem d_m6_74 : decode method_6_code 74 = .ok (.iload_n 3, 1) := by decide +kernel
theorem d_m6_75 : decode method_6_code 75 = .ok (.iconst 2, 1) := by decide +kernel
theorem d_m6_76 : decode method_6_code 76 = .ok (.if_icmp .le 18, 3) := by decide +kernel
theorem d_m6_79 : decode method_6_code 79 = .ok (.aload_n 0, 1) := by decide +kernel
theorem d_m6_80 : decode method_6_code 80 = .ok (.iload_n 1, 1) := by decide +kernel
theorem d_m6_81 : decode method_6_code 81 = .ok (.iconst 2, 1) := by decide +kernel
theorem d_m6_82 : decode method_6_code 82 = .ok (.iadd, 1) := by decide +kernel
theorem d_m6_83 : decode method_6_code 83 = .ok (.invokevirtual 37, 3) := by decide +kernel
theorem d_m6_86 : decode method_6_code 86 = .ok (.aload_n 2, 1) := by decide +kernel
theorem d_m6_87 : decode method_6_code 87 = .ok (.iconst 2, 1) := by decide +kernel
theorem d_m6_88 : decode method_6_code 88 = .ok (.invokevirtual 37, 3) := by decide +kernel
theorem d_m6_91 : decode method_6_code 91 = .ok (.if_icmp .ne 7, 3) := by decide +kernel
theorem d_m6_94 : decode method_6_code 94 = .ok (.iconst 1, 1) := by decide +kernel
theorem d_m6_95 : decode method_6_code 95 = .ok (.goto 4, 3) := by decide +kernel
theorem d_m6_99 : decode method_6_code 99 = .ok (.istore 4, 2) := by decide +kernel
theorem d_m6_37 : decode method_6_code 37 = .ok (.iload 4, 2) := by decide +kernel
theorem d_m6_39 : decode method_6_code 39 = .ok (.ifCond .eq 27, 3) := by decide +kernel
theorem d_m6_42 : decode method_6_code 42 = .ok (.iload_n 3, 1) := by decide +kernel
theorem d_m6_43 : decode method_6_code 43 = .ok (.iconst 1, 1) := by decide +kernel
theorem d_m6_44 : decode method_6_code 44 = .ok (.if_icmp .le 18, 3) := by decide +kernel
theorem d_m6_47 : decode method_6_code 47 = .ok (.aload_n 0, 1) := by decide +kernel
theorem d_m6_48 : decode method_6_code 48 = .ok (.iload_n 1, 1) := by decide +kernel
theorem d_m6_49 : decode method_6_code 49 = .ok (.iconst 1, 1) := by decide +kernel
theorem d_m6_50 : decode method_6_code 50 = .ok (.iadd, 1) := by decide +kernel
theorem d_m6_51 : decode method_6_code 51 = .ok (.invokevirtual 37, 3) := by decide +kernel
theorem d_m6_54 : decode method_6_code 54 = .ok (.aload_n 2, 1) := by decide +kernel
theorem d_m6_55 : decode method_6_code 55 = .ok (.iconst 1, 1) := by decide +kernel
theorem d_m6_56 : decode method_6_code 56 = .ok (.invokevirtual 37, 3) := by decide +kernel
theorem d_m6_59 : decode method_6_code 59 = .ok (.if_icmp .ne 7, 3) := by decide +kernel
theorem d_m6_62 : decode method_6_code 62 = .ok (.iconst 1, 1) := by decide +kernel
theorem d_m6_63 : decode method_6_code 63 = .ok (.goto 4, 3) := by decide +kernel
theorem d_m6_67 : decode method_6_code 67 = .ok (.istore 4, 2) := by decide +kernel
theorem d_m6_8 : decode method_6_code 8 = .ok (.iload 4, 2) := by decide +kernel
theorem d_m6_10 : decode method_6_code 10 = .ok (.ifCond .eq 24, 3) := by decide +kernel
theorem d_m6_13 : decode method_6_code 13 = .ok (.iload_n 3, 1) := by decide +kernel
theorem d_m6_14 : decode method_6_code 14 = .ok (.ifCond .le 16, 3) := by decide +kernel
theorem d_m6_17 : decode method_6_code 17 = .ok (.aload_n 0, 1) := by decide +kernel
theorem d_m6_18 : decode method_6_code 18 = .ok (.iload_n 1, 1) := by decide +kernel
theorem d_m6_19 : decode method_6_code 19 = .ok (.invokevirtual 37, 3) := by decide +kernel
theorem d_m6_22 : decode method_6_code 22 = .ok (.aload_n 2, 1) := by decide +kernel
theorem d_m6_23 : decode method_6_code 23 = .ok (.iconst 0, 1) := by decide +kernel
theorem d_m6_24 : decode method_6_code 24 = .ok (.invokevirtual 37, 3) := by decide +kernel
theorem d_m6_27 : decode method_6_code 27 = .ok (.if_icmp .ne 7, 3) := by decide +kernel
theorem d_m6_30 : decode method_6_code 30 = .ok (.iconst 1, 1) := by decide +kernel
theorem d_m6_31 : decode method_6_code 31 = .ok (.goto 4, 3) := by decide +kernel
theorem d_m6_35 : decode method_6_code 35 = .ok (.istore 4, 2) := by decide +kernel
theorem d_m4_0 : decode method_4_code 0 = .ok (.iload_n 2, 1) := by decide +kernel
theorem d_m4_1 : decode method_4_code 1 = .ok (.iconst 1, 1) := by decide +kernel
theorem d_m4_2 : decode method_4_code 2 = .ok (.if_icmp .lt 12, 3) := by decide +kernel
theorem d_m4_14 : decode method_4_code 14 = .ok (.iload_n 2, 1) := by decide +kernel
theorem d_m4_15 : decode method_4_code 15 = .ok (.iconst 2, 1) := by decide +kernel
theorem d_m4_16 : decode method_4_code 16 = .ok (.if_icmp .lt 15, 3) := by decide +kernel
theorem d_m4_31 : decode method_4_code 31 = .ok (.iconst 1, 1) := by decide +kernel
theorem d_m4_32 : decode method_4_code 32 = .ok (.goto 4, 3) := by decide +kernel
theorem d_m4_36 : decode method_4_code 36 = .ok (.ireturn, 1) := by decide +kernel
theorem d_m4_19 : decode method_4_code 19 = .ok (.aload_n 0, 1) := by decide +kernel
theorem d_m4_20 : decode method_4_code 20 = .ok (.iload_n 1, 1) := by decide +kernel
theorem d_m4_21 : decode method_4_code 21 = .ok (.iconst 1, 1) := by decide +kernel
theorem d_m4_22 : decode method_4_code 22 = .ok (.iadd, 1) := by decide +kernel
theorem d_m4_23 : decode method_4_code 23 = .ok (.invokevirtual 37, 3) := by decide +kernel
theorem d_m4_26 : decode method_4_code 26 = .ok (.iload 4, 2) := by decide +kernel
theorem d_m4_28 : decode method_4_code 28 = .ok (.if_icmp .ne 7, 3) := by decide +kernel
theorem d_m4_5 : decode method_4_code 5 = .ok (.aload_n 0, 1) := by decide +kernel
theorem d_m4_6 : decode method_4_code 6 = .ok (.iload_n 1, 1) := by decide +kernel
theorem d_m4_7 : decode method_4_code 7 = .ok (.invokevirtual 37, 3) := by decide +kernel
theorem d_m4_10 : decode method_4_code 10 = .ok (.iload_n 3, 1) := by decide +kernel
theorem d_m4_11 : decode method_4_code 11 = .ok (.if_icmp .ne 24, 3) := by decide +kernel
theorem d_m5_0 : decode method_5_code 0 = .ok (.iload_n 2, 1) := by decide +kernel
theorem d_m5_1 : decode method_5_code 1 = .ok (.ifCond .eq 27, 3) := by decide +kernel
theorem d_m5_28 : decode method_5_code 28 = .ok (.iconst 1, 1) := by decide +kernel
theorem d_m5_29 : decode method_5_code 29 = .ok (.goto 4, 3) := by decide +kernel
theorem d_m5_33 : decode method_5_code 33 = .ok (.ireturn, 1) := by decide +kernel
theorem d_m5_4 : decode method_5_code 4 = .ok (.aload_n 0, 1) := by decide +kernel
theorem d_m5_5 : decode method_5_code 5 = .ok (.iload_n 1, 1) := by decide +kernel
theorem d_m5_6 : decode method_5_code 6 = .ok (.iload_n 2, 1) := by decide +kernel
theorem d_m5_7 : decode method_5_code 7 = .ok (.iload_n 3, 1) := by decide +kernel
theorem d_m5_8 : decode method_5_code 8 = .ok (.iload 4, 2) := by decide +kernel
theorem d_m5_10 : decode method_5_code 10 = .ok (.invokestatic 33, 3) := by decide +kernel
theorem pd46 : parseMethodDescriptor "(Ljava/lang/String;IICC)Z" = some ⟨[(.object "java/lang/String"), .int, .int, .char, .char], some .boolean⟩ := by decide +kernel
theorem d_m5_13 : decode method_5_code 13 = .ok (.ifCond .eq 19, 3) := by decide +kernel
theorem d_m5_16 : decode method_5_code 16 = .ok (.aload_n 0, 1) := by decide +kernel
theorem d_m5_17 : decode method_5_code 17 = .ok (.iload_n 1, 1) := by decide +kernel
theorem d_m5_18 : decode method_5_code 18 = .ok (.iload_n 2, 1) := by decide +kernel
theorem d_m5_19 : decode method_5_code 19 = .ok (.iadd, 1) := by decide +kernel
theorem d_m5_20 : decode method_5_code 20 = .ok (.invokevirtual 37, 3) := by decide +kernel
theorem d_m5_23 : decode method_5_code 23 = .ok (.bipush 32, 2) := by decide +kernel
theorem d_m5_25 : decode method_5_code 25 = .ok (.if_icmp .ne 7, 3) := by decide +kernel
theorem pd47 : parseMethodDescriptor "(ICC)Ljava/lang/String;" = some ⟨[.int, .char, .char], some (.object "java/lang/String")⟩ := by decide +kernel
theorem pd48 : parseMethodDescriptor "(Ljava/lang/String;Ljava/lang/String;)Ljava/lang/String;" = some ⟨[(.object "java/lang/String"), (.object "java/lang/String")], some (.object "java/lang/String")⟩ := by decide +kernel
theorem pd49 : parseMethodDescriptor "(Ljava/lang/String;ILjava/lang/String;)Z" = some ⟨[(.object "java/lang/String"), .int, (.object "java/lang/String")], some .boolean⟩ := by decide +kernel

theorem lat0 : Lat [] := fun _ q => nomatch q
theorem latS {c : Int32} {cs : List Int32} (h : 0 ≤ c.toInt ∧ c.toInt ≤ 255) (L : Lat cs) : Lat (c :: cs) := fun x q => (List.mem_cons.mp q).elim (fun z => z ▸ h) (L x)
theorem m255 (x : Int32) : 0 ≤ (x &&& (255 : Int32)).toInt ∧ (x &&& (255 : Int32)).toInt ≤ 255 := c_and x 255 (by decide)
theorem t32s (i : Nat) : i.toInt32 + 1 = (i + 1).toInt32 := by
  show Int32.ofNat i + 1 = Int32.ofNat (i + 1)
  rw [Int32.ofNat_add]; rfl
theorem lo8_lo8 (x : Int32) : nar .byte x.toInt8.toInt32 = x.toInt8.toInt32 := by simp [nar]
theorem ge255 {cs : List Int32} (L : Lat cs) {i : Nat} (hi : i < cs.length) : ¬ (255 : Int32) < cs[i] := by
  have := (L _ (List.getElem_mem hi)).2
  rw [Int32.lt_iff_toInt_lt]; have e : (255 : Int32).toInt = 255 := rfl; omega
theorem cmp_set {cs : List Int32} {vs : List Value} {i : Nat} (hi : i < cs.length) (hv : vs.length = cs.length) : (by8 (cs.take i) ++ vs.drop i).set i (.int cs[i].toInt8.toInt32) = by8 (cs.take (i + 1)) ++ vs.drop (i + 1) := by
  have h1 : (by8 (cs.take i)).length = i := by simp; omega
  rw [List.set_append_right _ _ (by omega), h1, Nat.sub_self, List.drop_eq_getElem_cons (by omega : i < vs.length), List.set_cons_zero, List.take_succ_eq_append_getElem hi]
  simp only [by8, List.map_append, List.map_cons, List.map_nil, List.append_assoc, List.cons_append, List.nil_append]
theorem lt32 {a b : Nat} (ha : a < 2 ^ 31) (hb : b < 2 ^ 31) : a.toInt32 < b.toInt32 ↔ a < b := by
  rw [Int32.lt_iff_toInt_lt, (len32 ha).2.2, (len32 hb).2.2]; omega
theorem eq32 {a b : Nat} (ha : a < 2 ^ 31) (hb : b < 2 ^ 31) : a.toInt32 = b.toInt32 ↔ a = b := by
  rw [← Int32.toInt_inj, (len32 ha).2.2, (len32 hb).2.2]; omega

theorem shr0 (x : Int32) : x >>> ((0 : Int32) &&& 31) = x := by
  have e : (0 : Int32) &&& 31 = 0 := by decide
  rw [e]; simp
theorem lo8m {x : Int32} (h : 0 ≤ x.toInt ∧ x.toInt ≤ 255) : x.toInt8.toInt32 &&& (255 : Int32) = x := by
  apply Int32.toInt_inj.mp
  have e1 := c_mask x.toInt8.toInt32 255 8 (by decide) (by decide)
  rw [e1]
  have e2 := c_i2b x
  omega
theorem i2cx {x : Int32} (h : 0 ≤ x.toInt ∧ x.toInt ≤ 65535) : x.toUInt32.toUInt16.toUInt32.toInt32 = x := by
  apply Int32.toInt_inj.mp
  have e2 := c_i2c x
  omega
theorem narc {x : Int32} (h : 0 ≤ x.toInt ∧ x.toInt ≤ 65535) : narrow .char (.int x) = .int x := by
  show Value.int _ = _
  rw [i2cx h]
theorem Own.Lat.at {cs : List Int32} (L : Lat cs) {i : Nat} (hi : i < cs.length) : 0 ≤ (cs.getD i 0).toInt ∧ (cs.getD i 0).toInt ≤ 255 := by
  rw [List.getD_eq_getElem?_getD, List.getElem?_eq_getElem hi]; exact L _ (List.getElem_mem hi)
theorem to16 {x : Int} (h : 0 ≤ x ∧ x ≤ 255) : 0 ≤ x ∧ x ≤ 65535 := by omega
theorem by8_at {cs : List Int32} {i : Nat} (hi : i < cs.length) : (by8 cs)[i.toInt32.toNatClampNeg]? = some (.int (cs.getD i 0).toInt8.toInt32) ↔ i.toInt32.toNatClampNeg = i ∨ (by8 cs)[i.toInt32.toNatClampNeg]? = some (.int (cs.getD i 0).toInt8.toInt32) := by
  constructor
  · exact Or.inr
  · rintro (h | h)
    · rw [h]; simp [hi]
    · exact h
theorem by8_get {cs : List Int32} {i : Nat} (hi : i < cs.length) (hl : cs.length < 2 ^ 31) : (by8 cs)[i.toInt32.toNatClampNeg]? = some (.int (cs.getD i 0).toInt8.toInt32) := (by8_at hi).mpr (Or.inl (len32 (by omega)).2.1)
theorem lo8_inj {x y : Int32} (h : 0 ≤ x.toInt ∧ x.toInt ≤ 255) (h' : 0 ≤ y.toInt ∧ y.toInt ≤ 255) (q : x.toInt8.toInt32 = y.toInt8.toInt32) : x = y := by
  rw [← lo8m h, ← lo8m h', q]
theorem take_step {cs ds : List Int32} {i : Nat} (h : cs.take i = ds.take i) (hi : i < cs.length) (hj : i < ds.length) (e : cs.getD i 0 = ds.getD i 0) : cs.take (i + 1) = ds.take (i + 1) := by
  rw [List.take_succ_eq_append_getElem hi, List.take_succ_eq_append_getElem hj, h]
  rw [List.getD_eq_getElem?_getD, List.getElem?_eq_getElem hi, List.getD_eq_getElem?_getD, List.getElem?_eq_getElem hj] at e
  have e' : cs[i] = ds[i] := e
  rw [e']
theorem ite1 {P : Prop} [Decidable P] (h : P) : (1 : Int32) = if P then 1 else 0 := (if_pos h).symm
theorem ite0 {P : Prop} [Decidable P] (h : ¬ P) : (0 : Int32) = if P then 1 else 0 := (if_neg h).symm
theorem narb {P : Prop} [Decidable P] : narrow .boolean (.int (if P then (1 : Int32) else 0)) = .int (if P then (1 : Int32) else 0) := by split <;> decide


theorem shl0 (x : Int32) : x <<< ((0 : Int32) &&& 31) = x := by
  have e : (0 : Int32) &&& 31 = 0 := by decide
  rw [e]; simp
theorem sub32 {a b : Nat} (h : b ≤ a) (ha : a < 2 ^ 31) : a.toInt32 - b.toInt32 = (a - b).toInt32 := by
  apply Int32.toInt_inj.mp
  have e1 := c_isub a.toInt32 b.toInt32
  have e2 := rng32 (a.toInt32 - b.toInt32)
  rw [(len32 (show a < 2 ^ 31 by omega)).2.2, (len32 (show b < 2 ^ 31 by omega)).2.2] at e1
  rw [(len32 (show a - b < 2 ^ 31 by omega)).2.2]; omega
theorem add32 {a b : Nat} (h : a + b < 2 ^ 31) : a.toInt32 + b.toInt32 = (a + b).toInt32 := by
  apply Int32.toInt_inj.mp
  have e1 := c_iadd a.toInt32 b.toInt32
  have e2 := rng32 (a.toInt32 + b.toInt32)
  rw [(len32 (show a < 2 ^ 31 by omega)).2.2, (len32 (show b < 2 ^ 31 by omega)).2.2] at e1
  rw [(len32 h).2.2]; omega
theorem sub32n {a b : Nat} (h : a ≤ b) (ha : a < 2 ^ 31) (hb : b < 2 ^ 31) : ¬ (0 : Int32) < a.toInt32 - b.toInt32 := by
  rw [Int32.lt_iff_toInt_lt]
  have e1 := c_isub a.toInt32 b.toInt32
  have e2 := rng32 (a.toInt32 - b.toInt32)
  rw [(len32 ha).2.2, (len32 hb).2.2] at e1
  have e0 : (0 : Int32).toInt = 0 := rfl
  omega
theorem pos32 {a : Nat} (h : 0 < a) (ha : a < 2 ^ 31) : (0 : Int32) < a.toInt32 := by
  rw [Int32.lt_iff_toInt_lt, (len32 ha).2.2]; have e0 : (0 : Int32).toInt = 0 := rfl; omega
theorem lat_app {cs ds : List Int32} (L : Lat cs) (M : Lat ds) : Lat (cs ++ ds) := fun c hc => (List.mem_append.mp hc).elim (L c) (M c)
theorem sbc {Z : State} {h : Heap} {a v : Addr} {cs cs' : List Int32} {cap cap' : Nat} (F : Sb Z h a v cs cap) (e : cs = cs') (e' : cap = cap') : Sb Z h a v cs' cap' := by subst e e'; exact F
/-- what a builder's array grows to -/
def grow (cap need : Nat) : Nat := if need ≤ cap then cap else cap + max (need - cap) (cap + 2)
theorem grow_le (cap need : Nat) : need ≤ grow cap need := by unfold grow; split <;> omega
theorem cap_le (cap need : Nat) : cap ≤ grow cap need := by unfold grow; split <;> omega
theorem sb_take {us : List Value} {cs ds : List Int32} (h1 : cs.length ≤ us.length) (h2 : cs.length + ds.length ≤ us.length) (h3 : us.take cs.length = by8 cs) : (us.take cs.length ++ ((by8 ds).drop 0).take ds.length ++ us.drop (cs.length + ds.length)).take (cs ++ ds).length = by8 (cs ++ ds) := by
  have e : ((by8 ds).drop 0).take ds.length = by8 ds := by rw [List.drop_zero, List.take_of_length_le (by simp)]
  rw [e, h3, List.take_append_of_le_length (by simp), List.take_of_length_le (by simp)]
  simp
theorem take_cop {us vs : List Value} {j n : Nat} (hn : n = vs.length) (hj : j + n ≤ us.length) {m : Nat} (hm : m = j + n) : (us.take j ++ (vs.drop 0).take n ++ us.drop m).take m = us.take j ++ vs := by
  subst hm hn
  rw [List.drop_zero, List.take_of_length_le (Nat.le_refl _), List.take_append_of_le_length (by simp; omega), List.take_of_length_le (by simp; omega)]

def i3 (i : Int32) : Prop := i = 0 ∨ i = 1 ∨ i = 2
theorem mod3 (x : Int32) : i3 ((x &&& (255 : Int32)) % (3 : Int32)) := by
  have h1 := c_and x 255 (by decide)
  have h2 := (c_irem (x &&& 255) 3 3 (by decide)).1 h1.1
  have e0 : (0 : Int32).toInt = 0 := rfl
  have e1 : (1 : Int32).toInt = 1 := rfl
  have e2 : (2 : Int32).toInt = 2 := rfl
  have : ((x &&& (255 : Int32)) % (3 : Int32)).toInt = 0 ∨ ((x &&& (255 : Int32)) % (3 : Int32)).toInt = 1 ∨ ((x &&& (255 : Int32)) % (3 : Int32)).toInt = 2 := by omega
  rcases this with q | q | q
  · exact Or.inl (Int32.toInt_inj.mp (q.trans e0.symm))
  · exact Or.inr (Or.inl (Int32.toInt_inj.mp (q.trans e1.symm)))
  · exact Or.inr (Or.inr (Int32.toInt_inj.mp (q.trans e2.symm)))
def L8 (x : Int32) : Prop := 0 ≤ x.toInt ∧ x.toInt ≤ 255
theorem l8 (x : Int32) : L8 (x &&& (255 : Int32)) := c_and x 255 (by decide)
theorem l8c {x : Int32} (h : L8 x) : nar .char x = x := i2cx (to16 h)
def nN (i : Int32) : Nat := if i = 0 then 0 else if i = 1 then 1 else 2
def nO (i : Int32) : Nat := if i = 0 then 0 else if i = 1 then 2 else 3
def oO (i : Int32) : Int32 := if i = 0 then 0 else i + 1
def wl (n x y : Int32) : List Int32 := if n = 0 then [] else if n = 1 then [x] else [x, y]
def ownL (os : List Int32) : List Int32 := if os = [] then [] else ([] ++ os) ++ [(32 : Int32)]
def syn (cs os ts : List Int32) : List Int32 := (((((([] ++ [(106 : Int32), (97 : Int32), (118 : Int32), (97 : Int32), (32 : Int32), (45 : Int32), (106 : Int32), (97 : Int32), (114 : Int32), (32 : Int32), (99 : Int32), (111 : Int32), (109 : Int32), (112 : Int32), (101 : Int32), (110 : Int32), (100 : Int32), (105 : Int32), (111 : Int32), (46 : Int32), (106 : Int32), (97 : Int32), (114 : Int32), (32 : Int32)]) ++ cs) ++ [(32 : Int32)]) ++ ownL os) ++ [(91 : Int32), (45 : Int32), (45 : Int32), (115 : Int32), (101 : Int32), (116 : Int32), (32 : Int32), (75 : Int32), (69 : Int32), (89 : Int32), (61 : Int32), (86 : Int32), (65 : Int32), (76 : Int32), (85 : Int32), (69 : Int32), (93 : Int32), (46 : Int32), (46 : Int32), (46 : Int32), (32 : Int32)]) ++ ts)
def useL (cs os : List Int32) : List Int32 := ((((([] ++ [(85 : Int32), (115 : Int32), (97 : Int32), (103 : Int32), (101 : Int32), (58 : Int32), (32 : Int32)]) ++ syn cs os [(60 : Int32), (116 : Int32), (101 : Int32), (114 : Int32), (109 : Int32), (32 : Int32), (102 : Int32), (105 : Int32), (108 : Int32), (101 : Int32), (62 : Int32)]) ++ [(10 : Int32), (32 : Int32), (32 : Int32), (32 : Int32), (32 : Int32), (32 : Int32), (32 : Int32), (32 : Int32)]) ++ syn cs os (([] ++ [(45 : Int32), (45 : Int32), (98 : Int32), (111 : Int32), (111 : Int32), (107 : Int32)]) ++ [(32 : Int32), (60 : Int32), (100 : Int32), (105 : Int32), (114 : Int32), (101 : Int32), (99 : Int32), (116 : Int32), (111 : Int32), (114 : Int32), (121 : Int32), (62 : Int32)])) ++ [(10 : Int32), (10 : Int32)])
theorem wl_len {n x y : Int32} : (wl n x y).length ≤ 2 := by unfold wl; split; exact Nat.zero_le _; split <;> simp
theorem own_len {os : List Int32} (h : os.length ≤ 2) : (ownL os).length ≤ 3 := by unfold ownL; split <;> simp; omega
theorem syn_len (cs os ts : List Int32) : (syn cs os ts).length = 46 + cs.length + (ownL os).length + ts.length := by
  simp only [syn, List.length_append, List.length_cons, List.length_nil]; omega
def R (lc lo c0 c1 o0 o1 : Int32) : List Int32 := useL (wl lc c0 c1) (wl lo o0 o1)
/-- a literal stands at i -/
def At (cs : List Int32) (i : Nat) (ds : List Int32) : Prop := (cs.drop i).take ds.length = ds ∧ i + ds.length ≤ cs.length
theorem At.get {cs ds : List Int32} {i k : Nat} (H : At cs i ds) (hk : k < ds.length) : i + k < cs.length ∧ cs.getD (i + k) 0 = ds.getD k 0 := by
  obtain ⟨h1, h2⟩ := H
  refine ⟨by omega, ?_⟩
  have : ds[k]? = cs[i + k]? := by rw [← h1, List.getElem?_take, if_pos hk, List.getElem?_drop]
  rw [List.getD_eq_getElem?_getD, List.getD_eq_getElem?_getD, this]
def WordAt (cs : List Int32) (i : Nat) (n x y : Int32) : Prop := (¬ n < 1 → i < cs.length ∧ cs.getD i 0 = x) ∧ (¬ n < 2 → i + 1 < cs.length ∧ cs.getD (i + 1) 0 = y)
def OwnAt (cs : List Int32) (i : Nat) (n x y : Int32) : Prop := ¬ n = 0 → WordAt cs i n x y ∧ i + nN n < cs.length ∧ cs.getD (i + nN n) 0 = 32
theorem addn {i : Nat} {n : Int32} (hn : i3 n) (h : i + 2 < 2 ^ 31) : i.toInt32 + n = (i + nN n).toInt32 := by
  rcases hn with rfl | rfl | rfl
  · exact add32 (b := 0) (by omega)
  · exact add32 (b := 1) (by omega)
  · exact add32 (b := 2) (by omega)

theorem ar_start {Z : State} {args : Array Value} {t : Term} {a : Addr} {ty : FieldType} {z : Int32} {n : Nat} {vs : List Value} (et : t.eval args Z none [] Z = some (.ref a)) (w1 : (Jvm.Cond.arrayOf t ty).value args Z none Z [] = some true) (w2 : (Jvm.Cond.eq (.length t) (.int z)).value args Z none Z [] = some true) (hz : z.toInt = n) (hv : vs.length = n) (hf : ∀ v ∈ vs, fits ty v = true) (g : ∀ i, i < n → (Term.elem t (.int i.toInt32)).eval args Z none [] Z = vs[i]?) : Ar Z Z.heap a ty vs := by
  obtain ⟨c, A⟩ := Arr.start et w1
  have hl : (Term.length t).eval args Z none [] Z = some (.int z) := eqv_i (Term.int_eval z) w2
  have ha : Z.arrayAt? a = some c := A.fin (Vm.Alike.refl _)
  have hs : c.slots.size < 2 ^ 31 := by
    by_cases q : c.slots.size < 2 ^ 31
    · exact q
    · have q' : ¬ c.slots.size < 2147483648 := q
      simp [Term.eval, et, ha, q'] at hl
  have e : c.slots.size.toInt32 = z := by
    have h := len_f et ha hs
    rw [hl] at h
    injection h with h; injection h with h; exact h.symm
  have hn : c.slots.size = n := by
    have h := (len32 hs).2.2
    rw [e, hz] at h
    omega
  refine ⟨c, A, List.ext_getElem? fun i => ?_, by omega, hf⟩
  by_cases q : i < n
  · have h := len32 (n := i) (by omega)
    have h2 := elem_f et (Term.int_eval i.toInt32) ha h.1
    rw [h.2.1, g i q] at h2
    rw [Array.getElem?_toList]; exact h2.symm
  · rw [List.getElem?_eq_none (by rw [Array.length_toList]; omega), List.getElem?_eq_none (by omega)]
theorem elem_k {Z : State} {args : Array Value} {t : Term} {a : Addr} {j v : Int32} (et : t.eval args Z none [] Z = some (.ref a)) (w : (Jvm.Cond.eq (.elem t (.int j)) (.int v)).value args Z none Z [] = some true) : (Term.elem t (.int j)).eval args Z none [] Z = some (.int v) := eqv_i (Term.int_eval v) w

abbrev c_cmp5_q (Z : State) (zC : Int32) (fS : Value) (bO : Addr) (bN : Addr) (bA : Addr) (h : Heap) (B : Addr → Prop) (a d : Addr) (cs : List Int32) (vs : List Value) (xR : Value) (h' : Heap) : Prop := xR = (.int cs.length.toInt32) ∧ Keep h h' [d] ∧ Ar Z h' d .byte (by8 cs)
def c_cmp5_rm : Room := { frames := 0, cells := 0, slots := 0, locals := 0 }
set_option maxRecDepth 65536 in
set_option maxHeartbeats 40000000 in
theorem c_cmp5 {l : Launch} {Z : State} {a0 : Array Value} {zC : Int32} {fS : Value} {bO : Addr} {bN : Addr} {bA : Addr} {h : Heap} {B : Addr → Prop} {a d : Addr} {cs : List Int32} {vs : List Value} (G : Gl Z a0 zC fS bO bN bA) (hE : En Z B h) (P0 : Ar Z h a .char (cs.map Value.int)) (P1 : Ar Z h d .byte vs) (P2 : Lat cs) (P3 : vs.length = cs.length) (P4 : Z.heap.size ≤ d) (P5 : ¬ B d) : Con l Z consts_1 [] (⟨"java/lang/StringUTF16", "compress", "([CI[BII)I"⟩ : MethodName) jdk_52_method_21_code 7 (some .int) c_cmp5_rm B h #[(.ref a), (.int (0 : Int32)), (.ref d), (.int (0 : Int32)), (.int cs.length.toInt32)] (fun vR hR BR => ∃ xR, vR = some xR ∧ BR = B ∧ c_cmp5_q Z zC fS bO bN bA h B a d cs vs xR hR) := by
  have hz0 := hE.1.1
  refine Con.intro (ls := #[.val (.ref a), .val (.int (0 : Int32)), .val (.ref d), .val (.int (0 : Int32)), .val (.int cs.length.toInt32), .unset, .unset]) (plainFor_of_name pn0) G.2.1 hE (fun m => by first | rfl | (simp [entryFrame, mkF, argsToLocals, Value.category]; done) | rfl) ?_
  intro pP eE sS mM blw mth cC T hs X
  have hL := P0.len_lt; rw [List.length_map] at hL
  have hne : a ≠ d := ar_ne P0 P1 (by decide)
  have loop : ∀ (r i : Nat) (T : State) (h1 : Heap) (o : Slot), i + r = cs.length → (o = .unset ∨ ∃ x, o = .val (.int x)) → Wk l Z consts_1 (⟨"java/lang/StringUTF16", "compress", "([CI[BII)I"⟩ : MethodName) jdk_52_method_21_code 7 (some .int) c_cmp5_rm B pP eE sS mM #[(.ref a), (.int (0 : Int32)), (.ref d), (.int (0 : Int32)), (.int cs.length.toInt32)] blw mth cC B T h1 0 0 → Keep h h1 [d] → Ar Z h1 a .char (cs.map Value.int) → Ar Z h1 d .byte (by8 (cs.take i) ++ vs.drop i) → Go l Z consts_1 c_cmp5_rm B (fun vR hR BR => ∃ xR, vR = some xR ∧ BR = B ∧ c_cmp5_q Z zC fS bO bN bA h B a d cs vs xR hR) pP eE sS mM blw T 3 #[.val (.ref a), .val (.int i.toInt32), .val (.ref d), .val (.int i.toInt32), .val (.int cs.length.toInt32), .val (.int i.toInt32), o] [] := by
    intro r
    induction r with
    | zero =>
      intro i T h1 o hi ho X K A D
      obtain rfl : i = cs.length := by omega
      have D : Ar Z h1 d .byte (by8 cs) := by simpa [P3, List.drop_eq_nil_of_le] using D
      refine W.iload (pc' := 5) X d_jdk_52_m21_3 rfl rfl ?_
      refine W.iload (pc' := 7) X d_jdk_52_m21_5 rfl rfl ?_
      refine W.icT (pc' := 44) X d_jdk_52_m21_7 (XT.ii_ge_t (fun q => by rw [Int32.lt_iff_toInt_lt] at q; omega)) (by decide) (by decide) ?_
      refine W.iload (pc' := 46) X d_jdk_52_m21_44 rfl rfl ?_
      exact W.ireturn X d_jdk_52_m21_46 rfl (by decide) rfl (by decide) (by decide) ⟨_, rfl, rfl, ⟨rfl, (Keep.trans (Keep.refl h [d]) K (allS (Or.inl (List.mem_of_getElem? (i := 0) rfl)) all0)), D⟩⟩
    | succ r ih =>
      intro i T h1 o hi ho X K A D
      have hi' : i < cs.length := by omega
      rcases ho with rfl | ⟨x0, rfl⟩
      all_goals
        refine W.iload (pc' := 5) X d_jdk_52_m21_3 rfl rfl ?_
        refine W.iload (pc' := 7) X d_jdk_52_m21_5 rfl rfl ?_
        refine W.icF (pc' := 10) X d_jdk_52_m21_7 (XT.ii_ge_f ((lt32 (by omega) hL).mpr hi')) rfl ?_
        refine W.aloadN (pc' := 11) X d_jdk_52_m21_10 rfl rfl rfl ?_
        refine W.iloadN (pc' := 12) X d_jdk_52_m21_11 rfl rfl ?_
        refine W.caload (pc' := 13) (v := (.int cs[i])) X A (len32 (by omega)).1 (by rw [(len32 (by omega)).2.1]; simp [hi']) d_jdk_52_m21_12 rfl ?_
        refine W.istore (pc' := 15) (ls' := #[.val (.ref a), .val (.int i.toInt32), .val (.ref d), .val (.int i.toInt32), .val (.int cs.length.toInt32), .val (.int i.toInt32), .val (.int cs[i])]) X d_jdk_52_m21_13 rfl rfl ?_
        refine W.iload (pc' := 17) X d_jdk_52_m21_15 rfl rfl ?_
        refine W.sipush (pc' := 20) X (255 : Int32) d_jdk_52_m21_17 (by decide) rfl ?_
        refine W.icT (pc' := 26) X d_jdk_52_m21_20 (XT.ii_le_t (ge255 P2 hi')) (by decide) (by decide) ?_
        refine W.aloadN (pc' := 27) X d_jdk_52_m21_26 rfl rfl rfl ?_
        refine W.iloadN (pc' := 28) X d_jdk_52_m21_27 rfl rfl ?_
        refine W.iload (pc' := 30) X d_jdk_52_m21_28 rfl rfl ?_
        refine W.i2b (pc' := 31) (w := (cs[i]).toInt8.toInt32) X d_jdk_52_m21_30 rfl rfl ?_
        refine W.bastore (pc' := 32) (i := i) X D (len32 (by omega)).1 (len32 (by omega)).2.1 (by simp; omega) (lo8_lo8 _) P4 P5 d_jdk_52_m21_31 rfl fun T h1 X K2 A3 => ?_
        refine W.iinc (pc' := 35) (ls' := #[.val (.ref a), .val (.int (i + 1).toInt32), .val (.ref d), .val (.int i.toInt32), .val (.int cs.length.toInt32), .val (.int i.toInt32), .val (.int cs[i])]) X (1 : Int32) (w := (i + 1).toInt32) d_jdk_52_m21_32 (by decide) rfl (t32s i) rfl rfl ?_
        refine W.iinc (pc' := 38) (ls' := #[.val (.ref a), .val (.int (i + 1).toInt32), .val (.ref d), .val (.int (i + 1).toInt32), .val (.int cs.length.toInt32), .val (.int i.toInt32), .val (.int cs[i])]) X (1 : Int32) (w := (i + 1).toInt32) d_jdk_52_m21_35 (by decide) rfl (t32s i) rfl rfl ?_
        refine W.iinc (pc' := 41) (ls' := #[.val (.ref a), .val (.int (i + 1).toInt32), .val (.ref d), .val (.int (i + 1).toInt32), .val (.int cs.length.toInt32), .val (.int (i + 1).toInt32), .val (.int cs[i])]) X (1 : Int32) (w := (i + 1).toInt32) d_jdk_52_m21_38 (by decide) rfl (t32s i) rfl rfl ?_
        refine W.goto (pc' := 3) X d_jdk_52_m21_41 (by decide) (by decide) ?_
        have F4 := (A.keep K2 (ninS hne nin0))
        have D9 := A3; rw [cmp_set hi' P3] at D9
        exact ih (i + 1) T h1 _ (by omega) (Or.inr ⟨_, rfl⟩) X (K.trans K2 (allS (Or.inl (List.mem_of_getElem? (i := 0) rfl)) all0)) F4 D9
  refine W.iconst (pc' := 1) X (0 : Int32) d_jdk_52_m21_0 (by decide) rfl ?_
  refine W.istore (pc' := 3) (ls' := #[.val (.ref a), .val (.int (0 : Int32)), .val (.ref d), .val (.int (0 : Int32)), .val (.int cs.length.toInt32), .val (.int (0 : Int32)), .unset]) X d_jdk_52_m21_1 rfl rfl ?_
  exact loop cs.length 0 T h .unset (by omega) (Or.inl rfl) X (Keep.refl _ _) P0 (by simpa using P1)
def c_codl_rm : Room := { frames := 0, cells := 0, slots := 0, locals := 0 }
set_option maxRecDepth 65536 in
set_option maxHeartbeats 40000000 in
theorem c_codl {l : Launch} {Z : State} {a0 : Array Value} {zC : Int32} {fS : Value} {bO : Addr} {bN : Addr} {bA : Addr} {h : Heap} {B : Addr → Prop} {d : Addr} {vs : List Value} {n : Int32} (G : Gl Z a0 zC fS bO bN bA) (hE : En Z B h) (P0 : Ar Z h d .byte vs) (P1 : vs.length.toInt32 = n) : Con l Z consts_1 [] (⟨"java/lang/StringUTF16", "coderFromArrayLen", "([BI)B"⟩ : MethodName) jdk_52_method_15_code 2 (some .byte) c_codl_rm B h #[(.ref d), (.int n)] (fun vR hR BR => vR = some (.int (0 : Int32)) ∧ hR = h ∧ BR = B) := by
  have hz0 := hE.1.1
  refine Con.intro (ls := #[.val (.ref d), .val (.int n)]) (plainFor_of_name pn0) G.2.1 hE (fun m => by first | rfl | (simp [entryFrame, mkF, argsToLocals, Value.category]; done) | rfl) ?_
  intro pP eE sS mM blw mth cC T hs X
  refine W.iloadN (pc' := 1) X d_jdk_52_m15_0 rfl rfl ?_
  refine W.aloadN (pc' := 2) X d_jdk_52_m15_1 rfl rfl rfl ?_
  refine W.alen (pc' := 3) (z := n) X P0 P1 d_jdk_52_m15_2 rfl ?_
  refine W.isub (pc' := 4) (w := (0 : Int32)) X d_jdk_52_m15_3 (Int32.sub_self _) rfl ?_
  refine W.bipush (pc' := 6) X (31 : Int32) d_jdk_52_m15_4 (by decide) rfl ?_
  refine W.iushr (pc' := 7) (w := (0 : Int32)) X d_jdk_52_m15_6 (by decide) rfl ?_
  refine W.i2b (pc' := 8) (w := (0 : Int32)) X d_jdk_52_m15_7 (by decide) rfl ?_
  exact W.ireturn X d_jdk_52_m15_8 rfl (by decide) (by decide) (by decide) (by decide) ⟨rfl, rfl, rfl⟩
abbrev c_cmp3_q (Z : State) (zC : Int32) (fS : Value) (bO : Addr) (bN : Addr) (bA : Addr) (h : Heap) (B : Addr → Prop) (a : Addr) (cs : List Int32) (xR : Value) (h' : Heap) : Prop := ∃ (t : Addr), xR = (.ref t) ∧ Keep h h' [] ∧ h.size ≤ t ∧ Ar Z h' t .byte (by8 cs)
def c_cmp3_rm : Room := { frames := 1, cells := 1, slots := 2, locals := 18 }
set_option maxRecDepth 65536 in
set_option maxHeartbeats 40000000 in
theorem c_cmp3 {l : Launch} {Z : State} {a0 : Array Value} {zC : Int32} {fS : Value} {bO : Addr} {bN : Addr} {bA : Addr} {h : Heap} {B : Addr → Prop} {a : Addr} {cs : List Int32} (G : Gl Z a0 zC fS bO bN bA) (hE : En Z B h) (P0 : Ar Z h a .char (cs.map Value.int)) (P1 : Lat cs) (P2 : cs.length ≤ 2) : Con l Z consts_1 [] (⟨"java/lang/StringUTF16", "compress", "([CII)[B"⟩ : MethodName) jdk_52_method_16_code 6 (some (.array .byte)) c_cmp3_rm B h #[(.ref a), (.int (0 : Int32)), (.int cs.length.toInt32)] (fun vR hR BR => ∃ xR, vR = some xR ∧ BR = B ∧ c_cmp3_q Z zC fS bO bN bA h B a cs xR hR) := by
  have hz0 := hE.1.1
  refine Con.intro (ls := #[.val (.ref a), .val (.int (0 : Int32)), .val (.int cs.length.toInt32), .unset, .unset, .unset]) (plainFor_of_name pn0) G.2.1 hE (fun m => by first | rfl | (simp [entryFrame, mkF, argsToLocals, Value.category]; done) | rfl) ?_
  intro pP eE sS mM blw mth cC T hs X
  refine W.iloadN (pc' := 1) X d_jdk_52_m16_0 rfl rfl ?_
  refine W.newA (aty := .byte) (pc' := 3) (k' := 1) (n' := 2) (cap := 2) X (w23 G) d_jdk_52_m16_1 (len32 (by omega)).1 (by rw [(len32 (by omega)).2.1]; exact P2) (by decide) rfl (by decide) (by decide) (by decide) (by decide) fun T h1 a2 X K3 g4 g5 nb6 A7 => ?_
  have A7 : Ar Z h1 a2 .byte (List.replicate cs.length (.int (0 : Int32))) := by have q := A7; rw [(len32 (by omega)).2.1] at q; exact q
  refine W.astoreN (pc' := 4) (ls' := #[.val (.ref a), .val (.int (0 : Int32)), .val (.int cs.length.toInt32), .val (.ref a2), .unset, .unset]) X d_jdk_52_m16_3 rfl rfl rfl ?_
  refine W.aloadN (pc' := 5) X d_jdk_52_m16_4 rfl rfl rfl ?_
  refine W.iloadN (pc' := 6) X d_jdk_52_m16_5 rfl rfl ?_
  refine W.aloadN (pc' := 7) X d_jdk_52_m16_6 rfl rfl rfl ?_
  refine W.iconst (pc' := 8) X (0 : Int32) d_jdk_52_m16_7 (by decide) rfl ?_
  refine W.iloadN (pc' := 9) X d_jdk_52_m16_8 rfl rfl ?_
  have F8 := (P0.keep K3 nin0)
  refine W.callS (pc' := 12) (W := 0) (argsL := [(.ref a), (.int (0 : Int32)), (.ref a2), (.int (0 : Int32)), (.int cs.length.toInt32)]) (st := []) (k' := 1) (n' := 2) X (c_cmp5 (a := a) (d := a2) (cs := cs) (vs := (List.replicate cs.length (.int (0 : Int32)))) G X.en F8 A7 P1 (by simp) g5 nb6) (w24 G) (w25 G) (w26 G) (w21 G) (by decide) (by decide) (by decide) rfl (lenOf pd1 rfl) rfl rfl (Nat.le_of_eq rfl) d_jdk_52_m16_9 rfl (by decide) (by decide) (by decide) (by decide) (kr fun T h9 xr X z10 q11 => ?_)
  obtain ⟨rfl, K12, F13⟩ := q11
  refine W.istore (pc' := 14) (ls' := #[.val (.ref a), .val (.int (0 : Int32)), .val (.int cs.length.toInt32), .val (.ref a2), .val (.int cs.length.toInt32), .unset]) X d_jdk_52_m16_12 rfl rfl ?_
  refine W.iload (pc' := 16) X d_jdk_52_m16_14 rfl rfl ?_
  refine W.iloadN (pc' := 17) X d_jdk_52_m16_16 rfl rfl ?_
  refine W.icT (pc' := 57) X d_jdk_52_m16_17 (XT.ii_eq_t rfl) (by decide) (by decide) ?_
  refine W.aloadN (pc' := 58) X d_jdk_52_m16_57 rfl rfl rfl ?_
  exact W.areturn X d_jdk_52_m16_58 rfl rfl rfl rfl (by decide) (by decide) ⟨_, rfl, rfl, ⟨a2, rfl, (Keep.trans (Keep.trans (Keep.refl h []) K3 all0) K12 (allS (Or.inr (Nat.le_trans (Nat.le_refl _) g4)) all0)), (Nat.le_trans (Nat.le_refl _) g4), F13⟩⟩
abbrev c_init4_q (Z : State) (zC : Int32) (fS : Value) (bO : Addr) (bN : Addr) (bA : Addr) (h : Heap) (B : Addr → Prop) (x a : Addr) (cs : List Int32) (v0 c0 : Value) (h' : Heap) : Prop := ∃ (t : Addr), Keep h h' [x] ∧ h.size ≤ t ∧ Str Z h' x t cs
def c_init4_rm : Room := { frames := 2, cells := 1, slots := 2, locals := 35 }
set_option maxRecDepth 65536 in
set_option maxHeartbeats 40000000 in
theorem c_init4 {l : Launch} {Z : State} {a0 : Array Value} {zC : Int32} {fS : Value} {bO : Addr} {bN : Addr} {bA : Addr} {h : Heap} {B : Addr → Prop} {x a : Addr} {cs : List Int32} {v0 c0 : Value} (G : Gl Z a0 zC fS bO bN bA) (hE : En Z B h) (P0 : Exa Z h x "java/lang/String") (P1 : Fld Z h x "java/lang/String" "value" "[B" v0) (P2 : Fld Z h x "java/lang/String" "coder" "B" c0) (P3 : Ar Z h a .char (cs.map Value.int)) (P4 : Lat cs) (P5 : 0 < cs.length) (P6 : cs.length ≤ 2) (P7 : Z.heap.size ≤ x) (P8 : ¬ B x) : Con l Z consts_1 [] (⟨"java/lang/String", "<init>", "([CIILjava/lang/Void;)V"⟩ : MethodName) jdk_42_method_149_code 6 none c_init4_rm B h #[(.ref x), (.ref a), (.int (0 : Int32)), (.int cs.length.toInt32), .null] (fun vR hR BR => vR = none ∧ BR = B ∧ c_init4_q Z zC fS bO bN bA h B x a cs v0 c0 hR) := by
  have hz0 := hE.1.1
  refine Con.intro (ls := #[.val (.ref x), .val (.ref a), .val (.int (0 : Int32)), .val (.int cs.length.toInt32), .val .null, .unset]) (plainFor_of_name pn4) G.2.1 hE (fun m => by first | rfl | (simp [entryFrame, mkF, argsToLocals, Value.category]; done) | rfl) ?_
  intro pP eE sS mM blw mth cC T hs X
  refine W.aloadN (pc' := 1) X d_jdk_42_m149_0 rfl rfl rfl ?_
  refine W.initO (pc' := 4) (W := 0) X (w15 G) (w16 G) (w17 G) d_jdk_42_m149_1 rfl (by decide) (Nat.le_of_eq rfl) (by decide) rfl fun T X => ?_
  refine W.iloadN (pc' := 5) X d_jdk_42_m149_4 rfl rfl ?_
  refine W.ifT (pc' := 27) X d_jdk_42_m149_5 (XT.i0_ne_t (fun q => absurd ((eq32 (b := 0) (by omega) (by decide)).mp q) (by omega))) (by decide) (by decide) ?_
  refine W.getS (pc' := 30) (host := "") X (Or.inl (w18 G)) Via.refl G.2.2.1 d_jdk_42_m149_27 rfl fun T X => ?_
  refine W.ifF (pc' := 33) X d_jdk_42_m149_30 (XT.i0_eq_f G.2.2.2.1) rfl ?_
  refine W.aloadN (pc' := 34) X d_jdk_42_m149_33 rfl rfl rfl ?_
  refine W.iloadN (pc' := 35) X d_jdk_42_m149_34 rfl rfl ?_
  refine W.iloadN (pc' := 36) X d_jdk_42_m149_35 rfl rfl ?_
  have en1 := X.en
  refine W.callS (pc' := 39) (W := 0) (argsL := [(.ref a), (.int (0 : Int32)), (.int cs.length.toInt32)]) (st := []) (k' := 1) (n' := 2) X (c_cmp3 (a := a) (cs := cs) G X.en P3 P4 P6) (w19 G) (w20 G) (w22 G) (w21 G) (by decide) (by decide) (by decide) rfl (lenOf pd2 rfl) rfl rfl (Nat.le_of_eq rfl) d_jdk_42_m149_36 rfl (by decide) (by decide) (by decide) (by decide) (kr fun T h2 xr X z3 q4 => ?_)
  obtain ⟨a5, rfl, K6, g7, F8⟩ := q4
  have g9 : Z.heap.size ≤ a5 := Nat.le_trans (Nat.le_trans hz0 (Nat.le_refl _)) g7
  have nb10 : ¬ B a5 := fun q => absurd (en1.2 _ q) (Nat.not_lt.mpr g7)
  refine W.astore (pc' := 41) (ls' := #[.val (.ref x), .val (.ref a), .val (.int (0 : Int32)), .val (.int cs.length.toInt32), .val .null, .val (.ref a5)]) X d_jdk_42_m149_39 rfl rfl rfl ?_
  refine W.aloadN (pc' := 42) X d_jdk_42_m149_41 rfl rfl rfl ?_
  refine W.aload (pc' := 44) X d_jdk_42_m149_42 rfl rfl rfl ?_
  refine W.iloadN (pc' := 45) X d_jdk_42_m149_44 rfl rfl ?_
  refine W.callS (pc' := 48) (W := 1) (argsL := [(.ref a5), (.int cs.length.toInt32)]) (st := [(.ref x)]) (k' := 1) (n' := 2) X (c_codl (d := a5) (vs := (by8 cs)) (n := cs.length.toInt32) G X.en F8 (by simp)) (w27 G) (w28 G) (w29 G) (w21 G) (by decide) (by decide) (by decide) rfl (lenOf pd3 rfl) rfl rfl (Nat.le_of_eq rfl) d_jdk_42_m149_45 rfl (by decide) (by decide) (by decide) (by decide) (kp fun T X => ?_)
  have F11 := (P2.keep K6 nin0)
  have F12 := (P0.keep K6)
  refine W.putF (pc' := 51) X (w30 G) Via.refl F11 F12 (Or.inr ⟨(w31 G), rfl, rfl⟩) (w5 G) (ty := .byte) (by decide) (by decide) (by decide) P7 P8 d_jdk_42_m149_48 rfl fun T h13 X W14 => ?_
  have F15 := F11.same W14
  refine W.aloadN (pc' := 52) X d_jdk_42_m149_51 rfl rfl rfl ?_
  refine W.aload (pc' := 54) X d_jdk_42_m149_52 rfl rfl rfl ?_
  have F16 := ((P1.keep K6 nin0).other W14 (Or.inr (slot_ne (Or.inr (w33 G)) (Or.inr (w31 G)) (by decide) (t := (.array .byte)) (t' := .byte) (by decide) (by decide))))
  have F17 := (F12.wr W14)
  refine W.putF (pc' := 57) X (w32 G) Via.refl F16 F17 (Or.inr ⟨(w33 G), rfl, rfl⟩) (w5 G) (ty := (.array .byte)) (by decide) rfl rfl P7 P8 d_jdk_42_m149_54 rfl fun T h18 X W19 => ?_
  have F20 := F16.same W19
  have F21 := (F17.wr W19)
  have F22 := (F15.other W19 (Or.inr (slot_ne (Or.inr (w31 G)) (Or.inr (w33 G)) (by decide) (t := .byte) (t' := (.array .byte)) (by decide) (by decide))))
  have F23 := ((F8.keep (Keep.of_wr W14) (ninS (Nat.ne_of_gt (Nat.lt_of_lt_of_le P0.lt (Nat.le_trans (Nat.le_refl _) g7))) nin0)).keep (Keep.of_wr W19) (ninS (Nat.ne_of_gt (Nat.lt_of_lt_of_le P0.lt (Nat.le_trans (Nat.le_refl _) g7))) nin0))
  exact W.vreturn X d_jdk_42_m149_57 rfl (by decide) (by decide) ⟨rfl, rfl, ⟨a5, (Keep.wr (Keep.wr (Keep.trans (Keep.refl h [x]) K6 all0) W14 (Or.inl (List.mem_of_getElem? (i := 0) rfl))) W19 (Or.inl (List.mem_of_getElem? (i := 0) rfl))), (Nat.le_trans (Nat.le_refl _) g7), ⟨F21, F22, F20, F23, P4⟩⟩⟩
abbrev c_init1_q (Z : State) (zC : Int32) (fS : Value) (bO : Addr) (bN : Addr) (bA : Addr) (h : Heap) (B : Addr → Prop) (x a : Addr) (cs : List Int32) (v0 c0 : Value) (h' : Heap) : Prop := ∃ (t : Addr), Keep h h' [x] ∧ h.size ≤ t ∧ Str Z h' x t cs
def c_init1_rm : Room := { frames := 3, cells := 1, slots := 2, locals := 52 }
set_option maxRecDepth 65536 in
set_option maxHeartbeats 40000000 in
theorem c_init1 {l : Launch} {Z : State} {a0 : Array Value} {zC : Int32} {fS : Value} {bO : Addr} {bN : Addr} {bA : Addr} {h : Heap} {B : Addr → Prop} {x a : Addr} {cs : List Int32} {v0 c0 : Value} (G : Gl Z a0 zC fS bO bN bA) (hE : En Z B h) (P0 : Exa Z h x "java/lang/String") (P1 : Fld Z h x "java/lang/String" "value" "[B" v0) (P2 : Fld Z h x "java/lang/String" "coder" "B" c0) (P3 : Ar Z h a .char (cs.map Value.int)) (P4 : Lat cs) (P5 : 0 < cs.length) (P6 : cs.length ≤ 2) (P7 : Z.heap.size ≤ x) (P8 : ¬ B x) : Con l Z consts_1 [] (⟨"java/lang/String", "<init>", "([C)V"⟩ : MethodName) jdk_42_method_3_code 2 none c_init1_rm B h #[(.ref x), (.ref a)] (fun vR hR BR => vR = none ∧ BR = B ∧ c_init1_q Z zC fS bO bN bA h B x a cs v0 c0 hR) := by
  have hz0 := hE.1.1
  refine Con.intro (ls := #[.val (.ref x), .val (.ref a)]) (plainFor_of_name pn4) G.2.1 hE (fun m => by first | rfl | (simp [entryFrame, mkF, argsToLocals, Value.category]; done) | rfl) ?_
  intro pP eE sS mM blw mth cC T hs X
  refine W.aloadN (pc' := 1) X d_jdk_42_m3_0 rfl rfl rfl ?_
  refine W.aloadN (pc' := 2) X d_jdk_42_m3_1 rfl rfl rfl ?_
  refine W.iconst (pc' := 3) X (0 : Int32) d_jdk_42_m3_2 (by decide) rfl ?_
  refine W.aloadN (pc' := 4) X d_jdk_42_m3_3 rfl rfl rfl ?_
  refine W.alen (pc' := 5) (z := cs.length.toInt32) X P3 (by simp) d_jdk_42_m3_4 rfl ?_
  refine W.aconst_null (pc' := 6) X d_jdk_42_m3_5 rfl ?_
  have en1 := X.en
  refine W.callN (pc' := 9) (W := 0) (argsL := [(.ref a), (.int (0 : Int32)), (.int cs.length.toInt32), .null]) (st := []) (k' := 1) (n' := 2) (a := x) X (c_init4 (x := x) (a := a) (cs := cs) (v0 := v0) (c0 := c0) G X.en P0 P1 P2 P3 P4 P5 P6 P7 P8) rfl (w11 G) (w12 G) (w14 G) (w6 G) (by decide) (by decide) (by decide) rfl (lenOf pd5 rfl) rfl rfl (Nat.le_of_eq rfl) d_jdk_42_m3_6 rfl (by decide) (by decide) (by decide) (by decide) (kv fun T h2 X z3 q4 => ?_)
  obtain ⟨a5, K6, g7, F8⟩ := q4
  have g9 : Z.heap.size ≤ a5 := Nat.le_trans (Nat.le_trans hz0 (Nat.le_refl _)) g7
  have nb10 : ¬ B a5 := fun q => absurd (en1.2 _ q) (Nat.not_lt.mpr g7)
  exact W.vreturn X d_jdk_42_m3_9 rfl (by decide) (by decide) ⟨rfl, rfl, ⟨a5, (Keep.trans (Keep.refl h [x]) K6 (allS (Or.inl (List.mem_of_getElem? (i := 0) rfl)) all0)), (Nat.le_trans (Nat.le_refl _) g7), F8⟩⟩
def c_coder_rm : Room := { frames := 0, cells := 0, slots := 0, locals := 0 }
set_option maxRecDepth 65536 in
set_option maxHeartbeats 40000000 in
theorem c_coder {l : Launch} {Z : State} {a0 : Array Value} {zC : Int32} {fS : Value} {bO : Addr} {bN : Addr} {bA : Addr} {h : Heap} {B : Addr → Prop} {a b : Addr} {cs : List Int32} (G : Gl Z a0 zC fS bO bN bA) (hE : En Z B h) (P0 : Str Z h a b cs) : Con l Z consts_1 [] (⟨"java/lang/String", "coder", "()B"⟩ : MethodName) jdk_42_method_152_code 1 (some .byte) c_coder_rm B h #[(.ref a)] (fun vR hR BR => vR = some (.int (0 : Int32)) ∧ hR = h ∧ BR = B) := by
  have hz0 := hE.1.1
  refine Con.intro (ls := #[.val (.ref a)]) (plainFor_of_name pn4) G.2.1 hE (fun m => by first | rfl | (simp [entryFrame, mkF, argsToLocals, Value.category]; done) | rfl) ?_
  intro pP eE sS mM blw mth cC T hs X
  refine W.getS (pc' := 3) (host := "") X (Or.inl (w18 G)) Via.refl G.2.2.1 d_jdk_42_m152_0 rfl fun T X => ?_
  refine W.ifF (pc' := 6) X d_jdk_42_m152_3 (XT.i0_eq_f G.2.2.2.1) rfl ?_
  refine W.aloadN (pc' := 7) X d_jdk_42_m152_6 rfl rfl rfl ?_
  refine W.getF (pc' := 10) X (w30 G) Via.refl P0.cod d_jdk_42_m152_7 rfl fun T X => ?_
  refine W.goto (pc' := 14) X d_jdk_42_m152_10 (by decide) (by decide) ?_
  exact W.ireturn X d_jdk_42_m152_14 rfl (by decide) (by decide) (by decide) (by decide) ⟨rfl, rfl, rfl⟩
def c_len_rm : Room := { frames := 1, cells := 0, slots := 0, locals := 13 }
set_option maxRecDepth 65536 in
set_option maxHeartbeats 40000000 in
theorem c_len {l : Launch} {Z : State} {a0 : Array Value} {zC : Int32} {fS : Value} {bO : Addr} {bN : Addr} {bA : Addr} {h : Heap} {B : Addr → Prop} {a b : Addr} {cs : List Int32} (G : Gl Z a0 zC fS bO bN bA) (hE : En Z B h) (P0 : Str Z h a b cs) : Con l Z consts_1 [] (⟨"java/lang/String", "length", "()I"⟩ : MethodName) jdk_42_method_54_code 1 (some .int) c_len_rm B h #[(.ref a)] (fun vR hR BR => vR = some (.int cs.length.toInt32) ∧ hR = h ∧ BR = B) := by
  have hz0 := hE.1.1
  refine Con.intro (ls := #[.val (.ref a)]) (plainFor_of_name pn4) G.2.1 hE (fun m => by first | rfl | (simp [entryFrame, mkF, argsToLocals, Value.category]; done) | rfl) ?_
  intro pP eE sS mM blw mth cC T hs X
  refine W.aloadN (pc' := 1) X d_jdk_42_m54_0 rfl rfl rfl ?_
  refine W.getF (pc' := 4) X (w32 G) Via.refl P0.val d_jdk_42_m54_1 rfl fun T X => ?_
  refine W.alen (pc' := 5) (z := (cs).length.toInt32) X P0.arr (by simp) d_jdk_42_m54_4 rfl ?_
  refine W.aloadN (pc' := 6) X d_jdk_42_m54_5 rfl rfl rfl ?_
  refine W.callV (pc' := 9) (W := 1) (argsL := []) (st := [(.int (cs).length.toInt32)]) (k' := 0) (n' := 0) (a := a) X (c_coder (a := a) (b := b) (cs := cs) G X.en P0) (w75 G) (w76 G) (nfM (z' := (⟨"java/lang/String", "length", "()I"⟩ : MethodName)) rfl (w73 G)) (w78 G) (w77 G) P0.exa (w79 G) (w6 G) (by decide) (by decide) (by decide) rfl (lenOf pd6 rfl) rfl rfl (Nat.le_of_eq rfl) d_jdk_42_m54_6 rfl (by decide) (by decide) (by decide) (by decide) (kp fun T X => ?_)
  refine W.ishr (pc' := 10) (w := cs.length.toInt32) X d_jdk_42_m54_9 (shr0 _) rfl ?_
  exact W.ireturn X d_jdk_42_m54_10 rfl (by decide) rfl (by decide) (by decide) ⟨rfl, rfl, rfl⟩
def c_lat1_rm : Room := { frames := 0, cells := 0, slots := 0, locals := 0 }
set_option maxRecDepth 65536 in
set_option maxHeartbeats 40000000 in
theorem c_lat1 {l : Launch} {Z : State} {a0 : Array Value} {zC : Int32} {fS : Value} {bO : Addr} {bN : Addr} {bA : Addr} {h : Heap} {B : Addr → Prop} {a b : Addr} {cs : List Int32} (G : Gl Z a0 zC fS bO bN bA) (hE : En Z B h) (P0 : Str Z h a b cs) : Con l Z consts_1 [] (⟨"java/lang/String", "isLatin1", "()Z"⟩ : MethodName) jdk_42_method_154_code 1 (some .boolean) c_lat1_rm B h #[(.ref a)] (fun vR hR BR => vR = some (.int (1 : Int32)) ∧ hR = h ∧ BR = B) := by
  have hz0 := hE.1.1
  refine Con.intro (ls := #[.val (.ref a)]) (plainFor_of_name pn4) G.2.1 hE (fun m => by first | rfl | (simp [entryFrame, mkF, argsToLocals, Value.category]; done) | rfl) ?_
  intro pP eE sS mM blw mth cC T hs X
  refine W.getS (pc' := 3) (host := "") X (Or.inl (w18 G)) Via.refl G.2.2.1 d_jdk_42_m154_0 rfl fun T X => ?_
  refine W.ifF (pc' := 6) X d_jdk_42_m154_3 (XT.i0_eq_f G.2.2.2.1) rfl ?_
  refine W.aloadN (pc' := 7) X d_jdk_42_m154_6 rfl rfl rfl ?_
  refine W.getF (pc' := 10) X (w30 G) Via.refl P0.cod d_jdk_42_m154_7 rfl fun T X => ?_
  refine W.ifF (pc' := 13) X d_jdk_42_m154_10 (by decide) rfl ?_
  refine W.iconst (pc' := 14) X (1 : Int32) d_jdk_42_m154_13 (by decide) rfl ?_
  refine W.goto (pc' := 18) X d_jdk_42_m154_14 (by decide) (by decide) ?_
  exact W.ireturn X d_jdk_42_m154_18 rfl (by decide) (by decide) (by decide) (by decide) ⟨rfl, rfl, rfl⟩
def c_chk_rm : Room := { frames := 0, cells := 0, slots := 0, locals := 0 }
set_option maxRecDepth 65536 in
set_option maxHeartbeats 40000000 in
theorem c_chk {l : Launch} {Z : State} {a0 : Array Value} {zC : Int32} {fS : Value} {bO : Addr} {bN : Addr} {bA : Addr} {h : Heap} {B : Addr → Prop} {i n : Int32} {f : Value} (G : Gl Z a0 zC fS bO bN bA) (hE : En Z B h) (P0 : ¬ i < 0) (P1 : i < n) (P2 : f.isRef = true) : Con l Z consts_1 [] (⟨"jdk/internal/util/Preconditions", "checkIndex", "(IILjava/util/function/BiFunction;)I"⟩ : MethodName) jdk_41_method_11_code 3 (some .int) c_chk_rm B h #[(.int i), (.int n), f] (fun vR hR BR => vR = some (.int i) ∧ hR = h ∧ BR = B) := by
  have hz0 := hE.1.1
  refine Con.intro (ls := #[.val (.int i), .val (.int n), .val f]) (plainFor_of_name pn7) G.2.1 hE (fun m => by cases f <;> first | rfl | (exact absurd P2 (by simp [Value.isRef])) | first | rfl | (simp [entryFrame, mkF, argsToLocals, Value.category]; done) | rfl) ?_
  intro pP eE sS mM blw mth cC T hs X
  refine W.iloadN (pc' := 1) X d_jdk_41_m11_0 rfl rfl ?_
  refine W.ifF (pc' := 4) X d_jdk_41_m11_1 (XT.i0_lt_f P0) rfl ?_
  refine W.iloadN (pc' := 5) X d_jdk_41_m11_4 rfl rfl ?_
  refine W.iloadN (pc' := 6) X d_jdk_41_m11_5 rfl rfl ?_
  refine W.icT (pc' := 16) X d_jdk_41_m11_6 (XT.ii_lt_t P1) (by decide) (by decide) ?_
  refine W.iloadN (pc' := 17) X d_jdk_41_m11_16 rfl rfl ?_
  exact W.ireturn X d_jdk_41_m11_17 rfl (by decide) rfl (by decide) (by decide) ⟨rfl, rfl, rfl⟩
def c_schk_rm : Room := { frames := 1, cells := 0, slots := 0, locals := 14 }
set_option maxRecDepth 65536 in
set_option maxHeartbeats 40000000 in
theorem c_schk {l : Launch} {Z : State} {a0 : Array Value} {zC : Int32} {fS : Value} {bO : Addr} {bN : Addr} {bA : Addr} {h : Heap} {B : Addr → Prop} {i n : Int32} (G : Gl Z a0 zC fS bO bN bA) (hE : En Z B h) (P0 : ¬ i < 0) (P1 : i < n) : Con l Z consts_1 [] (⟨"java/lang/String", "checkIndex", "(II)V"⟩ : MethodName) jdk_42_method_155_code 2 none c_schk_rm B h #[(.int i), (.int n)] (fun vR hR BR => vR = none ∧ hR = h ∧ BR = B) := by
  have hz0 := hE.1.1
  refine Con.intro (ls := #[.val (.int i), .val (.int n)]) (plainFor_of_name pn4) G.2.1 hE (fun m => by first | rfl | (simp [entryFrame, mkF, argsToLocals, Value.category]; done) | rfl) ?_
  intro pP eE sS mM blw mth cC T hs X
  refine W.iloadN (pc' := 1) X d_jdk_42_m155_0 rfl rfl ?_
  refine W.iloadN (pc' := 2) X d_jdk_42_m155_1 rfl rfl ?_
  refine W.getS (pc' := 5) (host := "") X (Or.inl (w217 G)) Via.refl G.2.2.2.2.1 d_jdk_42_m155_2 rfl fun T X => ?_
  refine W.callS (pc' := 8) (W := 0) (argsL := [(.int i), (.int n), fS]) (st := []) (k' := 0) (n' := 0) X (c_chk (i := i) (n := n) (f := fS) G X.en P0 P1 G.2.2.2.2.2.1) (w219 G) (w220 G) (w221 G) (w218 G) (by decide) (by decide) (by decide) rfl (lenOf pd8 rfl) rfl rfl (Nat.le_of_eq rfl) d_jdk_42_m155_5 rfl (by decide) (by decide) (by decide) (by decide) (kp fun T X => ?_)
  refine W.popV (pc' := 9) X d_jdk_42_m155_8 rfl rfl ?_
  exact W.vreturn X d_jdk_42_m155_9 rfl (by decide) (by decide) ⟨rfl, rfl, rfl⟩
def c_l1ch_rm : Room := { frames := 2, cells := 0, slots := 0, locals := 27 }
set_option maxRecDepth 65536 in
set_option maxHeartbeats 40000000 in
theorem c_l1ch {l : Launch} {Z : State} {a0 : Array Value} {zC : Int32} {fS : Value} {bO : Addr} {bN : Addr} {bA : Addr} {h : Heap} {B : Addr → Prop} {b : Addr} {cs : List Int32} {i : Nat} (G : Gl Z a0 zC fS bO bN bA) (hE : En Z B h) (P0 : Ar Z h b .byte (by8 cs)) (P1 : Lat cs) (P2 : i < cs.length) : Con l Z consts_1 [] (⟨"java/lang/StringLatin1", "charAt", "([BI)C"⟩ : MethodName) jdk_43_method_2_code 2 (some .char) c_l1ch_rm B h #[(.ref b), (.int i.toInt32)] (fun vR hR BR => vR = some (.int (cs.getD i 0)) ∧ hR = h ∧ BR = B) := by
  have hz0 := hE.1.1
  refine Con.intro (ls := #[.val (.ref b), .val (.int i.toInt32)]) (plainFor_of_name pn10) G.2.1 hE (fun m => by first | rfl | (simp [entryFrame, mkF, argsToLocals, Value.category]; done) | rfl) ?_
  intro pP eE sS mM blw mth cC T hs X
  have hL := P0.len_lt; rw [List.length_map] at hL
  refine W.iloadN (pc' := 1) X d_jdk_43_m2_0 rfl rfl ?_
  refine W.aloadN (pc' := 2) X d_jdk_43_m2_1 rfl rfl rfl ?_
  refine W.alen (pc' := 3) (z := cs.length.toInt32) X P0 (by simp) d_jdk_43_m2_2 rfl ?_
  refine W.callS (pc' := 6) (W := 0) (argsL := [(.int i.toInt32), (.int cs.length.toInt32)]) (st := []) (k' := 0) (n' := 0) X (c_schk (i := i.toInt32) (n := cs.length.toInt32) G X.en (len32 (by omega)).1 ((lt32 (by omega) hL).mpr P2)) (w214 G) (w215 G) (w216 G) (w6 G) (by decide) (by decide) (by decide) rfl (lenOf pd9 rfl) rfl rfl (Nat.le_of_eq rfl) d_jdk_43_m2_3 rfl (by decide) (by decide) (by decide) (by decide) (kpv fun T X => ?_)
  refine W.aloadN (pc' := 7) X d_jdk_43_m2_6 rfl rfl rfl ?_
  refine W.iloadN (pc' := 8) X d_jdk_43_m2_7 rfl rfl ?_
  refine W.baload (pc' := 9) (v := (.int (cs.getD i 0).toInt8.toInt32)) X P0 (len32 (by omega)).1 (by8_get P2 hL) d_jdk_43_m2_8 rfl ?_
  refine W.sipush (pc' := 12) X (255 : Int32) d_jdk_43_m2_9 (by decide) rfl ?_
  refine W.iand (pc' := 13) (w := (cs.getD i 0)) X d_jdk_43_m2_12 (lo8m (P1.at P2)) rfl ?_
  refine W.i2c (pc' := 14) (w := (cs.getD i 0)) X d_jdk_43_m2_13 (i2cx (to16 (P1.at P2))) rfl ?_
  exact W.ireturn X d_jdk_43_m2_14 rfl (by decide) (narc (to16 (P1.at P2))) (by decide) (by decide) ⟨rfl, rfl, rfl⟩
def c_ch_rm : Room := { frames := 3, cells := 0, slots := 0, locals := 40 }
set_option maxRecDepth 65536 in
set_option maxHeartbeats 40000000 in
theorem c_ch {l : Launch} {Z : State} {a0 : Array Value} {zC : Int32} {fS : Value} {bO : Addr} {bN : Addr} {bA : Addr} {h : Heap} {B : Addr → Prop} {a b : Addr} {cs : List Int32} {i : Nat} (G : Gl Z a0 zC fS bO bN bA) (hE : En Z B h) (P0 : Str Z h a b cs) (P1 : i < cs.length) : Con l Z consts_1 [] (⟨"java/lang/String", "charAt", "(I)C"⟩ : MethodName) jdk_42_method_56_code 2 (some .char) c_ch_rm B h #[(.ref a), (.int i.toInt32)] (fun vR hR BR => vR = some (.int (cs.getD i 0)) ∧ hR = h ∧ BR = B) := by
  have hz0 := hE.1.1
  refine Con.intro (ls := #[.val (.ref a), .val (.int i.toInt32)]) (plainFor_of_name pn4) G.2.1 hE (fun m => by first | rfl | (simp [entryFrame, mkF, argsToLocals, Value.category]; done) | rfl) ?_
  intro pP eE sS mM blw mth cC T hs X
  refine W.aloadN (pc' := 1) X d_jdk_42_m56_0 rfl rfl rfl ?_
  refine W.callV (pc' := 4) (W := 0) (argsL := []) (st := []) (k' := 0) (n' := 0) (a := a) X (c_lat1 (a := a) (b := b) (cs := cs) G X.en P0) (w205 G) (w206 G) (nfM (z' := (⟨"java/lang/String", "length", "()I"⟩ : MethodName)) rfl (w73 G)) (w208 G) (w207 G) P0.exa (w209 G) (w6 G) (by decide) (by decide) (by decide) rfl (lenOf pd11 rfl) rfl rfl (Nat.le_of_eq rfl) d_jdk_42_m56_1 rfl (by decide) (by decide) (by decide) (by decide) (kp fun T X => ?_)
  refine W.ifF (pc' := 7) X d_jdk_42_m56_4 (by decide) rfl ?_
  refine W.aloadN (pc' := 8) X d_jdk_42_m56_7 rfl rfl rfl ?_
  refine W.getF (pc' := 11) X (w32 G) Via.refl P0.val d_jdk_42_m56_8 rfl fun T X => ?_
  refine W.iloadN (pc' := 12) X d_jdk_42_m56_11 rfl rfl ?_
  refine W.callS (pc' := 15) (W := 0) (argsL := [(.ref b), (.int i.toInt32)]) (st := []) (k' := 0) (n' := 0) X (c_l1ch (b := b) (cs := cs) (i := i) G X.en P0.arr P0.lat P1) (w210 G) (w211 G) (w213 G) (w212 G) (by decide) (by decide) (by decide) rfl (lenOf pd12 rfl) rfl rfl (Nat.le_of_eq rfl) d_jdk_42_m56_12 rfl (by decide) (by decide) (by decide) (by decide) (kp fun T X => ?_)
  exact W.ireturn X d_jdk_42_m56_15 rfl (by decide) (narc (to16 (P0.lat.at P1))) (by decide) (by decide) ⟨rfl, rfl, rfl⟩
def c_emp1_rm : Room := { frames := 0, cells := 0, slots := 0, locals := 0 }
set_option maxRecDepth 65536 in
set_option maxHeartbeats 40000000 in
theorem c_emp1 {l : Launch} {Z : State} {a0 : Array Value} {zC : Int32} {fS : Value} {bO : Addr} {bN : Addr} {bA : Addr} {h : Heap} {B : Addr → Prop} {a b : Addr} (G : Gl Z a0 zC fS bO bN bA) (hE : En Z B h) (P0 : Str Z h a b ([] : List Int32)) : Con l Z consts_1 [] (⟨"java/lang/String", "isEmpty", "()Z"⟩ : MethodName) jdk_42_method_55_code 1 (some .boolean) c_emp1_rm B h #[(.ref a)] (fun vR hR BR => vR = some (.int (1 : Int32)) ∧ hR = h ∧ BR = B) := by
  have hz0 := hE.1.1
  refine Con.intro (ls := #[.val (.ref a)]) (plainFor_of_name pn4) G.2.1 hE (fun m => by first | rfl | (simp [entryFrame, mkF, argsToLocals, Value.category]; done) | rfl) ?_
  intro pP eE sS mM blw mth cC T hs X
  refine W.aloadN (pc' := 1) X d_jdk_42_m55_0 rfl rfl rfl ?_
  refine W.getF (pc' := 4) X (w32 G) Via.refl P0.val d_jdk_42_m55_1 rfl fun T X => ?_
  refine W.alen (pc' := 5) (z := (0 : Int32)) X P0.arr rfl d_jdk_42_m55_4 rfl ?_
  refine W.ifF (pc' := 8) X d_jdk_42_m55_5 (by decide) rfl ?_
  refine W.iconst (pc' := 9) X (1 : Int32) d_jdk_42_m55_8 (by decide) rfl ?_
  refine W.goto (pc' := 13) X d_jdk_42_m55_9 (by decide) (by decide) ?_
  exact W.ireturn X d_jdk_42_m55_13 rfl (by decide) (by decide) (by decide) (by decide) ⟨rfl, rfl, rfl⟩
def c_emp0_rm : Room := { frames := 0, cells := 0, slots := 0, locals := 0 }
set_option maxRecDepth 65536 in
set_option maxHeartbeats 40000000 in
theorem c_emp0 {l : Launch} {Z : State} {a0 : Array Value} {zC : Int32} {fS : Value} {bO : Addr} {bN : Addr} {bA : Addr} {h : Heap} {B : Addr → Prop} {a b : Addr} {cs : List Int32} (G : Gl Z a0 zC fS bO bN bA) (hE : En Z B h) (P0 : Str Z h a b cs) (P1 : 0 < cs.length) : Con l Z consts_1 [] (⟨"java/lang/String", "isEmpty", "()Z"⟩ : MethodName) jdk_42_method_55_code 1 (some .boolean) c_emp0_rm B h #[(.ref a)] (fun vR hR BR => vR = some (.int (0 : Int32)) ∧ hR = h ∧ BR = B) := by
  have hz0 := hE.1.1
  refine Con.intro (ls := #[.val (.ref a)]) (plainFor_of_name pn4) G.2.1 hE (fun m => by first | rfl | (simp [entryFrame, mkF, argsToLocals, Value.category]; done) | rfl) ?_
  intro pP eE sS mM blw mth cC T hs X
  refine W.aloadN (pc' := 1) X d_jdk_42_m55_0 rfl rfl rfl ?_
  refine W.getF (pc' := 4) X (w32 G) Via.refl P0.val d_jdk_42_m55_1 rfl fun T X => ?_
  refine W.alen (pc' := 5) (z := (cs).length.toInt32) X P0.arr (by simp) d_jdk_42_m55_4 rfl ?_
  refine W.ifT (pc' := 12) X d_jdk_42_m55_5 (XT.i0_ne_t (fun q => absurd ((eq32 (b := 0) P0.len_lt (by decide)).mp q) (by omega))) (by decide) (by decide) ?_
  refine W.iconst (pc' := 13) X (0 : Int32) d_jdk_42_m55_12 (by decide) rfl ?_
  exact W.ireturn X d_jdk_42_m55_13 rfl (by decide) (by decide) (by decide) (by decide) ⟨rfl, rfl, rfl⟩
def c_max_rm : Room := { frames := 0, cells := 0, slots := 0, locals := 0 }
set_option maxRecDepth 65536 in
set_option maxHeartbeats 40000000 in
theorem c_max {l : Launch} {Z : State} {a0 : Array Value} {zC : Int32} {fS : Value} {bO : Addr} {bN : Addr} {bA : Addr} {h : Heap} {B : Addr → Prop} {a b : Nat} (G : Gl Z a0 zC fS bO bN bA) (hE : En Z B h) (P0 : a < 2 ^ 31) (P1 : b < 2 ^ 31) : Con l Z consts_1 [] (⟨"java/lang/Math", "max", "(II)I"⟩ : MethodName) jdk_29_method_65_code 2 (some .int) c_max_rm B h #[(.int a.toInt32), (.int b.toInt32)] (fun vR hR BR => vR = some (.int (max a b).toInt32) ∧ hR = h ∧ BR = B) := by
  have hz0 := hE.1.1
  refine Con.intro (ls := #[.val (.int a.toInt32), .val (.int b.toInt32)]) pn13 G.2.1 hE (fun m => by first | rfl | (simp [entryFrame, mkF, argsToLocals, Value.category]; done) | rfl) ?_
  intro pP eE sS mM blw mth cC T hs X
  refine W.iloadN (pc' := 1) X d_jdk_29_m65_0 rfl rfl ?_
  refine W.iloadN (pc' := 2) X d_jdk_29_m65_1 rfl rfl ?_
  by_cases hq : a.toInt32 < b.toInt32
  · skip
    refine W.icT (pc' := 9) X d_jdk_29_m65_2 (XT.ii_lt_t hq) (by decide) (by decide) ?_
    refine W.iloadN (pc' := 10) X d_jdk_29_m65_9 rfl rfl ?_
    exact W.ireturn X d_jdk_29_m65_10 rfl (by decide) rfl (by decide) (by decide) ⟨(by rw [Nat.max_eq_right (Nat.le_of_lt ((lt32 P0 P1).mp hq))]), rfl, rfl⟩
  · skip
    refine W.icF (pc' := 5) X d_jdk_29_m65_2 (XT.ii_lt_f hq) rfl ?_
    refine W.iloadN (pc' := 6) X d_jdk_29_m65_5 rfl rfl ?_
    refine W.goto (pc' := 10) X d_jdk_29_m65_6 (by decide) (by decide) ?_
    exact W.ireturn X d_jdk_29_m65_10 rfl (by decide) rfl (by decide) (by decide) ⟨(by rw [Nat.max_eq_left (Nat.le_of_not_lt fun q => hq ((lt32 P0 P1).mpr q))]), rfl, rfl⟩
def c_min_rm : Room := { frames := 0, cells := 0, slots := 0, locals := 0 }
set_option maxRecDepth 65536 in
set_option maxHeartbeats 40000000 in
theorem c_min {l : Launch} {Z : State} {a0 : Array Value} {zC : Int32} {fS : Value} {bO : Addr} {bN : Addr} {bA : Addr} {h : Heap} {B : Addr → Prop} {a b : Nat} (G : Gl Z a0 zC fS bO bN bA) (hE : En Z B h) (P0 : a < 2 ^ 31) (P1 : b < 2 ^ 31) : Con l Z consts_1 [] (⟨"java/lang/Math", "min", "(II)I"⟩ : MethodName) jdk_29_method_69_code 2 (some .int) c_min_rm B h #[(.int a.toInt32), (.int b.toInt32)] (fun vR hR BR => vR = some (.int (min a b).toInt32) ∧ hR = h ∧ BR = B) := by
  have hz0 := hE.1.1
  refine Con.intro (ls := #[.val (.int a.toInt32), .val (.int b.toInt32)]) pn14 G.2.1 hE (fun m => by first | rfl | (simp [entryFrame, mkF, argsToLocals, Value.category]; done) | rfl) ?_
  intro pP eE sS mM blw mth cC T hs X
  refine W.iloadN (pc' := 1) X d_jdk_29_m69_0 rfl rfl ?_
  refine W.iloadN (pc' := 2) X d_jdk_29_m69_1 rfl rfl ?_
  by_cases hq : b.toInt32 < a.toInt32
  · skip
    refine W.icT (pc' := 9) X d_jdk_29_m69_2 (XT.ii_gt_t hq) (by decide) (by decide) ?_
    refine W.iloadN (pc' := 10) X d_jdk_29_m69_9 rfl rfl ?_
    exact W.ireturn X d_jdk_29_m69_10 rfl (by decide) rfl (by decide) (by decide) ⟨(by rw [Nat.min_eq_right (Nat.le_of_lt ((lt32 P1 P0).mp hq))]), rfl, rfl⟩
  · skip
    refine W.icF (pc' := 5) X d_jdk_29_m69_2 (XT.ii_gt_f hq) rfl ?_
    refine W.iloadN (pc' := 6) X d_jdk_29_m69_5 rfl rfl ?_
    refine W.goto (pc' := 10) X d_jdk_29_m69_6 (by decide) (by decide) ?_
    exact W.ireturn X d_jdk_29_m69_10 rfl (by decide) rfl (by decide) (by decide) ⟨(by rw [Nat.min_eq_left (Nat.le_of_not_lt fun q => hq ((lt32 P1 P0).mpr q))]), rfl, rfl⟩
abbrev c_copyOf_q (Z : State) (zC : Int32) (fS : Value) (bO : Addr) (bN : Addr) (bA : Addr) (h : Heap) (B : Addr → Prop) (a : Addr) (vs : List Value) (n : Nat) (xR : Value) (h' : Heap) : Prop := ∃ (t : Addr), xR = (.ref t) ∧ Keep h h' [] ∧ h.size ≤ t ∧ Ar Z h' t .byte (vs ++ List.replicate (n - vs.length) (.int (0 : Int32)))
def c_copyOf_rm : Room := { frames := 1, cells := 1, slots := 290, locals := 18 }
set_option maxRecDepth 65536 in
set_option maxHeartbeats 40000000 in
theorem c_copyOf {l : Launch} {Z : State} {a0 : Array Value} {zC : Int32} {fS : Value} {bO : Addr} {bN : Addr} {bA : Addr} {h : Heap} {B : Addr → Prop} {a : Addr} {vs : List Value} {n : Nat} (G : Gl Z a0 zC fS bO bN bA) (hE : En Z B h) (P0 : Ar Z h a .byte vs) (P1 : vs.length < n) (P2 : n ≤ 290) : Con l Z consts_1 [] (⟨"java/util/Arrays", "copyOf", "([BI)[B"⟩ : MethodName) jdk_65_method_121_code 3 (some (.array .byte)) c_copyOf_rm B h #[(.ref a), (.int n.toInt32)] (fun vR hR BR => ∃ xR, vR = some xR ∧ BR = B ∧ c_copyOf_q Z zC fS bO bN bA h B a vs n xR hR) := by
  have hz0 := hE.1.1
  refine Con.intro (ls := #[.val (.ref a), .val (.int n.toInt32), .unset]) (plainFor_of_name pn16) G.2.1 hE (fun m => by first | rfl | (simp [entryFrame, mkF, argsToLocals, Value.category]; done) | rfl) ?_
  intro pP eE sS mM blw mth cC T hs X
  have hL := P0.len_lt
  refine W.iloadN (pc' := 1) X d_jdk_65_m121_0 rfl rfl ?_
  refine W.aloadN (pc' := 2) X d_jdk_65_m121_1 rfl rfl rfl ?_
  refine W.alen (pc' := 3) (z := (vs).length.toInt32) X P0 rfl d_jdk_65_m121_2 rfl ?_
  refine W.icT (pc' := 14) X d_jdk_65_m121_3 (XT.ii_ne_t (fun q => by have := (eq32 (by omega) P0.len_lt).mp q; omega)) (by decide) (by decide) ?_
  refine W.iloadN (pc' := 15) X d_jdk_65_m121_14 rfl rfl ?_
  refine W.newA (aty := .byte) (pc' := 17) (k' := 1) (n' := 290) (cap := 290) X (w23 G) d_jdk_65_m121_15 (len32 (by omega)).1 (by rw [(len32 (by omega)).2.1]; exact P2) (by decide) rfl (by decide) (by decide) (by decide) (by decide) fun T h1 a2 X K3 g4 g5 nb6 A7 => ?_
  have A7 : Ar Z h1 a2 .byte (List.replicate n (.int (0 : Int32))) := by have q := A7; rw [(len32 (by omega)).2.1] at q; exact q
  refine W.astoreN (pc' := 18) (ls' := #[.val (.ref a), .val (.int n.toInt32), .val (.ref a2)]) X d_jdk_65_m121_17 rfl rfl rfl ?_
  refine W.aloadN (pc' := 19) X d_jdk_65_m121_18 rfl rfl rfl ?_
  refine W.iconst (pc' := 20) X (0 : Int32) d_jdk_65_m121_19 (by decide) rfl ?_
  refine W.aloadN (pc' := 21) X d_jdk_65_m121_20 rfl rfl rfl ?_
  refine W.iconst (pc' := 22) X (0 : Int32) d_jdk_65_m121_21 (by decide) rfl ?_
  refine W.aloadN (pc' := 23) X d_jdk_65_m121_22 rfl rfl rfl ?_
  have F8 := (P0.keep K3 nin0)
  refine W.alen (pc' := 24) (z := (vs).length.toInt32) X F8 rfl d_jdk_65_m121_23 rfl ?_
  refine W.iloadN (pc' := 25) X d_jdk_65_m121_24 rfl rfl ?_
  refine W.callS (pc' := 28) (W := 4) (argsL := [(.int (vs).length.toInt32), (.int n.toInt32)]) (st := [(.int (0 : Int32)), (.ref a2), (.int (0 : Int32)), (.ref a)]) (k' := 1) (n' := 290) X (c_min (a := vs.length) (b := n) G X.en (by omega) (by omega)) (w137 G) (w138 G) (w139 G) (w129 G) (by decide) (by decide) (by decide) rfl (lenOf pd15 rfl) rfl rfl (Nat.le_of_eq rfl) d_jdk_65_m121_25 rfl (by decide) (by decide) (by decide) (by decide) (kp fun T X => ?_)
  refine W.acopy (pc' := 31) (W := 0) (i := 0) (j := 0) (len := vs.length) X F8 A7 (w140 G) (w106 G) (w104 G) (w105 G) rfl rfl rfl (by rw [Nat.min_eq_left (by omega)]) (by omega) (by simp; omega) g5 nb6 rfl (by decide) (Nat.le_of_eq rfl) (by decide) d_jdk_65_m121_28 rfl fun T h9 X K10 A11 => ?_
  have A11 : Ar Z h9 a2 .byte (vs ++ List.replicate (n - vs.length) (.int (0 : Int32))) := (by have q := A11; rw [List.drop_zero, List.take_of_length_le (Nat.le_refl _), List.take_zero, List.nil_append, Nat.zero_add, List.drop_replicate] at q; exact q)
  refine W.aloadN (pc' := 32) X d_jdk_65_m121_31 rfl rfl rfl ?_
  exact W.areturn X d_jdk_65_m121_32 rfl rfl rfl rfl (by decide) (by decide) ⟨_, rfl, rfl, ⟨a2, rfl, (Keep.trans (Keep.trans (Keep.refl h []) K3 all0) K10 (allS (Or.inr (Nat.le_trans (Nat.le_refl _) g4)) all0)), (Nat.le_trans (Nat.le_refl _) g4), A11⟩⟩
def c_newLen_rm : Room := { frames := 1, cells := 0, slots := 0, locals := 14 }
set_option maxRecDepth 65536 in
set_option maxHeartbeats 40000000 in
theorem c_newLen {l : Launch} {Z : State} {a0 : Array Value} {zC : Int32} {fS : Value} {bO : Addr} {bN : Addr} {bA : Addr} {h : Heap} {B : Addr → Prop} {o g q : Nat} (G : Gl Z a0 zC fS bO bN bA) (hE : En Z B h) (P0 : 0 < o + max g q) (P1 : o + max g q ≤ 1000000) : Con l Z consts_1 [] (⟨"jdk/internal/util/ArraysSupport", "newLength", "(III)I"⟩ : MethodName) jdk_48_method_27_code 4 (some .int) c_newLen_rm B h #[(.int o.toInt32), (.int g.toInt32), (.int q.toInt32)] (fun vR hR BR => vR = some (.int (o + max g q).toInt32) ∧ hR = h ∧ BR = B) := by
  have hz0 := hE.1.1
  refine Con.intro (ls := #[.val (.int o.toInt32), .val (.int g.toInt32), .val (.int q.toInt32), .unset]) (plainFor_of_name pn17) G.2.1 hE (fun m => by first | rfl | (simp [entryFrame, mkF, argsToLocals, Value.category]; done) | rfl) ?_
  intro pP eE sS mM blw mth cC T hs X
  refine W.iloadN (pc' := 1) X d_jdk_48_m27_0 rfl rfl ?_
  refine W.iloadN (pc' := 2) X d_jdk_48_m27_1 rfl rfl ?_
  refine W.iloadN (pc' := 3) X d_jdk_48_m27_2 rfl rfl ?_
  refine W.callS (pc' := 6) (W := 1) (argsL := [(.int g.toInt32), (.int q.toInt32)]) (st := [(.int o.toInt32)]) (k' := 0) (n' := 0) X (c_max (a := g) (b := q) G X.en (by omega) (by omega)) (w127 G) (w128 G) (w130 G) (w129 G) (by decide) (by decide) (by decide) rfl (lenOf pd15 rfl) rfl rfl (Nat.le_of_eq rfl) d_jdk_48_m27_3 rfl (by decide) (by decide) (by decide) (by decide) (kp fun T X => ?_)
  refine W.iadd (pc' := 7) (w := (o + max g q).toInt32) X d_jdk_48_m27_6 (add32 (by omega)) rfl ?_
  refine W.istoreN (pc' := 8) (ls' := #[.val (.int o.toInt32), .val (.int g.toInt32), .val (.int q.toInt32), .val (.int (o + max g q).toInt32)]) X d_jdk_48_m27_7 rfl rfl ?_
  refine W.iconst (pc' := 9) X (0 : Int32) d_jdk_48_m27_8 (by decide) rfl ?_
  refine W.iloadN (pc' := 10) X d_jdk_48_m27_9 rfl rfl ?_
  refine W.icF (pc' := 13) X d_jdk_48_m27_10 (XT.ii_ge_f (pos32 P0 (by omega))) rfl ?_
  refine W.iloadN (pc' := 14) X d_jdk_48_m27_13 rfl rfl ?_
  refine W.ldcI (pc' := 16) X (w131 G) d_jdk_48_m27_14 rfl ?_
  refine W.icF (pc' := 19) X d_jdk_48_m27_16 (XT.ii_gt_f (fun z => by rw [Int32.lt_iff_toInt_lt, (len32 (by omega)).2.2] at z; have e : (2147483639 : Int32).toInt = 2147483639 := rfl; omega)) rfl ?_
  refine W.iloadN (pc' := 20) X d_jdk_48_m27_19 rfl rfl ?_
  exact W.ireturn X d_jdk_48_m27_20 rfl (by decide) rfl (by decide) (by decide) ⟨rfl, rfl, rfl⟩
def c_newCap_rm : Room := { frames := 2, cells := 0, slots := 0, locals := 29 }
set_option maxRecDepth 65536 in
set_option maxHeartbeats 40000000 in
theorem c_newCap {l : Launch} {Z : State} {a0 : Array Value} {zC : Int32} {fS : Value} {bO : Addr} {bN : Addr} {bA : Addr} {h : Heap} {B : Addr → Prop} {a v : Addr} {vs : List Value} {n : Nat} (G : Gl Z a0 zC fS bO bN bA) (hE : En Z B h) (P0 : Fld Z h a "java/lang/AbstractStringBuilder" "value" "[B" (.ref v)) (P1 : Fld Z h a "java/lang/AbstractStringBuilder" "coder" "B" (.int (0 : Int32))) (P2 : Ar Z h v .byte vs) (P3 : vs.length < n) (P4 : grow vs.length n ≤ 290) : Con l Z consts_1 [] (⟨"java/lang/AbstractStringBuilder", "newCapacity", "(I)I"⟩ : MethodName) jdk_68_method_10_code 6 (some .int) c_newCap_rm B h #[(.ref a), (.int n.toInt32)] (fun vR hR BR => vR = some (.int (grow vs.length n).toInt32) ∧ hR = h ∧ BR = B) := by
  have hz0 := hE.1.1
  refine Con.intro (ls := #[.val (.ref a), .val (.int n.toInt32), .unset, .unset, .unset, .unset]) (plainFor_of_name pn19) G.2.1 hE (fun m => by first | rfl | (simp [entryFrame, mkF, argsToLocals, Value.category]; done) | rfl) ?_
  intro pP eE sS mM blw mth cC T hs X
  have hL := P2.len_lt
  have hg : grow vs.length n = vs.length + max (n - vs.length) (vs.length + 2) := by unfold grow; rw [if_neg (by omega)]
  have hb : vs.length + max (n - vs.length) (vs.length + 2) ≤ 290 := by omega
  refine W.aloadN (pc' := 1) X d_jdk_68_m10_0 rfl rfl rfl ?_
  refine W.getF (pc' := 4) X (w55 G) Via.refl P0 d_jdk_68_m10_1 rfl fun T X => ?_
  refine W.alen (pc' := 5) (z := (vs).length.toInt32) X P2 rfl d_jdk_68_m10_4 rfl ?_
  refine W.istoreN (pc' := 6) (ls' := #[.val (.ref a), .val (.int n.toInt32), .val (.int (vs).length.toInt32), .unset, .unset, .unset]) X d_jdk_68_m10_5 rfl rfl ?_
  refine W.iloadN (pc' := 7) X d_jdk_68_m10_6 rfl rfl ?_
  refine W.aloadN (pc' := 8) X d_jdk_68_m10_7 rfl rfl rfl ?_
  refine W.getF (pc' := 11) X (w57 G) Via.refl P1 d_jdk_68_m10_8 rfl fun T X => ?_
  refine W.ishl (pc' := 12) (w := n.toInt32) X d_jdk_68_m10_11 (shl0 _) rfl ?_
  refine W.istoreN (pc' := 13) (ls' := #[.val (.ref a), .val (.int n.toInt32), .val (.int (vs).length.toInt32), .val (.int n.toInt32), .unset, .unset]) X d_jdk_68_m10_12 rfl rfl ?_
  refine W.iloadN (pc' := 14) X d_jdk_68_m10_13 rfl rfl ?_
  refine W.iloadN (pc' := 15) X d_jdk_68_m10_14 rfl rfl ?_
  refine W.isub (pc' := 16) (w := (n - vs.length).toInt32) X d_jdk_68_m10_15 (sub32 (by omega) (by omega)) rfl ?_
  refine W.istore (pc' := 18) (ls' := #[.val (.ref a), .val (.int n.toInt32), .val (.int (vs).length.toInt32), .val (.int n.toInt32), .val (.int (n - vs.length).toInt32), .unset]) X d_jdk_68_m10_16 rfl rfl ?_
  refine W.iloadN (pc' := 19) X d_jdk_68_m10_18 rfl rfl ?_
  refine W.iload (pc' := 21) X d_jdk_68_m10_19 rfl rfl ?_
  refine W.iloadN (pc' := 22) X d_jdk_68_m10_21 rfl rfl ?_
  refine W.iconst (pc' := 23) X (2 : Int32) d_jdk_68_m10_22 (by decide) rfl ?_
  refine W.aloadN (pc' := 24) X d_jdk_68_m10_23 rfl rfl rfl ?_
  refine W.getF (pc' := 27) X (w57 G) Via.refl P1 d_jdk_68_m10_24 rfl fun T X => ?_
  refine W.ishl (pc' := 28) (w := (2 : Int32)) X d_jdk_68_m10_27 (by decide) rfl ?_
  refine W.iadd (pc' := 29) (w := (vs.length + 2).toInt32) X d_jdk_68_m10_28 (add32 (b := 2) (by omega)) rfl ?_
  refine W.callS (pc' := 32) (W := 0) (argsL := [(.int (vs).length.toInt32), (.int (n - vs.length).toInt32), (.int (vs.length + 2).toInt32)]) (st := []) (k' := 0) (n' := 0) X (c_newLen (o := vs.length) (g := (n - vs.length)) (q := (vs.length + 2)) G X.en (by omega) (by omega)) (w123 G) (w124 G) (w126 G) (w125 G) (by decide) (by decide) (by decide) rfl (lenOf pd18 rfl) rfl rfl (Nat.le_of_eq rfl) d_jdk_68_m10_29 rfl (by decide) (by decide) (by decide) (by decide) (kp fun T X => ?_)
  refine W.istore (pc' := 34) (ls' := #[.val (.ref a), .val (.int n.toInt32), .val (.int (vs).length.toInt32), .val (.int n.toInt32), .val (.int (n - vs.length).toInt32), .val (.int (vs.length + max (n - vs.length) (vs.length + 2)).toInt32)]) X d_jdk_68_m10_32 rfl rfl ?_
  refine W.iload (pc' := 36) X d_jdk_68_m10_34 rfl rfl ?_
  refine W.ldcI (pc' := 38) X (w132 G) d_jdk_68_m10_36 rfl ?_
  refine W.icT (pc' := 51) X d_jdk_68_m10_38 (XT.ii_ne_t (fun z => by have := congrArg Int32.toInt z; rw [(len32 (by omega)).2.2] at this; have e : (2147483647 : Int32).toInt = 2147483647 := rfl; omega)) (by decide) (by decide) ?_
  refine W.iload (pc' := 53) X d_jdk_68_m10_51 rfl rfl ?_
  refine W.aloadN (pc' := 54) X d_jdk_68_m10_53 rfl rfl rfl ?_
  refine W.getF (pc' := 57) X (w57 G) Via.refl P1 d_jdk_68_m10_54 rfl fun T X => ?_
  refine W.ishr (pc' := 58) (w := (vs.length + max (n - vs.length) (vs.length + 2)).toInt32) X d_jdk_68_m10_57 (shr0 _) rfl ?_
  exact W.ireturn X d_jdk_68_m10_58 rfl (by decide) rfl (by decide) (by decide) ⟨(by rw [hg]), rfl, rfl⟩
def c_ens0_rm : Room := { frames := 0, cells := 0, slots := 0, locals := 0 }
set_option maxRecDepth 65536 in
set_option maxHeartbeats 40000000 in
theorem c_ens0 {l : Launch} {Z : State} {a0 : Array Value} {zC : Int32} {fS : Value} {bO : Addr} {bN : Addr} {bA : Addr} {h : Heap} {B : Addr → Prop} {a v : Addr} {vs : List Value} {n : Nat} (G : Gl Z a0 zC fS bO bN bA) (hE : En Z B h) (P0 : Fld Z h a "java/lang/AbstractStringBuilder" "value" "[B" (.ref v)) (P1 : Fld Z h a "java/lang/AbstractStringBuilder" "coder" "B" (.int (0 : Int32))) (P2 : Ar Z h v .byte vs) (P3 : n ≤ vs.length) : Con l Z consts_1 [] (⟨"java/lang/AbstractStringBuilder", "ensureCapacityInternal", "(I)V"⟩ : MethodName) jdk_68_method_9_code 3 none c_ens0_rm B h #[(.ref a), (.int n.toInt32)] (fun vR hR BR => vR = none ∧ hR = h ∧ BR = B) := by
  have hz0 := hE.1.1
  refine Con.intro (ls := #[.val (.ref a), .val (.int n.toInt32), .unset]) (plainFor_of_name pn19) G.2.1 hE (fun m => by first | rfl | (simp [entryFrame, mkF, argsToLocals, Value.category]; done) | rfl) ?_
  intro pP eE sS mM blw mth cC T hs X
  refine W.aloadN (pc' := 1) X d_jdk_68_m9_0 rfl rfl rfl ?_
  refine W.getF (pc' := 4) X (w55 G) Via.refl P0 d_jdk_68_m9_1 rfl fun T X => ?_
  refine W.alen (pc' := 5) (z := (vs).length.toInt32) X P2 rfl d_jdk_68_m9_4 rfl ?_
  refine W.aloadN (pc' := 6) X d_jdk_68_m9_5 rfl rfl rfl ?_
  refine W.getF (pc' := 9) X (w57 G) Via.refl P1 d_jdk_68_m9_6 rfl fun T X => ?_
  refine W.ishr (pc' := 10) (w := vs.length.toInt32) X d_jdk_68_m9_9 (shr0 _) rfl ?_
  refine W.istoreN (pc' := 11) (ls' := #[.val (.ref a), .val (.int n.toInt32), .val (.int vs.length.toInt32)]) X d_jdk_68_m9_10 rfl rfl ?_
  refine W.iloadN (pc' := 12) X d_jdk_68_m9_11 rfl rfl ?_
  refine W.iloadN (pc' := 13) X d_jdk_68_m9_12 rfl rfl ?_
  refine W.isub (pc' := 14) (w := (n.toInt32 - vs.length.toInt32)) X d_jdk_68_m9_13 rfl rfl ?_
  refine W.ifT (pc' := 38) X d_jdk_68_m9_14 (XT.i0_le_t (sub32n P3 (by have := P2.len_lt; omega) P2.len_lt)) (by decide) (by decide) ?_
  exact W.vreturn X d_jdk_68_m9_38 rfl (by decide) (by decide) ⟨rfl, rfl, rfl⟩
abbrev c_ens1_q (Z : State) (zC : Int32) (fS : Value) (bO : Addr) (bN : Addr) (bA : Addr) (h : Heap) (B : Addr → Prop) (a v : Addr) (vs : List Value) (n : Nat) (cn : Value) (h' : Heap) : Prop := ∃ (t : Addr), Keep h h' [a] ∧ h.size ≤ t ∧ Fld Z h' a "java/lang/AbstractStringBuilder" "value" "[B" (.ref t) ∧ Fld Z h' a "java/lang/AbstractStringBuilder" "coder" "B" (.int (0 : Int32)) ∧ Fld Z h' a "java/lang/AbstractStringBuilder" "count" "I" cn ∧ Ar Z h' t .byte (vs ++ List.replicate (grow vs.length n - vs.length) (.int (0 : Int32)))
def c_ens1_rm : Room := { frames := 3, cells := 1, slots := 290, locals := 48 }
set_option maxRecDepth 65536 in
set_option maxHeartbeats 40000000 in
theorem c_ens1 {l : Launch} {Z : State} {a0 : Array Value} {zC : Int32} {fS : Value} {bO : Addr} {bN : Addr} {bA : Addr} {h : Heap} {B : Addr → Prop} {a v : Addr} {vs : List Value} {n : Nat} {cn : Value} (G : Gl Z a0 zC fS bO bN bA) (hE : En Z B h) (P0 : Exa Z h a "java/lang/StringBuilder") (P1 : Fld Z h a "java/lang/AbstractStringBuilder" "value" "[B" (.ref v)) (P2 : Fld Z h a "java/lang/AbstractStringBuilder" "coder" "B" (.int (0 : Int32))) (P3 : Fld Z h a "java/lang/AbstractStringBuilder" "count" "I" cn) (P4 : Ar Z h v .byte vs) (P5 : vs.length < n) (P6 : grow vs.length n ≤ 290) (P7 : Z.heap.size ≤ a) (P8 : ¬ B a) : Con l Z consts_1 [] (⟨"java/lang/AbstractStringBuilder", "ensureCapacityInternal", "(I)V"⟩ : MethodName) jdk_68_method_9_code 3 none c_ens1_rm B h #[(.ref a), (.int n.toInt32)] (fun vR hR BR => vR = none ∧ BR = B ∧ c_ens1_q Z zC fS bO bN bA h B a v vs n cn hR) := by
  have hz0 := hE.1.1
  refine Con.intro (ls := #[.val (.ref a), .val (.int n.toInt32), .unset]) (plainFor_of_name pn19) G.2.1 hE (fun m => by first | rfl | (simp [entryFrame, mkF, argsToLocals, Value.category]; done) | rfl) ?_
  intro pP eE sS mM blw mth cC T hs X
  have hL := P4.len_lt
  have hgl := grow_le vs.length n
  refine W.aloadN (pc' := 1) X d_jdk_68_m9_0 rfl rfl rfl ?_
  refine W.getF (pc' := 4) X (w55 G) Via.refl P1 d_jdk_68_m9_1 rfl fun T X => ?_
  refine W.alen (pc' := 5) (z := (vs).length.toInt32) X P4 rfl d_jdk_68_m9_4 rfl ?_
  refine W.aloadN (pc' := 6) X d_jdk_68_m9_5 rfl rfl rfl ?_
  refine W.getF (pc' := 9) X (w57 G) Via.refl P2 d_jdk_68_m9_6 rfl fun T X => ?_
  refine W.ishr (pc' := 10) (w := vs.length.toInt32) X d_jdk_68_m9_9 (shr0 _) rfl ?_
  refine W.istoreN (pc' := 11) (ls' := #[.val (.ref a), .val (.int n.toInt32), .val (.int vs.length.toInt32)]) X d_jdk_68_m9_10 rfl rfl ?_
  refine W.iloadN (pc' := 12) X d_jdk_68_m9_11 rfl rfl ?_
  refine W.iloadN (pc' := 13) X d_jdk_68_m9_12 rfl rfl ?_
  refine W.isub (pc' := 14) (w := (n.toInt32 - vs.length.toInt32)) X d_jdk_68_m9_13 rfl rfl ?_
  refine W.ifF (pc' := 17) X d_jdk_68_m9_14 (XT.i0_le_f (by rw [sub32 (by omega) (by omega)]; exact pos32 (by omega) (by omega))) rfl ?_
  refine W.aloadN (pc' := 18) X d_jdk_68_m9_17 rfl rfl rfl ?_
  refine W.aloadN (pc' := 19) X d_jdk_68_m9_18 rfl rfl rfl ?_
  refine W.getF (pc' := 22) X (w55 G) Via.refl P1 d_jdk_68_m9_19 rfl fun T X => ?_
  refine W.aloadN (pc' := 23) X d_jdk_68_m9_22 rfl rfl rfl ?_
  refine W.iloadN (pc' := 24) X d_jdk_68_m9_23 rfl rfl ?_
  refine W.callP (pc' := 27) (W := 2) (argsL := [(.int n.toInt32)]) (st := [(.ref v), (.ref a)]) (k' := 0) (n' := 0) (a := a) X (c_newCap (a := a) (v := v) (vs := vs) (n := n) G X.en P1 P2 P4 P5 P6) (w118 G) (w119 G) (nfM (z' := (⟨"java/lang/AbstractStringBuilder", "ensureCapacityInternal", "(I)V"⟩ : MethodName)) rfl (w85 G)) (w120 G) P0 (w122 G) (w51 G) (by decide) (by decide) (by decide) rfl (lenOf pd20 rfl) rfl rfl (Nat.le_of_eq rfl) d_jdk_68_m9_24 rfl (by decide) (by decide) (by decide) (by decide) (kp fun T X => ?_)
  refine W.aloadN (pc' := 28) X d_jdk_68_m9_27 rfl rfl rfl ?_
  refine W.getF (pc' := 31) X (w57 G) Via.refl P2 d_jdk_68_m9_28 rfl fun T X => ?_
  refine W.ishl (pc' := 32) (w := (grow vs.length n).toInt32) X d_jdk_68_m9_31 (shl0 _) rfl ?_
  have en1 := X.en
  refine W.callS (pc' := 35) (W := 1) (argsL := [(.ref v), (.int (grow vs.length n).toInt32)]) (st := [(.ref a)]) (k' := 1) (n' := 290) X (c_copyOf (a := v) (vs := vs) (n := (grow vs.length n)) G X.en P4 (by omega) P6) (w133 G) (w134 G) (w136 G) (w135 G) (by decide) (by decide) (by decide) rfl (lenOf pd21 rfl) rfl rfl (Nat.le_of_eq rfl) d_jdk_68_m9_32 rfl (by decide) (by decide) (by decide) (by decide) (kr fun T h2 xr X z3 q4 => ?_)
  obtain ⟨a5, rfl, K6, g7, F8⟩ := q4
  have g9 : Z.heap.size ≤ a5 := Nat.le_trans (Nat.le_trans hz0 (Nat.le_refl _)) g7
  have nb10 : ¬ B a5 := fun q => absurd (en1.2 _ q) (Nat.not_lt.mpr g7)
  have F11 := (P1.keep K6 nin0)
  have F12 := (P0.keep K6)
  refine W.putF (pc' := 38) X (w55 G) Via.refl F11 F12 (Or.inl (w56 G)) (w42 G) (ty := (.array .byte)) (by decide) rfl rfl P7 P8 d_jdk_68_m9_35 rfl fun T h13 X W14 => ?_
  have F15 := F11.same W14
  have F16 := ((P2.keep K6 nin0).other W14 (Or.inr (slot_ne (Or.inl (w58 G)) (Or.inl (w56 G)) (by decide) (t := .byte) (t' := (.array .byte)) (by decide) (by decide))))
  have F17 := ((P3.keep K6 nin0).other W14 (Or.inr (slot_ne (Or.inl (w81 G)) (Or.inl (w56 G)) (by decide) (t := .int) (t' := (.array .byte)) (by decide) (by decide))))
  have F18 := (F8.keep (Keep.of_wr W14) (ninS (Nat.ne_of_gt (Nat.lt_of_lt_of_le P0.lt (Nat.le_trans (Nat.le_refl _) g7))) nin0))
  exact W.vreturn X d_jdk_68_m9_38 rfl (by decide) (by decide) ⟨rfl, rfl, ⟨a5, (Keep.wr (Keep.trans (Keep.refl h [a]) K6 all0) W14 (Or.inl (List.mem_of_getElem? (i := 0) rfl))), (Nat.le_trans (Nat.le_refl _) g7), F15, F16, F17, F18⟩⟩
def c_infl_rm : Room := { frames := 1, cells := 0, slots := 0, locals := 13 }
set_option maxRecDepth 65536 in
set_option maxHeartbeats 40000000 in
theorem c_infl {l : Launch} {Z : State} {a0 : Array Value} {zC : Int32} {fS : Value} {bO : Addr} {bN : Addr} {bA : Addr} {h : Heap} {B : Addr → Prop} {a s t : Addr} {ds : List Int32} (G : Gl Z a0 zC fS bO bN bA) (hE : En Z B h) (P0 : Fld Z h a "java/lang/AbstractStringBuilder" "coder" "B" (.int (0 : Int32))) (P1 : Str Z h s t ds) : Con l Z consts_1 [] (⟨"java/lang/AbstractStringBuilder", "inflateIfNeededFor", "(Ljava/lang/String;)V"⟩ : MethodName) jdk_68_method_71_code 2 none c_infl_rm B h #[(.ref a), (.ref s)] (fun vR hR BR => vR = none ∧ hR = h ∧ BR = B) := by
  have hz0 := hE.1.1
  refine Con.intro (ls := #[.val (.ref a), .val (.ref s)]) (plainFor_of_name pn19) G.2.1 hE (fun m => by first | rfl | (simp [entryFrame, mkF, argsToLocals, Value.category]; done) | rfl) ?_
  intro pP eE sS mM blw mth cC T hs X
  refine W.getS (pc' := 3) (host := "") X (Or.inl (w54 G)) Via.refl G.2.2.1 d_jdk_68_m71_0 rfl fun T X => ?_
  refine W.ifF (pc' := 6) X d_jdk_68_m71_3 (XT.i0_eq_f G.2.2.2.1) rfl ?_
  refine W.aloadN (pc' := 7) X d_jdk_68_m71_6 rfl rfl rfl ?_
  refine W.getF (pc' := 10) X (w57 G) Via.refl P0 d_jdk_68_m71_7 rfl fun T X => ?_
  refine W.aloadN (pc' := 11) X d_jdk_68_m71_10 rfl rfl rfl ?_
  refine W.callV (pc' := 14) (W := 1) (argsL := []) (st := [(.int (0 : Int32))]) (k' := 0) (n' := 0) (a := s) X (c_coder (a := s) (b := t) (cs := ds) G X.en P1) (w97 G) (w76 G) (nfM (z' := (⟨"java/lang/String", "length", "()I"⟩ : MethodName)) rfl (w73 G)) (w78 G) (w77 G) P1.exa (w79 G) (w6 G) (by decide) (by decide) (by decide) rfl (lenOf pd6 rfl) rfl rfl (Nat.le_of_eq rfl) d_jdk_68_m71_11 rfl (by decide) (by decide) (by decide) (by decide) (kp fun T X => ?_)
  refine W.icT (pc' := 21) X d_jdk_68_m71_14 (by decide) (by decide) (by decide) ?_
  exact W.vreturn X d_jdk_68_m71_21 rfl (by decide) (by decide) ⟨rfl, rfl, rfl⟩
abbrev c_getB_q (Z : State) (zC : Int32) (fS : Value) (bO : Addr) (bN : Addr) (bA : Addr) (h : Heap) (B : Addr → Prop) (s t v : Addr) (ds : List Int32) (us : List Value) (j : Nat) (h' : Heap) : Prop := Keep h h' [v] ∧ Ar Z h' v .byte (us.take j ++ ((by8 ds).drop 0).take ds.length ++ us.drop (j + ds.length))
def c_getB_rm : Room := { frames := 1, cells := 0, slots := 0, locals := 18 }
set_option maxRecDepth 65536 in
set_option maxHeartbeats 40000000 in
theorem c_getB {l : Launch} {Z : State} {a0 : Array Value} {zC : Int32} {fS : Value} {bO : Addr} {bN : Addr} {bA : Addr} {h : Heap} {B : Addr → Prop} {s t v : Addr} {ds : List Int32} {us : List Value} {j : Nat} (G : Gl Z a0 zC fS bO bN bA) (hE : En Z B h) (P0 : Str Z h s t ds) (P1 : Ar Z h v .byte us) (P2 : j + ds.length ≤ us.length) (P3 : Z.heap.size ≤ v) (P4 : ¬ B v) : Con l Z consts_1 [] (⟨"java/lang/String", "getBytes", "([BIB)V"⟩ : MethodName) jdk_42_method_147_code 4 none c_getB_rm B h #[(.ref s), (.ref v), (.int j.toInt32), (.int (0 : Int32))] (fun vR hR BR => vR = none ∧ BR = B ∧ c_getB_q Z zC fS bO bN bA h B s t v ds us j hR) := by
  have hz0 := hE.1.1
  refine Con.intro (ls := #[.val (.ref s), .val (.ref v), .val (.int j.toInt32), .val (.int (0 : Int32))]) (plainFor_of_name pn4) G.2.1 hE (fun m => by first | rfl | (simp [entryFrame, mkF, argsToLocals, Value.category]; done) | rfl) ?_
  intro pP eE sS mM blw mth cC T hs X
  refine W.aloadN (pc' := 1) X d_jdk_42_m147_0 rfl rfl rfl ?_
  refine W.callV (pc' := 4) (W := 0) (argsL := []) (st := []) (k' := 0) (n' := 0) (a := s) X (c_coder (a := s) (b := t) (cs := ds) G X.en P0) (w75 G) (w76 G) (nfM (z' := (⟨"java/lang/String", "length", "()I"⟩ : MethodName)) rfl (w73 G)) (w78 G) (w77 G) P0.exa (w79 G) (w6 G) (by decide) (by decide) (by decide) rfl (lenOf pd6 rfl) rfl rfl (Nat.le_of_eq rfl) d_jdk_42_m147_1 rfl (by decide) (by decide) (by decide) (by decide) (kp fun T X => ?_)
  refine W.iloadN (pc' := 5) X d_jdk_42_m147_4 rfl rfl ?_
  refine W.icF (pc' := 8) X d_jdk_42_m147_5 (by decide) rfl ?_
  refine W.aloadN (pc' := 9) X d_jdk_42_m147_8 rfl rfl rfl ?_
  refine W.getF (pc' := 12) X (w32 G) Via.refl P0.val d_jdk_42_m147_9 rfl fun T X => ?_
  refine W.iconst (pc' := 13) X (0 : Int32) d_jdk_42_m147_12 (by decide) rfl ?_
  refine W.aloadN (pc' := 14) X d_jdk_42_m147_13 rfl rfl rfl ?_
  refine W.iloadN (pc' := 15) X d_jdk_42_m147_14 rfl rfl ?_
  refine W.iloadN (pc' := 16) X d_jdk_42_m147_15 rfl rfl ?_
  refine W.ishl (pc' := 17) (w := j.toInt32) X d_jdk_42_m147_16 (shl0 _) rfl ?_
  refine W.aloadN (pc' := 18) X d_jdk_42_m147_17 rfl rfl rfl ?_
  refine W.getF (pc' := 21) X (w32 G) Via.refl P0.val d_jdk_42_m147_18 rfl fun T X => ?_
  refine W.alen (pc' := 22) (z := ds.length.toInt32) X P0.arr (by simp) d_jdk_42_m147_21 rfl ?_
  refine W.acopy (pc' := 25) (W := 0) (i := 0) (j := j) (len := ds.length) X P0.arr P1 (w103 G) (w106 G) (w104 G) (w105 G) rfl rfl rfl rfl (by simp) P2 P3 P4 rfl (by decide) (Nat.le_of_eq rfl) (by decide) d_jdk_42_m147_22 rfl fun T h1 X K2 A3 => ?_
  have A3 : Ar Z h1 v .byte (us.take j ++ ((by8 ds).drop 0).take ds.length ++ us.drop (j + ds.length)) := A3
  refine W.goto (pc' := 43) X d_jdk_42_m147_25 (by decide) (by decide) ?_
  exact W.vreturn X d_jdk_42_m147_43 rfl (by decide) (by decide) ⟨rfl, rfl, ⟨(Keep.trans (Keep.refl h [v]) K2 (allS (Or.inl (List.mem_of_getElem? (i := 0) rfl)) all0)), A3⟩⟩
abbrev c_putS_q (Z : State) (zC : Int32) (fS : Value) (bO : Addr) (bN : Addr) (bA : Addr) (h : Heap) (B : Addr → Prop) (a v s t : Addr) (ds : List Int32) (us : List Value) (j : Nat) (h' : Heap) : Prop := Keep h h' [v] ∧ Ar Z h' v .byte (us.take j ++ ((by8 ds).drop 0).take ds.length ++ us.drop (j + ds.length))
def c_putS_rm : Room := { frames := 2, cells := 0, slots := 0, locals := 33 }
set_option maxRecDepth 65536 in
set_option maxHeartbeats 40000000 in
theorem c_putS {l : Launch} {Z : State} {a0 : Array Value} {zC : Int32} {fS : Value} {bO : Addr} {bN : Addr} {bA : Addr} {h : Heap} {B : Addr → Prop} {a v s t : Addr} {ds : List Int32} {us : List Value} {j : Nat} (G : Gl Z a0 zC fS bO bN bA) (hE : En Z B h) (P0 : Exa Z h a "java/lang/StringBuilder") (P1 : Fld Z h a "java/lang/AbstractStringBuilder" "value" "[B" (.ref v)) (P2 : Fld Z h a "java/lang/AbstractStringBuilder" "coder" "B" (.int (0 : Int32))) (P3 : Str Z h s t ds) (P4 : Ar Z h v .byte us) (P5 : j + ds.length ≤ us.length) (P6 : Z.heap.size ≤ v) (P7 : ¬ B v) : Con l Z consts_1 [] (⟨"java/lang/AbstractStringBuilder", "putStringAt", "(ILjava/lang/String;)V"⟩ : MethodName) jdk_68_method_73_code 3 none c_putS_rm B h #[(.ref a), (.int j.toInt32), (.ref s)] (fun vR hR BR => vR = none ∧ BR = B ∧ c_putS_q Z zC fS bO bN bA h B a v s t ds us j hR) := by
  have hz0 := hE.1.1
  refine Con.intro (ls := #[.val (.ref a), .val (.int j.toInt32), .val (.ref s)]) (plainFor_of_name pn19) G.2.1 hE (fun m => by first | rfl | (simp [entryFrame, mkF, argsToLocals, Value.category]; done) | rfl) ?_
  intro pP eE sS mM blw mth cC T hs X
  refine W.aloadN (pc' := 1) X d_jdk_68_m73_0 rfl rfl rfl ?_
  refine W.aloadN (pc' := 2) X d_jdk_68_m73_1 rfl rfl rfl ?_
  refine W.callP (pc' := 5) (W := 0) (argsL := [(.ref s)]) (st := []) (k' := 0) (n' := 0) (a := a) X (c_infl (a := a) (s := s) (t := t) (ds := ds) G X.en P2 P3) (w92 G) (w93 G) (nfM (z' := (⟨"java/lang/AbstractStringBuilder", "ensureCapacityInternal", "(I)V"⟩ : MethodName)) rfl (w85 G)) (w94 G) P0 (w96 G) (w51 G) (by decide) (by decide) (by decide) rfl (lenOf pd22 rfl) rfl rfl (Nat.le_of_eq rfl) d_jdk_68_m73_2 rfl (by decide) (by decide) (by decide) (by decide) (kpv fun T X => ?_)
  refine W.aloadN (pc' := 6) X d_jdk_68_m73_5 rfl rfl rfl ?_
  refine W.aloadN (pc' := 7) X d_jdk_68_m73_6 rfl rfl rfl ?_
  refine W.getF (pc' := 10) X (w55 G) Via.refl P1 d_jdk_68_m73_7 rfl fun T X => ?_
  refine W.iloadN (pc' := 11) X d_jdk_68_m73_10 rfl rfl ?_
  refine W.aloadN (pc' := 12) X d_jdk_68_m73_11 rfl rfl rfl ?_
  refine W.getF (pc' := 15) X (w57 G) Via.refl P2 d_jdk_68_m73_12 rfl fun T X => ?_
  refine W.callV (pc' := 18) (W := 0) (argsL := [(.ref v), (.int j.toInt32), (.int (0 : Int32))]) (st := []) (k' := 0) (n' := 0) (a := s) X (c_getB (s := s) (t := t) (v := v) (ds := ds) (us := us) (j := j) G X.en P3 P4 P5 P6 P7) (w98 G) (w99 G) (nfM (z' := (⟨"java/lang/String", "length", "()I"⟩ : MethodName)) rfl (w73 G)) (w101 G) (w100 G) P3.exa (w102 G) (w6 G) (by decide) (by decide) (by decide) rfl (lenOf pd23 rfl) rfl rfl (Nat.le_of_eq rfl) d_jdk_68_m73_15 rfl (by decide) (by decide) (by decide) (by decide) (kv fun T h1 X z2 q3 => ?_)
  obtain ⟨K4, F5⟩ := q3
  exact W.vreturn X d_jdk_68_m73_18 rfl (by decide) (by decide) ⟨rfl, rfl, ⟨(Keep.trans (Keep.refl h [v]) K4 (allS (Or.inl (List.mem_of_getElem? (i := 0) rfl)) all0)), F5⟩⟩
abbrev c_asbApp_q (Z : State) (zC : Int32) (fS : Value) (bO : Addr) (bN : Addr) (bA : Addr) (h : Heap) (B : Addr → Prop) (a v s t : Addr) (cs ds : List Int32) (cap : Nat) (xR : Value) (h' : Heap) : Prop := ∃ (w : Addr), xR = (.ref a) ∧ Keep h h' [a, v] ∧ Sb Z h' a w (cs ++ ds) (grow cap (cs.length + ds.length)) ∧ Z.heap.size ≤ w ∧ ¬ B w ∧ (∀ x, x < h.size → x ≠ v → x ≠ w) ∧ (w = v ∨ h.size ≤ w)
def c_asbApp_rm : Room := { frames := 4, cells := 1, slots := 290, locals := 62 }
set_option maxRecDepth 65536 in
set_option maxHeartbeats 40000000 in
theorem c_asbApp {l : Launch} {Z : State} {a0 : Array Value} {zC : Int32} {fS : Value} {bO : Addr} {bN : Addr} {bA : Addr} {h : Heap} {B : Addr → Prop} {a v s t : Addr} {cs ds : List Int32} {cap : Nat} (G : Gl Z a0 zC fS bO bN bA) (hE : En Z B h) (P0 : Sb Z h a v cs cap) (P1 : Str Z h s t ds) (P2 : grow cap (cs.length + ds.length) ≤ 290) (P3 : Z.heap.size ≤ a) (P4 : ¬ B a) (P5 : Z.heap.size ≤ v) (P6 : ¬ B v) : Con l Z consts_1 [] (⟨"java/lang/AbstractStringBuilder", "append", "(Ljava/lang/String;)Ljava/lang/AbstractStringBuilder;"⟩ : MethodName) jdk_68_method_22_code 3 (some (.object "java/lang/AbstractStringBuilder")) c_asbApp_rm B h #[(.ref a), (.ref s)] (fun vR hR BR => ∃ xR, vR = some xR ∧ BR = B ∧ c_asbApp_q Z zC fS bO bN bA h B a v s t cs ds cap xR hR) := by
  have hz0 := hE.1.1
  refine Con.intro (ls := #[.val (.ref a), .val (.ref s), .unset]) (plainFor_of_name pn19) G.2.1 hE (fun m => by first | rfl | (simp [entryFrame, mkF, argsToLocals, Value.category]; done) | rfl) ?_
  intro pP eE sS mM blw mth cC T hs X
  obtain ⟨hEx, hV, hCo, hN, hLat, hle, vs, hA, hvl, hvt⟩ := P0
  subst hvl
  have hL := hA.len_lt
  have hD := P1.len_lt
  have hgl := grow_le vs.length (cs.length + ds.length)
  have hcl := cap_le vs.length (cs.length + ds.length)
  refine W.aloadN (pc' := 1) X d_jdk_68_m22_0 rfl rfl rfl ?_
  refine W.nonnullT (pc' := 9) X d_jdk_68_m22_1 (by decide) (by decide) ?_
  refine W.aloadN (pc' := 10) X d_jdk_68_m22_9 rfl rfl rfl ?_
  refine W.callV (pc' := 13) (W := 0) (argsL := []) (st := []) (k' := 0) (n' := 0) (a := s) X (c_len (a := s) (b := t) (cs := ds) G X.en P1) (w70 G) (w71 G) (nfM (z' := (⟨"java/lang/String", "length", "()I"⟩ : MethodName)) rfl (w73 G)) (w73 G) (w72 G) P1.exa (w74 G) (w6 G) (by decide) (by decide) (by decide) rfl (lenOf pd24 rfl) rfl rfl (Nat.le_of_eq rfl) d_jdk_68_m22_10 rfl (by decide) (by decide) (by decide) (by decide) (kp fun T X => ?_)
  refine W.istoreN (pc' := 14) (ls' := #[.val (.ref a), .val (.ref s), .val (.int ds.length.toInt32)]) X d_jdk_68_m22_13 rfl rfl ?_
  refine W.aloadN (pc' := 15) X d_jdk_68_m22_14 rfl rfl rfl ?_
  refine W.aloadN (pc' := 16) X d_jdk_68_m22_15 rfl rfl rfl ?_
  refine W.getF (pc' := 19) X (w80 G) Via.refl hN d_jdk_68_m22_16 rfl fun T X => ?_
  refine W.iloadN (pc' := 20) X d_jdk_68_m22_19 rfl rfl ?_
  refine W.iadd (pc' := 21) (w := (cs.length + ds.length).toInt32) X d_jdk_68_m22_20 (add32 (by omega)) rfl ?_
  by_cases hn : cs.length + ds.length ≤ vs.length
  · have hg : grow vs.length (cs.length + ds.length) = vs.length := by unfold grow; rw [if_pos hn]
    refine W.callP (pc' := 24) (W := 0) (argsL := [(.int (cs.length + ds.length).toInt32)]) (st := []) (k' := 0) (n' := 0) (a := a) X (c_ens0 (a := a) (v := v) (vs := vs) (n := (cs.length + ds.length)) G X.en hV hCo hA hn) (w82 G) (w83 G) (nfM (z' := (⟨"java/lang/AbstractStringBuilder", "ensureCapacityInternal", "(I)V"⟩ : MethodName)) rfl (w85 G)) (w84 G) hEx (w86 G) (w51 G) (by decide) (by decide) (by decide) rfl (lenOf pd25 rfl) rfl rfl (Nat.le_of_eq rfl) d_jdk_68_m22_21 rfl (by decide) (by decide) (by decide) (by decide) (kpv fun T X => ?_)
    refine W.aloadN (pc' := 25) X d_jdk_68_m22_24 rfl rfl rfl ?_
    refine W.aloadN (pc' := 26) X d_jdk_68_m22_25 rfl rfl rfl ?_
    refine W.getF (pc' := 29) X (w80 G) Via.refl hN d_jdk_68_m22_26 rfl fun T X => ?_
    refine W.aloadN (pc' := 30) X d_jdk_68_m22_29 rfl rfl rfl ?_
    refine W.callP (pc' := 33) (W := 0) (argsL := [(.int cs.length.toInt32), (.ref s)]) (st := []) (k' := 0) (n' := 0) (a := a) X (c_putS (a := a) (v := v) (s := s) (t := t) (ds := ds) (us := vs) (j := cs.length) G X.en hEx hV hCo P1 hA hn P5 P6) (w87 G) (w88 G) (nfM (z' := (⟨"java/lang/AbstractStringBuilder", "ensureCapacityInternal", "(I)V"⟩ : MethodName)) rfl (w85 G)) (w89 G) hEx (w91 G) (w51 G) (by decide) (by decide) (by decide) rfl (lenOf pd26 rfl) rfl rfl (Nat.le_of_eq rfl) d_jdk_68_m22_30 rfl (by decide) (by decide) (by decide) (by decide) (kv fun T h1 X z2 q3 => ?_)
    obtain ⟨K4, F5⟩ := q3
    refine W.aloadN (pc' := 34) X d_jdk_68_m22_33 rfl rfl rfl ?_
    refine W.dup (pc' := 35) X d_jdk_68_m22_34 rfl rfl ?_
    have F6 := (hEx.keep K4)
    have F7 := (hN.keep K4 (ninS (exa_ne_ar F6 (w42 G) F5) nin0))
    refine W.getF (pc' := 38) X (w80 G) Via.refl F7 d_jdk_68_m22_35 rfl fun T X => ?_
    refine W.iloadN (pc' := 39) X d_jdk_68_m22_38 rfl rfl ?_
    refine W.iadd (pc' := 40) (w := (cs.length + ds.length).toInt32) X d_jdk_68_m22_39 (add32 (by omega)) rfl ?_
    refine W.putF (pc' := 43) X (w80 G) Via.refl F7 F6 (Or.inl (w81 G)) (w42 G) (ty := .int) (by decide) rfl rfl P3 P4 d_jdk_68_m22_40 rfl fun T h8 X W9 => ?_
    have F10 := F7.same W9
    refine W.aloadN (pc' := 44) X d_jdk_68_m22_43 rfl rfl rfl ?_
    have F11 := (F6.wr W9)
    have F12 := ((hV.keep K4 (ninS (exa_ne_ar F6 (w42 G) F5) nin0)).other W9 (Or.inr (slot_ne (Or.inl (w56 G)) (Or.inl (w81 G)) (by decide) (t := (.array .byte)) (t' := .int) (by decide) (by decide))))
    have F13 := ((hCo.keep K4 (ninS (exa_ne_ar F6 (w42 G) F5) nin0)).other W9 (Or.inr (slot_ne (Or.inl (w58 G)) (Or.inl (w81 G)) (by decide) (t := .byte) (t' := .int) (by decide) (by decide))))
    have F14 := (F5.keep (Keep.of_wr W9) (ninS (Ne.symm (exa_ne_ar F6 (w42 G) F5)) nin0))
    exact W.areturn X d_jdk_68_m22_44 rfl rfl rfl rfl (by decide) (by decide) ⟨_, rfl, rfl, ⟨v, rfl, (Keep.wr (Keep.trans (Keep.refl h [a, v]) K4 (allS (Or.inl (List.mem_of_getElem? (i := 1) rfl)) all0)) W9 (Or.inl (List.mem_of_getElem? (i := 0) rfl))), ⟨F11, F12, F13, (by rw [List.length_append]; exact F10), (lat_app hLat P1.lat), (by rw [List.length_append]; omega), _, F14, (by rw [hg]; simp; omega), (sb_take hle hn hvt)⟩, P5, P6, (fun x _ q => q), (Or.inl rfl)⟩⟩
  · have hg : grow vs.length (cs.length + ds.length) - vs.length + vs.length = grow vs.length (cs.length + ds.length) := by omega
    have en15 := X.en
    refine W.callP (pc' := 24) (W := 0) (argsL := [(.int (cs.length + ds.length).toInt32)]) (st := []) (k' := 1) (n' := 290) (a := a) X (c_ens1 (a := a) (v := v) (vs := vs) (n := (cs.length + ds.length)) (cn := (.int cs.length.toInt32)) G X.en hEx hV hCo hN hA (by omega) P2 P3 P4) (w82 G) (w83 G) (nfM (z' := (⟨"java/lang/AbstractStringBuilder", "ensureCapacityInternal", "(I)V"⟩ : MethodName)) rfl (w85 G)) (w84 G) hEx (w86 G) (w51 G) (by decide) (by decide) (by decide) rfl (lenOf pd25 rfl) rfl rfl (Nat.le_of_eq rfl) d_jdk_68_m22_21 rfl (by decide) (by decide) (by decide) (by decide) (kv fun T h16 X z17 q18 => ?_)
    obtain ⟨a19, K20, g21, F22, F23, F24, F25⟩ := q18
    have g26 : Z.heap.size ≤ a19 := Nat.le_trans (Nat.le_trans hz0 (Nat.le_refl _)) g21
    have nb27 : ¬ B a19 := fun q => absurd (en15.2 _ q) (Nat.not_lt.mpr g21)
    refine W.aloadN (pc' := 25) X d_jdk_68_m22_24 rfl rfl rfl ?_
    refine W.aloadN (pc' := 26) X d_jdk_68_m22_25 rfl rfl rfl ?_
    refine W.getF (pc' := 29) X (w80 G) Via.refl F24 d_jdk_68_m22_26 rfl fun T X => ?_
    refine W.aloadN (pc' := 30) X d_jdk_68_m22_29 rfl rfl rfl ?_
    have F28 := (hEx.keep K20)
    have F29 := (P1.keep K20 (ninS (ne_exa P1.exa hEx (by decide)) nin0) (ninS (Ne.symm (exa_ne_ar hEx (w42 G) P1.arr)) nin0))
    refine W.callP (pc' := 33) (W := 0) (argsL := [(.int cs.length.toInt32), (.ref s)]) (st := []) (k' := 1) (n' := 290) (a := a) X (c_putS (a := a) (v := a19) (s := s) (t := t) (ds := ds) (us := (vs ++ List.replicate (grow vs.length (cs.length + ds.length) - vs.length) (.int (0 : Int32)))) (j := cs.length) G X.en F28 F22 F23 F29 F25 (by simp; omega) g26 nb27) (w87 G) (w88 G) (nfM (z' := (⟨"java/lang/AbstractStringBuilder", "ensureCapacityInternal", "(I)V"⟩ : MethodName)) rfl (w85 G)) (w89 G) F28 (w91 G) (w51 G) (by decide) (by decide) (by decide) rfl (lenOf pd26 rfl) rfl rfl (Nat.le_of_eq rfl) d_jdk_68_m22_30 rfl (by decide) (by decide) (by decide) (by decide) (kv fun T h30 X z31 q32 => ?_)
    obtain ⟨K33, F34⟩ := q32
    refine W.aloadN (pc' := 34) X d_jdk_68_m22_33 rfl rfl rfl ?_
    refine W.dup (pc' := 35) X d_jdk_68_m22_34 rfl rfl ?_
    have F35 := (F24.keep K33 (ninS (Nat.ne_of_lt (Nat.lt_of_lt_of_le hEx.lt (Nat.le_trans (Nat.le_refl _) g21))) nin0))
    refine W.getF (pc' := 38) X (w80 G) Via.refl F35 d_jdk_68_m22_35 rfl fun T X => ?_
    refine W.iloadN (pc' := 39) X d_jdk_68_m22_38 rfl rfl ?_
    refine W.iadd (pc' := 40) (w := (cs.length + ds.length).toInt32) X d_jdk_68_m22_39 (add32 (by omega)) rfl ?_
    have F36 := (F28.keep K33)
    refine W.putF (pc' := 43) X (w80 G) Via.refl F35 F36 (Or.inl (w81 G)) (w42 G) (ty := .int) (by decide) rfl rfl P3 P4 d_jdk_68_m22_40 rfl fun T h37 X W38 => ?_
    have F39 := F35.same W38
    refine W.aloadN (pc' := 44) X d_jdk_68_m22_43 rfl rfl rfl ?_
    have F40 := (F36.wr W38)
    have F41 := ((F22.keep K33 (ninS (Nat.ne_of_lt (Nat.lt_of_lt_of_le hEx.lt (Nat.le_trans (Nat.le_refl _) g21))) nin0)).other W38 (Or.inr (slot_ne (Or.inl (w56 G)) (Or.inl (w81 G)) (by decide) (t := (.array .byte)) (t' := .int) (by decide) (by decide))))
    have F42 := ((F23.keep K33 (ninS (Nat.ne_of_lt (Nat.lt_of_lt_of_le hEx.lt (Nat.le_trans (Nat.le_refl _) g21))) nin0)).other W38 (Or.inr (slot_ne (Or.inl (w58 G)) (Or.inl (w81 G)) (by decide) (t := .byte) (t' := .int) (by decide) (by decide))))
    have F43 := (F34.keep (Keep.of_wr W38) (ninS (Nat.ne_of_gt (Nat.lt_of_lt_of_le hEx.lt (Nat.le_trans (Nat.le_refl _) g21))) nin0))
    exact W.areturn X d_jdk_68_m22_44 rfl rfl rfl rfl (by decide) (by decide) ⟨_, rfl, rfl, ⟨a19, rfl, (Keep.wr (Keep.trans (Keep.trans (Keep.refl h [a, v]) K20 (allS (Or.inl (List.mem_of_getElem? (i := 0) rfl)) all0)) K33 (allS (Or.inr (Nat.le_trans (Nat.le_refl _) g21)) all0)) W38 (Or.inl (List.mem_of_getElem? (i := 0) rfl))), ⟨F40, F41, F42, (by rw [List.length_append]; exact F39), (lat_app hLat P1.lat), (by rw [List.length_append]; omega), _, F43, (by simp; omega), (sb_take (by simp; omega) (by simp; omega) (by rw [List.take_append_of_le_length hle]; exact hvt))⟩, g26, nb27, (fun x q _ => Nat.ne_of_lt (Nat.lt_of_lt_of_le q (Nat.le_trans (Nat.le_refl _) g21))), (Or.inr (Nat.le_trans (Nat.le_refl _) g21))⟩⟩
abbrev c_app_q (Z : State) (zC : Int32) (fS : Value) (bO : Addr) (bN : Addr) (bA : Addr) (h : Heap) (B : Addr → Prop) (a v s t : Addr) (cs ds : List Int32) (cap : Nat) (xR : Value) (h' : Heap) : Prop := ∃ (w : Addr), xR = (.ref a) ∧ Keep h h' [a, v] ∧ Sb Z h' a w (cs ++ ds) (grow cap (cs.length + ds.length)) ∧ Z.heap.size ≤ w ∧ ¬ B w ∧ (∀ x, x < h.size → x ≠ v → x ≠ w) ∧ (w = v ∨ h.size ≤ w)
def c_app_rm : Room := { frames := 5, cells := 1, slots := 290, locals := 76 }
set_option maxRecDepth 65536 in
set_option maxHeartbeats 40000000 in
theorem c_app {l : Launch} {Z : State} {a0 : Array Value} {zC : Int32} {fS : Value} {bO : Addr} {bN : Addr} {bA : Addr} {h : Heap} {B : Addr → Prop} {a v s t : Addr} {cs ds : List Int32} {cap : Nat} (G : Gl Z a0 zC fS bO bN bA) (hE : En Z B h) (P0 : Sb Z h a v cs cap) (P1 : Str Z h s t ds) (P2 : grow cap (cs.length + ds.length) ≤ 290) (P3 : Z.heap.size ≤ a) (P4 : ¬ B a) (P5 : Z.heap.size ≤ v) (P6 : ¬ B v) : Con l Z consts_1 [] (⟨"java/lang/StringBuilder", "append", "(Ljava/lang/String;)Ljava/lang/StringBuilder;"⟩ : MethodName) jdk_67_method_7_code 2 (some (.object "java/lang/StringBuilder")) c_app_rm B h #[(.ref a), (.ref s)] (fun vR hR BR => ∃ xR, vR = some xR ∧ BR = B ∧ c_app_q Z zC fS bO bN bA h B a v s t cs ds cap xR hR) := by
  have hz0 := hE.1.1
  refine Con.intro (ls := #[.val (.ref a), .val (.ref s)]) (plainFor_of_name pn28) G.2.1 hE (fun m => by first | rfl | (simp [entryFrame, mkF, argsToLocals, Value.category]; done) | rfl) ?_
  intro pP eE sS mM blw mth cC T hs X
  refine W.aloadN (pc' := 1) X d_jdk_67_m7_0 rfl rfl rfl ?_
  refine W.aloadN (pc' := 2) X d_jdk_67_m7_1 rfl rfl rfl ?_
  refine W.callX (pc' := 5) (W := 0) (argsL := [(.ref s)]) (st := []) (k' := 1) (n' := 290) (a := a) X (c_asbApp (a := a) (v := v) (s := s) (t := t) (cs := cs) (ds := ds) (cap := cap) G X.en P0 P1 P2 P3 P4 P5 P6) (w65 G) (sameM (z := (⟨"java/lang/AbstractStringBuilder", "append", "(Ljava/lang/String;)Ljava/lang/AbstractStringBuilder;"⟩ : MethodName)) (z' := (⟨"java/lang/AbstractStringBuilder", "ensureCapacityInternal", "(I)V"⟩ : MethodName)) rfl (by decide) (w66 G) (w85 G)) (w66 G) (w67 G) (by decide) P0.exa (w69 G) (w51 G) (by decide) (by decide) rfl (lenOf pd27 rfl) rfl rfl (Nat.le_of_eq rfl) d_jdk_67_m7_2 rfl (by decide) (by decide) (by decide) (by decide) (kr fun T h1 xr X z2 q3 => ?_)
  obtain ⟨a4, rfl, K5, F6, F7, F8, F9, F10⟩ := q3
  refine W.popV (pc' := 6) X d_jdk_67_m7_5 rfl rfl ?_
  refine W.aloadN (pc' := 7) X d_jdk_67_m7_6 rfl rfl rfl ?_
  exact W.areturn X d_jdk_67_m7_7 rfl rfl rfl rfl (by decide) (by decide) ⟨_, rfl, rfl, ⟨a4, rfl, (Keep.trans (Keep.refl h [a, v]) K5 (allS (Or.inl (List.mem_of_getElem? (i := 0) rfl)) (allS (Or.inl (List.mem_of_getElem? (i := 1) rfl)) all0))), F6, F7, F8, F9, F10⟩⟩
abbrev c_asbNew_q (Z : State) (zC : Int32) (fS : Value) (bO : Addr) (bN : Addr) (bA : Addr) (h : Heap) (B : Addr → Prop) (a : Addr) (v0 v1 : Value) (h' : Heap) : Prop := ∃ (v : Addr), Keep h h' [a] ∧ h.size ≤ v ∧ Sb Z h' a v ([] : List Int32) 16
def c_asbNew_rm : Room := { frames := 1, cells := 1, slots := 16, locals := 12 }
set_option maxRecDepth 65536 in
set_option maxHeartbeats 40000000 in
theorem c_asbNew {l : Launch} {Z : State} {a0 : Array Value} {zC : Int32} {fS : Value} {bO : Addr} {bN : Addr} {bA : Addr} {h : Heap} {B : Addr → Prop} {a : Addr} {v0 v1 : Value} (G : Gl Z a0 zC fS bO bN bA) (hE : En Z B h) (P0 : Exa Z h a "java/lang/StringBuilder") (P1 : Fld Z h a "java/lang/AbstractStringBuilder" "value" "[B" v0) (P2 : Fld Z h a "java/lang/AbstractStringBuilder" "coder" "B" v1) (P3 : Fld Z h a "java/lang/AbstractStringBuilder" "count" "I" (.int (0 : Int32))) (P4 : Z.heap.size ≤ a) (P5 : ¬ B a) : Con l Z consts_1 [] (⟨"java/lang/AbstractStringBuilder", "<init>", "(I)V"⟩ : MethodName) jdk_68_method_2_code 2 none c_asbNew_rm B h #[(.ref a), (.int (16 : Int32))] (fun vR hR BR => vR = none ∧ BR = B ∧ c_asbNew_q Z zC fS bO bN bA h B a v0 v1 hR) := by
  have hz0 := hE.1.1
  refine Con.intro (ls := #[.val (.ref a), .val (.int (16 : Int32))]) (plainFor_of_name pn19) G.2.1 hE (fun m => by first | rfl | (simp [entryFrame, mkF, argsToLocals, Value.category]; done) | rfl) ?_
  intro pP eE sS mM blw mth cC T hs X
  refine W.aloadN (pc' := 1) X d_jdk_68_m2_0 rfl rfl rfl ?_
  refine W.initO (pc' := 4) (W := 0) X (w53 G) (w16 G) (w17 G) d_jdk_68_m2_1 rfl (by decide) (Nat.le_of_eq rfl) (by decide) rfl fun T X => ?_
  refine W.getS (pc' := 7) (host := "") X (Or.inl (w54 G)) Via.refl G.2.2.1 d_jdk_68_m2_4 rfl fun T X => ?_
  refine W.ifF (pc' := 10) X d_jdk_68_m2_7 (XT.i0_eq_f G.2.2.2.1) rfl ?_
  refine W.aloadN (pc' := 11) X d_jdk_68_m2_10 rfl rfl rfl ?_
  refine W.iloadN (pc' := 12) X d_jdk_68_m2_11 rfl rfl ?_
  refine W.newA (aty := .byte) (pc' := 14) (k' := 1) (n' := 16) (cap := 16) X (w23 G) d_jdk_68_m2_12 (by decide) (by decide) (by decide) rfl (by decide) (by decide) (by decide) (by decide) fun T h1 a2 X K3 g4 g5 nb6 A7 => ?_
  have A7 : Ar Z h1 a2 .byte [(.int (0 : Int32)), (.int (0 : Int32)), (.int (0 : Int32)), (.int (0 : Int32)), (.int (0 : Int32)), (.int (0 : Int32)), (.int (0 : Int32)), (.int (0 : Int32)), (.int (0 : Int32)), (.int (0 : Int32)), (.int (0 : Int32)), (.int (0 : Int32)), (.int (0 : Int32)), (.int (0 : Int32)), (.int (0 : Int32)), (.int (0 : Int32))] := A7
  have F8 := (P1.keep K3 nin0)
  have F9 := (P0.keep K3)
  refine W.putF (pc' := 17) X (w55 G) Via.refl F8 F9 (Or.inl (w56 G)) (w42 G) (ty := (.array .byte)) (by decide) rfl rfl P4 P5 d_jdk_68_m2_14 rfl fun T h10 X W11 => ?_
  have F12 := F8.same W11
  refine W.aloadN (pc' := 18) X d_jdk_68_m2_17 rfl rfl rfl ?_
  refine W.iconst (pc' := 19) X (0 : Int32) d_jdk_68_m2_18 (by decide) rfl ?_
  have F13 := ((P2.keep K3 nin0).other W11 (Or.inr (slot_ne (Or.inl (w58 G)) (Or.inl (w56 G)) (by decide) (t := .byte) (t' := (.array .byte)) (by decide) (by decide))))
  have F14 := (F9.wr W11)
  refine W.putF (pc' := 22) X (w57 G) Via.refl F13 F14 (Or.inl (w58 G)) (w42 G) (ty := .byte) (by decide) (by decide) (by decide) P4 P5 d_jdk_68_m2_19 rfl fun T h15 X W16 => ?_
  have F17 := F13.same W16
  refine W.goto (pc' := 38) X d_jdk_68_m2_22 (by decide) (by decide) ?_
  have F18 := (F14.wr W16)
  have F19 := (F12.other W16 (Or.inr (slot_ne (Or.inl (w56 G)) (Or.inl (w58 G)) (by decide) (t := (.array .byte)) (t' := .byte) (by decide) (by decide))))
  have F20 := (((P3.keep K3 nin0).other W11 (Or.inr (slot_ne (Or.inl (w81 G)) (Or.inl (w56 G)) (by decide) (t := .int) (t' := (.array .byte)) (by decide) (by decide)))).other W16 (Or.inr (slot_ne (Or.inl (w81 G)) (Or.inl (w58 G)) (by decide) (t := .int) (t' := .byte) (by decide) (by decide))))
  have F21 := ((A7.keep (Keep.of_wr W11) (ninS (Nat.ne_of_gt (Nat.lt_of_lt_of_le P0.lt (Nat.le_trans (Nat.le_refl _) g4))) nin0)).keep (Keep.of_wr W16) (ninS (Nat.ne_of_gt (Nat.lt_of_lt_of_le P0.lt (Nat.le_trans (Nat.le_refl _) g4))) nin0))
  exact W.vreturn X d_jdk_68_m2_38 rfl (by decide) (by decide) ⟨rfl, rfl, ⟨a2, (Keep.wr (Keep.wr (Keep.trans (Keep.refl h [a]) K3 all0) W11 (Or.inl (List.mem_of_getElem? (i := 0) rfl))) W16 (Or.inl (List.mem_of_getElem? (i := 0) rfl))), (Nat.le_trans (Nat.le_refl _) g4), ⟨F18, F19, F17, F20, lat0, (by decide), _, F21, (by simp), rfl⟩⟩⟩
abbrev c_sbNew_q (Z : State) (zC : Int32) (fS : Value) (bO : Addr) (bN : Addr) (bA : Addr) (h : Heap) (B : Addr → Prop) (a : Addr) (v0 v1 : Value) (h' : Heap) : Prop := ∃ (v : Addr), Keep h h' [a] ∧ h.size ≤ v ∧ Sb Z h' a v ([] : List Int32) 16
def c_sbNew_rm : Room := { frames := 2, cells := 1, slots := 16, locals := 25 }
set_option maxRecDepth 65536 in
set_option maxHeartbeats 40000000 in
theorem c_sbNew {l : Launch} {Z : State} {a0 : Array Value} {zC : Int32} {fS : Value} {bO : Addr} {bN : Addr} {bA : Addr} {h : Heap} {B : Addr → Prop} {a : Addr} {v0 v1 : Value} (G : Gl Z a0 zC fS bO bN bA) (hE : En Z B h) (P0 : Exa Z h a "java/lang/StringBuilder") (P1 : Fld Z h a "java/lang/AbstractStringBuilder" "value" "[B" v0) (P2 : Fld Z h a "java/lang/AbstractStringBuilder" "coder" "B" v1) (P3 : Fld Z h a "java/lang/AbstractStringBuilder" "count" "I" (.int (0 : Int32))) (P4 : Z.heap.size ≤ a) (P5 : ¬ B a) : Con l Z consts_1 [] (⟨"java/lang/StringBuilder", "<init>", "()V"⟩ : MethodName) jdk_67_method_1_code 1 none c_sbNew_rm B h #[(.ref a)] (fun vR hR BR => vR = none ∧ BR = B ∧ c_sbNew_q Z zC fS bO bN bA h B a v0 v1 hR) := by
  have hz0 := hE.1.1
  refine Con.intro (ls := #[.val (.ref a)]) (plainFor_of_name pn28) G.2.1 hE (fun m => by first | rfl | (simp [entryFrame, mkF, argsToLocals, Value.category]; done) | rfl) ?_
  intro pP eE sS mM blw mth cC T hs X
  refine W.aloadN (pc' := 1) X d_jdk_67_m1_0 rfl rfl rfl ?_
  refine W.bipush (pc' := 3) X (16 : Int32) d_jdk_67_m1_1 (by decide) rfl ?_
  have en1 := X.en
  refine W.callN (pc' := 6) (W := 0) (argsL := [(.int (16 : Int32))]) (st := []) (k' := 1) (n' := 16) (a := a) X (c_asbNew (a := a) (v0 := v0) (v1 := v1) G X.en P0 P1 P2 P3 P4 P5) rfl (w47 G) (w48 G) (w52 G) (w51 G) (by decide) (by decide) (by decide) rfl (lenOf pd25 rfl) rfl rfl (Nat.le_of_eq rfl) d_jdk_67_m1_3 rfl (by decide) (by decide) (by decide) (by decide) (kv fun T h2 X z3 q4 => ?_)
  obtain ⟨a5, K6, g7, F8⟩ := q4
  have g9 : Z.heap.size ≤ a5 := Nat.le_trans (Nat.le_trans hz0 (Nat.le_refl _)) g7
  have nb10 : ¬ B a5 := fun q => absurd (en1.2 _ q) (Nat.not_lt.mpr g7)
  exact W.vreturn X d_jdk_67_m1_6 rfl (by decide) (by decide) ⟨rfl, rfl, ⟨a5, (Keep.trans (Keep.refl h [a]) K6 (allS (Or.inl (List.mem_of_getElem? (i := 0) rfl)) all0)), (Nat.le_trans (Nat.le_refl _) g7), F8⟩⟩
def c_getV_rm : Room := { frames := 0, cells := 0, slots := 0, locals := 0 }
set_option maxRecDepth 65536 in
set_option maxHeartbeats 40000000 in
theorem c_getV {l : Launch} {Z : State} {a0 : Array Value} {zC : Int32} {fS : Value} {bO : Addr} {bN : Addr} {bA : Addr} {h : Heap} {B : Addr → Prop} {a v : Addr} {cs : List Int32} {cap : Nat} (G : Gl Z a0 zC fS bO bN bA) (hE : En Z B h) (P0 : Sb Z h a v cs cap) : Con l Z consts_1 [] (⟨"java/lang/AbstractStringBuilder", "getValue", "()[B"⟩ : MethodName) jdk_68_method_64_code 1 (some (.array .byte)) c_getV_rm B h #[(.ref a)] (fun vR hR BR => vR = some (.ref v) ∧ hR = h ∧ BR = B) := by
  have hz0 := hE.1.1
  refine Con.intro (ls := #[.val (.ref a)]) (plainFor_of_name pn19) G.2.1 hE (fun m => by first | rfl | (simp [entryFrame, mkF, argsToLocals, Value.category]; done) | rfl) ?_
  intro pP eE sS mM blw mth cC T hs X
  obtain ⟨hEx, hV, hCo, hN, hLat, hle, vs, hA, hvl, hvt⟩ := P0
  refine W.aloadN (pc' := 1) X d_jdk_68_m64_0 rfl rfl rfl ?_
  refine W.getF (pc' := 4) X (w55 G) Via.refl hV d_jdk_68_m64_1 rfl fun T X => ?_
  exact W.areturn X d_jdk_68_m64_4 rfl rfl rfl rfl (by decide) (by decide) ⟨rfl, rfl, rfl⟩
def c_asbLen_rm : Room := { frames := 0, cells := 0, slots := 0, locals := 0 }
set_option maxRecDepth 65536 in
set_option maxHeartbeats 40000000 in
theorem c_asbLen {l : Launch} {Z : State} {a0 : Array Value} {zC : Int32} {fS : Value} {bO : Addr} {bN : Addr} {bA : Addr} {h : Heap} {B : Addr → Prop} {a v : Addr} {cs : List Int32} {cap : Nat} (G : Gl Z a0 zC fS bO bN bA) (hE : En Z B h) (P0 : Sb Z h a v cs cap) : Con l Z consts_1 [] (⟨"java/lang/AbstractStringBuilder", "length", "()I"⟩ : MethodName) jdk_68_method_6_code 1 (some .int) c_asbLen_rm B h #[(.ref a)] (fun vR hR BR => vR = some (.int cs.length.toInt32) ∧ hR = h ∧ BR = B) := by
  have hz0 := hE.1.1
  refine Con.intro (ls := #[.val (.ref a)]) (plainFor_of_name pn19) G.2.1 hE (fun m => by first | rfl | (simp [entryFrame, mkF, argsToLocals, Value.category]; done) | rfl) ?_
  intro pP eE sS mM blw mth cC T hs X
  obtain ⟨hEx, hV, hCo, hN, hLat, hle, vs, hA, hvl, hvt⟩ := P0
  refine W.aloadN (pc' := 1) X d_jdk_68_m6_0 rfl rfl rfl ?_
  refine W.getF (pc' := 4) X (w80 G) Via.refl hN d_jdk_68_m6_1 rfl fun T X => ?_
  exact W.ireturn X d_jdk_68_m6_4 rfl (by decide) rfl (by decide) (by decide) ⟨rfl, rfl, rfl⟩
def c_sbLen_rm : Room := { frames := 1, cells := 0, slots := 0, locals := 12 }
set_option maxRecDepth 65536 in
set_option maxHeartbeats 40000000 in
theorem c_sbLen {l : Launch} {Z : State} {a0 : Array Value} {zC : Int32} {fS : Value} {bO : Addr} {bN : Addr} {bA : Addr} {h : Heap} {B : Addr → Prop} {a v : Addr} {cs : List Int32} {cap : Nat} (G : Gl Z a0 zC fS bO bN bA) (hE : En Z B h) (P0 : Sb Z h a v cs cap) : Con l Z consts_1 [] (⟨"java/lang/StringBuilder", "length", "()I"⟩ : MethodName) jdk_67_method_93_code 1 (some .int) c_sbLen_rm B h #[(.ref a)] (fun vR hR BR => vR = some (.int cs.length.toInt32) ∧ hR = h ∧ BR = B) := by
  have hz0 := hE.1.1
  refine Con.intro (ls := #[.val (.ref a)]) (plainFor_of_name pn28) G.2.1 hE (fun m => by first | rfl | (simp [entryFrame, mkF, argsToLocals, Value.category]; done) | rfl) ?_
  intro pP eE sS mM blw mth cC T hs X
  refine W.aloadN (pc' := 1) X d_jdk_67_m93_0 rfl rfl rfl ?_
  refine W.callX (pc' := 4) (W := 0) (argsL := []) (st := []) (k' := 0) (n' := 0) (a := a) X (c_asbLen (a := a) (v := v) (cs := cs) (cap := cap) G X.en P0) (w166 G) (sameM (z := (⟨"java/lang/AbstractStringBuilder", "length", "()I"⟩ : MethodName)) (z' := (⟨"java/lang/AbstractStringBuilder", "ensureCapacityInternal", "(I)V"⟩ : MethodName)) rfl (by decide) (w162 G) (w85 G)) (w162 G) (w67 G) (by decide) P0.exa (w167 G) (w51 G) (by decide) (by decide) rfl (lenOf pd24 rfl) rfl rfl (Nat.le_of_eq rfl) d_jdk_67_m93_1 rfl (by decide) (by decide) (by decide) (by decide) (kp fun T X => ?_)
  exact W.ireturn X d_jdk_67_m93_4 rfl (by decide) rfl (by decide) (by decide) ⟨rfl, rfl, rfl⟩
def c_sbLat_rm : Room := { frames := 0, cells := 0, slots := 0, locals := 0 }
set_option maxRecDepth 65536 in
set_option maxHeartbeats 40000000 in
theorem c_sbLat {l : Launch} {Z : State} {a0 : Array Value} {zC : Int32} {fS : Value} {bO : Addr} {bN : Addr} {bA : Addr} {h : Heap} {B : Addr → Prop} {a v : Addr} {cs : List Int32} {cap : Nat} (G : Gl Z a0 zC fS bO bN bA) (hE : En Z B h) (P0 : Sb Z h a v cs cap) : Con l Z consts_1 [] (⟨"java/lang/AbstractStringBuilder", "isLatin1", "()Z"⟩ : MethodName) jdk_68_method_68_code 1 (some .boolean) c_sbLat_rm B h #[(.ref a)] (fun vR hR BR => vR = some (.int (1 : Int32)) ∧ hR = h ∧ BR = B) := by
  have hz0 := hE.1.1
  refine Con.intro (ls := #[.val (.ref a)]) (plainFor_of_name pn19) G.2.1 hE (fun m => by first | rfl | (simp [entryFrame, mkF, argsToLocals, Value.category]; done) | rfl) ?_
  intro pP eE sS mM blw mth cC T hs X
  obtain ⟨hEx, hV, hCo, hN, hLat, hle, vs, hA, hvl, hvt⟩ := P0
  refine W.getS (pc' := 3) (host := "") X (Or.inl (w54 G)) Via.refl G.2.2.1 d_jdk_68_m68_0 rfl fun T X => ?_
  refine W.ifF (pc' := 6) X d_jdk_68_m68_3 (XT.i0_eq_f G.2.2.2.1) rfl ?_
  refine W.aloadN (pc' := 7) X d_jdk_68_m68_6 rfl rfl rfl ?_
  refine W.getF (pc' := 10) X (w57 G) Via.refl hCo d_jdk_68_m68_7 rfl fun T X => ?_
  refine W.ifF (pc' := 13) X d_jdk_68_m68_10 (by decide) rfl ?_
  refine W.iconst (pc' := 14) X (1 : Int32) d_jdk_68_m68_13 (by decide) rfl ?_
  refine W.goto (pc' := 18) X d_jdk_68_m68_14 (by decide) (by decide) ?_
  exact W.ireturn X d_jdk_68_m68_18 rfl (by decide) (by decide) (by decide) (by decide) ⟨rfl, rfl, rfl⟩
def c_ckl_rm : Room := { frames := 0, cells := 0, slots := 0, locals := 0 }
set_option maxRecDepth 65536 in
set_option maxHeartbeats 40000000 in
theorem c_ckl {l : Launch} {Z : State} {a0 : Array Value} {zC : Int32} {fS : Value} {bO : Addr} {bN : Addr} {bA : Addr} {h : Heap} {B : Addr → Prop} {f e : Nat} (G : Gl Z a0 zC fS bO bN bA) (hE : En Z B h) (P0 : f ≤ e) (P1 : e < 2 ^ 31) : Con l Z consts_1 [] (⟨"java/util/Arrays", "checkLength", "(II)V"⟩ : MethodName) jdk_65_method_131_code 2 none c_ckl_rm B h #[(.int f.toInt32), (.int e.toInt32)] (fun vR hR BR => vR = none ∧ hR = h ∧ BR = B) := by
  have hz0 := hE.1.1
  refine Con.intro (ls := #[.val (.int f.toInt32), .val (.int e.toInt32)]) (plainFor_of_name pn16) G.2.1 hE (fun m => by first | rfl | (simp [entryFrame, mkF, argsToLocals, Value.category]; done) | rfl) ?_
  intro pP eE sS mM blw mth cC T hs X
  refine W.iloadN (pc' := 1) X d_jdk_65_m131_0 rfl rfl ?_
  refine W.iloadN (pc' := 2) X d_jdk_65_m131_1 rfl rfl ?_
  refine W.icT (pc' := 37) X d_jdk_65_m131_2 (XT.ii_ge_t (fun q => by have := (lt32 P1 (by omega)).mp q; omega)) (by decide) (by decide) ?_
  exact W.vreturn X d_jdk_65_m131_37 rfl (by decide) (by decide) ⟨rfl, rfl, rfl⟩
abbrev c_corb_q (Z : State) (zC : Int32) (fS : Value) (bO : Addr) (bN : Addr) (bA : Addr) (h : Heap) (B : Addr → Prop) (a : Addr) (vs : List Value) (f e : Nat) (xR : Value) (h' : Heap) : Prop := ∃ (t : Addr), xR = (.ref t) ∧ Keep h h' [] ∧ h.size ≤ t ∧ Ar Z h' t .byte ((vs.drop f).take (e - f))
def c_corb_rm : Room := { frames := 1, cells := 1, slots := 290, locals := 18 }
set_option maxRecDepth 65536 in
set_option maxHeartbeats 40000000 in
theorem c_corb {l : Launch} {Z : State} {a0 : Array Value} {zC : Int32} {fS : Value} {bO : Addr} {bN : Addr} {bA : Addr} {h : Heap} {B : Addr → Prop} {a : Addr} {vs : List Value} {f e : Nat} (G : Gl Z a0 zC fS bO bN bA) (hE : En Z B h) (P0 : Ar Z h a .byte vs) (P1 : f ≤ e) (P2 : e ≤ vs.length) (P3 : e - f ≤ 290) : Con l Z consts_1 [] (⟨"java/util/Arrays", "copyOfRangeByte", "([BII)[B"⟩ : MethodName) jdk_65_method_133_code 5 (some (.array .byte)) c_corb_rm B h #[(.ref a), (.int f.toInt32), (.int e.toInt32)] (fun vR hR BR => ∃ xR, vR = some xR ∧ BR = B ∧ c_corb_q Z zC fS bO bN bA h B a vs f e xR hR) := by
  have hz0 := hE.1.1
  refine Con.intro (ls := #[.val (.ref a), .val (.int f.toInt32), .val (.int e.toInt32), .unset, .unset]) (plainFor_of_name pn16) G.2.1 hE (fun m => by first | rfl | (simp [entryFrame, mkF, argsToLocals, Value.category]; done) | rfl) ?_
  intro pP eE sS mM blw mth cC T hs X
  have hL := P0.len_lt
  refine W.iloadN (pc' := 1) X d_jdk_65_m133_0 rfl rfl ?_
  refine W.iloadN (pc' := 2) X d_jdk_65_m133_1 rfl rfl ?_
  refine W.callS (pc' := 5) (W := 0) (argsL := [(.int f.toInt32), (.int e.toInt32)]) (st := []) (k' := 0) (n' := 0) X (c_ckl (f := f) (e := e) G X.en (by omega) (by omega)) (w179 G) (w180 G) (w181 G) (w135 G) (by decide) (by decide) (by decide) rfl (lenOf pd9 rfl) rfl rfl (Nat.le_of_eq rfl) d_jdk_65_m133_2 rfl (by decide) (by decide) (by decide) (by decide) (kpv fun T X => ?_)
  refine W.iloadN (pc' := 6) X d_jdk_65_m133_5 rfl rfl ?_
  refine W.iloadN (pc' := 7) X d_jdk_65_m133_6 rfl rfl ?_
  refine W.isub (pc' := 8) (w := (e - f).toInt32) X d_jdk_65_m133_7 (sub32 P1 (by omega)) rfl ?_
  refine W.istoreN (pc' := 9) (ls' := #[.val (.ref a), .val (.int f.toInt32), .val (.int e.toInt32), .val (.int (e - f).toInt32), .unset]) X d_jdk_65_m133_8 rfl rfl ?_
  refine W.iloadN (pc' := 10) X d_jdk_65_m133_9 rfl rfl ?_
  refine W.newA (aty := .byte) (pc' := 12) (k' := 1) (n' := 290) (cap := 290) X (w23 G) d_jdk_65_m133_10 (len32 (by omega)).1 (by rw [(len32 (by omega)).2.1]; exact P3) (by decide) rfl (by decide) (by decide) (by decide) (by decide) fun T h1 a2 X K3 g4 g5 nb6 A7 => ?_
  have A7 : Ar Z h1 a2 .byte (List.replicate (e - f) (.int (0 : Int32))) := by have q := A7; rw [(len32 (by omega)).2.1] at q; exact q
  refine W.astore (pc' := 14) (ls' := #[.val (.ref a), .val (.int f.toInt32), .val (.int e.toInt32), .val (.int (e - f).toInt32), .val (.ref a2)]) X d_jdk_65_m133_12 rfl rfl rfl ?_
  refine W.aloadN (pc' := 15) X d_jdk_65_m133_14 rfl rfl rfl ?_
  refine W.iloadN (pc' := 16) X d_jdk_65_m133_15 rfl rfl ?_
  refine W.aload (pc' := 18) X d_jdk_65_m133_16 rfl rfl rfl ?_
  refine W.iconst (pc' := 19) X (0 : Int32) d_jdk_65_m133_18 (by decide) rfl ?_
  refine W.aloadN (pc' := 20) X d_jdk_65_m133_19 rfl rfl rfl ?_
  have F8 := (P0.keep K3 nin0)
  refine W.alen (pc' := 21) (z := (vs).length.toInt32) X F8 rfl d_jdk_65_m133_20 rfl ?_
  refine W.iloadN (pc' := 22) X d_jdk_65_m133_21 rfl rfl ?_
  refine W.isub (pc' := 23) (w := (vs.length - f).toInt32) X d_jdk_65_m133_22 (sub32 (by omega) hL) rfl ?_
  refine W.iloadN (pc' := 24) X d_jdk_65_m133_23 rfl rfl ?_
  refine W.callS (pc' := 27) (W := 4) (argsL := [(.int (vs.length - f).toInt32), (.int (e - f).toInt32)]) (st := [(.int (0 : Int32)), (.ref a2), (.int f.toInt32), (.ref a)]) (k' := 1) (n' := 290) X (c_min (a := (vs.length - f)) (b := (e - f)) G X.en (by omega) (by omega)) (w137 G) (w138 G) (w139 G) (w129 G) (by decide) (by decide) (by decide) rfl (lenOf pd15 rfl) rfl rfl (Nat.le_of_eq rfl) d_jdk_65_m133_24 rfl (by decide) (by decide) (by decide) (by decide) (kp fun T X => ?_)
  refine W.acopy (pc' := 30) (W := 0) (i := f) (j := 0) (len := (e - f)) X F8 A7 (w140 G) (w106 G) (w104 G) (w105 G) rfl rfl rfl (by rw [Nat.min_eq_right (by omega)]) (by omega) (by simp) g5 nb6 rfl (by decide) (Nat.le_of_eq rfl) (by decide) d_jdk_65_m133_27 rfl fun T h9 X K10 A11 => ?_
  have A11 : Ar Z h9 a2 .byte ((vs.drop f).take (e - f)) := (by have q := A11; rw [List.take_zero, List.nil_append, Nat.zero_add, List.drop_replicate, Nat.sub_self, List.replicate_zero, List.append_nil] at q; exact q)
  refine W.aload (pc' := 32) X d_jdk_65_m133_30 rfl rfl rfl ?_
  exact W.areturn X d_jdk_65_m133_32 rfl rfl rfl rfl (by decide) (by decide) ⟨_, rfl, rfl, ⟨a2, rfl, (Keep.trans (Keep.trans (Keep.refl h []) K3 all0) K10 (allS (Or.inr (Nat.le_trans (Nat.le_refl _) g4)) all0)), (Nat.le_trans (Nat.le_refl _) g4), A11⟩⟩
abbrev c_cor_q (Z : State) (zC : Int32) (fS : Value) (bO : Addr) (bN : Addr) (bA : Addr) (h : Heap) (B : Addr → Prop) (a : Addr) (vs : List Value) (f e : Nat) (xR : Value) (h' : Heap) : Prop := ∃ (t : Addr), xR = (.ref t) ∧ Keep h h' [] ∧ h.size ≤ t ∧ Ar Z h' t .byte ((vs.drop f).take (e - f))
def c_cor_rm : Room := { frames := 2, cells := 1, slots := 290, locals := 34 }
set_option maxRecDepth 65536 in
set_option maxHeartbeats 40000000 in
theorem c_cor {l : Launch} {Z : State} {a0 : Array Value} {zC : Int32} {fS : Value} {bO : Addr} {bN : Addr} {bA : Addr} {h : Heap} {B : Addr → Prop} {a : Addr} {vs : List Value} {f e : Nat} (G : Gl Z a0 zC fS bO bN bA) (hE : En Z B h) (P0 : Ar Z h a .byte vs) (P1 : f ≤ e) (P2 : e ≤ vs.length) (P3 : e - f ≤ 290) (P4 : 0 < f ∨ e < vs.length) : Con l Z consts_1 [] (⟨"java/util/Arrays", "copyOfRange", "([BII)[B"⟩ : MethodName) jdk_65_method_132_code 3 (some (.array .byte)) c_cor_rm B h #[(.ref a), (.int f.toInt32), (.int e.toInt32)] (fun vR hR BR => ∃ xR, vR = some xR ∧ BR = B ∧ c_cor_q Z zC fS bO bN bA h B a vs f e xR hR) := by
  have hz0 := hE.1.1
  refine Con.intro (ls := #[.val (.ref a), .val (.int f.toInt32), .val (.int e.toInt32)]) (plainFor_of_name pn16) G.2.1 hE (fun m => by first | rfl | (simp [entryFrame, mkF, argsToLocals, Value.category]; done) | rfl) ?_
  intro pP eE sS mM blw mth cC T hs X
  have hL := P0.len_lt
  refine W.iloadN (pc' := 1) X d_jdk_65_m132_0 rfl rfl ?_
  by_cases h0 : f.toInt32 = (0 : Int32)
  · skip
    refine W.ifF (pc' := 4) X d_jdk_65_m132_1 (XT.i0_ne_f h0) rfl ?_
    refine W.iloadN (pc' := 5) X d_jdk_65_m132_4 rfl rfl ?_
    refine W.aloadN (pc' := 6) X d_jdk_65_m132_5 rfl rfl rfl ?_
    refine W.alen (pc' := 7) (z := (vs).length.toInt32) X P0 rfl d_jdk_65_m132_6 rfl ?_
    refine W.icF (pc' := 10) X d_jdk_65_m132_7 (XT.ii_eq_f (fun q => by have h1 := (eq32 (by omega) hL).mp q; have h2 := (eq32 (b := 0) (by omega) (by decide)).mp h0; omega)) rfl ?_
    refine W.aloadN (pc' := 11) X d_jdk_65_m132_10 rfl rfl rfl ?_
    refine W.iloadN (pc' := 12) X d_jdk_65_m132_11 rfl rfl ?_
    refine W.iloadN (pc' := 13) X d_jdk_65_m132_12 rfl rfl ?_
    have en1 := X.en
    refine W.callS (pc' := 16) (W := 0) (argsL := [(.ref a), (.int f.toInt32), (.int e.toInt32)]) (st := []) (k' := 1) (n' := 290) X (c_corb (a := a) (vs := vs) (f := f) (e := e) G X.en P0 P1 P2 P3) (w176 G) (w177 G) (w178 G) (w135 G) (by decide) (by decide) (by decide) rfl (lenOf pd29 rfl) rfl rfl (Nat.le_of_eq rfl) d_jdk_65_m132_13 rfl (by decide) (by decide) (by decide) (by decide) (kr fun T h2 xr X z3 q4 => ?_)
    obtain ⟨a5, rfl, K6, g7, F8⟩ := q4
    have g9 : Z.heap.size ≤ a5 := Nat.le_trans (Nat.le_trans hz0 (Nat.le_refl _)) g7
    have nb10 : ¬ B a5 := fun q => absurd (en1.2 _ q) (Nat.not_lt.mpr g7)
    exact W.areturn X d_jdk_65_m132_16 rfl rfl rfl rfl (by decide) (by decide) ⟨_, rfl, rfl, ⟨a5, rfl, (Keep.trans (Keep.refl h []) K6 all0), (Nat.le_trans (Nat.le_refl _) g7), F8⟩⟩
  · skip
    refine W.ifT (pc' := 10) X d_jdk_65_m132_1 (XT.i0_ne_t h0) (by decide) (by decide) ?_
    refine W.aloadN (pc' := 11) X d_jdk_65_m132_10 rfl rfl rfl ?_
    refine W.iloadN (pc' := 12) X d_jdk_65_m132_11 rfl rfl ?_
    refine W.iloadN (pc' := 13) X d_jdk_65_m132_12 rfl rfl ?_
    have en11 := X.en
    refine W.callS (pc' := 16) (W := 0) (argsL := [(.ref a), (.int f.toInt32), (.int e.toInt32)]) (st := []) (k' := 1) (n' := 290) X (c_corb (a := a) (vs := vs) (f := f) (e := e) G X.en P0 P1 P2 P3) (w176 G) (w177 G) (w178 G) (w135 G) (by decide) (by decide) (by decide) rfl (lenOf pd29 rfl) rfl rfl (Nat.le_of_eq rfl) d_jdk_65_m132_13 rfl (by decide) (by decide) (by decide) (by decide) (kr fun T h12 xr X z13 q14 => ?_)
    obtain ⟨a15, rfl, K16, g17, F18⟩ := q14
    have g19 : Z.heap.size ≤ a15 := Nat.le_trans (Nat.le_trans hz0 (Nat.le_refl _)) g17
    have nb20 : ¬ B a15 := fun q => absurd (en11.2 _ q) (Nat.not_lt.mpr g17)
    exact W.areturn X d_jdk_65_m132_16 rfl rfl rfl rfl (by decide) (by decide) ⟨_, rfl, rfl, ⟨a15, rfl, (Keep.trans (Keep.refl h []) K16 all0), (Nat.le_trans (Nat.le_refl _) g17), F18⟩⟩
abbrev c_strA_q (Z : State) (zC : Int32) (fS : Value) (bO : Addr) (bN : Addr) (bA : Addr) (h : Heap) (B : Addr → Prop) (x a v : Addr) (cs : List Int32) (cap : Nat) (v0 c0 : Value) (h' : Heap) : Prop := ∃ (t : Addr), Keep h h' [x] ∧ h.size ≤ t ∧ Str Z h' x t cs
def c_strA_rm : Room := { frames := 3, cells := 1, slots := 290, locals := 49 }
set_option maxRecDepth 65536 in
set_option maxHeartbeats 40000000 in
theorem c_strA {l : Launch} {Z : State} {a0 : Array Value} {zC : Int32} {fS : Value} {bO : Addr} {bN : Addr} {bA : Addr} {h : Heap} {B : Addr → Prop} {x a v : Addr} {cs : List Int32} {cap : Nat} {v0 c0 : Value} (G : Gl Z a0 zC fS bO bN bA) (hE : En Z B h) (P0 : Exa Z h x "java/lang/String") (P1 : Fld Z h x "java/lang/String" "value" "[B" v0) (P2 : Fld Z h x "java/lang/String" "coder" "B" c0) (P3 : Sb Z h a v cs cap) (P4 : cs.length < cap) (P5 : cs.length ≤ 290) (P6 : Z.heap.size ≤ x) (P7 : ¬ B x) : Con l Z consts_1 [] (⟨"java/lang/String", "<init>", "(Ljava/lang/AbstractStringBuilder;Ljava/lang/Void;)V"⟩ : MethodName) jdk_42_method_150_code 5 none c_strA_rm B h #[(.ref x), (.ref a), .null] (fun vR hR BR => vR = none ∧ BR = B ∧ c_strA_q Z zC fS bO bN bA h B x a v cs cap v0 c0 hR) := by
  have hz0 := hE.1.1
  refine Con.intro (ls := #[.val (.ref x), .val (.ref a), .val .null, .unset, .unset]) (plainFor_of_name pn4) G.2.1 hE (fun m => by first | rfl | (simp [entryFrame, mkF, argsToLocals, Value.category]; done) | rfl) ?_
  intro pP eE sS mM blw mth cC T hs X
  have hP := P3
  obtain ⟨hEx, hV, hCo, hN, hLat, hle, vs, hA, hvl, hvt⟩ := hP
  have hL := hA.len_lt
  refine W.aloadN (pc' := 1) X d_jdk_42_m150_0 rfl rfl rfl ?_
  refine W.initO (pc' := 4) (W := 0) X (w15 G) (w16 G) (w17 G) d_jdk_42_m150_1 rfl (by decide) (Nat.le_of_eq rfl) (by decide) rfl fun T X => ?_
  refine W.aloadN (pc' := 5) X d_jdk_42_m150_4 rfl rfl rfl ?_
  refine W.callV (pc' := 8) (W := 0) (argsL := []) (st := []) (k' := 0) (n' := 0) (a := a) X (c_getV (a := a) (v := v) (cs := cs) (cap := cap) G X.en P3) (w155 G) (w156 G) (nfM (z' := (⟨"java/lang/AbstractStringBuilder", "ensureCapacityInternal", "(I)V"⟩ : MethodName)) rfl (w85 G)) (w158 G) (w157 G) P3.exa (w159 G) (w51 G) (by decide) (by decide) (by decide) rfl (lenOf pd30 rfl) rfl rfl (Nat.le_of_eq rfl) d_jdk_42_m150_5 rfl (by decide) (by decide) (by decide) (by decide) (kp fun T X => ?_)
  refine W.astoreN (pc' := 9) (ls' := #[.val (.ref x), .val (.ref a), .val .null, .val (.ref v), .unset]) X d_jdk_42_m150_8 rfl rfl rfl ?_
  refine W.aloadN (pc' := 10) X d_jdk_42_m150_9 rfl rfl rfl ?_
  refine W.callV (pc' := 13) (W := 0) (argsL := []) (st := []) (k' := 0) (n' := 0) (a := a) X (c_sbLen (a := a) (v := v) (cs := cs) (cap := cap) G X.en P3) (w160 G) (w161 G) (nfM (z' := (⟨"java/lang/AbstractStringBuilder", "ensureCapacityInternal", "(I)V"⟩ : MethodName)) rfl (w85 G)) (w163 G) (w164 G) P3.exa (w165 G) (w43 G) (by decide) (by decide) (by decide) rfl (lenOf pd24 rfl) rfl rfl (Nat.le_of_eq rfl) d_jdk_42_m150_10 rfl (by decide) (by decide) (by decide) (by decide) (kp fun T X => ?_)
  refine W.istore (pc' := 15) (ls' := #[.val (.ref x), .val (.ref a), .val .null, .val (.ref v), .val (.int cs.length.toInt32)]) X d_jdk_42_m150_13 rfl rfl ?_
  refine W.aloadN (pc' := 16) X d_jdk_42_m150_15 rfl rfl rfl ?_
  refine W.callV (pc' := 19) (W := 0) (argsL := []) (st := []) (k' := 0) (n' := 0) (a := a) X (c_sbLat (a := a) (v := v) (cs := cs) (cap := cap) G X.en P3) (w168 G) (w169 G) (nfM (z' := (⟨"java/lang/AbstractStringBuilder", "ensureCapacityInternal", "(I)V"⟩ : MethodName)) rfl (w85 G)) (w171 G) (w170 G) P3.exa (w172 G) (w51 G) (by decide) (by decide) (by decide) rfl (lenOf pd11 rfl) rfl rfl (Nat.le_of_eq rfl) d_jdk_42_m150_16 rfl (by decide) (by decide) (by decide) (by decide) (kp fun T X => ?_)
  refine W.ifF (pc' := 22) X d_jdk_42_m150_19 (by decide) rfl ?_
  refine W.aloadN (pc' := 23) X d_jdk_42_m150_22 rfl rfl rfl ?_
  refine W.iconst (pc' := 24) X (0 : Int32) d_jdk_42_m150_23 (by decide) rfl ?_
  refine W.putF (pc' := 27) X (w30 G) Via.refl P2 P0 (Or.inr ⟨(w31 G), rfl, rfl⟩) (w5 G) (ty := .byte) (by decide) (by decide) (by decide) P6 P7 d_jdk_42_m150_24 rfl fun T h1 X W2 => ?_
  have F3 := P2.same W2
  refine W.aloadN (pc' := 28) X d_jdk_42_m150_27 rfl rfl rfl ?_
  refine W.aloadN (pc' := 29) X d_jdk_42_m150_28 rfl rfl rfl ?_
  refine W.iconst (pc' := 30) X (0 : Int32) d_jdk_42_m150_29 (by decide) rfl ?_
  refine W.iload (pc' := 32) X d_jdk_42_m150_30 rfl rfl ?_
  have F4 := (hA.keep (Keep.of_wr W2) (ninS (Ne.symm (exa_ne_ar P0 (w5 G) hA)) nin0))
  have en5 := X.en
  refine W.callS (pc' := 35) (W := 1) (argsL := [(.ref v), (.int (0 : Int32)), (.int cs.length.toInt32)]) (st := [(.ref x)]) (k' := 1) (n' := 290) X (c_cor (a := v) (vs := vs) (f := 0) (e := cs.length) G X.en F4 (by omega) (by omega) (by omega) (Or.inr (by omega))) (w173 G) (w174 G) (w175 G) (w135 G) (by decide) (by decide) (by decide) rfl (lenOf pd29 rfl) rfl rfl (Nat.le_of_eq rfl) d_jdk_42_m150_32 rfl (by decide) (by decide) (by decide) (by decide) (kr fun T h6 xr X z7 q8 => ?_)
  obtain ⟨a9, rfl, K10, g11, F12⟩ := q8
  have g13 : Z.heap.size ≤ a9 := Nat.le_trans (Nat.le_trans hz0 (Nat.le_of_eq (Wr.size W2).symm)) g11
  have nb14 : ¬ B a9 := fun q => absurd (en5.2 _ q) (Nat.not_lt.mpr g11)
  have F15 := ((P1.other W2 (Or.inr (slot_ne (Or.inr (w33 G)) (Or.inr (w31 G)) (by decide) (t := (.array .byte)) (t' := .byte) (by decide) (by decide)))).keep K10 nin0)
  have F16 := ((P0.wr W2).keep K10)
  refine W.putF (pc' := 38) X (w32 G) Via.refl F15 F16 (Or.inr ⟨(w33 G), rfl, rfl⟩) (w5 G) (ty := (.array .byte)) (by decide) rfl rfl P6 P7 d_jdk_42_m150_35 rfl fun T h17 X W18 => ?_
  have F19 := F15.same W18
  refine W.goto (pc' := 97) X d_jdk_42_m150_38 (by decide) (by decide) ?_
  have F20 := (F16.wr W18)
  have F21 := ((F3.keep K10 nin0).other W18 (Or.inr (slot_ne (Or.inr (w31 G)) (Or.inr (w33 G)) (by decide) (t := .byte) (t' := (.array .byte)) (by decide) (by decide))))
  have F22 := (F12.keep (Keep.of_wr W18) (ninS (Nat.ne_of_gt (Nat.lt_of_lt_of_le P0.lt (Nat.le_trans (Nat.le_of_eq (Wr.size W2).symm) g11))) nin0))
  exact W.vreturn X d_jdk_42_m150_97 rfl (by decide) (by decide) ⟨rfl, rfl, ⟨a9, (Keep.wr (Keep.trans (Keep.wr (Keep.refl h [x]) W2 (Or.inl (List.mem_of_getElem? (i := 0) rfl))) K10 all0) W18 (Or.inl (List.mem_of_getElem? (i := 0) rfl))), (Nat.le_trans (Nat.le_of_eq (Wr.size W2).symm) g11), ⟨F20, F21, F19, (by have q := F22; rw [List.drop_zero, Nat.sub_zero, hvt] at q; exact q), hLat⟩⟩⟩
abbrev c_strB_q (Z : State) (zC : Int32) (fS : Value) (bO : Addr) (bN : Addr) (bA : Addr) (h : Heap) (B : Addr → Prop) (x a v : Addr) (cs : List Int32) (cap : Nat) (v0 c0 : Value) (h' : Heap) : Prop := ∃ (t : Addr), Keep h h' [x] ∧ h.size ≤ t ∧ Str Z h' x t cs
def c_strB_rm : Room := { frames := 4, cells := 1, slots := 290, locals := 65 }
set_option maxRecDepth 65536 in
set_option maxHeartbeats 40000000 in
theorem c_strB {l : Launch} {Z : State} {a0 : Array Value} {zC : Int32} {fS : Value} {bO : Addr} {bN : Addr} {bA : Addr} {h : Heap} {B : Addr → Prop} {x a v : Addr} {cs : List Int32} {cap : Nat} {v0 c0 : Value} (G : Gl Z a0 zC fS bO bN bA) (hE : En Z B h) (P0 : Exa Z h x "java/lang/String") (P1 : Fld Z h x "java/lang/String" "value" "[B" v0) (P2 : Fld Z h x "java/lang/String" "coder" "B" c0) (P3 : Sb Z h a v cs cap) (P4 : cs.length < cap) (P5 : cs.length ≤ 290) (P6 : Z.heap.size ≤ x) (P7 : ¬ B x) : Con l Z consts_1 [] (⟨"java/lang/String", "<init>", "(Ljava/lang/StringBuilder;)V"⟩ : MethodName) jdk_42_method_53_code 2 none c_strB_rm B h #[(.ref x), (.ref a)] (fun vR hR BR => vR = none ∧ BR = B ∧ c_strB_q Z zC fS bO bN bA h B x a v cs cap v0 c0 hR) := by
  have hz0 := hE.1.1
  refine Con.intro (ls := #[.val (.ref x), .val (.ref a)]) (plainFor_of_name pn4) G.2.1 hE (fun m => by first | rfl | (simp [entryFrame, mkF, argsToLocals, Value.category]; done) | rfl) ?_
  intro pP eE sS mM blw mth cC T hs X
  refine W.aloadN (pc' := 1) X d_jdk_42_m53_0 rfl rfl rfl ?_
  refine W.aloadN (pc' := 2) X d_jdk_42_m53_1 rfl rfl rfl ?_
  refine W.aconst_null (pc' := 3) X d_jdk_42_m53_2 rfl ?_
  have en1 := X.en
  refine W.callN (pc' := 6) (W := 0) (argsL := [(.ref a), .null]) (st := []) (k' := 1) (n' := 290) (a := x) X (c_strA (x := x) (a := a) (v := v) (cs := cs) (cap := cap) (v0 := v0) (c0 := c0) G X.en P0 P1 P2 P3 P4 P5 P6 P7) rfl (w152 G) (w153 G) (w154 G) (w6 G) (by decide) (by decide) (by decide) rfl (lenOf pd31 rfl) rfl rfl (Nat.le_of_eq rfl) d_jdk_42_m53_3 rfl (by decide) (by decide) (by decide) (by decide) (kv fun T h2 X z3 q4 => ?_)
  obtain ⟨a5, K6, g7, F8⟩ := q4
  have g9 : Z.heap.size ≤ a5 := Nat.le_trans (Nat.le_trans hz0 (Nat.le_refl _)) g7
  have nb10 : ¬ B a5 := fun q => absurd (en1.2 _ q) (Nat.not_lt.mpr g7)
  exact W.vreturn X d_jdk_42_m53_6 rfl (by decide) (by decide) ⟨rfl, rfl, ⟨a5, (Keep.trans (Keep.refl h [x]) K6 (allS (Or.inl (List.mem_of_getElem? (i := 0) rfl)) all0)), (Nat.le_trans (Nat.le_refl _) g7), F8⟩⟩
abbrev c_toS_q (Z : State) (zC : Int32) (fS : Value) (bO : Addr) (bN : Addr) (bA : Addr) (h : Heap) (B : Addr → Prop) (a v : Addr) (cs : List Int32) (cap : Nat) (xR : Value) (h' : Heap) : Prop := ∃ (x : Addr) (t : Addr), xR = (.ref x) ∧ Keep h h' [] ∧ h.size ≤ x ∧ h.size ≤ t ∧ Str Z h' x t cs
def c_toS_rm : Room := { frames := 5, cells := 2, slots := 294, locals := 79 }
set_option maxRecDepth 65536 in
set_option maxHeartbeats 40000000 in
theorem c_toS {l : Launch} {Z : State} {a0 : Array Value} {zC : Int32} {fS : Value} {bO : Addr} {bN : Addr} {bA : Addr} {h : Heap} {B : Addr → Prop} {a v : Addr} {cs : List Int32} {cap : Nat} (G : Gl Z a0 zC fS bO bN bA) (hE : En Z B h) (P0 : Sb Z h a v cs cap) (P1 : cs.length < cap) (P2 : cs.length ≤ 290) : Con l Z consts_1 [] (⟨"java/lang/StringBuilder", "toString", "()Ljava/lang/String;"⟩ : MethodName) jdk_67_method_42_code 1 (some (.object "java/lang/String")) c_toS_rm B h #[(.ref a)] (fun vR hR BR => ∃ xR, vR = some xR ∧ BR = B ∧ c_toS_q Z zC fS bO bN bA h B a v cs cap xR hR) := by
  have hz0 := hE.1.1
  refine Con.intro (ls := #[.val (.ref a)]) (plainFor_of_name pn28) G.2.1 hE (fun m => by first | rfl | (simp [entryFrame, mkF, argsToLocals, Value.category]; done) | rfl) ?_
  intro pP eE sS mM blw mth cC T hs X
  refine W.new (pc' := 3) (k' := 1) (n' := 4) X (w148 G) (w5 G) (w6 G) d_jdk_67_m42_0 rfl (by decide) (by decide) (by decide) (by decide) fun T h1 a2 X K3 g4 g5 nb6 E7 D8 => ?_
  have F9 : Fld Z h1 a2 "java/lang/String" "coder" "B" (.int (0 : Int32)) := D8 (Or.inr (w31 G)) (ty := .byte) (by decide)
  have F10 : Fld Z h1 a2 "java/lang/String" "value" "[B" .null := D8 (Or.inr (w33 G)) (ty := (.array .byte)) (by decide)
  refine W.dup (pc' := 4) X d_jdk_67_m42_3 rfl rfl ?_
  refine W.aloadN (pc' := 5) X d_jdk_67_m42_4 rfl rfl rfl ?_
  have F11 := (P0.keep K3 nin0 nin0)
  have en12 := X.en
  refine W.callN (pc' := 8) (W := 1) (argsL := [(.ref a)]) (st := [(.ref a2)]) (k' := 2) (n' := 294) (a := a2) X (c_strB (x := a2) (a := a) (v := v) (cs := cs) (cap := cap) (v0 := .null) (c0 := (.int (0 : Int32))) G X.en E7 F10 F9 F11 P1 P2 g5 nb6) rfl (w149 G) (w150 G) (w151 G) (w6 G) (by decide) (by decide) (by decide) rfl (lenOf pd32 rfl) rfl rfl (Nat.le_of_eq rfl) d_jdk_67_m42_5 rfl (by decide) (by decide) (by decide) (by decide) (kv fun T h13 X z14 q15 => ?_)
  obtain ⟨a16, K17, g18, F19⟩ := q15
  have g20 : Z.heap.size ≤ a16 := Nat.le_trans (Nat.le_trans hz0 K3.1) g18
  have nb21 : ¬ B a16 := fun q => absurd (en12.2 _ q) (Nat.not_lt.mpr g18)
  exact W.areturn X d_jdk_67_m42_8 rfl rfl rfl rfl (by decide) (by decide) ⟨_, rfl, rfl, ⟨a2, a16, rfl, (Keep.trans (Keep.trans (Keep.refl h []) K3 all0) K17 (allS (Or.inr (Nat.le_trans (Nat.le_refl _) g4)) all0)), (Nat.le_trans (Nat.le_refl _) g4), (Nat.le_trans K3.1 g18), F19⟩⟩
def c_canE_rm : Room := { frames := 0, cells := 0, slots := 0, locals := 0 }
set_option maxRecDepth 65536 in
set_option maxHeartbeats 40000000 in
theorem c_canE {l : Launch} {Z : State} {a0 : Array Value} {zC : Int32} {fS : Value} {bO : Addr} {bN : Addr} {bA : Addr} {h : Heap} {B : Addr → Prop} {x : Int32} (G : Gl Z a0 zC fS bO bN bA) (hE : En Z B h) (P0 : L8 x) : Con l Z consts_1 [] (⟨"java/lang/StringLatin1", "canEncode", "(C)Z"⟩ : MethodName) jdk_43_method_3_code 1 (some .boolean) c_canE_rm B h #[(.int x)] (fun vR hR BR => vR = some (.int (1 : Int32)) ∧ hR = h ∧ BR = B) := by
  have hz0 := hE.1.1
  refine Con.intro (ls := #[.val (.int x)]) (plainFor_of_name pn10) G.2.1 hE (fun m => by first | rfl | (simp [entryFrame, mkF, argsToLocals, Value.category]; done) | rfl) ?_
  intro pP eE sS mM blw mth cC T hs X
  refine W.iloadN (pc' := 1) X d_jdk_43_m3_0 rfl rfl ?_
  refine W.sipush (pc' := 4) X (255 : Int32) d_jdk_43_m3_1 (by decide) rfl ?_
  refine W.icF (pc' := 7) X d_jdk_43_m3_4 (XT.ii_gt_f (fun q => by rw [Int32.lt_iff_toInt_lt] at q; have e : (255 : Int32).toInt = 255 := rfl; have := P0.2; omega)) rfl ?_
  refine W.iconst (pc' := 8) X (1 : Int32) d_jdk_43_m3_7 (by decide) rfl ?_
  refine W.goto (pc' := 12) X d_jdk_43_m3_8 (by decide) (by decide) ?_
  exact W.ireturn X d_jdk_43_m3_12 rfl (by decide) (by decide) (by decide) (by decide) ⟨rfl, rfl, rfl⟩
abbrev c_toB_q (Z : State) (zC : Int32) (fS : Value) (bO : Addr) (bN : Addr) (bA : Addr) (h : Heap) (B : Addr → Prop) (x : Int32) (xR : Value) (h' : Heap) : Prop := ∃ (t : Addr), xR = (.ref t) ∧ Keep h h' [] ∧ h.size ≤ t ∧ Ar Z h' t .byte (by8 [x])
def c_toB_rm : Room := { frames := 0, cells := 1, slots := 1, locals := 0 }
set_option maxRecDepth 65536 in
set_option maxHeartbeats 40000000 in
theorem c_toB {l : Launch} {Z : State} {a0 : Array Value} {zC : Int32} {fS : Value} {bO : Addr} {bN : Addr} {bA : Addr} {h : Heap} {B : Addr → Prop} {x : Int32} (G : Gl Z a0 zC fS bO bN bA) (hE : En Z B h)  : Con l Z consts_1 [] (⟨"java/lang/StringLatin1", "toBytes", "(C)[B"⟩ : MethodName) jdk_43_method_46_code 1 (some (.array .byte)) c_toB_rm B h #[(.int x)] (fun vR hR BR => ∃ xR, vR = some xR ∧ BR = B ∧ c_toB_q Z zC fS bO bN bA h B x xR hR) := by
  have hz0 := hE.1.1
  refine Con.intro (ls := #[.val (.int x)]) (plainFor_of_name pn10) G.2.1 hE (fun m => by first | rfl | (simp [entryFrame, mkF, argsToLocals, Value.category]; done) | rfl) ?_
  intro pP eE sS mM blw mth cC T hs X
  refine W.iconst (pc' := 1) X (1 : Int32) d_jdk_43_m46_0 (by decide) rfl ?_
  refine W.newA (aty := .byte) (pc' := 3) (k' := 1) (n' := 1) (cap := 1) X (w23 G) d_jdk_43_m46_1 (by decide) (by decide) (by decide) rfl (by decide) (by decide) (by decide) (by decide) fun T h1 a2 X K3 g4 g5 nb6 A7 => ?_
  have A7 : Ar Z h1 a2 .byte [(.int (0 : Int32))] := A7
  refine W.dup (pc' := 4) X d_jdk_43_m46_3 rfl rfl ?_
  refine W.iconst (pc' := 5) X (0 : Int32) d_jdk_43_m46_4 (by decide) rfl ?_
  refine W.iloadN (pc' := 6) X d_jdk_43_m46_5 rfl rfl ?_
  refine W.i2b (pc' := 7) (w := x.toInt8.toInt32) X d_jdk_43_m46_6 rfl rfl ?_
  refine W.bastore (pc' := 8) (i := 0) X A7 (by decide) rfl (ltb rfl) (lo8_lo8 _) g5 nb6 d_jdk_43_m46_7 rfl fun T h8 X K9 A10 => ?_
  have A10 : Ar Z h8 a2 .byte ([(.int x.toInt8.toInt32)]) := A10
  exact W.areturn X d_jdk_43_m46_8 rfl rfl rfl rfl (by decide) (by decide) ⟨_, rfl, rfl, ⟨a2, rfl, (Keep.trans (Keep.trans (Keep.refl h []) K3 all0) K9 (allS (Or.inr (Nat.le_trans (Nat.le_refl _) g4)) all0)), (Nat.le_trans (Nat.le_refl _) g4), A10⟩⟩
abbrev c_initBB_q (Z : State) (zC : Int32) (fS : Value) (bO : Addr) (bN : Addr) (bA : Addr) (h : Heap) (B : Addr → Prop) (x b : Addr) (cs : List Int32) (v0 c0 : Value) (h' : Heap) : Prop := Keep h h' [x] ∧ Str Z h' x b cs
def c_initBB_rm : Room := { frames := 1, cells := 0, slots := 0, locals := 12 }
set_option maxRecDepth 65536 in
set_option maxHeartbeats 40000000 in
theorem c_initBB {l : Launch} {Z : State} {a0 : Array Value} {zC : Int32} {fS : Value} {bO : Addr} {bN : Addr} {bA : Addr} {h : Heap} {B : Addr → Prop} {x b : Addr} {cs : List Int32} {v0 c0 : Value} (G : Gl Z a0 zC fS bO bN bA) (hE : En Z B h) (P0 : Exa Z h x "java/lang/String") (P1 : Fld Z h x "java/lang/String" "value" "[B" v0) (P2 : Fld Z h x "java/lang/String" "coder" "B" c0) (P3 : Ar Z h b .byte (by8 cs)) (P4 : Lat cs) (P5 : Z.heap.size ≤ x) (P6 : ¬ B x) : Con l Z consts_1 [] (⟨"java/lang/String", "<init>", "([BB)V"⟩ : MethodName) jdk_42_method_151_code 3 none c_initBB_rm B h #[(.ref x), (.ref b), (.int (0 : Int32))] (fun vR hR BR => vR = none ∧ BR = B ∧ c_initBB_q Z zC fS bO bN bA h B x b cs v0 c0 hR) := by
  have hz0 := hE.1.1
  refine Con.intro (ls := #[.val (.ref x), .val (.ref b), .val (.int (0 : Int32))]) (plainFor_of_name pn4) G.2.1 hE (fun m => by first | rfl | (simp [entryFrame, mkF, argsToLocals, Value.category]; done) | rfl) ?_
  intro pP eE sS mM blw mth cC T hs X
  refine W.aloadN (pc' := 1) X d_jdk_42_m151_0 rfl rfl rfl ?_
  refine W.initO (pc' := 4) (W := 0) X (w15 G) (w16 G) (w17 G) d_jdk_42_m151_1 rfl (by decide) (Nat.le_of_eq rfl) (by decide) rfl fun T X => ?_
  refine W.aloadN (pc' := 5) X d_jdk_42_m151_4 rfl rfl rfl ?_
  refine W.aloadN (pc' := 6) X d_jdk_42_m151_5 rfl rfl rfl ?_
  refine W.putF (pc' := 9) X (w32 G) Via.refl P1 P0 (Or.inr ⟨(w33 G), rfl, rfl⟩) (w5 G) (ty := (.array .byte)) (by decide) rfl rfl P5 P6 d_jdk_42_m151_6 rfl fun T h1 X W2 => ?_
  have F3 := P1.same W2
  refine W.aloadN (pc' := 10) X d_jdk_42_m151_9 rfl rfl rfl ?_
  refine W.iloadN (pc' := 11) X d_jdk_42_m151_10 rfl rfl ?_
  have F4 := (P2.other W2 (Or.inr (slot_ne (Or.inr (w31 G)) (Or.inr (w33 G)) (by decide) (t := .byte) (t' := (.array .byte)) (by decide) (by decide))))
  have F5 := (P0.wr W2)
  refine W.putF (pc' := 14) X (w30 G) Via.refl F4 F5 (Or.inr ⟨(w31 G), rfl, rfl⟩) (w5 G) (ty := .byte) (by decide) (by decide) (by decide) P5 P6 d_jdk_42_m151_11 rfl fun T h6 X W7 => ?_
  have F8 := F4.same W7
  have F9 := (F5.wr W7)
  have F10 := (F3.other W7 (Or.inr (slot_ne (Or.inr (w33 G)) (Or.inr (w31 G)) (by decide) (t := (.array .byte)) (t' := .byte) (by decide) (by decide))))
  have F11 := ((P3.keep (Keep.of_wr W2) (ninS (Ne.symm (exa_ne_ar P0 (w5 G) P3)) nin0)).keep (Keep.of_wr W7) (ninS (Ne.symm (exa_ne_ar P0 (w5 G) P3)) nin0))
  exact W.vreturn X d_jdk_42_m151_14 rfl (by decide) (by decide) ⟨rfl, rfl, ⟨(Keep.wr (Keep.wr (Keep.refl h [x]) W2 (Or.inl (List.mem_of_getElem? (i := 0) rfl))) W7 (Or.inl (List.mem_of_getElem? (i := 0) rfl))), ⟨F9, F8, F10, F11, P4⟩⟩⟩
abbrev c_valC_q (Z : State) (zC : Int32) (fS : Value) (bO : Addr) (bN : Addr) (bA : Addr) (h : Heap) (B : Addr → Prop) (x : Int32) (xR : Value) (h' : Heap) : Prop := ∃ (u : Addr) (t : Addr), xR = (.ref u) ∧ Keep h h' [] ∧ h.size ≤ u ∧ h.size ≤ t ∧ Str Z h' u t ([x])
def c_valC_rm : Room := { frames := 2, cells := 2, slots := 5, locals := 27 }
set_option maxRecDepth 65536 in
set_option maxHeartbeats 40000000 in
theorem c_valC {l : Launch} {Z : State} {a0 : Array Value} {zC : Int32} {fS : Value} {bO : Addr} {bN : Addr} {bA : Addr} {h : Heap} {B : Addr → Prop} {x : Int32} (G : Gl Z a0 zC fS bO bN bA) (hE : En Z B h) (P0 : L8 x) : Con l Z consts_1 [] (⟨"java/lang/String", "valueOf", "(C)Ljava/lang/String;"⟩ : MethodName) jdk_42_method_139_code 1 (some (.object "java/lang/String")) c_valC_rm B h #[(.int x)] (fun vR hR BR => ∃ xR, vR = some xR ∧ BR = B ∧ c_valC_q Z zC fS bO bN bA h B x xR hR) := by
  have hz0 := hE.1.1
  refine Con.intro (ls := #[.val (.int x)]) (plainFor_of_name pn4) G.2.1 hE (fun m => by first | rfl | (simp [entryFrame, mkF, argsToLocals, Value.category]; done) | rfl) ?_
  intro pP eE sS mM blw mth cC T hs X
  refine W.getS (pc' := 3) (host := "") X (Or.inl (w18 G)) Via.refl G.2.2.1 d_jdk_42_m139_0 rfl fun T X => ?_
  refine W.ifF (pc' := 6) X d_jdk_42_m139_3 (XT.i0_eq_f G.2.2.2.1) rfl ?_
  refine W.iloadN (pc' := 7) X d_jdk_42_m139_6 rfl rfl ?_
  refine W.callS (pc' := 10) (W := 0) (argsL := [(.int x)]) (st := []) (k' := 0) (n' := 0) X (c_canE (x := x) G X.en P0) (w237 G) (w238 G) (w239 G) (w212 G) (by decide) (by decide) (by decide) rfl (lenOf pd33 rfl) rfl rfl (Nat.le_of_eq rfl) d_jdk_42_m139_7 rfl (by decide) (by decide) (by decide) (by decide) (kp fun T X => ?_)
  refine W.ifF (pc' := 13) X d_jdk_42_m139_10 (by decide) rfl ?_
  refine W.new (pc' := 16) (k' := 1) (n' := 4) X (w240 G) (w5 G) (w6 G) d_jdk_42_m139_13 rfl (by decide) (by decide) (by decide) (by decide) fun T h1 a2 X K3 g4 g5 nb6 E7 D8 => ?_
  have F9 : Fld Z h1 a2 "java/lang/String" "coder" "B" (.int (0 : Int32)) := D8 (Or.inr (w31 G)) (ty := .byte) (by decide)
  have F10 : Fld Z h1 a2 "java/lang/String" "value" "[B" .null := D8 (Or.inr (w33 G)) (ty := (.array .byte)) (by decide)
  refine W.dup (pc' := 17) X d_jdk_42_m139_16 rfl rfl ?_
  refine W.iloadN (pc' := 18) X d_jdk_42_m139_17 rfl rfl ?_
  have en11 := X.en
  refine W.callS (pc' := 21) (W := 2) (argsL := [(.int x)]) (st := [(.ref a2), (.ref a2)]) (k' := 2) (n' := 5) X (c_toB (x := x) G X.en) (w241 G) (w242 G) (w243 G) (w212 G) (by decide) (by decide) (by decide) rfl (lenOf pd34 rfl) rfl rfl (Nat.le_of_eq rfl) d_jdk_42_m139_18 rfl (by decide) (by decide) (by decide) (by decide) (kr fun T h12 xr X z13 q14 => ?_)
  obtain ⟨a15, rfl, K16, g17, F18⟩ := q14
  have g19 : Z.heap.size ≤ a15 := Nat.le_trans (Nat.le_trans hz0 K3.1) g17
  have nb20 : ¬ B a15 := fun q => absurd (en11.2 _ q) (Nat.not_lt.mpr g17)
  refine W.iconst (pc' := 22) X (0 : Int32) d_jdk_42_m139_21 (by decide) rfl ?_
  have F21 := (E7.keep K16)
  have F22 := (F10.keep K16 nin0)
  have F23 := (F9.keep K16 nin0)
  refine W.callN (pc' := 25) (W := 1) (argsL := [(.ref a15), (.int (0 : Int32))]) (st := [(.ref a2)]) (k' := 2) (n' := 5) (a := a2) X (c_initBB (x := a2) (b := a15) (cs := [x]) (v0 := .null) (c0 := (.int (0 : Int32))) G X.en F21 F22 F23 F18 (latS P0 lat0) g5 nb6) rfl (w244 G) (w245 G) (w246 G) (w6 G) (by decide) (by decide) (by decide) rfl (lenOf pd35 rfl) rfl rfl (Nat.le_of_eq rfl) d_jdk_42_m139_22 rfl (by decide) (by decide) (by decide) (by decide) (kv fun T h24 X z25 q26 => ?_)
  obtain ⟨K27, F28⟩ := q26
  exact W.areturn X d_jdk_42_m139_25 rfl rfl rfl rfl (by decide) (by decide) ⟨_, rfl, rfl, ⟨a2, a15, rfl, (Keep.trans (Keep.trans (Keep.trans (Keep.refl h []) K3 all0) K16 all0) K27 (allS (Or.inr (Nat.le_trans (Nat.le_refl _) g4)) all0)), (Nat.le_trans (Nat.le_refl _) g4), (Nat.le_trans K3.1 g17), F28⟩⟩
abbrev c_make_q (Z : State) (zC : Int32) (fS : Value) (bO : Addr) (bN : Addr) (bA : Addr) (h : Heap) (B : Addr → Prop) (n x y : Int32) (xR : Value) (h' : Heap) (B' : Addr → Prop) : Prop := ∃ (u : Addr) (t : Addr), xR = (.ref u) ∧ Keep h h' [] ∧ Str Z h' u t (wl n x y)
def c_make_rm : Room := { frames := 4, cells := 3, slots := 8, locals := 66 }
set_option maxRecDepth 65536 in
set_option maxHeartbeats 40000000 in
theorem c_make {l : Launch} {Z : State} {a0 : Array Value} {zC : Int32} {fS : Value} {bO : Addr} {bN : Addr} {bA : Addr} {h : Heap} {B : Addr → Prop} {n x y : Int32} (G : Gl Z a0 zC fS bO bN bA) (hE : En Z B h) (P0 : L8 x) (P1 : L8 y) : Con l Z consts_1 [] (⟨"com/example/compendio/compendio/cli/ArgumentsUsageWithBookPinLaw", "make", "(ICC)Ljava/lang/String;"⟩ : MethodName) method_3_code 3 (some (.object "java/lang/String")) c_make_rm B h #[(.int n), (.int x), (.int y)] (fun vR hR BR => ∃ xR, vR = some xR ∧ c_make_q Z zC fS bO bN bA h B n x y xR hR BR) := by
  have hz0 := hE.1.1
  refine Con.intro (ls := #[.val (.int n), .val (.int x), .val (.int y)]) (plainFor_of_name pn38) G.2.1 hE (fun m => by first | rfl | (simp [entryFrame, mkF, argsToLocals, Value.category]; done) | rfl) ?_
  intro pP eE sS mM blw mth cC T hs X
  refine W.iloadN (pc' := 1) X d_m3_0 rfl rfl ?_
  by_cases h0 : n = (0 : Int32)
  · skip
    refine W.ifF (pc' := 4) X d_m3_1 (XT.i0_ne_f h0) rfl ?_
    refine W.ldcR (pc' := 6) (k' := 2) (n' := 4) (cap := 0) (cs := []) X (by decide) (w34 G) (watoms G) G.2.1 ⟨by decide, by decide⟩ (by unfold Lat; decide) (by decide) d_m3_4 (by decide) (by decide) rfl (by decide) (by decide) (by decide) (by decide) fun T h1 B5 a2 a6 X K3 zb4 S7 ne8 => ?_
    exact W.areturn X d_m3_6 rfl rfl rfl rfl (by decide) (by decide) ⟨_, rfl, ⟨a2, a6, rfl, (Keep.trans (Keep.refl h []) K3 all0), (strc S7 (by rw [wl, if_pos h0]))⟩⟩
  · skip
    refine W.ifT (pc' := 7) X d_m3_1 (XT.i0_ne_t h0) (by decide) (by decide) ?_
    refine W.iloadN (pc' := 8) X d_m3_7 rfl rfl ?_
    refine W.iconst (pc' := 9) X (1 : Int32) d_m3_8 (by decide) rfl ?_
    by_cases h1 : n = (1 : Int32)
    · skip
      refine W.icF (pc' := 12) X d_m3_9 (XT.ii_ne_f h1) rfl ?_
      refine W.iloadN (pc' := 13) X d_m3_12 rfl rfl ?_
      have en9 := X.en
      refine W.callS (pc' := 16) (W := 0) (argsL := [(.int x)]) (st := []) (k' := 2) (n' := 5) X (c_valC (x := x) G X.en P0) (w234 G) (w235 G) (w236 G) (w6 G) (by decide) (by decide) (by decide) rfl (lenOf pd36 rfl) rfl rfl (Nat.le_of_eq rfl) d_m3_13 rfl (by decide) (by decide) (by decide) (by decide) (kr fun T h10 xr X z11 q12 => ?_)
      obtain ⟨a13, a14, rfl, K15, g16, g17, F18⟩ := q12
      have g19 : Z.heap.size ≤ a13 := Nat.le_trans (Nat.le_trans hz0 (Nat.le_refl _)) g16
      have nb20 : ¬ B a13 := fun q => absurd (en9.2 _ q) (Nat.not_lt.mpr g16)
      have g21 : Z.heap.size ≤ a14 := Nat.le_trans (Nat.le_trans hz0 (Nat.le_refl _)) g17
      have nb22 : ¬ B a14 := fun q => absurd (en9.2 _ q) (Nat.not_lt.mpr g17)
      exact W.areturn X d_m3_16 rfl rfl rfl rfl (by decide) (by decide) ⟨_, rfl, ⟨a13, a14, rfl, (Keep.trans (Keep.refl h []) K15 all0), (strc F18 (by rw [wl, if_neg h0, if_pos h1]))⟩⟩
    · skip
      refine W.icT (pc' := 17) X d_m3_9 (XT.ii_ne_t h1) (by decide) (by decide) ?_
      refine W.new (pc' := 20) (k' := 1) (n' := 4) X (w4 G) (w5 G) (w6 G) d_m3_17 rfl (by decide) (by decide) (by decide) (by decide) fun T h23 a24 X K25 g26 g27 nb28 E29 D30 => ?_
      have F31 : Fld Z h23 a24 "java/lang/String" "coder" "B" (.int (0 : Int32)) := D30 (Or.inr (w31 G)) (ty := .byte) (by decide)
      have F32 : Fld Z h23 a24 "java/lang/String" "value" "[B" .null := D30 (Or.inr (w33 G)) (ty := (.array .byte)) (by decide)
      refine W.dup (pc' := 21) X d_m3_20 rfl rfl ?_
      refine W.iconst (pc' := 22) X (2 : Int32) d_m3_21 (by decide) rfl ?_
      refine W.newA (aty := .char) (pc' := 24) (k' := 2) (n' := 6) (cap := 2) X (w7 G) d_m3_22 (by decide) (by decide) (by decide) rfl (by decide) (by decide) (by decide) (by decide) fun T h33 a34 X K35 g36 g37 nb38 A39 => ?_
      have A39 : Ar Z h33 a34 .char [(.int (0 : Int32)), (.int (0 : Int32))] := A39
      refine W.dup (pc' := 25) X d_m3_24 rfl rfl ?_
      refine W.iconst (pc' := 26) X (0 : Int32) d_m3_25 (by decide) rfl ?_
      refine W.iloadN (pc' := 27) X d_m3_26 rfl rfl ?_
      refine W.castore (pc' := 28) (i := 0) X A39 (by decide) rfl (ltb rfl) (l8c P0) g37 nb38 d_m3_27 rfl fun T h40 X K41 A42 => ?_
      have A42 : Ar Z h40 a34 .char [(.int x), (.int (0 : Int32))] := A42
      refine W.dup (pc' := 29) X d_m3_28 rfl rfl ?_
      refine W.iconst (pc' := 30) X (1 : Int32) d_m3_29 (by decide) rfl ?_
      refine W.iloadN (pc' := 31) X d_m3_30 rfl rfl ?_
      refine W.castore (pc' := 32) (i := 1) X A42 (by decide) rfl (ltb rfl) (l8c P1) g37 nb38 d_m3_31 rfl fun T h43 X K44 A45 => ?_
      have A45 : Ar Z h43 a34 .char [(.int x), (.int y)] := A45
      have F46 := (((E29.keep K35).keep K41).keep K44)
      have F47 := (((F32.keep K35 nin0).keep K41 (ninS (Nat.ne_of_lt (Nat.lt_of_lt_of_le E29.lt (Nat.le_trans (Nat.le_refl _) g36))) nin0)).keep K44 (ninS (Nat.ne_of_lt (Nat.lt_of_lt_of_le E29.lt (Nat.le_trans (Nat.le_refl _) g36))) nin0))
      have F48 := (((F31.keep K35 nin0).keep K41 (ninS (Nat.ne_of_lt (Nat.lt_of_lt_of_le E29.lt (Nat.le_trans (Nat.le_refl _) g36))) nin0)).keep K44 (ninS (Nat.ne_of_lt (Nat.lt_of_lt_of_le E29.lt (Nat.le_trans (Nat.le_refl _) g36))) nin0))
      have en49 := X.en
      refine W.callN (pc' := 35) (W := 1) (argsL := [(.ref a34)]) (st := [(.ref a24)]) (k' := 3) (n' := 8) (a := a24) X (c_init1 (x := a24) (a := a34) (cs := [x, y]) (v0 := .null) (c0 := (.int (0 : Int32))) G X.en F46 F47 F48 A45 (latS P0 (latS P1 lat0)) (ltb rfl) (leb rfl) g27 nb28) rfl (w8 G) (w9 G) (w10 G) (w6 G) (by decide) (by decide) (by decide) rfl (lenOf pd37 rfl) rfl rfl (Nat.le_of_eq rfl) d_m3_32 rfl (by decide) (by decide) (by decide) (by decide) (kv fun T h50 X z51 q52 => ?_)
      obtain ⟨a53, K54, g55, F56⟩ := q52
      have g57 : Z.heap.size ≤ a53 := Nat.le_trans (Nat.le_trans hz0 (Nat.le_trans (Nat.le_trans (Nat.le_trans K25.1 K35.1) K41.1) K44.1)) g55
      have nb58 : ¬ B a53 := fun q => absurd (en49.2 _ q) (Nat.not_lt.mpr g55)
      exact W.areturn X d_m3_35 rfl rfl rfl rfl (by decide) (by decide) ⟨_, rfl, ⟨a24, a53, rfl, (Keep.trans (Keep.trans (Keep.trans (Keep.trans (Keep.trans (Keep.refl h []) K25 all0) K35 all0) K41 (allS (Or.inr (Nat.le_trans K25.1 g36)) all0)) K44 (allS (Or.inr (Nat.le_trans K25.1 g36)) all0)) K54 (allS (Or.inr (Nat.le_trans (Nat.le_refl _) g26)) all0)), (strc F56 (by rw [wl, if_neg h0, if_neg h1]))⟩⟩
def c_opn_rm : Room := { frames := 0, cells := 0, slots := 0, locals := 0 }
set_option maxRecDepth 65536 in
set_option maxHeartbeats 40000000 in
theorem c_opn {l : Launch} {Z : State} {a0 : Array Value} {zC : Int32} {fS : Value} {bO : Addr} {bN : Addr} {bA : Addr} {h : Heap} {B : Addr → Prop} {a b : Addr} (G : Gl Z a0 zC fS bO bN bA) (hE : En Z B h) (P0 : Fld Z h a "com/example/compendio/compendio/cli/Arguments$Option" "name" "Ljava/lang/String;" (.ref b)) : Con l Z consts_1 [] (⟨"com/example/compendio/compendio/cli/Arguments$Option", "name", "()Ljava/lang/String;"⟩ : MethodName) prog_4_method_5_code 1 (some (.object "java/lang/String")) c_opn_rm B h #[(.ref a)] (fun vR hR BR => vR = some (.ref b) ∧ hR = h ∧ BR = B) := by
  have hz0 := hE.1.1
  refine Con.intro (ls := #[.val (.ref a)]) (plainFor_of_name pn39) G.2.1 hE (fun m => by first | rfl | (simp [entryFrame, mkF, argsToLocals, Value.category]; done) | rfl) ?_
  intro pP eE sS mM blw mth cC T hs X
  refine W.aloadN (pc' := 1) X d_prog_4_m5_0 rfl rfl rfl ?_
  refine W.getF (pc' := 4) X (w191 G) Via.refl P0 d_prog_4_m5_1 rfl fun T X => ?_
  exact W.areturn X d_prog_4_m5_4 rfl rfl rfl rfl (by decide) (by decide) ⟨rfl, rfl, rfl⟩
abbrev c_syn_q (Z : State) (zC : Int32) (fS : Value) (bO : Addr) (bN : Addr) (bA : Addr) (h : Heap) (B : Addr → Prop) (c cb o ob u ub : Addr) (cs os ts : List Int32) (xR : Value) (h' : Heap) (B' : Addr → Prop) : Prop := ∃ (x : Addr) (t : Addr), xR = (.ref x) ∧ Keep h h' [] ∧ h.size ≤ x ∧ h.size ≤ t ∧ Str Z h' x t (syn cs os ts)
def c_syn_rm : Room := { frames := 6, cells := 24, slots := 3152, locals := 91 }
set_option maxRecDepth 65536 in
set_option maxHeartbeats 40000000 in
theorem c_syn {l : Launch} {Z : State} {a0 : Array Value} {zC : Int32} {fS : Value} {bO : Addr} {bN : Addr} {bA : Addr} {h : Heap} {B : Addr → Prop} {c cb o ob u ub : Addr} {cs os ts : List Int32} (G : Gl Z a0 zC fS bO bN bA) (hE : En Z B h) (P0 : Str Z h c cb cs) (P1 : Str Z h o ob os) (P2 : Str Z h u ub ts) (P3 : cs.length ≤ 2) (P4 : os.length ≤ 2) (P5 : ts.length ≤ 18) : Con l Z consts_1 [] (⟨"com/example/compendio/compendio/cli/Arguments", "synopsis", "(Ljava/lang/String;Ljava/lang/String;Ljava/lang/String;)Ljava/lang/String;"⟩ : MethodName) prog_3_method_4_code 4 (some (.object "java/lang/String")) c_syn_rm B h #[(.ref c), (.ref o), (.ref u)] (fun vR hR BR => ∃ xR, vR = some xR ∧ c_syn_q Z zC fS bO bN bA h B c cb o ob u ub cs os ts xR hR BR) := by
  have hz0 := hE.1.1
  refine Con.intro (ls := #[.val (.ref c), .val (.ref o), .val (.ref u), .unset]) (plainFor_of_name pn43) G.2.1 hE (fun m => by first | rfl | (simp [entryFrame, mkF, argsToLocals, Value.category]; done) | rfl) ?_
  intro pP eE sS mM blw mth cC T hs X
  have hol := own_len P4
  by_cases he : os = []
  · have P1e : Str Z h o ob ([] : List Int32) := he ▸ P1
    have ho : ownL os = [] := if_pos he
    refine W.aloadN (pc' := 1) X d_prog_3_m4_0 rfl rfl rfl ?_
    refine W.callV (pc' := 4) (W := 0) (argsL := []) (st := []) (k' := 0) (n' := 0) (a := o) X (c_emp1 (a := o) (b := ob) G X.en P1e) (w111 G) (w112 G) (nfM (z' := (⟨"java/lang/String", "length", "()I"⟩ : MethodName)) rfl (w73 G)) (w114 G) (w113 G) P1e.exa (w115 G) (w6 G) (by decide) (by decide) (by decide) rfl (lenOf pd11 rfl) rfl rfl (Nat.le_of_eq rfl) d_prog_3_m4_1 rfl (by decide) (by decide) (by decide) (by decide) (kp fun T X => ?_)
    refine W.ifF (pc' := 7) X d_prog_3_m4_4 (by decide) rfl ?_
    refine W.ldcR (pc' := 9) (k' := 2) (n' := 4) (cap := 0) (cs := []) X (by decide) (w116 G) (watoms G) G.2.1 ⟨by decide, by decide⟩ (by unfold Lat; decide) (by decide) d_prog_3_m4_7 (by decide) (by decide) rfl (by decide) (by decide) (by decide) (by decide) fun T h1 B5 a2 a6 X K3 zb4 S7 ne8 => ?_
    refine W.goto (pc' := 31) X d_prog_3_m4_9 (by decide) (by decide) ?_
    refine W.astoreN (pc' := 32) (ls' := #[.val (.ref c), .val (.ref o), .val (.ref u), .val (.ref a2)]) X d_prog_3_m4_31 rfl rfl rfl ?_
    refine W.new (pc' := 35) (k' := 3) (n' := 8) X (w41 G) (w42 G) (w43 G) d_prog_3_m4_32 rfl (by decide) (by decide) (by decide) (by decide) fun T h9 a10 X K11 g12 g13 nb14 E15 D16 => ?_
    have F17 : Fld Z h9 a10 "java/lang/AbstractStringBuilder" "value" "[B" .null := D16 (Or.inl (w56 G)) (ty := (.array .byte)) (by decide)
    have F18 : Fld Z h9 a10 "java/lang/AbstractStringBuilder" "coder" "B" (.int (0 : Int32)) := D16 (Or.inl (w58 G)) (ty := .byte) (by decide)
    have F19 : Fld Z h9 a10 "java/lang/AbstractStringBuilder" "count" "I" (.int (0 : Int32)) := D16 (Or.inl (w81 G)) (ty := .int) (by decide)
    refine W.dup (pc' := 36) X d_prog_3_m4_35 rfl rfl ?_
    have en20 := X.en
    refine W.callN (pc' := 39) (W := 1) (argsL := []) (st := [(.ref a10)]) (k' := 4) (n' := 24) (a := a10) X (c_sbNew (a := a10) (v0 := .null) (v1 := (.int (0 : Int32))) G X.en E15 F17 F18 F19 g13 nb14) rfl (w44 G) (w45 G) (w46 G) (w43 G) (by decide) (by decide) (by decide) rfl (lenOf pd40 rfl) rfl rfl (Nat.le_of_eq rfl) d_prog_3_m4_36 rfl (by decide) (by decide) (by decide) (by decide) (kv fun T h21 X z22 q23 => ?_)
    obtain ⟨a24, K25, g26, F27⟩ := q23
    have g28 : Z.heap.size ≤ a24 := Nat.le_trans (Nat.le_trans hz0 (Nat.le_trans K3.1 K11.1)) g26
    have nb29 : ¬ B5 a24 := fun q => absurd (en20.2 _ q) (Nat.not_lt.mpr g26)
    refine W.ldcR (pc' := 41) (k' := 6) (n' := 124) (cap := 96) (cs := [(106 : Int32), (97 : Int32), (118 : Int32), (97 : Int32), (32 : Int32), (45 : Int32), (106 : Int32), (97 : Int32), (114 : Int32), (32 : Int32), (99 : Int32), (111 : Int32), (109 : Int32), (112 : Int32), (101 : Int32), (110 : Int32), (100 : Int32), (105 : Int32), (111 : Int32), (46 : Int32), (106 : Int32), (97 : Int32), (114 : Int32), (32 : Int32)]) X (by decide) (w117 G) (watoms G) G.2.1 ⟨by decide, by decide⟩ (by unfold Lat; decide) (by decide) d_prog_3_m4_39 (by decide) (by decide) rfl (by decide) (by decide) (by decide) (by decide) fun T h30 B34 a31 a35 X K32 zb33 S36 ne37 => ?_
    have nb38 : ¬ B34 a10 := fun q => (zb33 _ q).elim nb14 (fun r => absurd (Nat.lt_of_lt_of_le E15.lt K25.1) (Nat.not_lt.mpr r))
    have ne39 := ne37 _ nb38
    have nb40 : ¬ B34 a24 := fun q => (zb33 _ q).elim nb29 (fun r => absurd (Nat.lt_of_lt_of_le F27.ltb (Nat.le_refl _)) (Nat.not_lt.mpr r))
    have ne41 := ne37 _ nb40
    have F42 := ((E15.keep K25).keep K32)
    have F43 := (F27.keep K32 nin0 nin0)
    refine W.callV (pc' := 44) (W := 0) (argsL := [(.ref a31)]) (st := []) (k' := 7) (n' := 414) (a := a10) X (c_app (a := a10) (v := a24) (s := a31) (t := a35) (cs := ([] : List Int32)) (ds := [(106 : Int32), (97 : Int32), (118 : Int32), (97 : Int32), (32 : Int32), (45 : Int32), (106 : Int32), (97 : Int32), (114 : Int32), (32 : Int32), (99 : Int32), (111 : Int32), (109 : Int32), (112 : Int32), (101 : Int32), (110 : Int32), (100 : Int32), (105 : Int32), (111 : Int32), (46 : Int32), (106 : Int32), (97 : Int32), (114 : Int32), (32 : Int32)]) (cap := 16) G X.en F43 S36 (by unfold grow; simp only [List.length_append, List.length_cons, List.length_nil]; split <;> omega) g13 nb38 g28 nb40) (w60 G) (w61 G) (nfM (z' := (⟨"java/lang/StringBuilder", "append", "(Ljava/lang/String;)Ljava/lang/StringBuilder;"⟩ : MethodName)) rfl (w63 G)) (w63 G) (w62 G) F42 (w64 G) (w43 G) (by decide) (by decide) (by decide) rfl (lenOf pd41 rfl) rfl rfl (Nat.le_of_eq rfl) d_prog_3_m4_41 rfl (by decide) (by decide) (by decide) (by decide) (kr fun T h44 xr X z45 q46 => ?_)
    obtain ⟨a47, rfl, K48, F49, F50, F51, F52, F53⟩ := q46
    have F54 : Sb Z h44 a10 a47 (([] : List Int32) ++ [(106 : Int32), (97 : Int32), (118 : Int32), (97 : Int32), (32 : Int32), (45 : Int32), (106 : Int32), (97 : Int32), (114 : Int32), (32 : Int32), (99 : Int32), (111 : Int32), (109 : Int32), (112 : Int32), (101 : Int32), (110 : Int32), (100 : Int32), (105 : Int32), (111 : Int32), (46 : Int32), (106 : Int32), (97 : Int32), (114 : Int32), (32 : Int32)]) 34 := sbc F49 rfl (by unfold grow; simp only [List.length_append, List.length_cons, List.length_nil]; split <;> omega)
    refine W.aloadN (pc' := 45) X d_prog_3_m4_44 rfl rfl rfl ?_
    have F55 := (F42.keep K48)
    have F56 := (((((P0.keep K3 nin0 nin0).keep K11 nin0 nin0).keep K25 (ninS (Nat.ne_of_lt (Nat.lt_of_lt_of_le P0.lt (Nat.le_trans K3.1 g12))) nin0) (ninS (Nat.ne_of_lt (Nat.lt_of_lt_of_le P0.ltb (Nat.le_trans K3.1 g12))) nin0)).keep K32 nin0 nin0).keep K48 (ninS (Nat.ne_of_lt (Nat.lt_of_lt_of_le P0.lt (Nat.le_trans K3.1 g12))) (ninS (Nat.ne_of_lt (Nat.lt_of_lt_of_le P0.lt (Nat.le_trans (Nat.le_trans K3.1 K11.1) g26))) nin0)) (ninS (Nat.ne_of_lt (Nat.lt_of_lt_of_le P0.ltb (Nat.le_trans K3.1 g12))) (ninS (Nat.ne_of_lt (Nat.lt_of_lt_of_le P0.ltb (Nat.le_trans (Nat.le_trans K3.1 K11.1) g26))) nin0)))
    refine W.callV (pc' := 48) (W := 0) (argsL := [(.ref c)]) (st := []) (k' := 8) (n' := 704) (a := a10) X (c_app (a := a10) (v := a47) (s := c) (t := cb) (cs := (([] : List Int32) ++ [(106 : Int32), (97 : Int32), (118 : Int32), (97 : Int32), (32 : Int32), (45 : Int32), (106 : Int32), (97 : Int32), (114 : Int32), (32 : Int32), (99 : Int32), (111 : Int32), (109 : Int32), (112 : Int32), (101 : Int32), (110 : Int32), (100 : Int32), (105 : Int32), (111 : Int32), (46 : Int32), (106 : Int32), (97 : Int32), (114 : Int32), (32 : Int32)])) (ds := cs) (cap := 34) G X.en F54 F56 (by unfold grow; simp only [List.length_append, List.length_cons, List.length_nil]; split <;> omega) g13 nb38 F50 F51) (w60 G) (w61 G) (nfM (z' := (⟨"java/lang/StringBuilder", "append", "(Ljava/lang/String;)Ljava/lang/StringBuilder;"⟩ : MethodName)) rfl (w63 G)) (w63 G) (w62 G) F55 (w64 G) (w43 G) (by decide) (by decide) (by decide) rfl (lenOf pd41 rfl) rfl rfl (Nat.le_of_eq rfl) d_prog_3_m4_45 rfl (by decide) (by decide) (by decide) (by decide) (kr fun T h57 xr X z58 q59 => ?_)
    obtain ⟨a60, rfl, K61, F62, F63, F64, F65, F66⟩ := q59
    have F67 : Sb Z h57 a10 a60 ((([] : List Int32) ++ [(106 : Int32), (97 : Int32), (118 : Int32), (97 : Int32), (32 : Int32), (45 : Int32), (106 : Int32), (97 : Int32), (114 : Int32), (32 : Int32), (99 : Int32), (111 : Int32), (109 : Int32), (112 : Int32), (101 : Int32), (110 : Int32), (100 : Int32), (105 : Int32), (111 : Int32), (46 : Int32), (106 : Int32), (97 : Int32), (114 : Int32), (32 : Int32)]) ++ cs) 34 := sbc F62 rfl (by unfold grow; simp only [List.length_append, List.length_cons, List.length_nil]; split <;> omega)
    refine W.ldcR (pc' := 50) (k' := 10) (n' := 712) (cap := 4) (cs := [(32 : Int32)]) X (by decide) (w141 G) (watoms G) G.2.1 ⟨by decide, by decide⟩ (by unfold Lat; decide) (by decide) d_prog_3_m4_48 (by decide) (by decide) rfl (by decide) (by decide) (by decide) (by decide) fun T h68 B72 a69 a73 X K70 zb71 S74 ne75 => ?_
    have nb76 : ¬ B72 a10 := fun q => (zb71 _ q).elim nb38 (fun r => absurd (Nat.lt_of_lt_of_le E15.lt (Nat.le_trans (Nat.le_trans (Nat.le_trans K25.1 K32.1) K48.1) K61.1)) (Nat.not_lt.mpr r))
    have ne77 := ne75 _ nb76
    have nb78 : ¬ B72 a24 := fun q => (zb71 _ q).elim nb40 (fun r => absurd (Nat.lt_of_lt_of_le F27.ltb (Nat.le_trans (Nat.le_trans K32.1 K48.1) K61.1)) (Nat.not_lt.mpr r))
    have ne79 := ne75 _ nb78
    have nb80 : ¬ B72 a47 := fun q => (zb71 _ q).elim F51 (fun r => absurd (Nat.lt_of_lt_of_le F49.ltb K61.1) (Nat.not_lt.mpr r))
    have ne81 := ne75 _ nb80
    have nb82 : ¬ B72 a60 := fun q => (zb71 _ q).elim F64 (fun r => absurd (Nat.lt_of_lt_of_le F62.ltb (Nat.le_refl _)) (Nat.not_lt.mpr r))
    have ne83 := ne75 _ nb82
    have F84 := ((F55.keep K61).keep K70)
    have F85 := (F67.keep K70 nin0 nin0)
    refine W.callV (pc' := 53) (W := 0) (argsL := [(.ref a69)]) (st := []) (k' := 11) (n' := 1002) (a := a10) X (c_app (a := a10) (v := a60) (s := a69) (t := a73) (cs := ((([] : List Int32) ++ [(106 : Int32), (97 : Int32), (118 : Int32), (97 : Int32), (32 : Int32), (45 : Int32), (106 : Int32), (97 : Int32), (114 : Int32), (32 : Int32), (99 : Int32), (111 : Int32), (109 : Int32), (112 : Int32), (101 : Int32), (110 : Int32), (100 : Int32), (105 : Int32), (111 : Int32), (46 : Int32), (106 : Int32), (97 : Int32), (114 : Int32), (32 : Int32)]) ++ cs)) (ds := [(32 : Int32)]) (cap := 34) G X.en F85 S74 (by unfold grow; simp only [List.length_append, List.length_cons, List.length_nil]; split <;> omega) g13 nb76 F63 nb82) (w60 G) (w61 G) (nfM (z' := (⟨"java/lang/StringBuilder", "append", "(Ljava/lang/String;)Ljava/lang/StringBuilder;"⟩ : MethodName)) rfl (w63 G)) (w63 G) (w62 G) F84 (w64 G) (w43 G) (by decide) (by decide) (by decide) rfl (lenOf pd41 rfl) rfl rfl (Nat.le_of_eq rfl) d_prog_3_m4_50 rfl (by decide) (by decide) (by decide) (by decide) (kr fun T h86 xr X z87 q88 => ?_)
    obtain ⟨a89, rfl, K90, F91, F92, F93, F94, F95⟩ := q88
    have F96 : Sb Z h86 a10 a89 (((([] : List Int32) ++ [(106 : Int32), (97 : Int32), (118 : Int32), (97 : Int32), (32 : Int32), (45 : Int32), (106 : Int32), (97 : Int32), (114 : Int32), (32 : Int32), (99 : Int32), (111 : Int32), (109 : Int32), (112 : Int32), (101 : Int32), (110 : Int32), (100 : Int32), (105 : Int32), (111 : Int32), (46 : Int32), (106 : Int32), (97 : Int32), (114 : Int32), (32 : Int32)]) ++ cs) ++ [(32 : Int32)]) 34 := sbc F91 rfl (by unfold grow; simp only [List.length_append, List.length_cons, List.length_nil]; split <;> omega)
    refine W.aloadN (pc' := 54) X d_prog_3_m4_53 rfl rfl rfl ?_
    have F97 := (F84.keep K90)
    have F98 := (((((((S7.keep K11 nin0 nin0).keep K25 (ninS (Nat.ne_of_lt (Nat.lt_of_lt_of_le S7.lt (Nat.le_trans (Nat.le_refl _) g12))) nin0) (ninS (Nat.ne_of_lt (Nat.lt_of_lt_of_le S7.ltb (Nat.le_trans (Nat.le_refl _) g12))) nin0)).keep K32 nin0 nin0).keep K48 (ninS (Nat.ne_of_lt (Nat.lt_of_lt_of_le S7.lt (Nat.le_trans (Nat.le_refl _) g12))) (ninS (Nat.ne_of_lt (Nat.lt_of_lt_of_le S7.lt (Nat.le_trans K11.1 g26))) nin0)) (ninS (Nat.ne_of_lt (Nat.lt_of_lt_of_le S7.ltb (Nat.le_trans (Nat.le_refl _) g12))) (ninS (Nat.ne_of_lt (Nat.lt_of_lt_of_le S7.ltb (Nat.le_trans K11.1 g26))) nin0))).keep K61 (ninS (Nat.ne_of_lt (Nat.lt_of_lt_of_le S7.lt (Nat.le_trans (Nat.le_refl _) g12))) (ninS (F52 _ (Nat.lt_of_lt_of_le S7.lt (Nat.le_trans (Nat.le_trans K11.1 K25.1) K32.1)) (Nat.ne_of_lt (Nat.lt_of_lt_of_le S7.lt (Nat.le_trans K11.1 g26)))) nin0)) (ninS (Nat.ne_of_lt (Nat.lt_of_lt_of_le S7.ltb (Nat.le_trans (Nat.le_refl _) g12))) (ninS (F52 _ (Nat.lt_of_lt_of_le S7.ltb (Nat.le_trans (Nat.le_trans K11.1 K25.1) K32.1)) (Nat.ne_of_lt (Nat.lt_of_lt_of_le S7.ltb (Nat.le_trans K11.1 g26)))) nin0))).keep K70 nin0 nin0).keep K90 (ninS (Nat.ne_of_lt (Nat.lt_of_lt_of_le S7.lt (Nat.le_trans (Nat.le_refl _) g12))) (ninS (F65 _ (Nat.lt_of_lt_of_le S7.lt (Nat.le_trans (Nat.le_trans (Nat.le_trans K11.1 K25.1) K32.1) K48.1)) (F52 _ (Nat.lt_of_lt_of_le S7.lt (Nat.le_trans (Nat.le_trans K11.1 K25.1) K32.1)) (Nat.ne_of_lt (Nat.lt_of_lt_of_le S7.lt (Nat.le_trans K11.1 g26))))) nin0)) (ninS (Nat.ne_of_lt (Nat.lt_of_lt_of_le S7.ltb (Nat.le_trans (Nat.le_refl _) g12))) (ninS (F65 _ (Nat.lt_of_lt_of_le S7.ltb (Nat.le_trans (Nat.le_trans (Nat.le_trans K11.1 K25.1) K32.1) K48.1)) (F52 _ (Nat.lt_of_lt_of_le S7.ltb (Nat.le_trans (Nat.le_trans K11.1 K25.1) K32.1)) (Nat.ne_of_lt (Nat.lt_of_lt_of_le S7.ltb (Nat.le_trans K11.1 g26))))) nin0)))
    refine W.callV (pc' := 57) (W := 0) (argsL := [(.ref a2)]) (st := []) (k' := 12) (n' := 1292) (a := a10) X (c_app (a := a10) (v := a89) (s := a2) (t := a6) (cs := (((([] : List Int32) ++ [(106 : Int32), (97 : Int32), (118 : Int32), (97 : Int32), (32 : Int32), (45 : Int32), (106 : Int32), (97 : Int32), (114 : Int32), (32 : Int32), (99 : Int32), (111 : Int32), (109 : Int32), (112 : Int32), (101 : Int32), (110 : Int32), (100 : Int32), (105 : Int32), (111 : Int32), (46 : Int32), (106 : Int32), (97 : Int32), (114 : Int32), (32 : Int32)]) ++ cs) ++ [(32 : Int32)])) (ds := []) (cap := 34) G X.en F96 F98 (by unfold grow; simp only [List.length_append, List.length_cons, List.length_nil]; split <;> omega) g13 nb76 F92 F93) (w60 G) (w61 G) (nfM (z' := (⟨"java/lang/StringBuilder", "append", "(Ljava/lang/String;)Ljava/lang/StringBuilder;"⟩ : MethodName)) rfl (w63 G)) (w63 G) (w62 G) F97 (w64 G) (w43 G) (by decide) (by decide) (by decide) rfl (lenOf pd41 rfl) rfl rfl (Nat.le_of_eq rfl) d_prog_3_m4_54 rfl (by decide) (by decide) (by decide) (by decide) (kr fun T h99 xr X z100 q101 => ?_)
    obtain ⟨a102, rfl, K103, F104, F105, F106, F107, F108⟩ := q101
    have F109 : Sb Z h99 a10 a102 ((((([] : List Int32) ++ [(106 : Int32), (97 : Int32), (118 : Int32), (97 : Int32), (32 : Int32), (45 : Int32), (106 : Int32), (97 : Int32), (114 : Int32), (32 : Int32), (99 : Int32), (111 : Int32), (109 : Int32), (112 : Int32), (101 : Int32), (110 : Int32), (100 : Int32), (105 : Int32), (111 : Int32), (46 : Int32), (106 : Int32), (97 : Int32), (114 : Int32), (32 : Int32)]) ++ cs) ++ [(32 : Int32)]) ++ []) 34 := sbc F104 rfl (by unfold grow; simp only [List.length_append, List.length_cons, List.length_nil]; split <;> omega)
    refine W.ldcR (pc' := 59) (k' := 14) (n' := 1380) (cap := 84) (cs := [(91 : Int32), (45 : Int32), (45 : Int32), (115 : Int32), (101 : Int32), (116 : Int32), (32 : Int32), (75 : Int32), (69 : Int32), (89 : Int32), (61 : Int32), (86 : Int32), (65 : Int32), (76 : Int32), (85 : Int32), (69 : Int32), (93 : Int32), (46 : Int32), (46 : Int32), (46 : Int32), (32 : Int32)]) X (by decide) (w142 G) (watoms G) G.2.1 ⟨by decide, by decide⟩ (by unfold Lat; decide) (by decide) d_prog_3_m4_57 (by decide) (by decide) rfl (by decide) (by decide) (by decide) (by decide) fun T h110 B114 a111 a115 X K112 zb113 S116 ne117 => ?_
    have nb118 : ¬ B114 a10 := fun q => (zb113 _ q).elim nb76 (fun r => absurd (Nat.lt_of_lt_of_le E15.lt (Nat.le_trans (Nat.le_trans (Nat.le_trans (Nat.le_trans (Nat.le_trans (Nat.le_trans K25.1 K32.1) K48.1) K61.1) K70.1) K90.1) K103.1)) (Nat.not_lt.mpr r))
    have ne119 := ne117 _ nb118
    have nb120 : ¬ B114 a24 := fun q => (zb113 _ q).elim nb78 (fun r => absurd (Nat.lt_of_lt_of_le F27.ltb (Nat.le_trans (Nat.le_trans (Nat.le_trans (Nat.le_trans (Nat.le_trans K32.1 K48.1) K61.1) K70.1) K90.1) K103.1)) (Nat.not_lt.mpr r))
    have ne121 := ne117 _ nb120
    have nb122 : ¬ B114 a47 := fun q => (zb113 _ q).elim nb80 (fun r => absurd (Nat.lt_of_lt_of_le F49.ltb (Nat.le_trans (Nat.le_trans (Nat.le_trans K61.1 K70.1) K90.1) K103.1)) (Nat.not_lt.mpr r))
    have ne123 := ne117 _ nb122
    have nb124 : ¬ B114 a60 := fun q => (zb113 _ q).elim nb82 (fun r => absurd (Nat.lt_of_lt_of_le F62.ltb (Nat.le_trans (Nat.le_trans K70.1 K90.1) K103.1)) (Nat.not_lt.mpr r))
    have ne125 := ne117 _ nb124
    have nb126 : ¬ B114 a89 := fun q => (zb113 _ q).elim F93 (fun r => absurd (Nat.lt_of_lt_of_le F91.ltb K103.1) (Nat.not_lt.mpr r))
    have ne127 := ne117 _ nb126
    have nb128 : ¬ B114 a102 := fun q => (zb113 _ q).elim F106 (fun r => absurd (Nat.lt_of_lt_of_le F104.ltb (Nat.le_refl _)) (Nat.not_lt.mpr r))
    have ne129 := ne117 _ nb128
    have F130 := ((F97.keep K103).keep K112)
    have F131 := (F109.keep K112 nin0 nin0)
    refine W.callV (pc' := 62) (W := 0) (argsL := [(.ref a111)]) (st := []) (k' := 15) (n' := 1670) (a := a10) X (c_app (a := a10) (v := a102) (s := a111) (t := a115) (cs := ((((([] : List Int32) ++ [(106 : Int32), (97 : Int32), (118 : Int32), (97 : Int32), (32 : Int32), (45 : Int32), (106 : Int32), (97 : Int32), (114 : Int32), (32 : Int32), (99 : Int32), (111 : Int32), (109 : Int32), (112 : Int32), (101 : Int32), (110 : Int32), (100 : Int32), (105 : Int32), (111 : Int32), (46 : Int32), (106 : Int32), (97 : Int32), (114 : Int32), (32 : Int32)]) ++ cs) ++ [(32 : Int32)]) ++ [])) (ds := [(91 : Int32), (45 : Int32), (45 : Int32), (115 : Int32), (101 : Int32), (116 : Int32), (32 : Int32), (75 : Int32), (69 : Int32), (89 : Int32), (61 : Int32), (86 : Int32), (65 : Int32), (76 : Int32), (85 : Int32), (69 : Int32), (93 : Int32), (46 : Int32), (46 : Int32), (46 : Int32), (32 : Int32)]) (cap := 34) G X.en F131 S116 (by unfold grow; simp only [List.length_append, List.length_cons, List.length_nil]; split <;> omega) g13 nb118 F105 nb128) (w60 G) (w61 G) (nfM (z' := (⟨"java/lang/StringBuilder", "append", "(Ljava/lang/String;)Ljava/lang/StringBuilder;"⟩ : MethodName)) rfl (w63 G)) (w63 G) (w62 G) F130 (w64 G) (w43 G) (by decide) (by decide) (by decide) rfl (lenOf pd41 rfl) rfl rfl (Nat.le_of_eq rfl) d_prog_3_m4_59 rfl (by decide) (by decide) (by decide) (by decide) (kr fun T h132 xr X z133 q134 => ?_)
    obtain ⟨a135, rfl, K136, F137, F138, F139, F140, F141⟩ := q134
    have F142 : Sb Z h132 a10 a135 (((((([] : List Int32) ++ [(106 : Int32), (97 : Int32), (118 : Int32), (97 : Int32), (32 : Int32), (45 : Int32), (106 : Int32), (97 : Int32), (114 : Int32), (32 : Int32), (99 : Int32), (111 : Int32), (109 : Int32), (112 : Int32), (101 : Int32), (110 : Int32), (100 : Int32), (105 : Int32), (111 : Int32), (46 : Int32), (106 : Int32), (97 : Int32), (114 : Int32), (32 : Int32)]) ++ cs) ++ [(32 : Int32)]) ++ []) ++ [(91 : Int32), (45 : Int32), (45 : Int32), (115 : Int32), (101 : Int32), (116 : Int32), (32 : Int32), (75 : Int32), (69 : Int32), (89 : Int32), (61 : Int32), (86 : Int32), (65 : Int32), (76 : Int32), (85 : Int32), (69 : Int32), (93 : Int32), (46 : Int32), (46 : Int32), (46 : Int32), (32 : Int32)]) 70 := sbc F137 rfl (by unfold grow; simp only [List.length_append, List.length_cons, List.length_nil]; split <;> omega)
    refine W.aloadN (pc' := 63) X d_prog_3_m4_62 rfl rfl rfl ?_
    have F143 := (F130.keep K136)
    have F144 := (((((((((((P2.keep K3 nin0 nin0).keep K11 nin0 nin0).keep K25 (ninS (Nat.ne_of_lt (Nat.lt_of_lt_of_le P2.lt (Nat.le_trans K3.1 g12))) nin0) (ninS (Nat.ne_of_lt (Nat.lt_of_lt_of_le P2.ltb (Nat.le_trans K3.1 g12))) nin0)).keep K32 nin0 nin0).keep K48 (ninS (Nat.ne_of_lt (Nat.lt_of_lt_of_le P2.lt (Nat.le_trans K3.1 g12))) (ninS (Nat.ne_of_lt (Nat.lt_of_lt_of_le P2.lt (Nat.le_trans (Nat.le_trans K3.1 K11.1) g26))) nin0)) (ninS (Nat.ne_of_lt (Nat.lt_of_lt_of_le P2.ltb (Nat.le_trans K3.1 g12))) (ninS (Nat.ne_of_lt (Nat.lt_of_lt_of_le P2.ltb (Nat.le_trans (Nat.le_trans K3.1 K11.1) g26))) nin0))).keep K61 (ninS (Nat.ne_of_lt (Nat.lt_of_lt_of_le P2.lt (Nat.le_trans K3.1 g12))) (ninS (F52 _ (Nat.lt_of_lt_of_le P2.lt (Nat.le_trans (Nat.le_trans (Nat.le_trans K3.1 K11.1) K25.1) K32.1)) (Nat.ne_of_lt (Nat.lt_of_lt_of_le P2.lt (Nat.le_trans (Nat.le_trans K3.1 K11.1) g26)))) nin0)) (ninS (Nat.ne_of_lt (Nat.lt_of_lt_of_le P2.ltb (Nat.le_trans K3.1 g12))) (ninS (F52 _ (Nat.lt_of_lt_of_le P2.ltb (Nat.le_trans (Nat.le_trans (Nat.le_trans K3.1 K11.1) K25.1) K32.1)) (Nat.ne_of_lt (Nat.lt_of_lt_of_le P2.ltb (Nat.le_trans (Nat.le_trans K3.1 K11.1) g26)))) nin0))).keep K70 nin0 nin0).keep K90 (ninS (Nat.ne_of_lt (Nat.lt_of_lt_of_le P2.lt (Nat.le_trans K3.1 g12))) (ninS (F65 _ (Nat.lt_of_lt_of_le P2.lt (Nat.le_trans (Nat.le_trans (Nat.le_trans (Nat.le_trans K3.1 K11.1) K25.1) K32.1) K48.1)) (F52 _ (Nat.lt_of_lt_of_le P2.lt (Nat.le_trans (Nat.le_trans (Nat.le_trans K3.1 K11.1) K25.1) K32.1)) (Nat.ne_of_lt (Nat.lt_of_lt_of_le P2.lt (Nat.le_trans (Nat.le_trans K3.1 K11.1) g26))))) nin0)) (ninS (Nat.ne_of_lt (Nat.lt_of_lt_of_le P2.ltb (Nat.le_trans K3.1 g12))) (ninS (F65 _ (Nat.lt_of_lt_of_le P2.ltb (Nat.le_trans (Nat.le_trans (Nat.le_trans (Nat.le_trans K3.1 K11.1) K25.1) K32.1) K48.1)) (F52 _ (Nat.lt_of_lt_of_le P2.ltb (Nat.le_trans (Nat.le_trans (Nat.le_trans K3.1 K11.1) K25.1) K32.1)) (Nat.ne_of_lt (Nat.lt_of_lt_of_le P2.ltb (Nat.le_trans (Nat.le_trans K3.1 K11.1) g26))))) nin0))).keep K103 (ninS (Nat.ne_of_lt (Nat.lt_of_lt_of_le P2.lt (Nat.le_trans K3.1 g12))) (ninS (F94 _ (Nat.lt_of_lt_of_le P2.lt (Nat.le_trans (Nat.le_trans (Nat.le_trans (Nat.le_trans (Nat.le_trans (Nat.le_trans K3.1 K11.1) K25.1) K32.1) K48.1) K61.1) K70.1)) (F65 _ (Nat.lt_of_lt_of_le P2.lt (Nat.le_trans (Nat.le_trans (Nat.le_trans (Nat.le_trans K3.1 K11.1) K25.1) K32.1) K48.1)) (F52 _ (Nat.lt_of_lt_of_le P2.lt (Nat.le_trans (Nat.le_trans (Nat.le_trans K3.1 K11.1) K25.1) K32.1)) (Nat.ne_of_lt (Nat.lt_of_lt_of_le P2.lt (Nat.le_trans (Nat.le_trans K3.1 K11.1) g26)))))) nin0)) (ninS (Nat.ne_of_lt (Nat.lt_of_lt_of_le P2.ltb (Nat.le_trans K3.1 g12))) (ninS (F94 _ (Nat.lt_of_lt_of_le P2.ltb (Nat.le_trans (Nat.le_trans (Nat.le_trans (Nat.le_trans (Nat.le_trans (Nat.le_trans K3.1 K11.1) K25.1) K32.1) K48.1) K61.1) K70.1)) (F65 _ (Nat.lt_of_lt_of_le P2.ltb (Nat.le_trans (Nat.le_trans (Nat.le_trans (Nat.le_trans K3.1 K11.1) K25.1) K32.1) K48.1)) (F52 _ (Nat.lt_of_lt_of_le P2.ltb (Nat.le_trans (Nat.le_trans (Nat.le_trans K3.1 K11.1) K25.1) K32.1)) (Nat.ne_of_lt (Nat.lt_of_lt_of_le P2.ltb (Nat.le_trans (Nat.le_trans K3.1 K11.1) g26)))))) nin0))).keep K112 nin0 nin0).keep K136 (ninS (Nat.ne_of_lt (Nat.lt_of_lt_of_le P2.lt (Nat.le_trans K3.1 g12))) (ninS (F107 _ (Nat.lt_of_lt_of_le P2.lt (Nat.le_trans (Nat.le_trans (Nat.le_trans (Nat.le_trans (Nat.le_trans (Nat.le_trans (Nat.le_trans K3.1 K11.1) K25.1) K32.1) K48.1) K61.1) K70.1) K90.1)) (F94 _ (Nat.lt_of_lt_of_le P2.lt (Nat.le_trans (Nat.le_trans (Nat.le_trans (Nat.le_trans (Nat.le_trans (Nat.le_trans K3.1 K11.1) K25.1) K32.1) K48.1) K61.1) K70.1)) (F65 _ (Nat.lt_of_lt_of_le P2.lt (Nat.le_trans (Nat.le_trans (Nat.le_trans (Nat.le_trans K3.1 K11.1) K25.1) K32.1) K48.1)) (F52 _ (Nat.lt_of_lt_of_le P2.lt (Nat.le_trans (Nat.le_trans (Nat.le_trans K3.1 K11.1) K25.1) K32.1)) (Nat.ne_of_lt (Nat.lt_of_lt_of_le P2.lt (Nat.le_trans (Nat.le_trans K3.1 K11.1) g26))))))) nin0)) (ninS (Nat.ne_of_lt (Nat.lt_of_lt_of_le P2.ltb (Nat.le_trans K3.1 g12))) (ninS (F107 _ (Nat.lt_of_lt_of_le P2.ltb (Nat.le_trans (Nat.le_trans (Nat.le_trans (Nat.le_trans (Nat.le_trans (Nat.le_trans (Nat.le_trans K3.1 K11.1) K25.1) K32.1) K48.1) K61.1) K70.1) K90.1)) (F94 _ (Nat.lt_of_lt_of_le P2.ltb (Nat.le_trans (Nat.le_trans (Nat.le_trans (Nat.le_trans (Nat.le_trans (Nat.le_trans K3.1 K11.1) K25.1) K32.1) K48.1) K61.1) K70.1)) (F65 _ (Nat.lt_of_lt_of_le P2.ltb (Nat.le_trans (Nat.le_trans (Nat.le_trans (Nat.le_trans K3.1 K11.1) K25.1) K32.1) K48.1)) (F52 _ (Nat.lt_of_lt_of_le P2.ltb (Nat.le_trans (Nat.le_trans (Nat.le_trans K3.1 K11.1) K25.1) K32.1)) (Nat.ne_of_lt (Nat.lt_of_lt_of_le P2.ltb (Nat.le_trans (Nat.le_trans K3.1 K11.1) g26))))))) nin0)))
    refine W.callV (pc' := 66) (W := 0) (argsL := [(.ref u)]) (st := []) (k' := 16) (n' := 1960) (a := a10) X (c_app (a := a10) (v := a135) (s := u) (t := ub) (cs := (((((([] : List Int32) ++ [(106 : Int32), (97 : Int32), (118 : Int32), (97 : Int32), (32 : Int32), (45 : Int32), (106 : Int32), (97 : Int32), (114 : Int32), (32 : Int32), (99 : Int32), (111 : Int32), (109 : Int32), (112 : Int32), (101 : Int32), (110 : Int32), (100 : Int32), (105 : Int32), (111 : Int32), (46 : Int32), (106 : Int32), (97 : Int32), (114 : Int32), (32 : Int32)]) ++ cs) ++ [(32 : Int32)]) ++ []) ++ [(91 : Int32), (45 : Int32), (45 : Int32), (115 : Int32), (101 : Int32), (116 : Int32), (32 : Int32), (75 : Int32), (69 : Int32), (89 : Int32), (61 : Int32), (86 : Int32), (65 : Int32), (76 : Int32), (85 : Int32), (69 : Int32), (93 : Int32), (46 : Int32), (46 : Int32), (46 : Int32), (32 : Int32)])) (ds := ts) (cap := 70) G X.en F142 F144 (by unfold grow; simp only [List.length_append, List.length_cons, List.length_nil]; split <;> omega) g13 nb118 F138 F139) (w60 G) (w61 G) (nfM (z' := (⟨"java/lang/StringBuilder", "append", "(Ljava/lang/String;)Ljava/lang/StringBuilder;"⟩ : MethodName)) rfl (w63 G)) (w63 G) (w62 G) F143 (w64 G) (w43 G) (by decide) (by decide) (by decide) rfl (lenOf pd41 rfl) rfl rfl (Nat.le_of_eq rfl) d_prog_3_m4_63 rfl (by decide) (by decide) (by decide) (by decide) (kr fun T h145 xr X z146 q147 => ?_)
    obtain ⟨a148, rfl, K149, F150, F151, F152, F153, F154⟩ := q147
    have F155 : Sb Z h145 a10 a148 ((((((([] : List Int32) ++ [(106 : Int32), (97 : Int32), (118 : Int32), (97 : Int32), (32 : Int32), (45 : Int32), (106 : Int32), (97 : Int32), (114 : Int32), (32 : Int32), (99 : Int32), (111 : Int32), (109 : Int32), (112 : Int32), (101 : Int32), (110 : Int32), (100 : Int32), (105 : Int32), (111 : Int32), (46 : Int32), (106 : Int32), (97 : Int32), (114 : Int32), (32 : Int32)]) ++ cs) ++ [(32 : Int32)]) ++ []) ++ [(91 : Int32), (45 : Int32), (45 : Int32), (115 : Int32), (101 : Int32), (116 : Int32), (32 : Int32), (75 : Int32), (69 : Int32), (89 : Int32), (61 : Int32), (86 : Int32), (65 : Int32), (76 : Int32), (85 : Int32), (69 : Int32), (93 : Int32), (46 : Int32), (46 : Int32), (46 : Int32), (32 : Int32)]) ++ ts) 70 := sbc F150 rfl (by unfold grow; simp only [List.length_append, List.length_cons, List.length_nil]; split <;> omega)
    have F156 := (F143.keep K149)
    have en157 := X.en
    refine W.callV (pc' := 69) (W := 0) (argsL := []) (st := []) (k' := 18) (n' := 2254) (a := a10) X (c_toS (a := a10) (v := a148) (cs := ((((((([] : List Int32) ++ [(106 : Int32), (97 : Int32), (118 : Int32), (97 : Int32), (32 : Int32), (45 : Int32), (106 : Int32), (97 : Int32), (114 : Int32), (32 : Int32), (99 : Int32), (111 : Int32), (109 : Int32), (112 : Int32), (101 : Int32), (110 : Int32), (100 : Int32), (105 : Int32), (111 : Int32), (46 : Int32), (106 : Int32), (97 : Int32), (114 : Int32), (32 : Int32)]) ++ cs) ++ [(32 : Int32)]) ++ []) ++ [(91 : Int32), (45 : Int32), (45 : Int32), (115 : Int32), (101 : Int32), (116 : Int32), (32 : Int32), (75 : Int32), (69 : Int32), (89 : Int32), (61 : Int32), (86 : Int32), (65 : Int32), (76 : Int32), (85 : Int32), (69 : Int32), (93 : Int32), (46 : Int32), (46 : Int32), (46 : Int32), (32 : Int32)]) ++ ts)) (cap := 70) G X.en F155 (by simp only [List.length_append, List.length_cons, List.length_nil]; omega) (by simp only [List.length_append, List.length_cons, List.length_nil]; omega)) (w143 G) (w144 G) (nfM (z' := (⟨"java/lang/StringBuilder", "append", "(Ljava/lang/String;)Ljava/lang/StringBuilder;"⟩ : MethodName)) rfl (w63 G)) (w146 G) (w145 G) F156 (w147 G) (w43 G) (by decide) (by decide) (by decide) rfl (lenOf pd42 rfl) rfl rfl (Nat.le_of_eq rfl) d_prog_3_m4_66 rfl (by decide) (by decide) (by decide) (by decide) (kr fun T h158 xr X z159 q160 => ?_)
    obtain ⟨a161, a162, rfl, K163, g164, g165, F166⟩ := q160
    have g167 : Z.heap.size ≤ a161 := Nat.le_trans (Nat.le_trans hz0 (Nat.le_trans (Nat.le_trans (Nat.le_trans (Nat.le_trans (Nat.le_trans (Nat.le_trans (Nat.le_trans (Nat.le_trans (Nat.le_trans (Nat.le_trans (Nat.le_trans K3.1 K11.1) K25.1) K32.1) K48.1) K61.1) K70.1) K90.1) K103.1) K112.1) K136.1) K149.1)) g164
    have nb168 : ¬ B114 a161 := fun q => absurd (en157.2 _ q) (Nat.not_lt.mpr g164)
    have g169 : Z.heap.size ≤ a162 := Nat.le_trans (Nat.le_trans hz0 (Nat.le_trans (Nat.le_trans (Nat.le_trans (Nat.le_trans (Nat.le_trans (Nat.le_trans (Nat.le_trans (Nat.le_trans (Nat.le_trans (Nat.le_trans (Nat.le_trans K3.1 K11.1) K25.1) K32.1) K48.1) K61.1) K70.1) K90.1) K103.1) K112.1) K136.1) K149.1)) g165
    have nb170 : ¬ B114 a162 := fun q => absurd (en157.2 _ q) (Nat.not_lt.mpr g165)
    exact W.areturn X d_prog_3_m4_69 rfl rfl rfl rfl (by decide) (by decide) ⟨_, rfl, ⟨a161, a162, rfl, (Keep.trans (Keep.trans (Keep.trans (Keep.trans (Keep.trans (Keep.trans (Keep.trans (Keep.trans (Keep.trans (Keep.trans (Keep.trans (Keep.trans (Keep.trans (Keep.refl h []) K3 all0) K11 all0) K25 (allS (Or.inr (Nat.le_trans K3.1 g12)) all0)) K32 all0) K48 (allS (Or.inr (Nat.le_trans K3.1 g12)) (allS (Or.inr (Nat.le_trans (Nat.le_trans K3.1 K11.1) g26)) all0))) K61 (allS (Or.inr (Nat.le_trans K3.1 g12)) (allS (F53.elim (fun q => by rw [q]; exact (Or.inr (Nat.le_trans (Nat.le_trans K3.1 K11.1) g26))) (fun q => Or.inr (Nat.le_trans (Nat.le_trans (Nat.le_trans (Nat.le_trans K3.1 K11.1) K25.1) K32.1) q))) all0))) K70 all0) K90 (allS (Or.inr (Nat.le_trans K3.1 g12)) (allS (F66.elim (fun q => by rw [q]; exact (F53.elim (fun q => by rw [q]; exact (Or.inr (Nat.le_trans (Nat.le_trans K3.1 K11.1) g26))) (fun q => Or.inr (Nat.le_trans (Nat.le_trans (Nat.le_trans (Nat.le_trans K3.1 K11.1) K25.1) K32.1) q)))) (fun q => Or.inr (Nat.le_trans (Nat.le_trans (Nat.le_trans (Nat.le_trans (Nat.le_trans K3.1 K11.1) K25.1) K32.1) K48.1) q))) all0))) K103 (allS (Or.inr (Nat.le_trans K3.1 g12)) (allS (F95.elim (fun q => by rw [q]; exact (F66.elim (fun q => by rw [q]; exact (F53.elim (fun q => by rw [q]; exact (Or.inr (Nat.le_trans (Nat.le_trans K3.1 K11.1) g26))) (fun q => Or.inr (Nat.le_trans (Nat.le_trans (Nat.le_trans (Nat.le_trans K3.1 K11.1) K25.1) K32.1) q)))) (fun q => Or.inr (Nat.le_trans (Nat.le_trans (Nat.le_trans (Nat.le_trans (Nat.le_trans K3.1 K11.1) K25.1) K32.1) K48.1) q)))) (fun q => Or.inr (Nat.le_trans (Nat.le_trans (Nat.le_trans (Nat.le_trans (Nat.le_trans (Nat.le_trans (Nat.le_trans K3.1 K11.1) K25.1) K32.1) K48.1) K61.1) K70.1) q))) all0))) K112 all0) K136 (allS (Or.inr (Nat.le_trans K3.1 g12)) (allS (F108.elim (fun q => by rw [q]; exact (F95.elim (fun q => by rw [q]; exact (F66.elim (fun q => by rw [q]; exact (F53.elim (fun q => by rw [q]; exact (Or.inr (Nat.le_trans (Nat.le_trans K3.1 K11.1) g26))) (fun q => Or.inr (Nat.le_trans (Nat.le_trans (Nat.le_trans (Nat.le_trans K3.1 K11.1) K25.1) K32.1) q)))) (fun q => Or.inr (Nat.le_trans (Nat.le_trans (Nat.le_trans (Nat.le_trans (Nat.le_trans K3.1 K11.1) K25.1) K32.1) K48.1) q)))) (fun q => Or.inr (Nat.le_trans (Nat.le_trans (Nat.le_trans (Nat.le_trans (Nat.le_trans (Nat.le_trans (Nat.le_trans K3.1 K11.1) K25.1) K32.1) K48.1) K61.1) K70.1) q)))) (fun q => Or.inr (Nat.le_trans (Nat.le_trans (Nat.le_trans (Nat.le_trans (Nat.le_trans (Nat.le_trans (Nat.le_trans (Nat.le_trans K3.1 K11.1) K25.1) K32.1) K48.1) K61.1) K70.1) K90.1) q))) all0))) K149 (allS (Or.inr (Nat.le_trans K3.1 g12)) (allS (F141.elim (fun q => by rw [q]; exact (F108.elim (fun q => by rw [q]; exact (F95.elim (fun q => by rw [q]; exact (F66.elim (fun q => by rw [q]; exact (F53.elim (fun q => by rw [q]; exact (Or.inr (Nat.le_trans (Nat.le_trans K3.1 K11.1) g26))) (fun q => Or.inr (Nat.le_trans (Nat.le_trans (Nat.le_trans (Nat.le_trans K3.1 K11.1) K25.1) K32.1) q)))) (fun q => Or.inr (Nat.le_trans (Nat.le_trans (Nat.le_trans (Nat.le_trans (Nat.le_trans K3.1 K11.1) K25.1) K32.1) K48.1) q)))) (fun q => Or.inr (Nat.le_trans (Nat.le_trans (Nat.le_trans (Nat.le_trans (Nat.le_trans (Nat.le_trans (Nat.le_trans K3.1 K11.1) K25.1) K32.1) K48.1) K61.1) K70.1) q)))) (fun q => Or.inr (Nat.le_trans (Nat.le_trans (Nat.le_trans (Nat.le_trans (Nat.le_trans (Nat.le_trans (Nat.le_trans (Nat.le_trans K3.1 K11.1) K25.1) K32.1) K48.1) K61.1) K70.1) K90.1) q)))) (fun q => Or.inr (Nat.le_trans (Nat.le_trans (Nat.le_trans (Nat.le_trans (Nat.le_trans (Nat.le_trans (Nat.le_trans (Nat.le_trans (Nat.le_trans (Nat.le_trans K3.1 K11.1) K25.1) K32.1) K48.1) K61.1) K70.1) K90.1) K103.1) K112.1) q))) all0))) K163 all0), (Nat.le_trans (Nat.le_trans (Nat.le_trans (Nat.le_trans (Nat.le_trans (Nat.le_trans (Nat.le_trans (Nat.le_trans (Nat.le_trans (Nat.le_trans (Nat.le_trans (Nat.le_trans K3.1 K11.1) K25.1) K32.1) K48.1) K61.1) K70.1) K90.1) K103.1) K112.1) K136.1) K149.1) g164), (Nat.le_trans (Nat.le_trans (Nat.le_trans (Nat.le_trans (Nat.le_trans (Nat.le_trans (Nat.le_trans (Nat.le_trans (Nat.le_trans (Nat.le_trans (Nat.le_trans (Nat.le_trans K3.1 K11.1) K25.1) K32.1) K48.1) K61.1) K70.1) K90.1) K103.1) K112.1) K136.1) K149.1) g165), (strc F166 (by rw [syn, ho]))⟩⟩
  · have hp : 0 < os.length := List.length_pos_iff.mpr he
    have ho : ownL os = ([] ++ os) ++ [(32 : Int32)] := if_neg he
    refine W.aloadN (pc' := 1) X d_prog_3_m4_0 rfl rfl rfl ?_
    refine W.callV (pc' := 4) (W := 0) (argsL := []) (st := []) (k' := 0) (n' := 0) (a := o) X (c_emp0 (a := o) (b := ob) (cs := os) G X.en P1 hp) (w111 G) (w112 G) (nfM (z' := (⟨"java/lang/String", "length", "()I"⟩ : MethodName)) rfl (w73 G)) (w114 G) (w113 G) P1.exa (w115 G) (w6 G) (by decide) (by decide) (by decide) rfl (lenOf pd11 rfl) rfl rfl (Nat.le_of_eq rfl) d_prog_3_m4_1 rfl (by decide) (by decide) (by decide) (by decide) (kp fun T X => ?_)
    refine W.ifT (pc' := 12) X d_prog_3_m4_4 (by decide) (by decide) (by decide) ?_
    refine W.new (pc' := 15) (k' := 1) (n' := 4) X (w41 G) (w42 G) (w43 G) d_prog_3_m4_12 rfl (by decide) (by decide) (by decide) (by decide) fun T h171 a172 X K173 g174 g175 nb176 E177 D178 => ?_
    have F179 : Fld Z h171 a172 "java/lang/AbstractStringBuilder" "value" "[B" .null := D178 (Or.inl (w56 G)) (ty := (.array .byte)) (by decide)
    have F180 : Fld Z h171 a172 "java/lang/AbstractStringBuilder" "coder" "B" (.int (0 : Int32)) := D178 (Or.inl (w58 G)) (ty := .byte) (by decide)
    have F181 : Fld Z h171 a172 "java/lang/AbstractStringBuilder" "count" "I" (.int (0 : Int32)) := D178 (Or.inl (w81 G)) (ty := .int) (by decide)
    refine W.dup (pc' := 16) X d_prog_3_m4_15 rfl rfl ?_
    have en182 := X.en
    refine W.callN (pc' := 19) (W := 1) (argsL := []) (st := [(.ref a172)]) (k' := 2) (n' := 20) (a := a172) X (c_sbNew (a := a172) (v0 := .null) (v1 := (.int (0 : Int32))) G X.en E177 F179 F180 F181 g175 nb176) rfl (w44 G) (w45 G) (w46 G) (w43 G) (by decide) (by decide) (by decide) rfl (lenOf pd40 rfl) rfl rfl (Nat.le_of_eq rfl) d_prog_3_m4_16 rfl (by decide) (by decide) (by decide) (by decide) (kv fun T h183 X z184 q185 => ?_)
    obtain ⟨a186, K187, g188, F189⟩ := q185
    have g190 : Z.heap.size ≤ a186 := Nat.le_trans (Nat.le_trans hz0 K173.1) g188
    have nb191 : ¬ B a186 := fun q => absurd (en182.2 _ q) (Nat.not_lt.mpr g188)
    refine W.aloadN (pc' := 20) X d_prog_3_m4_19 rfl rfl rfl ?_
    have F192 := (E177.keep K187)
    have F193 := ((P1.keep K173 nin0 nin0).keep K187 (ninS (Nat.ne_of_lt (Nat.lt_of_lt_of_le P1.lt (Nat.le_trans (Nat.le_refl _) g174))) nin0) (ninS (Nat.ne_of_lt (Nat.lt_of_lt_of_le P1.ltb (Nat.le_trans (Nat.le_refl _) g174))) nin0))
    refine W.callV (pc' := 23) (W := 0) (argsL := [(.ref o)]) (st := []) (k' := 3) (n' := 310) (a := a172) X (c_app (a := a172) (v := a186) (s := o) (t := ob) (cs := ([] : List Int32)) (ds := os) (cap := 16) G X.en F189 F193 (by unfold grow; simp only [List.length_append, List.length_cons, List.length_nil]; split <;> omega) g175 nb176 g190 nb191) (w60 G) (w61 G) (nfM (z' := (⟨"java/lang/StringBuilder", "append", "(Ljava/lang/String;)Ljava/lang/StringBuilder;"⟩ : MethodName)) rfl (w63 G)) (w63 G) (w62 G) F192 (w64 G) (w43 G) (by decide) (by decide) (by decide) rfl (lenOf pd41 rfl) rfl rfl (Nat.le_of_eq rfl) d_prog_3_m4_20 rfl (by decide) (by decide) (by decide) (by decide) (kr fun T h194 xr X z195 q196 => ?_)
    obtain ⟨a197, rfl, K198, F199, F200, F201, F202, F203⟩ := q196
    have F204 : Sb Z h194 a172 a197 (([] : List Int32) ++ os) 16 := sbc F199 rfl (by unfold grow; simp only [List.length_append, List.length_cons, List.length_nil]; split <;> omega)
    refine W.ldcR (pc' := 25) (k' := 5) (n' := 318) (cap := 4) (cs := [(32 : Int32)]) X (by decide) (w141 G) (watoms G) G.2.1 ⟨by decide, by decide⟩ (by unfold Lat; decide) (by decide) d_prog_3_m4_23 (by decide) (by decide) rfl (by decide) (by decide) (by decide) (by decide) fun T h205 B209 a206 a210 X K207 zb208 S211 ne212 => ?_
    have nb213 : ¬ B209 a172 := fun q => (zb208 _ q).elim nb176 (fun r => absurd (Nat.lt_of_lt_of_le E177.lt (Nat.le_trans K187.1 K198.1)) (Nat.not_lt.mpr r))
    have ne214 := ne212 _ nb213
    have nb215 : ¬ B209 a186 := fun q => (zb208 _ q).elim nb191 (fun r => absurd (Nat.lt_of_lt_of_le F189.ltb K198.1) (Nat.not_lt.mpr r))
    have ne216 := ne212 _ nb215
    have nb217 : ¬ B209 a197 := fun q => (zb208 _ q).elim F201 (fun r => absurd (Nat.lt_of_lt_of_le F199.ltb (Nat.le_refl _)) (Nat.not_lt.mpr r))
    have ne218 := ne212 _ nb217
    have F219 := ((F192.keep K198).keep K207)
    have F220 := (F204.keep K207 nin0 nin0)
    refine W.callV (pc' := 28) (W := 0) (argsL := [(.ref a206)]) (st := []) (k' := 6) (n' := 608) (a := a172) X (c_app (a := a172) (v := a197) (s := a206) (t := a210) (cs := (([] : List Int32) ++ os)) (ds := [(32 : Int32)]) (cap := 16) G X.en F220 S211 (by unfold grow; simp only [List.length_append, List.length_cons, List.length_nil]; split <;> omega) g175 nb213 F200 nb217) (w60 G) (w61 G) (nfM (z' := (⟨"java/lang/StringBuilder", "append", "(Ljava/lang/String;)Ljava/lang/StringBuilder;"⟩ : MethodName)) rfl (w63 G)) (w63 G) (w62 G) F219 (w64 G) (w43 G) (by decide) (by decide) (by decide) rfl (lenOf pd41 rfl) rfl rfl (Nat.le_of_eq rfl) d_prog_3_m4_25 rfl (by decide) (by decide) (by decide) (by decide) (kr fun T h221 xr X z222 q223 => ?_)
    obtain ⟨a224, rfl, K225, F226, F227, F228, F229, F230⟩ := q223
    have F231 : Sb Z h221 a172 a224 ((([] : List Int32) ++ os) ++ [(32 : Int32)]) 16 := sbc F226 rfl (by unfold grow; simp only [List.length_append, List.length_cons, List.length_nil]; split <;> omega)
    have F232 := (F219.keep K225)
    have en233 := X.en
    refine W.callV (pc' := 31) (W := 0) (argsL := []) (st := []) (k' := 8) (n' := 902) (a := a172) X (c_toS (a := a172) (v := a224) (cs := ((([] : List Int32) ++ os) ++ [(32 : Int32)])) (cap := 16) G X.en F231 (by simp only [List.length_append, List.length_cons, List.length_nil]; omega) (by simp only [List.length_append, List.length_cons, List.length_nil]; omega)) (w143 G) (w144 G) (nfM (z' := (⟨"java/lang/StringBuilder", "append", "(Ljava/lang/String;)Ljava/lang/StringBuilder;"⟩ : MethodName)) rfl (w63 G)) (w146 G) (w145 G) F232 (w147 G) (w43 G) (by decide) (by decide) (by decide) rfl (lenOf pd42 rfl) rfl rfl (Nat.le_of_eq rfl) d_prog_3_m4_28 rfl (by decide) (by decide) (by decide) (by decide) (kr fun T h234 xr X z235 q236 => ?_)
    obtain ⟨a237, a238, rfl, K239, g240, g241, F242⟩ := q236
    have g243 : Z.heap.size ≤ a237 := Nat.le_trans (Nat.le_trans hz0 (Nat.le_trans (Nat.le_trans (Nat.le_trans (Nat.le_trans K173.1 K187.1) K198.1) K207.1) K225.1)) g240
    have nb244 : ¬ B209 a237 := fun q => absurd (en233.2 _ q) (Nat.not_lt.mpr g240)
    have g245 : Z.heap.size ≤ a238 := Nat.le_trans (Nat.le_trans hz0 (Nat.le_trans (Nat.le_trans (Nat.le_trans (Nat.le_trans K173.1 K187.1) K198.1) K207.1) K225.1)) g241
    have nb246 : ¬ B209 a238 := fun q => absurd (en233.2 _ q) (Nat.not_lt.mpr g241)
    refine W.astoreN (pc' := 32) (ls' := #[.val (.ref c), .val (.ref o), .val (.ref u), .val (.ref a237)]) X d_prog_3_m4_31 rfl rfl rfl ?_
    refine W.new (pc' := 35) (k' := 9) (n' := 906) X (w41 G) (w42 G) (w43 G) d_prog_3_m4_32 rfl (by decide) (by decide) (by decide) (by decide) fun T h247 a248 X K249 g250 g251 nb252 E253 D254 => ?_
    have F255 : Fld Z h247 a248 "java/lang/AbstractStringBuilder" "value" "[B" .null := D254 (Or.inl (w56 G)) (ty := (.array .byte)) (by decide)
    have F256 : Fld Z h247 a248 "java/lang/AbstractStringBuilder" "coder" "B" (.int (0 : Int32)) := D254 (Or.inl (w58 G)) (ty := .byte) (by decide)
    have F257 : Fld Z h247 a248 "java/lang/AbstractStringBuilder" "count" "I" (.int (0 : Int32)) := D254 (Or.inl (w81 G)) (ty := .int) (by decide)
    refine W.dup (pc' := 36) X d_prog_3_m4_35 rfl rfl ?_
    have en258 := X.en
    refine W.callN (pc' := 39) (W := 1) (argsL := []) (st := [(.ref a248)]) (k' := 10) (n' := 922) (a := a248) X (c_sbNew (a := a248) (v0 := .null) (v1 := (.int (0 : Int32))) G X.en E253 F255 F256 F257 g251 nb252) rfl (w44 G) (w45 G) (w46 G) (w43 G) (by decide) (by decide) (by decide) rfl (lenOf pd40 rfl) rfl rfl (Nat.le_of_eq rfl) d_prog_3_m4_36 rfl (by decide) (by decide) (by decide) (by decide) (kv fun T h259 X z260 q261 => ?_)
    obtain ⟨a262, K263, g264, F265⟩ := q261
    have g266 : Z.heap.size ≤ a262 := Nat.le_trans (Nat.le_trans hz0 (Nat.le_trans (Nat.le_trans (Nat.le_trans (Nat.le_trans (Nat.le_trans (Nat.le_trans K173.1 K187.1) K198.1) K207.1) K225.1) K239.1) K249.1)) g264
    have nb267 : ¬ B209 a262 := fun q => absurd (en258.2 _ q) (Nat.not_lt.mpr g264)
    refine W.ldcR (pc' := 41) (k' := 12) (n' := 1022) (cap := 96) (cs := [(106 : Int32), (97 : Int32), (118 : Int32), (97 : Int32), (32 : Int32), (45 : Int32), (106 : Int32), (97 : Int32), (114 : Int32), (32 : Int32), (99 : Int32), (111 : Int32), (109 : Int32), (112 : Int32), (101 : Int32), (110 : Int32), (100 : Int32), (105 : Int32), (111 : Int32), (46 : Int32), (106 : Int32), (97 : Int32), (114 : Int32), (32 : Int32)]) X (by decide) (w117 G) (watoms G) G.2.1 ⟨by decide, by decide⟩ (by unfold Lat; decide) (by decide) d_prog_3_m4_39 (by decide) (by decide) rfl (by decide) (by decide) (by decide) (by decide) fun T h268 B272 a269 a273 X K270 zb271 S274 ne275 => ?_
    have nb276 : ¬ B272 a172 := fun q => (zb271 _ q).elim nb213 (fun r => absurd (Nat.lt_of_lt_of_le E177.lt (Nat.le_trans (Nat.le_trans (Nat.le_trans (Nat.le_trans (Nat.le_trans (Nat.le_trans K187.1 K198.1) K207.1) K225.1) K239.1) K249.1) K263.1)) (Nat.not_lt.mpr r))
    have ne277 := ne275 _ nb276
    have nb278 : ¬ B272 a186 := fun q => (zb271 _ q).elim nb215 (fun r => absurd (Nat.lt_of_lt_of_le F189.ltb (Nat.le_trans (Nat.le_trans (Nat.le_trans (Nat.le_trans (Nat.le_trans K198.1 K207.1) K225.1) K239.1) K249.1) K263.1)) (Nat.not_lt.mpr r))
    have ne279 := ne275 _ nb278
    have nb280 : ¬ B272 a197 := fun q => (zb271 _ q).elim nb217 (fun r => absurd (Nat.lt_of_lt_of_le F199.ltb (Nat.le_trans (Nat.le_trans (Nat.le_trans (Nat.le_trans K207.1 K225.1) K239.1) K249.1) K263.1)) (Nat.not_lt.mpr r))
    have ne281 := ne275 _ nb280
    have nb282 : ¬ B272 a224 := fun q => (zb271 _ q).elim F228 (fun r => absurd (Nat.lt_of_lt_of_le F226.ltb (Nat.le_trans (Nat.le_trans K239.1 K249.1) K263.1)) (Nat.not_lt.mpr r))
    have ne283 := ne275 _ nb282
    have nb284 : ¬ B272 a237 := fun q => (zb271 _ q).elim nb244 (fun r => absurd (Nat.lt_of_lt_of_le F242.lt (Nat.le_trans K249.1 K263.1)) (Nat.not_lt.mpr r))
    have ne285 := ne275 _ nb284
    have nb286 : ¬ B272 a238 := fun q => (zb271 _ q).elim nb246 (fun r => absurd (Nat.lt_of_lt_of_le F242.ltb (Nat.le_trans K249.1 K263.1)) (Nat.not_lt.mpr r))
    have ne287 := ne275 _ nb286
    have nb288 : ¬ B272 a248 := fun q => (zb271 _ q).elim nb252 (fun r => absurd (Nat.lt_of_lt_of_le E253.lt K263.1) (Nat.not_lt.mpr r))
    have ne289 := ne275 _ nb288
    have nb290 : ¬ B272 a262 := fun q => (zb271 _ q).elim nb267 (fun r => absurd (Nat.lt_of_lt_of_le F265.ltb (Nat.le_refl _)) (Nat.not_lt.mpr r))
    have ne291 := ne275 _ nb290
    have F292 := ((E253.keep K263).keep K270)
    have F293 := (F265.keep K270 nin0 nin0)
    refine W.callV (pc' := 44) (W := 0) (argsL := [(.ref a269)]) (st := []) (k' := 13) (n' := 1312) (a := a248) X (c_app (a := a248) (v := a262) (s := a269) (t := a273) (cs := ([] : List Int32)) (ds := [(106 : Int32), (97 : Int32), (118 : Int32), (97 : Int32), (32 : Int32), (45 : Int32), (106 : Int32), (97 : Int32), (114 : Int32), (32 : Int32), (99 : Int32), (111 : Int32), (109 : Int32), (112 : Int32), (101 : Int32), (110 : Int32), (100 : Int32), (105 : Int32), (111 : Int32), (46 : Int32), (106 : Int32), (97 : Int32), (114 : Int32), (32 : Int32)]) (cap := 16) G X.en F293 S274 (by unfold grow; simp only [List.length_append, List.length_cons, List.length_nil]; split <;> omega) g251 nb288 g266 nb290) (w60 G) (w61 G) (nfM (z' := (⟨"java/lang/StringBuilder", "append", "(Ljava/lang/String;)Ljava/lang/StringBuilder;"⟩ : MethodName)) rfl (w63 G)) (w63 G) (w62 G) F292 (w64 G) (w43 G) (by decide) (by decide) (by decide) rfl (lenOf pd41 rfl) rfl rfl (Nat.le_of_eq rfl) d_prog_3_m4_41 rfl (by decide) (by decide) (by decide) (by decide) (kr fun T h294 xr X z295 q296 => ?_)
    obtain ⟨a297, rfl, K298, F299, F300, F301, F302, F303⟩ := q296
    have F304 : Sb Z h294 a248 a297 (([] : List Int32) ++ [(106 : Int32), (97 : Int32), (118 : Int32), (97 : Int32), (32 : Int32), (45 : Int32), (106 : Int32), (97 : Int32), (114 : Int32), (32 : Int32), (99 : Int32), (111 : Int32), (109 : Int32), (112 : Int32), (101 : Int32), (110 : Int32), (100 : Int32), (105 : Int32), (111 : Int32), (46 : Int32), (106 : Int32), (97 : Int32), (114 : Int32), (32 : Int32)]) 34 := sbc F299 rfl (by unfold grow; simp only [List.length_append, List.length_cons, List.length_nil]; split <;> omega)
    refine W.aloadN (pc' := 45) X d_prog_3_m4_44 rfl rfl rfl ?_
    have F305 := (F292.keep K298)
    have F306 := ((((((((((P0.keep K173 nin0 nin0).keep K187 (ninS (Nat.ne_of_lt (Nat.lt_of_lt_of_le P0.lt (Nat.le_trans (Nat.le_refl _) g174))) nin0) (ninS (Nat.ne_of_lt (Nat.lt_of_lt_of_le P0.ltb (Nat.le_trans (Nat.le_refl _) g174))) nin0)).keep K198 (ninS (Nat.ne_of_lt (Nat.lt_of_lt_of_le P0.lt (Nat.le_trans (Nat.le_refl _) g174))) (ninS (Nat.ne_of_lt (Nat.lt_of_lt_of_le P0.lt (Nat.le_trans K173.1 g188))) nin0)) (ninS (Nat.ne_of_lt (Nat.lt_of_lt_of_le P0.ltb (Nat.le_trans (Nat.le_refl _) g174))) (ninS (Nat.ne_of_lt (Nat.lt_of_lt_of_le P0.ltb (Nat.le_trans K173.1 g188))) nin0))).keep K207 nin0 nin0).keep K225 (ninS (Nat.ne_of_lt (Nat.lt_of_lt_of_le P0.lt (Nat.le_trans (Nat.le_refl _) g174))) (ninS (F202 _ (Nat.lt_of_lt_of_le P0.lt (Nat.le_trans K173.1 K187.1)) (Nat.ne_of_lt (Nat.lt_of_lt_of_le P0.lt (Nat.le_trans K173.1 g188)))) nin0)) (ninS (Nat.ne_of_lt (Nat.lt_of_lt_of_le P0.ltb (Nat.le_trans (Nat.le_refl _) g174))) (ninS (F202 _ (Nat.lt_of_lt_of_le P0.ltb (Nat.le_trans K173.1 K187.1)) (Nat.ne_of_lt (Nat.lt_of_lt_of_le P0.ltb (Nat.le_trans K173.1 g188)))) nin0))).keep K239 nin0 nin0).keep K249 nin0 nin0).keep K263 (ninS (Nat.ne_of_lt (Nat.lt_of_lt_of_le P0.lt (Nat.le_trans (Nat.le_trans (Nat.le_trans (Nat.le_trans (Nat.le_trans (Nat.le_trans K173.1 K187.1) K198.1) K207.1) K225.1) K239.1) g250))) nin0) (ninS (Nat.ne_of_lt (Nat.lt_of_lt_of_le P0.ltb (Nat.le_trans (Nat.le_trans (Nat.le_trans (Nat.le_trans (Nat.le_trans (Nat.le_trans K173.1 K187.1) K198.1) K207.1) K225.1) K239.1) g250))) nin0)).keep K270 nin0 nin0).keep K298 (ninS (Nat.ne_of_lt (Nat.lt_of_lt_of_le P0.lt (Nat.le_trans (Nat.le_trans (Nat.le_trans (Nat.le_trans (Nat.le_trans (Nat.le_trans K173.1 K187.1) K198.1) K207.1) K225.1) K239.1) g250))) (ninS (Nat.ne_of_lt (Nat.lt_of_lt_of_le P0.lt (Nat.le_trans (Nat.le_trans (Nat.le_trans (Nat.le_trans (Nat.le_trans (Nat.le_trans (Nat.le_trans K173.1 K187.1) K198.1) K207.1) K225.1) K239.1) K249.1) g264))) nin0)) (ninS (Nat.ne_of_lt (Nat.lt_of_lt_of_le P0.ltb (Nat.le_trans (Nat.le_trans (Nat.le_trans (Nat.le_trans (Nat.le_trans (Nat.le_trans K173.1 K187.1) K198.1) K207.1) K225.1) K239.1) g250))) (ninS (Nat.ne_of_lt (Nat.lt_of_lt_of_le P0.ltb (Nat.le_trans (Nat.le_trans (Nat.le_trans (Nat.le_trans (Nat.le_trans (Nat.le_trans (Nat.le_trans K173.1 K187.1) K198.1) K207.1) K225.1) K239.1) K249.1) g264))) nin0)))
    refine W.callV (pc' := 48) (W := 0) (argsL := [(.ref c)]) (st := []) (k' := 14) (n' := 1602) (a := a248) X (c_app (a := a248) (v := a297) (s := c) (t := cb) (cs := (([] : List Int32) ++ [(106 : Int32), (97 : Int32), (118 : Int32), (97 : Int32), (32 : Int32), (45 : Int32), (106 : Int32), (97 : Int32), (114 : Int32), (32 : Int32), (99 : Int32), (111 : Int32), (109 : Int32), (112 : Int32), (101 : Int32), (110 : Int32), (100 : Int32), (105 : Int32), (111 : Int32), (46 : Int32), (106 : Int32), (97 : Int32), (114 : Int32), (32 : Int32)])) (ds := cs) (cap := 34) G X.en F304 F306 (by unfold grow; simp only [List.length_append, List.length_cons, List.length_nil]; split <;> omega) g251 nb288 F300 F301) (w60 G) (w61 G) (nfM (z' := (⟨"java/lang/StringBuilder", "append", "(Ljava/lang/String;)Ljava/lang/StringBuilder;"⟩ : MethodName)) rfl (w63 G)) (w63 G) (w62 G) F305 (w64 G) (w43 G) (by decide) (by decide) (by decide) rfl (lenOf pd41 rfl) rfl rfl (Nat.le_of_eq rfl) d_prog_3_m4_45 rfl (by decide) (by decide) (by decide) (by decide) (kr fun T h307 xr X z308 q309 => ?_)
    obtain ⟨a310, rfl, K311, F312, F313, F314, F315, F316⟩ := q309
    have F317 : Sb Z h307 a248 a310 ((([] : List Int32) ++ [(106 : Int32), (97 : Int32), (118 : Int32), (97 : Int32), (32 : Int32), (45 : Int32), (106 : Int32), (97 : Int32), (114 : Int32), (32 : Int32), (99 : Int32), (111 : Int32), (109 : Int32), (112 : Int32), (101 : Int32), (110 : Int32), (100 : Int32), (105 : Int32), (111 : Int32), (46 : Int32), (106 : Int32), (97 : Int32), (114 : Int32), (32 : Int32)]) ++ cs) 34 := sbc F312 rfl (by unfold grow; simp only [List.length_append, List.length_cons, List.length_nil]; split <;> omega)
    refine W.ldcR (pc' := 50) (k' := 16) (n' := 1610) (cap := 4) (cs := [(32 : Int32)]) X (by decide) (w141 G) (watoms G) G.2.1 ⟨by decide, by decide⟩ (by unfold Lat; decide) (by decide) d_prog_3_m4_48 (by decide) (by decide) rfl (by decide) (by decide) (by decide) (by decide) fun T h318 B322 a319 a323 X K320 zb321 S324 ne325 => ?_
    have nb326 : ¬ B322 a172 := fun q => (zb321 _ q).elim nb276 (fun r => absurd (Nat.lt_of_lt_of_le E177.lt (Nat.le_trans (Nat.le_trans (Nat.le_trans (Nat.le_trans (Nat.le_trans (Nat.le_trans (Nat.le_trans (Nat.le_trans (Nat.le_trans K187.1 K198.1) K207.1) K225.1) K239.1) K249.1) K263.1) K270.1) K298.1) K311.1)) (Nat.not_lt.mpr r))
    have ne327 := ne325 _ nb326
    have nb328 : ¬ B322 a186 := fun q => (zb321 _ q).elim nb278 (fun r => absurd (Nat.lt_of_lt_of_le F189.ltb (Nat.le_trans (Nat.le_trans (Nat.le_trans (Nat.le_trans (Nat.le_trans (Nat.le_trans (Nat.le_trans (Nat.le_trans K198.1 K207.1) K225.1) K239.1) K249.1) K263.1) K270.1) K298.1) K311.1)) (Nat.not_lt.mpr r))
    have ne329 := ne325 _ nb328
    have nb330 : ¬ B322 a197 := fun q => (zb321 _ q).elim nb280 (fun r => absurd (Nat.lt_of_lt_of_le F199.ltb (Nat.le_trans (Nat.le_trans (Nat.le_trans (Nat.le_trans (Nat.le_trans (Nat.le_trans (Nat.le_trans K207.1 K225.1) K239.1) K249.1) K263.1) K270.1) K298.1) K311.1)) (Nat.not_lt.mpr r))
    have ne331 := ne325 _ nb330
    have nb332 : ¬ B322 a224 := fun q => (zb321 _ q).elim nb282 (fun r => absurd (Nat.lt_of_lt_of_le F226.ltb (Nat.le_trans (Nat.le_trans (Nat.le_trans (Nat.le_trans (Nat.le_trans K239.1 K249.1) K263.1) K270.1) K298.1) K311.1)) (Nat.not_lt.mpr r))
    have ne333 := ne325 _ nb332
    have nb334 : ¬ B322 a237 := fun q => (zb321 _ q).elim nb284 (fun r => absurd (Nat.lt_of_lt_of_le F242.lt (Nat.le_trans (Nat.le_trans (Nat.le_trans (Nat.le_trans K249.1 K263.1) K270.1) K298.1) K311.1)) (Nat.not_lt.mpr r))
    have ne335 := ne325 _ nb334
    have nb336 : ¬ B322 a238 := fun q => (zb321 _ q).elim nb286 (fun r => absurd (Nat.lt_of_lt_of_le F242.ltb (Nat.le_trans (Nat.le_trans (Nat.le_trans (Nat.le_trans K249.1 K263.1) K270.1) K298.1) K311.1)) (Nat.not_lt.mpr r))
    have ne337 := ne325 _ nb336
    have nb338 : ¬ B322 a248 := fun q => (zb321 _ q).elim nb288 (fun r => absurd (Nat.lt_of_lt_of_le E253.lt (Nat.le_trans (Nat.le_trans (Nat.le_trans K263.1 K270.1) K298.1) K311.1)) (Nat.not_lt.mpr r))
    have ne339 := ne325 _ nb338
    have nb340 : ¬ B322 a262 := fun q => (zb321 _ q).elim nb290 (fun r => absurd (Nat.lt_of_lt_of_le F265.ltb (Nat.le_trans (Nat.le_trans K270.1 K298.1) K311.1)) (Nat.not_lt.mpr r))
    have ne341 := ne325 _ nb340
    have nb342 : ¬ B322 a297 := fun q => (zb321 _ q).elim F301 (fun r => absurd (Nat.lt_of_lt_of_le F299.ltb K311.1) (Nat.not_lt.mpr r))
    have ne343 := ne325 _ nb342
    have nb344 : ¬ B322 a310 := fun q => (zb321 _ q).elim F314 (fun r => absurd (Nat.lt_of_lt_of_le F312.ltb (Nat.le_refl _)) (Nat.not_lt.mpr r))
    have ne345 := ne325 _ nb344
    have F346 := ((F305.keep K311).keep K320)
    have F347 := (F317.keep K320 nin0 nin0)
    refine W.callV (pc' := 53) (W := 0) (argsL := [(.ref a319)]) (st := []) (k' := 17) (n' := 1900) (a := a248) X (c_app (a := a248) (v := a310) (s := a319) (t := a323) (cs := ((([] : List Int32) ++ [(106 : Int32), (97 : Int32), (118 : Int32), (97 : Int32), (32 : Int32), (45 : Int32), (106 : Int32), (97 : Int32), (114 : Int32), (32 : Int32), (99 : Int32), (111 : Int32), (109 : Int32), (112 : Int32), (101 : Int32), (110 : Int32), (100 : Int32), (105 : Int32), (111 : Int32), (46 : Int32), (106 : Int32), (97 : Int32), (114 : Int32), (32 : Int32)]) ++ cs)) (ds := [(32 : Int32)]) (cap := 34) G X.en F347 S324 (by unfold grow; simp only [List.length_append, List.length_cons, List.length_nil]; split <;> omega) g251 nb338 F313 nb344) (w60 G) (w61 G) (nfM (z' := (⟨"java/lang/StringBuilder", "append", "(Ljava/lang/String;)Ljava/lang/StringBuilder;"⟩ : MethodName)) rfl (w63 G)) (w63 G) (w62 G) F346 (w64 G) (w43 G) (by decide) (by decide) (by decide) rfl (lenOf pd41 rfl) rfl rfl (Nat.le_of_eq rfl) d_prog_3_m4_50 rfl (by decide) (by decide) (by decide) (by decide) (kr fun T h348 xr X z349 q350 => ?_)
    obtain ⟨a351, rfl, K352, F353, F354, F355, F356, F357⟩ := q350
    have F358 : Sb Z h348 a248 a351 (((([] : List Int32) ++ [(106 : Int32), (97 : Int32), (118 : Int32), (97 : Int32), (32 : Int32), (45 : Int32), (106 : Int32), (97 : Int32), (114 : Int32), (32 : Int32), (99 : Int32), (111 : Int32), (109 : Int32), (112 : Int32), (101 : Int32), (110 : Int32), (100 : Int32), (105 : Int32), (111 : Int32), (46 : Int32), (106 : Int32), (97 : Int32), (114 : Int32), (32 : Int32)]) ++ cs) ++ [(32 : Int32)]) 34 := sbc F353 rfl (by unfold grow; simp only [List.length_append, List.length_cons, List.length_nil]; split <;> omega)
    refine W.aloadN (pc' := 54) X d_prog_3_m4_53 rfl rfl rfl ?_
    have F359 := (F346.keep K352)
    have F360 := (((((((F242.keep K249 nin0 nin0).keep K263 (ninS (Nat.ne_of_lt (Nat.lt_of_lt_of_le F242.lt (Nat.le_trans (Nat.le_refl _) g250))) nin0) (ninS (Nat.ne_of_lt (Nat.lt_of_lt_of_le F242.ltb (Nat.le_trans (Nat.le_refl _) g250))) nin0)).keep K270 nin0 nin0).keep K298 (ninS (Nat.ne_of_lt (Nat.lt_of_lt_of_le F242.lt (Nat.le_trans (Nat.le_refl _) g250))) (ninS (Nat.ne_of_lt (Nat.lt_of_lt_of_le F242.lt (Nat.le_trans K249.1 g264))) nin0)) (ninS (Nat.ne_of_lt (Nat.lt_of_lt_of_le F242.ltb (Nat.le_trans (Nat.le_refl _) g250))) (ninS (Nat.ne_of_lt (Nat.lt_of_lt_of_le F242.ltb (Nat.le_trans K249.1 g264))) nin0))).keep K311 (ninS (Nat.ne_of_lt (Nat.lt_of_lt_of_le F242.lt (Nat.le_trans (Nat.le_refl _) g250))) (ninS (F302 _ (Nat.lt_of_lt_of_le F242.lt (Nat.le_trans (Nat.le_trans K249.1 K263.1) K270.1)) (Nat.ne_of_lt (Nat.lt_of_lt_of_le F242.lt (Nat.le_trans K249.1 g264)))) nin0)) (ninS (Nat.ne_of_lt (Nat.lt_of_lt_of_le F242.ltb (Nat.le_trans (Nat.le_refl _) g250))) (ninS (F302 _ (Nat.lt_of_lt_of_le F242.ltb (Nat.le_trans (Nat.le_trans K249.1 K263.1) K270.1)) (Nat.ne_of_lt (Nat.lt_of_lt_of_le F242.ltb (Nat.le_trans K249.1 g264)))) nin0))).keep K320 nin0 nin0).keep K352 (ninS (Nat.ne_of_lt (Nat.lt_of_lt_of_le F242.lt (Nat.le_trans (Nat.le_refl _) g250))) (ninS (F315 _ (Nat.lt_of_lt_of_le F242.lt (Nat.le_trans (Nat.le_trans (Nat.le_trans K249.1 K263.1) K270.1) K298.1)) (F302 _ (Nat.lt_of_lt_of_le F242.lt (Nat.le_trans (Nat.le_trans K249.1 K263.1) K270.1)) (Nat.ne_of_lt (Nat.lt_of_lt_of_le F242.lt (Nat.le_trans K249.1 g264))))) nin0)) (ninS (Nat.ne_of_lt (Nat.lt_of_lt_of_le F242.ltb (Nat.le_trans (Nat.le_refl _) g250))) (ninS (F315 _ (Nat.lt_of_lt_of_le F242.ltb (Nat.le_trans (Nat.le_trans (Nat.le_trans K249.1 K263.1) K270.1) K298.1)) (F302 _ (Nat.lt_of_lt_of_le F242.ltb (Nat.le_trans (Nat.le_trans K249.1 K263.1) K270.1)) (Nat.ne_of_lt (Nat.lt_of_lt_of_le F242.ltb (Nat.le_trans K249.1 g264))))) nin0)))
    refine W.callV (pc' := 57) (W := 0) (argsL := [(.ref a237)]) (st := []) (k' := 18) (n' := 2190) (a := a248) X (c_app (a := a248) (v := a351) (s := a237) (t := a238) (cs := (((([] : List Int32) ++ [(106 : Int32), (97 : Int32), (118 : Int32), (97 : Int32), (32 : Int32), (45 : Int32), (106 : Int32), (97 : Int32), (114 : Int32), (32 : Int32), (99 : Int32), (111 : Int32), (109 : Int32), (112 : Int32), (101 : Int32), (110 : Int32), (100 : Int32), (105 : Int32), (111 : Int32), (46 : Int32), (106 : Int32), (97 : Int32), (114 : Int32), (32 : Int32)]) ++ cs) ++ [(32 : Int32)])) (ds := ((([] : List Int32) ++ os) ++ [(32 : Int32)])) (cap := 34) G X.en F358 F360 (by unfold grow; simp only [List.length_append, List.length_cons, List.length_nil]; split <;> omega) g251 nb338 F354 F355) (w60 G) (w61 G) (nfM (z' := (⟨"java/lang/StringBuilder", "append", "(Ljava/lang/String;)Ljava/lang/StringBuilder;"⟩ : MethodName)) rfl (w63 G)) (w63 G) (w62 G) F359 (w64 G) (w43 G) (by decide) (by decide) (by decide) rfl (lenOf pd41 rfl) rfl rfl (Nat.le_of_eq rfl) d_prog_3_m4_54 rfl (by decide) (by decide) (by decide) (by decide) (kr fun T h361 xr X z362 q363 => ?_)
    obtain ⟨a364, rfl, K365, F366, F367, F368, F369, F370⟩ := q363
    have F371 : Sb Z h361 a248 a364 ((((([] : List Int32) ++ [(106 : Int32), (97 : Int32), (118 : Int32), (97 : Int32), (32 : Int32), (45 : Int32), (106 : Int32), (97 : Int32), (114 : Int32), (32 : Int32), (99 : Int32), (111 : Int32), (109 : Int32), (112 : Int32), (101 : Int32), (110 : Int32), (100 : Int32), (105 : Int32), (111 : Int32), (46 : Int32), (106 : Int32), (97 : Int32), (114 : Int32), (32 : Int32)]) ++ cs) ++ [(32 : Int32)]) ++ ((([] : List Int32) ++ os) ++ [(32 : Int32)])) 34 := sbc F366 rfl (by unfold grow; simp only [List.length_append, List.length_cons, List.length_nil]; split <;> omega)
    refine W.ldcR (pc' := 59) (k' := 20) (n' := 2278) (cap := 84) (cs := [(91 : Int32), (45 : Int32), (45 : Int32), (115 : Int32), (101 : Int32), (116 : Int32), (32 : Int32), (75 : Int32), (69 : Int32), (89 : Int32), (61 : Int32), (86 : Int32), (65 : Int32), (76 : Int32), (85 : Int32), (69 : Int32), (93 : Int32), (46 : Int32), (46 : Int32), (46 : Int32), (32 : Int32)]) X (by decide) (w142 G) (watoms G) G.2.1 ⟨by decide, by decide⟩ (by unfold Lat; decide) (by decide) d_prog_3_m4_57 (by decide) (by decide) rfl (by decide) (by decide) (by decide) (by decide) fun T h372 B376 a373 a377 X K374 zb375 S378 ne379 => ?_
    have nb380 : ¬ B376 a172 := fun q => (zb375 _ q).elim nb326 (fun r => absurd (Nat.lt_of_lt_of_le E177.lt (Nat.le_trans (Nat.le_trans (Nat.le_trans (Nat.le_trans (Nat.le_trans (Nat.le_trans (Nat.le_trans (Nat.le_trans (Nat.le_trans (Nat.le_trans (Nat.le_trans (Nat.le_trans K187.1 K198.1) K207.1) K225.1) K239.1) K249.1) K263.1) K270.1) K298.1) K311.1) K320.1) K352.1) K365.1)) (Nat.not_lt.mpr r))
    have ne381 := ne379 _ nb380
    have nb382 : ¬ B376 a186 := fun q => (zb375 _ q).elim nb328 (fun r => absurd (Nat.lt_of_lt_of_le F189.ltb (Nat.le_trans (Nat.le_trans (Nat.le_trans (Nat.le_trans (Nat.le_trans (Nat.le_trans (Nat.le_trans (Nat.le_trans (Nat.le_trans (Nat.le_trans (Nat.le_trans K198.1 K207.1) K225.1) K239.1) K249.1) K263.1) K270.1) K298.1) K311.1) K320.1) K352.1) K365.1)) (Nat.not_lt.mpr r))
    have ne383 := ne379 _ nb382
    have nb384 : ¬ B376 a197 := fun q => (zb375 _ q).elim nb330 (fun r => absurd (Nat.lt_of_lt_of_le F199.ltb (Nat.le_trans (Nat.le_trans (Nat.le_trans (Nat.le_trans (Nat.le_trans (Nat.le_trans (Nat.le_trans (Nat.le_trans (Nat.le_trans (Nat.le_trans K207.1 K225.1) K239.1) K249.1) K263.1) K270.1) K298.1) K311.1) K320.1) K352.1) K365.1)) (Nat.not_lt.mpr r))
    have ne385 := ne379 _ nb384
    have nb386 : ¬ B376 a224 := fun q => (zb375 _ q).elim nb332 (fun r => absurd (Nat.lt_of_lt_of_le F226.ltb (Nat.le_trans (Nat.le_trans (Nat.le_trans (Nat.le_trans (Nat.le_trans (Nat.le_trans (Nat.le_trans (Nat.le_trans K239.1 K249.1) K263.1) K270.1) K298.1) K311.1) K320.1) K352.1) K365.1)) (Nat.not_lt.mpr r))
    have ne387 := ne379 _ nb386
    have nb388 : ¬ B376 a237 := fun q => (zb375 _ q).elim nb334 (fun r => absurd (Nat.lt_of_lt_of_le F242.lt (Nat.le_trans (Nat.le_trans (Nat.le_trans (Nat.le_trans (Nat.le_trans (Nat.le_trans (Nat.le_trans K249.1 K263.1) K270.1) K298.1) K311.1) K320.1) K352.1) K365.1)) (Nat.not_lt.mpr r))
    have ne389 := ne379 _ nb388
    have nb390 : ¬ B376 a238 := fun q => (zb375 _ q).elim nb336 (fun r => absurd (Nat.lt_of_lt_of_le F242.ltb (Nat.le_trans (Nat.le_trans (Nat.le_trans (Nat.le_trans (Nat.le_trans (Nat.le_trans (Nat.le_trans K249.1 K263.1) K270.1) K298.1) K311.1) K320.1) K352.1) K365.1)) (Nat.not_lt.mpr r))
    have ne391 := ne379 _ nb390
    have nb392 : ¬ B376 a248 := fun q => (zb375 _ q).elim nb338 (fun r => absurd (Nat.lt_of_lt_of_le E253.lt (Nat.le_trans (Nat.le_trans (Nat.le_trans (Nat.le_trans (Nat.le_trans (Nat.le_trans K263.1 K270.1) K298.1) K311.1) K320.1) K352.1) K365.1)) (Nat.not_lt.mpr r))
    have ne393 := ne379 _ nb392
    have nb394 : ¬ B376 a262 := fun q => (zb375 _ q).elim nb340 (fun r => absurd (Nat.lt_of_lt_of_le F265.ltb (Nat.le_trans (Nat.le_trans (Nat.le_trans (Nat.le_trans (Nat.le_trans K270.1 K298.1) K311.1) K320.1) K352.1) K365.1)) (Nat.not_lt.mpr r))
    have ne395 := ne379 _ nb394
    have nb396 : ¬ B376 a297 := fun q => (zb375 _ q).elim nb342 (fun r => absurd (Nat.lt_of_lt_of_le F299.ltb (Nat.le_trans (Nat.le_trans (Nat.le_trans K311.1 K320.1) K352.1) K365.1)) (Nat.not_lt.mpr r))
    have ne397 := ne379 _ nb396
    have nb398 : ¬ B376 a310 := fun q => (zb375 _ q).elim nb344 (fun r => absurd (Nat.lt_of_lt_of_le F312.ltb (Nat.le_trans (Nat.le_trans K320.1 K352.1) K365.1)) (Nat.not_lt.mpr r))
    have ne399 := ne379 _ nb398
    have nb400 : ¬ B376 a351 := fun q => (zb375 _ q).elim F355 (fun r => absurd (Nat.lt_of_lt_of_le F353.ltb K365.1) (Nat.not_lt.mpr r))
    have ne401 := ne379 _ nb400
    have nb402 : ¬ B376 a364 := fun q => (zb375 _ q).elim F368 (fun r => absurd (Nat.lt_of_lt_of_le F366.ltb (Nat.le_refl _)) (Nat.not_lt.mpr r))
    have ne403 := ne379 _ nb402
    have F404 := ((F359.keep K365).keep K374)
    have F405 := (F371.keep K374 nin0 nin0)
    refine W.callV (pc' := 62) (W := 0) (argsL := [(.ref a373)]) (st := []) (k' := 21) (n' := 2568) (a := a248) X (c_app (a := a248) (v := a364) (s := a373) (t := a377) (cs := ((((([] : List Int32) ++ [(106 : Int32), (97 : Int32), (118 : Int32), (97 : Int32), (32 : Int32), (45 : Int32), (106 : Int32), (97 : Int32), (114 : Int32), (32 : Int32), (99 : Int32), (111 : Int32), (109 : Int32), (112 : Int32), (101 : Int32), (110 : Int32), (100 : Int32), (105 : Int32), (111 : Int32), (46 : Int32), (106 : Int32), (97 : Int32), (114 : Int32), (32 : Int32)]) ++ cs) ++ [(32 : Int32)]) ++ ((([] : List Int32) ++ os) ++ [(32 : Int32)]))) (ds := [(91 : Int32), (45 : Int32), (45 : Int32), (115 : Int32), (101 : Int32), (116 : Int32), (32 : Int32), (75 : Int32), (69 : Int32), (89 : Int32), (61 : Int32), (86 : Int32), (65 : Int32), (76 : Int32), (85 : Int32), (69 : Int32), (93 : Int32), (46 : Int32), (46 : Int32), (46 : Int32), (32 : Int32)]) (cap := 34) G X.en F405 S378 (by unfold grow; simp only [List.length_append, List.length_cons, List.length_nil]; split <;> omega) g251 nb392 F367 nb402) (w60 G) (w61 G) (nfM (z' := (⟨"java/lang/StringBuilder", "append", "(Ljava/lang/String;)Ljava/lang/StringBuilder;"⟩ : MethodName)) rfl (w63 G)) (w63 G) (w62 G) F404 (w64 G) (w43 G) (by decide) (by decide) (by decide) rfl (lenOf pd41 rfl) rfl rfl (Nat.le_of_eq rfl) d_prog_3_m4_59 rfl (by decide) (by decide) (by decide) (by decide) (kr fun T h406 xr X z407 q408 => ?_)
    obtain ⟨a409, rfl, K410, F411, F412, F413, F414, F415⟩ := q408
    have F416 : Sb Z h406 a248 a409 (((((([] : List Int32) ++ [(106 : Int32), (97 : Int32), (118 : Int32), (97 : Int32), (32 : Int32), (45 : Int32), (106 : Int32), (97 : Int32), (114 : Int32), (32 : Int32), (99 : Int32), (111 : Int32), (109 : Int32), (112 : Int32), (101 : Int32), (110 : Int32), (100 : Int32), (105 : Int32), (111 : Int32), (46 : Int32), (106 : Int32), (97 : Int32), (114 : Int32), (32 : Int32)]) ++ cs) ++ [(32 : Int32)]) ++ ((([] : List Int32) ++ os) ++ [(32 : Int32)])) ++ [(91 : Int32), (45 : Int32), (45 : Int32), (115 : Int32), (101 : Int32), (116 : Int32), (32 : Int32), (75 : Int32), (69 : Int32), (89 : Int32), (61 : Int32), (86 : Int32), (65 : Int32), (76 : Int32), (85 : Int32), (69 : Int32), (93 : Int32), (46 : Int32), (46 : Int32), (46 : Int32), (32 : Int32)]) 70 := sbc F411 rfl (by unfold grow; simp only [List.length_append, List.length_cons, List.length_nil]; split <;> omega)
    refine W.aloadN (pc' := 63) X d_prog_3_m4_62 rfl rfl rfl ?_
    have F417 := (F404.keep K410)
    have F418 := ((((((((((((((((P2.keep K173 nin0 nin0).keep K187 (ninS (Nat.ne_of_lt (Nat.lt_of_lt_of_le P2.lt (Nat.le_trans (Nat.le_refl _) g174))) nin0) (ninS (Nat.ne_of_lt (Nat.lt_of_lt_of_le P2.ltb (Nat.le_trans (Nat.le_refl _) g174))) nin0)).keep K198 (ninS (Nat.ne_of_lt (Nat.lt_of_lt_of_le P2.lt (Nat.le_trans (Nat.le_refl _) g174))) (ninS (Nat.ne_of_lt (Nat.lt_of_lt_of_le P2.lt (Nat.le_trans K173.1 g188))) nin0)) (ninS (Nat.ne_of_lt (Nat.lt_of_lt_of_le P2.ltb (Nat.le_trans (Nat.le_refl _) g174))) (ninS (Nat.ne_of_lt (Nat.lt_of_lt_of_le P2.ltb (Nat.le_trans K173.1 g188))) nin0))).keep K207 nin0 nin0).keep K225 (ninS (Nat.ne_of_lt (Nat.lt_of_lt_of_le P2.lt (Nat.le_trans (Nat.le_refl _) g174))) (ninS (F202 _ (Nat.lt_of_lt_of_le P2.lt (Nat.le_trans K173.1 K187.1)) (Nat.ne_of_lt (Nat.lt_of_lt_of_le P2.lt (Nat.le_trans K173.1 g188)))) nin0)) (ninS (Nat.ne_of_lt (Nat.lt_of_lt_of_le P2.ltb (Nat.le_trans (Nat.le_refl _) g174))) (ninS (F202 _ (Nat.lt_of_lt_of_le P2.ltb (Nat.le_trans K173.1 K187.1)) (Nat.ne_of_lt (Nat.lt_of_lt_of_le P2.ltb (Nat.le_trans K173.1 g188)))) nin0))).keep K239 nin0 nin0).keep K249 nin0 nin0).keep K263 (ninS (Nat.ne_of_lt (Nat.lt_of_lt_of_le P2.lt (Nat.le_trans (Nat.le_trans (Nat.le_trans (Nat.le_trans (Nat.le_trans (Nat.le_trans K173.1 K187.1) K198.1) K207.1) K225.1) K239.1) g250))) nin0) (ninS (Nat.ne_of_lt (Nat.lt_of_lt_of_le P2.ltb (Nat.le_trans (Nat.le_trans (Nat.le_trans (Nat.le_trans (Nat.le_trans (Nat.le_trans K173.1 K187.1) K198.1) K207.1) K225.1) K239.1) g250))) nin0)).keep K270 nin0 nin0).keep K298 (ninS (Nat.ne_of_lt (Nat.lt_of_lt_of_le P2.lt (Nat.le_trans (Nat.le_trans (Nat.le_trans (Nat.le_trans (Nat.le_trans (Nat.le_trans K173.1 K187.1) K198.1) K207.1) K225.1) K239.1) g250))) (ninS (Nat.ne_of_lt (Nat.lt_of_lt_of_le P2.lt (Nat.le_trans (Nat.le_trans (Nat.le_trans (Nat.le_trans (Nat.le_trans (Nat.le_trans (Nat.le_trans K173.1 K187.1) K198.1) K207.1) K225.1) K239.1) K249.1) g264))) nin0)) (ninS (Nat.ne_of_lt (Nat.lt_of_lt_of_le P2.ltb (Nat.le_trans (Nat.le_trans (Nat.le_trans (Nat.le_trans (Nat.le_trans (Nat.le_trans K173.1 K187.1) K198.1) K207.1) K225.1) K239.1) g250))) (ninS (Nat.ne_of_lt (Nat.lt_of_lt_of_le P2.ltb (Nat.le_trans (Nat.le_trans (Nat.le_trans (Nat.le_trans (Nat.le_trans (Nat.le_trans (Nat.le_trans K173.1 K187.1) K198.1) K207.1) K225.1) K239.1) K249.1) g264))) nin0))).keep K311 (ninS (Nat.ne_of_lt (Nat.lt_of_lt_of_le P2.lt (Nat.le_trans (Nat.le_trans (Nat.le_trans (Nat.le_trans (Nat.le_trans (Nat.le_trans K173.1 K187.1) K198.1) K207.1) K225.1) K239.1) g250))) (ninS (F302 _ (Nat.lt_of_lt_of_le P2.lt (Nat.le_trans (Nat.le_trans (Nat.le_trans (Nat.le_trans (Nat.le_trans (Nat.le_trans (Nat.le_trans (Nat.le_trans K173.1 K187.1) K198.1) K207.1) K225.1) K239.1) K249.1) K263.1) K270.1)) (Nat.ne_of_lt (Nat.lt_of_lt_of_le P2.lt (Nat.le_trans (Nat.le_trans (Nat.le_trans (Nat.le_trans (Nat.le_trans (Nat.le_trans (Nat.le_trans K173.1 K187.1) K198.1) K207.1) K225.1) K239.1) K249.1) g264)))) nin0)) (ninS (Nat.ne_of_lt (Nat.lt_of_lt_of_le P2.ltb (Nat.le_trans (Nat.le_trans (Nat.le_trans (Nat.le_trans (Nat.le_trans (Nat.le_trans K173.1 K187.1) K198.1) K207.1) K225.1) K239.1) g250))) (ninS (F302 _ (Nat.lt_of_lt_of_le P2.ltb (Nat.le_trans (Nat.le_trans (Nat.le_trans (Nat.le_trans (Nat.le_trans (Nat.le_trans (Nat.le_trans (Nat.le_trans K173.1 K187.1) K198.1) K207.1) K225.1) K239.1) K249.1) K263.1) K270.1)) (Nat.ne_of_lt (Nat.lt_of_lt_of_le P2.ltb (Nat.le_trans (Nat.le_trans (Nat.le_trans (Nat.le_trans (Nat.le_trans (Nat.le_trans (Nat.le_trans K173.1 K187.1) K198.1) K207.1) K225.1) K239.1) K249.1) g264)))) nin0))).keep K320 nin0 nin0).keep K352 (ninS (Nat.ne_of_lt (Nat.lt_of_lt_of_le P2.lt (Nat.le_trans (Nat.le_trans (Nat.le_trans (Nat.le_trans (Nat.le_trans (Nat.le_trans K173.1 K187.1) K198.1) K207.1) K225.1) K239.1) g250))) (ninS (F315 _ (Nat.lt_of_lt_of_le P2.lt (Nat.le_trans (Nat.le_trans (Nat.le_trans (Nat.le_trans (Nat.le_trans (Nat.le_trans (Nat.le_trans (Nat.le_trans (Nat.le_trans K173.1 K187.1) K198.1) K207.1) K225.1) K239.1) K249.1) K263.1) K270.1) K298.1)) (F302 _ (Nat.lt_of_lt_of_le P2.lt (Nat.le_trans (Nat.le_trans (Nat.le_trans (Nat.le_trans (Nat.le_trans (Nat.le_trans (Nat.le_trans (Nat.le_trans K173.1 K187.1) K198.1) K207.1) K225.1) K239.1) K249.1) K263.1) K270.1)) (Nat.ne_of_lt (Nat.lt_of_lt_of_le P2.lt (Nat.le_trans (Nat.le_trans (Nat.le_trans (Nat.le_trans (Nat.le_trans (Nat.le_trans (Nat.le_trans K173.1 K187.1) K198.1) K207.1) K225.1) K239.1) K249.1) g264))))) nin0)) (ninS (Nat.ne_of_lt (Nat.lt_of_lt_of_le P2.ltb (Nat.le_trans (Nat.le_trans (Nat.le_trans (Nat.le_trans (Nat.le_trans (Nat.le_trans K173.1 K187.1) K198.1) K207.1) K225.1) K239.1) g250))) (ninS (F315 _ (Nat.lt_of_lt_of_le P2.ltb (Nat.le_trans (Nat.le_trans (Nat.le_trans (Nat.le_trans (Nat.le_trans (Nat.le_trans (Nat.le_trans (Nat.le_trans (Nat.le_trans K173.1 K187.1) K198.1) K207.1) K225.1) K239.1) K249.1) K263.1) K270.1) K298.1)) (F302 _ (Nat.lt_of_lt_of_le P2.ltb (Nat.le_trans (Nat.le_trans (Nat.le_trans (Nat.le_trans (Nat.le_trans (Nat.le_trans (Nat.le_trans (Nat.le_trans K173.1 K187.1) K198.1) K207.1) K225.1) K239.1) K249.1) K263.1) K270.1)) (Nat.ne_of_lt (Nat.lt_of_lt_of_le P2.ltb (Nat.le_trans (Nat.le_trans (Nat.le_trans (Nat.le_trans (Nat.le_trans (Nat.le_trans (Nat.le_trans K173.1 K187.1) K198.1) K207.1) K225.1) K239.1) K249.1) g264))))) nin0))).keep K365 (ninS (Nat.ne_of_lt (Nat.lt_of_lt_of_le P2.lt (Nat.le_trans (Nat.le_trans (Nat.le_trans (Nat.le_trans (Nat.le_trans (Nat.le_trans K173.1 K187.1) K198.1) K207.1) K225.1) K239.1) g250))) (ninS (F356 _ (Nat.lt_of_lt_of_le P2.lt (Nat.le_trans (Nat.le_trans (Nat.le_trans (Nat.le_trans (Nat.le_trans (Nat.le_trans (Nat.le_trans (Nat.le_trans (Nat.le_trans (Nat.le_trans (Nat.le_trans K173.1 K187.1) K198.1) K207.1) K225.1) K239.1) K249.1) K263.1) K270.1) K298.1) K311.1) K320.1)) (F315 _ (Nat.lt_of_lt_of_le P2.lt (Nat.le_trans (Nat.le_trans (Nat.le_trans (Nat.le_trans (Nat.le_trans (Nat.le_trans (Nat.le_trans (Nat.le_trans (Nat.le_trans K173.1 K187.1) K198.1) K207.1) K225.1) K239.1) K249.1) K263.1) K270.1) K298.1)) (F302 _ (Nat.lt_of_lt_of_le P2.lt (Nat.le_trans (Nat.le_trans (Nat.le_trans (Nat.le_trans (Nat.le_trans (Nat.le_trans (Nat.le_trans (Nat.le_trans K173.1 K187.1) K198.1) K207.1) K225.1) K239.1) K249.1) K263.1) K270.1)) (Nat.ne_of_lt (Nat.lt_of_lt_of_le P2.lt (Nat.le_trans (Nat.le_trans (Nat.le_trans (Nat.le_trans (Nat.le_trans (Nat.le_trans (Nat.le_trans K173.1 K187.1) K198.1) K207.1) K225.1) K239.1) K249.1) g264)))))) nin0)) (ninS (Nat.ne_of_lt (Nat.lt_of_lt_of_le P2.ltb (Nat.le_trans (Nat.le_trans (Nat.le_trans (Nat.le_trans (Nat.le_trans (Nat.le_trans K173.1 K187.1) K198.1) K207.1) K225.1) K239.1) g250))) (ninS (F356 _ (Nat.lt_of_lt_of_le P2.ltb (Nat.le_trans (Nat.le_trans (Nat.le_trans (Nat.le_trans (Nat.le_trans (Nat.le_trans (Nat.le_trans (Nat.le_trans (Nat.le_trans (Nat.le_trans (Nat.le_trans K173.1 K187.1) K198.1) K207.1) K225.1) K239.1) K249.1) K263.1) K270.1) K298.1) K311.1) K320.1)) (F315 _ (Nat.lt_of_lt_of_le P2.ltb (Nat.le_trans (Nat.le_trans (Nat.le_trans (Nat.le_trans (Nat.le_trans (Nat.le_trans (Nat.le_trans (Nat.le_trans (Nat.le_trans K173.1 K187.1) K198.1) K207.1) K225.1) K239.1) K249.1) K263.1) K270.1) K298.1)) (F302 _ (Nat.lt_of_lt_of_le P2.ltb (Nat.le_trans (Nat.le_trans (Nat.le_trans (Nat.le_trans (Nat.le_trans (Nat.le_trans (Nat.le_trans (Nat.le_trans K173.1 K187.1) K198.1) K207.1) K225.1) K239.1) K249.1) K263.1) K270.1)) (Nat.ne_of_lt (Nat.lt_of_lt_of_le P2.ltb (Nat.le_trans (Nat.le_trans (Nat.le_trans (Nat.le_trans (Nat.le_trans (Nat.le_trans (Nat.le_trans K173.1 K187.1) K198.1) K207.1) K225.1) K239.1) K249.1) g264)))))) nin0))).keep K374 nin0 nin0).keep K410 (ninS (Nat.ne_of_lt (Nat.lt_of_lt_of_le P2.lt (Nat.le_trans (Nat.le_trans (Nat.le_trans (Nat.le_trans (Nat.le_trans (Nat.le_trans K173.1 K187.1) K198.1) K207.1) K225.1) K239.1) g250))) (ninS (F369 _ (Nat.lt_of_lt_of_le P2.lt (Nat.le_trans (Nat.le_trans (Nat.le_trans (Nat.le_trans (Nat.le_trans (Nat.le_trans (Nat.le_trans (Nat.le_trans (Nat.le_trans (Nat.le_trans (Nat.le_trans (Nat.le_trans K173.1 K187.1) K198.1) K207.1) K225.1) K239.1) K249.1) K263.1) K270.1) K298.1) K311.1) K320.1) K352.1)) (F356 _ (Nat.lt_of_lt_of_le P2.lt (Nat.le_trans (Nat.le_trans (Nat.le_trans (Nat.le_trans (Nat.le_trans (Nat.le_trans (Nat.le_trans (Nat.le_trans (Nat.le_trans (Nat.le_trans (Nat.le_trans K173.1 K187.1) K198.1) K207.1) K225.1) K239.1) K249.1) K263.1) K270.1) K298.1) K311.1) K320.1)) (F315 _ (Nat.lt_of_lt_of_le P2.lt (Nat.le_trans (Nat.le_trans (Nat.le_trans (Nat.le_trans (Nat.le_trans (Nat.le_trans (Nat.le_trans (Nat.le_trans (Nat.le_trans K173.1 K187.1) K198.1) K207.1) K225.1) K239.1) K249.1) K263.1) K270.1) K298.1)) (F302 _ (Nat.lt_of_lt_of_le P2.lt (Nat.le_trans (Nat.le_trans (Nat.le_trans (Nat.le_trans (Nat.le_trans (Nat.le_trans (Nat.le_trans (Nat.le_trans K173.1 K187.1) K198.1) K207.1) K225.1) K239.1) K249.1) K263.1) K270.1)) (Nat.ne_of_lt (Nat.lt_of_lt_of_le P2.lt (Nat.le_trans (Nat.le_trans (Nat.le_trans (Nat.le_trans (Nat.le_trans (Nat.le_trans (Nat.le_trans K173.1 K187.1) K198.1) K207.1) K225.1) K239.1) K249.1) g264))))))) nin0)) (ninS (Nat.ne_of_lt (Nat.lt_of_lt_of_le P2.ltb (Nat.le_trans (Nat.le_trans (Nat.le_trans (Nat.le_trans (Nat.le_trans (Nat.le_trans K173.1 K187.1) K198.1) K207.1) K225.1) K239.1) g250))) (ninS (F369 _ (Nat.lt_of_lt_of_le P2.ltb (Nat.le_trans (Nat.le_trans (Nat.le_trans (Nat.le_trans (Nat.le_trans (Nat.le_trans (Nat.le_trans (Nat.le_trans (Nat.le_trans (Nat.le_trans (Nat.le_trans (Nat.le_trans K173.1 K187.1) K198.1) K207.1) K225.1) K239.1) K249.1) K263.1) K270.1) K298.1) K311.1) K320.1) K352.1)) (F356 _ (Nat.lt_of_lt_of_le P2.ltb (Nat.le_trans (Nat.le_trans (Nat.le_trans (Nat.le_trans (Nat.le_trans (Nat.le_trans (Nat.le_trans (Nat.le_trans (Nat.le_trans (Nat.le_trans (Nat.le_trans K173.1 K187.1) K198.1) K207.1) K225.1) K239.1) K249.1) K263.1) K270.1) K298.1) K311.1) K320.1)) (F315 _ (Nat.lt_of_lt_of_le P2.ltb (Nat.le_trans (Nat.le_trans (Nat.le_trans (Nat.le_trans (Nat.le_trans (Nat.le_trans (Nat.le_trans (Nat.le_trans (Nat.le_trans K173.1 K187.1) K198.1) K207.1) K225.1) K239.1) K249.1) K263.1) K270.1) K298.1)) (F302 _ (Nat.lt_of_lt_of_le P2.ltb (Nat.le_trans (Nat.le_trans (Nat.le_trans (Nat.le_trans (Nat.le_trans (Nat.le_trans (Nat.le_trans (Nat.le_trans K173.1 K187.1) K198.1) K207.1) K225.1) K239.1) K249.1) K263.1) K270.1)) (Nat.ne_of_lt (Nat.lt_of_lt_of_le P2.ltb (Nat.le_trans (Nat.le_trans (Nat.le_trans (Nat.le_trans (Nat.le_trans (Nat.le_trans (Nat.le_trans K173.1 K187.1) K198.1) K207.1) K225.1) K239.1) K249.1) g264))))))) nin0)))
    refine W.callV (pc' := 66) (W := 0) (argsL := [(.ref u)]) (st := []) (k' := 22) (n' := 2858) (a := a248) X (c_app (a := a248) (v := a409) (s := u) (t := ub) (cs := (((((([] : List Int32) ++ [(106 : Int32), (97 : Int32), (118 : Int32), (97 : Int32), (32 : Int32), (45 : Int32), (106 : Int32), (97 : Int32), (114 : Int32), (32 : Int32), (99 : Int32), (111 : Int32), (109 : Int32), (112 : Int32), (101 : Int32), (110 : Int32), (100 : Int32), (105 : Int32), (111 : Int32), (46 : Int32), (106 : Int32), (97 : Int32), (114 : Int32), (32 : Int32)]) ++ cs) ++ [(32 : Int32)]) ++ ((([] : List Int32) ++ os) ++ [(32 : Int32)])) ++ [(91 : Int32), (45 : Int32), (45 : Int32), (115 : Int32), (101 : Int32), (116 : Int32), (32 : Int32), (75 : Int32), (69 : Int32), (89 : Int32), (61 : Int32), (86 : Int32), (65 : Int32), (76 : Int32), (85 : Int32), (69 : Int32), (93 : Int32), (46 : Int32), (46 : Int32), (46 : Int32), (32 : Int32)])) (ds := ts) (cap := 70) G X.en F416 F418 (by unfold grow; simp only [List.length_append, List.length_cons, List.length_nil]; split <;> omega) g251 nb392 F412 F413) (w60 G) (w61 G) (nfM (z' := (⟨"java/lang/StringBuilder", "append", "(Ljava/lang/String;)Ljava/lang/StringBuilder;"⟩ : MethodName)) rfl (w63 G)) (w63 G) (w62 G) F417 (w64 G) (w43 G) (by decide) (by decide) (by decide) rfl (lenOf pd41 rfl) rfl rfl (Nat.le_of_eq rfl) d_prog_3_m4_63 rfl (by decide) (by decide) (by decide) (by decide) (kr fun T h419 xr X z420 q421 => ?_)
    obtain ⟨a422, rfl, K423, F424, F425, F426, F427, F428⟩ := q421
    have F429 : Sb Z h419 a248 a422 ((((((([] : List Int32) ++ [(106 : Int32), (97 : Int32), (118 : Int32), (97 : Int32), (32 : Int32), (45 : Int32), (106 : Int32), (97 : Int32), (114 : Int32), (32 : Int32), (99 : Int32), (111 : Int32), (109 : Int32), (112 : Int32), (101 : Int32), (110 : Int32), (100 : Int32), (105 : Int32), (111 : Int32), (46 : Int32), (106 : Int32), (97 : Int32), (114 : Int32), (32 : Int32)]) ++ cs) ++ [(32 : Int32)]) ++ ((([] : List Int32) ++ os) ++ [(32 : Int32)])) ++ [(91 : Int32), (45 : Int32), (45 : Int32), (115 : Int32), (101 : Int32), (116 : Int32), (32 : Int32), (75 : Int32), (69 : Int32), (89 : Int32), (61 : Int32), (86 : Int32), (65 : Int32), (76 : Int32), (85 : Int32), (69 : Int32), (93 : Int32), (46 : Int32), (46 : Int32), (46 : Int32), (32 : Int32)]) ++ ts) 70 := sbc F424 rfl (by unfold grow; simp only [List.length_append, List.length_cons, List.length_nil]; split <;> omega)
    have F430 := (F417.keep K423)
    have en431 := X.en
    refine W.callV (pc' := 69) (W := 0) (argsL := []) (st := []) (k' := 24) (n' := 3152) (a := a248) X (c_toS (a := a248) (v := a422) (cs := ((((((([] : List Int32) ++ [(106 : Int32), (97 : Int32), (118 : Int32), (97 : Int32), (32 : Int32), (45 : Int32), (106 : Int32), (97 : Int32), (114 : Int32), (32 : Int32), (99 : Int32), (111 : Int32), (109 : Int32), (112 : Int32), (101 : Int32), (110 : Int32), (100 : Int32), (105 : Int32), (111 : Int32), (46 : Int32), (106 : Int32), (97 : Int32), (114 : Int32), (32 : Int32)]) ++ cs) ++ [(32 : Int32)]) ++ ((([] : List Int32) ++ os) ++ [(32 : Int32)])) ++ [(91 : Int32), (45 : Int32), (45 : Int32), (115 : Int32), (101 : Int32), (116 : Int32), (32 : Int32), (75 : Int32), (69 : Int32), (89 : Int32), (61 : Int32), (86 : Int32), (65 : Int32), (76 : Int32), (85 : Int32), (69 : Int32), (93 : Int32), (46 : Int32), (46 : Int32), (46 : Int32), (32 : Int32)]) ++ ts)) (cap := 70) G X.en F429 (by simp only [List.length_append, List.length_cons, List.length_nil]; omega) (by simp only [List.length_append, List.length_cons, List.length_nil]; omega)) (w143 G) (w144 G) (nfM (z' := (⟨"java/lang/StringBuilder", "append", "(Ljava/lang/String;)Ljava/lang/StringBuilder;"⟩ : MethodName)) rfl (w63 G)) (w146 G) (w145 G) F430 (w147 G) (w43 G) (by decide) (by decide) (by decide) rfl (lenOf pd42 rfl) rfl rfl (Nat.le_of_eq rfl) d_prog_3_m4_66 rfl (by decide) (by decide) (by decide) (by decide) (kr fun T h432 xr X z433 q434 => ?_)
    obtain ⟨a435, a436, rfl, K437, g438, g439, F440⟩ := q434
    have g441 : Z.heap.size ≤ a435 := Nat.le_trans (Nat.le_trans hz0 (Nat.le_trans (Nat.le_trans (Nat.le_trans (Nat.le_trans (Nat.le_trans (Nat.le_trans (Nat.le_trans (Nat.le_trans (Nat.le_trans (Nat.le_trans (Nat.le_trans (Nat.le_trans (Nat.le_trans (Nat.le_trans (Nat.le_trans (Nat.le_trans K173.1 K187.1) K198.1) K207.1) K225.1) K239.1) K249.1) K263.1) K270.1) K298.1) K311.1) K320.1) K352.1) K365.1) K374.1) K410.1) K423.1)) g438
    have nb442 : ¬ B376 a435 := fun q => absurd (en431.2 _ q) (Nat.not_lt.mpr g438)
    have g443 : Z.heap.size ≤ a436 := Nat.le_trans (Nat.le_trans hz0 (Nat.le_trans (Nat.le_trans (Nat.le_trans (Nat.le_trans (Nat.le_trans (Nat.le_trans (Nat.le_trans (Nat.le_trans (Nat.le_trans (Nat.le_trans (Nat.le_trans (Nat.le_trans (Nat.le_trans (Nat.le_trans (Nat.le_trans (Nat.le_trans K173.1 K187.1) K198.1) K207.1) K225.1) K239.1) K249.1) K263.1) K270.1) K298.1) K311.1) K320.1) K352.1) K365.1) K374.1) K410.1) K423.1)) g439
    have nb444 : ¬ B376 a436 := fun q => absurd (en431.2 _ q) (Nat.not_lt.mpr g439)
    exact W.areturn X d_prog_3_m4_69 rfl rfl rfl rfl (by decide) (by decide) ⟨_, rfl, ⟨a435, a436, rfl, (Keep.trans (Keep.trans (Keep.trans (Keep.trans (Keep.trans (Keep.trans (Keep.trans (Keep.trans (Keep.trans (Keep.trans (Keep.trans (Keep.trans (Keep.trans (Keep.trans (Keep.trans (Keep.trans (Keep.trans (Keep.trans (Keep.refl h []) K173 all0) K187 (allS (Or.inr (Nat.le_trans (Nat.le_refl _) g174)) all0)) K198 (allS (Or.inr (Nat.le_trans (Nat.le_refl _) g174)) (allS (Or.inr (Nat.le_trans K173.1 g188)) all0))) K207 all0) K225 (allS (Or.inr (Nat.le_trans (Nat.le_refl _) g174)) (allS (F203.elim (fun q => by rw [q]; exact (Or.inr (Nat.le_trans K173.1 g188))) (fun q => Or.inr (Nat.le_trans (Nat.le_trans K173.1 K187.1) q))) all0))) K239 all0) K249 all0) K263 (allS (Or.inr (Nat.le_trans (Nat.le_trans (Nat.le_trans (Nat.le_trans (Nat.le_trans (Nat.le_trans K173.1 K187.1) K198.1) K207.1) K225.1) K239.1) g250)) all0)) K270 all0) K298 (allS (Or.inr (Nat.le_trans (Nat.le_trans (Nat.le_trans (Nat.le_trans (Nat.le_trans (Nat.le_trans K173.1 K187.1) K198.1) K207.1) K225.1) K239.1) g250)) (allS (Or.inr (Nat.le_trans (Nat.le_trans (Nat.le_trans (Nat.le_trans (Nat.le_trans (Nat.le_trans (Nat.le_trans K173.1 K187.1) K198.1) K207.1) K225.1) K239.1) K249.1) g264)) all0))) K311 (allS (Or.inr (Nat.le_trans (Nat.le_trans (Nat.le_trans (Nat.le_trans (Nat.le_trans (Nat.le_trans K173.1 K187.1) K198.1) K207.1) K225.1) K239.1) g250)) (allS (F303.elim (fun q => by rw [q]; exact (Or.inr (Nat.le_trans (Nat.le_trans (Nat.le_trans (Nat.le_trans (Nat.le_trans (Nat.le_trans (Nat.le_trans K173.1 K187.1) K198.1) K207.1) K225.1) K239.1) K249.1) g264))) (fun q => Or.inr (Nat.le_trans (Nat.le_trans (Nat.le_trans (Nat.le_trans (Nat.le_trans (Nat.le_trans (Nat.le_trans (Nat.le_trans (Nat.le_trans K173.1 K187.1) K198.1) K207.1) K225.1) K239.1) K249.1) K263.1) K270.1) q))) all0))) K320 all0) K352 (allS (Or.inr (Nat.le_trans (Nat.le_trans (Nat.le_trans (Nat.le_trans (Nat.le_trans (Nat.le_trans K173.1 K187.1) K198.1) K207.1) K225.1) K239.1) g250)) (allS (F316.elim (fun q => by rw [q]; exact (F303.elim (fun q => by rw [q]; exact (Or.inr (Nat.le_trans (Nat.le_trans (Nat.le_trans (Nat.le_trans (Nat.le_trans (Nat.le_trans (Nat.le_trans K173.1 K187.1) K198.1) K207.1) K225.1) K239.1) K249.1) g264))) (fun q => Or.inr (Nat.le_trans (Nat.le_trans (Nat.le_trans (Nat.le_trans (Nat.le_trans (Nat.le_trans (Nat.le_trans (Nat.le_trans (Nat.le_trans K173.1 K187.1) K198.1) K207.1) K225.1) K239.1) K249.1) K263.1) K270.1) q)))) (fun q => Or.inr (Nat.le_trans (Nat.le_trans (Nat.le_trans (Nat.le_trans (Nat.le_trans (Nat.le_trans (Nat.le_trans (Nat.le_trans (Nat.le_trans (Nat.le_trans K173.1 K187.1) K198.1) K207.1) K225.1) K239.1) K249.1) K263.1) K270.1) K298.1) q))) all0))) K365 (allS (Or.inr (Nat.le_trans (Nat.le_trans (Nat.le_trans (Nat.le_trans (Nat.le_trans (Nat.le_trans K173.1 K187.1) K198.1) K207.1) K225.1) K239.1) g250)) (allS (F357.elim (fun q => by rw [q]; exact (F316.elim (fun q => by rw [q]; exact (F303.elim (fun q => by rw [q]; exact (Or.inr (Nat.le_trans (Nat.le_trans (Nat.le_trans (Nat.le_trans (Nat.le_trans (Nat.le_trans (Nat.le_trans K173.1 K187.1) K198.1) K207.1) K225.1) K239.1) K249.1) g264))) (fun q => Or.inr (Nat.le_trans (Nat.le_trans (Nat.le_trans (Nat.le_trans (Nat.le_trans (Nat.le_trans (Nat.le_trans (Nat.le_trans (Nat.le_trans K173.1 K187.1) K198.1) K207.1) K225.1) K239.1) K249.1) K263.1) K270.1) q)))) (fun q => Or.inr (Nat.le_trans (Nat.le_trans (Nat.le_trans (Nat.le_trans (Nat.le_trans (Nat.le_trans (Nat.le_trans (Nat.le_trans (Nat.le_trans (Nat.le_trans K173.1 K187.1) K198.1) K207.1) K225.1) K239.1) K249.1) K263.1) K270.1) K298.1) q)))) (fun q => Or.inr (Nat.le_trans (Nat.le_trans (Nat.le_trans (Nat.le_trans (Nat.le_trans (Nat.le_trans (Nat.le_trans (Nat.le_trans (Nat.le_trans (Nat.le_trans (Nat.le_trans (Nat.le_trans K173.1 K187.1) K198.1) K207.1) K225.1) K239.1) K249.1) K263.1) K270.1) K298.1) K311.1) K320.1) q))) all0))) K374 all0) K410 (allS (Or.inr (Nat.le_trans (Nat.le_trans (Nat.le_trans (Nat.le_trans (Nat.le_trans (Nat.le_trans K173.1 K187.1) K198.1) K207.1) K225.1) K239.1) g250)) (allS (F370.elim (fun q => by rw [q]; exact (F357.elim (fun q => by rw [q]; exact (F316.elim (fun q => by rw [q]; exact (F303.elim (fun q => by rw [q]; exact (Or.inr (Nat.le_trans (Nat.le_trans (Nat.le_trans (Nat.le_trans (Nat.le_trans (Nat.le_trans (Nat.le_trans K173.1 K187.1) K198.1) K207.1) K225.1) K239.1) K249.1) g264))) (fun q => Or.inr (Nat.le_trans (Nat.le_trans (Nat.le_trans (Nat.le_trans (Nat.le_trans (Nat.le_trans (Nat.le_trans (Nat.le_trans (Nat.le_trans K173.1 K187.1) K198.1) K207.1) K225.1) K239.1) K249.1) K263.1) K270.1) q)))) (fun q => Or.inr (Nat.le_trans (Nat.le_trans (Nat.le_trans (Nat.le_trans (Nat.le_trans (Nat.le_trans (Nat.le_trans (Nat.le_trans (Nat.le_trans (Nat.le_trans K173.1 K187.1) K198.1) K207.1) K225.1) K239.1) K249.1) K263.1) K270.1) K298.1) q)))) (fun q => Or.inr (Nat.le_trans (Nat.le_trans (Nat.le_trans (Nat.le_trans (Nat.le_trans (Nat.le_trans (Nat.le_trans (Nat.le_trans (Nat.le_trans (Nat.le_trans (Nat.le_trans (Nat.le_trans K173.1 K187.1) K198.1) K207.1) K225.1) K239.1) K249.1) K263.1) K270.1) K298.1) K311.1) K320.1) q)))) (fun q => Or.inr (Nat.le_trans (Nat.le_trans (Nat.le_trans (Nat.le_trans (Nat.le_trans (Nat.le_trans (Nat.le_trans (Nat.le_trans (Nat.le_trans (Nat.le_trans (Nat.le_trans (Nat.le_trans (Nat.le_trans K173.1 K187.1) K198.1) K207.1) K225.1) K239.1) K249.1) K263.1) K270.1) K298.1) K311.1) K320.1) K352.1) q))) all0))) K423 (allS (Or.inr (Nat.le_trans (Nat.le_trans (Nat.le_trans (Nat.le_trans (Nat.le_trans (Nat.le_trans K173.1 K187.1) K198.1) K207.1) K225.1) K239.1) g250)) (allS (F415.elim (fun q => by rw [q]; exact (F370.elim (fun q => by rw [q]; exact (F357.elim (fun q => by rw [q]; exact (F316.elim (fun q => by rw [q]; exact (F303.elim (fun q => by rw [q]; exact (Or.inr (Nat.le_trans (Nat.le_trans (Nat.le_trans (Nat.le_trans (Nat.le_trans (Nat.le_trans (Nat.le_trans K173.1 K187.1) K198.1) K207.1) K225.1) K239.1) K249.1) g264))) (fun q => Or.inr (Nat.le_trans (Nat.le_trans (Nat.le_trans (Nat.le_trans (Nat.le_trans (Nat.le_trans (Nat.le_trans (Nat.le_trans (Nat.le_trans K173.1 K187.1) K198.1) K207.1) K225.1) K239.1) K249.1) K263.1) K270.1) q)))) (fun q => Or.inr (Nat.le_trans (Nat.le_trans (Nat.le_trans (Nat.le_trans (Nat.le_trans (Nat.le_trans (Nat.le_trans (Nat.le_trans (Nat.le_trans (Nat.le_trans K173.1 K187.1) K198.1) K207.1) K225.1) K239.1) K249.1) K263.1) K270.1) K298.1) q)))) (fun q => Or.inr (Nat.le_trans (Nat.le_trans (Nat.le_trans (Nat.le_trans (Nat.le_trans (Nat.le_trans (Nat.le_trans (Nat.le_trans (Nat.le_trans (Nat.le_trans (Nat.le_trans (Nat.le_trans K173.1 K187.1) K198.1) K207.1) K225.1) K239.1) K249.1) K263.1) K270.1) K298.1) K311.1) K320.1) q)))) (fun q => Or.inr (Nat.le_trans (Nat.le_trans (Nat.le_trans (Nat.le_trans (Nat.le_trans (Nat.le_trans (Nat.le_trans (Nat.le_trans (Nat.le_trans (Nat.le_trans (Nat.le_trans (Nat.le_trans (Nat.le_trans K173.1 K187.1) K198.1) K207.1) K225.1) K239.1) K249.1) K263.1) K270.1) K298.1) K311.1) K320.1) K352.1) q)))) (fun q => Or.inr (Nat.le_trans (Nat.le_trans (Nat.le_trans (Nat.le_trans (Nat.le_trans (Nat.le_trans (Nat.le_trans (Nat.le_trans (Nat.le_trans (Nat.le_trans (Nat.le_trans (Nat.le_trans (Nat.le_trans (Nat.le_trans (Nat.le_trans K173.1 K187.1) K198.1) K207.1) K225.1) K239.1) K249.1) K263.1) K270.1) K298.1) K311.1) K320.1) K352.1) K365.1) K374.1) q))) all0))) K437 all0), (Nat.le_trans (Nat.le_trans (Nat.le_trans (Nat.le_trans (Nat.le_trans (Nat.le_trans (Nat.le_trans (Nat.le_trans (Nat.le_trans (Nat.le_trans (Nat.le_trans (Nat.le_trans (Nat.le_trans (Nat.le_trans (Nat.le_trans (Nat.le_trans (Nat.le_trans K173.1 K187.1) K198.1) K207.1) K225.1) K239.1) K249.1) K263.1) K270.1) K298.1) K311.1) K320.1) K352.1) K365.1) K374.1) K410.1) K423.1) g438), (Nat.le_trans (Nat.le_trans (Nat.le_trans (Nat.le_trans (Nat.le_trans (Nat.le_trans (Nat.le_trans (Nat.le_trans (Nat.le_trans (Nat.le_trans (Nat.le_trans (Nat.le_trans (Nat.le_trans (Nat.le_trans (Nat.le_trans (Nat.le_trans (Nat.le_trans K173.1 K187.1) K198.1) K207.1) K225.1) K239.1) K249.1) K263.1) K270.1) K298.1) K311.1) K320.1) K352.1) K365.1) K374.1) K410.1) K423.1) g439), (strc F440 (by rw [syn, ho]))⟩⟩
abbrev c_use_q (Z : State) (zC : Int32) (fS : Value) (bO : Addr) (bN : Addr) (bA : Addr) (h : Heap) (B : Addr → Prop) (c cb o ob : Addr) (cs os : List Int32) (xR : Value) (h' : Heap) (B' : Addr → Prop) : Prop := ∃ (x : Addr) (t : Addr), xR = (.ref x) ∧ Keep h h' [] ∧ h.size ≤ x ∧ h.size ≤ t ∧ Str Z h' x t (useL cs os)
def c_use_rm : Room := { frames := 7, cells := 73, slots := 9142, locals := 107 }
set_option maxRecDepth 65536 in
set_option maxHeartbeats 40000000 in
theorem c_use {l : Launch} {Z : State} {a0 : Array Value} {zC : Int32} {fS : Value} {bO : Addr} {bN : Addr} {bA : Addr} {h : Heap} {B : Addr → Prop} {c cb o ob : Addr} {cs os : List Int32} (G : Gl Z a0 zC fS bO bN bA) (hE : En Z B h) (P0 : Str Z h c cb cs) (P1 : Str Z h o ob os) (P2 : cs.length ≤ 2) (P3 : os.length ≤ 2) : Con l Z consts_1 [] (⟨"com/example/compendio/compendio/cli/Arguments", "usageWithBook", "(Ljava/lang/String;Ljava/lang/String;)Ljava/lang/String;"⟩ : MethodName) prog_3_method_3_code 2 (some (.object "java/lang/String")) c_use_rm B h #[(.ref c), (.ref o)] (fun vR hR BR => ∃ xR, vR = some xR ∧ c_use_q Z zC fS bO bN bA h B c cb o ob cs os xR hR BR) := by
  have hz0 := hE.1.1
  refine Con.intro (ls := #[.val (.ref c), .val (.ref o)]) (plainFor_of_name pn43) G.2.1 hE (fun m => by first | rfl | (simp [entryFrame, mkF, argsToLocals, Value.category]; done) | rfl) ?_
  intro pP eE sS mM blw mth cC T hs X
  have hol := own_len P3
  refine W.new (pc' := 3) (k' := 1) (n' := 4) X (w41 G) (w42 G) (w43 G) d_prog_3_m3_0 rfl (by decide) (by decide) (by decide) (by decide) fun T h1 a2 X K3 g4 g5 nb6 E7 D8 => ?_
  have F9 : Fld Z h1 a2 "java/lang/AbstractStringBuilder" "value" "[B" .null := D8 (Or.inl (w56 G)) (ty := (.array .byte)) (by decide)
  have F10 : Fld Z h1 a2 "java/lang/AbstractStringBuilder" "coder" "B" (.int (0 : Int32)) := D8 (Or.inl (w58 G)) (ty := .byte) (by decide)
  have F11 : Fld Z h1 a2 "java/lang/AbstractStringBuilder" "count" "I" (.int (0 : Int32)) := D8 (Or.inl (w81 G)) (ty := .int) (by decide)
  refine W.dup (pc' := 4) X d_prog_3_m3_3 rfl rfl ?_
  have en12 := X.en
  refine W.callN (pc' := 7) (W := 1) (argsL := []) (st := [(.ref a2)]) (k' := 2) (n' := 20) (a := a2) X (c_sbNew (a := a2) (v0 := .null) (v1 := (.int (0 : Int32))) G X.en E7 F9 F10 F11 g5 nb6) rfl (w44 G) (w45 G) (w46 G) (w43 G) (by decide) (by decide) (by decide) rfl (lenOf pd40 rfl) rfl rfl (Nat.le_of_eq rfl) d_prog_3_m3_4 rfl (by decide) (by decide) (by decide) (by decide) (kv fun T h13 X z14 q15 => ?_)
  obtain ⟨a16, K17, g18, F19⟩ := q15
  have g20 : Z.heap.size ≤ a16 := Nat.le_trans (Nat.le_trans hz0 K3.1) g18
  have nb21 : ¬ B a16 := fun q => absurd (en12.2 _ q) (Nat.not_lt.mpr g18)
  refine W.ldcR (pc' := 9) (k' := 4) (n' := 52) (cap := 28) (cs := [(85 : Int32), (115 : Int32), (97 : Int32), (103 : Int32), (101 : Int32), (58 : Int32), (32 : Int32)]) X (by decide) (w59 G) (watoms G) G.2.1 ⟨by decide, by decide⟩ (by unfold Lat; decide) (by decide) d_prog_3_m3_7 (by decide) (by decide) rfl (by decide) (by decide) (by decide) (by decide) fun T h22 B26 a23 a27 X K24 zb25 S28 ne29 => ?_
  have nb30 : ¬ B26 a2 := fun q => (zb25 _ q).elim nb6 (fun r => absurd (Nat.lt_of_lt_of_le E7.lt K17.1) (Nat.not_lt.mpr r))
  have ne31 := ne29 _ nb30
  have nb32 : ¬ B26 a16 := fun q => (zb25 _ q).elim nb21 (fun r => absurd (Nat.lt_of_lt_of_le F19.ltb (Nat.le_refl _)) (Nat.not_lt.mpr r))
  have ne33 := ne29 _ nb32
  have F34 := ((E7.keep K17).keep K24)
  have F35 := (F19.keep K24 nin0 nin0)
  refine W.callV (pc' := 12) (W := 0) (argsL := [(.ref a23)]) (st := []) (k' := 5) (n' := 342) (a := a2) X (c_app (a := a2) (v := a16) (s := a23) (t := a27) (cs := ([] : List Int32)) (ds := [(85 : Int32), (115 : Int32), (97 : Int32), (103 : Int32), (101 : Int32), (58 : Int32), (32 : Int32)]) (cap := 16) G X.en F35 S28 (by unfold grow; simp only [List.length_append, List.length_cons, List.length_nil, syn_len]; split <;> omega) g5 nb30 g20 nb32) (w60 G) (w61 G) (nfM (z' := (⟨"java/lang/StringBuilder", "append", "(Ljava/lang/String;)Ljava/lang/StringBuilder;"⟩ : MethodName)) rfl (w63 G)) (w63 G) (w62 G) F34 (w64 G) (w43 G) (by decide) (by decide) (by decide) rfl (lenOf pd41 rfl) rfl rfl (Nat.le_of_eq rfl) d_prog_3_m3_9 rfl (by decide) (by decide) (by decide) (by decide) (kr fun T h36 xr X z37 q38 => ?_)
  obtain ⟨a39, rfl, K40, F41, F42, F43, F44, F45⟩ := q38
  have F46 : Sb Z h36 a2 a39 (([] : List Int32) ++ [(85 : Int32), (115 : Int32), (97 : Int32), (103 : Int32), (101 : Int32), (58 : Int32), (32 : Int32)]) 16 := sbc F41 rfl (by unfold grow; simp only [List.length_append, List.length_cons, List.length_nil, syn_len]; split <;> omega)
  refine W.aloadN (pc' := 13) X d_prog_3_m3_12 rfl rfl rfl ?_
  refine W.aloadN (pc' := 14) X d_prog_3_m3_13 rfl rfl rfl ?_
  refine W.ldcR (pc' := 16) (k' := 7) (n' := 390) (cap := 44) (cs := [(60 : Int32), (116 : Int32), (101 : Int32), (114 : Int32), (109 : Int32), (32 : Int32), (102 : Int32), (105 : Int32), (108 : Int32), (101 : Int32), (62 : Int32)]) X (by decide) (w107 G) (watoms G) G.2.1 ⟨by decide, by decide⟩ (by unfold Lat; decide) (by decide) d_prog_3_m3_14 (by decide) (by decide) rfl (by decide) (by decide) (by decide) (by decide) fun T h47 B51 a48 a52 X K49 zb50 S53 ne54 => ?_
  have nb55 : ¬ B51 a2 := fun q => (zb50 _ q).elim nb30 (fun r => absurd (Nat.lt_of_lt_of_le E7.lt (Nat.le_trans (Nat.le_trans K17.1 K24.1) K40.1)) (Nat.not_lt.mpr r))
  have ne56 := ne54 _ nb55
  have nb57 : ¬ B51 a16 := fun q => (zb50 _ q).elim nb32 (fun r => absurd (Nat.lt_of_lt_of_le F19.ltb (Nat.le_trans K24.1 K40.1)) (Nat.not_lt.mpr r))
  have ne58 := ne54 _ nb57
  have nb59 : ¬ B51 a39 := fun q => (zb50 _ q).elim F43 (fun r => absurd (Nat.lt_of_lt_of_le F41.ltb (Nat.le_refl _)) (Nat.not_lt.mpr r))
  have ne60 := ne54 _ nb59
  have F61 := (((((P0.keep K3 nin0 nin0).keep K17 (ninS (Nat.ne_of_lt (Nat.lt_of_lt_of_le P0.lt (Nat.le_trans (Nat.le_refl _) g4))) nin0) (ninS (Nat.ne_of_lt (Nat.lt_of_lt_of_le P0.ltb (Nat.le_trans (Nat.le_refl _) g4))) nin0)).keep K24 nin0 nin0).keep K40 (ninS (Nat.ne_of_lt (Nat.lt_of_lt_of_le P0.lt (Nat.le_trans (Nat.le_refl _) g4))) (ninS (Nat.ne_of_lt (Nat.lt_of_lt_of_le P0.lt (Nat.le_trans K3.1 g18))) nin0)) (ninS (Nat.ne_of_lt (Nat.lt_of_lt_of_le P0.ltb (Nat.le_trans (Nat.le_refl _) g4))) (ninS (Nat.ne_of_lt (Nat.lt_of_lt_of_le P0.ltb (Nat.le_trans K3.1 g18))) nin0))).keep K49 nin0 nin0)
  have F62 := (((((P1.keep K3 nin0 nin0).keep K17 (ninS (Nat.ne_of_lt (Nat.lt_of_lt_of_le P1.lt (Nat.le_trans (Nat.le_refl _) g4))) nin0) (ninS (Nat.ne_of_lt (Nat.lt_of_lt_of_le P1.ltb (Nat.le_trans (Nat.le_refl _) g4))) nin0)).keep K24 nin0 nin0).keep K40 (ninS (Nat.ne_of_lt (Nat.lt_of_lt_of_le P1.lt (Nat.le_trans (Nat.le_refl _) g4))) (ninS (Nat.ne_of_lt (Nat.lt_of_lt_of_le P1.lt (Nat.le_trans K3.1 g18))) nin0)) (ninS (Nat.ne_of_lt (Nat.lt_of_lt_of_le P1.ltb (Nat.le_trans (Nat.le_refl _) g4))) (ninS (Nat.ne_of_lt (Nat.lt_of_lt_of_le P1.ltb (Nat.le_trans K3.1 g18))) nin0))).keep K49 nin0 nin0)
  refine W.callS (pc' := 19) (W := 1) (argsL := [(.ref c), (.ref o), (.ref a48)]) (st := [(.ref a2)]) (k' := 31) (n' := 3542) X (c_syn (c := c) (cb := cb) (o := o) (ob := ob) (u := a48) (ub := a52) (cs := cs) (os := os) (ts := [(60 : Int32), (116 : Int32), (101 : Int32), (114 : Int32), (109 : Int32), (32 : Int32), (102 : Int32), (105 : Int32), (108 : Int32), (101 : Int32), (62 : Int32)]) G X.en F61 F62 S53 P2 P3 (by decide)) (w108 G) (w109 G) (w110 G) (w39 G) (by decide) (by decide) (by decide) rfl (lenOf pd44 rfl) rfl rfl (Nat.le_of_eq rfl) d_prog_3_m3_16 rfl (by decide) (by decide) (by decide) (by decide) (kri fun T h63 B66 xr X z64 zb67 q65 => ?_)
  obtain ⟨a68, a69, rfl, K70, g71, g72, F73⟩ := q65
  have g74 : Z.heap.size ≤ a68 := Nat.le_trans (Nat.le_trans hz0 (Nat.le_trans (Nat.le_trans (Nat.le_trans (Nat.le_trans K3.1 K17.1) K24.1) K40.1) K49.1)) g71
  have g75 : Z.heap.size ≤ a69 := Nat.le_trans (Nat.le_trans hz0 (Nat.le_trans (Nat.le_trans (Nat.le_trans (Nat.le_trans K3.1 K17.1) K24.1) K40.1) K49.1)) g72
  have F76 := (((F34.keep K40).keep K49).keep K70)
  have F77 := ((F46.keep K49 nin0 nin0).keep K70 nin0 nin0)
  have nb78 : ¬ B66 a2 := fun q => (zb67 _ q).elim nb55 (fun r => absurd (Nat.lt_of_lt_of_le E7.lt (Nat.le_trans (Nat.le_trans (Nat.le_trans K17.1 K24.1) K40.1) K49.1)) (Nat.not_lt.mpr r))
  have nb79 : ¬ B66 a39 := fun q => (zb67 _ q).elim nb59 (fun r => absurd (Nat.lt_of_lt_of_le F41.ltb K49.1) (Nat.not_lt.mpr r))
  refine W.callV (pc' := 22) (W := 0) (argsL := [(.ref a68)]) (st := []) (k' := 32) (n' := 3832) (a := a2) X (c_app (a := a2) (v := a39) (s := a68) (t := a69) (cs := (([] : List Int32) ++ [(85 : Int32), (115 : Int32), (97 : Int32), (103 : Int32), (101 : Int32), (58 : Int32), (32 : Int32)])) (ds := (syn cs os [(60 : Int32), (116 : Int32), (101 : Int32), (114 : Int32), (109 : Int32), (32 : Int32), (102 : Int32), (105 : Int32), (108 : Int32), (101 : Int32), (62 : Int32)])) (cap := 16) G X.en F77 F73 (by unfold grow; simp only [List.length_append, List.length_cons, List.length_nil, syn_len]; split <;> omega) g5 nb78 F42 nb79) (w60 G) (w61 G) (nfM (z' := (⟨"java/lang/StringBuilder", "append", "(Ljava/lang/String;)Ljava/lang/StringBuilder;"⟩ : MethodName)) rfl (w63 G)) (w63 G) (w62 G) F76 (w64 G) (w43 G) (by decide) (by decide) (by decide) rfl (lenOf pd41 rfl) rfl rfl (Nat.le_of_eq rfl) d_prog_3_m3_19 rfl (by decide) (by decide) (by decide) (by decide) (kr fun T h80 xr X z81 q82 => ?_)
  obtain ⟨a83, rfl, K84, F85, F86, F87, F88, F89⟩ := q82
  have F90 : Sb Z h80 a2 a83 ((([] : List Int32) ++ [(85 : Int32), (115 : Int32), (97 : Int32), (103 : Int32), (101 : Int32), (58 : Int32), (32 : Int32)]) ++ (syn cs os [(60 : Int32), (116 : Int32), (101 : Int32), (114 : Int32), (109 : Int32), (32 : Int32), (102 : Int32), (105 : Int32), (108 : Int32), (101 : Int32), (62 : Int32)])) (64 + cs.length + (ownL os).length) := sbc F85 rfl (by unfold grow; simp only [List.length_append, List.length_cons, List.length_nil, syn_len]; split <;> omega)
  refine W.ldcR (pc' := 24) (k' := 34) (n' := 3868) (cap := 32) (cs := [(10 : Int32), (32 : Int32), (32 : Int32), (32 : Int32), (32 : Int32), (32 : Int32), (32 : Int32), (32 : Int32)]) X (by decide) (w182 G) (watoms G) G.2.1 ⟨by decide, by decide⟩ (by unfold Lat; decide) (by decide) d_prog_3_m3_22 (by decide) (by decide) rfl (by decide) (by decide) (by decide) (by decide) fun T h91 B95 a92 a96 X K93 zb94 S97 ne98 => ?_
  have nb99 : ¬ B95 a2 := fun q => (zb94 _ q).elim nb78 (fun r => absurd (Nat.lt_of_lt_of_le E7.lt (Nat.le_trans (Nat.le_trans (Nat.le_trans (Nat.le_trans (Nat.le_trans K17.1 K24.1) K40.1) K49.1) K70.1) K84.1)) (Nat.not_lt.mpr r))
  have ne100 := ne98 _ nb99
  have nb101 : ¬ B66 a16 := fun q => (zb67 _ q).elim nb57 (fun r => absurd (Nat.lt_of_lt_of_le F19.ltb (Nat.le_trans (Nat.le_trans K24.1 K40.1) K49.1)) (Nat.not_lt.mpr r))
  have nb102 : ¬ B95 a16 := fun q => (zb94 _ q).elim nb101 (fun r => absurd (Nat.lt_of_lt_of_le F19.ltb (Nat.le_trans (Nat.le_trans (Nat.le_trans (Nat.le_trans K24.1 K40.1) K49.1) K70.1) K84.1)) (Nat.not_lt.mpr r))
  have ne103 := ne98 _ nb102
  have nb104 : ¬ B95 a39 := fun q => (zb94 _ q).elim nb79 (fun r => absurd (Nat.lt_of_lt_of_le F41.ltb (Nat.le_trans (Nat.le_trans K49.1 K70.1) K84.1)) (Nat.not_lt.mpr r))
  have ne105 := ne98 _ nb104
  have nb106 : ¬ B95 a83 := fun q => (zb94 _ q).elim F87 (fun r => absurd (Nat.lt_of_lt_of_le F85.ltb (Nat.le_refl _)) (Nat.not_lt.mpr r))
  have ne107 := ne98 _ nb106
  have F108 := ((F76.keep K84).keep K93)
  have F109 := (F90.keep K93 nin0 nin0)
  refine W.callV (pc' := 27) (W := 0) (argsL := [(.ref a92)]) (st := []) (k' := 35) (n' := 4158) (a := a2) X (c_app (a := a2) (v := a83) (s := a92) (t := a96) (cs := ((([] : List Int32) ++ [(85 : Int32), (115 : Int32), (97 : Int32), (103 : Int32), (101 : Int32), (58 : Int32), (32 : Int32)]) ++ (syn cs os [(60 : Int32), (116 : Int32), (101 : Int32), (114 : Int32), (109 : Int32), (32 : Int32), (102 : Int32), (105 : Int32), (108 : Int32), (101 : Int32), (62 : Int32)]))) (ds := [(10 : Int32), (32 : Int32), (32 : Int32), (32 : Int32), (32 : Int32), (32 : Int32), (32 : Int32), (32 : Int32)]) (cap := (64 + cs.length + (ownL os).length)) G X.en F109 S97 (by unfold grow; simp only [List.length_append, List.length_cons, List.length_nil, syn_len]; split <;> omega) g5 nb99 F86 nb106) (w60 G) (w61 G) (nfM (z' := (⟨"java/lang/StringBuilder", "append", "(Ljava/lang/String;)Ljava/lang/StringBuilder;"⟩ : MethodName)) rfl (w63 G)) (w63 G) (w62 G) F108 (w64 G) (w43 G) (by decide) (by decide) (by decide) rfl (lenOf pd41 rfl) rfl rfl (Nat.le_of_eq rfl) d_prog_3_m3_24 rfl (by decide) (by decide) (by decide) (by decide) (kr fun T h110 xr X z111 q112 => ?_)
  obtain ⟨a113, rfl, K114, F115, F116, F117, F118, F119⟩ := q112
  have F120 : Sb Z h110 a2 a113 (((([] : List Int32) ++ [(85 : Int32), (115 : Int32), (97 : Int32), (103 : Int32), (101 : Int32), (58 : Int32), (32 : Int32)]) ++ (syn cs os [(60 : Int32), (116 : Int32), (101 : Int32), (114 : Int32), (109 : Int32), (32 : Int32), (102 : Int32), (105 : Int32), (108 : Int32), (101 : Int32), (62 : Int32)])) ++ [(10 : Int32), (32 : Int32), (32 : Int32), (32 : Int32), (32 : Int32), (32 : Int32), (32 : Int32), (32 : Int32)]) (130 + 2 * (cs.length + (ownL os).length)) := sbc F115 rfl (by unfold grow; simp only [List.length_append, List.length_cons, List.length_nil, syn_len]; split <;> omega)
  refine W.aloadN (pc' := 28) X d_prog_3_m3_27 rfl rfl rfl ?_
  refine W.aloadN (pc' := 29) X d_prog_3_m3_28 rfl rfl rfl ?_
  refine W.new (pc' := 32) (k' := 36) (n' := 4162) X (w41 G) (w42 G) (w43 G) d_prog_3_m3_29 rfl (by decide) (by decide) (by decide) (by decide) fun T h121 a122 X K123 g124 g125 nb126 E127 D128 => ?_
  have F129 : Fld Z h121 a122 "java/lang/AbstractStringBuilder" "value" "[B" .null := D128 (Or.inl (w56 G)) (ty := (.array .byte)) (by decide)
  have F130 : Fld Z h121 a122 "java/lang/AbstractStringBuilder" "coder" "B" (.int (0 : Int32)) := D128 (Or.inl (w58 G)) (ty := .byte) (by decide)
  have F131 : Fld Z h121 a122 "java/lang/AbstractStringBuilder" "count" "I" (.int (0 : Int32)) := D128 (Or.inl (w81 G)) (ty := .int) (by decide)
  refine W.dup (pc' := 33) X d_prog_3_m3_32 rfl rfl ?_
  have en132 := X.en
  refine W.callN (pc' := 36) (W := 4) (argsL := []) (st := [(.ref a122), (.ref o), (.ref c), (.ref a2)]) (k' := 37) (n' := 4178) (a := a122) X (c_sbNew (a := a122) (v0 := .null) (v1 := (.int (0 : Int32))) G X.en E127 F129 F130 F131 g125 nb126) rfl (w44 G) (w45 G) (w46 G) (w43 G) (by decide) (by decide) (by decide) rfl (lenOf pd40 rfl) rfl rfl (Nat.le_of_eq rfl) d_prog_3_m3_33 rfl (by decide) (by decide) (by decide) (by decide) (kv fun T h133 X z134 q135 => ?_)
  obtain ⟨a136, K137, g138, F139⟩ := q135
  have g140 : Z.heap.size ≤ a136 := Nat.le_trans (Nat.le_trans hz0 (Nat.le_trans (Nat.le_trans (Nat.le_trans (Nat.le_trans (Nat.le_trans (Nat.le_trans (Nat.le_trans (Nat.le_trans (Nat.le_trans K3.1 K17.1) K24.1) K40.1) K49.1) K70.1) K84.1) K93.1) K114.1) K123.1)) g138
  have nb141 : ¬ B95 a136 := fun q => absurd (en132.2 _ q) (Nat.not_lt.mpr g138)
  refine W.getS (pc' := 39) (host := "") X (Or.inl (w183 G)) Via.refl G.2.2.2.2.2.2.1 d_prog_3_m3_36 rfl fun T X => ?_
  have F142 := Exa.ext X.old G.2.2.2.2.2.2.2.1
  have F143 := Fld.ext X.old G.2.2.2.2.2.2.2.2.1
  refine W.callV (pc' := 42) (W := 4) (argsL := []) (st := [(.ref a122), (.ref o), (.ref c), (.ref a2)]) (k' := 37) (n' := 4178) (a := bO) X (c_opn (a := bO) (b := bN) G X.en F143) (w185 G) (w186 G) (nfM (z' := (⟨"com/example/compendio/compendio/cli/Arguments$Option", "name", "()Ljava/lang/String;"⟩ : MethodName)) rfl (w188 G)) (w188 G) (w187 G) F142 (w190 G) (w189 G) (by decide) (by decide) (by decide) rfl (lenOf pd42 rfl) rfl rfl (Nat.le_of_eq rfl) d_prog_3_m3_39 rfl (by decide) (by decide) (by decide) (by decide) (kp fun T X => ?_)
  have F144 := (E127.keep K137)
  have F145 := Str.ext X.old G.2.2.2.2.2.2.2.2.2.1
  refine W.callV (pc' := 45) (W := 3) (argsL := [(.ref bN)]) (st := [(.ref o), (.ref c), (.ref a2)]) (k' := 38) (n' := 4468) (a := a122) X (c_app (a := a122) (v := a136) (s := bN) (t := bA) (cs := ([] : List Int32)) (ds := [(45 : Int32), (45 : Int32), (98 : Int32), (111 : Int32), (111 : Int32), (107 : Int32)]) (cap := 16) G X.en F139 F145 (by unfold grow; simp only [List.length_append, List.length_cons, List.length_nil, syn_len]; split <;> omega) g125 nb126 g140 nb141) (w60 G) (w61 G) (nfM (z' := (⟨"java/lang/StringBuilder", "append", "(Ljava/lang/String;)Ljava/lang/StringBuilder;"⟩ : MethodName)) rfl (w63 G)) (w63 G) (w62 G) F144 (w64 G) (w43 G) (by decide) (by decide) (by decide) rfl (lenOf pd41 rfl) rfl rfl (Nat.le_of_eq rfl) d_prog_3_m3_42 rfl (by decide) (by decide) (by decide) (by decide) (kr fun T h146 xr X z147 q148 => ?_)
  obtain ⟨a149, rfl, K150, F151, F152, F153, F154, F155⟩ := q148
  have F156 : Sb Z h146 a122 a149 (([] : List Int32) ++ [(45 : Int32), (45 : Int32), (98 : Int32), (111 : Int32), (111 : Int32), (107 : Int32)]) 16 := sbc F151 rfl (by unfold grow; simp only [List.length_append, List.length_cons, List.length_nil, syn_len]; split <;> omega)
  refine W.ldcR (pc' := 47) (k' := 40) (n' := 4520) (cap := 48) (cs := [(32 : Int32), (60 : Int32), (100 : Int32), (105 : Int32), (114 : Int32), (101 : Int32), (99 : Int32), (116 : Int32), (111 : Int32), (114 : Int32), (121 : Int32), (62 : Int32)]) X (by decide) (w193 G) (watoms G) G.2.1 ⟨by decide, by decide⟩ (by unfold Lat; decide) (by decide) d_prog_3_m3_45 (by decide) (by decide) rfl (by decide) (by decide) (by decide) (by decide) fun T h157 B161 a158 a162 X K159 zb160 S163 ne164 => ?_
  have nb165 : ¬ B161 a2 := fun q => (zb160 _ q).elim nb99 (fun r => absurd (Nat.lt_of_lt_of_le E7.lt (Nat.le_trans (Nat.le_trans (Nat.le_trans (Nat.le_trans (Nat.le_trans (Nat.le_trans (Nat.le_trans (Nat.le_trans (Nat.le_trans (Nat.le_trans K17.1 K24.1) K40.1) K49.1) K70.1) K84.1) K93.1) K114.1) K123.1) K137.1) K150.1)) (Nat.not_lt.mpr r))
  have ne166 := ne164 _ nb165
  have nb167 : ¬ B161 a16 := fun q => (zb160 _ q).elim nb102 (fun r => absurd (Nat.lt_of_lt_of_le F19.ltb (Nat.le_trans (Nat.le_trans (Nat.le_trans (Nat.le_trans (Nat.le_trans (Nat.le_trans (Nat.le_trans (Nat.le_trans (Nat.le_trans K24.1 K40.1) K49.1) K70.1) K84.1) K93.1) K114.1) K123.1) K137.1) K150.1)) (Nat.not_lt.mpr r))
  have ne168 := ne164 _ nb167
  have nb169 : ¬ B161 a39 := fun q => (zb160 _ q).elim nb104 (fun r => absurd (Nat.lt_of_lt_of_le F41.ltb (Nat.le_trans (Nat.le_trans (Nat.le_trans (Nat.le_trans (Nat.le_trans (Nat.le_trans (Nat.le_trans K49.1 K70.1) K84.1) K93.1) K114.1) K123.1) K137.1) K150.1)) (Nat.not_lt.mpr r))
  have ne170 := ne164 _ nb169
  have nb171 : ¬ B161 a83 := fun q => (zb160 _ q).elim nb106 (fun r => absurd (Nat.lt_of_lt_of_le F85.ltb (Nat.le_trans (Nat.le_trans (Nat.le_trans (Nat.le_trans K93.1 K114.1) K123.1) K137.1) K150.1)) (Nat.not_lt.mpr r))
  have ne172 := ne164 _ nb171
  have nb173 : ¬ B161 a113 := fun q => (zb160 _ q).elim F117 (fun r => absurd (Nat.lt_of_lt_of_le F115.ltb (Nat.le_trans (Nat.le_trans K123.1 K137.1) K150.1)) (Nat.not_lt.mpr r))
  have ne174 := ne164 _ nb173
  have nb175 : ¬ B161 a122 := fun q => (zb160 _ q).elim nb126 (fun r => absurd (Nat.lt_of_lt_of_le E127.lt (Nat.le_trans K137.1 K150.1)) (Nat.not_lt.mpr r))
  have ne176 := ne164 _ nb175
  have nb177 : ¬ B161 a136 := fun q => (zb160 _ q).elim nb141 (fun r => absurd (Nat.lt_of_lt_of_le F139.ltb K150.1) (Nat.not_lt.mpr r))
  have ne178 := ne164 _ nb177
  have nb179 : ¬ B161 a149 := fun q => (zb160 _ q).elim F153 (fun r => absurd (Nat.lt_of_lt_of_le F151.ltb (Nat.le_refl _)) (Nat.not_lt.mpr r))
  have ne180 := ne164 _ nb179
  have F181 := ((F144.keep K150).keep K159)
  have F182 := (F156.keep K159 nin0 nin0)
  refine W.callV (pc' := 50) (W := 3) (argsL := [(.ref a158)]) (st := [(.ref o), (.ref c), (.ref a2)]) (k' := 41) (n' := 4810) (a := a122) X (c_app (a := a122) (v := a149) (s := a158) (t := a162) (cs := (([] : List Int32) ++ [(45 : Int32), (45 : Int32), (98 : Int32), (111 : Int32), (111 : Int32), (107 : Int32)])) (ds := [(32 : Int32), (60 : Int32), (100 : Int32), (105 : Int32), (114 : Int32), (101 : Int32), (99 : Int32), (116 : Int32), (111 : Int32), (114 : Int32), (121 : Int32), (62 : Int32)]) (cap := 16) G X.en F182 S163 (by unfold grow; simp only [List.length_append, List.length_cons, List.length_nil, syn_len]; split <;> omega) g125 nb175 F152 nb179) (w60 G) (w61 G) (nfM (z' := (⟨"java/lang/StringBuilder", "append", "(Ljava/lang/String;)Ljava/lang/StringBuilder;"⟩ : MethodName)) rfl (w63 G)) (w63 G) (w62 G) F181 (w64 G) (w43 G) (by decide) (by decide) (by decide) rfl (lenOf pd41 rfl) rfl rfl (Nat.le_of_eq rfl) d_prog_3_m3_47 rfl (by decide) (by decide) (by decide) (by decide) (kr fun T h183 xr X z184 q185 => ?_)
  obtain ⟨a186, rfl, K187, F188, F189, F190, F191, F192⟩ := q185
  have F193 : Sb Z h183 a122 a186 ((([] : List Int32) ++ [(45 : Int32), (45 : Int32), (98 : Int32), (111 : Int32), (111 : Int32), (107 : Int32)]) ++ [(32 : Int32), (60 : Int32), (100 : Int32), (105 : Int32), (114 : Int32), (101 : Int32), (99 : Int32), (116 : Int32), (111 : Int32), (114 : Int32), (121 : Int32), (62 : Int32)]) 34 := sbc F188 rfl (by unfold grow; simp only [List.length_append, List.length_cons, List.length_nil, syn_len]; split <;> omega)
  have F194 := (F181.keep K187)
  have en195 := X.en
  refine W.callV (pc' := 53) (W := 3) (argsL := []) (st := [(.ref o), (.ref c), (.ref a2)]) (k' := 43) (n' := 5104) (a := a122) X (c_toS (a := a122) (v := a186) (cs := ((([] : List Int32) ++ [(45 : Int32), (45 : Int32), (98 : Int32), (111 : Int32), (111 : Int32), (107 : Int32)]) ++ [(32 : Int32), (60 : Int32), (100 : Int32), (105 : Int32), (114 : Int32), (101 : Int32), (99 : Int32), (116 : Int32), (111 : Int32), (114 : Int32), (121 : Int32), (62 : Int32)])) (cap := 34) G X.en F193 (by simp only [List.length_append, List.length_cons, List.length_nil, syn_len]; omega) (by simp only [List.length_append, List.length_cons, List.length_nil, syn_len]; omega)) (w143 G) (w144 G) (nfM (z' := (⟨"java/lang/StringBuilder", "append", "(Ljava/lang/String;)Ljava/lang/StringBuilder;"⟩ : MethodName)) rfl (w63 G)) (w146 G) (w145 G) F194 (w147 G) (w43 G) (by decide) (by decide) (by decide) rfl (lenOf pd42 rfl) rfl rfl (Nat.le_of_eq rfl) d_prog_3_m3_50 rfl (by decide) (by decide) (by decide) (by decide) (kr fun T h196 xr X z197 q198 => ?_)
  obtain ⟨a199, a200, rfl, K201, g202, g203, F204⟩ := q198
  have g205 : Z.heap.size ≤ a199 := Nat.le_trans (Nat.le_trans hz0 (Nat.le_trans (Nat.le_trans (Nat.le_trans (Nat.le_trans (Nat.le_trans (Nat.le_trans (Nat.le_trans (Nat.le_trans (Nat.le_trans (Nat.le_trans (Nat.le_trans (Nat.le_trans (Nat.le_trans K3.1 K17.1) K24.1) K40.1) K49.1) K70.1) K84.1) K93.1) K114.1) K123.1) K137.1) K150.1) K159.1) K187.1)) g202
  have nb206 : ¬ B161 a199 := fun q => absurd (en195.2 _ q) (Nat.not_lt.mpr g202)
  have g207 : Z.heap.size ≤ a200 := Nat.le_trans (Nat.le_trans hz0 (Nat.le_trans (Nat.le_trans (Nat.le_trans (Nat.le_trans (Nat.le_trans (Nat.le_trans (Nat.le_trans (Nat.le_trans (Nat.le_trans (Nat.le_trans (Nat.le_trans (Nat.le_trans (Nat.le_trans K3.1 K17.1) K24.1) K40.1) K49.1) K70.1) K84.1) K93.1) K114.1) K123.1) K137.1) K150.1) K159.1) K187.1)) g203
  have nb208 : ¬ B161 a200 := fun q => absurd (en195.2 _ q) (Nat.not_lt.mpr g203)
  have F209 := ((((((((((F61.keep K70 nin0 nin0).keep K84 (ninS (Nat.ne_of_lt (Nat.lt_of_lt_of_le P0.lt (Nat.le_trans (Nat.le_refl _) g4))) (ninS (F44 _ (Nat.lt_of_lt_of_le P0.lt (Nat.le_trans (Nat.le_trans K3.1 K17.1) K24.1)) (Nat.ne_of_lt (Nat.lt_of_lt_of_le P0.lt (Nat.le_trans K3.1 g18)))) nin0)) (ninS (Nat.ne_of_lt (Nat.lt_of_lt_of_le P0.ltb (Nat.le_trans (Nat.le_refl _) g4))) (ninS (F44 _ (Nat.lt_of_lt_of_le P0.ltb (Nat.le_trans (Nat.le_trans K3.1 K17.1) K24.1)) (Nat.ne_of_lt (Nat.lt_of_lt_of_le P0.ltb (Nat.le_trans K3.1 g18)))) nin0))).keep K93 nin0 nin0).keep K114 (ninS (Nat.ne_of_lt (Nat.lt_of_lt_of_le P0.lt (Nat.le_trans (Nat.le_refl _) g4))) (ninS (F88 _ (Nat.lt_of_lt_of_le P0.lt (Nat.le_trans (Nat.le_trans (Nat.le_trans (Nat.le_trans (Nat.le_trans K3.1 K17.1) K24.1) K40.1) K49.1) K70.1)) (F44 _ (Nat.lt_of_lt_of_le P0.lt (Nat.le_trans (Nat.le_trans K3.1 K17.1) K24.1)) (Nat.ne_of_lt (Nat.lt_of_lt_of_le P0.lt (Nat.le_trans K3.1 g18))))) nin0)) (ninS (Nat.ne_of_lt (Nat.lt_of_lt_of_le P0.ltb (Nat.le_trans (Nat.le_refl _) g4))) (ninS (F88 _ (Nat.lt_of_lt_of_le P0.ltb (Nat.le_trans (Nat.le_trans (Nat.le_trans (Nat.le_trans (Nat.le_trans K3.1 K17.1) K24.1) K40.1) K49.1) K70.1)) (F44 _ (Nat.lt_of_lt_of_le P0.ltb (Nat.le_trans (Nat.le_trans K3.1 K17.1) K24.1)) (Nat.ne_of_lt (Nat.lt_of_lt_of_le P0.ltb (Nat.le_trans K3.1 g18))))) nin0))).keep K123 nin0 nin0).keep K137 (ninS (Nat.ne_of_lt (Nat.lt_of_lt_of_le P0.lt (Nat.le_trans (Nat.le_trans (Nat.le_trans (Nat.le_trans (Nat.le_trans (Nat.le_trans (Nat.le_trans (Nat.le_trans (Nat.le_trans K3.1 K17.1) K24.1) K40.1) K49.1) K70.1) K84.1) K93.1) K114.1) g124))) nin0) (ninS (Nat.ne_of_lt (Nat.lt_of_lt_of_le P0.ltb (Nat.le_trans (Nat.le_trans (Nat.le_trans (Nat.le_trans (Nat.le_trans (Nat.le_trans (Nat.le_trans (Nat.le_trans (Nat.le_trans K3.1 K17.1) K24.1) K40.1) K49.1) K70.1) K84.1) K93.1) K114.1) g124))) nin0)).keep K150 (ninS (Nat.ne_of_lt (Nat.lt_of_lt_of_le P0.lt (Nat.le_trans (Nat.le_trans (Nat.le_trans (Nat.le_trans (Nat.le_trans (Nat.le_trans (Nat.le_trans (Nat.le_trans (Nat.le_trans K3.1 K17.1) K24.1) K40.1) K49.1) K70.1) K84.1) K93.1) K114.1) g124))) (ninS (Nat.ne_of_lt (Nat.lt_of_lt_of_le P0.lt (Nat.le_trans (Nat.le_trans (Nat.le_trans (Nat.le_trans (Nat.le_trans (Nat.le_trans (Nat.le_trans (Nat.le_trans (Nat.le_trans (Nat.le_trans K3.1 K17.1) K24.1) K40.1) K49.1) K70.1) K84.1) K93.1) K114.1) K123.1) g138))) nin0)) (ninS (Nat.ne_of_lt (Nat.lt_of_lt_of_le P0.ltb (Nat.le_trans (Nat.le_trans (Nat.le_trans (Nat.le_trans (Nat.le_trans (Nat.le_trans (Nat.le_trans (Nat.le_trans (Nat.le_trans K3.1 K17.1) K24.1) K40.1) K49.1) K70.1) K84.1) K93.1) K114.1) g124))) (ninS (Nat.ne_of_lt (Nat.lt_of_lt_of_le P0.ltb (Nat.le_trans (Nat.le_trans (Nat.le_trans (Nat.le_trans (Nat.le_trans (Nat.le_trans (Nat.le_trans (Nat.le_trans (Nat.le_trans (Nat.le_trans K3.1 K17.1) K24.1) K40.1) K49.1) K70.1) K84.1) K93.1) K114.1) K123.1) g138))) nin0))).keep K159 nin0 nin0).keep K187 (ninS (Nat.ne_of_lt (Nat.lt_of_lt_of_le P0.lt (Nat.le_trans (Nat.le_trans (Nat.le_trans (Nat.le_trans (Nat.le_trans (Nat.le_trans (Nat.le_trans (Nat.le_trans (Nat.le_trans K3.1 K17.1) K24.1) K40.1) K49.1) K70.1) K84.1) K93.1) K114.1) g124))) (ninS (F154 _ (Nat.lt_of_lt_of_le P0.lt (Nat.le_trans (Nat.le_trans (Nat.le_trans (Nat.le_trans (Nat.le_trans (Nat.le_trans (Nat.le_trans (Nat.le_trans (Nat.le_trans (Nat.le_trans K3.1 K17.1) K24.1) K40.1) K49.1) K70.1) K84.1) K93.1) K114.1) K123.1) K137.1)) (Nat.ne_of_lt (Nat.lt_of_lt_of_le P0.lt (Nat.le_trans (Nat.le_trans (Nat.le_trans (Nat.le_trans (Nat.le_trans (Nat.le_trans (Nat.le_trans (Nat.le_trans (Nat.le_trans (Nat.le_trans K3.1 K17.1) K24.1) K40.1) K49.1) K70.1) K84.1) K93.1) K114.1) K123.1) g138)))) nin0)) (ninS (Nat.ne_of_lt (Nat.lt_of_lt_of_le P0.ltb (Nat.le_trans (Nat.le_trans (Nat.le_trans (Nat.le_trans (Nat.le_trans (Nat.le_trans (Nat.le_trans (Nat.le_trans (Nat.le_trans K3.1 K17.1) K24.1) K40.1) K49.1) K70.1) K84.1) K93.1) K114.1) g124))) (ninS (F154 _ (Nat.lt_of_lt_of_le P0.ltb (Nat.le_trans (Nat.le_trans (Nat.le_trans (Nat.le_trans (Nat.le_trans (Nat.le_trans (Nat.le_trans (Nat.le_trans (Nat.le_trans (Nat.le_trans K3.1 K17.1) K24.1) K40.1) K49.1) K70.1) K84.1) K93.1) K114.1) K123.1) K137.1)) (Nat.ne_of_lt (Nat.lt_of_lt_of_le P0.ltb (Nat.le_trans (Nat.le_trans (Nat.le_trans (Nat.le_trans (Nat.le_trans (Nat.le_trans (Nat.le_trans (Nat.le_trans (Nat.le_trans (Nat.le_trans K3.1 K17.1) K24.1) K40.1) K49.1) K70.1) K84.1) K93.1) K114.1) K123.1) g138)))) nin0))).keep K201 nin0 nin0)
  have F210 := ((((((((((F62.keep K70 nin0 nin0).keep K84 (ninS (Nat.ne_of_lt (Nat.lt_of_lt_of_le P1.lt (Nat.le_trans (Nat.le_refl _) g4))) (ninS (F44 _ (Nat.lt_of_lt_of_le P1.lt (Nat.le_trans (Nat.le_trans K3.1 K17.1) K24.1)) (Nat.ne_of_lt (Nat.lt_of_lt_of_le P1.lt (Nat.le_trans K3.1 g18)))) nin0)) (ninS (Nat.ne_of_lt (Nat.lt_of_lt_of_le P1.ltb (Nat.le_trans (Nat.le_refl _) g4))) (ninS (F44 _ (Nat.lt_of_lt_of_le P1.ltb (Nat.le_trans (Nat.le_trans K3.1 K17.1) K24.1)) (Nat.ne_of_lt (Nat.lt_of_lt_of_le P1.ltb (Nat.le_trans K3.1 g18)))) nin0))).keep K93 nin0 nin0).keep K114 (ninS (Nat.ne_of_lt (Nat.lt_of_lt_of_le P1.lt (Nat.le_trans (Nat.le_refl _) g4))) (ninS (F88 _ (Nat.lt_of_lt_of_le P1.lt (Nat.le_trans (Nat.le_trans (Nat.le_trans (Nat.le_trans (Nat.le_trans K3.1 K17.1) K24.1) K40.1) K49.1) K70.1)) (F44 _ (Nat.lt_of_lt_of_le P1.lt (Nat.le_trans (Nat.le_trans K3.1 K17.1) K24.1)) (Nat.ne_of_lt (Nat.lt_of_lt_of_le P1.lt (Nat.le_trans K3.1 g18))))) nin0)) (ninS (Nat.ne_of_lt (Nat.lt_of_lt_of_le P1.ltb (Nat.le_trans (Nat.le_refl _) g4))) (ninS (F88 _ (Nat.lt_of_lt_of_le P1.ltb (Nat.le_trans (Nat.le_trans (Nat.le_trans (Nat.le_trans (Nat.le_trans K3.1 K17.1) K24.1) K40.1) K49.1) K70.1)) (F44 _ (Nat.lt_of_lt_of_le P1.ltb (Nat.le_trans (Nat.le_trans K3.1 K17.1) K24.1)) (Nat.ne_of_lt (Nat.lt_of_lt_of_le P1.ltb (Nat.le_trans K3.1 g18))))) nin0))).keep K123 nin0 nin0).keep K137 (ninS (Nat.ne_of_lt (Nat.lt_of_lt_of_le P1.lt (Nat.le_trans (Nat.le_trans (Nat.le_trans (Nat.le_trans (Nat.le_trans (Nat.le_trans (Nat.le_trans (Nat.le_trans (Nat.le_trans K3.1 K17.1) K24.1) K40.1) K49.1) K70.1) K84.1) K93.1) K114.1) g124))) nin0) (ninS (Nat.ne_of_lt (Nat.lt_of_lt_of_le P1.ltb (Nat.le_trans (Nat.le_trans (Nat.le_trans (Nat.le_trans (Nat.le_trans (Nat.le_trans (Nat.le_trans (Nat.le_trans (Nat.le_trans K3.1 K17.1) K24.1) K40.1) K49.1) K70.1) K84.1) K93.1) K114.1) g124))) nin0)).keep K150 (ninS (Nat.ne_of_lt (Nat.lt_of_lt_of_le P1.lt (Nat.le_trans (Nat.le_trans (Nat.le_trans (Nat.le_trans (Nat.le_trans (Nat.le_trans (Nat.le_trans (Nat.le_trans (Nat.le_trans K3.1 K17.1) K24.1) K40.1) K49.1) K70.1) K84.1) K93.1) K114.1) g124))) (ninS (Nat.ne_of_lt (Nat.lt_of_lt_of_le P1.lt (Nat.le_trans (Nat.le_trans (Nat.le_trans (Nat.le_trans (Nat.le_trans (Nat.le_trans (Nat.le_trans (Nat.le_trans (Nat.le_trans (Nat.le_trans K3.1 K17.1) K24.1) K40.1) K49.1) K70.1) K84.1) K93.1) K114.1) K123.1) g138))) nin0)) (ninS (Nat.ne_of_lt (Nat.lt_of_lt_of_le P1.ltb (Nat.le_trans (Nat.le_trans (Nat.le_trans (Nat.le_trans (Nat.le_trans (Nat.le_trans (Nat.le_trans (Nat.le_trans (Nat.le_trans K3.1 K17.1) K24.1) K40.1) K49.1) K70.1) K84.1) K93.1) K114.1) g124))) (ninS (Nat.ne_of_lt (Nat.lt_of_lt_of_le P1.ltb (Nat.le_trans (Nat.le_trans (Nat.le_trans (Nat.le_trans (Nat.le_trans (Nat.le_trans (Nat.le_trans (Nat.le_trans (Nat.le_trans (Nat.le_trans K3.1 K17.1) K24.1) K40.1) K49.1) K70.1) K84.1) K93.1) K114.1) K123.1) g138))) nin0))).keep K159 nin0 nin0).keep K187 (ninS (Nat.ne_of_lt (Nat.lt_of_lt_of_le P1.lt (Nat.le_trans (Nat.le_trans (Nat.le_trans (Nat.le_trans (Nat.le_trans (Nat.le_trans (Nat.le_trans (Nat.le_trans (Nat.le_trans K3.1 K17.1) K24.1) K40.1) K49.1) K70.1) K84.1) K93.1) K114.1) g124))) (ninS (F154 _ (Nat.lt_of_lt_of_le P1.lt (Nat.le_trans (Nat.le_trans (Nat.le_trans (Nat.le_trans (Nat.le_trans (Nat.le_trans (Nat.le_trans (Nat.le_trans (Nat.le_trans (Nat.le_trans K3.1 K17.1) K24.1) K40.1) K49.1) K70.1) K84.1) K93.1) K114.1) K123.1) K137.1)) (Nat.ne_of_lt (Nat.lt_of_lt_of_le P1.lt (Nat.le_trans (Nat.le_trans (Nat.le_trans (Nat.le_trans (Nat.le_trans (Nat.le_trans (Nat.le_trans (Nat.le_trans (Nat.le_trans (Nat.le_trans K3.1 K17.1) K24.1) K40.1) K49.1) K70.1) K84.1) K93.1) K114.1) K123.1) g138)))) nin0)) (ninS (Nat.ne_of_lt (Nat.lt_of_lt_of_le P1.ltb (Nat.le_trans (Nat.le_trans (Nat.le_trans (Nat.le_trans (Nat.le_trans (Nat.le_trans (Nat.le_trans (Nat.le_trans (Nat.le_trans K3.1 K17.1) K24.1) K40.1) K49.1) K70.1) K84.1) K93.1) K114.1) g124))) (ninS (F154 _ (Nat.lt_of_lt_of_le P1.ltb (Nat.le_trans (Nat.le_trans (Nat.le_trans (Nat.le_trans (Nat.le_trans (Nat.le_trans (Nat.le_trans (Nat.le_trans (Nat.le_trans (Nat.le_trans K3.1 K17.1) K24.1) K40.1) K49.1) K70.1) K84.1) K93.1) K114.1) K123.1) K137.1)) (Nat.ne_of_lt (Nat.lt_of_lt_of_le P1.ltb (Nat.le_trans (Nat.le_trans (Nat.le_trans (Nat.le_trans (Nat.le_trans (Nat.le_trans (Nat.le_trans (Nat.le_trans (Nat.le_trans (Nat.le_trans K3.1 K17.1) K24.1) K40.1) K49.1) K70.1) K84.1) K93.1) K114.1) K123.1) g138)))) nin0))).keep K201 nin0 nin0)
  refine W.callS (pc' := 56) (W := 1) (argsL := [(.ref c), (.ref o), (.ref a199)]) (st := [(.ref a2)]) (k' := 67) (n' := 8256) X (c_syn (c := c) (cb := cb) (o := o) (ob := ob) (u := a199) (ub := a200) (cs := cs) (os := os) (ts := ((([] : List Int32) ++ [(45 : Int32), (45 : Int32), (98 : Int32), (111 : Int32), (111 : Int32), (107 : Int32)]) ++ [(32 : Int32), (60 : Int32), (100 : Int32), (105 : Int32), (114 : Int32), (101 : Int32), (99 : Int32), (116 : Int32), (111 : Int32), (114 : Int32), (121 : Int32), (62 : Int32)])) G X.en F209 F210 F204 P2 P3 (by decide)) (w108 G) (w109 G) (w110 G) (w39 G) (by decide) (by decide) (by decide) rfl (lenOf pd44 rfl) rfl rfl (Nat.le_of_eq rfl) d_prog_3_m3_53 rfl (by decide) (by decide) (by decide) (by decide) (kri fun T h211 B214 xr X z212 zb215 q213 => ?_)
  obtain ⟨a216, a217, rfl, K218, g219, g220, F221⟩ := q213
  have g222 : Z.heap.size ≤ a216 := Nat.le_trans (Nat.le_trans hz0 (Nat.le_trans (Nat.le_trans (Nat.le_trans (Nat.le_trans (Nat.le_trans (Nat.le_trans (Nat.le_trans (Nat.le_trans (Nat.le_trans (Nat.le_trans (Nat.le_trans (Nat.le_trans (Nat.le_trans (Nat.le_trans K3.1 K17.1) K24.1) K40.1) K49.1) K70.1) K84.1) K93.1) K114.1) K123.1) K137.1) K150.1) K159.1) K187.1) K201.1)) g219
  have g223 : Z.heap.size ≤ a217 := Nat.le_trans (Nat.le_trans hz0 (Nat.le_trans (Nat.le_trans (Nat.le_trans (Nat.le_trans (Nat.le_trans (Nat.le_trans (Nat.le_trans (Nat.le_trans (Nat.le_trans (Nat.le_trans (Nat.le_trans (Nat.le_trans (Nat.le_trans (Nat.le_trans K3.1 K17.1) K24.1) K40.1) K49.1) K70.1) K84.1) K93.1) K114.1) K123.1) K137.1) K150.1) K159.1) K187.1) K201.1)) g220
  have F224 := ((((((((F108.keep K114).keep K123).keep K137).keep K150).keep K159).keep K187).keep K201).keep K218)
  have F225 := (((((((F120.keep K123 nin0 nin0).keep K137 (ninS (Nat.ne_of_lt (Nat.lt_of_lt_of_le E7.lt (Nat.le_trans (Nat.le_trans (Nat.le_trans (Nat.le_trans (Nat.le_trans (Nat.le_trans (Nat.le_trans (Nat.le_trans K17.1 K24.1) K40.1) K49.1) K70.1) K84.1) K93.1) K114.1) g124))) nin0) (ninS (Nat.ne_of_lt (Nat.lt_of_lt_of_le F115.ltb (Nat.le_trans (Nat.le_refl _) g124))) nin0)).keep K150 (ninS (Nat.ne_of_lt (Nat.lt_of_lt_of_le E7.lt (Nat.le_trans (Nat.le_trans (Nat.le_trans (Nat.le_trans (Nat.le_trans (Nat.le_trans (Nat.le_trans (Nat.le_trans K17.1 K24.1) K40.1) K49.1) K70.1) K84.1) K93.1) K114.1) g124))) (ninS (Nat.ne_of_lt (Nat.lt_of_lt_of_le E7.lt (Nat.le_trans (Nat.le_trans (Nat.le_trans (Nat.le_trans (Nat.le_trans (Nat.le_trans (Nat.le_trans (Nat.le_trans (Nat.le_trans K17.1 K24.1) K40.1) K49.1) K70.1) K84.1) K93.1) K114.1) K123.1) g138))) nin0)) (ninS (Nat.ne_of_lt (Nat.lt_of_lt_of_le F115.ltb (Nat.le_trans (Nat.le_refl _) g124))) (ninS (Nat.ne_of_lt (Nat.lt_of_lt_of_le F115.ltb (Nat.le_trans K123.1 g138))) nin0))).keep K159 nin0 nin0).keep K187 (ninS (Nat.ne_of_lt (Nat.lt_of_lt_of_le E7.lt (Nat.le_trans (Nat.le_trans (Nat.le_trans (Nat.le_trans (Nat.le_trans (Nat.le_trans (Nat.le_trans (Nat.le_trans K17.1 K24.1) K40.1) K49.1) K70.1) K84.1) K93.1) K114.1) g124))) (ninS (F154 _ (Nat.lt_of_lt_of_le E7.lt (Nat.le_trans (Nat.le_trans (Nat.le_trans (Nat.le_trans (Nat.le_trans (Nat.le_trans (Nat.le_trans (Nat.le_trans (Nat.le_trans K17.1 K24.1) K40.1) K49.1) K70.1) K84.1) K93.1) K114.1) K123.1) K137.1)) (Nat.ne_of_lt (Nat.lt_of_lt_of_le E7.lt (Nat.le_trans (Nat.le_trans (Nat.le_trans (Nat.le_trans (Nat.le_trans (Nat.le_trans (Nat.le_trans (Nat.le_trans (Nat.le_trans K17.1 K24.1) K40.1) K49.1) K70.1) K84.1) K93.1) K114.1) K123.1) g138)))) nin0)) (ninS (Nat.ne_of_lt (Nat.lt_of_lt_of_le F115.ltb (Nat.le_trans (Nat.le_refl _) g124))) (ninS (F154 _ (Nat.lt_of_lt_of_le F115.ltb (Nat.le_trans K123.1 K137.1)) (Nat.ne_of_lt (Nat.lt_of_lt_of_le F115.ltb (Nat.le_trans K123.1 g138)))) nin0))).keep K201 nin0 nin0).keep K218 nin0 nin0)
  have nb226 : ¬ B214 a2 := fun q => (zb215 _ q).elim nb165 (fun r => absurd (Nat.lt_of_lt_of_le E7.lt (Nat.le_trans (Nat.le_trans (Nat.le_trans (Nat.le_trans (Nat.le_trans (Nat.le_trans (Nat.le_trans (Nat.le_trans (Nat.le_trans (Nat.le_trans (Nat.le_trans (Nat.le_trans (Nat.le_trans K17.1 K24.1) K40.1) K49.1) K70.1) K84.1) K93.1) K114.1) K123.1) K137.1) K150.1) K159.1) K187.1) K201.1)) (Nat.not_lt.mpr r))
  have nb227 : ¬ B214 a113 := fun q => (zb215 _ q).elim nb173 (fun r => absurd (Nat.lt_of_lt_of_le F115.ltb (Nat.le_trans (Nat.le_trans (Nat.le_trans (Nat.le_trans (Nat.le_trans K123.1 K137.1) K150.1) K159.1) K187.1) K201.1)) (Nat.not_lt.mpr r))
  refine W.callV (pc' := 59) (W := 0) (argsL := [(.ref a216)]) (st := []) (k' := 68) (n' := 8546) (a := a2) X (c_app (a := a2) (v := a113) (s := a216) (t := a217) (cs := (((([] : List Int32) ++ [(85 : Int32), (115 : Int32), (97 : Int32), (103 : Int32), (101 : Int32), (58 : Int32), (32 : Int32)]) ++ (syn cs os [(60 : Int32), (116 : Int32), (101 : Int32), (114 : Int32), (109 : Int32), (32 : Int32), (102 : Int32), (105 : Int32), (108 : Int32), (101 : Int32), (62 : Int32)])) ++ [(10 : Int32), (32 : Int32), (32 : Int32), (32 : Int32), (32 : Int32), (32 : Int32), (32 : Int32), (32 : Int32)])) (ds := (syn cs os ((([] : List Int32) ++ [(45 : Int32), (45 : Int32), (98 : Int32), (111 : Int32), (111 : Int32), (107 : Int32)]) ++ [(32 : Int32), (60 : Int32), (100 : Int32), (105 : Int32), (114 : Int32), (101 : Int32), (99 : Int32), (116 : Int32), (111 : Int32), (114 : Int32), (121 : Int32), (62 : Int32)]))) (cap := (130 + 2 * (cs.length + (ownL os).length))) G X.en F225 F221 (by unfold grow; simp only [List.length_append, List.length_cons, List.length_nil, syn_len]; split <;> omega) g5 nb226 F116 nb227) (w60 G) (w61 G) (nfM (z' := (⟨"java/lang/StringBuilder", "append", "(Ljava/lang/String;)Ljava/lang/StringBuilder;"⟩ : MethodName)) rfl (w63 G)) (w63 G) (w62 G) F224 (w64 G) (w43 G) (by decide) (by decide) (by decide) rfl (lenOf pd41 rfl) rfl rfl (Nat.le_of_eq rfl) d_prog_3_m3_56 rfl (by decide) (by decide) (by decide) (by decide) (kr fun T h228 xr X z229 q230 => ?_)
  obtain ⟨a231, rfl, K232, F233, F234, F235, F236, F237⟩ := q230
  have F238 : Sb Z h228 a2 a231 ((((([] : List Int32) ++ [(85 : Int32), (115 : Int32), (97 : Int32), (103 : Int32), (101 : Int32), (58 : Int32), (32 : Int32)]) ++ (syn cs os [(60 : Int32), (116 : Int32), (101 : Int32), (114 : Int32), (109 : Int32), (32 : Int32), (102 : Int32), (105 : Int32), (108 : Int32), (101 : Int32), (62 : Int32)])) ++ [(10 : Int32), (32 : Int32), (32 : Int32), (32 : Int32), (32 : Int32), (32 : Int32), (32 : Int32), (32 : Int32)]) ++ (syn cs os ((([] : List Int32) ++ [(45 : Int32), (45 : Int32), (98 : Int32), (111 : Int32), (111 : Int32), (107 : Int32)]) ++ [(32 : Int32), (60 : Int32), (100 : Int32), (105 : Int32), (114 : Int32), (101 : Int32), (99 : Int32), (116 : Int32), (111 : Int32), (114 : Int32), (121 : Int32), (62 : Int32)]))) (262 + 4 * (cs.length + (ownL os).length)) := sbc F233 rfl (by unfold grow; simp only [List.length_append, List.length_cons, List.length_nil, syn_len]; split <;> omega)
  refine W.ldcR (pc' := 61) (k' := 70) (n' := 8558) (cap := 8) (cs := [(10 : Int32), (10 : Int32)]) X (by decide) (w194 G) (watoms G) G.2.1 ⟨by decide, by decide⟩ (by unfold Lat; decide) (by decide) d_prog_3_m3_59 (by decide) (by decide) rfl (by decide) (by decide) (by decide) (by decide) fun T h239 B243 a240 a244 X K241 zb242 S245 ne246 => ?_
  have nb247 : ¬ B243 a2 := fun q => (zb242 _ q).elim nb226 (fun r => absurd (Nat.lt_of_lt_of_le E7.lt (Nat.le_trans (Nat.le_trans (Nat.le_trans (Nat.le_trans (Nat.le_trans (Nat.le_trans (Nat.le_trans (Nat.le_trans (Nat.le_trans (Nat.le_trans (Nat.le_trans (Nat.le_trans (Nat.le_trans (Nat.le_trans (Nat.le_trans K17.1 K24.1) K40.1) K49.1) K70.1) K84.1) K93.1) K114.1) K123.1) K137.1) K150.1) K159.1) K187.1) K201.1) K218.1) K232.1)) (Nat.not_lt.mpr r))
  have ne248 := ne246 _ nb247
  have nb249 : ¬ B214 a16 := fun q => (zb215 _ q).elim nb167 (fun r => absurd (Nat.lt_of_lt_of_le F19.ltb (Nat.le_trans (Nat.le_trans (Nat.le_trans (Nat.le_trans (Nat.le_trans (Nat.le_trans (Nat.le_trans (Nat.le_trans (Nat.le_trans (Nat.le_trans (Nat.le_trans (Nat.le_trans K24.1 K40.1) K49.1) K70.1) K84.1) K93.1) K114.1) K123.1) K137.1) K150.1) K159.1) K187.1) K201.1)) (Nat.not_lt.mpr r))
  have nb250 : ¬ B243 a16 := fun q => (zb242 _ q).elim nb249 (fun r => absurd (Nat.lt_of_lt_of_le F19.ltb (Nat.le_trans (Nat.le_trans (Nat.le_trans (Nat.le_trans (Nat.le_trans (Nat.le_trans (Nat.le_trans (Nat.le_trans (Nat.le_trans (Nat.le_trans (Nat.le_trans (Nat.le_trans (Nat.le_trans (Nat.le_trans K24.1 K40.1) K49.1) K70.1) K84.1) K93.1) K114.1) K123.1) K137.1) K150.1) K159.1) K187.1) K201.1) K218.1) K232.1)) (Nat.not_lt.mpr r))
  have ne251 := ne246 _ nb250
  have nb252 : ¬ B214 a39 := fun q => (zb215 _ q).elim nb169 (fun r => absurd (Nat.lt_of_lt_of_le F41.ltb (Nat.le_trans (Nat.le_trans (Nat.le_trans (Nat.le_trans (Nat.le_trans (Nat.le_trans (Nat.le_trans (Nat.le_trans (Nat.le_trans (Nat.le_trans K49.1 K70.1) K84.1) K93.1) K114.1) K123.1) K137.1) K150.1) K159.1) K187.1) K201.1)) (Nat.not_lt.mpr r))
  have nb253 : ¬ B243 a39 := fun q => (zb242 _ q).elim nb252 (fun r => absurd (Nat.lt_of_lt_of_le F41.ltb (Nat.le_trans (Nat.le_trans (Nat.le_trans (Nat.le_trans (Nat.le_trans (Nat.le_trans (Nat.le_trans (Nat.le_trans (Nat.le_trans (Nat.le_trans (Nat.le_trans (Nat.le_trans K49.1 K70.1) K84.1) K93.1) K114.1) K123.1) K137.1) K150.1) K159.1) K187.1) K201.1) K218.1) K232.1)) (Nat.not_lt.mpr r))
  have ne254 := ne246 _ nb253
  have nb255 : ¬ B214 a83 := fun q => (zb215 _ q).elim nb171 (fun r => absurd (Nat.lt_of_lt_of_le F85.ltb (Nat.le_trans (Nat.le_trans (Nat.le_trans (Nat.le_trans (Nat.le_trans (Nat.le_trans (Nat.le_trans K93.1 K114.1) K123.1) K137.1) K150.1) K159.1) K187.1) K201.1)) (Nat.not_lt.mpr r))
  have nb256 : ¬ B243 a83 := fun q => (zb242 _ q).elim nb255 (fun r => absurd (Nat.lt_of_lt_of_le F85.ltb (Nat.le_trans (Nat.le_trans (Nat.le_trans (Nat.le_trans (Nat.le_trans (Nat.le_trans (Nat.le_trans (Nat.le_trans (Nat.le_trans K93.1 K114.1) K123.1) K137.1) K150.1) K159.1) K187.1) K201.1) K218.1) K232.1)) (Nat.not_lt.mpr r))
  have ne257 := ne246 _ nb256
  have nb258 : ¬ B243 a113 := fun q => (zb242 _ q).elim nb227 (fun r => absurd (Nat.lt_of_lt_of_le F115.ltb (Nat.le_trans (Nat.le_trans (Nat.le_trans (Nat.le_trans (Nat.le_trans (Nat.le_trans (Nat.le_trans K123.1 K137.1) K150.1) K159.1) K187.1) K201.1) K218.1) K232.1)) (Nat.not_lt.mpr r))
  have ne259 := ne246 _ nb258
  have nb260 : ¬ B214 a122 := fun q => (zb215 _ q).elim nb175 (fun r => absurd (Nat.lt_of_lt_of_le E127.lt (Nat.le_trans (Nat.le_trans (Nat.le_trans (Nat.le_trans K137.1 K150.1) K159.1) K187.1) K201.1)) (Nat.not_lt.mpr r))
  have nb261 : ¬ B243 a122 := fun q => (zb242 _ q).elim nb260 (fun r => absurd (Nat.lt_of_lt_of_le E127.lt (Nat.le_trans (Nat.le_trans (Nat.le_trans (Nat.le_trans (Nat.le_trans (Nat.le_trans K137.1 K150.1) K159.1) K187.1) K201.1) K218.1) K232.1)) (Nat.not_lt.mpr r))
  have ne262 := ne246 _ nb261
  have nb263 : ¬ B214 a136 := fun q => (zb215 _ q).elim nb177 (fun r => absurd (Nat.lt_of_lt_of_le F139.ltb (Nat.le_trans (Nat.le_trans (Nat.le_trans K150.1 K159.1) K187.1) K201.1)) (Nat.not_lt.mpr r))
  have nb264 : ¬ B243 a136 := fun q => (zb242 _ q).elim nb263 (fun r => absurd (Nat.lt_of_lt_of_le F139.ltb (Nat.le_trans (Nat.le_trans (Nat.le_trans (Nat.le_trans (Nat.le_trans K150.1 K159.1) K187.1) K201.1) K218.1) K232.1)) (Nat.not_lt.mpr r))
  have ne265 := ne246 _ nb264
  have nb266 : ¬ B214 a149 := fun q => (zb215 _ q).elim nb179 (fun r => absurd (Nat.lt_of_lt_of_le F151.ltb (Nat.le_trans (Nat.le_trans K159.1 K187.1) K201.1)) (Nat.not_lt.mpr r))
  have nb267 : ¬ B243 a149 := fun q => (zb242 _ q).elim nb266 (fun r => absurd (Nat.lt_of_lt_of_le F151.ltb (Nat.le_trans (Nat.le_trans (Nat.le_trans (Nat.le_trans K159.1 K187.1) K201.1) K218.1) K232.1)) (Nat.not_lt.mpr r))
  have ne268 := ne246 _ nb267
  have nb269 : ¬ B214 a186 := fun q => (zb215 _ q).elim F190 (fun r => absurd (Nat.lt_of_lt_of_le F188.ltb K201.1) (Nat.not_lt.mpr r))
  have nb270 : ¬ B243 a186 := fun q => (zb242 _ q).elim nb269 (fun r => absurd (Nat.lt_of_lt_of_le F188.ltb (Nat.le_trans (Nat.le_trans K201.1 K218.1) K232.1)) (Nat.not_lt.mpr r))
  have ne271 := ne246 _ nb270
  have nb272 : ¬ B214 a199 := fun q => (zb215 _ q).elim nb206 (fun r => absurd (Nat.lt_of_lt_of_le F204.lt (Nat.le_refl _)) (Nat.not_lt.mpr r))
  have nb273 : ¬ B243 a199 := fun q => (zb242 _ q).elim nb272 (fun r => absurd (Nat.lt_of_lt_of_le F204.lt (Nat.le_trans K218.1 K232.1)) (Nat.not_lt.mpr r))
  have ne274 := ne246 _ nb273
  have nb275 : ¬ B214 a200 := fun q => (zb215 _ q).elim nb208 (fun r => absurd (Nat.lt_of_lt_of_le F204.ltb (Nat.le_refl _)) (Nat.not_lt.mpr r))
  have nb276 : ¬ B243 a200 := fun q => (zb242 _ q).elim nb275 (fun r => absurd (Nat.lt_of_lt_of_le F204.ltb (Nat.le_trans K218.1 K232.1)) (Nat.not_lt.mpr r))
  have ne277 := ne246 _ nb276
  have nb278 : ¬ B243 a231 := fun q => (zb242 _ q).elim F235 (fun r => absurd (Nat.lt_of_lt_of_le F233.ltb (Nat.le_refl _)) (Nat.not_lt.mpr r))
  have ne279 := ne246 _ nb278
  have F280 := ((F224.keep K232).keep K241)
  have F281 := (F238.keep K241 nin0 nin0)
  refine W.callV (pc' := 64) (W := 0) (argsL := [(.ref a240)]) (st := []) (k' := 71) (n' := 8848) (a := a2) X (c_app (a := a2) (v := a231) (s := a240) (t := a244) (cs := ((((([] : List Int32) ++ [(85 : Int32), (115 : Int32), (97 : Int32), (103 : Int32), (101 : Int32), (58 : Int32), (32 : Int32)]) ++ (syn cs os [(60 : Int32), (116 : Int32), (101 : Int32), (114 : Int32), (109 : Int32), (32 : Int32), (102 : Int32), (105 : Int32), (108 : Int32), (101 : Int32), (62 : Int32)])) ++ [(10 : Int32), (32 : Int32), (32 : Int32), (32 : Int32), (32 : Int32), (32 : Int32), (32 : Int32), (32 : Int32)]) ++ (syn cs os ((([] : List Int32) ++ [(45 : Int32), (45 : Int32), (98 : Int32), (111 : Int32), (111 : Int32), (107 : Int32)]) ++ [(32 : Int32), (60 : Int32), (100 : Int32), (105 : Int32), (114 : Int32), (101 : Int32), (99 : Int32), (116 : Int32), (111 : Int32), (114 : Int32), (121 : Int32), (62 : Int32)])))) (ds := [(10 : Int32), (10 : Int32)]) (cap := (262 + 4 * (cs.length + (ownL os).length))) G X.en F281 S245 (by unfold grow; simp only [List.length_append, List.length_cons, List.length_nil, syn_len]; split <;> omega) g5 nb247 F234 nb278) (w60 G) (w61 G) (nfM (z' := (⟨"java/lang/StringBuilder", "append", "(Ljava/lang/String;)Ljava/lang/StringBuilder;"⟩ : MethodName)) rfl (w63 G)) (w63 G) (w62 G) F280 (w64 G) (w43 G) (by decide) (by decide) (by decide) rfl (lenOf pd41 rfl) rfl rfl (Nat.le_of_eq rfl) d_prog_3_m3_61 rfl (by decide) (by decide) (by decide) (by decide) (kr fun T h282 xr X z283 q284 => ?_)
  obtain ⟨a285, rfl, K286, F287, F288, F289, F290, F291⟩ := q284
  have F292 : Sb Z h282 a2 a285 (((((([] : List Int32) ++ [(85 : Int32), (115 : Int32), (97 : Int32), (103 : Int32), (101 : Int32), (58 : Int32), (32 : Int32)]) ++ (syn cs os [(60 : Int32), (116 : Int32), (101 : Int32), (114 : Int32), (109 : Int32), (32 : Int32), (102 : Int32), (105 : Int32), (108 : Int32), (101 : Int32), (62 : Int32)])) ++ [(10 : Int32), (32 : Int32), (32 : Int32), (32 : Int32), (32 : Int32), (32 : Int32), (32 : Int32), (32 : Int32)]) ++ (syn cs os ((([] : List Int32) ++ [(45 : Int32), (45 : Int32), (98 : Int32), (111 : Int32), (111 : Int32), (107 : Int32)]) ++ [(32 : Int32), (60 : Int32), (100 : Int32), (105 : Int32), (114 : Int32), (101 : Int32), (99 : Int32), (116 : Int32), (111 : Int32), (114 : Int32), (121 : Int32), (62 : Int32)]))) ++ [(10 : Int32), (10 : Int32)]) (262 + 4 * (cs.length + (ownL os).length)) := sbc F287 rfl (by unfold grow; simp only [List.length_append, List.length_cons, List.length_nil, syn_len]; split <;> omega)
  have F293 := (F280.keep K286)
  have en294 := X.en
  refine W.callV (pc' := 67) (W := 0) (argsL := []) (st := []) (k' := 73) (n' := 9142) (a := a2) X (c_toS (a := a2) (v := a285) (cs := (((((([] : List Int32) ++ [(85 : Int32), (115 : Int32), (97 : Int32), (103 : Int32), (101 : Int32), (58 : Int32), (32 : Int32)]) ++ (syn cs os [(60 : Int32), (116 : Int32), (101 : Int32), (114 : Int32), (109 : Int32), (32 : Int32), (102 : Int32), (105 : Int32), (108 : Int32), (101 : Int32), (62 : Int32)])) ++ [(10 : Int32), (32 : Int32), (32 : Int32), (32 : Int32), (32 : Int32), (32 : Int32), (32 : Int32), (32 : Int32)]) ++ (syn cs os ((([] : List Int32) ++ [(45 : Int32), (45 : Int32), (98 : Int32), (111 : Int32), (111 : Int32), (107 : Int32)]) ++ [(32 : Int32), (60 : Int32), (100 : Int32), (105 : Int32), (114 : Int32), (101 : Int32), (99 : Int32), (116 : Int32), (111 : Int32), (114 : Int32), (121 : Int32), (62 : Int32)]))) ++ [(10 : Int32), (10 : Int32)])) (cap := (262 + 4 * (cs.length + (ownL os).length))) G X.en F292 (by simp only [List.length_append, List.length_cons, List.length_nil, syn_len]; omega) (by simp only [List.length_append, List.length_cons, List.length_nil, syn_len]; omega)) (w143 G) (w144 G) (nfM (z' := (⟨"java/lang/StringBuilder", "append", "(Ljava/lang/String;)Ljava/lang/StringBuilder;"⟩ : MethodName)) rfl (w63 G)) (w146 G) (w145 G) F293 (w147 G) (w43 G) (by decide) (by decide) (by decide) rfl (lenOf pd42 rfl) rfl rfl (Nat.le_of_eq rfl) d_prog_3_m3_64 rfl (by decide) (by decide) (by decide) (by decide) (kr fun T h295 xr X z296 q297 => ?_)
  obtain ⟨a298, a299, rfl, K300, g301, g302, F303⟩ := q297
  have g304 : Z.heap.size ≤ a298 := Nat.le_trans (Nat.le_trans hz0 (Nat.le_trans (Nat.le_trans (Nat.le_trans (Nat.le_trans (Nat.le_trans (Nat.le_trans (Nat.le_trans (Nat.le_trans (Nat.le_trans (Nat.le_trans (Nat.le_trans (Nat.le_trans (Nat.le_trans (Nat.le_trans (Nat.le_trans (Nat.le_trans (Nat.le_trans (Nat.le_trans K3.1 K17.1) K24.1) K40.1) K49.1) K70.1) K84.1) K93.1) K114.1) K123.1) K137.1) K150.1) K159.1) K187.1) K201.1) K218.1) K232.1) K241.1) K286.1)) g301
  have nb305 : ¬ B243 a298 := fun q => absurd (en294.2 _ q) (Nat.not_lt.mpr g301)
  have g306 : Z.heap.size ≤ a299 := Nat.le_trans (Nat.le_trans hz0 (Nat.le_trans (Nat.le_trans (Nat.le_trans (Nat.le_trans (Nat.le_trans (Nat.le_trans (Nat.le_trans (Nat.le_trans (Nat.le_trans (Nat.le_trans (Nat.le_trans (Nat.le_trans (Nat.le_trans (Nat.le_trans (Nat.le_trans (Nat.le_trans (Nat.le_trans (Nat.le_trans K3.1 K17.1) K24.1) K40.1) K49.1) K70.1) K84.1) K93.1) K114.1) K123.1) K137.1) K150.1) K159.1) K187.1) K201.1) K218.1) K232.1) K241.1) K286.1)) g302
  have nb307 : ¬ B243 a299 := fun q => absurd (en294.2 _ q) (Nat.not_lt.mpr g302)
  exact W.areturn X d_prog_3_m3_67 rfl rfl rfl rfl (by decide) (by decide) ⟨_, rfl, ⟨a298, a299, rfl, (Keep.trans (Keep.trans (Keep.trans (Keep.trans (Keep.trans (Keep.trans (Keep.trans (Keep.trans (Keep.trans (Keep.trans (Keep.trans (Keep.trans (Keep.trans (Keep.trans (Keep.trans (Keep.trans (Keep.trans (Keep.trans (Keep.trans (Keep.trans (Keep.refl h []) K3 all0) K17 (allS (Or.inr (Nat.le_trans (Nat.le_refl _) g4)) all0)) K24 all0) K40 (allS (Or.inr (Nat.le_trans (Nat.le_refl _) g4)) (allS (Or.inr (Nat.le_trans K3.1 g18)) all0))) K49 all0) K70 all0) K84 (allS (Or.inr (Nat.le_trans (Nat.le_refl _) g4)) (allS (F45.elim (fun q => by rw [q]; exact (Or.inr (Nat.le_trans K3.1 g18))) (fun q => Or.inr (Nat.le_trans (Nat.le_trans (Nat.le_trans K3.1 K17.1) K24.1) q))) all0))) K93 all0) K114 (allS (Or.inr (Nat.le_trans (Nat.le_refl _) g4)) (allS (F89.elim (fun q => by rw [q]; exact (F45.elim (fun q => by rw [q]; exact (Or.inr (Nat.le_trans K3.1 g18))) (fun q => Or.inr (Nat.le_trans (Nat.le_trans (Nat.le_trans K3.1 K17.1) K24.1) q)))) (fun q => Or.inr (Nat.le_trans (Nat.le_trans (Nat.le_trans (Nat.le_trans (Nat.le_trans (Nat.le_trans K3.1 K17.1) K24.1) K40.1) K49.1) K70.1) q))) all0))) K123 all0) K137 (allS (Or.inr (Nat.le_trans (Nat.le_trans (Nat.le_trans (Nat.le_trans (Nat.le_trans (Nat.le_trans (Nat.le_trans (Nat.le_trans (Nat.le_trans K3.1 K17.1) K24.1) K40.1) K49.1) K70.1) K84.1) K93.1) K114.1) g124)) all0)) K150 (allS (Or.inr (Nat.le_trans (Nat.le_trans (Nat.le_trans (Nat.le_trans (Nat.le_trans (Nat.le_trans (Nat.le_trans (Nat.le_trans (Nat.le_trans K3.1 K17.1) K24.1) K40.1) K49.1) K70.1) K84.1) K93.1) K114.1) g124)) (allS (Or.inr (Nat.le_trans (Nat.le_trans (Nat.le_trans (Nat.le_trans (Nat.le_trans (Nat.le_trans (Nat.le_trans (Nat.le_trans (Nat.le_trans (Nat.le_trans K3.1 K17.1) K24.1) K40.1) K49.1) K70.1) K84.1) K93.1) K114.1) K123.1) g138)) all0))) K159 all0) K187 (allS (Or.inr (Nat.le_trans (Nat.le_trans (Nat.le_trans (Nat.le_trans (Nat.le_trans (Nat.le_trans (Nat.le_trans (Nat.le_trans (Nat.le_trans K3.1 K17.1) K24.1) K40.1) K49.1) K70.1) K84.1) K93.1) K114.1) g124)) (allS (F155.elim (fun q => by rw [q]; exact (Or.inr (Nat.le_trans (Nat.le_trans (Nat.le_trans (Nat.le_trans (Nat.le_trans (Nat.le_trans (Nat.le_trans (Nat.le_trans (Nat.le_trans (Nat.le_trans K3.1 K17.1) K24.1) K40.1) K49.1) K70.1) K84.1) K93.1) K114.1) K123.1) g138))) (fun q => Or.inr (Nat.le_trans (Nat.le_trans (Nat.le_trans (Nat.le_trans (Nat.le_trans (Nat.le_trans (Nat.le_trans (Nat.le_trans (Nat.le_trans (Nat.le_trans (Nat.le_trans K3.1 K17.1) K24.1) K40.1) K49.1) K70.1) K84.1) K93.1) K114.1) K123.1) K137.1) q))) all0))) K201 all0) K218 all0) K232 (allS (Or.inr (Nat.le_trans (Nat.le_refl _) g4)) (allS (F119.elim (fun q => by rw [q]; exact (F89.elim (fun q => by rw [q]; exact (F45.elim (fun q => by rw [q]; exact (Or.inr (Nat.le_trans K3.1 g18))) (fun q => Or.inr (Nat.le_trans (Nat.le_trans (Nat.le_trans K3.1 K17.1) K24.1) q)))) (fun q => Or.inr (Nat.le_trans (Nat.le_trans (Nat.le_trans (Nat.le_trans (Nat.le_trans (Nat.le_trans K3.1 K17.1) K24.1) K40.1) K49.1) K70.1) q)))) (fun q => Or.inr (Nat.le_trans (Nat.le_trans (Nat.le_trans (Nat.le_trans (Nat.le_trans (Nat.le_trans (Nat.le_trans (Nat.le_trans K3.1 K17.1) K24.1) K40.1) K49.1) K70.1) K84.1) K93.1) q))) all0))) K241 all0) K286 (allS (Or.inr (Nat.le_trans (Nat.le_refl _) g4)) (allS (F237.elim (fun q => by rw [q]; exact (F119.elim (fun q => by rw [q]; exact (F89.elim (fun q => by rw [q]; exact (F45.elim (fun q => by rw [q]; exact (Or.inr (Nat.le_trans K3.1 g18))) (fun q => Or.inr (Nat.le_trans (Nat.le_trans (Nat.le_trans K3.1 K17.1) K24.1) q)))) (fun q => Or.inr (Nat.le_trans (Nat.le_trans (Nat.le_trans (Nat.le_trans (Nat.le_trans (Nat.le_trans K3.1 K17.1) K24.1) K40.1) K49.1) K70.1) q)))) (fun q => Or.inr (Nat.le_trans (Nat.le_trans (Nat.le_trans (Nat.le_trans (Nat.le_trans (Nat.le_trans (Nat.le_trans (Nat.le_trans K3.1 K17.1) K24.1) K40.1) K49.1) K70.1) K84.1) K93.1) q)))) (fun q => Or.inr (Nat.le_trans (Nat.le_trans (Nat.le_trans (Nat.le_trans (Nat.le_trans (Nat.le_trans (Nat.le_trans (Nat.le_trans (Nat.le_trans (Nat.le_trans (Nat.le_trans (Nat.le_trans (Nat.le_trans (Nat.le_trans (Nat.le_trans (Nat.le_trans K3.1 K17.1) K24.1) K40.1) K49.1) K70.1) K84.1) K93.1) K114.1) K123.1) K137.1) K150.1) K159.1) K187.1) K201.1) K218.1) q))) all0))) K300 all0), (Nat.le_trans (Nat.le_trans (Nat.le_trans (Nat.le_trans (Nat.le_trans (Nat.le_trans (Nat.le_trans (Nat.le_trans (Nat.le_trans (Nat.le_trans (Nat.le_trans (Nat.le_trans (Nat.le_trans (Nat.le_trans (Nat.le_trans (Nat.le_trans (Nat.le_trans (Nat.le_trans (Nat.le_trans K3.1 K17.1) K24.1) K40.1) K49.1) K70.1) K84.1) K93.1) K114.1) K123.1) K137.1) K150.1) K159.1) K187.1) K201.1) K218.1) K232.1) K241.1) K286.1) g301), (Nat.le_trans (Nat.le_trans (Nat.le_trans (Nat.le_trans (Nat.le_trans (Nat.le_trans (Nat.le_trans (Nat.le_trans (Nat.le_trans (Nat.le_trans (Nat.le_trans (Nat.le_trans (Nat.le_trans (Nat.le_trans (Nat.le_trans (Nat.le_trans (Nat.le_trans (Nat.le_trans (Nat.le_trans K3.1 K17.1) K24.1) K40.1) K49.1) K70.1) K84.1) K93.1) K114.1) K123.1) K137.1) K150.1) K159.1) K187.1) K201.1) K218.1) K232.1) K241.1) K286.1) g302), (strc F303 rfl)⟩⟩
def c_lit_rm : Room := { frames := 4, cells := 0, slots := 0, locals := 54 }
set_option maxRecDepth 65536 in
set_option maxHeartbeats 40000000 in
theorem c_lit {l : Launch} {Z : State} {a0 : Array Value} {zC : Int32} {fS : Value} {bO : Addr} {bN : Addr} {bA : Addr} {h : Heap} {B : Addr → Prop} {r rb s sb : Addr} {cs ds : List Int32} {i : Nat} (G : Gl Z a0 zC fS bO bN bA) (hE : En Z B h) (P0 : Str Z h r rb cs) (P1 : Str Z h s sb ds) (P2 : At cs i ds) : Con l Z consts_1 [] (⟨"com/example/compendio/compendio/cli/ArgumentsUsageWithBookPinLaw", "lit", "(Ljava/lang/String;ILjava/lang/String;)Z"⟩ : MethodName) method_6_code 5 (some .boolean) c_lit_rm B h #[(.ref r), (.int i.toInt32), (.ref s)] (fun vR hR BR => vR = some (.int (1 : Int32)) ∧ hR = h ∧ BR = B) := by
  have hz0 := hE.1.1
  refine Con.intro (ls := #[.val (.ref r), .val (.int i.toInt32), .val (.ref s), .unset, .unset]) (plainFor_of_name pn38) G.2.1 hE (fun m => by first | rfl | (simp [entryFrame, mkF, argsToLocals, Value.category]; done) | rfl) ?_
  intro pP eE sS mM blw mth cC T hs X
  have hL := P0.len_lt
  have hD := P1.len_lt
  have hin := P2.2
  refine W.aloadN (pc' := 1) X d_m6_0 rfl rfl rfl ?_
  refine W.callV (pc' := 4) (W := 0) (argsL := []) (st := []) (k' := 0) (n' := 0) (a := s) X (c_len (a := s) (b := sb) (cs := ds) G X.en P1) (w195 G) (w71 G) (nfM (z' := (⟨"java/lang/String", "length", "()I"⟩ : MethodName)) rfl (w73 G)) (w73 G) (w72 G) P1.exa (w74 G) (w6 G) (by decide) (by decide) (by decide) rfl (lenOf pd24 rfl) rfl rfl (Nat.le_of_eq rfl) d_m6_1 rfl (by decide) (by decide) (by decide) (by decide) (kp fun T X => ?_)
  refine W.istoreN (pc' := 5) (ls' := #[.val (.ref r), .val (.int i.toInt32), .val (.ref s), .val (.int ds.length.toInt32), .unset]) X d_m6_4 rfl rfl ?_
  refine W.iconst (pc' := 6) X (1 : Int32) d_m6_5 (by decide) rfl ?_
  refine W.istore (pc' := 8) (ls' := #[.val (.ref r), .val (.int i.toInt32), .val (.ref s), .val (.int ds.length.toInt32), .val (.int (1 : Int32))]) X d_m6_6 rfl rfl ?_
  have b21 : ∀ T : State, Wk l Z consts_1 (⟨"com/example/compendio/compendio/cli/ArgumentsUsageWithBookPinLaw", "lit", "(Ljava/lang/String;ILjava/lang/String;)Z"⟩ : MethodName) method_6_code 5 (some .boolean) c_lit_rm B pP eE sS mM #[(.ref r), (.int i.toInt32), (.ref s)] blw mth cC B T h 0 0 → Go l Z consts_1 c_lit_rm B (fun vR hR BR => vR = some (.int (1 : Int32)) ∧ hR = h ∧ BR = B) pP eE sS mM blw T 722 #[.val (.ref r), .val (.int i.toInt32), .val (.ref s), .val (.int ds.length.toInt32), .val (.int (1 : Int32))] [] := by
    intro T X
    refine W.iload (pc' := 724) X d_m6_722 rfl rfl ?_
    exact W.ireturn X d_m6_724 rfl (by decide) (by decide) (by decide) (by decide) ⟨rfl, rfl, rfl⟩
  have b20 : ∀ T : State, Wk l Z consts_1 (⟨"com/example/compendio/compendio/cli/ArgumentsUsageWithBookPinLaw", "lit", "(Ljava/lang/String;ILjava/lang/String;)Z"⟩ : MethodName) method_6_code 5 (some .boolean) c_lit_rm B pP eE sS mM #[(.ref r), (.int i.toInt32), (.ref s)] blw mth cC B T h 0 0 → Go l Z consts_1 c_lit_rm B (fun vR hR BR => vR = some (.int (1 : Int32)) ∧ hR = h ∧ BR = B) pP eE sS mM blw T 687 #[.val (.ref r), .val (.int i.toInt32), .val (.ref s), .val (.int ds.length.toInt32), .val (.int (1 : Int32))] [] := by
    intro T X
    refine W.iload (pc' := 689) X d_m6_687 rfl rfl ?_
    refine W.ifF (pc' := 692) X d_m6_689 (by decide) rfl ?_
    refine W.iloadN (pc' := 693) X d_m6_692 rfl rfl ?_
    refine W.bipush (pc' := 695) X (20 : Int32) d_m6_693 (by decide) rfl ?_
    by_cases hk : (20 : Int32) < ds.length.toInt32
    · skip
      refine W.icF (pc' := 698) X d_m6_695 (XT.ii_le_f hk) rfl ?_
      have hk' : 20 < ds.length := (lt32 (a := 20) (by decide) hD).mp hk
      have hg := P2.get hk'
      refine W.aloadN (pc' := 699) X d_m6_698 rfl rfl rfl ?_
      refine W.iloadN (pc' := 700) X d_m6_699 rfl rfl ?_
      refine W.bipush (pc' := 702) X (20 : Int32) d_m6_700 (by decide) rfl ?_
      refine W.iadd (pc' := 703) (w := (i + 20).toInt32) X d_m6_702 (add32 (b := 20) (by omega)) rfl ?_
      refine W.callV (pc' := 706) (W := 0) (argsL := [(.int (i + 20).toInt32)]) (st := []) (k' := 0) (n' := 0) (a := r) X (c_ch (a := r) (b := rb) (cs := cs) (i := (i + 20)) G X.en P0 hg.1) (w200 G) (w201 G) (nfM (z' := (⟨"java/lang/String", "length", "()I"⟩ : MethodName)) rfl (w73 G)) (w203 G) (w202 G) P0.exa (w204 G) (w6 G) (by decide) (by decide) (by decide) rfl (lenOf pd45 rfl) rfl rfl (Nat.le_of_eq rfl) d_m6_703 rfl (by decide) (by decide) (by decide) (by decide) (kp fun T X => ?_)
      refine W.aloadN (pc' := 707) X d_m6_706 rfl rfl rfl ?_
      refine W.bipush (pc' := 709) X (20 : Int32) d_m6_707 (by decide) rfl ?_
      refine W.callV (pc' := 712) (W := 1) (argsL := [(.int (20 : Int32))]) (st := [(.int (cs.getD (i + 20) 0))]) (k' := 0) (n' := 0) (a := s) X (c_ch (a := s) (b := sb) (cs := ds) (i := 20) G X.en P1 hk') (w200 G) (w201 G) (nfM (z' := (⟨"java/lang/String", "length", "()I"⟩ : MethodName)) rfl (w73 G)) (w203 G) (w202 G) P1.exa (w204 G) (w6 G) (by decide) (by decide) (by decide) rfl (lenOf pd45 rfl) rfl rfl (Nat.le_of_eq rfl) d_m6_709 rfl (by decide) (by decide) (by decide) (by decide) (kp fun T X => ?_)
      refine W.icF (pc' := 715) X d_m6_712 (XT.ii_ne_f hg.2) rfl ?_
      refine W.iconst (pc' := 716) X (1 : Int32) d_m6_715 (by decide) rfl ?_
      refine W.goto (pc' := 720) X d_m6_716 (by decide) (by decide) ?_
      refine W.istore (pc' := 722) (ls' := #[.val (.ref r), .val (.int i.toInt32), .val (.ref s), .val (.int ds.length.toInt32), .val (.int (1 : Int32))]) X d_m6_720 rfl rfl ?_
      exact b21 T X
    · skip
      refine W.icT (pc' := 715) X d_m6_695 (XT.ii_le_t hk) (by decide) (by decide) ?_
      refine W.iconst (pc' := 716) X (1 : Int32) d_m6_715 (by decide) rfl ?_
      refine W.goto (pc' := 720) X d_m6_716 (by decide) (by decide) ?_
      refine W.istore (pc' := 722) (ls' := #[.val (.ref r), .val (.int i.toInt32), .val (.ref s), .val (.int ds.length.toInt32), .val (.int (1 : Int32))]) X d_m6_720 rfl rfl ?_
      exact b21 T X
  have b19 : ∀ T : State, Wk l Z consts_1 (⟨"com/example/compendio/compendio/cli/ArgumentsUsageWithBookPinLaw", "lit", "(Ljava/lang/String;ILjava/lang/String;)Z"⟩ : MethodName) method_6_code 5 (some .boolean) c_lit_rm B pP eE sS mM #[(.ref r), (.int i.toInt32), (.ref s)] blw mth cC B T h 0 0 → Go l Z consts_1 c_lit_rm B (fun vR hR BR => vR = some (.int (1 : Int32)) ∧ hR = h ∧ BR = B) pP eE sS mM blw T 652 #[.val (.ref r), .val (.int i.toInt32), .val (.ref s), .val (.int ds.length.toInt32), .val (.int (1 : Int32))] [] := by
    intro T X
    refine W.iload (pc' := 654) X d_m6_652 rfl rfl ?_
    refine W.ifF (pc' := 657) X d_m6_654 (by decide) rfl ?_
    refine W.iloadN (pc' := 658) X d_m6_657 rfl rfl ?_
    refine W.bipush (pc' := 660) X (19 : Int32) d_m6_658 (by decide) rfl ?_
    by_cases hk : (19 : Int32) < ds.length.toInt32
    · skip
      refine W.icF (pc' := 663) X d_m6_660 (XT.ii_le_f hk) rfl ?_
      have hk' : 19 < ds.length := (lt32 (a := 19) (by decide) hD).mp hk
      have hg := P2.get hk'
      refine W.aloadN (pc' := 664) X d_m6_663 rfl rfl rfl ?_
      refine W.iloadN (pc' := 665) X d_m6_664 rfl rfl ?_
      refine W.bipush (pc' := 667) X (19 : Int32) d_m6_665 (by decide) rfl ?_
      refine W.iadd (pc' := 668) (w := (i + 19).toInt32) X d_m6_667 (add32 (b := 19) (by omega)) rfl ?_
      refine W.callV (pc' := 671) (W := 0) (argsL := [(.int (i + 19).toInt32)]) (st := []) (k' := 0) (n' := 0) (a := r) X (c_ch (a := r) (b := rb) (cs := cs) (i := (i + 19)) G X.en P0 hg.1) (w200 G) (w201 G) (nfM (z' := (⟨"java/lang/String", "length", "()I"⟩ : MethodName)) rfl (w73 G)) (w203 G) (w202 G) P0.exa (w204 G) (w6 G) (by decide) (by decide) (by decide) rfl (lenOf pd45 rfl) rfl rfl (Nat.le_of_eq rfl) d_m6_668 rfl (by decide) (by decide) (by decide) (by decide) (kp fun T X => ?_)
      refine W.aloadN (pc' := 672) X d_m6_671 rfl rfl rfl ?_
      refine W.bipush (pc' := 674) X (19 : Int32) d_m6_672 (by decide) rfl ?_
      refine W.callV (pc' := 677) (W := 1) (argsL := [(.int (19 : Int32))]) (st := [(.int (cs.getD (i + 19) 0))]) (k' := 0) (n' := 0) (a := s) X (c_ch (a := s) (b := sb) (cs := ds) (i := 19) G X.en P1 hk') (w200 G) (w201 G) (nfM (z' := (⟨"java/lang/String", "length", "()I"⟩ : MethodName)) rfl (w73 G)) (w203 G) (w202 G) P1.exa (w204 G) (w6 G) (by decide) (by decide) (by decide) rfl (lenOf pd45 rfl) rfl rfl (Nat.le_of_eq rfl) d_m6_674 rfl (by decide) (by decide) (by decide) (by decide) (kp fun T X => ?_)
      refine W.icF (pc' := 680) X d_m6_677 (XT.ii_ne_f hg.2) rfl ?_
      refine W.iconst (pc' := 681) X (1 : Int32) d_m6_680 (by decide) rfl ?_
      refine W.goto (pc' := 685) X d_m6_681 (by decide) (by decide) ?_
      refine W.istore (pc' := 687) (ls' := #[.val (.ref r), .val (.int i.toInt32), .val (.ref s), .val (.int ds.length.toInt32), .val (.int (1 : Int32))]) X d_m6_685 rfl rfl ?_
      exact b20 T X
    · skip
      refine W.icT (pc' := 680) X d_m6_660 (XT.ii_le_t hk) (by decide) (by decide) ?_
      refine W.iconst (pc' := 681) X (1 : Int32) d_m6_680 (by decide) rfl ?_
      refine W.goto (pc' := 685) X d_m6_681 (by decide) (by decide) ?_
      refine W.istore (pc' := 687) (ls' := #[.val (.ref r), .val (.int i.toInt32), .val (.ref s), .val (.int ds.length.toInt32), .val (.int (1 : Int32))]) X d_m6_685 rfl rfl ?_
      exact b20 T X
  have b18 : ∀ T : State, Wk l Z consts_1 (⟨"com/example/compendio/compendio/cli/ArgumentsUsageWithBookPinLaw", "lit", "(Ljava/lang/String;ILjava/lang/String;)Z"⟩ : MethodName) method_6_code 5 (some .boolean) c_lit_rm B pP eE sS mM #[(.ref r), (.int i.toInt32), (.ref s)] blw mth cC B T h 0 0 → Go l Z consts_1 c_lit_rm B (fun vR hR BR => vR = some (.int (1 : Int32)) ∧ hR = h ∧ BR = B) pP eE sS mM blw T 617 #[.val (.ref r), .val (.int i.toInt32), .val (.ref s), .val (.int ds.length.toInt32), .val (.int (1 : Int32))] [] := by
    intro T X
    refine W.iload (pc' := 619) X d_m6_617 rfl rfl ?_
    refine W.ifF (pc' := 622) X d_m6_619 (by decide) rfl ?_
    refine W.iloadN (pc' := 623) X d_m6_622 rfl rfl ?_
    refine W.bipush (pc' := 625) X (18 : Int32) d_m6_623 (by decide) rfl ?_
    by_cases hk : (18 : Int32) < ds.length.toInt32
    · skip
      refine W.icF (pc' := 628) X d_m6_625 (XT.ii_le_f hk) rfl ?_
      have hk' : 18 < ds.length := (lt32 (a := 18) (by decide) hD).mp hk
      have hg := P2.get hk'
      refine W.aloadN (pc' := 629) X d_m6_628 rfl rfl rfl ?_
      refine W.iloadN (pc' := 630) X d_m6_629 rfl rfl ?_
      refine W.bipush (pc' := 632) X (18 : Int32) d_m6_630 (by decide) rfl ?_
      refine W.iadd (pc' := 633) (w := (i + 18).toInt32) X d_m6_632 (add32 (b := 18) (by omega)) rfl ?_
      refine W.callV (pc' := 636) (W := 0) (argsL := [(.int (i + 18).toInt32)]) (st := []) (k' := 0) (n' := 0) (a := r) X (c_ch (a := r) (b := rb) (cs := cs) (i := (i + 18)) G X.en P0 hg.1) (w200 G) (w201 G) (nfM (z' := (⟨"java/lang/String", "length", "()I"⟩ : MethodName)) rfl (w73 G)) (w203 G) (w202 G) P0.exa (w204 G) (w6 G) (by decide) (by decide) (by decide) rfl (lenOf pd45 rfl) rfl rfl (Nat.le_of_eq rfl) d_m6_633 rfl (by decide) (by decide) (by decide) (by decide) (kp fun T X => ?_)
      refine W.aloadN (pc' := 637) X d_m6_636 rfl rfl rfl ?_
      refine W.bipush (pc' := 639) X (18 : Int32) d_m6_637 (by decide) rfl ?_
      refine W.callV (pc' := 642) (W := 1) (argsL := [(.int (18 : Int32))]) (st := [(.int (cs.getD (i + 18) 0))]) (k' := 0) (n' := 0) (a := s) X (c_ch (a := s) (b := sb) (cs := ds) (i := 18) G X.en P1 hk') (w200 G) (w201 G) (nfM (z' := (⟨"java/lang/String", "length", "()I"⟩ : MethodName)) rfl (w73 G)) (w203 G) (w202 G) P1.exa (w204 G) (w6 G) (by decide) (by decide) (by decide) rfl (lenOf pd45 rfl) rfl rfl (Nat.le_of_eq rfl) d_m6_639 rfl (by decide) (by decide) (by decide) (by decide) (kp fun T X => ?_)
      refine W.icF (pc' := 645) X d_m6_642 (XT.ii_ne_f hg.2) rfl ?_
      refine W.iconst (pc' := 646) X (1 : Int32) d_m6_645 (by decide) rfl ?_
      refine W.goto (pc' := 650) X d_m6_646 (by decide) (by decide) ?_
      refine W.istore (pc' := 652) (ls' := #[.val (.ref r), .val (.int i.toInt32), .val (.ref s), .val (.int ds.length.toInt32), .val (.int (1 : Int32))]) X d_m6_650 rfl rfl ?_
      exact b19 T X
    · skip
      refine W.icT (pc' := 645) X d_m6_625 (XT.ii_le_t hk) (by decide) (by decide) ?_
      refine W.iconst (pc' := 646) X (1 : Int32) d_m6_645 (by decide) rfl ?_
      refine W.goto (pc' := 650) X d_m6_646 (by decide) (by decide) ?_
      refine W.istore (pc' := 652) (ls' := #[.val (.ref r), .val (.int i.toInt32), .val (.ref s), .val (.int ds.length.toInt32), .val (.int (1 : Int32))]) X d_m6_650 rfl rfl ?_
      exact b19 T X
  have b17 : ∀ T : State, Wk l Z consts_1 (⟨"com/example/compendio/compendio/cli/ArgumentsUsageWithBookPinLaw", "lit", "(Ljava/lang/String;ILjava/lang/String;)Z"⟩ : MethodName) method_6_code 5 (some .boolean) c_lit_rm B pP eE sS mM #[(.ref r), (.int i.toInt32), (.ref s)] blw mth cC B T h 0 0 → Go l Z consts_1 c_lit_rm B (fun vR hR BR => vR = some (.int (1 : Int32)) ∧ hR = h ∧ BR = B) pP eE sS mM blw T 582 #[.val (.ref r), .val (.int i.toInt32), .val (.ref s), .val (.int ds.length.toInt32), .val (.int (1 : Int32))] [] := by
    intro T X
    refine W.iload (pc' := 584) X d_m6_582 rfl rfl ?_
    refine W.ifF (pc' := 587) X d_m6_584 (by decide) rfl ?_
    refine W.iloadN (pc' := 588) X d_m6_587 rfl rfl ?_
    refine W.bipush (pc' := 590) X (17 : Int32) d_m6_588 (by decide) rfl ?_
    by_cases hk : (17 : Int32) < ds.length.toInt32
    · skip
      refine W.icF (pc' := 593) X d_m6_590 (XT.ii_le_f hk) rfl ?_
      have hk' : 17 < ds.length := (lt32 (a := 17) (by decide) hD).mp hk
      have hg := P2.get hk'
      refine W.aloadN (pc' := 594) X d_m6_593 rfl rfl rfl ?_
      refine W.iloadN (pc' := 595) X d_m6_594 rfl rfl ?_
      refine W.bipush (pc' := 597) X (17 : Int32) d_m6_595 (by decide) rfl ?_
      refine W.iadd (pc' := 598) (w := (i + 17).toInt32) X d_m6_597 (add32 (b := 17) (by omega)) rfl ?_
      refine W.callV (pc' := 601) (W := 0) (argsL := [(.int (i + 17).toInt32)]) (st := []) (k' := 0) (n' := 0) (a := r) X (c_ch (a := r) (b := rb) (cs := cs) (i := (i + 17)) G X.en P0 hg.1) (w200 G) (w201 G) (nfM (z' := (⟨"java/lang/String", "length", "()I"⟩ : MethodName)) rfl (w73 G)) (w203 G) (w202 G) P0.exa (w204 G) (w6 G) (by decide) (by decide) (by decide) rfl (lenOf pd45 rfl) rfl rfl (Nat.le_of_eq rfl) d_m6_598 rfl (by decide) (by decide) (by decide) (by decide) (kp fun T X => ?_)
      refine W.aloadN (pc' := 602) X d_m6_601 rfl rfl rfl ?_
      refine W.bipush (pc' := 604) X (17 : Int32) d_m6_602 (by decide) rfl ?_
      refine W.callV (pc' := 607) (W := 1) (argsL := [(.int (17 : Int32))]) (st := [(.int (cs.getD (i + 17) 0))]) (k' := 0) (n' := 0) (a := s) X (c_ch (a := s) (b := sb) (cs := ds) (i := 17) G X.en P1 hk') (w200 G) (w201 G) (nfM (z' := (⟨"java/lang/String", "length", "()I"⟩ : MethodName)) rfl (w73 G)) (w203 G) (w202 G) P1.exa (w204 G) (w6 G) (by decide) (by decide) (by decide) rfl (lenOf pd45 rfl) rfl rfl (Nat.le_of_eq rfl) d_m6_604 rfl (by decide) (by decide) (by decide) (by decide) (kp fun T X => ?_)
      refine W.icF (pc' := 610) X d_m6_607 (XT.ii_ne_f hg.2) rfl ?_
      refine W.iconst (pc' := 611) X (1 : Int32) d_m6_610 (by decide) rfl ?_
      refine W.goto (pc' := 615) X d_m6_611 (by decide) (by decide) ?_
      refine W.istore (pc' := 617) (ls' := #[.val (.ref r), .val (.int i.toInt32), .val (.ref s), .val (.int ds.length.toInt32), .val (.int (1 : Int32))]) X d_m6_615 rfl rfl ?_
      exact b18 T X
    · skip
      refine W.icT (pc' := 610) X d_m6_590 (XT.ii_le_t hk) (by decide) (by decide) ?_
      refine W.iconst (pc' := 611) X (1 : Int32) d_m6_610 (by decide) rfl ?_
      refine W.goto (pc' := 615) X d_m6_611 (by decide) (by decide) ?_
      refine W.istore (pc' := 617) (ls' := #[.val (.ref r), .val (.int i.toInt32), .val (.ref s), .val (.int ds.length.toInt32), .val (.int (1 : Int32))]) X d_m6_615 rfl rfl ?_
      exact b18 T X
  have b16 : ∀ T : State, Wk l Z consts_1 (⟨"com/example/compendio/compendio/cli/ArgumentsUsageWithBookPinLaw", "lit", "(Ljava/lang/String;ILjava/lang/String;)Z"⟩ : MethodName) method_6_code 5 (some .boolean) c_lit_rm B pP eE sS mM #[(.ref r), (.int i.toInt32), (.ref s)] blw mth cC B T h 0 0 → Go l Z consts_1 c_lit_rm B (fun vR hR BR => vR = some (.int (1 : Int32)) ∧ hR = h ∧ BR = B) pP eE sS mM blw T 547 #[.val (.ref r), .val (.int i.toInt32), .val (.ref s), .val (.int ds.length.toInt32), .val (.int (1 : Int32))] [] := by
    intro T X
    refine W.iload (pc' := 549) X d_m6_547 rfl rfl ?_
    refine W.ifF (pc' := 552) X d_m6_549 (by decide) rfl ?_
    refine W.iloadN (pc' := 553) X d_m6_552 rfl rfl ?_
    refine W.bipush (pc' := 555) X (16 : Int32) d_m6_553 (by decide) rfl ?_
    by_cases hk : (16 : Int32) < ds.length.toInt32
    · skip
      refine W.icF (pc' := 558) X d_m6_555 (XT.ii_le_f hk) rfl ?_
      have hk' : 16 < ds.length := (lt32 (a := 16) (by decide) hD).mp hk
      have hg := P2.get hk'
      refine W.aloadN (pc' := 559) X d_m6_558 rfl rfl rfl ?_
      refine W.iloadN (pc' := 560) X d_m6_559 rfl rfl ?_
      refine W.bipush (pc' := 562) X (16 : Int32) d_m6_560 (by decide) rfl ?_
      refine W.iadd (pc' := 563) (w := (i + 16).toInt32) X d_m6_562 (add32 (b := 16) (by omega)) rfl ?_
      refine W.callV (pc' := 566) (W := 0) (argsL := [(.int (i + 16).toInt32)]) (st := []) (k' := 0) (n' := 0) (a := r) X (c_ch (a := r) (b := rb) (cs := cs) (i := (i + 16)) G X.en P0 hg.1) (w200 G) (w201 G) (nfM (z' := (⟨"java/lang/String", "length", "()I"⟩ : MethodName)) rfl (w73 G)) (w203 G) (w202 G) P0.exa (w204 G) (w6 G) (by decide) (by decide) (by decide) rfl (lenOf pd45 rfl) rfl rfl (Nat.le_of_eq rfl) d_m6_563 rfl (by decide) (by decide) (by decide) (by decide) (kp fun T X => ?_)
      refine W.aloadN (pc' := 567) X d_m6_566 rfl rfl rfl ?_
      refine W.bipush (pc' := 569) X (16 : Int32) d_m6_567 (by decide) rfl ?_
      refine W.callV (pc' := 572) (W := 1) (argsL := [(.int (16 : Int32))]) (st := [(.int (cs.getD (i + 16) 0))]) (k' := 0) (n' := 0) (a := s) X (c_ch (a := s) (b := sb) (cs := ds) (i := 16) G X.en P1 hk') (w200 G) (w201 G) (nfM (z' := (⟨"java/lang/String", "length", "()I"⟩ : MethodName)) rfl (w73 G)) (w203 G) (w202 G) P1.exa (w204 G) (w6 G) (by decide) (by decide) (by decide) rfl (lenOf pd45 rfl) rfl rfl (Nat.le_of_eq rfl) d_m6_569 rfl (by decide) (by decide) (by decide) (by decide) (kp fun T X => ?_)
      refine W.icF (pc' := 575) X d_m6_572 (XT.ii_ne_f hg.2) rfl ?_
      refine W.iconst (pc' := 576) X (1 : Int32) d_m6_575 (by decide) rfl ?_
      refine W.goto (pc' := 580) X d_m6_576 (by decide) (by decide) ?_
      refine W.istore (pc' := 582) (ls' := #[.val (.ref r), .val (.int i.toInt32), .val (.ref s), .val (.int ds.length.toInt32), .val (.int (1 : Int32))]) X d_m6_580 rfl rfl ?_
      exact b17 T X
    · skip
      refine W.icT (pc' := 575) X d_m6_555 (XT.ii_le_t hk) (by decide) (by decide) ?_
      refine W.iconst (pc' := 576) X (1 : Int32) d_m6_575 (by decide) rfl ?_
      refine W.goto (pc' := 580) X d_m6_576 (by decide) (by decide) ?_
      refine W.istore (pc' := 582) (ls' := #[.val (.ref r), .val (.int i.toInt32), .val (.ref s), .val (.int ds.length.toInt32), .val (.int (1 : Int32))]) X d_m6_580 rfl rfl ?_
      exact b17 T X
  have b15 : ∀ T : State, Wk l Z consts_1 (⟨"com/example/compendio/compendio/cli/ArgumentsUsageWithBookPinLaw", "lit", "(Ljava/lang/String;ILjava/lang/String;)Z"⟩ : MethodName) method_6_code 5 (some .boolean) c_lit_rm B pP eE sS mM #[(.ref r), (.int i.toInt32), (.ref s)] blw mth cC B T h 0 0 → Go l Z consts_1 c_lit_rm B (fun vR hR BR => vR = some (.int (1 : Int32)) ∧ hR = h ∧ BR = B) pP eE sS mM blw T 512 #[.val (.ref r), .val (.int i.toInt32), .val (.ref s), .val (.int ds.length.toInt32), .val (.int (1 : Int32))] [] := by
    intro T X
    refine W.iload (pc' := 514) X d_m6_512 rfl rfl ?_
    refine W.ifF (pc' := 517) X d_m6_514 (by decide) rfl ?_
    refine W.iloadN (pc' := 518) X d_m6_517 rfl rfl ?_
    refine W.bipush (pc' := 520) X (15 : Int32) d_m6_518 (by decide) rfl ?_
    by_cases hk : (15 : Int32) < ds.length.toInt32
    · skip
      refine W.icF (pc' := 523) X d_m6_520 (XT.ii_le_f hk) rfl ?_
      have hk' : 15 < ds.length := (lt32 (a := 15) (by decide) hD).mp hk
      have hg := P2.get hk'
      refine W.aloadN (pc' := 524) X d_m6_523 rfl rfl rfl ?_
      refine W.iloadN (pc' := 525) X d_m6_524 rfl rfl ?_
      refine W.bipush (pc' := 527) X (15 : Int32) d_m6_525 (by decide) rfl ?_
      refine W.iadd (pc' := 528) (w := (i + 15).toInt32) X d_m6_527 (add32 (b := 15) (by omega)) rfl ?_
      refine W.callV (pc' := 531) (W := 0) (argsL := [(.int (i + 15).toInt32)]) (st := []) (k' := 0) (n' := 0) (a := r) X (c_ch (a := r) (b := rb) (cs := cs) (i := (i + 15)) G X.en P0 hg.1) (w200 G) (w201 G) (nfM (z' := (⟨"java/lang/String", "length", "()I"⟩ : MethodName)) rfl (w73 G)) (w203 G) (w202 G) P0.exa (w204 G) (w6 G) (by decide) (by decide) (by decide) rfl (lenOf pd45 rfl) rfl rfl (Nat.le_of_eq rfl) d_m6_528 rfl (by decide) (by decide) (by decide) (by decide) (kp fun T X => ?_)
      refine W.aloadN (pc' := 532) X d_m6_531 rfl rfl rfl ?_
      refine W.bipush (pc' := 534) X (15 : Int32) d_m6_532 (by decide) rfl ?_
      refine W.callV (pc' := 537) (W := 1) (argsL := [(.int (15 : Int32))]) (st := [(.int (cs.getD (i + 15) 0))]) (k' := 0) (n' := 0) (a := s) X (c_ch (a := s) (b := sb) (cs := ds) (i := 15) G X.en P1 hk') (w200 G) (w201 G) (nfM (z' := (⟨"java/lang/String", "length", "()I"⟩ : MethodName)) rfl (w73 G)) (w203 G) (w202 G) P1.exa (w204 G) (w6 G) (by decide) (by decide) (by decide) rfl (lenOf pd45 rfl) rfl rfl (Nat.le_of_eq rfl) d_m6_534 rfl (by decide) (by decide) (by decide) (by decide) (kp fun T X => ?_)
      refine W.icF (pc' := 540) X d_m6_537 (XT.ii_ne_f hg.2) rfl ?_
      refine W.iconst (pc' := 541) X (1 : Int32) d_m6_540 (by decide) rfl ?_
      refine W.goto (pc' := 545) X d_m6_541 (by decide) (by decide) ?_
      refine W.istore (pc' := 547) (ls' := #[.val (.ref r), .val (.int i.toInt32), .val (.ref s), .val (.int ds.length.toInt32), .val (.int (1 : Int32))]) X d_m6_545 rfl rfl ?_
      exact b16 T X
    · skip
      refine W.icT (pc' := 540) X d_m6_520 (XT.ii_le_t hk) (by decide) (by decide) ?_
      refine W.iconst (pc' := 541) X (1 : Int32) d_m6_540 (by decide) rfl ?_
      refine W.goto (pc' := 545) X d_m6_541 (by decide) (by decide) ?_
      refine W.istore (pc' := 547) (ls' := #[.val (.ref r), .val (.int i.toInt32), .val (.ref s), .val (.int ds.length.toInt32), .val (.int (1 : Int32))]) X d_m6_545 rfl rfl ?_
      exact b16 T X
  have b14 : ∀ T : State, Wk l Z consts_1 (⟨"com/example/compendio/compendio/cli/ArgumentsUsageWithBookPinLaw", "lit", "(Ljava/lang/String;ILjava/lang/String;)Z"⟩ : MethodName) method_6_code 5 (some .boolean) c_lit_rm B pP eE sS mM #[(.ref r), (.int i.toInt32), (.ref s)] blw mth cC B T h 0 0 → Go l Z consts_1 c_lit_rm B (fun vR hR BR => vR = some (.int (1 : Int32)) ∧ hR = h ∧ BR = B) pP eE sS mM blw T 477 #[.val (.ref r), .val (.int i.toInt32), .val (.ref s), .val (.int ds.length.toInt32), .val (.int (1 : Int32))] [] := by
    intro T X
    refine W.iload (pc' := 479) X d_m6_477 rfl rfl ?_
    refine W.ifF (pc' := 482) X d_m6_479 (by decide) rfl ?_
    refine W.iloadN (pc' := 483) X d_m6_482 rfl rfl ?_
    refine W.bipush (pc' := 485) X (14 : Int32) d_m6_483 (by decide) rfl ?_
    by_cases hk : (14 : Int32) < ds.length.toInt32
    · skip
      refine W.icF (pc' := 488) X d_m6_485 (XT.ii_le_f hk) rfl ?_
      have hk' : 14 < ds.length := (lt32 (a := 14) (by decide) hD).mp hk
      have hg := P2.get hk'
      refine W.aloadN (pc' := 489) X d_m6_488 rfl rfl rfl ?_
      refine W.iloadN (pc' := 490) X d_m6_489 rfl rfl ?_
      refine W.bipush (pc' := 492) X (14 : Int32) d_m6_490 (by decide) rfl ?_
      refine W.iadd (pc' := 493) (w := (i + 14).toInt32) X d_m6_492 (add32 (b := 14) (by omega)) rfl ?_
      refine W.callV (pc' := 496) (W := 0) (argsL := [(.int (i + 14).toInt32)]) (st := []) (k' := 0) (n' := 0) (a := r) X (c_ch (a := r) (b := rb) (cs := cs) (i := (i + 14)) G X.en P0 hg.1) (w200 G) (w201 G) (nfM (z' := (⟨"java/lang/String", "length", "()I"⟩ : MethodName)) rfl (w73 G)) (w203 G) (w202 G) P0.exa (w204 G) (w6 G) (by decide) (by decide) (by decide) rfl (lenOf pd45 rfl) rfl rfl (Nat.le_of_eq rfl) d_m6_493 rfl (by decide) (by decide) (by decide) (by decide) (kp fun T X => ?_)
      refine W.aloadN (pc' := 497) X d_m6_496 rfl rfl rfl ?_
      refine W.bipush (pc' := 499) X (14 : Int32) d_m6_497 (by decide) rfl ?_
      refine W.callV (pc' := 502) (W := 1) (argsL := [(.int (14 : Int32))]) (st := [(.int (cs.getD (i + 14) 0))]) (k' := 0) (n' := 0) (a := s) X (c_ch (a := s) (b := sb) (cs := ds) (i := 14) G X.en P1 hk') (w200 G) (w201 G) (nfM (z' := (⟨"java/lang/String", "length", "()I"⟩ : MethodName)) rfl (w73 G)) (w203 G) (w202 G) P1.exa (w204 G) (w6 G) (by decide) (by decide) (by decide) rfl (lenOf pd45 rfl) rfl rfl (Nat.le_of_eq rfl) d_m6_499 rfl (by decide) (by decide) (by decide) (by decide) (kp fun T X => ?_)
      refine W.icF (pc' := 505) X d_m6_502 (XT.ii_ne_f hg.2) rfl ?_
      refine W.iconst (pc' := 506) X (1 : Int32) d_m6_505 (by decide) rfl ?_
      refine W.goto (pc' := 510) X d_m6_506 (by decide) (by decide) ?_
      refine W.istore (pc' := 512) (ls' := #[.val (.ref r), .val (.int i.toInt32), .val (.ref s), .val (.int ds.length.toInt32), .val (.int (1 : Int32))]) X d_m6_510 rfl rfl ?_
      exact b15 T X
    · skip
      refine W.icT (pc' := 505) X d_m6_485 (XT.ii_le_t hk) (by decide) (by decide) ?_
      refine W.iconst (pc' := 506) X (1 : Int32) d_m6_505 (by decide) rfl ?_
      refine W.goto (pc' := 510) X d_m6_506 (by decide) (by decide) ?_
      refine W.istore (pc' := 512) (ls' := #[.val (.ref r), .val (.int i.toInt32), .val (.ref s), .val (.int ds.length.toInt32), .val (.int (1 : Int32))]) X d_m6_510 rfl rfl ?_
      exact b15 T X
  have b13 : ∀ T : State, Wk l Z consts_1 (⟨"com/example/compendio/compendio/cli/ArgumentsUsageWithBookPinLaw", "lit", "(Ljava/lang/String;ILjava/lang/String;)Z"⟩ : MethodName) method_6_code 5 (some .boolean) c_lit_rm B pP eE sS mM #[(.ref r), (.int i.toInt32), (.ref s)] blw mth cC B T h 0 0 → Go l Z consts_1 c_lit_rm B (fun vR hR BR => vR = some (.int (1 : Int32)) ∧ hR = h ∧ BR = B) pP eE sS mM blw T 442 #[.val (.ref r), .val (.int i.toInt32), .val (.ref s), .val (.int ds.length.toInt32), .val (.int (1 : Int32))] [] := by
    intro T X
    refine W.iload (pc' := 444) X d_m6_442 rfl rfl ?_
    refine W.ifF (pc' := 447) X d_m6_444 (by decide) rfl ?_
    refine W.iloadN (pc' := 448) X d_m6_447 rfl rfl ?_
    refine W.bipush (pc' := 450) X (13 : Int32) d_m6_448 (by decide) rfl ?_
    by_cases hk : (13 : Int32) < ds.length.toInt32
    · skip
      refine W.icF (pc' := 453) X d_m6_450 (XT.ii_le_f hk) rfl ?_
      have hk' : 13 < ds.length := (lt32 (a := 13) (by decide) hD).mp hk
      have hg := P2.get hk'
      refine W.aloadN (pc' := 454) X d_m6_453 rfl rfl rfl ?_
      refine W.iloadN (pc' := 455) X d_m6_454 rfl rfl ?_
      refine W.bipush (pc' := 457) X (13 : Int32) d_m6_455 (by decide) rfl ?_
      refine W.iadd (pc' := 458) (w := (i + 13).toInt32) X d_m6_457 (add32 (b := 13) (by omega)) rfl ?_
      refine W.callV (pc' := 461) (W := 0) (argsL := [(.int (i + 13).toInt32)]) (st := []) (k' := 0) (n' := 0) (a := r) X (c_ch (a := r) (b := rb) (cs := cs) (i := (i + 13)) G X.en P0 hg.1) (w200 G) (w201 G) (nfM (z' := (⟨"java/lang/String", "length", "()I"⟩ : MethodName)) rfl (w73 G)) (w203 G) (w202 G) P0.exa (w204 G) (w6 G) (by decide) (by decide) (by decide) rfl (lenOf pd45 rfl) rfl rfl (Nat.le_of_eq rfl) d_m6_458 rfl (by decide) (by decide) (by decide) (by decide) (kp fun T X => ?_)
      refine W.aloadN (pc' := 462) X d_m6_461 rfl rfl rfl ?_
      refine W.bipush (pc' := 464) X (13 : Int32) d_m6_462 (by decide) rfl ?_
      refine W.callV (pc' := 467) (W := 1) (argsL := [(.int (13 : Int32))]) (st := [(.int (cs.getD (i + 13) 0))]) (k' := 0) (n' := 0) (a := s) X (c_ch (a := s) (b := sb) (cs := ds) (i := 13) G X.en P1 hk') (w200 G) (w201 G) (nfM (z' := (⟨"java/lang/String", "length", "()I"⟩ : MethodName)) rfl (w73 G)) (w203 G) (w202 G) P1.exa (w204 G) (w6 G) (by decide) (by decide) (by decide) rfl (lenOf pd45 rfl) rfl rfl (Nat.le_of_eq rfl) d_m6_464 rfl (by decide) (by decide) (by decide) (by decide) (kp fun T X => ?_)
      refine W.icF (pc' := 470) X d_m6_467 (XT.ii_ne_f hg.2) rfl ?_
      refine W.iconst (pc' := 471) X (1 : Int32) d_m6_470 (by decide) rfl ?_
      refine W.goto (pc' := 475) X d_m6_471 (by decide) (by decide) ?_
      refine W.istore (pc' := 477) (ls' := #[.val (.ref r), .val (.int i.toInt32), .val (.ref s), .val (.int ds.length.toInt32), .val (.int (1 : Int32))]) X d_m6_475 rfl rfl ?_
      exact b14 T X
    · skip
      refine W.icT (pc' := 470) X d_m6_450 (XT.ii_le_t hk) (by decide) (by decide) ?_
      refine W.iconst (pc' := 471) X (1 : Int32) d_m6_470 (by decide) rfl ?_
      refine W.goto (pc' := 475) X d_m6_471 (by decide) (by decide) ?_
      refine W.istore (pc' := 477) (ls' := #[.val (.ref r), .val (.int i.toInt32), .val (.ref s), .val (.int ds.length.toInt32), .val (.int (1 : Int32))]) X d_m6_475 rfl rfl ?_
      exact b14 T X
  have b12 : ∀ T : State, Wk l Z consts_1 (⟨"com/example/compendio/compendio/cli/ArgumentsUsageWithBookPinLaw", "lit", "(Ljava/lang/String;ILjava/lang/String;)Z"⟩ : MethodName) method_6_code 5 (some .boolean) c_lit_rm B pP eE sS mM #[(.ref r), (.int i.toInt32), (.ref s)] blw mth cC B T h 0 0 → Go l Z consts_1 c_lit_rm B (fun vR hR BR => vR = some (.int (1 : Int32)) ∧ hR = h ∧ BR = B) pP eE sS mM blw T 407 #[.val (.ref r), .val (.int i.toInt32), .val (.ref s), .val (.int ds.length.toInt32), .val (.int (1 : Int32))] [] := by
    intro T X
    refine W.iload (pc' := 409) X d_m6_407 rfl rfl ?_
    refine W.ifF (pc' := 412) X d_m6_409 (by decide) rfl ?_
    refine W.iloadN (pc' := 413) X d_m6_412 rfl rfl ?_
    refine W.bipush (pc' := 415) X (12 : Int32) d_m6_413 (by decide) rfl ?_
    by_cases hk : (12 : Int32) < ds.length.toInt32
    · skip
      refine W.icF (pc' := 418) X d_m6_415 (XT.ii_le_f hk) rfl ?_
      have hk' : 12 < ds.length := (lt32 (a := 12) (by decide) hD).mp hk
      have hg := P2.get hk'
      refine W.aloadN (pc' := 419) X d_m6_418 rfl rfl rfl ?_
      refine W.iloadN (pc' := 420) X d_m6_419 rfl rfl ?_
      refine W.bipush (pc' := 422) X (12 : Int32) d_m6_420 (by decide) rfl ?_
      refine W.iadd (pc' := 423) (w := (i + 12).toInt32) X d_m6_422 (add32 (b := 12) (by omega)) rfl ?_
      refine W.callV (pc' := 426) (W := 0) (argsL := [(.int (i + 12).toInt32)]) (st := []) (k' := 0) (n' := 0) (a := r) X (c_ch (a := r) (b := rb) (cs := cs) (i := (i + 12)) G X.en P0 hg.1) (w200 G) (w201 G) (nfM (z' := (⟨"java/lang/String", "length", "()I"⟩ : MethodName)) rfl (w73 G)) (w203 G) (w202 G) P0.exa (w204 G) (w6 G) (by decide) (by decide) (by decide) rfl (lenOf pd45 rfl) rfl rfl (Nat.le_of_eq rfl) d_m6_423 rfl (by decide) (by decide) (by decide) (by decide) (kp fun T X => ?_)
      refine W.aloadN (pc' := 427) X d_m6_426 rfl rfl rfl ?_
      refine W.bipush (pc' := 429) X (12 : Int32) d_m6_427 (by decide) rfl ?_
      refine W.callV (pc' := 432) (W := 1) (argsL := [(.int (12 : Int32))]) (st := [(.int (cs.getD (i + 12) 0))]) (k' := 0) (n' := 0) (a := s) X (c_ch (a := s) (b := sb) (cs := ds) (i := 12) G X.en P1 hk') (w200 G) (w201 G) (nfM (z' := (⟨"java/lang/String", "length", "()I"⟩ : MethodName)) rfl (w73 G)) (w203 G) (w202 G) P1.exa (w204 G) (w6 G) (by decide) (by decide) (by decide) rfl (lenOf pd45 rfl) rfl rfl (Nat.le_of_eq rfl) d_m6_429 rfl (by decide) (by decide) (by decide) (by decide) (kp fun T X => ?_)
      refine W.icF (pc' := 435) X d_m6_432 (XT.ii_ne_f hg.2) rfl ?_
      refine W.iconst (pc' := 436) X (1 : Int32) d_m6_435 (by decide) rfl ?_
      refine W.goto (pc' := 440) X d_m6_436 (by decide) (by decide) ?_
      refine W.istore (pc' := 442) (ls' := #[.val (.ref r), .val (.int i.toInt32), .val (.ref s), .val (.int ds.length.toInt32), .val (.int (1 : Int32))]) X d_m6_440 rfl rfl ?_
      exact b13 T X
    · skip
      refine W.icT (pc' := 435) X d_m6_415 (XT.ii_le_t hk) (by decide) (by decide) ?_
      refine W.iconst (pc' := 436) X (1 : Int32) d_m6_435 (by decide) rfl ?_
      refine W.goto (pc' := 440) X d_m6_436 (by decide) (by decide) ?_
      refine W.istore (pc' := 442) (ls' := #[.val (.ref r), .val (.int i.toInt32), .val (.ref s), .val (.int ds.length.toInt32), .val (.int (1 : Int32))]) X d_m6_440 rfl rfl ?_
      exact b13 T X
  have b11 : ∀ T : State, Wk l Z consts_1 (⟨"com/example/compendio/compendio/cli/ArgumentsUsageWithBookPinLaw", "lit", "(Ljava/lang/String;ILjava/lang/String;)Z"⟩ : MethodName) method_6_code 5 (some .boolean) c_lit_rm B pP eE sS mM #[(.ref r), (.int i.toInt32), (.ref s)] blw mth cC B T h 0 0 → Go l Z consts_1 c_lit_rm B (fun vR hR BR => vR = some (.int (1 : Int32)) ∧ hR = h ∧ BR = B) pP eE sS mM blw T 372 #[.val (.ref r), .val (.int i.toInt32), .val (.ref s), .val (.int ds.length.toInt32), .val (.int (1 : Int32))] [] := by
    intro T X
    refine W.iload (pc' := 374) X d_m6_372 rfl rfl ?_
    refine W.ifF (pc' := 377) X d_m6_374 (by decide) rfl ?_
    refine W.iloadN (pc' := 378) X d_m6_377 rfl rfl ?_
    refine W.bipush (pc' := 380) X (11 : Int32) d_m6_378 (by decide) rfl ?_
    by_cases hk : (11 : Int32) < ds.length.toInt32
    · skip
      refine W.icF (pc' := 383) X d_m6_380 (XT.ii_le_f hk) rfl ?_
      have hk' : 11 < ds.length := (lt32 (a := 11) (by decide) hD).mp hk
      have hg := P2.get hk'
      refine W.aloadN (pc' := 384) X d_m6_383 rfl rfl rfl ?_
      refine W.iloadN (pc' := 385) X d_m6_384 rfl rfl ?_
      refine W.bipush (pc' := 387) X (11 : Int32) d_m6_385 (by decide) rfl ?_
      refine W.iadd (pc' := 388) (w := (i + 11).toInt32) X d_m6_387 (add32 (b := 11) (by omega)) rfl ?_
      refine W.callV (pc' := 391) (W := 0) (argsL := [(.int (i + 11).toInt32)]) (st := []) (k' := 0) (n' := 0) (a := r) X (c_ch (a := r) (b := rb) (cs := cs) (i := (i + 11)) G X.en P0 hg.1) (w200 G) (w201 G) (nfM (z' := (⟨"java/lang/String", "length", "()I"⟩ : MethodName)) rfl (w73 G)) (w203 G) (w202 G) P0.exa (w204 G) (w6 G) (by decide) (by decide) (by decide) rfl (lenOf pd45 rfl) rfl rfl (Nat.le_of_eq rfl) d_m6_388 rfl (by decide) (by decide) (by decide) (by decide) (kp fun T X => ?_)
      refine W.aloadN (pc' := 392) X d_m6_391 rfl rfl rfl ?_
      refine W.bipush (pc' := 394) X (11 : Int32) d_m6_392 (by decide) rfl ?_
      refine W.callV (pc' := 397) (W := 1) (argsL := [(.int (11 : Int32))]) (st := [(.int (cs.getD (i + 11) 0))]) (k' := 0) (n' := 0) (a := s) X (c_ch (a := s) (b := sb) (cs := ds) (i := 11) G X.en P1 hk') (w200 G) (w201 G) (nfM (z' := (⟨"java/lang/String", "length", "()I"⟩ : MethodName)) rfl (w73 G)) (w203 G) (w202 G) P1.exa (w204 G) (w6 G) (by decide) (by decide) (by decide) rfl (lenOf pd45 rfl) rfl rfl (Nat.le_of_eq rfl) d_m6_394 rfl (by decide) (by decide) (by decide) (by decide) (kp fun T X => ?_)
      refine W.icF (pc' := 400) X d_m6_397 (XT.ii_ne_f hg.2) rfl ?_
      refine W.iconst (pc' := 401) X (1 : Int32) d_m6_400 (by decide) rfl ?_
      refine W.goto (pc' := 405) X d_m6_401 (by decide) (by decide) ?_
      refine W.istore (pc' := 407) (ls' := #[.val (.ref r), .val (.int i.toInt32), .val (.ref s), .val (.int ds.length.toInt32), .val (.int (1 : Int32))]) X d_m6_405 rfl rfl ?_
      exact b12 T X
    · skip
      refine W.icT (pc' := 400) X d_m6_380 (XT.ii_le_t hk) (by decide) (by decide) ?_
      refine W.iconst (pc' := 401) X (1 : Int32) d_m6_400 (by decide) rfl ?_
      refine W.goto (pc' := 405) X d_m6_401 (by decide) (by decide) ?_
      refine W.istore (pc' := 407) (ls' := #[.val (.ref r), .val (.int i.toInt32), .val (.ref s), .val (.int ds.length.toInt32), .val (.int (1 : Int32))]) X d_m6_405 rfl rfl ?_
      exact b12 T X
  have b10 : ∀ T : State, Wk l Z consts_1 (⟨"com/example/compendio/compendio/cli/ArgumentsUsageWithBookPinLaw", "lit", "(Ljava/lang/String;ILjava/lang/String;)Z"⟩ : MethodName) method_6_code 5 (some .boolean) c_lit_rm B pP eE sS mM #[(.ref r), (.int i.toInt32), (.ref s)] blw mth cC B T h 0 0 → Go l Z consts_1 c_lit_rm B (fun vR hR BR => vR = some (.int (1 : Int32)) ∧ hR = h ∧ BR = B) pP eE sS mM blw T 337 #[.val (.ref r), .val (.int i.toInt32), .val (.ref s), .val (.int ds.length.toInt32), .val (.int (1 : Int32))] [] := by
    intro T X
    refine W.iload (pc' := 339) X d_m6_337 rfl rfl ?_
    refine W.ifF (pc' := 342) X d_m6_339 (by decide) rfl ?_
    refine W.iloadN (pc' := 343) X d_m6_342 rfl rfl ?_
    refine W.bipush (pc' := 345) X (10 : Int32) d_m6_343 (by decide) rfl ?_
    by_cases hk : (10 : Int32) < ds.length.toInt32
    · skip
      refine W.icF (pc' := 348) X d_m6_345 (XT.ii_le_f hk) rfl ?_
      have hk' : 10 < ds.length := (lt32 (a := 10) (by decide) hD).mp hk
      have hg := P2.get hk'
      refine W.aloadN (pc' := 349) X d_m6_348 rfl rfl rfl ?_
      refine W.iloadN (pc' := 350) X d_m6_349 rfl rfl ?_
      refine W.bipush (pc' := 352) X (10 : Int32) d_m6_350 (by decide) rfl ?_
      refine W.iadd (pc' := 353) (w := (i + 10).toInt32) X d_m6_352 (add32 (b := 10) (by omega)) rfl ?_
      refine W.callV (pc' := 356) (W := 0) (argsL := [(.int (i + 10).toInt32)]) (st := []) (k' := 0) (n' := 0) (a := r) X (c_ch (a := r) (b := rb) (cs := cs) (i := (i + 10)) G X.en P0 hg.1) (w200 G) (w201 G) (nfM (z' := (⟨"java/lang/String", "length", "()I"⟩ : MethodName)) rfl (w73 G)) (w203 G) (w202 G) P0.exa (w204 G) (w6 G) (by decide) (by decide) (by decide) rfl (lenOf pd45 rfl) rfl rfl (Nat.le_of_eq rfl) d_m6_353 rfl (by decide) (by decide) (by decide) (by decide) (kp fun T X => ?_)
      refine W.aloadN (pc' := 357) X d_m6_356 rfl rfl rfl ?_
      refine W.bipush (pc' := 359) X (10 : Int32) d_m6_357 (by decide) rfl ?_
      refine W.callV (pc' := 362) (W := 1) (argsL := [(.int (10 : Int32))]) (st := [(.int (cs.getD (i + 10) 0))]) (k' := 0) (n' := 0) (a := s) X (c_ch (a := s) (b := sb) (cs := ds) (i := 10) G X.en P1 hk') (w200 G) (w201 G) (nfM (z' := (⟨"java/lang/String", "length", "()I"⟩ : MethodName)) rfl (w73 G)) (w203 G) (w202 G) P1.exa (w204 G) (w6 G) (by decide) (by decide) (by decide) rfl (lenOf pd45 rfl) rfl rfl (Nat.le_of_eq rfl) d_m6_359 rfl (by decide) (by decide) (by decide) (by decide) (kp fun T X => ?_)
      refine W.icF (pc' := 365) X d_m6_362 (XT.ii_ne_f hg.2) rfl ?_
      refine W.iconst (pc' := 366) X (1 : Int32) d_m6_365 (by decide) rfl ?_
      refine W.goto (pc' := 370) X d_m6_366 (by decide) (by decide) ?_
      refine W.istore (pc' := 372) (ls' := #[.val (.ref r), .val (.int i.toInt32), .val (.ref s), .val (.int ds.length.toInt32), .val (.int (1 : Int32))]) X d_m6_370 rfl rfl ?_
      exact b11 T X
    · skip
      refine W.icT (pc' := 365) X d_m6_345 (XT.ii_le_t hk) (by decide) (by decide) ?_
      refine W.iconst (pc' := 366) X (1 : Int32) d_m6_365 (by decide) rfl ?_
      refine W.goto (pc' := 370) X d_m6_366 (by decide) (by decide) ?_
      refine W.istore (pc' := 372) (ls' := #[.val (.ref r), .val (.int i.toInt32), .val (.ref s), .val (.int ds.length.toInt32), .val (.int (1 : Int32))]) X d_m6_370 rfl rfl ?_
      exact b11 T X
  have b9 : ∀ T : State, Wk l Z consts_1 (⟨"com/example/compendio/compendio/cli/ArgumentsUsageWithBookPinLaw", "lit", "(Ljava/lang/String;ILjava/lang/String;)Z"⟩ : MethodName) method_6_code 5 (some .boolean) c_lit_rm B pP eE sS mM #[(.ref r), (.int i.toInt32), (.ref s)] blw mth cC B T h 0 0 → Go l Z consts_1 c_lit_rm B (fun vR hR BR => vR = some (.int (1 : Int32)) ∧ hR = h ∧ BR = B) pP eE sS mM blw T 302 #[.val (.ref r), .val (.int i.toInt32), .val (.ref s), .val (.int ds.length.toInt32), .val (.int (1 : Int32))] [] := by
    intro T X
    refine W.iload (pc' := 304) X d_m6_302 rfl rfl ?_
    refine W.ifF (pc' := 307) X d_m6_304 (by decide) rfl ?_
    refine W.iloadN (pc' := 308) X d_m6_307 rfl rfl ?_
    refine W.bipush (pc' := 310) X (9 : Int32) d_m6_308 (by decide) rfl ?_
    by_cases hk : (9 : Int32) < ds.length.toInt32
    · skip
      refine W.icF (pc' := 313) X d_m6_310 (XT.ii_le_f hk) rfl ?_
      have hk' : 9 < ds.length := (lt32 (a := 9) (by decide) hD).mp hk
      have hg := P2.get hk'
      refine W.aloadN (pc' := 314) X d_m6_313 rfl rfl rfl ?_
      refine W.iloadN (pc' := 315) X d_m6_314 rfl rfl ?_
      refine W.bipush (pc' := 317) X (9 : Int32) d_m6_315 (by decide) rfl ?_
      refine W.iadd (pc' := 318) (w := (i + 9).toInt32) X d_m6_317 (add32 (b := 9) (by omega)) rfl ?_
      refine W.callV (pc' := 321) (W := 0) (argsL := [(.int (i + 9).toInt32)]) (st := []) (k' := 0) (n' := 0) (a := r) X (c_ch (a := r) (b := rb) (cs := cs) (i := (i + 9)) G X.en P0 hg.1) (w200 G) (w201 G) (nfM (z' := (⟨"java/lang/String", "length", "()I"⟩ : MethodName)) rfl (w73 G)) (w203 G) (w202 G) P0.exa (w204 G) (w6 G) (by decide) (by decide) (by decide) rfl (lenOf pd45 rfl) rfl rfl (Nat.le_of_eq rfl) d_m6_318 rfl (by decide) (by decide) (by decide) (by decide) (kp fun T X => ?_)
      refine W.aloadN (pc' := 322) X d_m6_321 rfl rfl rfl ?_
      refine W.bipush (pc' := 324) X (9 : Int32) d_m6_322 (by decide) rfl ?_
      refine W.callV (pc' := 327) (W := 1) (argsL := [(.int (9 : Int32))]) (st := [(.int (cs.getD (i + 9) 0))]) (k' := 0) (n' := 0) (a := s) X (c_ch (a := s) (b := sb) (cs := ds) (i := 9) G X.en P1 hk') (w200 G) (w201 G) (nfM (z' := (⟨"java/lang/String", "length", "()I"⟩ : MethodName)) rfl (w73 G)) (w203 G) (w202 G) P1.exa (w204 G) (w6 G) (by decide) (by decide) (by decide) rfl (lenOf pd45 rfl) rfl rfl (Nat.le_of_eq rfl) d_m6_324 rfl (by decide) (by decide) (by decide) (by decide) (kp fun T X => ?_)
      refine W.icF (pc' := 330) X d_m6_327 (XT.ii_ne_f hg.2) rfl ?_
      refine W.iconst (pc' := 331) X (1 : Int32) d_m6_330 (by decide) rfl ?_
      refine W.goto (pc' := 335) X d_m6_331 (by decide) (by decide) ?_
      refine W.istore (pc' := 337) (ls' := #[.val (.ref r), .val (.int i.toInt32), .val (.ref s), .val (.int ds.length.toInt32), .val (.int (1 : Int32))]) X d_m6_335 rfl rfl ?_
      exact b10 T X
    · skip
      refine W.icT (pc' := 330) X d_m6_310 (XT.ii_le_t hk) (by decide) (by decide) ?_
      refine W.iconst (pc' := 331) X (1 : Int32) d_m6_330 (by decide) rfl ?_
      refine W.goto (pc' := 335) X d_m6_331 (by decide) (by decide) ?_
      refine W.istore (pc' := 337) (ls' := #[.val (.ref r), .val (.int i.toInt32), .val (.ref s), .val (.int ds.length.toInt32), .val (.int (1 : Int32))]) X d_m6_335 rfl rfl ?_
      exact b10 T X
  have b8 : ∀ T : State, Wk l Z consts_1 (⟨"com/example/compendio/compendio/cli/ArgumentsUsageWithBookPinLaw", "lit", "(Ljava/lang/String;ILjava/lang/String;)Z"⟩ : MethodName) method_6_code 5 (some .boolean) c_lit_rm B pP eE sS mM #[(.ref r), (.int i.toInt32), (.ref s)] blw mth cC B T h 0 0 → Go l Z consts_1 c_lit_rm B (fun vR hR BR => vR = some (.int (1 : Int32)) ∧ hR = h ∧ BR = B) pP eE sS mM blw T 267 #[.val (.ref r), .val (.int i.toInt32), .val (.ref s), .val (.int ds.length.toInt32), .val (.int (1 : Int32))] [] := by
    intro T X
    refine W.iload (pc' := 269) X d_m6_267 rfl rfl ?_
    refine W.ifF (pc' := 272) X d_m6_269 (by decide) rfl ?_
    refine W.iloadN (pc' := 273) X d_m6_272 rfl rfl ?_
    refine W.bipush (pc' := 275) X (8 : Int32) d_m6_273 (by decide) rfl ?_
    by_cases hk : (8 : Int32) < ds.length.toInt32
    · skip
      refine W.icF (pc' := 278) X d_m6_275 (XT.ii_le_f hk) rfl ?_
      have hk' : 8 < ds.length := (lt32 (a := 8) (by decide) hD).mp hk
      have hg := P2.get hk'
      refine W.aloadN (pc' := 279) X d_m6_278 rfl rfl rfl ?_
      refine W.iloadN (pc' := 280) X d_m6_279 rfl rfl ?_
      refine W.bipush (pc' := 282) X (8 : Int32) d_m6_280 (by decide) rfl ?_
      refine W.iadd (pc' := 283) (w := (i + 8).toInt32) X d_m6_282 (add32 (b := 8) (by omega)) rfl ?_
      refine W.callV (pc' := 286) (W := 0) (argsL := [(.int (i + 8).toInt32)]) (st := []) (k' := 0) (n' := 0) (a := r) X (c_ch (a := r) (b := rb) (cs := cs) (i := (i + 8)) G X.en P0 hg.1) (w200 G) (w201 G) (nfM (z' := (⟨"java/lang/String", "length", "()I"⟩ : MethodName)) rfl (w73 G)) (w203 G) (w202 G) P0.exa (w204 G) (w6 G) (by decide) (by decide) (by decide) rfl (lenOf pd45 rfl) rfl rfl (Nat.le_of_eq rfl) d_m6_283 rfl (by decide) (by decide) (by decide) (by decide) (kp fun T X => ?_)
      refine W.aloadN (pc' := 287) X d_m6_286 rfl rfl rfl ?_
      refine W.bipush (pc' := 289) X (8 : Int32) d_m6_287 (by decide) rfl ?_
      refine W.callV (pc' := 292) (W := 1) (argsL := [(.int (8 : Int32))]) (st := [(.int (cs.getD (i + 8) 0))]) (k' := 0) (n' := 0) (a := s) X (c_ch (a := s) (b := sb) (cs := ds) (i := 8) G X.en P1 hk') (w200 G) (w201 G) (nfM (z' := (⟨"java/lang/String", "length", "()I"⟩ : MethodName)) rfl (w73 G)) (w203 G) (w202 G) P1.exa (w204 G) (w6 G) (by decide) (by decide) (by decide) rfl (lenOf pd45 rfl) rfl rfl (Nat.le_of_eq rfl) d_m6_289 rfl (by decide) (by decide) (by decide) (by decide) (kp fun T X => ?_)
      refine W.icF (pc' := 295) X d_m6_292 (XT.ii_ne_f hg.2) rfl ?_
      refine W.iconst (pc' := 296) X (1 : Int32) d_m6_295 (by decide) rfl ?_
      refine W.goto (pc' := 300) X d_m6_296 (by decide) (by decide) ?_
      refine W.istore (pc' := 302) (ls' := #[.val (.ref r), .val (.int i.toInt32), .val (.ref s), .val (.int ds.length.toInt32), .val (.int (1 : Int32))]) X d_m6_300 rfl rfl ?_
      exact b9 T X
    · skip
      refine W.icT (pc' := 295) X d_m6_275 (XT.ii_le_t hk) (by decide) (by decide) ?_
      refine W.iconst (pc' := 296) X (1 : Int32) d_m6_295 (by decide) rfl ?_
      refine W.goto (pc' := 300) X d_m6_296 (by decide) (by decide) ?_
      refine W.istore (pc' := 302) (ls' := #[.val (.ref r), .val (.int i.toInt32), .val (.ref s), .val (.int ds.length.toInt32), .val (.int (1 : Int32))]) X d_m6_300 rfl rfl ?_
      exact b9 T X
  have b7 : ∀ T : State, Wk l Z consts_1 (⟨"com/example/compendio/compendio/cli/ArgumentsUsageWithBookPinLaw", "lit", "(Ljava/lang/String;ILjava/lang/String;)Z"⟩ : MethodName) method_6_code 5 (some .boolean) c_lit_rm B pP eE sS mM #[(.ref r), (.int i.toInt32), (.ref s)] blw mth cC B T h 0 0 → Go l Z consts_1 c_lit_rm B (fun vR hR BR => vR = some (.int (1 : Int32)) ∧ hR = h ∧ BR = B) pP eE sS mM blw T 232 #[.val (.ref r), .val (.int i.toInt32), .val (.ref s), .val (.int ds.length.toInt32), .val (.int (1 : Int32))] [] := by
    intro T X
    refine W.iload (pc' := 234) X d_m6_232 rfl rfl ?_
    refine W.ifF (pc' := 237) X d_m6_234 (by decide) rfl ?_
    refine W.iloadN (pc' := 238) X d_m6_237 rfl rfl ?_
    refine W.bipush (pc' := 240) X (7 : Int32) d_m6_238 (by decide) rfl ?_
    by_cases hk : (7 : Int32) < ds.length.toInt32
    · skip
      refine W.icF (pc' := 243) X d_m6_240 (XT.ii_le_f hk) rfl ?_
      have hk' : 7 < ds.length := (lt32 (a := 7) (by decide) hD).mp hk
      have hg := P2.get hk'
      refine W.aloadN (pc' := 244) X d_m6_243 rfl rfl rfl ?_
      refine W.iloadN (pc' := 245) X d_m6_244 rfl rfl ?_
      refine W.bipush (pc' := 247) X (7 : Int32) d_m6_245 (by decide) rfl ?_
      refine W.iadd (pc' := 248) (w := (i + 7).toInt32) X d_m6_247 (add32 (b := 7) (by omega)) rfl ?_
      refine W.callV (pc' := 251) (W := 0) (argsL := [(.int (i + 7).toInt32)]) (st := []) (k' := 0) (n' := 0) (a := r) X (c_ch (a := r) (b := rb) (cs := cs) (i := (i + 7)) G X.en P0 hg.1) (w200 G) (w201 G) (nfM (z' := (⟨"java/lang/String", "length", "()I"⟩ : MethodName)) rfl (w73 G)) (w203 G) (w202 G) P0.exa (w204 G) (w6 G) (by decide) (by decide) (by decide) rfl (lenOf pd45 rfl) rfl rfl (Nat.le_of_eq rfl) d_m6_248 rfl (by decide) (by decide) (by decide) (by decide) (kp fun T X => ?_)
      refine W.aloadN (pc' := 252) X d_m6_251 rfl rfl rfl ?_
      refine W.bipush (pc' := 254) X (7 : Int32) d_m6_252 (by decide) rfl ?_
      refine W.callV (pc' := 257) (W := 1) (argsL := [(.int (7 : Int32))]) (st := [(.int (cs.getD (i + 7) 0))]) (k' := 0) (n' := 0) (a := s) X (c_ch (a := s) (b := sb) (cs := ds) (i := 7) G X.en P1 hk') (w200 G) (w201 G) (nfM (z' := (⟨"java/lang/String", "length", "()I"⟩ : MethodName)) rfl (w73 G)) (w203 G) (w202 G) P1.exa (w204 G) (w6 G) (by decide) (by decide) (by decide) rfl (lenOf pd45 rfl) rfl rfl (Nat.le_of_eq rfl) d_m6_254 rfl (by decide) (by decide) (by decide) (by decide) (kp fun T X => ?_)
      refine W.icF (pc' := 260) X d_m6_257 (XT.ii_ne_f hg.2) rfl ?_
      refine W.iconst (pc' := 261) X (1 : Int32) d_m6_260 (by decide) rfl ?_
      refine W.goto (pc' := 265) X d_m6_261 (by decide) (by decide) ?_
      refine W.istore (pc' := 267) (ls' := #[.val (.ref r), .val (.int i.toInt32), .val (.ref s), .val (.int ds.length.toInt32), .val (.int (1 : Int32))]) X d_m6_265 rfl rfl ?_
      exact b8 T X
    · skip
      refine W.icT (pc' := 260) X d_m6_240 (XT.ii_le_t hk) (by decide) (by decide) ?_
      refine W.iconst (pc' := 261) X (1 : Int32) d_m6_260 (by decide) rfl ?_
      refine W.goto (pc' := 265) X d_m6_261 (by decide) (by decide) ?_
      refine W.istore (pc' := 267) (ls' := #[.val (.ref r), .val (.int i.toInt32), .val (.ref s), .val (.int ds.length.toInt32), .val (.int (1 : Int32))]) X d_m6_265 rfl rfl ?_
      exact b8 T X
  have b6 : ∀ T : State, Wk l Z consts_1 (⟨"com/example/compendio/compendio/cli/ArgumentsUsageWithBookPinLaw", "lit", "(Ljava/lang/String;ILjava/lang/String;)Z"⟩ : MethodName) method_6_code 5 (some .boolean) c_lit_rm B pP eE sS mM #[(.ref r), (.int i.toInt32), (.ref s)] blw mth cC B T h 0 0 → Go l Z consts_1 c_lit_rm B (fun vR hR BR => vR = some (.int (1 : Int32)) ∧ hR = h ∧ BR = B) pP eE sS mM blw T 197 #[.val (.ref r), .val (.int i.toInt32), .val (.ref s), .val (.int ds.length.toInt32), .val (.int (1 : Int32))] [] := by
    intro T X
    refine W.iload (pc' := 199) X d_m6_197 rfl rfl ?_
    refine W.ifF (pc' := 202) X d_m6_199 (by decide) rfl ?_
    refine W.iloadN (pc' := 203) X d_m6_202 rfl rfl ?_
    refine W.bipush (pc' := 205) X (6 : Int32) d_m6_203 (by decide) rfl ?_
    by_cases hk : (6 : Int32) < ds.length.toInt32
    · skip
      refine W.icF (pc' := 208) X d_m6_205 (XT.ii_le_f hk) rfl ?_
      have hk' : 6 < ds.length := (lt32 (a := 6) (by decide) hD).mp hk
      have hg := P2.get hk'
      refine W.aloadN (pc' := 209) X d_m6_208 rfl rfl rfl ?_
      refine W.iloadN (pc' := 210) X d_m6_209 rfl rfl ?_
      refine W.bipush (pc' := 212) X (6 : Int32) d_m6_210 (by decide) rfl ?_
      refine W.iadd (pc' := 213) (w := (i + 6).toInt32) X d_m6_212 (add32 (b := 6) (by omega)) rfl ?_
      refine W.callV (pc' := 216) (W := 0) (argsL := [(.int (i + 6).toInt32)]) (st := []) (k' := 0) (n' := 0) (a := r) X (c_ch (a := r) (b := rb) (cs := cs) (i := (i + 6)) G X.en P0 hg.1) (w200 G) (w201 G) (nfM (z' := (⟨"java/lang/String", "length", "()I"⟩ : MethodName)) rfl (w73 G)) (w203 G) (w202 G) P0.exa (w204 G) (w6 G) (by decide) (by decide) (by decide) rfl (lenOf pd45 rfl) rfl rfl (Nat.le_of_eq rfl) d_m6_213 rfl (by decide) (by decide) (by decide) (by decide) (kp fun T X => ?_)
      refine W.aloadN (pc' := 217) X d_m6_216 rfl rfl rfl ?_
      refine W.bipush (pc' := 219) X (6 : Int32) d_m6_217 (by decide) rfl ?_
      refine W.callV (pc' := 222) (W := 1) (argsL := [(.int (6 : Int32))]) (st := [(.int (cs.getD (i + 6) 0))]) (k' := 0) (n' := 0) (a := s) X (c_ch (a := s) (b := sb) (cs := ds) (i := 6) G X.en P1 hk') (w200 G) (w201 G) (nfM (z' := (⟨"java/lang/String", "length", "()I"⟩ : MethodName)) rfl (w73 G)) (w203 G) (w202 G) P1.exa (w204 G) (w6 G) (by decide) (by decide) (by decide) rfl (lenOf pd45 rfl) rfl rfl (Nat.le_of_eq rfl) d_m6_219 rfl (by decide) (by decide) (by decide) (by decide) (kp fun T X => ?_)
      refine W.icF (pc' := 225) X d_m6_222 (XT.ii_ne_f hg.2) rfl ?_
      refine W.iconst (pc' := 226) X (1 : Int32) d_m6_225 (by decide) rfl ?_
      refine W.goto (pc' := 230) X d_m6_226 (by decide) (by decide) ?_
      refine W.istore (pc' := 232) (ls' := #[.val (.ref r), .val (.int i.toInt32), .val (.ref s), .val (.int ds.length.toInt32), .val (.int (1 : Int32))]) X d_m6_230 rfl rfl ?_
      exact b7 T X
    · skip
      refine W.icT (pc' := 225) X d_m6_205 (XT.ii_le_t hk) (by decide) (by decide) ?_
      refine W.iconst (pc' := 226) X (1 : Int32) d_m6_225 (by decide) rfl ?_
      refine W.goto (pc' := 230) X d_m6_226 (by decide) (by decide) ?_
      refine W.istore (pc' := 232) (ls' := #[.val (.ref r), .val (.int i.toInt32), .val (.ref s), .val (.int ds.length.toInt32), .val (.int (1 : Int32))]) X d_m6_230 rfl rfl ?_
      exact b7 T X
  have b5 : ∀ T : State, Wk l Z consts_1 (⟨"com/example/compendio/compendio/cli/ArgumentsUsageWithBookPinLaw", "lit", "(Ljava/lang/String;ILjava/lang/String;)Z"⟩ : MethodName) method_6_code 5 (some .boolean) c_lit_rm B pP eE sS mM #[(.ref r), (.int i.toInt32), (.ref s)] blw mth cC B T h 0 0 → Go l Z consts_1 c_lit_rm B (fun vR hR BR => vR = some (.int (1 : Int32)) ∧ hR = h ∧ BR = B) pP eE sS mM blw T 165 #[.val (.ref r), .val (.int i.toInt32), .val (.ref s), .val (.int ds.length.toInt32), .val (.int (1 : Int32))] [] := by
    intro T X
    refine W.iload (pc' := 167) X d_m6_165 rfl rfl ?_
    refine W.ifF (pc' := 170) X d_m6_167 (by decide) rfl ?_
    refine W.iloadN (pc' := 171) X d_m6_170 rfl rfl ?_
    refine W.iconst (pc' := 172) X (5 : Int32) d_m6_171 (by decide) rfl ?_
    by_cases hk : (5 : Int32) < ds.length.toInt32
    · skip
      refine W.icF (pc' := 175) X d_m6_172 (XT.ii_le_f hk) rfl ?_
      have hk' : 5 < ds.length := (lt32 (a := 5) (by decide) hD).mp hk
      have hg := P2.get hk'
      refine W.aloadN (pc' := 176) X d_m6_175 rfl rfl rfl ?_
      refine W.iloadN (pc' := 177) X d_m6_176 rfl rfl ?_
      refine W.iconst (pc' := 178) X (5 : Int32) d_m6_177 (by decide) rfl ?_
      refine W.iadd (pc' := 179) (w := (i + 5).toInt32) X d_m6_178 (add32 (b := 5) (by omega)) rfl ?_
      refine W.callV (pc' := 182) (W := 0) (argsL := [(.int (i + 5).toInt32)]) (st := []) (k' := 0) (n' := 0) (a := r) X (c_ch (a := r) (b := rb) (cs := cs) (i := (i + 5)) G X.en P0 hg.1) (w200 G) (w201 G) (nfM (z' := (⟨"java/lang/String", "length", "()I"⟩ : MethodName)) rfl (w73 G)) (w203 G) (w202 G) P0.exa (w204 G) (w6 G) (by decide) (by decide) (by decide) rfl (lenOf pd45 rfl) rfl rfl (Nat.le_of_eq rfl) d_m6_179 rfl (by decide) (by decide) (by decide) (by decide) (kp fun T X => ?_)
      refine W.aloadN (pc' := 183) X d_m6_182 rfl rfl rfl ?_
      refine W.iconst (pc' := 184) X (5 : Int32) d_m6_183 (by decide) rfl ?_
      refine W.callV (pc' := 187) (W := 1) (argsL := [(.int (5 : Int32))]) (st := [(.int (cs.getD (i + 5) 0))]) (k' := 0) (n' := 0) (a := s) X (c_ch (a := s) (b := sb) (cs := ds) (i := 5) G X.en P1 hk') (w200 G) (w201 G) (nfM (z' := (⟨"java/lang/String", "length", "()I"⟩ : MethodName)) rfl (w73 G)) (w203 G) (w202 G) P1.exa (w204 G) (w6 G) (by decide) (by decide) (by decide) rfl (lenOf pd45 rfl) rfl rfl (Nat.le_of_eq rfl) d_m6_184 rfl (by decide) (by decide) (by decide) (by decide) (kp fun T X => ?_)
      refine W.icF (pc' := 190) X d_m6_187 (XT.ii_ne_f hg.2) rfl ?_
      refine W.iconst (pc' := 191) X (1 : Int32) d_m6_190 (by decide) rfl ?_
      refine W.goto (pc' := 195) X d_m6_191 (by decide) (by decide) ?_
      refine W.istore (pc' := 197) (ls' := #[.val (.ref r), .val (.int i.toInt32), .val (.ref s), .val (.int ds.length.toInt32), .val (.int (1 : Int32))]) X d_m6_195 rfl rfl ?_
      exact b6 T X
    · skip
      refine W.icT (pc' := 190) X d_m6_172 (XT.ii_le_t hk) (by decide) (by decide) ?_
      refine W.iconst (pc' := 191) X (1 : Int32) d_m6_190 (by decide) rfl ?_
      refine W.goto (pc' := 195) X d_m6_191 (by decide) (by decide) ?_
      refine W.istore (pc' := 197) (ls' := #[.val (.ref r), .val (.int i.toInt32), .val (.ref s), .val (.int ds.length.toInt32), .val (.int (1 : Int32))]) X d_m6_195 rfl rfl ?_
      exact b6 T X
  have b4 : ∀ T : State, Wk l Z consts_1 (⟨"com/example/compendio/compendio/cli/ArgumentsUsageWithBookPinLaw", "lit", "(Ljava/lang/String;ILjava/lang/String;)Z"⟩ : MethodName) method_6_code 5 (some .boolean) c_lit_rm B pP eE sS mM #[(.ref r), (.int i.toInt32), (.ref s)] blw mth cC B T h 0 0 → Go l Z consts_1 c_lit_rm B (fun vR hR BR => vR = some (.int (1 : Int32)) ∧ hR = h ∧ BR = B) pP eE sS mM blw T 133 #[.val (.ref r), .val (.int i.toInt32), .val (.ref s), .val (.int ds.length.toInt32), .val (.int (1 : Int32))] [] := by
    intro T X
    refine W.iload (pc' := 135) X d_m6_133 rfl rfl ?_
    refine W.ifF (pc' := 138) X d_m6_135 (by decide) rfl ?_
    refine W.iloadN (pc' := 139) X d_m6_138 rfl rfl ?_
    refine W.iconst (pc' := 140) X (4 : Int32) d_m6_139 (by decide) rfl ?_
    by_cases hk : (4 : Int32) < ds.length.toInt32
    · skip
      refine W.icF (pc' := 143) X d_m6_140 (XT.ii_le_f hk) rfl ?_
      have hk' : 4 < ds.length := (lt32 (a := 4) (by decide) hD).mp hk
      have hg := P2.get hk'
      refine W.aloadN (pc' := 144) X d_m6_143 rfl rfl rfl ?_
      refine W.iloadN (pc' := 145) X d_m6_144 rfl rfl ?_
      refine W.iconst (pc' := 146) X (4 : Int32) d_m6_145 (by decide) rfl ?_
      refine W.iadd (pc' := 147) (w := (i + 4).toInt32) X d_m6_146 (add32 (b := 4) (by omega)) rfl ?_
      refine W.callV (pc' := 150) (W := 0) (argsL := [(.int (i + 4).toInt32)]) (st := []) (k' := 0) (n' := 0) (a := r) X (c_ch (a := r) (b := rb) (cs := cs) (i := (i + 4)) G X.en P0 hg.1) (w200 G) (w201 G) (nfM (z' := (⟨"java/lang/String", "length", "()I"⟩ : MethodName)) rfl (w73 G)) (w203 G) (w202 G) P0.exa (w204 G) (w6 G) (by decide) (by decide) (by decide) rfl (lenOf pd45 rfl) rfl rfl (Nat.le_of_eq rfl) d_m6_147 rfl (by decide) (by decide) (by decide) (by decide) (kp fun T X => ?_)
      refine W.aloadN (pc' := 151) X d_m6_150 rfl rfl rfl ?_
      refine W.iconst (pc' := 152) X (4 : Int32) d_m6_151 (by decide) rfl ?_
      refine W.callV (pc' := 155) (W := 1) (argsL := [(.int (4 : Int32))]) (st := [(.int (cs.getD (i + 4) 0))]) (k' := 0) (n' := 0) (a := s) X (c_ch (a := s) (b := sb) (cs := ds) (i := 4) G X.en P1 hk') (w200 G) (w201 G) (nfM (z' := (⟨"java/lang/String", "length", "()I"⟩ : MethodName)) rfl (w73 G)) (w203 G) (w202 G) P1.exa (w204 G) (w6 G) (by decide) (by decide) (by decide) rfl (lenOf pd45 rfl) rfl rfl (Nat.le_of_eq rfl) d_m6_152 rfl (by decide) (by decide) (by decide) (by decide) (kp fun T X => ?_)
      refine W.icF (pc' := 158) X d_m6_155 (XT.ii_ne_f hg.2) rfl ?_
      refine W.iconst (pc' := 159) X (1 : Int32) d_m6_158 (by decide) rfl ?_
      refine W.goto (pc' := 163) X d_m6_159 (by decide) (by decide) ?_
      refine W.istore (pc' := 165) (ls' := #[.val (.ref r), .val (.int i.toInt32), .val (.ref s), .val (.int ds.length.toInt32), .val (.int (1 : Int32))]) X d_m6_163 rfl rfl ?_
      exact b5 T X
    · skip
      refine W.icT (pc' := 158) X d_m6_140 (XT.ii_le_t hk) (by decide) (by decide) ?_
      refine W.iconst (pc' := 159) X (1 : Int32) d_m6_158 (by decide) rfl ?_
      refine W.goto (pc' := 163) X d_m6_159 (by decide) (by decide) ?_
      refine W.istore (pc' := 165) (ls' := #[.val (.ref r), .val (.int i.toInt32), .val (.ref s), .val (.int ds.length.toInt32), .val (.int (1 : Int32))]) X d_m6_163 rfl rfl ?_
      exact b5 T X
  have b3 : ∀ T : State, Wk l Z consts_1 (⟨"com/example/compendio/compendio/cli/ArgumentsUsageWithBookPinLaw", "lit", "(Ljava/lang/String;ILjava/lang/String;)Z"⟩ : MethodName) method_6_code 5 (some .boolean) c_lit_rm B pP eE sS mM #[(.ref r), (.int i.toInt32), (.ref s)] blw mth cC B T h 0 0 → Go l Z consts_1 c_lit_rm B (fun vR hR BR => vR = some (.int (1 : Int32)) ∧ hR = h ∧ BR = B) pP eE sS mM blw T 101 #[.val (.ref r), .val (.int i.toInt32), .val (.ref s), .val (.int ds.length.toInt32), .val (.int (1 : Int32))] [] := by
    intro T X
    refine W.iload (pc' := 103) X d_m6_101 rfl rfl ?_
    refine W.ifF (pc' := 106) X d_m6_103 (by decide) rfl ?_
    refine W.iloadN (pc' := 107) X d_m6_106 rfl rfl ?_
    refine W.iconst (pc' := 108) X (3 : Int32) d_m6_107 (by decide) rfl ?_
    by_cases hk : (3 : Int32) < ds.length.toInt32
    · skip
      refine W.icF (pc' := 111) X d_m6_108 (XT.ii_le_f hk) rfl ?_
      have hk' : 3 < ds.length := (lt32 (a := 3) (by decide) hD).mp hk
      have hg := P2.get hk'
      refine W.aloadN (pc' := 112) X d_m6_111 rfl rfl rfl ?_
      refine W.iloadN (pc' := 113) X d_m6_112 rfl rfl ?_
      refine W.iconst (pc' := 114) X (3 : Int32) d_m6_113 (by decide) rfl ?_
      refine W.iadd (pc' := 115) (w := (i + 3).toInt32) X d_m6_114 (add32 (b := 3) (by omega)) rfl ?_
      refine W.callV (pc' := 118) (W := 0) (argsL := [(.int (i + 3).toInt32)]) (st := []) (k' := 0) (n' := 0) (a := r) X (c_ch (a := r) (b := rb) (cs := cs) (i := (i + 3)) G X.en P0 hg.1) (w200 G) (w201 G) (nfM (z' := (⟨"java/lang/String", "length", "()I"⟩ : MethodName)) rfl (w73 G)) (w203 G) (w202 G) P0.exa (w204 G) (w6 G) (by decide) (by decide) (by decide) rfl (lenOf pd45 rfl) rfl rfl (Nat.le_of_eq rfl) d_m6_115 rfl (by decide) (by decide) (by decide) (by decide) (kp fun T X => ?_)
      refine W.aloadN (pc' := 119) X d_m6_118 rfl rfl rfl ?_
      refine W.iconst (pc' := 120) X (3 : Int32) d_m6_119 (by decide) rfl ?_
      refine W.callV (pc' := 123) (W := 1) (argsL := [(.int (3 : Int32))]) (st := [(.int (cs.getD (i + 3) 0))]) (k' := 0) (n' := 0) (a := s) X (c_ch (a := s) (b := sb) (cs := ds) (i := 3) G X.en P1 hk') (w200 G) (w201 G) (nfM (z' := (⟨"java/lang/String", "length", "()I"⟩ : MethodName)) rfl (w73 G)) (w203 G) (w202 G) P1.exa (w204 G) (w6 G) (by decide) (by decide) (by decide) rfl (lenOf pd45 rfl) rfl rfl (Nat.le_of_eq rfl) d_m6_120 rfl (by decide) (by decide) (by decide) (by decide) (kp fun T X => ?_)
      refine W.icF (pc' := 126) X d_m6_123 (XT.ii_ne_f hg.2) rfl ?_
      refine W.iconst (pc' := 127) X (1 : Int32) d_m6_126 (by decide) rfl ?_
      refine W.goto (pc' := 131) X d_m6_127 (by decide) (by decide) ?_
      refine W.istore (pc' := 133) (ls' := #[.val (.ref r), .val (.int i.toInt32), .val (.ref s), .val (.int ds.length.toInt32), .val (.int (1 : Int32))]) X d_m6_131 rfl rfl ?_
      exact b4 T X
    · skip
      refine W.icT (pc' := 126) X d_m6_108 (XT.ii_le_t hk) (by decide) (by decide) ?_
      refine W.iconst (pc' := 127) X (1 : Int32) d_m6_126 (by decide) rfl ?_
      refine W.goto (pc' := 131) X d_m6_127 (by decide) (by decide) ?_
      refine W.istore (pc' := 133) (ls' := #[.val (.ref r), .val (.int i.toInt32), .val (.ref s), .val (.int ds.length.toInt32), .val (.int (1 : Int32))]) X d_m6_131 rfl rfl ?_
      exact b4 T X
  have b2 : ∀ T : State, Wk l Z consts_1 (⟨"com/example/compendio/compendio/cli/ArgumentsUsageWithBookPinLaw", "lit", "(Ljava/lang/String;ILjava/lang/String;)Z"⟩ : MethodName) method_6_code 5 (some .boolean) c_lit_rm B pP eE sS mM #[(.ref r), (.int i.toInt32), (.ref s)] blw mth cC B T h 0 0 → Go l Z consts_1 c_lit_rm B (fun vR hR BR => vR = some (.int (1 : Int32)) ∧ hR = h ∧ BR = B) pP eE sS mM blw T 69 #[.val (.ref r), .val (.int i.toInt32), .val (.ref s), .val (.int ds.length.toInt32), .val (.int (1 : Int32))] [] := by
    intro T X
    refine W.iload (pc' := 71) X d_m6_69 rfl rfl ?_
    refine W.ifF (pc' := 74) X d_m6_71 (by decide) rfl ?_
    refine W.iloadN (pc' := 75) X d_m6_74 rfl rfl ?_
    refine W.iconst (pc' := 76) X (2 : Int32) d_m6_75 (by decide) rfl ?_
    by_cases hk : (2 : Int32) < ds.length.toInt32
    · skip
      refine W.icF (pc' := 79) X d_m6_76 (XT.ii_le_f hk) rfl ?_
      have hk' : 2 < ds.length := (lt32 (a := 2) (by decide) hD).mp hk
      have hg := P2.get hk'
      refine W.aloadN (pc' := 80) X d_m6_79 rfl rfl rfl ?_
      refine W.iloadN (pc' := 81) X d_m6_80 rfl rfl ?_
      refine W.iconst (pc' := 82) X (2 : Int32) d_m6_81 (by decide) rfl ?_
      refine W.iadd (pc' := 83) (w := (i + 2).toInt32) X d_m6_82 (add32 (b := 2) (by omega)) rfl ?_
      refine W.callV (pc' := 86) (W := 0) (argsL := [(.int (i + 2).toInt32)]) (st := []) (k' := 0) (n' := 0) (a := r) X (c_ch (a := r) (b := rb) (cs := cs) (i := (i + 2)) G X.en P0 hg.1) (w200 G) (w201 G) (nfM (z' := (⟨"java/lang/String", "length", "()I"⟩ : MethodName)) rfl (w73 G)) (w203 G) (w202 G) P0.exa (w204 G) (w6 G) (by decide) (by decide) (by decide) rfl (lenOf pd45 rfl) rfl rfl (Nat.le_of_eq rfl) d_m6_83 rfl (by decide) (by decide) (by decide) (by decide) (kp fun T X => ?_)
      refine W.aloadN (pc' := 87) X d_m6_86 rfl rfl rfl ?_
      refine W.iconst (pc' := 88) X (2 : Int32) d_m6_87 (by decide) rfl ?_
      refine W.callV (pc' := 91) (W := 1) (argsL := [(.int (2 : Int32))]) (st := [(.int (cs.getD (i + 2) 0))]) (k' := 0) (n' := 0) (a := s) X (c_ch (a := s) (b := sb) (cs := ds) (i := 2) G X.en P1 hk') (w200 G) (w201 G) (nfM (z' := (⟨"java/lang/String", "length", "()I"⟩ : MethodName)) rfl (w73 G)) (w203 G) (w202 G) P1.exa (w204 G) (w6 G) (by decide) (by decide) (by decide) rfl (lenOf pd45 rfl) rfl rfl (Nat.le_of_eq rfl) d_m6_88 rfl (by decide) (by decide) (by decide) (by decide) (kp fun T X => ?_)
      refine W.icF (pc' := 94) X d_m6_91 (XT.ii_ne_f hg.2) rfl ?_
      refine W.iconst (pc' := 95) X (1 : Int32) d_m6_94 (by decide) rfl ?_
      refine W.goto (pc' := 99) X d_m6_95 (by decide) (by decide) ?_
      refine W.istore (pc' := 101) (ls' := #[.val (.ref r), .val (.int i.toInt32), .val (.ref s), .val (.int ds.length.toInt32), .val (.int (1 : Int32))]) X d_m6_99 rfl rfl ?_
      exact b3 T X
    · skip
      refine W.icT (pc' := 94) X d_m6_76 (XT.ii_le_t hk) (by decide) (by decide) ?_
      refine W.iconst (pc' := 95) X (1 : Int32) d_m6_94 (by decide) rfl ?_
      refine W.goto (pc' := 99) X d_m6_95 (by decide) (by decide) ?_
      refine W.istore (pc' := 101) (ls' := #[.val (.ref r), .val (.int i.toInt32), .val (.ref s), .val (.int ds.length.toInt32), .val (.int (1 : Int32))]) X d_m6_99 rfl rfl ?_
      exact b3 T X
  have b1 : ∀ T : State, Wk l Z consts_1 (⟨"com/example/compendio/compendio/cli/ArgumentsUsageWithBookPinLaw", "lit", "(Ljava/lang/String;ILjava/lang/String;)Z"⟩ : MethodName) method_6_code 5 (some .boolean) c_lit_rm B pP eE sS mM #[(.ref r), (.int i.toInt32), (.ref s)] blw mth cC B T h 0 0 → Go l Z consts_1 c_lit_rm B (fun vR hR BR => vR = some (.int (1 : Int32)) ∧ hR = h ∧ BR = B) pP eE sS mM blw T 37 #[.val (.ref r), .val (.int i.toInt32), .val (.ref s), .val (.int ds.length.toInt32), .val (.int (1 : Int32))] [] := by
    intro T X
    refine W.iload (pc' := 39) X d_m6_37 rfl rfl ?_
    refine W.ifF (pc' := 42) X d_m6_39 (by decide) rfl ?_
    refine W.iloadN (pc' := 43) X d_m6_42 rfl rfl ?_
    refine W.iconst (pc' := 44) X (1 : Int32) d_m6_43 (by decide) rfl ?_
    by_cases hk : (1 : Int32) < ds.length.toInt32
    · skip
      refine W.icF (pc' := 47) X d_m6_44 (XT.ii_le_f hk) rfl ?_
      have hk' : 1 < ds.length := (lt32 (a := 1) (by decide) hD).mp hk
      have hg := P2.get hk'
      refine W.aloadN (pc' := 48) X d_m6_47 rfl rfl rfl ?_
      refine W.iloadN (pc' := 49) X d_m6_48 rfl rfl ?_
      refine W.iconst (pc' := 50) X (1 : Int32) d_m6_49 (by decide) rfl ?_
      refine W.iadd (pc' := 51) (w := (i + 1).toInt32) X d_m6_50 (add32 (b := 1) (by omega)) rfl ?_
      refine W.callV (pc' := 54) (W := 0) (argsL := [(.int (i + 1).toInt32)]) (st := []) (k' := 0) (n' := 0) (a := r) X (c_ch (a := r) (b := rb) (cs := cs) (i := (i + 1)) G X.en P0 hg.1) (w200 G) (w201 G) (nfM (z' := (⟨"java/lang/String", "length", "()I"⟩ : MethodName)) rfl (w73 G)) (w203 G) (w202 G) P0.exa (w204 G) (w6 G) (by decide) (by decide) (by decide) rfl (lenOf pd45 rfl) rfl rfl (Nat.le_of_eq rfl) d_m6_51 rfl (by decide) (by decide) (by decide) (by decide) (kp fun T X => ?_)
      refine W.aloadN (pc' := 55) X d_m6_54 rfl rfl rfl ?_
      refine W.iconst (pc' := 56) X (1 : Int32) d_m6_55 (by decide) rfl ?_
      refine W.callV (pc' := 59) (W := 1) (argsL := [(.int (1 : Int32))]) (st := [(.int (cs.getD (i + 1) 0))]) (k' := 0) (n' := 0) (a := s) X (c_ch (a := s) (b := sb) (cs := ds) (i := 1) G X.en P1 hk') (w200 G) (w201 G) (nfM (z' := (⟨"java/lang/String", "length", "()I"⟩ : MethodName)) rfl (w73 G)) (w203 G) (w202 G) P1.exa (w204 G) (w6 G) (by decide) (by decide) (by decide) rfl (lenOf pd45 rfl) rfl rfl (Nat.le_of_eq rfl) d_m6_56 rfl (by decide) (by decide) (by decide) (by decide) (kp fun T X => ?_)
      refine W.icF (pc' := 62) X d_m6_59 (XT.ii_ne_f hg.2) rfl ?_
      refine W.iconst (pc' := 63) X (1 : Int32) d_m6_62 (by decide) rfl ?_
      refine W.goto (pc' := 67) X d_m6_63 (by decide) (by decide) ?_
      refine W.istore (pc' := 69) (ls' := #[.val (.ref r), .val (.int i.toInt32), .val (.ref s), .val (.int ds.length.toInt32), .val (.int (1 : Int32))]) X d_m6_67 rfl rfl ?_
      exact b2 T X
    · skip
      refine W.icT (pc' := 62) X d_m6_44 (XT.ii_le_t hk) (by decide) (by decide) ?_
      refine W.iconst (pc' := 63) X (1 : Int32) d_m6_62 (by decide) rfl ?_
      refine W.goto (pc' := 67) X d_m6_63 (by decide) (by decide) ?_
      refine W.istore (pc' := 69) (ls' := #[.val (.ref r), .val (.int i.toInt32), .val (.ref s), .val (.int ds.length.toInt32), .val (.int (1 : Int32))]) X d_m6_67 rfl rfl ?_
      exact b2 T X
  have b0 : ∀ T : State, Wk l Z consts_1 (⟨"com/example/compendio/compendio/cli/ArgumentsUsageWithBookPinLaw", "lit", "(Ljava/lang/String;ILjava/lang/String;)Z"⟩ : MethodName) method_6_code 5 (some .boolean) c_lit_rm B pP eE sS mM #[(.ref r), (.int i.toInt32), (.ref s)] blw mth cC B T h 0 0 → Go l Z consts_1 c_lit_rm B (fun vR hR BR => vR = some (.int (1 : Int32)) ∧ hR = h ∧ BR = B) pP eE sS mM blw T 8 #[.val (.ref r), .val (.int i.toInt32), .val (.ref s), .val (.int ds.length.toInt32), .val (.int (1 : Int32))] [] := by
    intro T X
    refine W.iload (pc' := 10) X d_m6_8 rfl rfl ?_
    refine W.ifF (pc' := 13) X d_m6_10 (by decide) rfl ?_
    refine W.iloadN (pc' := 14) X d_m6_13 rfl rfl ?_
    by_cases hk : (0 : Int32) < ds.length.toInt32
    · skip
      refine W.ifF (pc' := 17) X d_m6_14 (XT.i0_le_f hk) rfl ?_
      have hk' : 0 < ds.length := (lt32 (a := 0) (by decide) hD).mp hk
      have hg := P2.get hk'
      refine W.aloadN (pc' := 18) X d_m6_17 rfl rfl rfl ?_
      refine W.iloadN (pc' := 19) X d_m6_18 rfl rfl ?_
      refine W.callV (pc' := 22) (W := 0) (argsL := [(.int i.toInt32)]) (st := []) (k' := 0) (n' := 0) (a := r) X (c_ch (a := r) (b := rb) (cs := cs) (i := i) G X.en P0 hg.1) (w200 G) (w201 G) (nfM (z' := (⟨"java/lang/String", "length", "()I"⟩ : MethodName)) rfl (w73 G)) (w203 G) (w202 G) P0.exa (w204 G) (w6 G) (by decide) (by decide) (by decide) rfl (lenOf pd45 rfl) rfl rfl (Nat.le_of_eq rfl) d_m6_19 rfl (by decide) (by decide) (by decide) (by decide) (kp fun T X => ?_)
      refine W.aloadN (pc' := 23) X d_m6_22 rfl rfl rfl ?_
      refine W.iconst (pc' := 24) X (0 : Int32) d_m6_23 (by decide) rfl ?_
      refine W.callV (pc' := 27) (W := 1) (argsL := [(.int (0 : Int32))]) (st := [(.int (cs.getD i 0))]) (k' := 0) (n' := 0) (a := s) X (c_ch (a := s) (b := sb) (cs := ds) (i := 0) G X.en P1 hk') (w200 G) (w201 G) (nfM (z' := (⟨"java/lang/String", "length", "()I"⟩ : MethodName)) rfl (w73 G)) (w203 G) (w202 G) P1.exa (w204 G) (w6 G) (by decide) (by decide) (by decide) rfl (lenOf pd45 rfl) rfl rfl (Nat.le_of_eq rfl) d_m6_24 rfl (by decide) (by decide) (by decide) (by decide) (kp fun T X => ?_)
      refine W.icF (pc' := 30) X d_m6_27 (XT.ii_ne_f hg.2) rfl ?_
      refine W.iconst (pc' := 31) X (1 : Int32) d_m6_30 (by decide) rfl ?_
      refine W.goto (pc' := 35) X d_m6_31 (by decide) (by decide) ?_
      refine W.istore (pc' := 37) (ls' := #[.val (.ref r), .val (.int i.toInt32), .val (.ref s), .val (.int ds.length.toInt32), .val (.int (1 : Int32))]) X d_m6_35 rfl rfl ?_
      exact b1 T X
    · skip
      refine W.ifT (pc' := 30) X d_m6_14 (XT.i0_le_t hk) (by decide) (by decide) ?_
      refine W.iconst (pc' := 31) X (1 : Int32) d_m6_30 (by decide) rfl ?_
      refine W.goto (pc' := 35) X d_m6_31 (by decide) (by decide) ?_
      refine W.istore (pc' := 37) (ls' := #[.val (.ref r), .val (.int i.toInt32), .val (.ref s), .val (.int ds.length.toInt32), .val (.int (1 : Int32))]) X d_m6_35 rfl rfl ?_
      exact b1 T X
  exact b0 T X
def c_word_rm : Room := { frames := 4, cells := 0, slots := 0, locals := 53 }
set_option maxRecDepth 65536 in
set_option maxHeartbeats 40000000 in
theorem c_word {l : Launch} {Z : State} {a0 : Array Value} {zC : Int32} {fS : Value} {bO : Addr} {bN : Addr} {bA : Addr} {h : Heap} {B : Addr → Prop} {r rb : Addr} {cs : List Int32} {i : Nat} {n x y : Int32} (G : Gl Z a0 zC fS bO bN bA) (hE : En Z B h) (P0 : Str Z h r rb cs) (P1 : WordAt cs i n x y) : Con l Z consts_1 [] (⟨"com/example/compendio/compendio/cli/ArgumentsUsageWithBookPinLaw", "word", "(Ljava/lang/String;IICC)Z"⟩ : MethodName) method_4_code 5 (some .boolean) c_word_rm B h #[(.ref r), (.int i.toInt32), (.int n), (.int x), (.int y)] (fun vR hR BR => vR = some (.int (1 : Int32)) ∧ hR = h ∧ BR = B) := by
  have hz0 := hE.1.1
  refine Con.intro (ls := #[.val (.ref r), .val (.int i.toInt32), .val (.int n), .val (.int x), .val (.int y)]) (plainFor_of_name pn38) G.2.1 hE (fun m => by first | rfl | (simp [entryFrame, mkF, argsToLocals, Value.category]; done) | rfl) ?_
  intro pP eE sS mM blw mth cC T hs X
  have hL := P0.len_lt
  refine W.iloadN (pc' := 1) X d_m4_0 rfl rfl ?_
  refine W.iconst (pc' := 2) X (1 : Int32) d_m4_1 (by decide) rfl ?_
  by_cases h1 : n < (1 : Int32)
  · skip
    refine W.icT (pc' := 14) X d_m4_2 (XT.ii_lt_t h1) (by decide) (by decide) ?_
    refine W.iloadN (pc' := 15) X d_m4_14 rfl rfl ?_
    refine W.iconst (pc' := 16) X (2 : Int32) d_m4_15 (by decide) rfl ?_
    by_cases h2 : n < (2 : Int32)
    · skip
      refine W.icT (pc' := 31) X d_m4_16 (XT.ii_lt_t h2) (by decide) (by decide) ?_
      refine W.iconst (pc' := 32) X (1 : Int32) d_m4_31 (by decide) rfl ?_
      refine W.goto (pc' := 36) X d_m4_32 (by decide) (by decide) ?_
      exact W.ireturn X d_m4_36 rfl (by decide) (by decide) (by decide) (by decide) ⟨rfl, rfl, rfl⟩
    · skip
      refine W.icF (pc' := 19) X d_m4_16 (XT.ii_lt_f h2) rfl ?_
      have hi2 := (P1.2 h2).1
      refine W.aloadN (pc' := 20) X d_m4_19 rfl rfl rfl ?_
      refine W.iloadN (pc' := 21) X d_m4_20 rfl rfl ?_
      refine W.iconst (pc' := 22) X (1 : Int32) d_m4_21 (by decide) rfl ?_
      refine W.iadd (pc' := 23) (w := (i + 1).toInt32) X d_m4_22 (add32 (b := 1) (by omega)) rfl ?_
      refine W.callV (pc' := 26) (W := 0) (argsL := [(.int (i + 1).toInt32)]) (st := []) (k' := 0) (n' := 0) (a := r) X (c_ch (a := r) (b := rb) (cs := cs) (i := (i + 1)) G X.en P0 hi2) (w200 G) (w201 G) (nfM (z' := (⟨"java/lang/String", "length", "()I"⟩ : MethodName)) rfl (w73 G)) (w203 G) (w202 G) P0.exa (w204 G) (w6 G) (by decide) (by decide) (by decide) rfl (lenOf pd45 rfl) rfl rfl (Nat.le_of_eq rfl) d_m4_23 rfl (by decide) (by decide) (by decide) (by decide) (kp fun T X => ?_)
      refine W.iload (pc' := 28) X d_m4_26 rfl rfl ?_
      refine W.icF (pc' := 31) X d_m4_28 (XT.ii_ne_f (P1.2 h2).2) rfl ?_
      refine W.iconst (pc' := 32) X (1 : Int32) d_m4_31 (by decide) rfl ?_
      refine W.goto (pc' := 36) X d_m4_32 (by decide) (by decide) ?_
      exact W.ireturn X d_m4_36 rfl (by decide) (by decide) (by decide) (by decide) ⟨rfl, rfl, rfl⟩
  · skip
    refine W.icF (pc' := 5) X d_m4_2 (XT.ii_lt_f h1) rfl ?_
    refine W.aloadN (pc' := 6) X d_m4_5 rfl rfl rfl ?_
    refine W.iloadN (pc' := 7) X d_m4_6 rfl rfl ?_
    refine W.callV (pc' := 10) (W := 0) (argsL := [(.int i.toInt32)]) (st := []) (k' := 0) (n' := 0) (a := r) X (c_ch (a := r) (b := rb) (cs := cs) (i := i) G X.en P0 (P1.1 h1).1) (w200 G) (w201 G) (nfM (z' := (⟨"java/lang/String", "length", "()I"⟩ : MethodName)) rfl (w73 G)) (w203 G) (w202 G) P0.exa (w204 G) (w6 G) (by decide) (by decide) (by decide) rfl (lenOf pd45 rfl) rfl rfl (Nat.le_of_eq rfl) d_m4_7 rfl (by decide) (by decide) (by decide) (by decide) (kp fun T X => ?_)
    refine W.iloadN (pc' := 11) X d_m4_10 rfl rfl ?_
    refine W.icF (pc' := 14) X d_m4_11 (XT.ii_ne_f (P1.1 h1).2) rfl ?_
    refine W.iloadN (pc' := 15) X d_m4_14 rfl rfl ?_
    refine W.iconst (pc' := 16) X (2 : Int32) d_m4_15 (by decide) rfl ?_
    by_cases h2 : n < (2 : Int32)
    · skip
      refine W.icT (pc' := 31) X d_m4_16 (XT.ii_lt_t h2) (by decide) (by decide) ?_
      refine W.iconst (pc' := 32) X (1 : Int32) d_m4_31 (by decide) rfl ?_
      refine W.goto (pc' := 36) X d_m4_32 (by decide) (by decide) ?_
      exact W.ireturn X d_m4_36 rfl (by decide) (by decide) (by decide) (by decide) ⟨rfl, rfl, rfl⟩
    · skip
      refine W.icF (pc' := 19) X d_m4_16 (XT.ii_lt_f h2) rfl ?_
      have hi2 := (P1.2 h2).1
      refine W.aloadN (pc' := 20) X d_m4_19 rfl rfl rfl ?_
      refine W.iloadN (pc' := 21) X d_m4_20 rfl rfl ?_
      refine W.iconst (pc' := 22) X (1 : Int32) d_m4_21 (by decide) rfl ?_
      refine W.iadd (pc' := 23) (w := (i + 1).toInt32) X d_m4_22 (add32 (b := 1) (by omega)) rfl ?_
      refine W.callV (pc' := 26) (W := 0) (argsL := [(.int (i + 1).toInt32)]) (st := []) (k' := 0) (n' := 0) (a := r) X (c_ch (a := r) (b := rb) (cs := cs) (i := (i + 1)) G X.en P0 hi2) (w200 G) (w201 G) (nfM (z' := (⟨"java/lang/String", "length", "()I"⟩ : MethodName)) rfl (w73 G)) (w203 G) (w202 G) P0.exa (w204 G) (w6 G) (by decide) (by decide) (by decide) rfl (lenOf pd45 rfl) rfl rfl (Nat.le_of_eq rfl) d_m4_23 rfl (by decide) (by decide) (by decide) (by decide) (kp fun T X => ?_)
      refine W.iload (pc' := 28) X d_m4_26 rfl rfl ?_
      refine W.icF (pc' := 31) X d_m4_28 (XT.ii_ne_f (P1.2 h2).2) rfl ?_
      refine W.iconst (pc' := 32) X (1 : Int32) d_m4_31 (by decide) rfl ?_
      refine W.goto (pc' := 36) X d_m4_32 (by decide) (by decide) ?_
      exact W.ireturn X d_m4_36 rfl (by decide) (by decide) (by decide) (by decide) ⟨rfl, rfl, rfl⟩
def c_own_rm : Room := { frames := 5, cells := 0, slots := 0, locals := 69 }
set_option maxRecDepth 65536 in
set_option maxHeartbeats 40000000 in
theorem c_own {l : Launch} {Z : State} {a0 : Array Value} {zC : Int32} {fS : Value} {bO : Addr} {bN : Addr} {bA : Addr} {h : Heap} {B : Addr → Prop} {r rb : Addr} {cs : List Int32} {i : Nat} {n x y : Int32} (G : Gl Z a0 zC fS bO bN bA) (hE : En Z B h) (P0 : Str Z h r rb cs) (P1 : i3 n) (P2 : OwnAt cs i n x y) : Con l Z consts_1 [] (⟨"com/example/compendio/compendio/cli/ArgumentsUsageWithBookPinLaw", "own", "(Ljava/lang/String;IICC)Z"⟩ : MethodName) method_5_code 5 (some .boolean) c_own_rm B h #[(.ref r), (.int i.toInt32), (.int n), (.int x), (.int y)] (fun vR hR BR => vR = some (.int (1 : Int32)) ∧ hR = h ∧ BR = B) := by
  have hz0 := hE.1.1
  refine Con.intro (ls := #[.val (.ref r), .val (.int i.toInt32), .val (.int n), .val (.int x), .val (.int y)]) (plainFor_of_name pn38) G.2.1 hE (fun m => by first | rfl | (simp [entryFrame, mkF, argsToLocals, Value.category]; done) | rfl) ?_
  intro pP eE sS mM blw mth cC T hs X
  have hL := P0.len_lt
  refine W.iloadN (pc' := 1) X d_m5_0 rfl rfl ?_
  by_cases h0 : n = (0 : Int32)
  · skip
    refine W.ifT (pc' := 28) X d_m5_1 (XT.i0_eq_t h0) (by decide) (by decide) ?_
    refine W.iconst (pc' := 29) X (1 : Int32) d_m5_28 (by decide) rfl ?_
    refine W.goto (pc' := 33) X d_m5_29 (by decide) (by decide) ?_
    exact W.ireturn X d_m5_33 rfl (by decide) (by decide) (by decide) (by decide) ⟨rfl, rfl, rfl⟩
  · skip
    refine W.ifF (pc' := 4) X d_m5_1 (XT.i0_eq_f h0) rfl ?_
    have ho := P2 h0
    have hn2 : 1 ≤ nN n := by rcases P1 with rfl | rfl | rfl <;> first | exact absurd rfl h0 | decide
    have ho2 := ho.2.1
    refine W.aloadN (pc' := 5) X d_m5_4 rfl rfl rfl ?_
    refine W.iloadN (pc' := 6) X d_m5_5 rfl rfl ?_
    refine W.iloadN (pc' := 7) X d_m5_6 rfl rfl ?_
    refine W.iloadN (pc' := 8) X d_m5_7 rfl rfl ?_
    refine W.iload (pc' := 10) X d_m5_8 rfl rfl ?_
    refine W.callS (pc' := 13) (W := 0) (argsL := [(.ref r), (.int i.toInt32), (.int n), (.int x), (.int y)]) (st := []) (k' := 0) (n' := 0) X (c_word (r := r) (rb := rb) (cs := cs) (i := i) (n := n) (x := x) (y := y) G X.en P0 ho.1) (w223 G) (w224 G) (w225 G) (w2 G) (by decide) (by decide) (by decide) rfl (lenOf pd46 rfl) rfl rfl (Nat.le_of_eq rfl) d_m5_10 rfl (by decide) (by decide) (by decide) (by decide) (kp fun T X => ?_)
    refine W.ifF (pc' := 16) X d_m5_13 (by decide) rfl ?_
    refine W.aloadN (pc' := 17) X d_m5_16 rfl rfl rfl ?_
    refine W.iloadN (pc' := 18) X d_m5_17 rfl rfl ?_
    refine W.iloadN (pc' := 19) X d_m5_18 rfl rfl ?_
    refine W.iadd (pc' := 20) (w := (i + nN n).toInt32) X d_m5_19 (addn P1 (by omega)) rfl ?_
    refine W.callV (pc' := 23) (W := 0) (argsL := [(.int (i + nN n).toInt32)]) (st := []) (k' := 0) (n' := 0) (a := r) X (c_ch (a := r) (b := rb) (cs := cs) (i := (i + nN n)) G X.en P0 ho2) (w200 G) (w201 G) (nfM (z' := (⟨"java/lang/String", "length", "()I"⟩ : MethodName)) rfl (w73 G)) (w203 G) (w202 G) P0.exa (w204 G) (w6 G) (by decide) (by decide) (by decide) rfl (lenOf pd45 rfl) rfl rfl (Nat.le_of_eq rfl) d_m5_20 rfl (by decide) (by decide) (by decide) (by decide) (kp fun T X => ?_)
    refine W.bipush (pc' := 25) X (32 : Int32) d_m5_23 (by decide) rfl ?_
    refine W.icF (pc' := 28) X d_m5_25 (XT.ii_ne_f ho.2.2) rfl ?_
    refine W.iconst (pc' := 29) X (1 : Int32) d_m5_28 (by decide) rfl ?_
    refine W.goto (pc' := 33) X d_m5_29 (by decide) (by decide) ?_
    exact W.ireturn X d_m5_33 rfl (by decide) (by decide) (by decide) (by decide) ⟨rfl, rfl, rfl⟩
set_option maxRecDepth 65536 in
set_option maxHeartbeats 40000000 in
theorem c_law {l : Launch} {Z : State} {a0 : Array Value} {zC : Int32} {fS : Value} {bO : Addr} {bN : Addr} {bA : Addr} {h : Heap} {B : Addr → Prop} {p0 p1 p2 : Int32} (G : Gl Z a0 zC fS bO bN bA) (hE : En Z B h)  : Con l Z consts_1 tables_1 x code maxLocals ret room_1 B h #[(.int p0), (.int p1), (.int p2)] (fun vR hR BR => vR = some (.int (1 : Int32))) := by
  have hz0 := hE.1.1
  refine Con.intro (ls := #[.val (.int p0), .val (.int p1), .val (.int p2), .unset, .unset, .unset, .unset, .unset, .unset, .unset, .unset, .unset, .unset, .unset]) (plainFor_of_name pn38) G.2.1 hE (fun m => by first | (simp [entryFrame, mkF, argsToLocals, Value.category, maxLocals]; done) | rfl) ?_
  intro pP eE sS mM blw mth cC T hs X
  have s58 : ∀ (lc lo c0 c1 o0 o1 : Int32), i3 lc → i3 lo → L8 c0 → L8 c1 → L8 o0 → L8 o1 → Go l Z consts_1 room_1 B (fun vR hR BR => vR = some (.int (1 : Int32))) pP eE sS mM blw T 58 #[.val (.int p0), .val (.int p1), .val (.int p2), .val (.int lc), .val (.int lo), .val (.int c0), .val (.int c1), .val (.int o0), .val (.int o1), .unset, .unset, .unset, .unset, .unset] [] := by
    intro lc lo c0 c1 o0 o1 hlc hlo hc0 hc1 ho0 ho1
    refine W.iloadN (pc' := 59) X at_58 rfl rfl ?_
    refine W.iload (pc' := 61) X at_59 rfl rfl ?_
    refine W.iload (pc' := 63) X at_61 rfl rfl ?_
    refine W.callS (pc' := 66) (W := 0) (argsL := [(.int lc), (.int c0), (.int c1)]) (st := []) (k' := 3) (n' := 8) X (c_make (n := lc) (x := c0) (y := c1) G X.en hc0 hc1) (w0 G) (w1 G) (w3 G) (w2 G) (by decide) (by decide) (by decide) rfl (lenOf pd47 rfl) rfl rfl (Nat.le_of_eq rfl) at_63 rfl (by decide) (by decide) (by decide) (by decide) (kri fun T h1 B4 xr X z2 zb5 q3 => ?_)
    obtain ⟨a6, a7, rfl, K8, F9⟩ := q3
    refine W.astore (pc' := 68) (ls' := #[.val (.int p0), .val (.int p1), .val (.int p2), .val (.int lc), .val (.int lo), .val (.int c0), .val (.int c1), .val (.int o0), .val (.int o1), .val (.ref a6), .unset, .unset, .unset, .unset]) X at_66 rfl rfl rfl ?_
    refine W.iload (pc' := 70) X at_68 rfl rfl ?_
    refine W.iload (pc' := 72) X at_70 rfl rfl ?_
    refine W.iload (pc' := 74) X at_72 rfl rfl ?_
    refine W.callS (pc' := 77) (W := 0) (argsL := [(.int lo), (.int o0), (.int o1)]) (st := []) (k' := 6) (n' := 16) X (c_make (n := lo) (x := o0) (y := o1) G X.en ho0 ho1) (w0 G) (w1 G) (w3 G) (w2 G) (by decide) (by decide) (by decide) rfl (lenOf pd47 rfl) rfl rfl (Nat.le_of_eq rfl) at_74 rfl (by decide) (by decide) (by decide) (by decide) (kri fun T h10 B13 xr X z11 zb14 q12 => ?_)
    obtain ⟨a15, a16, rfl, K17, F18⟩ := q12
    refine W.astore (pc' := 79) (ls' := #[.val (.int p0), .val (.int p1), .val (.int p2), .val (.int lc), .val (.int lo), .val (.int c0), .val (.int c1), .val (.int o0), .val (.int o1), .val (.ref a6), .val (.ref a15), .unset, .unset, .unset]) X at_77 rfl rfl rfl ?_
    refine W.aload (pc' := 81) X at_79 rfl rfl rfl ?_
    refine W.aload (pc' := 83) X at_81 rfl rfl rfl ?_
    have F19 := (F9.keep K17 nin0 nin0)
    refine W.callS (pc' := 86) (W := 0) (argsL := [(.ref a6), (.ref a15)]) (st := []) (k' := 79) (n' := 9158) X (c_use (c := a6) (cb := a7) (o := a15) (ob := a16) (cs := (wl lc c0 c1)) (os := (wl lo o0 o1)) G X.en F19 F18 wl_len wl_len) (w37 G) (w38 G) (w40 G) (w39 G) (by decide) (by decide) (by decide) rfl (lenOf pd48 rfl) rfl rfl (Nat.le_of_eq rfl) at_83 rfl (by decide) (by decide) (by decide) (by decide) (kri fun T h20 B23 xr X z21 zb24 q22 => ?_)
    obtain ⟨a25, a26, rfl, K27, g28, g29, F30⟩ := q22
    have g31 : Z.heap.size ≤ a25 := Nat.le_trans (Nat.le_trans hz0 (Nat.le_trans K8.1 K17.1)) g28
    have g32 : Z.heap.size ≤ a26 := Nat.le_trans (Nat.le_trans hz0 (Nat.le_trans K8.1 K17.1)) g29
    refine W.astore (pc' := 88) (ls' := #[.val (.int p0), .val (.int p1), .val (.int p2), .val (.int lc), .val (.int lo), .val (.int c0), .val (.int c1), .val (.int o0), .val (.int o1), .val (.ref a6), .val (.ref a15), .val (.ref a25), .unset, .unset]) X at_86 rfl rfl rfl ?_
    have s103 : ∀ oo : Int32, oo = oO lo → Go l Z consts_1 room_1 B (fun vR hR BR => vR = some (.int (1 : Int32))) pP eE sS mM blw T 103 #[.val (.int p0), .val (.int p1), .val (.int p2), .val (.int lc), .val (.int lo), .val (.int c0), .val (.int c1), .val (.int o0), .val (.int o1), .val (.ref a6), .val (.ref a15), .val (.ref a25), .val (.int oo), .unset] [] := by
      intro oo hoo
      subst hoo
      refine W.aload (pc' := 105) X at_103 rfl rfl rfl ?_
      refine W.callV (pc' := 108) (W := 0) (argsL := []) (st := []) (k' := 79) (n' := 9158) (a := a25) X (c_len (a := a25) (b := a26) (cs := (R lc lo c0 c1 o0 o1)) G X.en F30) (w195 G) (w71 G) (nfM (z' := (⟨"java/lang/String", "length", "()I"⟩ : MethodName)) rfl (w73 G)) (w73 G) (w72 G) F30.exa (w74 G) (w6 G) (by decide) (by decide) (by decide) rfl (lenOf pd24 rfl) rfl rfl (Nat.le_of_eq rfl) at_105 rfl (by decide) (by decide) (by decide) (by decide) (kp fun T X => ?_)
      refine W.sipush (pc' := 111) X (138 : Int32) at_108 (by decide) rfl ?_
      refine W.iconst (pc' := 112) X (2 : Int32) at_111 (by decide) rfl ?_
      refine W.iloadN (pc' := 113) X at_112 rfl rfl ?_
      refine W.imul (pc' := 114) (w := ((2 : Int32) * lc)) X at_113 rfl rfl ?_
      refine W.iadd (pc' := 115) (w := ((138 : Int32) + ((2 : Int32) * lc))) X at_114 rfl rfl ?_
      refine W.iconst (pc' := 116) X (2 : Int32) at_115 (by decide) rfl ?_
      refine W.iload (pc' := 118) X at_116 rfl rfl ?_
      refine W.imul (pc' := 119) (w := ((2 : Int32) * (oO lo))) X at_118 rfl rfl ?_
      refine W.iadd (pc' := 120) (w := (((138 : Int32) + ((2 : Int32) * lc)) + ((2 : Int32) * (oO lo)))) X at_119 rfl rfl ?_
      refine W.icT (pc' := 125) X at_120 (XT.ii_eq_t (by rcases hlc with rfl | rfl | rfl <;> rcases hlo with rfl | rfl | rfl <;> rfl)) (by decide) (by decide) ?_
      refine W.aload (pc' := 127) X at_125 rfl rfl rfl ?_
      refine W.iconst (pc' := 128) X (0 : Int32) at_127 (by decide) rfl ?_
      refine W.ldcR (pc' := 130) (k' := 81) (n' := 9230) (cap := 68) (cs := [(85 : Int32), (115 : Int32), (97 : Int32), (103 : Int32), (101 : Int32), (58 : Int32), (32 : Int32), (106 : Int32), (97 : Int32), (118 : Int32), (97 : Int32), (32 : Int32), (45 : Int32), (106 : Int32), (97 : Int32), (114 : Int32), (32 : Int32)]) X (by decide) (w196 G) (watoms G) G.2.1 ⟨by decide, by decide⟩ (by unfold Lat; decide) (by decide) at_128 (by decide) (by decide) rfl (by decide) (by decide) (by decide) (by decide) fun T h33 B37 a34 a38 X K35 zb36 S39 ne40 => ?_
      have F41 := (F30.keep K35 nin0 nin0)
      refine W.callS (pc' := 133) (W := 0) (argsL := [(.ref a25), (.int (0 : Int32)), (.ref a34)]) (st := []) (k' := 81) (n' := 9230) X (c_lit (r := a25) (rb := a26) (s := a34) (sb := a38) (cs := (R lc lo c0 c1 o0 o1)) (ds := [(85 : Int32), (115 : Int32), (97 : Int32), (103 : Int32), (101 : Int32), (58 : Int32), (32 : Int32), (106 : Int32), (97 : Int32), (118 : Int32), (97 : Int32), (32 : Int32), (45 : Int32), (106 : Int32), (97 : Int32), (114 : Int32), (32 : Int32)]) (i := 0) G X.en F41 S39 (by rcases hlc with rfl | rfl | rfl <;> rcases hlo with rfl | rfl | rfl <;> exact ⟨rfl, Nat.le_of_ble_eq_true rfl⟩)) (w197 G) (w198 G) (w199 G) (w2 G) (by decide) (by decide) (by decide) rfl (lenOf pd49 rfl) rfl rfl (Nat.le_of_eq rfl) at_130 rfl (by decide) (by decide) (by decide) (by decide) (kp fun T X => ?_)
      refine W.ifF (pc' := 136) X at_133 (by decide) rfl ?_
      refine W.aload (pc' := 138) X at_136 rfl rfl rfl ?_
      refine W.bipush (pc' := 140) X (17 : Int32) at_138 (by decide) rfl ?_
      refine W.ldcR (pc' := 142) (k' := 83) (n' := 9290) (cap := 56) (cs := [(99 : Int32), (111 : Int32), (109 : Int32), (112 : Int32), (101 : Int32), (110 : Int32), (100 : Int32), (105 : Int32), (111 : Int32), (46 : Int32), (106 : Int32), (97 : Int32), (114 : Int32), (32 : Int32)]) X (by decide) (w222 G) (watoms G) G.2.1 ⟨by decide, by decide⟩ (by unfold Lat; decide) (by decide) at_140 (by decide) (by decide) rfl (by decide) (by decide) (by decide) (by decide) fun T h42 B46 a43 a47 X K44 zb45 S48 ne49 => ?_
      have F50 := (F41.keep K44 nin0 nin0)
      refine W.callS (pc' := 145) (W := 0) (argsL := [(.ref a25), (.int (17 : Int32)), (.ref a43)]) (st := []) (k' := 83) (n' := 9290) X (c_lit (r := a25) (rb := a26) (s := a43) (sb := a47) (cs := (R lc lo c0 c1 o0 o1)) (ds := [(99 : Int32), (111 : Int32), (109 : Int32), (112 : Int32), (101 : Int32), (110 : Int32), (100 : Int32), (105 : Int32), (111 : Int32), (46 : Int32), (106 : Int32), (97 : Int32), (114 : Int32), (32 : Int32)]) (i := 17) G X.en F50 S48 (by rcases hlc with rfl | rfl | rfl <;> rcases hlo with rfl | rfl | rfl <;> exact ⟨rfl, Nat.le_of_ble_eq_true rfl⟩)) (w197 G) (w198 G) (w199 G) (w2 G) (by decide) (by decide) (by decide) rfl (lenOf pd49 rfl) rfl rfl (Nat.le_of_eq rfl) at_142 rfl (by decide) (by decide) (by decide) (by decide) (kp fun T X => ?_)
      refine W.ifF (pc' := 148) X at_145 (by decide) rfl ?_
      refine W.iconst (pc' := 149) X (1 : Int32) at_148 (by decide) rfl ?_
      refine W.goto (pc' := 153) X at_149 (by decide) (by decide) ?_
      refine W.istore (pc' := 155) (ls' := #[.val (.int p0), .val (.int p1), .val (.int p2), .val (.int lc), .val (.int lo), .val (.int c0), .val (.int c1), .val (.int o0), .val (.int o1), .val (.ref a6), .val (.ref a15), .val (.ref a25), .val (.int (oO lo)), .val (.int (1 : Int32))]) X at_153 rfl rfl ?_
      refine W.iload (pc' := 157) X at_155 rfl rfl ?_
      refine W.ifF (pc' := 160) X at_157 (by decide) rfl ?_
      refine W.aload (pc' := 162) X at_160 rfl rfl rfl ?_
      refine W.bipush (pc' := 164) X (31 : Int32) at_162 (by decide) rfl ?_
      refine W.iloadN (pc' := 165) X at_164 rfl rfl ?_
      refine W.iload (pc' := 167) X at_165 rfl rfl ?_
      refine W.iload (pc' := 169) X at_167 rfl rfl ?_
      refine W.callS (pc' := 172) (W := 0) (argsL := [(.ref a25), (.int (31 : Int32)), (.int lc), (.int c0), (.int c1)]) (st := []) (k' := 83) (n' := 9290) X (c_word (r := a25) (rb := a26) (cs := (R lc lo c0 c1 o0 o1)) (i := 31) (n := lc) (x := c0) (y := c1) G X.en F50 (by rcases hlc with rfl | rfl | rfl <;> rcases hlo with rfl | rfl | rfl <;> refine ⟨fun q => ?_, fun q => ?_⟩ <;> first | exact ⟨Nat.le_of_ble_eq_true rfl, rfl⟩ | exact absurd (by decide) q)) (w223 G) (w224 G) (w225 G) (w2 G) (by decide) (by decide) (by decide) rfl (lenOf pd46 rfl) rfl rfl (Nat.le_of_eq rfl) at_169 rfl (by decide) (by decide) (by decide) (by decide) (kp fun T X => ?_)
      refine W.ifF (pc' := 175) X at_172 (by decide) rfl ?_
      refine W.aload (pc' := 177) X at_175 rfl rfl rfl ?_
      refine W.bipush (pc' := 179) X (31 : Int32) at_177 (by decide) rfl ?_
      refine W.iloadN (pc' := 180) X at_179 rfl rfl ?_
      refine W.iadd (pc' := 181) (w := (31 + 1 * nN lc + 0 * nO lo).toInt32) X at_180 (by rcases hlc with rfl | rfl | rfl <;> rcases hlo with rfl | rfl | rfl <;> rfl) rfl ?_
      refine W.callV (pc' := 184) (W := 0) (argsL := [(.int (31 + 1 * nN lc + 0 * nO lo).toInt32)]) (st := []) (k' := 83) (n' := 9290) (a := a25) X (c_ch (a := a25) (b := a26) (cs := (R lc lo c0 c1 o0 o1)) (i := (31 + 1 * nN lc + 0 * nO lo)) G X.en F50 (by rcases hlc with rfl | rfl | rfl <;> rcases hlo with rfl | rfl | rfl <;> exact Nat.le_of_ble_eq_true rfl)) (w200 G) (w201 G) (nfM (z' := (⟨"java/lang/String", "length", "()I"⟩ : MethodName)) rfl (w73 G)) (w203 G) (w202 G) F50.exa (w204 G) (w6 G) (by decide) (by decide) (by decide) rfl (lenOf pd45 rfl) rfl rfl (Nat.le_of_eq rfl) at_181 rfl (by decide) (by decide) (by decide) (by decide) (kp fun T X => ?_)
      refine W.bipush (pc' := 186) X (32 : Int32) at_184 (by decide) rfl ?_
      refine W.icF (pc' := 189) X at_186 (XT.ii_ne_f (by rcases hlc with rfl | rfl | rfl <;> rcases hlo with rfl | rfl | rfl <;> rfl)) rfl ?_
      refine W.iconst (pc' := 190) X (1 : Int32) at_189 (by decide) rfl ?_
      refine W.goto (pc' := 194) X at_190 (by decide) (by decide) ?_
      refine W.istore (pc' := 196) (ls' := #[.val (.int p0), .val (.int p1), .val (.int p2), .val (.int lc), .val (.int lo), .val (.int c0), .val (.int c1), .val (.int o0), .val (.int o1), .val (.ref a6), .val (.ref a15), .val (.ref a25), .val (.int (oO lo)), .val (.int (1 : Int32))]) X at_194 rfl rfl ?_
      refine W.iload (pc' := 198) X at_196 rfl rfl ?_
      refine W.ifF (pc' := 201) X at_198 (by decide) rfl ?_
      refine W.aload (pc' := 203) X at_201 rfl rfl rfl ?_
      refine W.bipush (pc' := 205) X (32 : Int32) at_203 (by decide) rfl ?_
      refine W.iloadN (pc' := 206) X at_205 rfl rfl ?_
      refine W.iadd (pc' := 207) (w := (32 + 1 * nN lc + 0 * nO lo).toInt32) X at_206 (by rcases hlc with rfl | rfl | rfl <;> rcases hlo with rfl | rfl | rfl <;> rfl) rfl ?_
      refine W.iload (pc' := 209) X at_207 rfl rfl ?_
      refine W.iload (pc' := 211) X at_209 rfl rfl ?_
      refine W.iload (pc' := 213) X at_211 rfl rfl ?_
      refine W.callS (pc' := 216) (W := 0) (argsL := [(.ref a25), (.int (32 + 1 * nN lc + 0 * nO lo).toInt32), (.int lo), (.int o0), (.int o1)]) (st := []) (k' := 83) (n' := 9290) X (c_own (r := a25) (rb := a26) (cs := (R lc lo c0 c1 o0 o1)) (i := (32 + 1 * nN lc + 0 * nO lo)) (n := lo) (x := o0) (y := o1) G X.en F50 hlo (by rcases hlc with rfl | rfl | rfl <;> rcases hlo with rfl | rfl | rfl <;> refine fun q0 => ⟨⟨fun q => ?_, fun q => ?_⟩, ?_, ?_⟩ <;> first | exact absurd rfl q0 | exact ⟨Nat.le_of_ble_eq_true rfl, rfl⟩ | exact absurd (by decide) q | exact Nat.le_of_ble_eq_true rfl | rfl)) (w226 G) (w227 G) (w228 G) (w2 G) (by decide) (by decide) (by decide) rfl (lenOf pd46 rfl) rfl rfl (Nat.le_of_eq rfl) at_213 rfl (by decide) (by decide) (by decide) (by decide) (kp fun T X => ?_)
      refine W.ifF (pc' := 219) X at_216 (by decide) rfl ?_
      refine W.iconst (pc' := 220) X (1 : Int32) at_219 (by decide) rfl ?_
      refine W.goto (pc' := 224) X at_220 (by decide) (by decide) ?_
      refine W.istore (pc' := 226) (ls' := #[.val (.int p0), .val (.int p1), .val (.int p2), .val (.int lc), .val (.int lo), .val (.int c0), .val (.int c1), .val (.int o0), .val (.int o1), .val (.ref a6), .val (.ref a15), .val (.ref a25), .val (.int (oO lo)), .val (.int (1 : Int32))]) X at_224 rfl rfl ?_
      refine W.iload (pc' := 228) X at_226 rfl rfl ?_
      refine W.ifF (pc' := 231) X at_228 (by decide) rfl ?_
      refine W.aload (pc' := 233) X at_231 rfl rfl rfl ?_
      refine W.bipush (pc' := 235) X (32 : Int32) at_233 (by decide) rfl ?_
      refine W.iloadN (pc' := 236) X at_235 rfl rfl ?_
      refine W.iadd (pc' := 237) (w := ((32 : Int32) + lc)) X at_236 rfl rfl ?_
      refine W.iload (pc' := 239) X at_237 rfl rfl ?_
      refine W.iadd (pc' := 240) (w := (32 + 1 * nN lc + 1 * nO lo).toInt32) X at_239 (by rcases hlc with rfl | rfl | rfl <;> rcases hlo with rfl | rfl | rfl <;> rfl) rfl ?_
      refine W.ldcR (pc' := 242) (k' := 85) (n' := 9378) (cap := 84) (cs := [(91 : Int32), (45 : Int32), (45 : Int32), (115 : Int32), (101 : Int32), (116 : Int32), (32 : Int32), (75 : Int32), (69 : Int32), (89 : Int32), (61 : Int32), (86 : Int32), (65 : Int32), (76 : Int32), (85 : Int32), (69 : Int32), (93 : Int32), (46 : Int32), (46 : Int32), (46 : Int32), (32 : Int32)]) X (by decide) (w229 G) (watoms G) G.2.1 ⟨by decide, by decide⟩ (by unfold Lat; decide) (by decide) at_240 (by decide) (by decide) rfl (by decide) (by decide) (by decide) (by decide) fun T h51 B55 a52 a56 X K53 zb54 S57 ne58 => ?_
      have F59 := (F50.keep K53 nin0 nin0)
      refine W.callS (pc' := 245) (W := 0) (argsL := [(.ref a25), (.int (32 + 1 * nN lc + 1 * nO lo).toInt32), (.ref a52)]) (st := []) (k' := 85) (n' := 9378) X (c_lit (r := a25) (rb := a26) (s := a52) (sb := a56) (cs := (R lc lo c0 c1 o0 o1)) (ds := [(91 : Int32), (45 : Int32), (45 : Int32), (115 : Int32), (101 : Int32), (116 : Int32), (32 : Int32), (75 : Int32), (69 : Int32), (89 : Int32), (61 : Int32), (86 : Int32), (65 : Int32), (76 : Int32), (85 : Int32), (69 : Int32), (93 : Int32), (46 : Int32), (46 : Int32), (46 : Int32), (32 : Int32)]) (i := (32 + 1 * nN lc + 1 * nO lo)) G X.en F59 S57 (by rcases hlc with rfl | rfl | rfl <;> rcases hlo with rfl | rfl | rfl <;> exact ⟨rfl, Nat.le_of_ble_eq_true rfl⟩)) (w197 G) (w198 G) (w199 G) (w2 G) (by decide) (by decide) (by decide) rfl (lenOf pd49 rfl) rfl rfl (Nat.le_of_eq rfl) at_242 rfl (by decide) (by decide) (by decide) (by decide) (kp fun T X => ?_)
      refine W.ifF (pc' := 248) X at_245 (by decide) rfl ?_
      refine W.aload (pc' := 250) X at_248 rfl rfl rfl ?_
      refine W.bipush (pc' := 252) X (53 : Int32) at_250 (by decide) rfl ?_
      refine W.iloadN (pc' := 253) X at_252 rfl rfl ?_
      refine W.iadd (pc' := 254) (w := ((53 : Int32) + lc)) X at_253 rfl rfl ?_
      refine W.iload (pc' := 256) X at_254 rfl rfl ?_
      refine W.iadd (pc' := 257) (w := (53 + 1 * nN lc + 1 * nO lo).toInt32) X at_256 (by rcases hlc with rfl | rfl | rfl <;> rcases hlo with rfl | rfl | rfl <;> rfl) rfl ?_
      refine W.ldcR (pc' := 259) (k' := 87) (n' := 9426) (cap := 44) (cs := [(60 : Int32), (116 : Int32), (101 : Int32), (114 : Int32), (109 : Int32), (32 : Int32), (102 : Int32), (105 : Int32), (108 : Int32), (101 : Int32), (62 : Int32)]) X (by decide) (w230 G) (watoms G) G.2.1 ⟨by decide, by decide⟩ (by unfold Lat; decide) (by decide) at_257 (by decide) (by decide) rfl (by decide) (by decide) (by decide) (by decide) fun T h60 B64 a61 a65 X K62 zb63 S66 ne67 => ?_
      have F68 := (F59.keep K62 nin0 nin0)
      refine W.callS (pc' := 262) (W := 0) (argsL := [(.ref a25), (.int (53 + 1 * nN lc + 1 * nO lo).toInt32), (.ref a61)]) (st := []) (k' := 87) (n' := 9426) X (c_lit (r := a25) (rb := a26) (s := a61) (sb := a65) (cs := (R lc lo c0 c1 o0 o1)) (ds := [(60 : Int32), (116 : Int32), (101 : Int32), (114 : Int32), (109 : Int32), (32 : Int32), (102 : Int32), (105 : Int32), (108 : Int32), (101 : Int32), (62 : Int32)]) (i := (53 + 1 * nN lc + 1 * nO lo)) G X.en F68 S66 (by rcases hlc with rfl | rfl | rfl <;> rcases hlo with rfl | rfl | rfl <;> exact ⟨rfl, Nat.le_of_ble_eq_true rfl⟩)) (w197 G) (w198 G) (w199 G) (w2 G) (by decide) (by decide) (by decide) rfl (lenOf pd49 rfl) rfl rfl (Nat.le_of_eq rfl) at_259 rfl (by decide) (by decide) (by decide) (by decide) (kp fun T X => ?_)
      refine W.ifF (pc' := 265) X at_262 (by decide) rfl ?_
      refine W.iconst (pc' := 266) X (1 : Int32) at_265 (by decide) rfl ?_
      refine W.goto (pc' := 270) X at_266 (by decide) (by decide) ?_
      refine W.istore (pc' := 272) (ls' := #[.val (.int p0), .val (.int p1), .val (.int p2), .val (.int lc), .val (.int lo), .val (.int c0), .val (.int c1), .val (.int o0), .val (.int o1), .val (.ref a6), .val (.ref a15), .val (.ref a25), .val (.int (oO lo)), .val (.int (1 : Int32))]) X at_270 rfl rfl ?_
      refine W.iload (pc' := 274) X at_272 rfl rfl ?_
      refine W.ifF (pc' := 277) X at_274 (by decide) rfl ?_
      refine W.aload (pc' := 279) X at_277 rfl rfl rfl ?_
      refine W.bipush (pc' := 281) X (64 : Int32) at_279 (by decide) rfl ?_
      refine W.iloadN (pc' := 282) X at_281 rfl rfl ?_
      refine W.iadd (pc' := 283) (w := ((64 : Int32) + lc)) X at_282 rfl rfl ?_
      refine W.iload (pc' := 285) X at_283 rfl rfl ?_
      refine W.iadd (pc' := 286) (w := (64 + 1 * nN lc + 1 * nO lo).toInt32) X at_285 (by rcases hlc with rfl | rfl | rfl <;> rcases hlo with rfl | rfl | rfl <;> rfl) rfl ?_
      refine W.ldcR (pc' := 288) (k' := 89) (n' := 9462) (cap := 32) (cs := [(10 : Int32), (32 : Int32), (32 : Int32), (32 : Int32), (32 : Int32), (32 : Int32), (32 : Int32), (32 : Int32)]) X (by decide) (w231 G) (watoms G) G.2.1 ⟨by decide, by decide⟩ (by unfold Lat; decide) (by decide) at_286 (by decide) (by decide) rfl (by decide) (by decide) (by decide) (by decide) fun T h69 B73 a70 a74 X K71 zb72 S75 ne76 => ?_
      have F77 := (F68.keep K71 nin0 nin0)
      refine W.callS (pc' := 291) (W := 0) (argsL := [(.ref a25), (.int (64 + 1 * nN lc + 1 * nO lo).toInt32), (.ref a70)]) (st := []) (k' := 89) (n' := 9462) X (c_lit (r := a25) (rb := a26) (s := a70) (sb := a74) (cs := (R lc lo c0 c1 o0 o1)) (ds := [(10 : Int32), (32 : Int32), (32 : Int32), (32 : Int32), (32 : Int32), (32 : Int32), (32 : Int32), (32 : Int32)]) (i := (64 + 1 * nN lc + 1 * nO lo)) G X.en F77 S75 (by rcases hlc with rfl | rfl | rfl <;> rcases hlo with rfl | rfl | rfl <;> exact ⟨rfl, Nat.le_of_ble_eq_true rfl⟩)) (w197 G) (w198 G) (w199 G) (w2 G) (by decide) (by decide) (by decide) rfl (lenOf pd49 rfl) rfl rfl (Nat.le_of_eq rfl) at_288 rfl (by decide) (by decide) (by decide) (by decide) (kp fun T X => ?_)
      refine W.ifF (pc' := 294) X at_291 (by decide) rfl ?_
      refine W.aload (pc' := 296) X at_294 rfl rfl rfl ?_
      refine W.bipush (pc' := 298) X (72 : Int32) at_296 (by decide) rfl ?_
      refine W.iloadN (pc' := 299) X at_298 rfl rfl ?_
      refine W.iadd (pc' := 300) (w := ((72 : Int32) + lc)) X at_299 rfl rfl ?_
      refine W.iload (pc' := 302) X at_300 rfl rfl ?_
      refine W.iadd (pc' := 303) (w := (72 + 1 * nN lc + 1 * nO lo).toInt32) X at_302 (by rcases hlc with rfl | rfl | rfl <;> rcases hlo with rfl | rfl | rfl <;> rfl) rfl ?_
      refine W.ldcR (pc' := 305) (k' := 91) (n' := 9506) (cap := 40) (cs := [(106 : Int32), (97 : Int32), (118 : Int32), (97 : Int32), (32 : Int32), (45 : Int32), (106 : Int32), (97 : Int32), (114 : Int32), (32 : Int32)]) X (by decide) (w232 G) (watoms G) G.2.1 ⟨by decide, by decide⟩ (by unfold Lat; decide) (by decide) at_303 (by decide) (by decide) rfl (by decide) (by decide) (by decide) (by decide) fun T h78 B82 a79 a83 X K80 zb81 S84 ne85 => ?_
      have F86 := (F77.keep K80 nin0 nin0)
      refine W.callS (pc' := 308) (W := 0) (argsL := [(.ref a25), (.int (72 + 1 * nN lc + 1 * nO lo).toInt32), (.ref a79)]) (st := []) (k' := 91) (n' := 9506) X (c_lit (r := a25) (rb := a26) (s := a79) (sb := a83) (cs := (R lc lo c0 c1 o0 o1)) (ds := [(106 : Int32), (97 : Int32), (118 : Int32), (97 : Int32), (32 : Int32), (45 : Int32), (106 : Int32), (97 : Int32), (114 : Int32), (32 : Int32)]) (i := (72 + 1 * nN lc + 1 * nO lo)) G X.en F86 S84 (by rcases hlc with rfl | rfl | rfl <;> rcases hlo with rfl | rfl | rfl <;> exact ⟨rfl, Nat.le_of_ble_eq_true rfl⟩)) (w197 G) (w198 G) (w199 G) (w2 G) (by decide) (by decide) (by decide) rfl (lenOf pd49 rfl) rfl rfl (Nat.le_of_eq rfl) at_305 rfl (by decide) (by decide) (by decide) (by decide) (kp fun T X => ?_)
      refine W.ifF (pc' := 311) X at_308 (by decide) rfl ?_
      refine W.aload (pc' := 313) X at_311 rfl rfl rfl ?_
      refine W.bipush (pc' := 315) X (82 : Int32) at_313 (by decide) rfl ?_
      refine W.iloadN (pc' := 316) X at_315 rfl rfl ?_
      refine W.iadd (pc' := 317) (w := ((82 : Int32) + lc)) X at_316 rfl rfl ?_
      refine W.iload (pc' := 319) X at_317 rfl rfl ?_
      refine W.iadd (pc' := 320) (w := (82 + 1 * nN lc + 1 * nO lo).toInt32) X at_319 (by rcases hlc with rfl | rfl | rfl <;> rcases hlo with rfl | rfl | rfl <;> rfl) rfl ?_
      refine W.ldcR (pc' := 322) (k' := 93) (n' := 9566) (cap := 56) (cs := [(99 : Int32), (111 : Int32), (109 : Int32), (112 : Int32), (101 : Int32), (110 : Int32), (100 : Int32), (105 : Int32), (111 : Int32), (46 : Int32), (106 : Int32), (97 : Int32), (114 : Int32), (32 : Int32)]) X (by decide) (w222 G) (watoms G) G.2.1 ⟨by decide, by decide⟩ (by unfold Lat; decide) (by decide) at_320 (by decide) (by decide) rfl (by decide) (by decide) (by decide) (by decide) fun T h87 B91 a88 a92 X K89 zb90 S93 ne94 => ?_
      have F95 := (F86.keep K89 nin0 nin0)
      refine W.callS (pc' := 325) (W := 0) (argsL := [(.ref a25), (.int (82 + 1 * nN lc + 1 * nO lo).toInt32), (.ref a88)]) (st := []) (k' := 93) (n' := 9566) X (c_lit (r := a25) (rb := a26) (s := a88) (sb := a92) (cs := (R lc lo c0 c1 o0 o1)) (ds := [(99 : Int32), (111 : Int32), (109 : Int32), (112 : Int32), (101 : Int32), (110 : Int32), (100 : Int32), (105 : Int32), (111 : Int32), (46 : Int32), (106 : Int32), (97 : Int32), (114 : Int32), (32 : Int32)]) (i := (82 + 1 * nN lc + 1 * nO lo)) G X.en F95 S93 (by rcases hlc with rfl | rfl | rfl <;> rcases hlo with rfl | rfl | rfl <;> exact ⟨rfl, Nat.le_of_ble_eq_true rfl⟩)) (w197 G) (w198 G) (w199 G) (w2 G) (by decide) (by decide) (by decide) rfl (lenOf pd49 rfl) rfl rfl (Nat.le_of_eq rfl) at_322 rfl (by decide) (by decide) (by decide) (by decide) (kp fun T X => ?_)
      refine W.ifF (pc' := 328) X at_325 (by decide) rfl ?_
      refine W.iconst (pc' := 329) X (1 : Int32) at_328 (by decide) rfl ?_
      refine W.goto (pc' := 333) X at_329 (by decide) (by decide) ?_
      refine W.istore (pc' := 335) (ls' := #[.val (.int p0), .val (.int p1), .val (.int p2), .val (.int lc), .val (.int lo), .val (.int c0), .val (.int c1), .val (.int o0), .val (.int o1), .val (.ref a6), .val (.ref a15), .val (.ref a25), .val (.int (oO lo)), .val (.int (1 : Int32))]) X at_333 rfl rfl ?_
      refine W.iload (pc' := 337) X at_335 rfl rfl ?_
      refine W.ifF (pc' := 340) X at_337 (by decide) rfl ?_
      refine W.aload (pc' := 342) X at_340 rfl rfl rfl ?_
      refine W.bipush (pc' := 344) X (96 : Int32) at_342 (by decide) rfl ?_
      refine W.iloadN (pc' := 345) X at_344 rfl rfl ?_
      refine W.iadd (pc' := 346) (w := ((96 : Int32) + lc)) X at_345 rfl rfl ?_
      refine W.iload (pc' := 348) X at_346 rfl rfl ?_
      refine W.iadd (pc' := 349) (w := (96 + 1 * nN lc + 1 * nO lo).toInt32) X at_348 (by rcases hlc with rfl | rfl | rfl <;> rcases hlo with rfl | rfl | rfl <;> rfl) rfl ?_
      refine W.iloadN (pc' := 350) X at_349 rfl rfl ?_
      refine W.iload (pc' := 352) X at_350 rfl rfl ?_
      refine W.iload (pc' := 354) X at_352 rfl rfl ?_
      refine W.callS (pc' := 357) (W := 0) (argsL := [(.ref a25), (.int (96 + 1 * nN lc + 1 * nO lo).toInt32), (.int lc), (.int c0), (.int c1)]) (st := []) (k' := 93) (n' := 9566) X (c_word (r := a25) (rb := a26) (cs := (R lc lo c0 c1 o0 o1)) (i := (96 + 1 * nN lc + 1 * nO lo)) (n := lc) (x := c0) (y := c1) G X.en F95 (by rcases hlc with rfl | rfl | rfl <;> rcases hlo with rfl | rfl | rfl <;> refine ⟨fun q => ?_, fun q => ?_⟩ <;> first | exact ⟨Nat.le_of_ble_eq_true rfl, rfl⟩ | exact absurd (by decide) q)) (w223 G) (w224 G) (w225 G) (w2 G) (by decide) (by decide) (by decide) rfl (lenOf pd46 rfl) rfl rfl (Nat.le_of_eq rfl) at_354 rfl (by decide) (by decide) (by decide) (by decide) (kp fun T X => ?_)
      refine W.ifF (pc' := 360) X at_357 (by decide) rfl ?_
      refine W.aload (pc' := 362) X at_360 rfl rfl rfl ?_
      refine W.bipush (pc' := 364) X (96 : Int32) at_362 (by decide) rfl ?_
      refine W.iconst (pc' := 365) X (2 : Int32) at_364 (by decide) rfl ?_
      refine W.iloadN (pc' := 366) X at_365 rfl rfl ?_
      refine W.imul (pc' := 367) (w := ((2 : Int32) * lc)) X at_366 rfl rfl ?_
      refine W.iadd (pc' := 368) (w := ((96 : Int32) + ((2 : Int32) * lc))) X at_367 rfl rfl ?_
      refine W.iload (pc' := 370) X at_368 rfl rfl ?_
      refine W.iadd (pc' := 371) (w := (96 + 2 * nN lc + 1 * nO lo).toInt32) X at_370 (by rcases hlc with rfl | rfl | rfl <;> rcases hlo with rfl | rfl | rfl <;> rfl) rfl ?_
      refine W.callV (pc' := 374) (W := 0) (argsL := [(.int (96 + 2 * nN lc + 1 * nO lo).toInt32)]) (st := []) (k' := 93) (n' := 9566) (a := a25) X (c_ch (a := a25) (b := a26) (cs := (R lc lo c0 c1 o0 o1)) (i := (96 + 2 * nN lc + 1 * nO lo)) G X.en F95 (by rcases hlc with rfl | rfl | rfl <;> rcases hlo with rfl | rfl | rfl <;> exact Nat.le_of_ble_eq_true rfl)) (w200 G) (w201 G) (nfM (z' := (⟨"java/lang/String", "length", "()I"⟩ : MethodName)) rfl (w73 G)) (w203 G) (w202 G) F95.exa (w204 G) (w6 G) (by decide) (by decide) (by decide) rfl (lenOf pd45 rfl) rfl rfl (Nat.le_of_eq rfl) at_371 rfl (by decide) (by decide) (by decide) (by decide) (kp fun T X => ?_)
      refine W.bipush (pc' := 376) X (32 : Int32) at_374 (by decide) rfl ?_
      refine W.icF (pc' := 379) X at_376 (XT.ii_ne_f (by rcases hlc with rfl | rfl | rfl <;> rcases hlo with rfl | rfl | rfl <;> rfl)) rfl ?_
      refine W.iconst (pc' := 380) X (1 : Int32) at_379 (by decide) rfl ?_
      refine W.goto (pc' := 384) X at_380 (by decide) (by decide) ?_
      refine W.istore (pc' := 386) (ls' := #[.val (.int p0), .val (.int p1), .val (.int p2), .val (.int lc), .val (.int lo), .val (.int c0), .val (.int c1), .val (.int o0), .val (.int o1), .val (.ref a6), .val (.ref a15), .val (.ref a25), .val (.int (oO lo)), .val (.int (1 : Int32))]) X at_384 rfl rfl ?_
      refine W.iload (pc' := 388) X at_386 rfl rfl ?_
      refine W.ifF (pc' := 391) X at_388 (by decide) rfl ?_
      refine W.aload (pc' := 393) X at_391 rfl rfl rfl ?_
      refine W.bipush (pc' := 395) X (97 : Int32) at_393 (by decide) rfl ?_
      refine W.iconst (pc' := 396) X (2 : Int32) at_395 (by decide) rfl ?_
      refine W.iloadN (pc' := 397) X at_396 rfl rfl ?_
      refine W.imul (pc' := 398) (w := ((2 : Int32) * lc)) X at_397 rfl rfl ?_
      refine W.iadd (pc' := 399) (w := ((97 : Int32) + ((2 : Int32) * lc))) X at_398 rfl rfl ?_
      refine W.iload (pc' := 401) X at_399 rfl rfl ?_
      refine W.iadd (pc' := 402) (w := (97 + 2 * nN lc + 1 * nO lo).toInt32) X at_401 (by rcases hlc with rfl | rfl | rfl <;> rcases hlo with rfl | rfl | rfl <;> rfl) rfl ?_
      refine W.iload (pc' := 404) X at_402 rfl rfl ?_
      refine W.iload (pc' := 406) X at_404 rfl rfl ?_
      refine W.iload (pc' := 408) X at_406 rfl rfl ?_
      refine W.callS (pc' := 411) (W := 0) (argsL := [(.ref a25), (.int (97 + 2 * nN lc + 1 * nO lo).toInt32), (.int lo), (.int o0), (.int o1)]) (st := []) (k' := 93) (n' := 9566) X (c_own (r := a25) (rb := a26) (cs := (R lc lo c0 c1 o0 o1)) (i := (97 + 2 * nN lc + 1 * nO lo)) (n := lo) (x := o0) (y := o1) G X.en F95 hlo (by rcases hlc with rfl | rfl | rfl <;> rcases hlo with rfl | rfl | rfl <;> refine fun q0 => ⟨⟨fun q => ?_, fun q => ?_⟩, ?_, ?_⟩ <;> first | exact absurd rfl q0 | exact ⟨Nat.le_of_ble_eq_true rfl, rfl⟩ | exact absurd (by decide) q | exact Nat.le_of_ble_eq_true rfl | rfl)) (w226 G) (w227 G) (w228 G) (w2 G) (by decide) (by decide) (by decide) rfl (lenOf pd46 rfl) rfl rfl (Nat.le_of_eq rfl) at_408 rfl (by decide) (by decide) (by decide) (by decide) (kp fun T X => ?_)
      refine W.ifF (pc' := 414) X at_411 (by decide) rfl ?_
      refine W.iconst (pc' := 415) X (1 : Int32) at_414 (by decide) rfl ?_
      refine W.goto (pc' := 419) X at_415 (by decide) (by decide) ?_
      refine W.istore (pc' := 421) (ls' := #[.val (.int p0), .val (.int p1), .val (.int p2), .val (.int lc), .val (.int lo), .val (.int c0), .val (.int c1), .val (.int o0), .val (.int o1), .val (.ref a6), .val (.ref a15), .val (.ref a25), .val (.int (oO lo)), .val (.int (1 : Int32))]) X at_419 rfl rfl ?_
      refine W.iload (pc' := 423) X at_421 rfl rfl ?_
      refine W.ifF (pc' := 426) X at_423 (by decide) rfl ?_
      refine W.aload (pc' := 428) X at_426 rfl rfl rfl ?_
      refine W.bipush (pc' := 430) X (97 : Int32) at_428 (by decide) rfl ?_
      refine W.iconst (pc' := 431) X (2 : Int32) at_430 (by decide) rfl ?_
      refine W.iloadN (pc' := 432) X at_431 rfl rfl ?_
      refine W.imul (pc' := 433) (w := ((2 : Int32) * lc)) X at_432 rfl rfl ?_
      refine W.iadd (pc' := 434) (w := ((97 : Int32) + ((2 : Int32) * lc))) X at_433 rfl rfl ?_
      refine W.iconst (pc' := 435) X (2 : Int32) at_434 (by decide) rfl ?_
      refine W.iload (pc' := 437) X at_435 rfl rfl ?_
      refine W.imul (pc' := 438) (w := ((2 : Int32) * (oO lo))) X at_437 rfl rfl ?_
      refine W.iadd (pc' := 439) (w := (97 + 2 * nN lc + 2 * nO lo).toInt32) X at_438 (by rcases hlc with rfl | rfl | rfl <;> rcases hlo with rfl | rfl | rfl <;> rfl) rfl ?_
      refine W.ldcR (pc' := 441) (k' := 95) (n' := 9654) (cap := 84) (cs := [(91 : Int32), (45 : Int32), (45 : Int32), (115 : Int32), (101 : Int32), (116 : Int32), (32 : Int32), (75 : Int32), (69 : Int32), (89 : Int32), (61 : Int32), (86 : Int32), (65 : Int32), (76 : Int32), (85 : Int32), (69 : Int32), (93 : Int32), (46 : Int32), (46 : Int32), (46 : Int32), (32 : Int32)]) X (by decide) (w229 G) (watoms G) G.2.1 ⟨by decide, by decide⟩ (by unfold Lat; decide) (by decide) at_439 (by decide) (by decide) rfl (by decide) (by decide) (by decide) (by decide) fun T h96 B100 a97 a101 X K98 zb99 S102 ne103 => ?_
      have F104 := (F95.keep K98 nin0 nin0)
      refine W.callS (pc' := 444) (W := 0) (argsL := [(.ref a25), (.int (97 + 2 * nN lc + 2 * nO lo).toInt32), (.ref a97)]) (st := []) (k' := 95) (n' := 9654) X (c_lit (r := a25) (rb := a26) (s := a97) (sb := a101) (cs := (R lc lo c0 c1 o0 o1)) (ds := [(91 : Int32), (45 : Int32), (45 : Int32), (115 : Int32), (101 : Int32), (116 : Int32), (32 : Int32), (75 : Int32), (69 : Int32), (89 : Int32), (61 : Int32), (86 : Int32), (65 : Int32), (76 : Int32), (85 : Int32), (69 : Int32), (93 : Int32), (46 : Int32), (46 : Int32), (46 : Int32), (32 : Int32)]) (i := (97 + 2 * nN lc + 2 * nO lo)) G X.en F104 S102 (by rcases hlc with rfl | rfl | rfl <;> rcases hlo with rfl | rfl | rfl <;> exact ⟨rfl, Nat.le_of_ble_eq_true rfl⟩)) (w197 G) (w198 G) (w199 G) (w2 G) (by decide) (by decide) (by decide) rfl (lenOf pd49 rfl) rfl rfl (Nat.le_of_eq rfl) at_441 rfl (by decide) (by decide) (by decide) (by decide) (kp fun T X => ?_)
      refine W.ifF (pc' := 447) X at_444 (by decide) rfl ?_
      refine W.aload (pc' := 449) X at_447 rfl rfl rfl ?_
      refine W.bipush (pc' := 451) X (118 : Int32) at_449 (by decide) rfl ?_
      refine W.iconst (pc' := 452) X (2 : Int32) at_451 (by decide) rfl ?_
      refine W.iloadN (pc' := 453) X at_452 rfl rfl ?_
      refine W.imul (pc' := 454) (w := ((2 : Int32) * lc)) X at_453 rfl rfl ?_
      refine W.iadd (pc' := 455) (w := ((118 : Int32) + ((2 : Int32) * lc))) X at_454 rfl rfl ?_
      refine W.iconst (pc' := 456) X (2 : Int32) at_455 (by decide) rfl ?_
      refine W.iload (pc' := 458) X at_456 rfl rfl ?_
      refine W.imul (pc' := 459) (w := ((2 : Int32) * (oO lo))) X at_458 rfl rfl ?_
      refine W.iadd (pc' := 460) (w := (118 + 2 * nN lc + 2 * nO lo).toInt32) X at_459 (by rcases hlc with rfl | rfl | rfl <;> rcases hlo with rfl | rfl | rfl <;> rfl) rfl ?_
      refine W.ldcR (pc' := 462) (k' := 97) (n' := 9738) (cap := 80) (cs := [(45 : Int32), (45 : Int32), (98 : Int32), (111 : Int32), (111 : Int32), (107 : Int32), (32 : Int32), (60 : Int32), (100 : Int32), (105 : Int32), (114 : Int32), (101 : Int32), (99 : Int32), (116 : Int32), (111 : Int32), (114 : Int32), (121 : Int32), (62 : Int32), (10 : Int32), (10 : Int32)]) X (by decide) (w233 G) (watoms G) G.2.1 ⟨by decide, by decide⟩ (by unfold Lat; decide) (by decide) at_460 (by decide) (by decide) rfl (by decide) (by decide) (by decide) (by decide) fun T h105 B109 a106 a110 X K107 zb108 S111 ne112 => ?_
      have F113 := (F104.keep K107 nin0 nin0)
      refine W.callS (pc' := 465) (W := 0) (argsL := [(.ref a25), (.int (118 + 2 * nN lc + 2 * nO lo).toInt32), (.ref a106)]) (st := []) (k' := 97) (n' := 9738) X (c_lit (r := a25) (rb := a26) (s := a106) (sb := a110) (cs := (R lc lo c0 c1 o0 o1)) (ds := [(45 : Int32), (45 : Int32), (98 : Int32), (111 : Int32), (111 : Int32), (107 : Int32), (32 : Int32), (60 : Int32), (100 : Int32), (105 : Int32), (114 : Int32), (101 : Int32), (99 : Int32), (116 : Int32), (111 : Int32), (114 : Int32), (121 : Int32), (62 : Int32), (10 : Int32), (10 : Int32)]) (i := (118 + 2 * nN lc + 2 * nO lo)) G X.en F113 S111 (by rcases hlc with rfl | rfl | rfl <;> rcases hlo with rfl | rfl | rfl <;> exact ⟨rfl, Nat.le_of_ble_eq_true rfl⟩)) (w197 G) (w198 G) (w199 G) (w2 G) (by decide) (by decide) (by decide) rfl (lenOf pd49 rfl) rfl rfl (Nat.le_of_eq rfl) at_462 rfl (by decide) (by decide) (by decide) (by decide) (kp fun T X => ?_)
      refine W.ifF (pc' := 468) X at_465 (by decide) rfl ?_
      refine W.iconst (pc' := 469) X (1 : Int32) at_468 (by decide) rfl ?_
      refine W.goto (pc' := 473) X at_469 (by decide) (by decide) ?_
      refine W.istore (pc' := 475) (ls' := #[.val (.int p0), .val (.int p1), .val (.int p2), .val (.int lc), .val (.int lo), .val (.int c0), .val (.int c1), .val (.int o0), .val (.int o1), .val (.ref a6), .val (.ref a15), .val (.ref a25), .val (.int (oO lo)), .val (.int (1 : Int32))]) X at_473 rfl rfl ?_
      refine W.iload (pc' := 477) X at_475 rfl rfl ?_
      exact W.ireturn X at_477 rfl (by decide) (by decide) (by decide) (by decide) rfl
    refine W.iload (pc' := 90) X at_88 rfl rfl ?_
    by_cases hz : lo = (0 : Int32)
    · skip
      refine W.ifF (pc' := 93) X at_90 (XT.i0_ne_f hz) rfl ?_
      refine W.iconst (pc' := 94) X (0 : Int32) at_93 (by decide) rfl ?_
      refine W.goto (pc' := 101) X at_94 (by decide) (by decide) ?_
      refine W.istore (pc' := 103) (ls' := #[.val (.int p0), .val (.int p1), .val (.int p2), .val (.int lc), .val (.int lo), .val (.int c0), .val (.int c1), .val (.int o0), .val (.int o1), .val (.ref a6), .val (.ref a15), .val (.ref a25), .val (.int (0 : Int32)), .unset]) X at_101 rfl rfl ?_
      exact s103 _ (by rw [oO, if_pos hz])
    · skip
      refine W.ifT (pc' := 97) X at_90 (XT.i0_ne_t hz) (by decide) (by decide) ?_
      refine W.iload (pc' := 99) X at_97 rfl rfl ?_
      refine W.iconst (pc' := 100) X (1 : Int32) at_99 (by decide) rfl ?_
      refine W.iadd (pc' := 101) (w := (lo + (1 : Int32))) X at_100 rfl rfl ?_
      refine W.istore (pc' := 103) (ls' := #[.val (.int p0), .val (.int p1), .val (.int p2), .val (.int lc), .val (.int lo), .val (.int c0), .val (.int c1), .val (.int o0), .val (.int o1), .val (.ref a6), .val (.ref a15), .val (.ref a25), .val (.int (lo + (1 : Int32))), .unset]) X at_101 rfl rfl ?_
      exact s103 _ (by rw [oO, if_neg hz])
  refine W.iloadN (pc' := 1) X at_0 rfl rfl ?_
  refine W.sipush (pc' := 4) X (255 : Int32) at_1 (by decide) rfl ?_
  refine W.iand (pc' := 5) (w := (p2 &&& (255 : Int32))) X at_4 rfl rfl ?_
  refine W.iconst (pc' := 6) X (3 : Int32) at_5 (by decide) rfl ?_
  refine W.irem (pc' := 7) (w := ((p2 &&& (255 : Int32)) % (3 : Int32))) X at_6 (by decide) rfl rfl ?_
  refine W.istoreN (pc' := 8) (ls' := #[.val (.int p0), .val (.int p1), .val (.int p2), .val (.int ((p2 &&& (255 : Int32)) % (3 : Int32))), .unset, .unset, .unset, .unset, .unset, .unset, .unset, .unset, .unset, .unset]) X at_7 rfl rfl ?_
  refine W.iloadN (pc' := 9) X at_8 rfl rfl ?_
  refine W.bipush (pc' := 11) X (8 : Int32) at_9 (by decide) rfl ?_
  refine W.iushr (pc' := 12) (w := (XT.ushr p2 (8 : Int32))) X at_11 rfl rfl ?_
  refine W.sipush (pc' := 15) X (255 : Int32) at_12 (by decide) rfl ?_
  refine W.iand (pc' := 16) (w := ((XT.ushr p2 (8 : Int32)) &&& (255 : Int32))) X at_15 rfl rfl ?_
  refine W.iconst (pc' := 17) X (3 : Int32) at_16 (by decide) rfl ?_
  refine W.irem (pc' := 18) (w := (((XT.ushr p2 (8 : Int32)) &&& (255 : Int32)) % (3 : Int32))) X at_17 (by decide) rfl rfl ?_
  refine W.istore (pc' := 20) (ls' := #[.val (.int p0), .val (.int p1), .val (.int p2), .val (.int ((p2 &&& (255 : Int32)) % (3 : Int32))), .val (.int (((XT.ushr p2 (8 : Int32)) &&& (255 : Int32)) % (3 : Int32))), .unset, .unset, .unset, .unset, .unset, .unset, .unset, .unset, .unset]) X at_18 rfl rfl ?_
  refine W.iloadN (pc' := 21) X at_20 rfl rfl ?_
  refine W.sipush (pc' := 24) X (255 : Int32) at_21 (by decide) rfl ?_
  refine W.iand (pc' := 25) (w := (p0 &&& (255 : Int32))) X at_24 rfl rfl ?_
  refine W.i2c (pc' := 26) (w := (p0 &&& (255 : Int32))) X at_25 (i2c_mask _) rfl ?_
  refine W.istore (pc' := 28) (ls' := #[.val (.int p0), .val (.int p1), .val (.int p2), .val (.int ((p2 &&& (255 : Int32)) % (3 : Int32))), .val (.int (((XT.ushr p2 (8 : Int32)) &&& (255 : Int32)) % (3 : Int32))), .val (.int (p0 &&& (255 : Int32))), .unset, .unset, .unset, .unset, .unset, .unset, .unset, .unset]) X at_26 rfl rfl ?_
  refine W.iloadN (pc' := 29) X at_28 rfl rfl ?_
  refine W.bipush (pc' := 31) X (8 : Int32) at_29 (by decide) rfl ?_
  refine W.iushr (pc' := 32) (w := (XT.ushr p0 (8 : Int32))) X at_31 rfl rfl ?_
  refine W.sipush (pc' := 35) X (255 : Int32) at_32 (by decide) rfl ?_
  refine W.iand (pc' := 36) (w := ((XT.ushr p0 (8 : Int32)) &&& (255 : Int32))) X at_35 rfl rfl ?_
  refine W.i2c (pc' := 37) (w := ((XT.ushr p0 (8 : Int32)) &&& (255 : Int32))) X at_36 (i2c_mask _) rfl ?_
  refine W.istore (pc' := 39) (ls' := #[.val (.int p0), .val (.int p1), .val (.int p2), .val (.int ((p2 &&& (255 : Int32)) % (3 : Int32))), .val (.int (((XT.ushr p2 (8 : Int32)) &&& (255 : Int32)) % (3 : Int32))), .val (.int (p0 &&& (255 : Int32))), .val (.int ((XT.ushr p0 (8 : Int32)) &&& (255 : Int32))), .unset, .unset, .unset, .unset, .unset, .unset, .unset]) X at_37 rfl rfl ?_
  refine W.iloadN (pc' := 40) X at_39 rfl rfl ?_
  refine W.sipush (pc' := 43) X (255 : Int32) at_40 (by decide) rfl ?_
  refine W.iand (pc' := 44) (w := (p1 &&& (255 : Int32))) X at_43 rfl rfl ?_
  refine W.i2c (pc' := 45) (w := (p1 &&& (255 : Int32))) X at_44 (i2c_mask _) rfl ?_
  refine W.istore (pc' := 47) (ls' := #[.val (.int p0), .val (.int p1), .val (.int p2), .val (.int ((p2 &&& (255 : Int32)) % (3 : Int32))), .val (.int (((XT.ushr p2 (8 : Int32)) &&& (255 : Int32)) % (3 : Int32))), .val (.int (p0 &&& (255 : Int32))), .val (.int ((XT.ushr p0 (8 : Int32)) &&& (255 : Int32))), .val (.int (p1 &&& (255 : Int32))), .unset, .unset, .unset, .unset, .unset, .unset]) X at_45 rfl rfl ?_
  refine W.iloadN (pc' := 48) X at_47 rfl rfl ?_
  refine W.bipush (pc' := 50) X (8 : Int32) at_48 (by decide) rfl ?_
  refine W.iushr (pc' := 51) (w := (XT.ushr p1 (8 : Int32))) X at_50 rfl rfl ?_
  refine W.sipush (pc' := 54) X (255 : Int32) at_51 (by decide) rfl ?_
  refine W.iand (pc' := 55) (w := ((XT.ushr p1 (8 : Int32)) &&& (255 : Int32))) X at_54 rfl rfl ?_
  refine W.i2c (pc' := 56) (w := ((XT.ushr p1 (8 : Int32)) &&& (255 : Int32))) X at_55 (i2c_mask _) rfl ?_
  refine W.istore (pc' := 58) (ls' := #[.val (.int p0), .val (.int p1), .val (.int p2), .val (.int ((p2 &&& (255 : Int32)) % (3 : Int32))), .val (.int (((XT.ushr p2 (8 : Int32)) &&& (255 : Int32)) % (3 : Int32))), .val (.int (p0 &&& (255 : Int32))), .val (.int ((XT.ushr p0 (8 : Int32)) &&& (255 : Int32))), .val (.int (p1 &&& (255 : Int32))), .val (.int ((XT.ushr p1 (8 : Int32)) &&& (255 : Int32))), .unset, .unset, .unset, .unset, .unset]) X at_56 rfl rfl ?_
  exact s58 ((p2 &&& (255 : Int32)) % (3 : Int32)) (((XT.ushr p2 (8 : Int32)) &&& (255 : Int32)) % (3 : Int32)) (p0 &&& (255 : Int32)) ((XT.ushr p0 (8 : Int32)) &&& (255 : Int32)) (p1 &&& (255 : Int32)) ((XT.ushr p1 (8 : Int32)) &&& (255 : Int32)) (mod3 _) (mod3 _) (l8 _) (l8 _) (l8 _) (l8 _)
set_option maxRecDepth 65536 in
set_option maxHeartbeats 40000000 in
theorem comes_1 {Post : Tables → Env → Array Value → State → Outcome → State → Prop} (hpost : ∀ tb e args s v u, (limb_1_1.after args s (.returned v) u = true ∧ limb_1_2.after args s (.returned v) u = true ∧ True) → ReturnedEndW s (.returned v) u (Jvm.fieldLocs frame_1_writes args s ++ Jvm.arrayLocs frame_1_arrays args s ++ Jvm.staticLocs frame_1_statics s) 120 19968 → Post tb e args s (.returned v) u) :
    ArmFor flags0 classFile x code maxLocals ret World_1 tables_1 room_1 Calls_1 rest_1 Pre_1 Post := by
  intro l hfl _ _ p e ha hc hk s m args below hf hA hF happ hP
  obtain ⟨hcalls, hrest, hpre⟩ := hP
  obtain ⟨-, -, -, hnamed, -, -, -, hat⟩ := (Spec.applies_iff hf).mp happ
  obtain ⟨hg, hn⟩ := and_e (Cond.before_iff.mp (show (Jvm.Cond.and given_1 narrow_1).before args s = true from hpre))
  obtain ⟨h1, h2⟩ := and_e hg
  obtain ⟨w0, w1, w2, rfl⟩ : ∃ w0 w1 w2 : Value, args = #[w0, w1, w2] := by
    have hs : args.size = 3 := by simpa [Cond.value, given_1] using h1
    obtain ⟨L⟩ := args
    match L, hs with
    | [w0, w1, w2], _ => exact ⟨w0, w1, w2, rfl⟩
  obtain ⟨k0, r0⟩ := and_e h2
  obtain ⟨i0, e0⟩ := is_v k0
  obtain rfl : w0 = (.int i0) := Option.some.inj e0
  obtain ⟨k1, r1⟩ := and_e r0
  obtain ⟨i1, e1⟩ := is_v k1
  obtain rfl : w1 = (.int i1) := Option.some.inj e1
  obtain ⟨i2, e2⟩ := is_v r1
  obtain rfl : w2 = (.int i2) := Option.some.inj e2
  have hw := fun d (hd : d ∈ tables_1) => atoms_spec (ws := Jvm.Cond.code x code maxLocals ret :: tables_1) hat d (List.mem_cons_of_mem _ hd)
  obtain ⟨hsets, hown0⟩ := atoms_of _ (rest_1_c_eq ▸ (show rest_1_c.before _ s = true from hrest))
  obtain ⟨zC, v1⟩ := is_v (Cond.before_iff.mp (hsets _ (List.mem_of_getElem? (i := 1) rfl)))
  have c1 : ¬ (zC = (0 : Int32)) := gotF (Cond.eq_ints v1 (Term.int_eval (0))) (not_v (Cond.before_iff.mp (hsets _ (List.mem_of_getElem? (i := 2) rfl))))
  have S1 := Sta.start v1 (Or.inl (hsets _ (List.mem_of_getElem? (i := 0) rfl)))
  obtain ⟨fS, v2, c2⟩ := isR_v (Cond.before_iff.mp (hsets _ (List.mem_of_getElem? (i := 8) rfl)))
  have S2 := Sta.start v2 (Or.inl (hsets _ (List.mem_of_getElem? (i := 7) rfl)))
  obtain ⟨m0, s0⟩ := and_e hn
  obtain ⟨m1, s1⟩ := and_e s0
  obtain ⟨m2, s2⟩ := and_e s1
  obtain ⟨m3, s3⟩ := and_e s2
  obtain ⟨m4, s4⟩ := and_e s3
  obtain ⟨m5, s5⟩ := and_e s4
  obtain ⟨m6, s6⟩ := and_e s5
  obtain ⟨m7, s7⟩ := and_e s6
  obtain ⟨m8, s8⟩ := and_e s7
  obtain ⟨m9, s9⟩ := and_e s8
  obtain ⟨m10, s10⟩ := and_e s9
  have m11 := s10
  obtain ⟨bO, v4⟩ := exa_v m0
  have S4 := Sta.start v4 (Or.inr ⟨(hw _ (List.mem_of_getElem? (i := 39) rfl)), (hw _ (List.mem_of_getElem? (i := 184) rfl))⟩)
  have X0 := Exa.start v4 m0
  obtain ⟨bN, eN⟩ := exa_v m1
  have X1 : Fld s s.heap bO "com/example/compendio/compendio/cli/Arguments$Option" "name" "Ljava/lang/String;" (.ref bN) := Fld.start ((fld_at v4).symm.trans eN)
  have X2 := Exa.start eN m1
  obtain ⟨bA, eA⟩ := arr_v m2
  have X3 : Fld s s.heap bN "java/lang/String" "value" "[B" (.ref bA) := Fld.start ((fld_at eN).symm.trans eA)
  have X4 : Fld s s.heap bN "java/lang/String" "coder" "B" (.int (0 : Int32)) := Fld.start ((fld_at eN).symm.trans (Cond.eq_int (Cond.before_iff.mpr m5) rfl))
  have X5 : Ar s s.heap bA .byte (by8 [(45 : Int32), (45 : Int32), (98 : Int32), (111 : Int32), (111 : Int32), (107 : Int32)]) := ar_start eA m2 (n := 6) m4 (by decide) (vs := by8 [(45 : Int32), (45 : Int32), (98 : Int32), (111 : Int32), (111 : Int32), (107 : Int32)]) rfl (by decide) (fun | 0, _ => elem_k eA m6 | 1, _ => elem_k eA m7 | 2, _ => elem_k eA m8 | 3, _ => elem_k eA m9 | 4, _ => elem_k eA m10 | 5, _ => elem_k eA m11 | n + 6, q => absurd q (by omega))
  have hew : EW s #[(.int i0), (.int i1), (.int i2)] consts_1 := (EW.cons (hw _ (List.mem_of_getElem? (i := 59) rfl)) (by decide) (EW.cons (hw _ (List.mem_of_getElem? (i := 107) rfl)) (by decide) (EW.cons (hw _ (List.mem_of_getElem? (i := 194) rfl)) (by decide) (EW.cons (hw _ (List.mem_of_getElem? (i := 182) rfl)) (by decide) (EW.cons (hw _ (List.mem_of_getElem? (i := 193) rfl)) (by decide) (EW.cons (hw _ (List.mem_of_getElem? (i := 116) rfl)) (by decide) (EW.cons (hw _ (List.mem_of_getElem? (i := 141) rfl)) (by decide) (EW.cons (hw _ (List.mem_of_getElem? (i := 117) rfl)) (by decide) (EW.cons (hw _ (List.mem_of_getElem? (i := 142) rfl)) (by decide) (EW.cons (hw _ (List.mem_of_getElem? (i := 196) rfl)) (by decide) (EW.cons (hw _ (List.mem_of_getElem? (i := 222) rfl)) (by decide) (EW.cons (hw _ (List.mem_of_getElem? (i := 229) rfl)) (by decide) (EW.cons (hw _ (List.mem_of_getElem? (i := 230) rfl)) (by decide) (EW.cons (hw _ (List.mem_of_getElem? (i := 231) rfl)) (by decide) (EW.cons (hw _ (List.mem_of_getElem? (i := 232) rfl)) (by decide) (EW.cons (hw _ (List.mem_of_getElem? (i := 233) rfl)) (by decide) (EW.cons (hw _ (List.mem_of_getElem? (i := 34) rfl)) (by decide) EW.nil)))))))))))))))))
  have G : Gl s #[(.int i0), (.int i1), (.int i2)] zC fS bO bN bA := ⟨hw, hew, S1, c1, S2, c2, S4, X0, X1, ⟨X2, X4, X3, X5, by unfold Lat; decide⟩, trivial⟩
  have hch : CHv s consts_1 s.vm s.heap := CHv.start hew (fun p hp => hcalls.1 p hp) (hsets _ (List.mem_of_getElem? (i := 2) rfl)) (hw _ (List.mem_of_getElem? (i := 23) rfl)) (hw _ (List.mem_of_getElem? (i := 5) rfl))
  obtain ⟨n, o, h1, h2, h3, v, L, B', rfl, N, -, -, -, -, -, rfl, hq⟩ := c_law (l := l) (B := fun x => Bk s consts_1 s.vm s.heap x) G ⟨⟨Nat.le_refl _, fun _ _ q => q⟩, fun x r => by obtain ⟨cell, q⟩ := r.there; exact (Array.getElem?_eq_some_iff.mp q).1⟩ p e ha hc hk s m _ below hf ((Spec.applies_iff_loose hf).mp happ).1 ⟨rfl, State.Warmed39.refl s, rfl, hch, fun x r => r⟩ trivial
  refine ⟨n, _, h1, h2, h3, hpost _ _ _ _ _ _ ⟨Cond.after_iff.mpr rfl, Cond.after_iff.mpr (eq_i res_at (Term.int_eval (1)) rfl), trivial⟩ ⟨hq.1, hq.2.1, hq.2.2.1, (hq.2.2.2.sift fun y hy => Or.inr (N y hy)).mono (by decide) (by decide)⟩⟩
theorem main_1_1 : Claimed_1_1 := comes_1 fun _ _ _ _ _ _ h hF => ⟨h.1, hF⟩
theorem main_1_2 : Claimed_1_2 := comes_1 fun _ _ _ _ _ _ h hF => ⟨h.2.1, hF⟩
end Jvm.Pilot.@@N@@
namespace Jvm.Pilot.@@N@@
open Jvm Jvm.ClassFile Sem Op Lib Jvm.Free Jvm.Stand Jvm.Pilot.@@N@@.Jvm.D
/-! MADE BY PROGRAM (witnessworld.py) out of the Statement's table words and the real class files: 28 classes; the members and pool entries that the words name. The judged class is class 1, her method 1. -/
namespace start1
open Jvm.ClassFile
def u (s : String) : CpInfo := .utf8 (stringToUtf16 s)
/-- a pool by its gaps: so many unusable entries, then the entry; so many at the end -/
def gap : Nat → List CpInfo → List CpInfo
  | 0, r => r
  | n + 1, r => .unusable :: gap n r
def poolList (es : List (Nat × CpInfo)) (last : Nat) : List CpInfo := es.foldr (fun e r => gap e.1 (e.2 :: r)) (gap last [])
def pool (es : List (Nat × CpInfo)) (last : Nat) : Array CpInfo := ⟨poolList es last⟩
def fileOf (pool : Array CpInfo) (this : Nat) (attrs : Array Attribute := #[]) (ms : Array MethodInfo := #[]) (fl : Nat := 33) (sup : Nat := 0) (ifs : Array Nat := #[]) (fds : Array FieldInfo := #[]) : ClassFile where
  minorVersion := 0
  majorVersion := 65
  constantPool := pool
  accessFlags := fl
  thisClass := this
  superClass := sup
  interfaces := ifs
  fields := fds
  methods := ms
  attributes := attrs
def plain (name : String) (sup : Option ClassId) : Class where
  name := name
  kind := .ordinary
  loader := none
  accessFlags := 33
  super := sup
  interfaces := #[]
  cf := none
  fields := #[]
  methods := #[]
  instanceTypes := #[]
  staticTypes := #[]
  resolved := #[]
  callSites := []
  init := .initialized
  statics := none
  mirror := none

def pool0 : Array CpInfo := pool [(5, u "<init>"), (0, u "()V"), (1, .class_ 10), (1, u "java/lang/Object")] 113

def k0c0 : Code := { maxStack := 0, maxLocals := 1, code := object_method_1_code, exceptionTable := #[], attributes := #[] }
def k0m0 : Method := { name := "<init>", desc := "()V", sig := { parameters := [], returnType := none }, accessFlags := 1, code := some k0c0 }
/-- java/lang/Object -/
def k0 : Class := { plain "java/lang/Object" none with
  accessFlags := 33
  interfaces := #[]
  cf := some (fileOf pool0 8 #[] #[{ accessFlags := 1, nameIndex := 5, descriptorIndex := 6, attributes := #[] }] 33 0 #[] #[])
  fields := #[]
  methods := #[k0m0]
  instanceTypes := #[]
  staticTypes := #[]
  resolved := Array.replicate 124 none
  statics := none }

def pool1 : Array CpInfo := pool [(2, .class_ 4), (1, u "java/lang/Object"), (0, u "<init>"), (0, u "()V"), (0, .methodref 8 9), (0, .class_ 10), (0, .nameAndType 11 12), (0, u "com/example/compendio/compendio/cli/ArgumentsUsageWithBookPinLaw"), (0, u "make"), (0, u "(ICC)Ljava/lang/String;"), (0, .methodref 14 15), (0, .class_ 16), (0, .nameAndType 17 18), (0, u "com/example/compendio/compendio/cli/Arguments"), (0, u "usageWithBook"), (0, u "(Ljava/lang/String;Ljava/lang/String;)Ljava/lang/String;"), (0, .methodref 20 21), (0, .class_ 22), (0, .nameAndType 23 24), (0, u "java/lang/String"), (0, u "length"), (0, u "()I"), (0, .string 26), (0, u "Usage: java -jar "), (0, .methodref 8 28), (0, .nameAndType 29 30), (0, u "lit"), (0, u "(Ljava/lang/String;ILjava/lang/String;)Z"), (0, .string 32), (0, u "compendio.jar "), (0, .methodref 8 34), (0, .nameAndType 35 36), (0, u "word"), (0, u "(Ljava/lang/String;IICC)Z"), (0, .methodref 20 38), (0, .nameAndType 39 40), (0, u "charAt"), (0, u "(I)C"), (0, .methodref 8 42), (0, .nameAndType 43 36), (0, u "own"), (0, .string 45), (0, u "[--set KEY=VALUE]... "), (0, .string 47), (0, u "<term file>"), (0, .string 49), (0, u "\n       "), (0, .string 51), (0, u "java -jar "), (0, .string 53), (0, u "--book <directory>\n\n"), (0, .string 55), (0, u ""), (0, .methodref 20 57), (0, .nameAndType 58 59), (0, u "valueOf"), (0, u "(C)Ljava/lang/String;"), (0, .methodref 20 61), (0, .nameAndType 5 62), (0, u "([C)V"), (2, u "law"), (0, u "(III)Z")] 3

def k1m0 : Method := { name := "<init>", desc := "()V", sig := { parameters := [], returnType := none }, accessFlags := 1, code := none }
def k1c1 : Code := { maxStack := 5, maxLocals := 14, code := code, exceptionTable := #[], attributes := #[] }
def k1m1 : Method := { name := "law", desc := "(III)Z", sig := { parameters := [.int, .int, .int], returnType := some .boolean }, accessFlags := 9, code := some k1c1 }
def k1c2 : Code := { maxStack := 6, maxLocals := 3, code := method_3_code, exceptionTable := #[], attributes := #[] }
def k1m2 : Method := { name := "make", desc := "(ICC)Ljava/lang/String;", sig := { parameters := [.int, .char, .char], returnType := some (.object "java/lang/String") }, accessFlags := 10, code := some k1c2 }
def k1c3 : Code := { maxStack := 3, maxLocals := 5, code := method_4_code, exceptionTable := #[], attributes := #[] }
def k1m3 : Method := { name := "word", desc := "(Ljava/lang/String;IICC)Z", sig := { parameters := [(.object "java/lang/String"), .int, .int, .char, .char], returnType := some .boolean }, accessFlags := 10, code := some k1c3 }
def k1c4 : Code := { maxStack := 5, maxLocals := 5, code := method_5_code, exceptionTable := #[], attributes := #[] }
def k1m4 : Method := { name := "own", desc := "(Ljava/lang/String;IICC)Z", sig := { parameters := [(.object "java/lang/String"), .int, .int, .char, .char], returnType := some .boolean }, accessFlags := 10, code := some k1c4 }
def k1c5 : Code := { maxStack := 3, maxLocals := 5, code := method_6_code, exceptionTable := #[], attributes := #[] }
def k1m5 : Method := { name := "lit", desc := "(Ljava/lang/String;ILjava/lang/String;)Z", sig := { parameters := [(.object "java/lang/String"), .int, (.object "java/lang/String")], returnType := some .boolean }, accessFlags := 10, code := some k1c5 }
/-- com/example/compendio/compendio/cli/ArgumentsUsageWithBookPinLaw -/
def k1 : Class := { plain "com/example/compendio/compendio/cli/ArgumentsUsageWithBookPinLaw" (some 0) with
  accessFlags := 49
  interfaces := #[]
  cf := some (fileOf pool1 8 #[] #[{ accessFlags := 1, nameIndex := 5, descriptorIndex := 6, attributes := #[] }, { accessFlags := 9, nameIndex := 65, descriptorIndex := 66, attributes := #[] }, { accessFlags := 10, nameIndex := 11, descriptorIndex := 12, attributes := #[] }, { accessFlags := 10, nameIndex := 35, descriptorIndex := 36, attributes := #[] }, { accessFlags := 10, nameIndex := 43, descriptorIndex := 36, attributes := #[] }, { accessFlags := 10, nameIndex := 29, descriptorIndex := 30, attributes := #[] }] 49 2 #[] #[])
  fields := #[]
  methods := #[k1m0, k1m1, k1m2, k1m3, k1m4, k1m5]
  instanceTypes := #[]
  staticTypes := #[]
  resolved := Array.replicate 70 none
  statics := none }

def pool2 : Array CpInfo := pool [(1, .class_ 2), (0, u "java/io/Serializable"), (0, .class_ 4), (0, u "java/lang/Object")] 2

/-- java/io/Serializable -/
def k2 : Class := { plain "java/io/Serializable" (some 0) with
  accessFlags := 1537
  interfaces := #[]
  cf := some (fileOf pool2 1 #[] #[] 1537 3 #[] #[])
  fields := #[]
  methods := #[]
  instanceTypes := #[]
  staticTypes := #[]
  resolved := Array.replicate 7 none
  statics := none }

def pool3 : Array CpInfo := pool [(1, .class_ 2), (0, u "java/lang/Comparable"), (0, .class_ 4), (0, u "java/lang/Object")] 7

/-- java/lang/Comparable -/
def k3 : Class := { plain "java/lang/Comparable" (some 0) with
  accessFlags := 1537
  interfaces := #[]
  cf := some (fileOf pool3 1 #[] #[] 1537 3 #[] #[])
  fields := #[]
  methods := #[]
  instanceTypes := #[]
  staticTypes := #[]
  resolved := Array.replicate 12 none
  statics := none }

def pool4 : Array CpInfo := pool [(2, .class_ 4), (1, u "java/lang/CharSequence"), (42, .class_ 48), (0, u "java/lang/CharSequence$1CodePointIterator"), (10, .class_ 60), (0, u "java/lang/CharSequence$1CharIterator"), (5, .class_ 67), (0, u "java/lang/Object")] 63

/-- java/lang/CharSequence -/
def k4 : Class := { plain "java/lang/CharSequence" (some 0) with
  accessFlags := 1537
  interfaces := #[]
  cf := some (fileOf pool4 2 #[.nestMembers #[47, 59]] #[] 1537 66 #[] #[])
  fields := #[]
  methods := #[]
  instanceTypes := #[]
  staticTypes := #[]
  resolved := Array.replicate 131 none
  statics := none }

def pool5 : Array CpInfo := pool [(1, .class_ 2), (0, u "java/lang/constant/Constable"), (0, .class_ 4), (0, u "java/lang/Object")] 6

/-- java/lang/constant/Constable -/
def k5 : Class := { plain "java/lang/constant/Constable" (some 0) with
  accessFlags := 1537
  interfaces := #[]
  cf := some (fileOf pool5 1 #[] #[] 1537 3 #[] #[])
  fields := #[]
  methods := #[]
  instanceTypes := #[]
  staticTypes := #[]
  resolved := Array.replicate 11 none
  statics := none }

def pool6 : Array CpInfo := pool [(1, .class_ 2), (0, u "java/lang/constant/ConstantDesc"), (0, .class_ 4), (0, u "java/lang/Object")] 32

/-- java/lang/constant/ConstantDesc -/
def k6 : Class := { plain "java/lang/constant/ConstantDesc" (some 0) with
  accessFlags := 1537
  interfaces := #[]
  cf := some (fileOf pool6 1 #[] #[] 1537 3 #[] #[])
  fields := #[]
  methods := #[]
  instanceTypes := #[]
  staticTypes := #[]
  resolved := Array.replicate 37 none
  statics := none }

def pool7 : Array CpInfo := pool [(1, .methodref 2 3), (0, .class_ 4), (0, .nameAndType 5 6), (0, u "java/lang/Object"), (0, u "<init>"), (0, u "()V"), (2, .fieldref 10 11), (0, .class_ 12), (0, .nameAndType 13 14), (0, u "java/lang/String"), (0, u "value"), (0, u "[B"), (0, .fieldref 10 16), (0, .nameAndType 17 18), (0, u "coder"), (0, u "B"), (2, u "hash"), (0, u "I"), (2, u "hashIsZero"), (0, u "Z"), (0, .methodref 10 28), (0, .nameAndType 5 29), (0, u "([CIILjava/lang/Void;)V"), (8, .fieldref 10 39), (0, .nameAndType 40 26), (0, u "COMPACT_STRINGS"), (1, .class_ 44), (1, u "java/lang/StringUTF16"), (0, u "compress"), (1, .methodref 42 48), (0, .nameAndType 49 50), (0, u "coderFromArrayLen"), (0, u "([BI)B"), (2, u "toBytes"), (0, .methodref 55 56), (0, .class_ 57), (0, .nameAndType 58 59), (0, u "java/util/Arrays"), (0, u "copyOfRange"), (0, u "([BII)[B"), (47, .class_ 109), (1, u "java/lang/StringLatin1"), (32, u "()Z"), (34, .methodref 42 178), (0, .nameAndType 45 179), (0, u "([CII)[B"), (13, .class_ 195), (1, u "java/lang/System"), (13, .methodref 10 210), (0, .nameAndType 5 211), (0, u "([BB)V"), (0, .methodref 193 213), (0, .nameAndType 214 215), (0, u "arraycopy"), (0, u "(Ljava/lang/Object;ILjava/lang/Object;II)V"), (118, u "()I"), (0, .methodref 10 336), (0, .nameAndType 17 337), (0, u "()B"), (2, u "()[B"), (22, u "([BI)C"), (5, u "(C)Z"), (21, u "(II)V"), (35, u "(I)C"), (61, .methodref 10 490), (0, .nameAndType 5 491), (0, u "(Ljava/lang/AbstractStringBuilder;Ljava/lang/Void;)V"), (0, .methodref 10 493), (0, .nameAndType 494 142), (0, u "isLatin1"), (0, .methodref 107 496), (0, .nameAndType 497 363), (0, u "charAt"), (3, u "checkIndex"), (4, .nameAndType 507 334), (0, u "length"), (24, u "getBytes"), (16, .methodref 550 506), (0, .class_ 551), (0, u "java/lang/AbstractStringBuilder"), (0, .methodref 550 553), (0, .nameAndType 554 340), (0, u "getValue"), (20, .class_ 576), (0, u "java/lang/CharSequence"), (22, u "CASE_INSENSITIVE_ORDER"), (0, u "Ljava/util/Comparator;"), (91, u "isEmpty"), (89, u "valueOf"), (0, u "(C)Ljava/lang/String;"), (37, u "([BIB)V"), (188, u "([C)V"), (4, .methodref 107 1016), (0, .nameAndType 1017 369), (0, u "canEncode"), (0, .methodref 107 1019), (0, .nameAndType 53 1020), (0, u "(C)[B"), (26, .methodref 550 493), (5, .fieldref 1054 1055), (0, .class_ 1056), (0, .nameAndType 1057 1058), (0, u "jdk/internal/util/Preconditions"), (0, u "SIOOBE_FORMATTER"), (0, u "Ljava/util/function/BiFunction;"), (0, .methodref 1054 1060), (0, .nameAndType 501 1061), (0, u "(IILjava/util/function/BiFunction;)I"), (39, u "serialPersistentFields"), (0, u "[Ljava/io/ObjectStreamField;"), (0, .class_ 1104), (0, u "java/lang/String$CaseInsensitiveComparator"), (1, .class_ 1107), (0, u "java/io/Serializable"), (0, .class_ 1109), (0, u "java/lang/Comparable"), (0, .class_ 1111), (0, u "java/lang/constant/Constable"), (0, .class_ 1113), (0, u "java/lang/constant/ConstantDesc"), (2, u "serialVersionUID"), (0, u "J"), (3, u "REPL"), (0, u "C"), (2, u "LATIN1"), (1, u "UTF16"), (105, u "(Ljava/lang/StringBuilder;)V")] 217

def k7m0 : Method := { name := "<init>", desc := "()V", sig := { parameters := [], returnType := none }, accessFlags := 1, code := none }
def k7c1 : Code := { maxStack := 5, maxLocals := 2, code := jdk_42_method_3_code, exceptionTable := #[], attributes := #[] }
def k7m1 : Method := { name := "<init>", desc := "([C)V", sig := { parameters := [(.array .char)], returnType := none }, accessFlags := 1, code := some k7c1 }
def k7c2 : Code := { maxStack := 3, maxLocals := 2, code := jdk_42_method_53_code, exceptionTable := #[], attributes := #[] }
def k7m2 : Method := { name := "<init>", desc := "(Ljava/lang/StringBuilder;)V", sig := { parameters := [(.object "java/lang/StringBuilder")], returnType := none }, accessFlags := 1, code := some k7c2 }
def k7c3 : Code := { maxStack := 2, maxLocals := 1, code := jdk_42_method_54_code, exceptionTable := #[], attributes := #[] }
def k7m3 : Method := { name := "length", desc := "()I", sig := { parameters := [], returnType := some .int }, accessFlags := 1, code := some k7c3 }
def k7c4 : Code := { maxStack := 1, maxLocals := 1, code := jdk_42_method_55_code, exceptionTable := #[], attributes := #[] }
def k7m4 : Method := { name := "isEmpty", desc := "()Z", sig := { parameters := [], returnType := some .boolean }, accessFlags := 1, code := some k7c4 }
def k7c5 : Code := { maxStack := 2, maxLocals := 2, code := jdk_42_method_56_code, exceptionTable := #[], attributes := #[] }
def k7m5 : Method := { name := "charAt", desc := "(I)C", sig := { parameters := [.int], returnType := some .char }, accessFlags := 1, code := some k7c5 }
def k7c6 : Code := { maxStack := 4, maxLocals := 1, code := jdk_42_method_139_code, exceptionTable := #[], attributes := #[] }
def k7m6 : Method := { name := "valueOf", desc := "(C)Ljava/lang/String;", sig := { parameters := [.char], returnType := some (.object "java/lang/String") }, accessFlags := 9, code := some k7c6 }
def k7c7 : Code := { maxStack := 5, maxLocals := 4, code := jdk_42_method_147_code, exceptionTable := #[], attributes := #[] }
def k7m7 : Method := { name := "getBytes", desc := "([BIB)V", sig := { parameters := [(.array .byte), .int, .byte], returnType := none }, accessFlags := 0, code := some k7c7 }
def k7c8 : Code := { maxStack := 4, maxLocals := 6, code := jdk_42_method_149_code, exceptionTable := #[], attributes := #[] }
def k7m8 : Method := { name := "<init>", desc := "([CIILjava/lang/Void;)V", sig := { parameters := [(.array .char), .int, .int, (.object "java/lang/Void")], returnType := none }, accessFlags := 2, code := some k7c8 }
def k7c9 : Code := { maxStack := 5, maxLocals := 5, code := jdk_42_method_150_code, exceptionTable := #[], attributes := #[] }
def k7m9 : Method := { name := "<init>", desc := "(Ljava/lang/AbstractStringBuilder;Ljava/lang/Void;)V", sig := { parameters := [(.object "java/lang/AbstractStringBuilder"), (.object "java/lang/Void")], returnType := none }, accessFlags := 0, code := some k7c9 }
def k7c10 : Code := { maxStack := 2, maxLocals := 3, code := jdk_42_method_151_code, exceptionTable := #[], attributes := #[] }
def k7m10 : Method := { name := "<init>", desc := "([BB)V", sig := { parameters := [(.array .byte), .byte], returnType := none }, accessFlags := 0, code := some k7c10 }
def k7c11 : Code := { maxStack := 1, maxLocals := 1, code := jdk_42_method_152_code, exceptionTable := #[], attributes := #[] }
def k7m11 : Method := { name := "coder", desc := "()B", sig := { parameters := [], returnType := some .byte }, accessFlags := 0, code := some k7c11 }
def k7c12 : Code := { maxStack := 1, maxLocals := 1, code := jdk_42_method_154_code, exceptionTable := #[], attributes := #[] }
def k7m12 : Method := { name := "isLatin1", desc := "()Z", sig := { parameters := [], returnType := some .boolean }, accessFlags := 0, code := some k7c12 }
def k7c13 : Code := { maxStack := 3, maxLocals := 2, code := jdk_42_method_155_code, exceptionTable := #[], attributes := #[] }
def k7m13 : Method := { name := "checkIndex", desc := "(II)V", sig := { parameters := [.int, .int], returnType := none }, accessFlags := 8, code := some k7c13 }
/-- java/lang/String -/
def k7 : Class := { plain "java/lang/String" (some 0) with
  accessFlags := 49
  interfaces := #[2, 3, 4, 5, 6]
  cf := some (fileOf pool7 10 #[.nestMembers #[1103]] #[{ accessFlags := 1, nameIndex := 5, descriptorIndex := 6, attributes := #[] }, { accessFlags := 1, nameIndex := 5, descriptorIndex := 1010, attributes := #[] }, { accessFlags := 1, nameIndex := 5, descriptorIndex := 1233, attributes := #[] }, { accessFlags := 1, nameIndex := 507, descriptorIndex := 334, attributes := #[] }, { accessFlags := 1, nameIndex := 692, descriptorIndex := 142, attributes := #[] }, { accessFlags := 1, nameIndex := 497, descriptorIndex := 427, attributes := #[] }, { accessFlags := 9, nameIndex := 782, descriptorIndex := 783, attributes := #[] }, { accessFlags := 0, nameIndex := 532, descriptorIndex := 821, attributes := #[] }, { accessFlags := 2, nameIndex := 5, descriptorIndex := 29, attributes := #[] }, { accessFlags := 0, nameIndex := 5, descriptorIndex := 491, attributes := #[] }, { accessFlags := 0, nameIndex := 5, descriptorIndex := 211, attributes := #[] }, { accessFlags := 0, nameIndex := 17, descriptorIndex := 337, attributes := #[] }, { accessFlags := 0, nameIndex := 494, descriptorIndex := 142, attributes := #[] }, { accessFlags := 8, nameIndex := 501, descriptorIndex := 391, attributes := #[] }] 49 2 #[1106, 1108, 575, 1110, 1112] #[{ accessFlags := 18, nameIndex := 13, descriptorIndex := 14, attributes := #[] }, { accessFlags := 18, nameIndex := 17, descriptorIndex := 18, attributes := #[] }, { accessFlags := 2, nameIndex := 21, descriptorIndex := 22, attributes := #[] }, { accessFlags := 2, nameIndex := 25, descriptorIndex := 26, attributes := #[] }, { accessFlags := 26, nameIndex := 1116, descriptorIndex := 1117, attributes := #[] }, { accessFlags := 24, nameIndex := 40, descriptorIndex := 26, attributes := #[] }, { accessFlags := 26, nameIndex := 1101, descriptorIndex := 1102, attributes := #[] }, { accessFlags := 26, nameIndex := 1121, descriptorIndex := 1122, attributes := #[] }, { accessFlags := 25, nameIndex := 599, descriptorIndex := 600, attributes := #[] }, { accessFlags := 24, nameIndex := 1125, descriptorIndex := 18, attributes := #[] }, { accessFlags := 24, nameIndex := 1127, descriptorIndex := 18, attributes := #[] }])
  fields := #[{ name := "value", type := (.array .byte), accessFlags := 18, slot := 0, constantValue := 0 }, { name := "coder", type := .byte, accessFlags := 18, slot := 1, constantValue := 0 }, { name := "hash", type := .int, accessFlags := 2, slot := 2, constantValue := 0 }, { name := "hashIsZero", type := .boolean, accessFlags := 2, slot := 3, constantValue := 0 }, { name := "serialVersionUID", type := .long, accessFlags := 26, slot := 0, constantValue := 0 }, { name := "COMPACT_STRINGS", type := .boolean, accessFlags := 24, slot := 1, constantValue := 0 }, { name := "serialPersistentFields", type := (.array (.object "java/io/ObjectStreamField")), accessFlags := 26, slot := 2, constantValue := 0 }, { name := "REPL", type := .char, accessFlags := 26, slot := 3, constantValue := 0 }, { name := "CASE_INSENSITIVE_ORDER", type := (.object "java/util/Comparator"), accessFlags := 25, slot := 4, constantValue := 0 }, { name := "LATIN1", type := .byte, accessFlags := 24, slot := 5, constantValue := 0 }, { name := "UTF16", type := .byte, accessFlags := 24, slot := 6, constantValue := 0 }]
  methods := #[k7m0, k7m1, k7m2, k7m3, k7m4, k7m5, k7m6, k7m7, k7m8, k7m9, k7m10, k7m11, k7m12, k7m13]
  instanceTypes := #[(.array .byte), .byte, .int, .boolean]
  staticTypes := #[.long, .boolean, (.array (.object "java/io/ObjectStreamField")), .char, (.object "java/util/Comparator"), .byte, .byte]
  resolved := Array.replicate 1451 none
  statics := some 0 }

def pool8 : Array CpInfo := pool [(6, .class_ 8), (1, u "java/lang/Object"), (0, u "<init>"), (0, u "()V"), (1, .class_ 14), (1, u "java/lang/StringUTF16"), (31, u "$assertionsDisabled"), (0, u "Z"), (13, u "HI_BYTE_SHIFT"), (0, u "I"), (2, u "LO_BYTE_SHIFT"), (49, .methodref 12 116), (0, .nameAndType 117 118), (0, u "compress"), (0, u "([CI[BII)I"), (3, u "([CII)[B"), (138, u "coderFromArrayLen"), (0, u "([BI)B"), (106, .class_ 371), (1, u "java/lang/StringUTF16$LinesSpliterator"), (58, u "MAX_LENGTH"), (196, .class_ 628), (0, u "java/lang/StringUTF16$CodePointsSpliterator"), (0, .class_ 630), (0, u "java/lang/StringUTF16$CharsSpliterator")] 4

def k8m0 : Method := { name := "<init>", desc := "()V", sig := { parameters := [], returnType := none }, accessFlags := 0, code := none }
def k8c1 : Code := { maxStack := 2, maxLocals := 2, code := jdk_52_method_15_code, exceptionTable := #[], attributes := #[] }
def k8m1 : Method := { name := "coderFromArrayLen", desc := "([BI)B", sig := { parameters := [(.array .byte), .int], returnType := some .byte }, accessFlags := 8, code := some k8c1 }
def k8c2 : Code := { maxStack := 5, maxLocals := 6, code := jdk_52_method_16_code, exceptionTable := #[], attributes := #[] }
def k8m2 : Method := { name := "compress", desc := "([CII)[B", sig := { parameters := [(.array .char), .int, .int], returnType := some (.array .byte) }, accessFlags := 9, code := some k8c2 }
def k8c3 : Code := { maxStack := 3, maxLocals := 7, code := jdk_52_method_21_code, exceptionTable := #[], attributes := #[] }
def k8m3 : Method := { name := "compress", desc := "([CI[BII)I", sig := { parameters := [(.array .char), .int, (.array .byte), .int, .int], returnType := some .int }, accessFlags := 9, code := some k8c3 }
/-- java/lang/StringUTF16 -/
def k8 : Class := { plain "java/lang/StringUTF16" (some 0) with
  accessFlags := 48
  interfaces := #[]
  cf := some (fileOf pool8 12 #[.nestMembers #[627, 629, 369]] #[{ accessFlags := 0, nameIndex := 9, descriptorIndex := 10, attributes := #[] }, { accessFlags := 8, nameIndex := 261, descriptorIndex := 262, attributes := #[] }, { accessFlags := 9, nameIndex := 117, descriptorIndex := 122, attributes := #[] }, { accessFlags := 9, nameIndex := 117, descriptorIndex := 118, attributes := #[] }] 48 6 #[] #[{ accessFlags := 26, nameIndex := 61, descriptorIndex := 62, attributes := #[] }, { accessFlags := 26, nameIndex := 65, descriptorIndex := 62, attributes := #[] }, { accessFlags := 24, nameIndex := 430, descriptorIndex := 62, attributes := #[] }, { accessFlags := 4120, nameIndex := 46, descriptorIndex := 47, attributes := #[] }])
  fields := #[{ name := "HI_BYTE_SHIFT", type := .int, accessFlags := 26, slot := 0, constantValue := 0 }, { name := "LO_BYTE_SHIFT", type := .int, accessFlags := 26, slot := 1, constantValue := 0 }, { name := "MAX_LENGTH", type := .int, accessFlags := 24, slot := 2, constantValue := 0 }, { name := "$assertionsDisabled", type := .boolean, accessFlags := 4120, slot := 3, constantValue := 0 }]
  methods := #[k8m0, k8m1, k8m2, k8m3]
  instanceTypes := #[]
  staticTypes := #[.int, .int, .int, .boolean]
  resolved := Array.replicate 635 none
  statics := none }

def pool9 : Array CpInfo := pool [(2, .class_ 4), (0, .nameAndType 5 6), (0, u "java/lang/Object"), (0, u "<init>"), (0, u "()V"), (1, .class_ 10), (1, u "com/example/compendio/compendio/cli/Arguments"), (0, u "command"), (0, u "Ljava/lang/String;"), (2, u "values"), (0, u "Ljava/util/Map;"), (2, u "settings"), (2, u "file"), (0, .class_ 24), (0, u "java/lang/StringBuilder"), (0, .methodref 23 3), (0, .string 27), (0, u "Usage: "), (0, .methodref 23 29), (0, .nameAndType 30 31), (0, u "append"), (0, u "(Ljava/lang/String;)Ljava/lang/StringBuilder;"), (0, .string 33), (0, u "<term file>"), (0, .methodref 8 35), (0, .nameAndType 36 37), (0, u "synopsis"), (0, u "(Ljava/lang/String;Ljava/lang/String;Ljava/lang/String;)Ljava/lang/String;"), (0, .string 39), (0, u "\n\n"), (0, .methodref 23 41), (0, .nameAndType 42 43), (0, u "toString"), (0, u "()Ljava/lang/String;"), (0, .string 45), (0, u "\n       "), (0, .fieldref 8 47), (0, .nameAndType 48 49), (0, u "BOOK"), (0, u "Lcom/example/compendio/compendio/cli/Arguments$Option;"), (0, .methodref 51 52), (0, .class_ 53), (0, .nameAndType 54 43), (0, u "com/example/compendio/compendio/cli/Arguments$Option"), (0, u "name"), (0, .string 56), (0, u " <directory>"), (0, .methodref 58 59), (0, .class_ 60), (0, .nameAndType 61 62), (0, u "java/lang/String"), (0, u "isEmpty"), (0, u "()Z"), (0, .string 64), (0, u ""), (0, .string 66), (0, u " "), (0, .string 68), (0, u "java -jar compendio.jar "), (0, .string 70), (0, u "[--set KEY=VALUE]... "), (116, u "BONDS"), (25, u "BOND_COUNT"), (0, u "Ljava/util/regex/Pattern;"), (20, u "PRICE"), (4, u "DECIMAL"), (13, u "DATE"), (10, u "EVENT"), (23, u "EVENTS"), (5, u "PRICES"), (129, u "SET"), (1, u "SET_HELP"), (2, u "SET_NEEDS"), (0, u "PRICES_HELP"), (8, u "(Ljava/lang/String;Ljava/lang/String;)Ljava/lang/String;"), (0, u "usageWithBook")] 66

def k9c0 : Code := { maxStack := 5, maxLocals := 2, code := prog_3_method_3_code, exceptionTable := #[], attributes := #[] }
def k9m0 : Method := { name := "usageWithBook", desc := "(Ljava/lang/String;Ljava/lang/String;)Ljava/lang/String;", sig := { parameters := [(.object "java/lang/String"), (.object "java/lang/String")], returnType := some (.object "java/lang/String") }, accessFlags := 8, code := some k9c0 }
def k9c1 : Code := { maxStack := 2, maxLocals := 4, code := prog_3_method_4_code, exceptionTable := #[], attributes := #[] }
def k9m1 : Method := { name := "synopsis", desc := "(Ljava/lang/String;Ljava/lang/String;Ljava/lang/String;)Ljava/lang/String;", sig := { parameters := [(.object "java/lang/String"), (.object "java/lang/String"), (.object "java/lang/String")], returnType := some (.object "java/lang/String") }, accessFlags := 10, code := some k9c1 }
/-- com/example/compendio/compendio/cli/Arguments -/
def k9 : Class := { plain "com/example/compendio/compendio/cli/Arguments" (some 0) with
  accessFlags := 48
  interfaces := #[]
  cf := some (fileOf pool9 8 #[.nestMembers #[51]] #[{ accessFlags := 8, nameIndex := 441, descriptorIndex := 440, attributes := #[] }, { accessFlags := 10, nameIndex := 36, descriptorIndex := 37, attributes := #[] }] 48 2 #[] #[{ accessFlags := 24, nameIndex := 425, descriptorIndex := 12, attributes := #[] }, { accessFlags := 24, nameIndex := 427, descriptorIndex := 12, attributes := #[] }, { accessFlags := 26, nameIndex := 430, descriptorIndex := 12, attributes := #[] }, { accessFlags := 24, nameIndex := 48, descriptorIndex := 49, attributes := #[] }, { accessFlags := 24, nameIndex := 187, descriptorIndex := 49, attributes := #[] }, { accessFlags := 24, nameIndex := 254, descriptorIndex := 49, attributes := #[] }, { accessFlags := 24, nameIndex := 289, descriptorIndex := 49, attributes := #[] }, { accessFlags := 24, nameIndex := 265, descriptorIndex := 49, attributes := #[] }, { accessFlags := 24, nameIndex := 235, descriptorIndex := 49, attributes := #[] }, { accessFlags := 24, nameIndex := 295, descriptorIndex := 49, attributes := #[] }, { accessFlags := 24, nameIndex := 431, descriptorIndex := 12, attributes := #[] }, { accessFlags := 26, nameIndex := 213, descriptorIndex := 214, attributes := #[] }, { accessFlags := 26, nameIndex := 240, descriptorIndex := 214, attributes := #[] }, { accessFlags := 18, nameIndex := 11, descriptorIndex := 12, attributes := #[] }, { accessFlags := 18, nameIndex := 15, descriptorIndex := 16, attributes := #[] }, { accessFlags := 18, nameIndex := 19, descriptorIndex := 16, attributes := #[] }, { accessFlags := 18, nameIndex := 22, descriptorIndex := 12, attributes := #[] }])
  fields := #[{ name := "SET", type := (.object "java/lang/String"), accessFlags := 24, slot := 0, constantValue := 0 }, { name := "SET_HELP", type := (.object "java/lang/String"), accessFlags := 24, slot := 1, constantValue := 0 }, { name := "SET_NEEDS", type := (.object "java/lang/String"), accessFlags := 26, slot := 2, constantValue := 0 }, { name := "BOOK", type := (.object "com/example/compendio/compendio/cli/Arguments$Option"), accessFlags := 24, slot := 3, constantValue := 0 }, { name := "BONDS", type := (.object "com/example/compendio/compendio/cli/Arguments$Option"), accessFlags := 24, slot := 4, constantValue := 0 }, { name := "DATE", type := (.object "com/example/compendio/compendio/cli/Arguments$Option"), accessFlags := 24, slot := 5, constantValue := 0 }, { name := "EVENTS", type := (.object "com/example/compendio/compendio/cli/Arguments$Option"), accessFlags := 24, slot := 6, constantValue := 0 }, { name := "EVENT", type := (.object "com/example/compendio/compendio/cli/Arguments$Option"), accessFlags := 24, slot := 7, constantValue := 0 }, { name := "PRICE", type := (.object "com/example/compendio/compendio/cli/Arguments$Option"), accessFlags := 24, slot := 8, constantValue := 0 }, { name := "PRICES", type := (.object "com/example/compendio/compendio/cli/Arguments$Option"), accessFlags := 24, slot := 9, constantValue := 0 }, { name := "PRICES_HELP", type := (.object "java/lang/String"), accessFlags := 24, slot := 10, constantValue := 0 }, { name := "BOND_COUNT", type := (.object "java/util/regex/Pattern"), accessFlags := 26, slot := 11, constantValue := 0 }, { name := "DECIMAL", type := (.object "java/util/regex/Pattern"), accessFlags := 26, slot := 12, constantValue := 0 }, { name := "command", type := (.object "java/lang/String"), accessFlags := 18, slot := 0, constantValue := 0 }, { name := "values", type := (.object "java/util/Map"), accessFlags := 18, slot := 1, constantValue := 0 }, { name := "settings", type := (.object "java/util/Map"), accessFlags := 18, slot := 2, constantValue := 0 }, { name := "file", type := (.object "java/lang/String"), accessFlags := 18, slot := 3, constantValue := 0 }]
  methods := #[k9m0, k9m1]
  instanceTypes := #[(.object "java/lang/String"), (.object "java/util/Map"), (.object "java/util/Map"), (.object "java/lang/String")]
  staticTypes := #[(.object "java/lang/String"), (.object "java/lang/String"), (.object "java/lang/String"), (.object "com/example/compendio/compendio/cli/Arguments$Option"), (.object "com/example/compendio/compendio/cli/Arguments$Option"), (.object "com/example/compendio/compendio/cli/Arguments$Option"), (.object "com/example/compendio/compendio/cli/Arguments$Option"), (.object "com/example/compendio/compendio/cli/Arguments$Option"), (.object "com/example/compendio/compendio/cli/Arguments$Option"), (.object "com/example/compendio/compendio/cli/Arguments$Option"), (.object "java/lang/String"), (.object "java/util/regex/Pattern"), (.object "java/util/regex/Pattern")]
  resolved := Array.replicate 508 none
  statics := some 1 }

def pool10 : Array CpInfo := pool [(1, .class_ 2), (0, u "java/lang/Appendable"), (0, .class_ 4), (0, u "java/lang/Object")] 9

/-- java/lang/Appendable -/
def k10 : Class := { plain "java/lang/Appendable" (some 0) with
  accessFlags := 1537
  interfaces := #[]
  cf := some (fileOf pool10 1 #[] #[] 1537 3 #[] #[])
  fields := #[]
  methods := #[]
  instanceTypes := #[]
  staticTypes := #[]
  resolved := Array.replicate 14 none
  statics := none }

def pool11 : Array CpInfo := pool [(1, .class_ 2), (0, u "java/lang/String"), (0, .methodref 4 5), (0, .class_ 6), (0, .nameAndType 7 8), (0, u "java/lang/Object"), (0, u "<init>"), (0, u "()V"), (1, .class_ 12), (1, u "java/lang/AbstractStringBuilder"), (0, u "EMPTYVALUE"), (0, u "[B"), (0, .fieldref 10 16), (0, .nameAndType 17 14), (0, u "value"), (0, .fieldref 1 19), (0, .nameAndType 20 21), (0, u "COMPACT_STRINGS"), (0, u "Z"), (0, .fieldref 10 23), (0, .nameAndType 24 25), (0, u "coder"), (0, u "B"), (6, .methodref 1 33), (0, .nameAndType 34 35), (0, u "length"), (0, u "()I"), (3, .integer 2147483647), (0, .methodref 1 41), (0, .nameAndType 24 42), (0, u "()B"), (2, u "append"), (0, u "(Ljava/lang/String;)Ljava/lang/AbstractStringBuilder;"), (1, .class_ 49), (0, u "java/lang/CharSequence"), (19, u "(Ljava/lang/String;)V"), (5, u "maybeLatin1"), (3, .fieldref 10 80), (0, .nameAndType 81 82), (0, u "count"), (0, u "I"), (2, u "isLatin1"), (0, u "()Z"), (13, .methodref 10 101), (0, .nameAndType 102 103), (0, u "ensureCapacityInternal"), (0, u "(I)V"), (0, .methodref 10 105), (0, .nameAndType 106 107), (0, u "newCapacity"), (0, u "(I)I"), (0, .methodref 109 110), (0, .class_ 111), (0, .nameAndType 112 113), (0, u "java/util/Arrays"), (0, u "copyOf"), (0, u "([BI)[B"), (0, .methodref 115 116), (0, .class_ 117), (0, .nameAndType 118 119), (0, u "jdk/internal/util/ArraysSupport"), (0, u "newLength"), (0, u "(III)I"), (88, .methodref 10 209), (0, .nameAndType 210 211), (0, u "putStringAt"), (0, u "(ILjava/lang/String;)V"), (5, u "inflateIfNeededFor"), (2, .nameAndType 221 222), (0, u "getBytes"), (0, u "([BIB)V"), (174, .methodref 10 398), (0, .nameAndType 217 69), (0, .methodref 1 220), (3, u "()[B"), (40, .class_ 445), (0, u "java/lang/Appendable"), (106, u "getValue")] 56

def k11m0 : Method := { name := "<init>", desc := "()V", sig := { parameters := [], returnType := none }, accessFlags := 0, code := none }
def k11c1 : Code := { maxStack := 2, maxLocals := 2, code := jdk_68_method_2_code, exceptionTable := #[], attributes := #[] }
def k11m1 : Method := { name := "<init>", desc := "(I)V", sig := { parameters := [.int], returnType := none }, accessFlags := 0, code := some k11c1 }
def k11c2 : Code := { maxStack := 1, maxLocals := 1, code := jdk_68_method_6_code, exceptionTable := #[], attributes := #[] }
def k11m2 : Method := { name := "length", desc := "()I", sig := { parameters := [], returnType := some .int }, accessFlags := 1, code := some k11c2 }
def k11c3 : Code := { maxStack := 4, maxLocals := 3, code := jdk_68_method_9_code, exceptionTable := #[], attributes := #[] }
def k11m3 : Method := { name := "ensureCapacityInternal", desc := "(I)V", sig := { parameters := [.int], returnType := none }, accessFlags := 2, code := some k11c3 }
def k11c4 : Code := { maxStack := 5, maxLocals := 6, code := jdk_68_method_10_code, exceptionTable := #[], attributes := #[] }
def k11m4 : Method := { name := "newCapacity", desc := "(I)I", sig := { parameters := [.int], returnType := some .int }, accessFlags := 2, code := some k11c4 }
def k11c5 : Code := { maxStack := 3, maxLocals := 3, code := jdk_68_method_22_code, exceptionTable := #[], attributes := #[] }
def k11m5 : Method := { name := "append", desc := "(Ljava/lang/String;)Ljava/lang/AbstractStringBuilder;", sig := { parameters := [(.object "java/lang/String")], returnType := some (.object "java/lang/AbstractStringBuilder") }, accessFlags := 1, code := some k11c5 }
def k11c6 : Code := { maxStack := 1, maxLocals := 1, code := jdk_68_method_64_code, exceptionTable := #[], attributes := #[] }
def k11m6 : Method := { name := "getValue", desc := "()[B", sig := { parameters := [], returnType := some (.array .byte) }, accessFlags := 16, code := some k11c6 }
def k11c7 : Code := { maxStack := 1, maxLocals := 1, code := jdk_68_method_68_code, exceptionTable := #[], attributes := #[] }
def k11m7 : Method := { name := "isLatin1", desc := "()Z", sig := { parameters := [], returnType := some .boolean }, accessFlags := 16, code := some k11c7 }
def k11c8 : Code := { maxStack := 2, maxLocals := 2, code := jdk_68_method_71_code, exceptionTable := #[], attributes := #[] }
def k11m8 : Method := { name := "inflateIfNeededFor", desc := "(Ljava/lang/String;)V", sig := { parameters := [(.object "java/lang/String")], returnType := none }, accessFlags := 2, code := some k11c8 }
def k11c9 : Code := { maxStack := 4, maxLocals := 3, code := jdk_68_method_73_code, exceptionTable := #[], attributes := #[] }
def k11m9 : Method := { name := "putStringAt", desc := "(ILjava/lang/String;)V", sig := { parameters := [.int, (.object "java/lang/String")], returnType := none }, accessFlags := 2, code := some k11c9 }
/-- java/lang/AbstractStringBuilder -/
def k11 : Class := { plain "java/lang/AbstractStringBuilder" (some 0) with
  accessFlags := 1056
  interfaces := #[10, 4]
  cf := some (fileOf pool11 10 #[] #[{ accessFlags := 0, nameIndex := 7, descriptorIndex := 8, attributes := #[] }, { accessFlags := 0, nameIndex := 7, descriptorIndex := 103, attributes := #[] }, { accessFlags := 1, nameIndex := 34, descriptorIndex := 35, attributes := #[] }, { accessFlags := 2, nameIndex := 102, descriptorIndex := 103, attributes := #[] }, { accessFlags := 2, nameIndex := 106, descriptorIndex := 107, attributes := #[] }, { accessFlags := 1, nameIndex := 45, descriptorIndex := 46, attributes := #[] }, { accessFlags := 16, nameIndex := 552, descriptorIndex := 403, attributes := #[] }, { accessFlags := 16, nameIndex := 85, descriptorIndex := 86, attributes := #[] }, { accessFlags := 2, nameIndex := 217, descriptorIndex := 69, attributes := #[] }, { accessFlags := 2, nameIndex := 210, descriptorIndex := 211, attributes := #[] }] 1056 4 #[444, 48] #[{ accessFlags := 0, nameIndex := 17, descriptorIndex := 14, attributes := #[] }, { accessFlags := 0, nameIndex := 24, descriptorIndex := 25, attributes := #[] }, { accessFlags := 0, nameIndex := 75, descriptorIndex := 21, attributes := #[] }, { accessFlags := 0, nameIndex := 81, descriptorIndex := 82, attributes := #[] }, { accessFlags := 26, nameIndex := 13, descriptorIndex := 14, attributes := #[] }])
  fields := #[{ name := "value", type := (.array .byte), accessFlags := 0, slot := 0, constantValue := 0 }, { name := "coder", type := .byte, accessFlags := 0, slot := 1, constantValue := 0 }, { name := "maybeLatin1", type := .boolean, accessFlags := 0, slot := 2, constantValue := 0 }, { name := "count", type := .int, accessFlags := 0, slot := 3, constantValue := 0 }, { name := "EMPTYVALUE", type := (.array .byte), accessFlags := 26, slot := 0, constantValue := 0 }]
  methods := #[k11m0, k11m1, k11m2, k11m3, k11m4, k11m5, k11m6, k11m7, k11m8, k11m9]
  instanceTypes := #[(.array .byte), .byte, .boolean, .int]
  staticTypes := #[(.array .byte)]
  resolved := Array.replicate 609 none
  statics := none }

def pool12 : Array CpInfo := pool [(1, .methodref 2 3), (0, .class_ 4), (0, .nameAndType 5 6), (0, u "java/lang/AbstractStringBuilder"), (0, u "<init>"), (0, u "(I)V"), (11, .class_ 20), (1, u "java/lang/String"), (3, .class_ 26), (1, u "java/lang/StringBuilder"), (0, u "append"), (0, u "(Ljava/lang/String;)Ljava/lang/StringBuilder;"), (0, .methodref 2 30), (0, .nameAndType 27 31), (0, u "(Ljava/lang/String;)Ljava/lang/AbstractStringBuilder;"), (105, .methodref 18 138), (0, .nameAndType 5 139), (0, u "(Ljava/lang/StringBuilder;)V"), (5, u "()V"), (10, u "()I"), (186, .methodref 2 344), (0, .nameAndType 345 156), (0, u "length"), (3, .class_ 350), (0, u "java/lang/Appendable"), (0, .class_ 352), (0, u "java/io/Serializable"), (0, .class_ 354), (0, u "java/lang/Comparable"), (0, .class_ 356), (0, u "java/lang/CharSequence"), (0, u "serialVersionUID"), (0, u "J"), (40, u "toString"), (0, u "()Ljava/lang/String;")] 21

def k12c0 : Code := { maxStack := 2, maxLocals := 1, code := jdk_67_method_1_code, exceptionTable := #[], attributes := #[] }
def k12m0 : Method := { name := "<init>", desc := "()V", sig := { parameters := [], returnType := none }, accessFlags := 1, code := some k12c0 }
def k12c1 : Code := { maxStack := 2, maxLocals := 2, code := jdk_67_method_7_code, exceptionTable := #[], attributes := #[] }
def k12m1 : Method := { name := "append", desc := "(Ljava/lang/String;)Ljava/lang/StringBuilder;", sig := { parameters := [(.object "java/lang/String")], returnType := some (.object "java/lang/StringBuilder") }, accessFlags := 1, code := some k12c1 }
def k12c2 : Code := { maxStack := 3, maxLocals := 1, code := jdk_67_method_42_code, exceptionTable := #[], attributes := #[] }
def k12m2 : Method := { name := "toString", desc := "()Ljava/lang/String;", sig := { parameters := [], returnType := some (.object "java/lang/String") }, accessFlags := 1, code := some k12c2 }
def k12c3 : Code := { maxStack := 1, maxLocals := 1, code := jdk_67_method_93_code, exceptionTable := #[], attributes := #[] }
def k12m3 : Method := { name := "length", desc := "()I", sig := { parameters := [], returnType := some .int }, accessFlags := 4161, code := some k12c3 }
/-- java/lang/StringBuilder -/
def k12 : Class := { plain "java/lang/StringBuilder" (some 11) with
  accessFlags := 49
  interfaces := #[10, 2, 3, 4]
  cf := some (fileOf pool12 24 #[] #[{ accessFlags := 1, nameIndex := 5, descriptorIndex := 145, attributes := #[] }, { accessFlags := 1, nameIndex := 27, descriptorIndex := 28, attributes := #[] }, { accessFlags := 1, nameIndex := 399, descriptorIndex := 400, attributes := #[] }, { accessFlags := 4161, nameIndex := 345, descriptorIndex := 156, attributes := #[] }] 49 2 #[349, 351, 353, 355] #[{ accessFlags := 24, nameIndex := 357, descriptorIndex := 358, attributes := #[] }])
  fields := #[{ name := "serialVersionUID", type := .long, accessFlags := 24, slot := 0, constantValue := 0 }]
  methods := #[k12m0, k12m1, k12m2, k12m3]
  instanceTypes := #[(.array .byte), .byte, .boolean, .int]
  staticTypes := #[.long]
  resolved := Array.replicate 422 none
  statics := none }

def pool13 : Array CpInfo := pool [(2, .class_ 4), (1, u "java/lang/Object"), (0, u "<init>"), (0, u "()V"), (1, .class_ 10), (1, u "java/lang/System"), (0, u "allowSecurityManager"), (0, u "I"), (16, u "cons"), (0, u "Ljava/io/Console;"), (77, .class_ 110), (1, u "java/lang/System$CallersHolder"), (43, u "initialErrStream"), (0, u "Ljava/io/PrintStream;"), (19, u "security"), (0, u "Ljava/lang/SecurityManager;"), (31, .class_ 209), (0, u "java/lang/System$1"), (7, u "props"), (0, u "Ljava/util/Properties;"), (2, u "lineSeparator"), (0, u "Ljava/lang/String;"), (96, .class_ 321), (1, u "java/lang/System$LoggerFinder"), (5, .class_ 328), (0, u "java/lang/System$Logger"), (67, u "err"), (2, u "out"), (91, u "notSupportedJnuEncoding"), (15, u "in"), (17, u "initialIn"), (0, u "Ljava/io/InputStream;"), (35, u "bootLayer"), (0, u "Ljava/lang/ModuleLayer;"), (99, .class_ 664), (0, u "java/lang/System$2"), (9, u "NEVER"), (2, u "MAYBE"), (49, u "arraycopy"), (0, u "(Ljava/lang/Object;ILjava/lang/Object;II)V"), (72, .class_ 802), (0, u "java/lang/System$Logger$Level")] 31

def k13m0 : Method := { name := "<init>", desc := "()V", sig := { parameters := [], returnType := none }, accessFlags := 2, code := none }
def k13m1 : Method := { name := "arraycopy", desc := "(Ljava/lang/Object;ILjava/lang/Object;II)V", sig := { parameters := [(.object "java/lang/Object"), .int, (.object "java/lang/Object"), .int, .int], returnType := none }, accessFlags := 265, code := none }
/-- java/lang/System -/
def k13 : Class := { plain "java/lang/System" (some 0) with
  accessFlags := 49
  interfaces := #[]
  cf := some (fileOf pool13 8 #[.nestMembers #[319, 327, 801, 108, 663, 208]] #[{ accessFlags := 2, nameIndex := 5, descriptorIndex := 6, attributes := #[] }, { accessFlags := 265, nameIndex := 727, descriptorIndex := 728, attributes := #[] }] 49 2 #[] #[{ accessFlags := 25, nameIndex := 507, descriptorIndex := 526, attributes := #[] }, { accessFlags := 25, nameIndex := 399, descriptorIndex := 155, attributes := #[] }, { accessFlags := 25, nameIndex := 396, descriptorIndex := 155, attributes := #[] }, { accessFlags := 10, nameIndex := 525, descriptorIndex := 526, attributes := #[] }, { accessFlags := 26, nameIndex := 674, descriptorIndex := 12, attributes := #[] }, { accessFlags := 26, nameIndex := 677, descriptorIndex := 12, attributes := #[] }, { accessFlags := 10, nameIndex := 11, descriptorIndex := 12, attributes := #[] }, { accessFlags := 74, nameIndex := 175, descriptorIndex := 176, attributes := #[] }, { accessFlags := 10, nameIndex := 491, descriptorIndex := 222, attributes := #[] }, { accessFlags := 74, nameIndex := 29, descriptorIndex := 30, attributes := #[] }, { accessFlags := 74, nameIndex := 154, descriptorIndex := 155, attributes := #[] }, { accessFlags := 10, nameIndex := 217, descriptorIndex := 218, attributes := #[] }, { accessFlags := 10, nameIndex := 221, descriptorIndex := 222, attributes := #[] }, { accessFlags := 8, nameIndex := 562, descriptorIndex := 563, attributes := #[] }])
  fields := #[{ name := "in", type := (.object "java/io/InputStream"), accessFlags := 25, slot := 0, constantValue := 0 }, { name := "out", type := (.object "java/io/PrintStream"), accessFlags := 25, slot := 1, constantValue := 0 }, { name := "err", type := (.object "java/io/PrintStream"), accessFlags := 25, slot := 2, constantValue := 0 }, { name := "initialIn", type := (.object "java/io/InputStream"), accessFlags := 10, slot := 3, constantValue := 0 }, { name := "NEVER", type := .int, accessFlags := 26, slot := 4, constantValue := 0 }, { name := "MAYBE", type := .int, accessFlags := 26, slot := 5, constantValue := 0 }, { name := "allowSecurityManager", type := .int, accessFlags := 10, slot := 6, constantValue := 0 }, { name := "security", type := (.object "java/lang/SecurityManager"), accessFlags := 74, slot := 7, constantValue := 0 }, { name := "notSupportedJnuEncoding", type := (.object "java/lang/String"), accessFlags := 10, slot := 8, constantValue := 0 }, { name := "cons", type := (.object "java/io/Console"), accessFlags := 74, slot := 9, constantValue := 0 }, { name := "initialErrStream", type := (.object "java/io/PrintStream"), accessFlags := 74, slot := 10, constantValue := 0 }, { name := "props", type := (.object "java/util/Properties"), accessFlags := 10, slot := 11, constantValue := 0 }, { name := "lineSeparator", type := (.object "java/lang/String"), accessFlags := 10, slot := 12, constantValue := 0 }, { name := "bootLayer", type := (.object "java/lang/ModuleLayer"), accessFlags := 8, slot := 13, constantValue := 0 }]
  methods := #[k13m0, k13m1]
  instanceTypes := #[]
  staticTypes := #[(.object "java/io/InputStream"), (.object "java/io/PrintStream"), (.object "java/io/PrintStream"), (.object "java/io/InputStream"), .int, .int, .int, (.object "java/lang/SecurityManager"), (.object "java/lang/String"), (.object "java/io/Console"), (.object "java/io/PrintStream"), (.object "java/util/Properties"), (.object "java/lang/String"), (.object "java/lang/ModuleLayer")]
  resolved := Array.replicate 834 none
  statics := none }

def pool14 : Array CpInfo := pool [(9, u "<init>"), (6, .class_ 18), (1, u "java/lang/Object"), (0, u "()V"), (1, .class_ 23), (1, u "jdk/internal/util/ArraysSupport"), (0, u "LOG2_ARRAY_LONG_INDEX_SCALE"), (0, u "I"), (2, u "U"), (0, u "Ljdk/internal/misc/Unsafe;"), (8, u "BIG_ENDIAN"), (0, u "Z"), (8, u "LOG2_BYTE_BIT_SIZE"), (4, u "LOG2_ARRAY_INT_INDEX_SCALE"), (54, u "JLA"), (0, u "Ljdk/internal/access/JavaLangAccess;"), (11, u "LOG2_ARRAY_BOOLEAN_INDEX_SCALE"), (9, u "LOG2_ARRAY_BYTE_INDEX_SCALE"), (5, u "LOG2_ARRAY_CHAR_INDEX_SCALE"), (5, u "LOG2_ARRAY_SHORT_INDEX_SCALE"), (18, u "LOG2_ARRAY_FLOAT_INDEX_SCALE"), (24, u "LOG2_ARRAY_DOUBLE_INDEX_SCALE"), (6, .methodref 195 196), (0, .class_ 197), (0, .nameAndType 198 199), (0, u "java/lang/Math"), (0, u "max"), (0, u "(II)I"), (0, .integer 2147483639), (76, u "T_BOOLEAN"), (2, u "T_CHAR"), (1, u "T_FLOAT"), (1, u "T_DOUBLE"), (1, u "T_BYTE"), (1, u "T_SHORT"), (1, u "T_INT"), (1, u "T_LONG"), (1, u "SOFT_MAX_ARRAY_LENGTH"), (56, u "newLength"), (0, u "(III)I")] 25

def k14m0 : Method := { name := "<init>", desc := "()V", sig := { parameters := [], returnType := none }, accessFlags := 2, code := none }
def k14c1 : Code := { maxStack := 3, maxLocals := 4, code := jdk_48_method_27_code, exceptionTable := #[], attributes := #[] }
def k14m1 : Method := { name := "newLength", desc := "(III)I", sig := { parameters := [.int, .int, .int], returnType := some .int }, accessFlags := 9, code := some k14c1 }
/-- jdk/internal/util/ArraysSupport -/
def k14 : Class := { plain "jdk/internal/util/ArraysSupport" (some 0) with
  accessFlags := 33
  interfaces := #[]
  cf := some (fileOf pool14 21 #[] #[{ accessFlags := 2, nameIndex := 9, descriptorIndex := 19, attributes := #[] }, { accessFlags := 9, nameIndex := 351, descriptorIndex := 352, attributes := #[] }] 33 16 #[] #[{ accessFlags := 24, nameIndex := 28, descriptorIndex := 29, attributes := #[] }, { accessFlags := 26, nameIndex := 38, descriptorIndex := 39, attributes := #[] }, { accessFlags := 25, nameIndex := 121, descriptorIndex := 25, attributes := #[] }, { accessFlags := 25, nameIndex := 131, descriptorIndex := 25, attributes := #[] }, { accessFlags := 25, nameIndex := 137, descriptorIndex := 25, attributes := #[] }, { accessFlags := 25, nameIndex := 143, descriptorIndex := 25, attributes := #[] }, { accessFlags := 25, nameIndex := 53, descriptorIndex := 25, attributes := #[] }, { accessFlags := 25, nameIndex := 24, descriptorIndex := 25, attributes := #[] }, { accessFlags := 25, nameIndex := 162, descriptorIndex := 25, attributes := #[] }, { accessFlags := 25, nameIndex := 187, descriptorIndex := 25, attributes := #[] }, { accessFlags := 26, nameIndex := 48, descriptorIndex := 25, attributes := #[] }, { accessFlags := 25, nameIndex := 277, descriptorIndex := 25, attributes := #[] }, { accessFlags := 25, nameIndex := 280, descriptorIndex := 25, attributes := #[] }, { accessFlags := 25, nameIndex := 282, descriptorIndex := 25, attributes := #[] }, { accessFlags := 25, nameIndex := 284, descriptorIndex := 25, attributes := #[] }, { accessFlags := 25, nameIndex := 286, descriptorIndex := 25, attributes := #[] }, { accessFlags := 25, nameIndex := 288, descriptorIndex := 25, attributes := #[] }, { accessFlags := 25, nameIndex := 290, descriptorIndex := 25, attributes := #[] }, { accessFlags := 25, nameIndex := 292, descriptorIndex := 25, attributes := #[] }, { accessFlags := 26, nameIndex := 108, descriptorIndex := 109, attributes := #[] }, { accessFlags := 25, nameIndex := 294, descriptorIndex := 25, attributes := #[] }])
  fields := #[{ name := "U", type := (.object "jdk/internal/misc/Unsafe"), accessFlags := 24, slot := 0, constantValue := 0 }, { name := "BIG_ENDIAN", type := .boolean, accessFlags := 26, slot := 1, constantValue := 0 }, { name := "LOG2_ARRAY_BOOLEAN_INDEX_SCALE", type := .int, accessFlags := 25, slot := 2, constantValue := 0 }, { name := "LOG2_ARRAY_BYTE_INDEX_SCALE", type := .int, accessFlags := 25, slot := 3, constantValue := 0 }, { name := "LOG2_ARRAY_CHAR_INDEX_SCALE", type := .int, accessFlags := 25, slot := 4, constantValue := 0 }, { name := "LOG2_ARRAY_SHORT_INDEX_SCALE", type := .int, accessFlags := 25, slot := 5, constantValue := 0 }, { name := "LOG2_ARRAY_INT_INDEX_SCALE", type := .int, accessFlags := 25, slot := 6, constantValue := 0 }, { name := "LOG2_ARRAY_LONG_INDEX_SCALE", type := .int, accessFlags := 25, slot := 7, constantValue := 0 }, { name := "LOG2_ARRAY_FLOAT_INDEX_SCALE", type := .int, accessFlags := 25, slot := 8, constantValue := 0 }, { name := "LOG2_ARRAY_DOUBLE_INDEX_SCALE", type := .int, accessFlags := 25, slot := 9, constantValue := 0 }, { name := "LOG2_BYTE_BIT_SIZE", type := .int, accessFlags := 26, slot := 10, constantValue := 0 }, { name := "T_BOOLEAN", type := .int, accessFlags := 25, slot := 11, constantValue := 0 }, { name := "T_CHAR", type := .int, accessFlags := 25, slot := 12, constantValue := 0 }, { name := "T_FLOAT", type := .int, accessFlags := 25, slot := 13, constantValue := 0 }, { name := "T_DOUBLE", type := .int, accessFlags := 25, slot := 14, constantValue := 0 }, { name := "T_BYTE", type := .int, accessFlags := 25, slot := 15, constantValue := 0 }, { name := "T_SHORT", type := .int, accessFlags := 25, slot := 16, constantValue := 0 }, { name := "T_INT", type := .int, accessFlags := 25, slot := 17, constantValue := 0 }, { name := "T_LONG", type := .int, accessFlags := 25, slot := 18, constantValue := 0 }, { name := "JLA", type := (.object "jdk/internal/access/JavaLangAccess"), accessFlags := 26, slot := 19, constantValue := 0 }, { name := "SOFT_MAX_ARRAY_LENGTH", type := .int, accessFlags := 25, slot := 20, constantValue := 0 }]
  methods := #[k14m0, k14m1]
  instanceTypes := #[]
  staticTypes := #[(.object "jdk/internal/misc/Unsafe"), .boolean, .int, .int, .int, .int, .int, .int, .int, .int, .int, .int, .int, .int, .int, .int, .int, .int, .int, (.object "jdk/internal/access/JavaLangAccess"), .int]
  resolved := Array.replicate 378 none
  statics := none }

def pool15 : Array CpInfo := pool [(1, .class_ 2), (0, u "java/lang/Math"), (1, .class_ 6), (1, u "java/lang/Object"), (0, u "<init>"), (0, u "()V"), (89, .class_ 100), (1, u "java/lang/Math$RandomNumberGeneratorHolder"), (71, u "negativeZeroFloatBits"), (0, u "J"), (2, u "negativeZeroDoubleBits"), (21, u "max"), (2, u "min"), (43, u "$assertionsDisabled"), (0, u "Z"), (88, u "(II)I"), (2, u "twoToTheDoubleScaleDown"), (0, u "D"), (4, u "twoToTheDoubleScaleUp"), (9, u "E"), (3, u "PI"), (2, u "TAU"), (2, u "DEGREES_TO_RADIANS"), (0, u "RADIANS_TO_DEGREES")] 94

def k15m0 : Method := { name := "<init>", desc := "()V", sig := { parameters := [], returnType := none }, accessFlags := 2, code := none }
def k15c1 : Code := { maxStack := 2, maxLocals := 2, code := jdk_29_method_65_code, exceptionTable := #[], attributes := #[] }
def k15m1 : Method := { name := "max", desc := "(II)I", sig := { parameters := [.int, .int], returnType := some .int }, accessFlags := 9, code := some k15c1 }
def k15c2 : Code := { maxStack := 2, maxLocals := 2, code := jdk_29_method_69_code, exceptionTable := #[], attributes := #[] }
def k15m2 : Method := { name := "min", desc := "(II)I", sig := { parameters := [.int, .int], returnType := some .int }, accessFlags := 9, code := some k15c2 }
/-- java/lang/Math -/
def k15 : Class := { plain "java/lang/Math" (some 0) with
  accessFlags := 49
  interfaces := #[]
  cf := some (fileOf pool15 1 #[.nestMembers #[98]] #[{ accessFlags := 2, nameIndex := 7, descriptorIndex := 8, attributes := #[] }, { accessFlags := 9, nameIndex := 198, descriptorIndex := 335, attributes := #[] }, { accessFlags := 9, nameIndex := 201, descriptorIndex := 335, attributes := #[] }] 49 4 #[] #[{ accessFlags := 25, nameIndex := 354, descriptorIndex := 339, attributes := #[] }, { accessFlags := 25, nameIndex := 358, descriptorIndex := 339, attributes := #[] }, { accessFlags := 25, nameIndex := 361, descriptorIndex := 339, attributes := #[] }, { accessFlags := 26, nameIndex := 364, descriptorIndex := 339, attributes := #[] }, { accessFlags := 26, nameIndex := 365, descriptorIndex := 339, attributes := #[] }, { accessFlags := 26, nameIndex := 172, descriptorIndex := 173, attributes := #[] }, { accessFlags := 26, nameIndex := 176, descriptorIndex := 173, attributes := #[] }, { accessFlags := 8, nameIndex := 344, descriptorIndex := 339, attributes := #[] }, { accessFlags := 8, nameIndex := 338, descriptorIndex := 339, attributes := #[] }, { accessFlags := 4120, nameIndex := 245, descriptorIndex := 246, attributes := #[] }])
  fields := #[{ name := "E", type := .double, accessFlags := 25, slot := 0, constantValue := 0 }, { name := "PI", type := .double, accessFlags := 25, slot := 1, constantValue := 0 }, { name := "TAU", type := .double, accessFlags := 25, slot := 2, constantValue := 0 }, { name := "DEGREES_TO_RADIANS", type := .double, accessFlags := 26, slot := 3, constantValue := 0 }, { name := "RADIANS_TO_DEGREES", type := .double, accessFlags := 26, slot := 4, constantValue := 0 }, { name := "negativeZeroFloatBits", type := .long, accessFlags := 26, slot := 5, constantValue := 0 }, { name := "negativeZeroDoubleBits", type := .long, accessFlags := 26, slot := 6, constantValue := 0 }, { name := "twoToTheDoubleScaleUp", type := .double, accessFlags := 8, slot := 7, constantValue := 0 }, { name := "twoToTheDoubleScaleDown", type := .double, accessFlags := 8, slot := 8, constantValue := 0 }, { name := "$assertionsDisabled", type := .boolean, accessFlags := 4120, slot := 9, constantValue := 0 }]
  methods := #[k15m0, k15m1, k15m2]
  instanceTypes := #[]
  staticTypes := #[.double, .double, .double, .double, .double, .long, .long, .double, .double, .boolean]
  resolved := Array.replicate 460 none
  statics := none }

def pool16 : Array CpInfo := pool [(2, .class_ 4), (1, u "java/lang/Object"), (0, u "<init>"), (0, u "()V"), (7, .class_ 16), (1, u "java/util/Arrays"), (57, .class_ 76), (1, u "java/util/Arrays$NaturalOrder"), (36, .class_ 115), (1, u "java/util/Arrays$LegacyMergeSort"), (1, u "Z"), (21, u "copyOfRange"), (10, .methodref 151 152), (0, .class_ 153), (0, .nameAndType 154 155), (0, u "java/lang/System"), (0, u "arraycopy"), (0, u "(Ljava/lang/Object;ILjava/lang/Object;II)V"), (146, u "copyOf"), (1, .methodref 305 306), (0, .class_ 307), (0, .nameAndType 308 309), (0, u "java/lang/Math"), (0, u "min"), (0, u "(II)I"), (29, .methodref 14 340), (0, .nameAndType 341 342), (0, u "copyOfRangeByte"), (0, u "([BII)[B"), (0, .methodref 14 344), (0, .nameAndType 345 346), (0, u "checkLength"), (0, u "(II)V"), (28, .class_ 376), (0, u "java/util/Arrays$ArrayList"), (68, u "$assertionsDisabled"), (269, u "MIN_ARRAY_SORT_GRAN"), (0, u "I"), (2, u "INSERTIONSORT_THRESHOLD"), (149, u "([BI)[B"), (105, .class_ 976), (0, u "java/util/Arrays$ArrayItr")] 52

def k16m0 : Method := { name := "<init>", desc := "()V", sig := { parameters := [], returnType := none }, accessFlags := 2, code := none }
def k16c1 : Code := { maxStack := 6, maxLocals := 3, code := jdk_65_method_121_code, exceptionTable := #[], attributes := #[] }
def k16m1 : Method := { name := "copyOf", desc := "([BI)[B", sig := { parameters := [(.array .byte), .int], returnType := some (.array .byte) }, accessFlags := 9, code := some k16c1 }
def k16c2 : Code := { maxStack := 4, maxLocals := 2, code := jdk_65_method_131_code, exceptionTable := #[], attributes := #[] }
def k16m2 : Method := { name := "checkLength", desc := "(II)V", sig := { parameters := [.int, .int], returnType := none }, accessFlags := 10, code := some k16c2 }
def k16c3 : Code := { maxStack := 3, maxLocals := 3, code := jdk_65_method_132_code, exceptionTable := #[], attributes := #[] }
def k16m3 : Method := { name := "copyOfRange", desc := "([BII)[B", sig := { parameters := [(.array .byte), .int, .int], returnType := some (.array .byte) }, accessFlags := 9, code := some k16c3 }
def k16c4 : Code := { maxStack := 6, maxLocals := 5, code := jdk_65_method_133_code, exceptionTable := #[], attributes := #[] }
def k16m4 : Method := { name := "copyOfRangeByte", desc := "([BII)[B", sig := { parameters := [(.array .byte), .int, .int], returnType := some (.array .byte) }, accessFlags := 10, code := some k16c4 }
/-- java/util/Arrays -/
def k16 : Class := { plain "java/util/Arrays" (some 0) with
  accessFlags := 49
  interfaces := #[]
  cf := some (fileOf pool16 14 #[.nestMembers #[975, 375, 113, 74]] #[{ accessFlags := 2, nameIndex := 5, descriptorIndex := 6, attributes := #[] }, { accessFlags := 9, nameIndex := 302, descriptorIndex := 869, attributes := #[] }, { accessFlags := 10, nameIndex := 345, descriptorIndex := 346, attributes := #[] }, { accessFlags := 9, nameIndex := 139, descriptorIndex := 342, attributes := #[] }, { accessFlags := 10, nameIndex := 341, descriptorIndex := 342, attributes := #[] }] 49 2 #[] #[{ accessFlags := 26, nameIndex := 715, descriptorIndex := 716, attributes := #[] }, { accessFlags := 26, nameIndex := 719, descriptorIndex := 716, attributes := #[] }, { accessFlags := 4120, nameIndex := 445, descriptorIndex := 117, attributes := #[] }])
  fields := #[{ name := "MIN_ARRAY_SORT_GRAN", type := .int, accessFlags := 26, slot := 0, constantValue := 0 }, { name := "INSERTIONSORT_THRESHOLD", type := .int, accessFlags := 26, slot := 1, constantValue := 0 }, { name := "$assertionsDisabled", type := .boolean, accessFlags := 4120, slot := 2, constantValue := 0 }]
  methods := #[k16m0, k16m1, k16m2, k16m3, k16m4]
  instanceTypes := #[]
  staticTypes := #[.int, .int, .boolean]
  resolved := Array.replicate 1029 none
  statics := none }

def pool17 : Array CpInfo := pool [(2, .class_ 4), (1, u "java/lang/Object"), (0, u "<init>"), (0, u "()V"), (0, .class_ 8), (0, u "java/lang/Record")] 13

def k17m0 : Method := { name := "<init>", desc := "()V", sig := { parameters := [], returnType := none }, accessFlags := 4, code := none }
/-- java/lang/Record -/
def k17 : Class := { plain "java/lang/Record" (some 0) with
  accessFlags := 1057
  interfaces := #[]
  cf := some (fileOf pool17 7 #[] #[{ accessFlags := 4, nameIndex := 5, descriptorIndex := 6, attributes := #[] }] 1057 2 #[] #[])
  fields := #[]
  methods := #[k17m0]
  instanceTypes := #[]
  staticTypes := #[]
  resolved := Array.replicate 22 none
  statics := none }

def pool18 : Array CpInfo := pool [(2, .class_ 4), (1, u "java/lang/Record"), (2, .fieldref 8 9), (0, .class_ 10), (0, .nameAndType 11 12), (0, u "com/example/compendio/compendio/cli/Arguments$Option"), (0, u "name"), (0, u "Ljava/lang/String;"), (2, u "needs"), (16, u "()Ljava/lang/String;"), (5, .class_ 39), (0, u "com/example/compendio/compendio/cli/Arguments")] 20

def k18c0 : Code := { maxStack := 1, maxLocals := 1, code := prog_4_method_5_code, exceptionTable := #[], attributes := #[] }
def k18m0 : Method := { name := "name", desc := "()Ljava/lang/String;", sig := { parameters := [], returnType := some (.object "java/lang/String") }, accessFlags := 1, code := some k18c0 }
/-- com/example/compendio/compendio/cli/Arguments$Option -/
def k18 : Class := { plain "com/example/compendio/compendio/cli/Arguments$Option" (some 17) with
  accessFlags := 48
  interfaces := #[]
  cf := some (fileOf pool18 8 #[.nestHost 38] #[{ accessFlags := 1, nameIndex := 11, descriptorIndex := 32, attributes := #[] }] 48 2 #[] #[{ accessFlags := 18, nameIndex := 11, descriptorIndex := 12, attributes := #[] }, { accessFlags := 18, nameIndex := 15, descriptorIndex := 12, attributes := #[] }])
  fields := #[{ name := "name", type := (.object "java/lang/String"), accessFlags := 18, slot := 0, constantValue := 0 }, { name := "needs", type := (.object "java/lang/String"), accessFlags := 18, slot := 1, constantValue := 0 }]
  methods := #[k18m0]
  instanceTypes := #[(.object "java/lang/String"), (.object "java/lang/String")]
  staticTypes := #[]
  resolved := Array.replicate 60 none
  statics := none }

def pool19 : Array CpInfo := pool [(1, .class_ 2), (0, u "java/lang/String"), (1, .class_ 6), (1, u "java/lang/Object"), (0, u "<init>"), (0, u "()V"), (0, .methodref 1 10), (0, .nameAndType 11 12), (0, u "checkIndex"), (0, u "(II)V"), (1, .class_ 16), (1, u "java/lang/StringLatin1"), (36, u "([BI)C"), (36, u "canEncode"), (14, u "(C)Z"), (15, u "$assertionsDisabled"), (0, u "Z"), (98, .class_ 223), (1, u "java/lang/StringLatin1$LinesSpliterator"), (28, u "charAt"), (127, u "toBytes"), (1, u "(C)[B"), (7, .class_ 391), (0, u "java/lang/StringLatin1$CharsSpliterator")] 3

def k19m0 : Method := { name := "<init>", desc := "()V", sig := { parameters := [], returnType := none }, accessFlags := 0, code := none }
def k19c1 : Code := { maxStack := 2, maxLocals := 2, code := jdk_43_method_2_code, exceptionTable := #[], attributes := #[] }
def k19m1 : Method := { name := "charAt", desc := "([BI)C", sig := { parameters := [(.array .byte), .int], returnType := some .char }, accessFlags := 9, code := some k19c1 }
def k19c2 : Code := { maxStack := 2, maxLocals := 1, code := jdk_43_method_3_code, exceptionTable := #[], attributes := #[] }
def k19m2 : Method := { name := "canEncode", desc := "(C)Z", sig := { parameters := [.char], returnType := some .boolean }, accessFlags := 9, code := some k19c2 }
def k19c3 : Code := { maxStack := 4, maxLocals := 1, code := jdk_43_method_46_code, exceptionTable := #[], attributes := #[] }
def k19m3 : Method := { name := "toBytes", desc := "(C)[B", sig := { parameters := [.char], returnType := some (.array .byte) }, accessFlags := 9, code := some k19c3 }
/-- java/lang/StringLatin1 -/
def k19 : Class := { plain "java/lang/StringLatin1" (some 0) with
  accessFlags := 48
  interfaces := #[]
  cf := some (fileOf pool19 14 #[.nestMembers #[390, 221]] #[{ accessFlags := 0, nameIndex := 7, descriptorIndex := 8, attributes := #[] }, { accessFlags := 9, nameIndex := 252, descriptorIndex := 53, attributes := #[] }, { accessFlags := 9, nameIndex := 90, descriptorIndex := 105, attributes := #[] }, { accessFlags := 9, nameIndex := 380, descriptorIndex := 382, attributes := #[] }] 48 4 #[] #[{ accessFlags := 4120, nameIndex := 121, descriptorIndex := 122, attributes := #[] }])
  fields := #[{ name := "$assertionsDisabled", type := .boolean, accessFlags := 4120, slot := 0, constantValue := 0 }]
  methods := #[k19m0, k19m1, k19m2, k19m3]
  instanceTypes := #[]
  staticTypes := #[.boolean]
  resolved := Array.replicate 395 none
  statics := none }

def pool20 : Array CpInfo := pool [(2, .class_ 4), (1, u "java/lang/Object"), (0, u "<init>"), (0, u "()V"), (17, .class_ 26), (1, u "jdk/internal/util/Preconditions"), (6, u "checkIndex"), (21, .class_ 56), (0, u "jdk/internal/util/Preconditions$4"), (57, .class_ 115), (0, u "jdk/internal/util/Preconditions$1"), (7, u "SIOOBE_FORMATTER"), (0, u "Ljava/util/function/BiFunction;"), (0, .class_ 126), (0, u "jdk/internal/util/Preconditions$2"), (3, u "AIOOBE_FORMATTER"), (0, .class_ 132), (0, u "jdk/internal/util/Preconditions$3"), (3, u "IOOBE_FORMATTER"), (41, u "(IILjava/util/function/BiFunction;)I")] 15

def k20m0 : Method := { name := "<init>", desc := "()V", sig := { parameters := [], returnType := none }, accessFlags := 1, code := none }
def k20c1 : Code := { maxStack := 3, maxLocals := 3, code := jdk_41_method_11_code, exceptionTable := #[], attributes := #[] }
def k20m1 : Method := { name := "checkIndex", desc := "(IILjava/util/function/BiFunction;)I", sig := { parameters := [.int, .int, (.object "java/util/function/BiFunction")], returnType := some .int }, accessFlags := 9, code := some k20c1 }
/-- jdk/internal/util/Preconditions -/
def k20 : Class := { plain "jdk/internal/util/Preconditions" (some 0) with
  accessFlags := 33
  interfaces := #[]
  cf := some (fileOf pool20 24 #[.nestMembers #[55, 131, 125, 114]] #[{ accessFlags := 1, nameIndex := 5, descriptorIndex := 6, attributes := #[] }, { accessFlags := 9, nameIndex := 33, descriptorIndex := 178, attributes := #[] }] 33 2 #[] #[{ accessFlags := 25, nameIndex := 123, descriptorIndex := 124, attributes := #[] }, { accessFlags := 25, nameIndex := 130, descriptorIndex := 124, attributes := #[] }, { accessFlags := 25, nameIndex := 136, descriptorIndex := 124, attributes := #[] }])
  fields := #[{ name := "SIOOBE_FORMATTER", type := (.object "java/util/function/BiFunction"), accessFlags := 25, slot := 0, constantValue := 0 }, { name := "AIOOBE_FORMATTER", type := (.object "java/util/function/BiFunction"), accessFlags := 25, slot := 1, constantValue := 0 }, { name := "IOOBE_FORMATTER", type := (.object "java/util/function/BiFunction"), accessFlags := 25, slot := 2, constantValue := 0 }]
  methods := #[k20m0, k20m1]
  instanceTypes := #[]
  staticTypes := #[(.object "java/util/function/BiFunction"), (.object "java/util/function/BiFunction"), (.object "java/util/function/BiFunction")]
  resolved := Array.replicate 194 none
  statics := some 2 }

def pool21 : Array CpInfo := pool [(1, u "java/lang/Cloneable"), (0, .class_ 1), (0, u "java/lang/Object"), (0, .class_ 3)] 3

/-- java/lang/Cloneable -/
def k21 : Class := { plain "java/lang/Cloneable" (some 0) with
  accessFlags := 1537
  interfaces := #[]
  cf := some (fileOf pool21 2 #[] #[] 1537 4 #[] #[])
  fields := #[]
  methods := #[]
  instanceTypes := #[]
  staticTypes := #[]
  resolved := Array.replicate 8 none
  statics := none }

/-- the primitive byte -/
def k22 : Class := { plain "byte" none with kind := .primitive 'B', accessFlags := 0x411 }
/-- [B -/
def k23 : Class := { plain "[B" (some 0) with kind := .array 22 .byte, interfaces := #[21, 2], accessFlags := 1041 }

/-- the primitive char -/
def k24 : Class := { plain "char" none with kind := .primitive 'C', accessFlags := 0x411 }
/-- [C -/
def k25 : Class := { plain "[C" (some 0) with kind := .array 24 .char, interfaces := #[21, 2], accessFlags := 1041 }

/-- the primitive int -/
def k26 : Class := { plain "int" none with kind := .primitive 'I', accessFlags := 0x411 }
/-- [I -/
def k27 : Class := { plain "[I" (some 0) with kind := .array 26 .int, interfaces := #[21, 2], accessFlags := 1041 }

def heap : Heap := #[{ cls := 7, slots := #[.long 0, .int 1, .null, .int 0, .null, .int 0, .int 0], vm := .statics 7 },
  { cls := 9, slots := #[.null, .null, .null, .ref 3, .null, .null, .null, .null, .null, .null, .null, .null, .null], vm := .statics 9 },
  { cls := 20, slots := #[.null, .null, .null], vm := .statics 20 },
  { cls := 18, slots := #[.ref 4, .null], vm := .none },
  { cls := 7, slots := #[.ref 5, .int 0, .int 0, .int 0], vm := .none },
  { cls := 23, slots := #[.int 45, .int 45, .int 98, .int 111, .int 111, .int 107], vm := .none }]
def classes : Array Class := #[k0, k1, k2, k3, k4, k5, k6, k7, k8, k9, k10, k11, k12, k13, k14, k15, k16, k17, k18, k19, k20, k21, k22, k23, k24, k25, k26, k27]
def interned : List (Array UInt16 × Addr) := []
def slotsUsed : Nat := 35
def theMethod : MethodId := ⟨1, 1⟩
def args0 : Array Value := #[.int 5, .int 5, .int 5]
def aboutOver (below : List Frame) : State where
  vm := { classes := classes, interned := interned.toArray }
  heap := heap
  slotsUsed := slotsUsed
  threads := #[{ frames := .invoking theMethod args0 :: below }]
def below0 : List Frame := [.native { method := ⟨0, 0⟩, args := #[] }]
def about1 : State := aboutOver below0
def p0 : Program := .bare "" "" ""
def e0 : Env := launch0.env 0 0 0
theorem w_frames : about1.frames = Frame.invoking theMethod args0 :: below0 := rfl
set_option maxRecDepth 65536 in
theorem w_args : argsFit about1.vm theMethod args0 = true := by decide +kernel
set_option maxRecDepth 65536 in
theorem w_heap : heapFits about1 = true := by decide +kernel
set_option maxRecDepth 65536 in
theorem w_runnable : about1.curStatus? = some .runnable := by decide +kernel
set_option maxRecDepth 65536 in
theorem w_alone : about1.alone = true := by decide +kernel
set_option maxRecDepth 65536 in
theorem w_named : about1.methodNamed? x = some theMethod := by decide +kernel
set_option maxRecDepth 65536 in
theorem w_hears : about1.hears theMethod below0 = true := by decide +kernel
set_option maxRecDepth 65536 in
theorem w_ripe : about1.ripe theMethod args0 below0 = true := by decide +kernel
theorem w_running : about1.status = .running := rfl
set_option maxRecDepth 65536 in
theorem w_room : about1.hasRoom e0.platform room_1 = true :=
  launch0.hasRoom_least _ room_1 (by decide +kernel) (by decide +kernel) (by decide +kernel) (by decide +kernel) (by decide +kernel) (by decide +kernel)
theorem allAtoms_all (ts : List Jvm.Cond) (a : Array Jvm.Value) (st : Jvm.State) : (allAtoms ts).before a st = ts.all (fun c => c.before a st) := by
  induction ts with
  | nil => rfl
  | cons c t ih =>
    show (Jvm.Cond.and c (allAtoms t)).before a st = _
    rw [Jvm.Cond.before_and, ih, List.all_cons]
def words1 : List Jvm.Cond := Jvm.Cond.code x code maxLocals ret :: tables_1
/-- a 'code' word, met by the world's own term for the bytes: nothing is compared byte by byte -/
theorem code_word {y : MethodName} {bytes : ByteArray} {mx : Nat} {rt : Option FieldType} {a : Array Value} {s : State} {m : MethodId} {meth : Method} {c : Code} (h1 : s.methodNamed? y = some m) (h2 : s.vm.method? m = some meth) (h3 : meth.code = some c) (h4 : c.code = bytes)
    (h5 : (c.maxLocals == mx && c.exceptionTable.isEmpty && decide (c.maxStack ≤ mostOperands) && decide (meth.sig.returnType = rt) && !meth.locks && decide (parseMethodDescriptor y.desc = some meth.sig)) = true) : (Jvm.Cond.code y bytes mx rt).before a s = true := by
  simp only [Bool.and_eq_true, beq_iff_eq, Bool.not_eq_true', decide_eq_true_eq] at h5
  obtain ⟨⟨⟨⟨⟨g1, g2⟩, g3⟩, g4⟩, g5⟩, g6⟩ := h5
  simp [Cond.before, Cond.holds, Cond.value, h1, h2, h3, h4, g1, g2, g3, g4, g5, g6]
def isCode : Jvm.Cond → Bool
  | .code _ _ _ _ => true
  | _ => false
theorem all_split {L : List Jvm.Cond} {P : Jvm.Cond → Bool} (h1 : L.all (fun c => isCode c || P c) = true) (h2 : ∀ c ∈ L.filter isCode, P c = true) : L.all P = true := by
  refine List.all_eq_true.mpr fun c hc => ?_
  have h := List.all_eq_true.mp h1 c hc
  rcases Bool.eq_false_or_eq_true (isCode c) with hi | hi
  · exact h2 c (List.mem_filter.mpr ⟨hc, hi⟩)
  · simpa [hi] using h
set_option maxRecDepth 65536 in
theorem w_c0 : (Jvm.Cond.code x code maxLocals ret).before args0 about1 = true := code_word (m := ⟨1, 1⟩) (meth := k1m1) (c := k1c1) (by decide +kernel) rfl rfl rfl (by decide +kernel)
set_option maxRecDepth 65536 in
theorem w_c1 : (Jvm.Cond.code ({ cls := "com/example/compendio/compendio/cli/ArgumentsUsageWithBookPinLaw", name := "make", desc := "(ICC)Ljava/lang/String;" } : Jvm.MethodName) method_3_code (3 : Nat) (Option.some (Jvm.ClassFile.FieldType.object "java/lang/String"))).before args0 about1 = true := code_word (m := ⟨1, 2⟩) (meth := k1m2) (c := k1c2) (by decide +kernel) rfl rfl rfl (by decide +kernel)
set_option maxRecDepth 65536 in
theorem w_c2 : (Jvm.Cond.code ({ cls := "java/lang/String", name := "<init>", desc := "([C)V" } : Jvm.MethodName) jdk_42_method_3_code (2 : Nat) (Option.none : Option Jvm.ClassFile.FieldType)).before args0 about1 = true := code_word (m := ⟨7, 1⟩) (meth := k7m1) (c := k7c1) (by decide +kernel) rfl rfl rfl (by decide +kernel)
set_option maxRecDepth 65536 in
theorem w_c3 : (Jvm.Cond.code ({ cls := "java/lang/String", name := "<init>", desc := "([CIILjava/lang/Void;)V" } : Jvm.MethodName) jdk_42_method_149_code (6 : Nat) (Option.none : Option Jvm.ClassFile.FieldType)).before args0 about1 = true := code_word (m := ⟨7, 8⟩) (meth := k7m8) (c := k7c8) (by decide +kernel) rfl rfl rfl (by decide +kernel)
set_option maxRecDepth 65536 in
theorem w_c4 : (Jvm.Cond.code ({ cls := "java/lang/Object", name := "<init>", desc := "()V" } : Jvm.MethodName) object_method_1_code (1 : Nat) (Option.none : Option Jvm.ClassFile.FieldType)).before args0 about1 = true := code_word (m := ⟨0, 0⟩) (meth := k0m0) (c := k0c0) (by decide +kernel) rfl rfl rfl (by decide +kernel)
set_option maxRecDepth 65536 in
theorem w_c5 : (Jvm.Cond.code ({ cls := "java/lang/StringUTF16", name := "compress", desc := "([CII)[B" } : Jvm.MethodName) jdk_52_method_16_code (6 : Nat) (Option.some (Jvm.ClassFile.FieldType.array Jvm.ClassFile.FieldType.byte))).before args0 about1 = true := code_word (m := ⟨8, 2⟩) (meth := k8m2) (c := k8c2) (by decide +kernel) rfl rfl rfl (by decide +kernel)
set_option maxRecDepth 65536 in
theorem w_c6 : (Jvm.Cond.code ({ cls := "java/lang/StringUTF16", name := "compress", desc := "([CI[BII)I" } : Jvm.MethodName) jdk_52_method_21_code (7 : Nat) (Option.some Jvm.ClassFile.FieldType.int)).before args0 about1 = true := code_word (m := ⟨8, 3⟩) (meth := k8m3) (c := k8c3) (by decide +kernel) rfl rfl rfl (by decide +kernel)
set_option maxRecDepth 65536 in
theorem w_c7 : (Jvm.Cond.code ({ cls := "java/lang/StringUTF16", name := "coderFromArrayLen", desc := "([BI)B" } : Jvm.MethodName) jdk_52_method_15_code (2 : Nat) (Option.some Jvm.ClassFile.FieldType.byte)).before args0 about1 = true := code_word (m := ⟨8, 1⟩) (meth := k8m1) (c := k8c1) (by decide +kernel) rfl rfl rfl (by decide +kernel)
set_option maxRecDepth 65536 in
theorem w_c8 : (Jvm.Cond.code ({ cls := "com/example/compendio/compendio/cli/Arguments", name := "usageWithBook", desc := "(Ljava/lang/String;Ljava/lang/String;)Ljava/lang/String;" } : Jvm.MethodName) prog_3_method_3_code (2 : Nat) (Option.some (Jvm.ClassFile.FieldType.object "java/lang/String"))).before args0 about1 = true := code_word (m := ⟨9, 0⟩) (meth := k9m0) (c := k9c0) (by decide +kernel) rfl rfl rfl (by decide +kernel)
set_option maxRecDepth 65536 in
theorem w_c9 : (Jvm.Cond.code ({ cls := "java/lang/StringBuilder", name := "<init>", desc := "()V" } : Jvm.MethodName) jdk_67_method_1_code (1 : Nat) (Option.none : Option Jvm.ClassFile.FieldType)).before args0 about1 = true := code_word (m := ⟨12, 0⟩) (meth := k12m0) (c := k12c0) (by decide +kernel) rfl rfl rfl (by decide +kernel)
set_option maxRecDepth 65536 in
theorem w_c10 : (Jvm.Cond.code ({ cls := "java/lang/AbstractStringBuilder", name := "<init>", desc := "(I)V" } : Jvm.MethodName) jdk_68_method_2_code (2 : Nat) (Option.none : Option Jvm.ClassFile.FieldType)).before args0 about1 = true := code_word (m := ⟨11, 1⟩) (meth := k11m1) (c := k11c1) (by decide +kernel) rfl rfl rfl (by decide +kernel)
set_option maxRecDepth 65536 in
theorem w_c11 : (Jvm.Cond.code ({ cls := "java/lang/StringBuilder", name := "append", desc := "(Ljava/lang/String;)Ljava/lang/StringBuilder;" } : Jvm.MethodName) jdk_67_method_7_code (2 : Nat) (Option.some (Jvm.ClassFile.FieldType.object "java/lang/StringBuilder"))).before args0 about1 = true := code_word (m := ⟨12, 1⟩) (meth := k12m1) (c := k12c1) (by decide +kernel) rfl rfl rfl (by decide +kernel)
set_option maxRecDepth 65536 in
theorem w_c12 : (Jvm.Cond.code ({ cls := "java/lang/AbstractStringBuilder", name := "append", desc := "(Ljava/lang/String;)Ljava/lang/AbstractStringBuilder;" } : Jvm.MethodName) jdk_68_method_22_code (3 : Nat) (Option.some (Jvm.ClassFile.FieldType.object "java/lang/AbstractStringBuilder"))).before args0 about1 = true := code_word (m := ⟨11, 5⟩) (meth := k11m5) (c := k11c5) (by decide +kernel) rfl rfl rfl (by decide +kernel)
set_option maxRecDepth 65536 in
theorem w_c13 : (Jvm.Cond.code ({ cls := "java/lang/String", name := "length", desc := "()I" } : Jvm.MethodName) jdk_42_method_54_code (1 : Nat) (Option.some Jvm.ClassFile.FieldType.int)).before args0 about1 = true := code_word (m := ⟨7, 3⟩) (meth := k7m3) (c := k7c3) (by decide +kernel) rfl rfl rfl (by decide +kernel)
set_option maxRecDepth 65536 in
theorem w_c14 : (Jvm.Cond.code ({ cls := "java/lang/String", name := "coder", desc := "()B" } : Jvm.MethodName) jdk_42_method_152_code (1 : Nat) (Option.some Jvm.ClassFile.FieldType.byte)).before args0 about1 = true := code_word (m := ⟨7, 11⟩) (meth := k7m11) (c := k7c11) (by decide +kernel) rfl rfl rfl (by decide +kernel)
set_option maxRecDepth 65536 in
theorem w_c15 : (Jvm.Cond.code ({ cls := "java/lang/AbstractStringBuilder", name := "ensureCapacityInternal", desc := "(I)V" } : Jvm.MethodName) jdk_68_method_9_code (3 : Nat) (Option.none : Option Jvm.ClassFile.FieldType)).before args0 about1 = true := code_word (m := ⟨11, 3⟩) (meth := k11m3) (c := k11c3) (by decide +kernel) rfl rfl rfl (by decide +kernel)
set_option maxRecDepth 65536 in
theorem w_c16 : (Jvm.Cond.code ({ cls := "java/lang/AbstractStringBuilder", name := "putStringAt", desc := "(ILjava/lang/String;)V" } : Jvm.MethodName) jdk_68_method_73_code (3 : Nat) (Option.none : Option Jvm.ClassFile.FieldType)).before args0 about1 = true := code_word (m := ⟨11, 9⟩) (meth := k11m9) (c := k11c9) (by decide +kernel) rfl rfl rfl (by decide +kernel)
set_option maxRecDepth 65536 in
theorem w_c17 : (Jvm.Cond.code ({ cls := "java/lang/AbstractStringBuilder", name := "inflateIfNeededFor", desc := "(Ljava/lang/String;)V" } : Jvm.MethodName) jdk_68_method_71_code (2 : Nat) (Option.none : Option Jvm.ClassFile.FieldType)).before args0 about1 = true := code_word (m := ⟨11, 8⟩) (meth := k11m8) (c := k11c8) (by decide +kernel) rfl rfl rfl (by decide +kernel)
set_option maxRecDepth 65536 in
theorem w_c18 : (Jvm.Cond.code ({ cls := "java/lang/String", name := "getBytes", desc := "([BIB)V" } : Jvm.MethodName) jdk_42_method_147_code (4 : Nat) (Option.none : Option Jvm.ClassFile.FieldType)).before args0 about1 = true := code_word (m := ⟨7, 7⟩) (meth := k7m7) (c := k7c7) (by decide +kernel) rfl rfl rfl (by decide +kernel)
set_option maxRecDepth 65536 in
theorem w_c19 : (Jvm.Cond.code ({ cls := "com/example/compendio/compendio/cli/Arguments", name := "synopsis", desc := "(Ljava/lang/String;Ljava/lang/String;Ljava/lang/String;)Ljava/lang/String;" } : Jvm.MethodName) prog_3_method_4_code (4 : Nat) (Option.some (Jvm.ClassFile.FieldType.object "java/lang/String"))).before args0 about1 = true := code_word (m := ⟨9, 1⟩) (meth := k9m1) (c := k9c1) (by decide +kernel) rfl rfl rfl (by decide +kernel)
set_option maxRecDepth 65536 in
theorem w_c20 : (Jvm.Cond.code ({ cls := "java/lang/String", name := "isEmpty", desc := "()Z" } : Jvm.MethodName) jdk_42_method_55_code (1 : Nat) (Option.some Jvm.ClassFile.FieldType.boolean)).before args0 about1 = true := code_word (m := ⟨7, 4⟩) (meth := k7m4) (c := k7c4) (by decide +kernel) rfl rfl rfl (by decide +kernel)
set_option maxRecDepth 65536 in
theorem w_c21 : (Jvm.Cond.code ({ cls := "java/lang/AbstractStringBuilder", name := "newCapacity", desc := "(I)I" } : Jvm.MethodName) jdk_68_method_10_code (6 : Nat) (Option.some Jvm.ClassFile.FieldType.int)).before args0 about1 = true := code_word (m := ⟨11, 4⟩) (meth := k11m4) (c := k11c4) (by decide +kernel) rfl rfl rfl (by decide +kernel)
set_option maxRecDepth 65536 in
theorem w_c22 : (Jvm.Cond.code ({ cls := "jdk/internal/util/ArraysSupport", name := "newLength", desc := "(III)I" } : Jvm.MethodName) jdk_48_method_27_code (4 : Nat) (Option.some Jvm.ClassFile.FieldType.int)).before args0 about1 = true := code_word (m := ⟨14, 1⟩) (meth := k14m1) (c := k14c1) (by decide +kernel) rfl rfl rfl (by decide +kernel)
set_option maxRecDepth 65536 in
theorem w_c23 : (Jvm.Cond.code ({ cls := "java/lang/Math", name := "max", desc := "(II)I" } : Jvm.MethodName) jdk_29_method_65_code (2 : Nat) (Option.some Jvm.ClassFile.FieldType.int)).before args0 about1 = true := code_word (m := ⟨15, 1⟩) (meth := k15m1) (c := k15c1) (by decide +kernel) rfl rfl rfl (by decide +kernel)
set_option maxRecDepth 65536 in
theorem w_c24 : (Jvm.Cond.code ({ cls := "java/util/Arrays", name := "copyOf", desc := "([BI)[B" } : Jvm.MethodName) jdk_65_method_121_code (3 : Nat) (Option.some (Jvm.ClassFile.FieldType.array Jvm.ClassFile.FieldType.byte))).before args0 about1 = true := code_word (m := ⟨16, 1⟩) (meth := k16m1) (c := k16c1) (by decide +kernel) rfl rfl rfl (by decide +kernel)
set_option maxRecDepth 65536 in
theorem w_c25 : (Jvm.Cond.code ({ cls := "java/lang/Math", name := "min", desc := "(II)I" } : Jvm.MethodName) jdk_29_method_69_code (2 : Nat) (Option.some Jvm.ClassFile.FieldType.int)).before args0 about1 = true := code_word (m := ⟨15, 2⟩) (meth := k15m2) (c := k15c2) (by decide +kernel) rfl rfl rfl (by decide +kernel)
set_option maxRecDepth 65536 in
theorem w_c26 : (Jvm.Cond.code ({ cls := "java/lang/StringBuilder", name := "toString", desc := "()Ljava/lang/String;" } : Jvm.MethodName) jdk_67_method_42_code (1 : Nat) (Option.some (Jvm.ClassFile.FieldType.object "java/lang/String"))).before args0 about1 = true := code_word (m := ⟨12, 2⟩) (meth := k12m2) (c := k12c2) (by decide +kernel) rfl rfl rfl (by decide +kernel)
set_option maxRecDepth 65536 in
theorem w_c27 : (Jvm.Cond.code ({ cls := "java/lang/String", name := "<init>", desc := "(Ljava/lang/StringBuilder;)V" } : Jvm.MethodName) jdk_42_method_53_code (2 : Nat) (Option.none : Option Jvm.ClassFile.FieldType)).before args0 about1 = true := code_word (m := ⟨7, 2⟩) (meth := k7m2) (c := k7c2) (by decide +kernel) rfl rfl rfl (by decide +kernel)
set_option maxRecDepth 65536 in
theorem w_c28 : (Jvm.Cond.code ({ cls := "java/lang/String", name := "<init>", desc := "(Ljava/lang/AbstractStringBuilder;Ljava/lang/Void;)V" } : Jvm.MethodName) jdk_42_method_150_code (5 : Nat) (Option.none : Option Jvm.ClassFile.FieldType)).before args0 about1 = true := code_word (m := ⟨7, 9⟩) (meth := k7m9) (c := k7c9) (by decide +kernel) rfl rfl rfl (by decide +kernel)
set_option maxRecDepth 65536 in
theorem w_c29 : (Jvm.Cond.code ({ cls := "java/lang/AbstractStringBuilder", name := "getValue", desc := "()[B" } : Jvm.MethodName) jdk_68_method_64_code (1 : Nat) (Option.some (Jvm.ClassFile.FieldType.array Jvm.ClassFile.FieldType.byte))).before args0 about1 = true := code_word (m := ⟨11, 6⟩) (meth := k11m6) (c := k11c6) (by decide +kernel) rfl rfl rfl (by decide +kernel)
set_option maxRecDepth 65536 in
theorem w_c30 : (Jvm.Cond.code ({ cls := "java/lang/StringBuilder", name := "length", desc := "()I" } : Jvm.MethodName) jdk_67_method_93_code (1 : Nat) (Option.some Jvm.ClassFile.FieldType.int)).before args0 about1 = true := code_word (m := ⟨12, 3⟩) (meth := k12m3) (c := k12c3) (by decide +kernel) rfl rfl rfl (by decide +kernel)
set_option maxRecDepth 65536 in
theorem w_c31 : (Jvm.Cond.code ({ cls := "java/lang/AbstractStringBuilder", name := "length", desc := "()I" } : Jvm.MethodName) jdk_68_method_6_code (1 : Nat) (Option.some Jvm.ClassFile.FieldType.int)).before args0 about1 = true := code_word (m := ⟨11, 2⟩) (meth := k11m2) (c := k11c2) (by decide +kernel) rfl rfl rfl (by decide +kernel)
set_option maxRecDepth 65536 in
theorem w_c32 : (Jvm.Cond.code ({ cls := "java/lang/AbstractStringBuilder", name := "isLatin1", desc := "()Z" } : Jvm.MethodName) jdk_68_method_68_code (1 : Nat) (Option.some Jvm.ClassFile.FieldType.boolean)).before args0 about1 = true := code_word (m := ⟨11, 7⟩) (meth := k11m7) (c := k11c7) (by decide +kernel) rfl rfl rfl (by decide +kernel)
set_option maxRecDepth 65536 in
theorem w_c33 : (Jvm.Cond.code ({ cls := "java/util/Arrays", name := "copyOfRange", desc := "([BII)[B" } : Jvm.MethodName) jdk_65_method_132_code (3 : Nat) (Option.some (Jvm.ClassFile.FieldType.array Jvm.ClassFile.FieldType.byte))).before args0 about1 = true := code_word (m := ⟨16, 3⟩) (meth := k16m3) (c := k16c3) (by decide +kernel) rfl rfl rfl (by decide +kernel)
set_option maxRecDepth 65536 in
theorem w_c34 : (Jvm.Cond.code ({ cls := "java/util/Arrays", name := "copyOfRangeByte", desc := "([BII)[B" } : Jvm.MethodName) jdk_65_method_133_code (5 : Nat) (Option.some (Jvm.ClassFile.FieldType.array Jvm.ClassFile.FieldType.byte))).before args0 about1 = true := code_word (m := ⟨16, 4⟩) (meth := k16m4) (c := k16c4) (by decide +kernel) rfl rfl rfl (by decide +kernel)
set_option maxRecDepth 65536 in
theorem w_c35 : (Jvm.Cond.code ({ cls := "java/util/Arrays", name := "checkLength", desc := "(II)V" } : Jvm.MethodName) jdk_65_method_131_code (2 : Nat) (Option.none : Option Jvm.ClassFile.FieldType)).before args0 about1 = true := code_word (m := ⟨16, 2⟩) (meth := k16m2) (c := k16c2) (by decide +kernel) rfl rfl rfl (by decide +kernel)
set_option maxRecDepth 65536 in
theorem w_c36 : (Jvm.Cond.code ({ cls := "com/example/compendio/compendio/cli/Arguments$Option", name := "name", desc := "()Ljava/lang/String;" } : Jvm.MethodName) prog_4_method_5_code (1 : Nat) (Option.some (Jvm.ClassFile.FieldType.object "java/lang/String"))).before args0 about1 = true := code_word (m := ⟨18, 0⟩) (meth := k18m0) (c := k18c0) (by decide +kernel) rfl rfl rfl (by decide +kernel)
set_option maxRecDepth 65536 in
theorem w_c37 : (Jvm.Cond.code ({ cls := "com/example/compendio/compendio/cli/ArgumentsUsageWithBookPinLaw", name := "lit", desc := "(Ljava/lang/String;ILjava/lang/String;)Z" } : Jvm.MethodName) method_6_code (5 : Nat) (Option.some Jvm.ClassFile.FieldType.boolean)).before args0 about1 = true := code_word (m := ⟨1, 5⟩) (meth := k1m5) (c := k1c5) (by decide +kernel) rfl rfl rfl (by decide +kernel)
set_option maxRecDepth 65536 in
theorem w_c38 : (Jvm.Cond.code ({ cls := "java/lang/String", name := "charAt", desc := "(I)C" } : Jvm.MethodName) jdk_42_method_56_code (2 : Nat) (Option.some Jvm.ClassFile.FieldType.char)).before args0 about1 = true := code_word (m := ⟨7, 5⟩) (meth := k7m5) (c := k7c5) (by decide +kernel) rfl rfl rfl (by decide +kernel)
set_option maxRecDepth 65536 in
theorem w_c39 : (Jvm.Cond.code ({ cls := "java/lang/String", name := "isLatin1", desc := "()Z" } : Jvm.MethodName) jdk_42_method_154_code (1 : Nat) (Option.some Jvm.ClassFile.FieldType.boolean)).before args0 about1 = true := code_word (m := ⟨7, 12⟩) (meth := k7m12) (c := k7c12) (by decide +kernel) rfl rfl rfl (by decide +kernel)
set_option maxRecDepth 65536 in
theorem w_c40 : (Jvm.Cond.code ({ cls := "java/lang/StringLatin1", name := "charAt", desc := "([BI)C" } : Jvm.MethodName) jdk_43_method_2_code (2 : Nat) (Option.some Jvm.ClassFile.FieldType.char)).before args0 about1 = true := code_word (m := ⟨19, 1⟩) (meth := k19m1) (c := k19c1) (by decide +kernel) rfl rfl rfl (by decide +kernel)
set_option maxRecDepth 65536 in
theorem w_c41 : (Jvm.Cond.code ({ cls := "java/lang/String", name := "checkIndex", desc := "(II)V" } : Jvm.MethodName) jdk_42_method_155_code (2 : Nat) (Option.none : Option Jvm.ClassFile.FieldType)).before args0 about1 = true := code_word (m := ⟨7, 13⟩) (meth := k7m13) (c := k7c13) (by decide +kernel) rfl rfl rfl (by decide +kernel)
set_option maxRecDepth 65536 in
theorem w_c42 : (Jvm.Cond.code ({ cls := "jdk/internal/util/Preconditions", name := "checkIndex", desc := "(IILjava/util/function/BiFunction;)I" } : Jvm.MethodName) jdk_41_method_11_code (3 : Nat) (Option.some Jvm.ClassFile.FieldType.int)).before args0 about1 = true := code_word (m := ⟨20, 1⟩) (meth := k20m1) (c := k20c1) (by decide +kernel) rfl rfl rfl (by decide +kernel)
set_option maxRecDepth 65536 in
theorem w_c43 : (Jvm.Cond.code ({ cls := "com/example/compendio/compendio/cli/ArgumentsUsageWithBookPinLaw", name := "word", desc := "(Ljava/lang/String;IICC)Z" } : Jvm.MethodName) method_4_code (5 : Nat) (Option.some Jvm.ClassFile.FieldType.boolean)).before args0 about1 = true := code_word (m := ⟨1, 3⟩) (meth := k1m3) (c := k1c3) (by decide +kernel) rfl rfl rfl (by decide +kernel)
set_option maxRecDepth 65536 in
theorem w_c44 : (Jvm.Cond.code ({ cls := "com/example/compendio/compendio/cli/ArgumentsUsageWithBookPinLaw", name := "own", desc := "(Ljava/lang/String;IICC)Z" } : Jvm.MethodName) method_5_code (5 : Nat) (Option.some Jvm.ClassFile.FieldType.boolean)).before args0 about1 = true := code_word (m := ⟨1, 4⟩) (meth := k1m4) (c := k1c4) (by decide +kernel) rfl rfl rfl (by decide +kernel)
set_option maxRecDepth 65536 in
theorem w_c45 : (Jvm.Cond.code ({ cls := "java/lang/String", name := "valueOf", desc := "(C)Ljava/lang/String;" } : Jvm.MethodName) jdk_42_method_139_code (1 : Nat) (Option.some (Jvm.ClassFile.FieldType.object "java/lang/String"))).before args0 about1 = true := code_word (m := ⟨7, 6⟩) (meth := k7m6) (c := k7c6) (by decide +kernel) rfl rfl rfl (by decide +kernel)
set_option maxRecDepth 65536 in
theorem w_c46 : (Jvm.Cond.code ({ cls := "java/lang/StringLatin1", name := "canEncode", desc := "(C)Z" } : Jvm.MethodName) jdk_43_method_3_code (1 : Nat) (Option.some Jvm.ClassFile.FieldType.boolean)).before args0 about1 = true := code_word (m := ⟨19, 2⟩) (meth := k19m2) (c := k19c2) (by decide +kernel) rfl rfl rfl (by decide +kernel)
set_option maxRecDepth 65536 in
theorem w_c47 : (Jvm.Cond.code ({ cls := "java/lang/StringLatin1", name := "toBytes", desc := "(C)[B" } : Jvm.MethodName) jdk_43_method_46_code (1 : Nat) (Option.some (Jvm.ClassFile.FieldType.array Jvm.ClassFile.FieldType.byte))).before args0 about1 = true := code_word (m := ⟨19, 3⟩) (meth := k19m3) (c := k19c3) (by decide +kernel) rfl rfl rfl (by decide +kernel)
set_option maxRecDepth 65536 in
theorem w_c48 : (Jvm.Cond.code ({ cls := "java/lang/String", name := "<init>", desc := "([BB)V" } : Jvm.MethodName) jdk_42_method_151_code (3 : Nat) (Option.none : Option Jvm.ClassFile.FieldType)).before args0 about1 = true := code_word (m := ⟨7, 10⟩) (meth := k7m10) (c := k7c10) (by decide +kernel) rfl rfl rfl (by decide +kernel)
def codes1 : List Jvm.Cond := [Jvm.Cond.code x code maxLocals ret, Jvm.Cond.code ({ cls := "com/example/compendio/compendio/cli/ArgumentsUsageWithBookPinLaw", name := "make", desc := "(ICC)Ljava/lang/String;" } : Jvm.MethodName) method_3_code (3 : Nat) (Option.some (Jvm.ClassFile.FieldType.object "java/lang/String")), Jvm.Cond.code ({ cls := "java/lang/String", name := "<init>", desc := "([C)V" } : Jvm.MethodName) jdk_42_method_3_code (2 : Nat) (Option.none : Option Jvm.ClassFile.FieldType), Jvm.Cond.code ({ cls := "java/lang/String", name := "<init>", desc := "([CIILjava/lang/Void;)V" } : Jvm.MethodName) jdk_42_method_149_code (6 : Nat) (Option.none : Option Jvm.ClassFile.FieldType), Jvm.Cond.code ({ cls := "java/lang/Object", name := "<init>", desc := "()V" } : Jvm.MethodName) object_method_1_code (1 : Nat) (Option.none : Option Jvm.ClassFile.FieldType), Jvm.Cond.code ({ cls := "java/lang/StringUTF16", name := "compress", desc := "([CII)[B" } : Jvm.MethodName) jdk_52_method_16_code (6 : Nat) (Option.some (Jvm.ClassFile.FieldType.array Jvm.ClassFile.FieldType.byte)), Jvm.Cond.code ({ cls := "java/lang/StringUTF16", name := "compress", desc := "([CI[BII)I" } : Jvm.MethodName) jdk_52_method_21_code (7 : Nat) (Option.some Jvm.ClassFile.FieldType.int), Jvm.Cond.code ({ cls := "java/lang/StringUTF16", name := "coderFromArrayLen", desc := "([BI)B" } : Jvm.MethodName) jdk_52_method_15_code (2 : Nat) (Option.some Jvm.ClassFile.FieldType.byte), Jvm.Cond.code ({ cls := "com/example/compendio/compendio/cli/Arguments", name := "usageWithBook", desc := "(Ljava/lang/String;Ljava/lang/String;)Ljava/lang/String;" } : Jvm.MethodName) prog_3_method_3_code (2 : Nat) (Option.some (Jvm.ClassFile.FieldType.object "java/lang/String")), Jvm.Cond.code ({ cls := "java/lang/StringBuilder", name := "<init>", desc := "()V" } : Jvm.MethodName) jdk_67_method_1_code (1 : Nat) (Option.none : Option Jvm.ClassFile.FieldType), Jvm.Cond.code ({ cls := "java/lang/AbstractStringBuilder", name := "<init>", desc := "(I)V" } : Jvm.MethodName) jdk_68_method_2_code (2 : Nat) (Option.none : Option Jvm.ClassFile.FieldType), Jvm.Cond.code ({ cls := "java/lang/StringBuilder", name := "append", desc := "(Ljava/lang/String;)Ljava/lang/StringBuilder;" } : Jvm.MethodName) jdk_67_method_7_code (2 : Nat) (Option.some (Jvm.ClassFile.FieldType.object "java/lang/StringBuilder")), Jvm.Cond.code ({ cls := "java/lang/AbstractStringBuilder", name := "append", desc := "(Ljava/lang/String;)Ljava/lang/AbstractStringBuilder;" } : Jvm.MethodName) jdk_68_method_22_code (3 : Nat) (Option.some (Jvm.ClassFile.FieldType.object "java/lang/AbstractStringBuilder")), Jvm.Cond.code ({ cls := "java/lang/String", name := "length", desc := "()I" } : Jvm.MethodName) jdk_42_method_54_code (1 : Nat) (Option.some Jvm.ClassFile.FieldType.int), Jvm.Cond.code ({ cls := "java/lang/String", name := "coder", desc := "()B" } : Jvm.MethodName) jdk_42_method_152_code (1 : Nat) (Option.some Jvm.ClassFile.FieldType.byte), Jvm.Cond.code ({ cls := "java/lang/AbstractStringBuilder", name := "ensureCapacityInternal", desc := "(I)V" } : Jvm.MethodName) jdk_68_method_9_code (3 : Nat) (Option.none : Option Jvm.ClassFile.FieldType), Jvm.Cond.code ({ cls := "java/lang/AbstractStringBuilder", name := "putStringAt", desc := "(ILjava/lang/String;)V" } : Jvm.MethodName) jdk_68_method_73_code (3 : Nat) (Option.none : Option Jvm.ClassFile.FieldType), Jvm.Cond.code ({ cls := "java/lang/AbstractStringBuilder", name := "inflateIfNeededFor", desc := "(Ljava/lang/String;)V" } : Jvm.MethodName) jdk_68_method_71_code (2 : Nat) (Option.none : Option Jvm.ClassFile.FieldType), Jvm.Cond.code ({ cls := "java/lang/String", name := "getBytes", desc := "([BIB)V" } : Jvm.MethodName) jdk_42_method_147_code (4 : Nat) (Option.none : Option Jvm.ClassFile.FieldType), Jvm.Cond.code ({ cls := "com/example/compendio/compendio/cli/Arguments", name := "synopsis", desc := "(Ljava/lang/String;Ljava/lang/String;Ljava/lang/String;)Ljava/lang/String;" } : Jvm.MethodName) prog_3_method_4_code (4 : Nat) (Option.some (Jvm.ClassFile.FieldType.object "java/lang/String")), Jvm.Cond.code ({ cls := "java/lang/String", name := "isEmpty", desc := "()Z" } : Jvm.MethodName) jdk_42_method_55_code (1 : Nat) (Option.some Jvm.ClassFile.FieldType.boolean), Jvm.Cond.code ({ cls := "java/lang/AbstractStringBuilder", name := "newCapacity", desc := "(I)I" } : Jvm.MethodName) jdk_68_method_10_code (6 : Nat) (Option.some Jvm.ClassFile.FieldType.int), Jvm.Cond.code ({ cls := "jdk/internal/util/ArraysSupport", name := "newLength", desc := "(III)I" } : Jvm.MethodName) jdk_48_method_27_code (4 : Nat) (Option.some Jvm.ClassFile.FieldType.int), Jvm.Cond.code ({ cls := "java/lang/Math", name := "max", desc := "(II)I" } : Jvm.MethodName) jdk_29_method_65_code (2 : Nat) (Option.some Jvm.ClassFile.FieldType.int), Jvm.Cond.code ({ cls := "java/util/Arrays", name := "copyOf", desc := "([BI)[B" } : Jvm.MethodName) jdk_65_method_121_code (3 : Nat) (Option.some (Jvm.ClassFile.FieldType.array Jvm.ClassFile.FieldType.byte)), Jvm.Cond.code ({ cls := "java/lang/Math", name := "min", desc := "(II)I" } : Jvm.MethodName) jdk_29_method_69_code (2 : Nat) (Option.some Jvm.ClassFile.FieldType.int), Jvm.Cond.code ({ cls := "java/lang/StringBuilder", name := "toString", desc := "()Ljava/lang/String;" } : Jvm.MethodName) jdk_67_method_42_code (1 : Nat) (Option.some (Jvm.ClassFile.FieldType.object "java/lang/String")), Jvm.Cond.code ({ cls := "java/lang/String", name := "<init>", desc := "(Ljava/lang/StringBuilder;)V" } : Jvm.MethodName) jdk_42_method_53_code (2 : Nat) (Option.none : Option Jvm.ClassFile.FieldType), Jvm.Cond.code ({ cls := "java/lang/String", name := "<init>", desc := "(Ljava/lang/AbstractStringBuilder;Ljava/lang/Void;)V" } : Jvm.MethodName) jdk_42_method_150_code (5 : Nat) (Option.none : Option Jvm.ClassFile.FieldType), Jvm.Cond.code ({ cls := "java/lang/AbstractStringBuilder", name := "getValue", desc := "()[B" } : Jvm.MethodName) jdk_68_method_64_code (1 : Nat) (Option.some (Jvm.ClassFile.FieldType.array Jvm.ClassFile.FieldType.byte)), Jvm.Cond.code ({ cls := "java/lang/StringBuilder", name := "length", desc := "()I" } : Jvm.MethodName) jdk_67_method_93_code (1 : Nat) (Option.some Jvm.ClassFile.FieldType.int), Jvm.Cond.code ({ cls := "java/lang/AbstractStringBuilder", name := "length", desc := "()I" } : Jvm.MethodName) jdk_68_method_6_code (1 : Nat) (Option.some Jvm.ClassFile.FieldType.int), Jvm.Cond.code ({ cls := "java/lang/AbstractStringBuilder", name := "isLatin1", desc := "()Z" } : Jvm.MethodName) jdk_68_method_68_code (1 : Nat) (Option.some Jvm.ClassFile.FieldType.boolean), Jvm.Cond.code ({ cls := "java/util/Arrays", name := "copyOfRange", desc := "([BII)[B" } : Jvm.MethodName) jdk_65_method_132_code (3 : Nat) (Option.some (Jvm.ClassFile.FieldType.array Jvm.ClassFile.FieldType.byte)), Jvm.Cond.code ({ cls := "java/util/Arrays", name := "copyOfRangeByte", desc := "([BII)[B" } : Jvm.MethodName) jdk_65_method_133_code (5 : Nat) (Option.some (Jvm.ClassFile.FieldType.array Jvm.ClassFile.FieldType.byte)), Jvm.Cond.code ({ cls := "java/util/Arrays", name := "checkLength", desc := "(II)V" } : Jvm.MethodName) jdk_65_method_131_code (2 : Nat) (Option.none : Option Jvm.ClassFile.FieldType), Jvm.Cond.code ({ cls := "com/example/compendio/compendio/cli/Arguments$Option", name := "name", desc := "()Ljava/lang/String;" } : Jvm.MethodName) prog_4_method_5_code (1 : Nat) (Option.some (Jvm.ClassFile.FieldType.object "java/lang/String")), Jvm.Cond.code ({ cls := "com/example/compendio/compendio/cli/ArgumentsUsageWithBookPinLaw", name := "lit", desc := "(Ljava/lang/String;ILjava/lang/String;)Z" } : Jvm.MethodName) method_6_code (5 : Nat) (Option.some Jvm.ClassFile.FieldType.boolean), Jvm.Cond.code ({ cls := "java/lang/String", name := "charAt", desc := "(I)C" } : Jvm.MethodName) jdk_42_method_56_code (2 : Nat) (Option.some Jvm.ClassFile.FieldType.char), Jvm.Cond.code ({ cls := "java/lang/String", name := "isLatin1", desc := "()Z" } : Jvm.MethodName) jdk_42_method_154_code (1 : Nat) (Option.some Jvm.ClassFile.FieldType.boolean), Jvm.Cond.code ({ cls := "java/lang/StringLatin1", name := "charAt", desc := "([BI)C" } : Jvm.MethodName) jdk_43_method_2_code (2 : Nat) (Option.some Jvm.ClassFile.FieldType.char), Jvm.Cond.code ({ cls := "java/lang/String", name := "checkIndex", desc := "(II)V" } : Jvm.MethodName) jdk_42_method_155_code (2 : Nat) (Option.none : Option Jvm.ClassFile.FieldType), Jvm.Cond.code ({ cls := "jdk/internal/util/Preconditions", name := "checkIndex", desc := "(IILjava/util/function/BiFunction;)I" } : Jvm.MethodName) jdk_41_method_11_code (3 : Nat) (Option.some Jvm.ClassFile.FieldType.int), Jvm.Cond.code ({ cls := "com/example/compendio/compendio/cli/ArgumentsUsageWithBookPinLaw", name := "word", desc := "(Ljava/lang/String;IICC)Z" } : Jvm.MethodName) method_4_code (5 : Nat) (Option.some Jvm.ClassFile.FieldType.boolean), Jvm.Cond.code ({ cls := "com/example/compendio/compendio/cli/ArgumentsUsageWithBookPinLaw", name := "own", desc := "(Ljava/lang/String;IICC)Z" } : Jvm.MethodName) method_5_code (5 : Nat) (Option.some Jvm.ClassFile.FieldType.boolean), Jvm.Cond.code ({ cls := "java/lang/String", name := "valueOf", desc := "(C)Ljava/lang/String;" } : Jvm.MethodName) jdk_42_method_139_code (1 : Nat) (Option.some (Jvm.ClassFile.FieldType.object "java/lang/String")), Jvm.Cond.code ({ cls := "java/lang/StringLatin1", name := "canEncode", desc := "(C)Z" } : Jvm.MethodName) jdk_43_method_3_code (1 : Nat) (Option.some Jvm.ClassFile.FieldType.boolean), Jvm.Cond.code ({ cls := "java/lang/StringLatin1", name := "toBytes", desc := "(C)[B" } : Jvm.MethodName) jdk_43_method_46_code (1 : Nat) (Option.some (Jvm.ClassFile.FieldType.array Jvm.ClassFile.FieldType.byte)), Jvm.Cond.code ({ cls := "java/lang/String", name := "<init>", desc := "([BB)V" } : Jvm.MethodName) jdk_42_method_151_code (3 : Nat) (Option.none : Option Jvm.ClassFile.FieldType)]
set_option maxRecDepth 65536 in
theorem codes_eq : words1.filter isCode = codes1 := rfl
theorem w_codes : ∀ c ∈ words1.filter isCode, c.before args0 about1 = true := by
  rw [codes_eq]
  intro c hc
  simp only [codes1, List.mem_cons, List.not_mem_nil, or_false] at hc
  rcases hc with rfl | rfl | rfl | rfl | rfl | rfl | rfl | rfl | rfl | rfl | rfl | rfl | rfl | rfl | rfl | rfl | rfl | rfl | rfl | rfl | rfl | rfl | rfl | rfl | rfl | rfl | rfl | rfl | rfl | rfl | rfl | rfl | rfl | rfl | rfl | rfl | rfl | rfl | rfl | rfl | rfl | rfl | rfl | rfl | rfl | rfl | rfl | rfl | rfl
  · exact w_c0
  · exact w_c1
  · exact w_c2
  · exact w_c3
  · exact w_c4
  · exact w_c5
  · exact w_c6
  · exact w_c7
  · exact w_c8
  · exact w_c9
  · exact w_c10
  · exact w_c11
  · exact w_c12
  · exact w_c13
  · exact w_c14
  · exact w_c15
  · exact w_c16
  · exact w_c17
  · exact w_c18
  · exact w_c19
  · exact w_c20
  · exact w_c21
  · exact w_c22
  · exact w_c23
  · exact w_c24
  · exact w_c25
  · exact w_c26
  · exact w_c27
  · exact w_c28
  · exact w_c29
  · exact w_c30
  · exact w_c31
  · exact w_c32
  · exact w_c33
  · exact w_c34
  · exact w_c35
  · exact w_c36
  · exact w_c37
  · exact w_c38
  · exact w_c39
  · exact w_c40
  · exact w_c41
  · exact w_c42
  · exact w_c43
  · exact w_c44
  · exact w_c45
  · exact w_c46
  · exact w_c47
  · exact w_c48
set_option maxRecDepth 65536 in
theorem w_t1 : (words1.take 24).all (fun c => isCode c || c.before args0 about1) = true := by decide +kernel
set_option maxRecDepth 65536 in
theorem w_t2 : ((words1.drop 24).take 24).all (fun c => isCode c || c.before args0 about1) = true := by decide +kernel
set_option maxRecDepth 65536 in
theorem w_t3 : (((words1.drop 24).drop 24).take 24).all (fun c => isCode c || c.before args0 about1) = true := by decide +kernel
set_option maxRecDepth 65536 in
theorem w_t4 : ((((words1.drop 24).drop 24).drop 24).take 24).all (fun c => isCode c || c.before args0 about1) = true := by decide +kernel
set_option maxRecDepth 65536 in
theorem w_t5 : (((((words1.drop 24).drop 24).drop 24).drop 24).take 24).all (fun c => isCode c || c.before args0 about1) = true := by decide +kernel
set_option maxRecDepth 65536 in
theorem w_t6 : ((((((words1.drop 24).drop 24).drop 24).drop 24).drop 24).take 24).all (fun c => isCode c || c.before args0 about1) = true := by decide +kernel
set_option maxRecDepth 65536 in
theorem w_t7 : (((((((words1.drop 24).drop 24).drop 24).drop 24).drop 24).drop 24).take 24).all (fun c => isCode c || c.before args0 about1) = true := by decide +kernel
set_option maxRecDepth 65536 in
theorem w_t8 : ((((((((words1.drop 24).drop 24).drop 24).drop 24).drop 24).drop 24).drop 24).take 24).all (fun c => isCode c || c.before args0 about1) = true := by decide +kernel
set_option maxRecDepth 65536 in
theorem w_t9 : (((((((((words1.drop 24).drop 24).drop 24).drop 24).drop 24).drop 24).drop 24).drop 24).take 24).all (fun c => isCode c || c.before args0 about1) = true := by decide +kernel
set_option maxRecDepth 65536 in
theorem w_t10 : ((((((((((words1.drop 24).drop 24).drop 24).drop 24).drop 24).drop 24).drop 24).drop 24).drop 24).take 24).all (fun c => isCode c || c.before args0 about1) = true := by decide +kernel
set_option maxRecDepth 65536 in
theorem w_t11 : ((((((((((words1.drop 24).drop 24).drop 24).drop 24).drop 24).drop 24).drop 24).drop 24).drop 24).drop 24).all (fun c => isCode c || c.before args0 about1) = true := by decide +kernel
theorem w_tables : (allAtoms (Jvm.Cond.code x code maxLocals ret :: tables_1)).before args0 about1 = true := by
  rw [allAtoms_all]
  show words1.all (fun c => c.before args0 about1) = true
  refine all_split ?_ w_codes
  rw [← List.take_append_drop 24 words1, List.all_append, w_t1, ← List.take_append_drop 24 (words1.drop 24), List.all_append, w_t2, ← List.take_append_drop 24 ((words1.drop 24).drop 24), List.all_append, w_t3, ← List.take_append_drop 24 (((words1.drop 24).drop 24).drop 24), List.all_append, w_t4, ← List.take_append_drop 24 ((((words1.drop 24).drop 24).drop 24).drop 24), List.all_append, w_t5, ← List.take_append_drop 24 (((((words1.drop 24).drop 24).drop 24).drop 24).drop 24), List.all_append, w_t6, ← List.take_append_drop 24 ((((((words1.drop 24).drop 24).drop 24).drop 24).drop 24).drop 24), List.all_append, w_t7, ← List.take_append_drop 24 (((((((words1.drop 24).drop 24).drop 24).drop 24).drop 24).drop 24).drop 24), List.all_append, w_t8, ← List.take_append_drop 24 ((((((((words1.drop 24).drop 24).drop 24).drop 24).drop 24).drop 24).drop 24).drop 24), List.all_append, w_t9, ← List.take_append_drop 24 (((((((((words1.drop 24).drop 24).drop 24).drop 24).drop 24).drop 24).drop 24).drop 24).drop 24), List.all_append, w_t10, w_t11]
  rfl
set_option maxRecDepth 65536 in
theorem w_rest : rest_1_c.before args0 about1 = true := by decide +kernel
set_option maxRecDepth 65536 in
theorem w_case : (Jvm.Cond.and given_1 narrow_1).before args0 about1 = true := by decide +kernel
set_option maxRecDepth 65536 in
theorem w_consts : constsHeld consts_1 about1 := Jvm.Lit.constsHeldB_iff.mp (by decide +kernel)
theorem w_applies : (headSpec (Jvm.Cond.code x code maxLocals ret :: tables_1) room_1).applies x e0.platform about1 = true :=
  (Spec.applies_iff w_frames).mpr ⟨w_running, w_runnable, w_alone, w_named, w_hears, w_ripe, w_room, w_tables⟩
theorem atStart : AtStart classFile x code maxLocals ret World_1 tables_1 room_1 Calls_1 rest_1 Pre_1 launch0 p0 e0 about1 theMethod args0 below0 :=
  ⟨lists_1, trivial, launch0.admits_env _ _ _, launch0.least_env, fairChoices_fair.cas, fairChoices_fair.clock, w_frames, w_args, w_heap, w_applies, ⟨w_consts, trivial⟩, w_rest, w_case⟩
end start1
theorem witness_1 : WitnessClaimed_1 := ⟨start1.p0, start1.e0, start1.about1, start1.theMethod, start1.args0, start1.below0, start1.atStart⟩
end Jvm.Pilot.@@N@@
