import JvmDerived
import JvmDerived.Pilot.@@N@@Statement
import JvmDerived.Pilot.@@N@@Code
set_option linter.unusedVariables false
set_option linter.unusedSimpArgs false
namespace Jvm.Own
open Sem ClassFile Op Lib Jvm.Stand Jvm.Free Jvm.LawKit Jvm.RoadKit
section Core
variable {p : Program} {l : Launch} {e : Env} {R : Room} {s : State} {m : MethodId} {args : Array Value} {below : List Frame} {meth : Method} {c : Code} {Z : State} {a0 : Array Value} {h h' : Heap} {k n k' n' : Nat} {Q : Option Value → Heap → Prop} {g g' : JFrame} {code : ByteArray} {ml : Nat} {own nm : String} {rty : Option FieldType} {pc pc' : Nat} {Ls : Array Slot} {St : List Value}
/-- what stays the same along the walk of one body -/
def Cx (p : Program) (s : State) (m : MethodId) (meth : Method) (c : Code) (code : ByteArray) (ml : Nat) (rty : Option FieldType) (nm own : String) (Z : State) : Prop :=
  p.tables.exec = Jvm.exec ∧ c.code = code ∧ c.maxLocals = ml ∧ Z.Warmed39 s.vm ∧ s.vm.findClass own = some m.cls ∧ meth.sig.returnType = rty ∧ meth.name = nm ∧ meth.locks = false
theorem Cx.hx (C : Cx p s m meth c code ml rty nm own Z) : p.tables.exec = Jvm.exec := C.1
theorem Cx.hby (C : Cx p s m meth c code ml rty nm own Z) : c.code = code := C.2.1
theorem Cx.hml (C : Cx p s m meth c code ml rty nm own Z) : c.maxLocals = ml := C.2.2.1
theorem Cx.hZ (C : Cx p s m meth c code ml rty nm own Z) : Z.Warmed39 s.vm := C.2.2.2.1
theorem Cx.hown (C : Cx p s m meth c code ml rty nm own Z) : s.vm.findClass own = some m.cls := C.2.2.2.2.1
theorem Cx.hret (C : Cx p s m meth c code ml rty nm own Z) : meth.sig.returnType = rty := C.2.2.2.2.2.1
theorem Cx.hnm (C : Cx p s m meth c code ml rty nm own Z) : meth.name = nm := C.2.2.2.2.2.2.1
theorem Cx.hlk (C : Cx p s m meth c code ml rty nm own Z) : meth.locks = false := C.2.2.2.2.2.2.2
theorem Cx.d (C : Cx p s m meth c code ml rty nm own Z) {r : Except DecodeError (Instr × Nat)} (hd : decode code pc = r) : decode c.code pc = r := C.hby ▸ hd
/-- from every state that stands so, with heap h and the frame g on top, the body comes to its end, and Q holds there; what stood at Z stands -/
def Go (p : Program) (l : Launch) (e : Env) (R : Room) (s : State) (m : MethodId) (args : Array Value) (below : List Frame) (meth : Method) (c : Code) (Z : State) (Q : Option Value → Heap → Prop) (h : Heap) (k n : Nat) (g : JFrame) : Prop :=
  ∀ T L, Ext Z.heap h → Fr Z.heap.size L → Stand p l e R s m args below meth c T L k n → T.heap = h → ∃ s₂ o, Steps p.tables e below (T.setTop g) s₂ ∧ s₂.status = .running ∧ Ended s₂ below o ∧ ∃ v L', o = .returned v ∧ (Q v s₂.heap ∧ Ext Z.heap s₂.heap ∧ Fr Z.heap.size L') ∧ FrameEnd s o s₂ L' R.cells R.slots
/-- what a method pays where it is called with these arguments at this heap -/
def Pays (l : Launch) (Z : State) (y : MethodName) (bytes : ByteArray) (ml : Nat) (rty : Option FieldType) (rm : Room) (as' : Array Value) (h0 : Heap) (Q : Option Value → Heap → Prop) : Prop :=
  Ext Z.heap h0 → ∀ ws, MetFree l y (head1 (Jvm.Cond.code y bytes ml rty :: ws) rm) (fun a U => a = as' ∧ Z.Warmed39 U.vm ∧ U.heap = h0) (fun _ _ _ _ _ => True) (fun _ U o U' => ∃ v L, o = .returned v ∧ (Q v U'.heap ∧ Ext Z.heap U'.heap ∧ Fr Z.heap.size L) ∧ FrameEnd U o U' L rm.cells rm.slots)
abbrev Vl (Q : Value → Heap → Prop) : Option Value → Heap → Prop := fun v h => ∃ w, v = some w ∧ Q w h
abbrev Nl (Q : Heap → Prop) : Option Value → Heap → Prop := fun v h => v = none ∧ Q h
theorem pays_of_go {y : MethodName} {bytes : ByteArray} {rm : Room} {as' : Array Value} {h0 : Heap} {F : MethodId → JFrame} (hpl : plainFor y = true) (hF : ∀ m, entryFrame m as' ml = F m)
    (body : ∀ p e s m below meth c, Cx p s m meth c bytes ml rty y.name y.cls Z → Go p l e rm s m as' below meth c Z Q h0 0 0 (F m)) : Pays l Z y bytes ml rty rm as' h0 Q := by
  intro hE ws
  refine MetFree.of_bodySF hpl hisR ?_
  intro p e s m args below meth c s₁ Bd hml0 hP hK
  obtain ⟨rfl, hZ, hh⟩ := hP
  have e0 : s₁.heap = h0 := by rw [← hh, Bd.state]; rfl
  have X0 : Stand p l e rm s m args below meth c s₁ [] 0 0 := Stand.of_body Bd
  have q := body p e s m below meth c ⟨Bd.exec, Bd.bytes, hml0, hZ, findClass_of_methodNamed Bd.named, Bd.returns, (name_of_methodNamed Bd.named Bd.method).1, Bd.notSynchronized⟩ s₁ [] hE (Fr.nil _) X0 e0
  rw [hF]
  exact q
theorem Pays.mono {y : MethodName} {bytes : ByteArray} {rm : Room} {as' : Array Value} {h0 : Heap} {Q' : Option Value → Heap → Prop} (P : Pays l Z y bytes ml rty rm as' h0 Q) (H : ∀ v h, Q v h → Q' v h) : Pays l Z y bytes ml rty rm as' h0 Q' := fun hE ws =>
  (P hE ws).mono (fun _ _ q => q) (fun _ _ _ _ _ q => q) (fun _ _ _ _ _ ⟨v, L, e, q, r⟩ => ⟨v, L, e, ⟨H _ _ q.1, q.2⟩, r⟩)
theorem Go.plain (H : ∀ T L, Stand p l e R s m args below meth c T L k n → ∀ t, Steps p.tables e below (T.setTop g') t → Steps p.tables e below (T.setTop g) t) (K : Go p l e R s m args below meth c Z Q h k n g') : Go p l e R s m args below meth c Z Q h k n g := fun T L hE hF X eT => by
  obtain ⟨s₂, o, st, r⟩ := K T L hE hF X eT
  exact ⟨s₂, o, H T L X _ st, r⟩
theorem Go.law0 (H : ∀ T L, Stand p l e R s m args below meth c T L k n → T.heap = h → ∃ T', Stand p l e R s m args below meth c T' L k n ∧ T'.heap = h ∧ ∀ t, Steps p.tables e below (T'.setTop g') t → Steps p.tables e below (T.setTop g) t) (K : Go p l e R s m args below meth c Z Q h k n g') : Go p l e R s m args below meth c Z Q h k n g := fun T L hE hF X eT => by
  obtain ⟨T', X', eT', st'⟩ := H T L X eT
  obtain ⟨s₂, o, st, r⟩ := K T' L hE hF X' eT'
  exact ⟨s₂, o, st' _ st, r⟩
theorem Go.old (K : Ext Z.heap h → Go p l e R s m args below meth c Z Q h k n g) : Go p l e R s m args below meth c Z Q h k n g := fun T L hE hF X eT => K hE T L hE hF X eT
theorem stand_more {T : State} {L : List Loc} (X : Stand p l e R s m args below meth c T L k n) (hk : k ≤ k') (hn : n ≤ n') : Stand p l e R s m args below meth c T L k' n' :=
  ⟨X.admits, X.cas, X.clock, X.frames, X.room, X.hears, X.method, X.code, X.here, X.tail, X.warmed, X.limits, X.bytes, X.same.mono hk hn⟩
/-- less may have been made than is booked -/
theorem Go.more (hk : k ≤ k') (hn : n ≤ n') (K : Go p l e R s m args below meth c Z Q h k' n' g) : Go p l e R s m args below meth c Z Q h k n g := fun T L hE hF X eT => K T L hE hF (stand_more X hk hn) eT
theorem ext_refl (h : Heap) : Ext h h := ⟨Nat.le_refl _, fun _ _ q => q⟩
theorem ext_trans {h1 h2 h3 : Heap} (E : Ext h1 h2) (E' : Ext h2 h3) : Ext h1 h3 := ⟨Nat.le_trans E.1 E'.1, fun a c q => E'.2 a c (E.2 a c q)⟩
theorem ext_wr {h1 h2 h3 : Heap} {a : Addr} {sl : Nat} {v : Value} (E : Ext h1 h2) (W : Wr h2 h3 a sl v) (q : h1.size ≤ a) : Ext h1 h3 :=
  have K := Keep.of_wr W
  ⟨Nat.le_trans E.1 K.1, fun x c r => K.2.1 x c (E.2 x c r) fun z => absurd (Array.getElem?_eq_some_iff.mp r).1 (Nat.not_lt.mpr (by cases List.mem_singleton.mp z; exact q))⟩
theorem ext_keep {h1 h2 h3 : Heap} {ws : List Addr} (E : Ext h1 h2) (K : Keep h2 h3 ws) (q : ∀ x ∈ ws, h1.size ≤ x) : Ext h1 h3 :=
  ⟨Nat.le_trans E.1 K.1, fun x c r => K.2.1 x c (E.2 x c r) fun z => absurd (Array.getElem?_eq_some_iff.mp r).1 (Nat.not_lt.mpr (q x z))⟩
theorem keep_ext {h1 h2 : Heap} (E : Ext h1 h2) (ws : List Addr) : Keep h1 h2 ws := (Keep.refl _ _).ext E
theorem ext_keep1 {h1 h2 h3 : Heap} {a : Addr} (E : Ext h1 h2) (K : Keep h2 h3 [a]) (q : h1.size ≤ a) : Ext h1 h3 := ext_keep E K (allS q all0)
theorem catV {v : Value} (h : v.isRef = true) : v.category = 1 := by rcases ref_cases h with rfl | ⟨_, rfl⟩ <;> rfl
theorem narR (ty : FieldType) (v : Value) (h : v.isRef = true) : narrow ty v = v := by rcases ref_cases h with rfl | ⟨_, rfl⟩ <;> cases ty <;> rfl
theorem fitR' {ty : FieldType} {v : Value} (ht : ty.isReference = true) (h : v.isRef = true) : fits ty v = true := by rcases ref_cases h with rfl | ⟨_, rfl⟩ <;> cases ty <;> first | rfl | (simp [FieldType.isReference] at ht)
theorem ins_keep {a : Addr} {cK : String} {b : Bool} {ws : List Addr} (F : Ins Z h a cK b) (K : Keep h h' ws) : Ins Z h' a cK b := by
  obtain ⟨cell, cT, h1, h2, h3⟩ := F
  obtain ⟨c', q, r1, r2, -⟩ := K.2.2 a cell h1
  exact ⟨c', cT, q, h2, by rw [r1, r2]; exact h3⟩
theorem faceOk {r fn d : String} (q : r ≠ "java/lang/invoke/MethodHandle" ∧ r ≠ "java/lang/invoke/VarHandle") : ((Jvm.Cond.interfaceMethod r r fn d).onTables && (Jvm.Cond.interfaceMethod r r fn d).keepsFace) = true := by
  show (true && (false || (r == r && r != "java/lang/invoke/MethodHandle" && r != "java/lang/invoke/VarHandle"))) = true
  simp [q.1, q.2]
/-! ### the single laws -/
theorem Go.ldcI (C : Cx p s m meth c code ml rty nm own Z) {idx : Nat} {v : Int32} (w : (Jvm.Cond.constant own idx v).before a0 Z = true) (hd : decode code pc = .ok (.ldc idx, 2)) (hp : pc + 2 = pc')
    (K : Go p l e R s m args below meth c Z Q h k n (mkF m pc' Ls (.int v :: St))) : Go p l e R s m args below meth c Z Q h k n (mkF m pc Ls St) := by
  subst hp
  exact Go.plain (fun T L X t q => X.ldcInt C.hx C.hown (mv C.hZ w) (g := mkF m pc Ls St) rfl (C.d hd) t q) K
theorem Go.irem (C : Cx p s m meth c code ml rty nm own Z) {x y : Int32} (hd : decode code pc = .ok (.irem, 1)) (hy : y ≠ 0) (hp : pc + 1 = pc')
    (K : Go p l e R s m args below meth c Z Q h k n (mkF m pc' Ls (.int (x % y) :: St))) : Go p l e R s m args below meth c Z Q h k n (mkF m pc Ls (.int y :: .int x :: St)) := by
  subst hp
  exact Go.plain (fun T L X t q => iremM (g := mkF m pc Ls (.int y :: .int x :: St)) X C.hx rfl (C.d hd) rfl hy q) K
theorem Go.getF (C : Cx p s m meth c code ml rty nm own Z) {R0 O fn d host : String} {idx : Nat} (w : (Jvm.Cond.fieldLink own idx R0 fn d).before a0 Z = true ∨ (Jvm.Cond.fieldLinkNest own idx R0 fn d host).before a0 Z = true) (via : Via Z R0 O fn d) {a : Addr} {v : Value} (F : Fld Z h a O fn d v)
    (hd : decode code pc = .ok (.getfield idx, 3)) (hp : pc + 3 = pc') (K : Go p l e R s m args below meth c Z Q h k n (mkF m pc' Ls (v :: St))) : Go p l e R s m args below meth c Z Q h k n (mkF m pc Ls (.ref a :: St)) := by
  subst hp
  exact Go.law0 (fun T L X eT => Jvm.RoadKit.getF X C.hx C.hZ C.hown w via eT F (g := mkF m pc Ls (.ref a :: St)) rfl rfl (C.d hd)) K
theorem Go.getS (C : Cx p s m meth c code ml rty nm own Z) {R0 O fn d host : String} {idx : Nat} (w : (Jvm.Cond.fieldLink own idx R0 fn d).before a0 Z = true ∨ (Jvm.Cond.fieldLinkNest own idx R0 fn d host).before a0 Z = true) (via : Via Z R0 O fn d) {v : Value} (F : Sta Z Z.heap O fn d v)
    (hd : decode code pc = .ok (.getstatic idx, 3)) (hp : pc + 3 = pc') (K : Go p l e R s m args below meth c Z Q h k n (mkF m pc' Ls (v :: St))) : Go p l e R s m args below meth c Z Q h k n (mkF m pc Ls St) := by
  subst hp
  exact Go.old fun hE => Go.law0 (fun T L X eT => Jvm.RoadKit.getS2 X C.hx C.hZ C.hown w via eT (F.ext hE) (g := mkF m pc Ls St) rfl (C.d hd)) K
theorem Go.new (C : Cx p s m meth c code ml rty nm own Z) {cl : String} {idx sl : Nat} (w : (Jvm.Cond.classLink own idx cl).before a0 Z = true) (wi : (Jvm.Cond.instantiable cl sl).before a0 Z = true) (wz : (Jvm.Cond.initialized cl).before a0 Z = true) (hd : decode code pc = .ok (.new idx, 3)) (hp : pc + 3 = pc')
    (hk : k + 1 = k') (hn : n + sl = n') (hc : k' ≤ R.cells) (hl : n' ≤ R.slots)
    (K : ∀ (a : Addr) (h' : Heap), a = h.size → Z.heap.size ≤ a → Ext h h' → Exa Z h' a cl → (∀ {O fn d : String} {ty : FieldType}, Laid Z a0 cl O fn d → parseFieldDescriptor d = some ty → Fld Z h' a O fn d (defaultValue ty)) → Go p l e R s m args below meth c Z Q h' k' n' (mkF m pc' Ls (.ref a :: St))) :
    Go p l e R s m args below meth c Z Q h k n (mkF m pc Ls St) := by
  subst hp hk hn
  intro T L hE hF X eT
  obtain ⟨T', h2, X', e', E', A', D', -, st'⟩ := newO X C.hx C.hZ C.hown w wi wz eT (g := mkF m pc Ls St) rfl (C.d hd) hc hl
  obtain ⟨s₂, o, st, r⟩ := K _ h2 rfl hE.1 E' A' D' T' L (ext_trans hE E') hF X' e'
  exact ⟨s₂, o, st' _ st, r⟩
theorem Go.putF (C : Cx p s m meth c code ml rty nm own Z) {R0 O fn d host cl : String} {idx kk : Nat} {ty : FieldType} (w : (Jvm.Cond.fieldLink own idx R0 fn d).before a0 Z = true ∨ (Jvm.Cond.fieldLinkNest own idx R0 fn d host).before a0 Z = true) (via : Via Z R0 O fn d) {a : Addr} {v old : Value} (F : Fld Z h a O fn d old) (E : Exa Z h a cl)
    (Ly : (Jvm.Cond.lays cl O fn d).before a0 Z = true ∨ ((Jvm.Cond.laysFinal cl O fn d).before a0 Z = true ∧ own = O ∧ nm = "<init>")) (wi : (Jvm.Cond.instantiable cl kk).before a0 Z = true) (hty : parseFieldDescriptor d = some ty) (hn1 : narrow ty v = v) (hf : fits ty v = true) (ha : Z.heap.size ≤ a)
    (hd : decode code pc = .ok (.putfield idx, 3)) (hp : pc + 3 = pc')
    (K : ∀ h', Wr h h' a (Jvm.RoadKit.slotOf Z O fn d) v → Go p l e R s m args below meth c Z Q h' k n (mkF m pc' Ls St)) : Go p l e R s m args below meth c Z Q h k n (mkF m pc Ls (v :: .ref a :: St)) := by
  subst hp
  intro T L hE hF X eT
  obtain ⟨T', h2, X', e', W', st'⟩ := Jvm.RoadKit.putF X C.hx C.hZ C.hown w via eT F E (Ly.imp id fun q => ⟨q.1, q.2.1, C.hnm.trans q.2.2⟩) wi hty hn1 hf (g := mkF m pc Ls (v :: .ref a :: St)) rfl rfl (C.d hd)
  obtain ⟨s₂, o, st, r⟩ := K h2 W' T' _ (ext_wr hE W' ha) (Fr.snoc X' hF ha) X' e'
  exact ⟨s₂, o, st' _ st, r⟩
/-- a putfield of a boolean, byte, char or short: what lies there is the narrowed value -/
theorem Go.putFN (C : Cx p s m meth c code ml rty nm own Z) {R0 O fn d cl : String} {idx kk : Nat} {ty : FieldType} (w : (Jvm.Cond.fieldLink own idx R0 fn d).before a0 Z = true) (via : Via Z R0 O fn d) {a : Addr} {v v' old : Value} (F : Fld Z h a O fn d old) (E : Exa Z h a cl)
    (Ly : (Jvm.Cond.lays cl O fn d).before a0 Z = true ∨ ((Jvm.Cond.laysFinal cl O fn d).before a0 Z = true ∧ own = O ∧ nm = "<init>")) (wi : (Jvm.Cond.instantiable cl kk).before a0 Z = true) (hty : parseFieldDescriptor d = some ty) (hn1 : narrow ty v = v') (hf : fits ty v' = true) (ha : Z.heap.size ≤ a)
    (hd : decode code pc = .ok (.putfield idx, 3)) (hp : pc + 3 = pc')
    (K : ∀ h', Wr h h' a (Jvm.RoadKit.slotOf Z O fn d) v' → Go p l e R s m args below meth c Z Q h' k n (mkF m pc' Ls St)) : Go p l e R s m args below meth c Z Q h k n (mkF m pc Ls (v :: .ref a :: St)) := by
  subst hp
  intro T L hE hF X eT
  obtain ⟨T', h2, X', e', W', st'⟩ := Jvm.RoadKit.putFN X C.hx C.hZ C.hown w via eT F E (Ly.imp id fun q => ⟨q.1, q.2.1, C.hnm.trans q.2.2⟩) wi hty hn1 hf (g := mkF m pc Ls (v :: .ref a :: St)) rfl rfl (C.d hd)
  obtain ⟨s₂, o, st, r⟩ := K h2 W' T' _ (ext_wr hE W' ha) (Fr.snoc X' hF ha) X' e'
  exact ⟨s₂, o, st' _ st, r⟩
theorem Go.initO (C : Cx p s m meth c code ml rty nm own Z) {idx : Nat} (w1 : (Jvm.Cond.methodLink own idx Lib.objectInit).before a0 Z = true) (w2 : (Jvm.Cond.instanceMethod Lib.objectInit).before a0 Z = true) (w3 : (Jvm.Cond.code Lib.objectInit ⟨#[0xb1]⟩ 1 none).before a0 Z = true) {a : Addr}
    (hd : decode code pc = .ok (.invokespecial idx, 3)) (hp : pc + 3 = pc') (hs : Ls.size = ml) (hf : 1 ≤ R.frames) {W : Nat} (hW : (St.map fun v => v.category).sum ≤ W) (hl : W + 12 ≤ R.locals)
    (K : Go p l e R s m args below meth c Z Q h k n (mkF m pc' Ls St)) : Go p l e R s m args below meth c Z Q h k n (mkF m pc Ls (.ref a :: St)) := by
  subst hp
  exact Go.law0 (fun T L X eT => Jvm.RoadKit.initO X C.hx C.hZ C.hown w1 w2 w3 eT (g := mkF m pc Ls (.ref a :: St)) rfl (hs.trans C.hml.symm) rfl (C.d hd) hf (W := W) (by show 2 * 0 + _ ≤ _; omega) hl) K
theorem Go.newP (C : Cx p s m meth c code ml rty nm own Z) {aty : ArrayType} (w : (Jvm.Cond.arrayClass (newarray.typeOf aty)).before a0 Z = true) {z : Int32} (hz : ¬ z < 0) {cap : Nat} (hcap : z.toNatClampNeg ≤ cap) (hb : cap * 8 ≤ 536870912) (hd : decode code pc = .ok (.newarray aty, 2)) (hp : pc + 2 = pc')
    (hk : k + 1 = k') (hn : n + cap = n') (hc : k' ≤ R.cells) (hl : n' ≤ R.slots)
    (K : ∀ (a : Addr) (h' : Heap) (kA : ClassId), a = h.size → Z.heap.size ≤ a → Ext h h' → Arv Z h' a kA (newarray.typeOf aty) z [] (defaultValue (newarray.typeOf aty)) → Go p l e R s m args below meth c Z Q h' k' n' (mkF m pc' Ls (.ref a :: St))) :
    Go p l e R s m args below meth c Z Q h k n (mkF m pc Ls (.int z :: St)) := by
  subst hp hk hn
  intro T L hE hF X eT
  obtain ⟨T', h2, kA, X', e', E', A', st'⟩ := Jvm.RoadKit.newP X C.hx C.hZ w eT (g := mkF m pc Ls (.int z :: St)) rfl (C.d hd) rfl hz hcap hb hc hl
  obtain ⟨s₂, o, st, r⟩ := K _ h2 kA rfl hE.1 E' (Arv.new A' hz) T' L (ext_trans hE E') hF X' e'
  exact ⟨s₂, o, st' _ st, r⟩
theorem Go.stC (C : Cx p s m meth c code ml rty nm own Z) {a : Addr} {kA : ClassId} {z j x : Int32} {vs : List Value} {dv : Value} (V : Arv Z h a kA .char z vs dv) (hj : ¬ j < 0 ∧ j < z) {i : Nat} (hi : j.toNatClampNeg = i) (hlen : i < vs.length) (ha : Z.heap.size ≤ a)
    (hd : decode code pc = .ok (.castore, 1)) (hp : pc + 1 = pc')
    (K : ∀ h', Wr h h' a j.toNatClampNeg (.int (nar .char x)) → Arv Z h' a kA .char z (vs.set i (.int (nar .char x))) dv → Go p l e R s m args below meth c Z Q h' k n (mkF m pc' Ls St)) :
    Go p l e R s m args below meth c Z Q h k n (mkF m pc Ls (.int x :: .int j :: .ref a :: St)) := by
  subst hp
  intro T L hE hF X eT
  obtain ⟨cl, Ar, q1, S, N, H, G⟩ := V
  obtain ⟨T', h2, X', e', W', st'⟩ := Jvm.RoadKit.stC X C.hx C.hZ eT Ar (j := j) (inb_of S hj) (g := mkF m pc Ls (.int x :: .int j :: .ref a :: St)) rfl rfl (C.d hd)
  obtain ⟨s₂, o, st, r⟩ := K h2 W' (Arv.set Ar q1 S N H G (fits_nar_char _) W' i hi hlen) T' _ (ext_wr hE W' ha) (Fr.snoc X' hF ha) X' e'
  exact ⟨s₂, o, st' _ st, r⟩
/-! ### ends -/
theorem Go.ret {ty : FieldType} (C : Cx p s m meth c code ml (some ty) nm own Z) {w : Value} {i : Instr} (hn : narrow ty w = w)
    (hi : (i = .ireturn ∧ (ty = .int ∨ ty = .boolean ∨ ty = .byte ∨ ty = .char ∨ ty = .short) ∧ ∃ z, w = .int z) ∨ (i = .lreturn ∧ ty = .long ∧ ∃ z, w = .long z) ∨ (i = .dreturn ∧ ty = .double ∧ ∃ z, w = .double z) ∨ (i = .freturn ∧ ty = .float ∧ ∃ z, w = .float z) ∨ (i = .areturn ∧ ty.isReference = true ∧ w.isRef = true))
    (hd : decode code pc = .ok (i, 1)) (hk : k ≤ R.cells) (hl : n ≤ R.slots) (hQ : Q (some w) h) : Go p l e R s m args below meth c Z Q h k n (mkF m pc Ls (w :: St)) := by
  intro T L hE hF X eT
  obtain ⟨fs, hr, hrun, hended, hW, hsame⟩ := X.leave (v := some w) (fun q => by rw [C.hret] at q; cases q) C.hlk
  refine ⟨_, _, retOut X C.hx C.hret hn hi (C.d hd) hr, hrun, hended, _, L, rfl, ⟨?_, ?_, hF⟩, ⟨_, rfl⟩, hW, hsame.mono hk hl⟩
  · show Q (some w) T.heap
    rw [eT]; exact hQ
  · show Ext Z.heap T.heap
    rw [eT]; exact hE
theorem Go.retI (C : Cx p s m meth c code ml (some .int) nm own Z) {z : Int32} (hd : decode code pc = .ok (.ireturn, 1)) (hk : k ≤ R.cells) (hl : n ≤ R.slots) (hQ : Q (some (.int z)) h) : Go p l e R s m args below meth c Z Q h k n (mkF m pc Ls (.int z :: St)) :=
  Go.ret C rfl (Or.inl ⟨rfl, Or.inl rfl, z, rfl⟩) hd hk hl hQ
theorem Go.retA {ty : FieldType} (C : Cx p s m meth c code ml (some ty) nm own Z) {w : Value} (ht : ty.isReference = true) (hw : w.isRef = true) (hn : narrow ty w = w) (hd : decode code pc = .ok (.areturn, 1)) (hk : k ≤ R.cells) (hl : n ≤ R.slots) (hQ : Q (some w) h) : Go p l e R s m args below meth c Z Q h k n (mkF m pc Ls (w :: St)) :=
  Go.ret C hn (Or.inr (Or.inr (Or.inr (Or.inr ⟨rfl, ht, hw⟩)))) hd hk hl hQ
/-- ireturn of a boolean, byte, char or short: what is handed back is narrowed -/
theorem Go.retN {ty : FieldType} (C : Cx p s m meth c code ml (some ty) nm own Z) {z : Int32} (ht : ty = .boolean ∨ ty = .byte ∨ ty = .char ∨ ty = .short) (hd : decode code pc = .ok (.ireturn, 1)) (hk : k ≤ R.cells) (hl : n ≤ R.slots) (hQ : Q (some (.int (nar ty z))) h) : Go p l e R s m args below meth c Z Q h k n (mkF m pc Ls (.int z :: St)) := by
  intro T L hE hF X eT
  obtain ⟨fs, hr, hrun, hended, hW, hsame⟩ := X.leave (v := some (.int (nar ty z))) (fun q => by rw [C.hret] at q; cases q) C.hlk
  refine ⟨_, _, Jvm.RoadKit.retN X C.hx C.hret ht (C.d hd) hr, hrun, hended, _, L, rfl, ⟨?_, ?_, hF⟩, ⟨_, rfl⟩, hW, hsame.mono hk hl⟩
  · show Q (some (.int (nar ty z))) T.heap
    rw [eT]; exact hQ
  · show Ext Z.heap T.heap
    rw [eT]; exact hE
theorem Go.retV (C : Cx p s m meth c code ml none nm own Z) (hd : decode code pc = .ok (.return_, 1)) (hk : k ≤ R.cells) (hl : n ≤ R.slots) (hQ : Q none h) : Go p l e R s m args below meth c Z Q h k n (mkF m pc Ls []) := by
  intro T L hE hF X eT
  obtain ⟨fs, hr, hrun, hended, hW, hsame⟩ := X.leave (v := none) (fun _ => rfl) C.hlk
  refine ⟨_, _, X.returnOut C.hx C.hret (C.d hd) hr, hrun, hended, _, L, rfl, ⟨?_, ?_, hF⟩, ⟨_, rfl⟩, hW, hsame.mono hk hl⟩
  · show Q none T.heap
    rw [eT]; exact hQ
  · show Ext Z.heap T.heap
    rw [eT]; exact hE
/-! ### calls by a contract -/
variable {y : MethodName} {bytes : ByteArray} {ml' : Nat} {ret' : Option FieldType} {rm : Room} {as' : Array Value} {Q' : Option Value → Heap → Prop} {idx W dc ds : Nat} {argsL rest : List Value} {ps : List FieldType} {rt : Option FieldType} {Qr : Option Value → Heap → List Loc → Prop}
/-- what pays a call in this family: the arguments as', the heap h, dc cells and ds slots at the most -/
abbrev Pay (l : Launch) (R : Room) (p : Program) (e : Env) (below : List Frame) (s : State) (args : Array Value) (y : MethodName) (len W : Nat) (as' : Array Value) (h : Heap) (dc ds : Nat) (Qr : Option Value → Heap → List Loc → Prop) : Prop :=
  Back l R p e below s args y len W (fun A a => a = as' ∧ A.U.heap = h ∧ A.cells + dc ≤ R.cells ∧ A.slots + ds ≤ R.slots) (fun A _ v B => ∃ L, Qr v B.U.heap L ∧ B.locs = A.locs ++ L ∧ B.cells = A.cells + dc ∧ B.slots = A.slots + ds)
theorem Pays.pay {len : Nat} (P : Pays l Z y bytes ml' ret' rm as' h Q') (hE : Ext Z.heap h) (hZ : Z.Warmed39 s.vm) (wc : (Jvm.Cond.code y bytes ml' ret').before a0 Z = true) (wz : (Jvm.Cond.initialized y.cls).before a0 Z = true) (hf : rm.frames + 1 ≤ R.frames) (hl : W + (ml' + 11) + rm.locals ≤ R.locals) :
    Pay l R p e below s args y len W as' h rm.cells rm.slots (fun v h' L => Q' v h' ∧ Ext Z.heap h' ∧ Fr Z.heap.size L) := backOf (W := W) (Q := fun v h' L => Q' v h' ∧ Ext Z.heap h' ∧ Fr Z.heap.size L) (P hE []) hZ wc wz hf hl
theorem Go.staticB (C : Cx p s m meth c code ml rty nm own Z) (P : ∀ s', Z.Warmed39 s'.vm → Ext Z.heap h → Pay l R p e below s' args y 3 W as' h dc ds Qr) (hQ : ∀ v h' L, Ext Z.heap h → Qr v h' L → Q' v h' ∧ Ext Z.heap h' ∧ Fr Z.heap.size L) (wl : (Jvm.Cond.methodLink own idx y).before a0 Z = true) (ws : (Jvm.Cond.static y).before a0 Z = true) (wz : (Jvm.Cond.initialized y.cls).before a0 Z = true) (wc : (Jvm.Cond.code y bytes ml' ret').before a0 Z = true)
    (hy : y.cls ≠ "java/lang/invoke/MethodHandle" ∧ y.cls ≠ "java/lang/invoke/VarHandle") (hpd : parseMethodDescriptor y.desc = some ⟨ps, rt⟩) (hlen : argsL.length = ps.length) (has : argsL.toArray = as') (hd : decode code pc = .ok (.invokestatic idx, 3)) (hp : pc + 3 = pc') (hs : Ls.size = ml) (hst : St = argsL.reverse ++ rest)
    (hW : (rest.map fun v => v.category).sum ≤ W) (hk : k + dc = k') (hn : n + ds = n') (hc : k' ≤ R.cells) (hsl : n' ≤ R.slots)
    (K : ∀ v h', Q' v h' → Go p l e R s m args below meth c Z Q h' k' n' (mkF m pc' Ls (v.toList ++ rest))) : Go p l e R s m args below meth c Z Q h k n (mkF m pc Ls St) := by
  subst hp hk hn
  intro T L hE hF X eT
  obtain ⟨v, vm₁, ⟨T', L', k', n'⟩, -, X', ⟨Lc, hq, hL, hk, hn⟩, st'⟩ := Jvm.LawKit.callS X C.hx (y := y) C.hown (mvT C.hZ wl) (mvT C.hZ ws) (mvT C.hZ wz) (mvT C.hZ wc) hy (P s C.hZ hE) (g := mkF m pc Ls St) rfl (hs.trans C.hml.symm) (argsL := argsL) (rest := rest) (lenOf hpd hlen) hst (by show 2 * 0 + _ ≤ _; omega) (C.d hd) (fun _ _ => ⟨has, eT, hc, hsl⟩)
  dsimp only [Pt.U, Pt.locs, Pt.cells, Pt.slots] at X' hL hk hn st' hq
  subst hL hk hn
  obtain ⟨hq, hE', hF'⟩ := hQ _ _ _ hE hq
  obtain ⟨s₂, o, st, r⟩ := K v _ hq T' _ hE' (Fr.app hF hF') X' rfl
  exact ⟨s₂, o, st' _ st, r⟩
/-- a constructor -/
theorem Go.specialB (C : Cx p s m meth c code ml rty nm own Z) {a : Addr} (P : ∀ s', Z.Warmed39 s'.vm → Ext Z.heap h → Pay l R p e below s' args y 3 W as' h dc ds Qr) (hQ : ∀ v h' L, Ext Z.heap h → Qr v h' L → Q' v h' ∧ Ext Z.heap h' ∧ Fr Z.heap.size L) (hy1 : y.name = "<init>") (wl : (Jvm.Cond.methodLink own idx y).before a0 Z = true) (wi : (Jvm.Cond.instanceMethod y).before a0 Z = true) (wc : (Jvm.Cond.code y bytes ml' none).before a0 Z = true)
    (hy : y.cls ≠ "java/lang/invoke/MethodHandle" ∧ y.cls ≠ "java/lang/invoke/VarHandle") (hpd : parseMethodDescriptor y.desc = some ⟨ps, rt⟩) (hlen : argsL.length = ps.length) (has : (.ref a :: argsL).toArray = as') (hd : decode code pc = .ok (.invokespecial idx, 3)) (hp : pc + 3 = pc') (hs : Ls.size = ml) (hst : St = argsL.reverse ++ .ref a :: rest)
    (hW : (rest.map fun v => v.category).sum ≤ W) (hk : k + dc = k') (hn : n + ds = n') (hc : k' ≤ R.cells) (hsl : n' ≤ R.slots)
    (K : ∀ v h', Q' v h' → Go p l e R s m args below meth c Z Q h' k' n' (mkF m pc' Ls (v.toList ++ rest))) : Go p l e R s m args below meth c Z Q h k n (mkF m pc Ls St) := by
  subst hp hk hn
  intro T L hE hF X eT
  obtain ⟨v, vm₁, ⟨T', L', k', n'⟩, -, X', ⟨Lc, hq, hL, hk, hn⟩, st'⟩ := X.specialBack C.hx (y := y) hy1 C.hown (mvT C.hZ wl) (mvT C.hZ wi) (mvT C.hZ wc) hy (P s C.hZ hE) (g := mkF m pc Ls St) rfl (hs.trans C.hml.symm) (Steps.refl _) (a := a) (argsL := argsL) (rest := rest) (lenOf hpd hlen) hst (by show 2 * 0 + _ ≤ _; omega) (C.d hd) (fun _ _ => ⟨has, eT, hc, hsl⟩)
  dsimp only [Pt.U, Pt.locs, Pt.cells, Pt.slots] at X' hL hk hn st' hq
  subst hL hk hn
  obtain ⟨hq, hE', hF'⟩ := hQ _ _ _ hE hq
  obtain ⟨s₂, o, st, r⟩ := K v _ hq T' _ hE' (Fr.app hF hF') X' rfl
  exact ⟨s₂, o, st'.trans st, r⟩
/-- an instance method, on an object of exactly the class cl -/
theorem Go.virtB (C : Cx p s m meth c code ml rty nm own Z) {a : Addr} {cl : String} (P : ∀ s', Z.Warmed39 s'.vm → Ext Z.heap h → Pay l R p e below s' args y 3 W as' h dc ds Qr) (hQ : ∀ v h' L, Ext Z.heap h → Qr v h' L → Q' v h' ∧ Ext Z.heap h' ∧ Fr Z.heap.size L) (E : Exa Z h a cl) (wl : (Jvm.Cond.methodLink own idx y).before a0 Z = true) (wd : (Jvm.Cond.declares y).before a0 Z = true) (wse : (Jvm.Cond.selects cl y y).before a0 Z = true) (wi : (Jvm.Cond.instanceMethod y).before a0 Z = true)
    (hy : y.cls ≠ "java/lang/invoke/MethodHandle" ∧ y.cls ≠ "java/lang/invoke/VarHandle") (hpd : parseMethodDescriptor y.desc = some ⟨ps, rt⟩) (hlen : argsL.length = ps.length) (has : (.ref a :: argsL).toArray = as') (hd : decode code pc = .ok (.invokevirtual idx, 3)) (hp : pc + 3 = pc') (hs : Ls.size = ml) (hst : St = argsL.reverse ++ .ref a :: rest)
    (hW : (rest.map fun v => v.category).sum ≤ W) (hk : k + dc = k') (hn : n + ds = n') (hc : k' ≤ R.cells) (hsl : n' ≤ R.slots)
    (K : ∀ v h', Q' v h' → Go p l e R s m args below meth c Z Q h' k' n' (mkF m pc' Ls (v.toList ++ rest))) : Go p l e R s m args below meth c Z Q h k n (mkF m pc Ls St) := by
  subst hp hk hn
  intro T L hE hF X eT
  obtain ⟨cq, kq, qa, qb, qc⟩ := isOf (T := T) C.hZ eT E
  obtain ⟨v, vm₁, ⟨T', L', k', n'⟩, -, X', ⟨Lc, hq, hL, hk, hn⟩, st'⟩ := X.virtualBack C.hx (y := y) (z := y) C.hown (mvT C.hZ wl) (mvT C.hZ wd) (notFace_of_selects (args := #[]) (mvT C.hZ wse)) (mvT C.hZ wse) (mvT C.hZ wi) hy (P s C.hZ hE) qa qc (g := mkF m pc Ls St) rfl (hs.trans C.hml.symm) (Steps.refl _) (argsL := argsL) (rest := rest) (lenOf hpd hlen) hst (by show 2 * 0 + _ ≤ _; omega) (C.d hd) (fun _ _ => ⟨has, eT, hc, hsl⟩)
  dsimp only [Pt.U, Pt.locs, Pt.cells, Pt.slots] at X' hL hk hn st' hq
  subst hL hk hn
  obtain ⟨hq, hE', hF'⟩ := hQ _ _ _ hE hq
  obtain ⟨s₂, o, st, r⟩ := K v _ hq T' _ hE' (Fr.app hF hF') X' rfl
  exact ⟨s₂, o, st'.trans st, r⟩
theorem Go.static (C : Cx p s m meth c code ml rty nm own Z) (P : Pays l Z y bytes ml' ret' rm as' h Q') (wl : (Jvm.Cond.methodLink own idx y).before a0 Z = true) (ws : (Jvm.Cond.static y).before a0 Z = true) (wz : (Jvm.Cond.initialized y.cls).before a0 Z = true) (wc : (Jvm.Cond.code y bytes ml' ret').before a0 Z = true)
    (hy : y.cls ≠ "java/lang/invoke/MethodHandle" ∧ y.cls ≠ "java/lang/invoke/VarHandle") (hpd : parseMethodDescriptor y.desc = some ⟨ps, rt⟩) (hlen : argsL.length = ps.length) (has : argsL.toArray = as') (hd : decode code pc = .ok (.invokestatic idx, 3)) (hp : pc + 3 = pc') (hs : Ls.size = ml) (hst : St = argsL.reverse ++ rest)
    (hW : (rest.map fun v => v.category).sum ≤ W) (hf : rm.frames + 1 ≤ R.frames) (hl : W + (ml' + 11) + rm.locals ≤ R.locals) (hk : k + rm.cells = k') (hn : n + rm.slots = n') (hc : k' ≤ R.cells) (hsl : n' ≤ R.slots)
    (K : ∀ v h', Q' v h' → Go p l e R s m args below meth c Z Q h' k' n' (mkF m pc' Ls (v.toList ++ rest))) : Go p l e R s m args below meth c Z Q h k n (mkF m pc Ls St) :=
  Go.staticB C (fun s' hZ hE => P.pay hE hZ wc wz hf hl) (fun _ _ _ _ q => q) wl ws wz wc hy hpd hlen has hd hp hs hst hW hk hn hc hsl K
theorem Go.special (C : Cx p s m meth c code ml rty nm own Z) {a : Addr} (P : Pays l Z y bytes ml' none rm as' h Q') (hy1 : y.name = "<init>") (wl : (Jvm.Cond.methodLink own idx y).before a0 Z = true) (wi : (Jvm.Cond.instanceMethod y).before a0 Z = true) (wz : (Jvm.Cond.initialized y.cls).before a0 Z = true) (wc : (Jvm.Cond.code y bytes ml' none).before a0 Z = true)
    (hy : y.cls ≠ "java/lang/invoke/MethodHandle" ∧ y.cls ≠ "java/lang/invoke/VarHandle") (hpd : parseMethodDescriptor y.desc = some ⟨ps, rt⟩) (hlen : argsL.length = ps.length) (has : (.ref a :: argsL).toArray = as') (hd : decode code pc = .ok (.invokespecial idx, 3)) (hp : pc + 3 = pc') (hs : Ls.size = ml) (hst : St = argsL.reverse ++ .ref a :: rest)
    (hW : (rest.map fun v => v.category).sum ≤ W) (hf : rm.frames + 1 ≤ R.frames) (hl : W + (ml' + 11) + rm.locals ≤ R.locals) (hk : k + rm.cells = k') (hn : n + rm.slots = n') (hc : k' ≤ R.cells) (hsl : n' ≤ R.slots)
    (K : ∀ v h', Q' v h' → Go p l e R s m args below meth c Z Q h' k' n' (mkF m pc' Ls (v.toList ++ rest))) : Go p l e R s m args below meth c Z Q h k n (mkF m pc Ls St) :=
  Go.specialB C (fun s' hZ hE => P.pay hE hZ wc wz hf hl) (fun _ _ _ _ q => q) hy1 wl wi wc hy hpd hlen has hd hp hs hst hW hk hn hc hsl K
theorem Go.virt (C : Cx p s m meth c code ml rty nm own Z) {a : Addr} {cl : String} (P : Pays l Z y bytes ml' ret' rm as' h Q') (E : Exa Z h a cl) (wl : (Jvm.Cond.methodLink own idx y).before a0 Z = true) (wd : (Jvm.Cond.declares y).before a0 Z = true) (wse : (Jvm.Cond.selects cl y y).before a0 Z = true) (wi : (Jvm.Cond.instanceMethod y).before a0 Z = true)
    (wz : (Jvm.Cond.initialized y.cls).before a0 Z = true) (wc : (Jvm.Cond.code y bytes ml' ret').before a0 Z = true)
    (hy : y.cls ≠ "java/lang/invoke/MethodHandle" ∧ y.cls ≠ "java/lang/invoke/VarHandle") (hpd : parseMethodDescriptor y.desc = some ⟨ps, rt⟩) (hlen : argsL.length = ps.length) (has : (.ref a :: argsL).toArray = as') (hd : decode code pc = .ok (.invokevirtual idx, 3)) (hp : pc + 3 = pc') (hs : Ls.size = ml) (hst : St = argsL.reverse ++ .ref a :: rest)
    (hW : (rest.map fun v => v.category).sum ≤ W) (hf : rm.frames + 1 ≤ R.frames) (hl : W + (ml' + 11) + rm.locals ≤ R.locals) (hk : k + rm.cells = k') (hn : n + rm.slots = n') (hc : k' ≤ R.cells) (hsl : n' ≤ R.slots)
    (K : ∀ v h', Q' v h' → Go p l e R s m args below meth c Z Q h' k' n' (mkF m pc' Ls (v.toList ++ rest))) : Go p l e R s m args below meth c Z Q h k n (mkF m pc Ls St) :=
  Go.virtB C (fun s' hZ hE => P.pay hE hZ wc wz hf hl) (fun _ _ _ _ q => q) E wl wd wse wi hy hpd hlen has hd hp hs hst hW hk hn hc hsl K
/-! ### more single laws -/
theorem Go.ldcJ (C : Cx p s m meth c code ml rty nm own Z) {ix : Nat} {v : Int64} (w : (Jvm.Cond.constantLong own ix v).before a0 Z = true) (hd : decode code pc = .ok (.ldc2_w ix, 3)) (hp : pc + 3 = pc')
    (K : Go p l e R s m args below meth c Z Q h k n (mkF m pc' Ls (.long v :: St))) : Go p l e R s m args below meth c Z Q h k n (mkF m pc Ls St) := by
  subst hp
  exact Go.plain (fun T L X t q => X.ldc2Long C.hx C.hown (mv C.hZ w) (g := mkF m pc Ls St) rfl (C.d hd) t q) K
theorem Go.cast (C : Cx p s m meth c code ml rty nm own Z) {ix : Nat} {cK : String} {a : Addr} (w : (Jvm.Cond.classLink own ix cK).before a0 Z = true) (F : Ins Z h a cK true) (hd : decode code pc = .ok (.checkcast ix, 3)) (hp : pc + 3 = pc')
    (K : Go p l e R s m args below meth c Z Q h k n (mkF m pc' Ls (.ref a :: St))) : Go p l e R s m args below meth c Z Q h k n (mkF m pc Ls (.ref a :: St)) := by
  subst hp
  exact Go.law0 (fun T L X eT => castY X C.hx C.hZ C.hown w eT F (g := mkF m pc Ls (.ref a :: St)) rfl rfl (C.d hd)) K
theorem Go.castN (C : Cx p s m meth c code ml rty nm own Z) {ix : Nat} (hd : decode code pc = .ok (.checkcast ix, 3)) (hp : pc + 3 = pc')
    (K : Go p l e R s m args below meth c Z Q h k n (mkF m pc' Ls (.null :: St))) : Go p l e R s m args below meth c Z Q h k n (mkF m pc Ls (.null :: St)) := by
  subst hp
  exact Go.plain (fun T L X t q => X.checkcastNull C.hx (g := mkF m pc Ls (.null :: St)) rfl rfl (C.d hd) t q) K
theorem Go.instY (C : Cx p s m meth c code ml rty nm own Z) {ix : Nat} {cK : String} {a : Addr} (w : (Jvm.Cond.classLink own ix cK).before a0 Z = true) (F : Ins Z h a cK true) (hd : decode code pc = .ok (.instanceof ix, 3)) (hp : pc + 3 = pc')
    (K : Go p l e R s m args below meth c Z Q h k n (mkF m pc' Ls (.int 1 :: St))) : Go p l e R s m args below meth c Z Q h k n (mkF m pc Ls (.ref a :: St)) := by
  subst hp
  exact Go.law0 (fun T L X eT => Jvm.RoadKit.instY X C.hx C.hZ C.hown w eT F (g := mkF m pc Ls (.ref a :: St)) rfl rfl (C.d hd)) K
theorem Go.len (C : Cx p s m meth c code ml rty nm own Z) {a : Addr} {kA : ClassId} {ty : FieldType} {z : Int32} {vs : List Value} {dv : Value} (V : Arv Z h a kA ty z vs dv) (hd : decode code pc = .ok (.arraylength, 1)) (hp : pc + 1 = pc')
    (K : Go p l e R s m args below meth c Z Q h k n (mkF m pc' Ls (.int z :: St))) : Go p l e R s m args below meth c Z Q h k n (mkF m pc Ls (.ref a :: St)) := by
  subst hp
  intro T L hE hF X eT
  obtain ⟨cl, Ar, q1, S, N, H, G⟩ := V
  obtain ⟨s₂, o, st, r⟩ := K T L hE hF X eT
  rw [← len_of S N] at st
  exact ⟨s₂, o, X.arraylength C.hx (by rw [eT]; exact Ar.1) (State.isArrayOf_alike C.hZ.alike Ar.2.1) (g := mkF m pc Ls (.ref a :: St)) rfl rfl (C.d hd) _ st, r⟩
theorem Go.caload (C : Cx p s m meth c code ml rty nm own Z) {a : Addr} {kA : ClassId} {z j : Int32} {vs : List Value} {dv w : Value} (V : Arv Z h a kA .char z vs dv) (hj : ¬ j < 0 ∧ j < z) (hv : vs.getD j.toNatClampNeg dv = w) (hd : decode code pc = .ok (.caload, 1)) (hp : pc + 1 = pc')
    (K : Go p l e R s m args below meth c Z Q h k n (mkF m pc' Ls (w :: St))) : Go p l e R s m args below meth c Z Q h k n (mkF m pc Ls (.int j :: .ref a :: St)) := by
  subst hp
  intro T L hE hF X eT
  obtain ⟨cl, Ar, q1, S, N, H, G⟩ := V
  obtain ⟨s₂, o, st, r⟩ := K T L hE hF X eT
  exact ⟨s₂, o, X.caload C.hx (j := j) (v := w) (by rw [eT]; exact Ar.1) (State.isArrayOf_alike C.hZ.alike Ar.2.1) Ar.2.2 (inb_of S hj) (H.at (inb_of S hj) hv) (g := mkF m pc Ls (.int j :: .ref a :: St)) rfl rfl (C.d hd) _ st, r⟩
theorem Go.baload (C : Cx p s m meth c code ml rty nm own Z) {a : Addr} {kA : ClassId} {z j : Int32} {vs : List Value} {dv w : Value} (V : Arv Z h a kA .byte z vs dv) (hj : ¬ j < 0 ∧ j < z) (hv : vs.getD j.toNatClampNeg dv = w) (hd : decode code pc = .ok (.baload, 1)) (hp : pc + 1 = pc')
    (K : Go p l e R s m args below meth c Z Q h k n (mkF m pc' Ls (w :: St))) : Go p l e R s m args below meth c Z Q h k n (mkF m pc Ls (.int j :: .ref a :: St)) := by
  subst hp
  intro T L hE hF X eT
  obtain ⟨cl, Ar, q1, S, N, H, G⟩ := V
  obtain ⟨s₂, o, st, r⟩ := K T L hE hF X eT
  exact ⟨s₂, o, X.baloadBytes C.hx (j := j) (v := w) (by rw [eT]; exact Ar.1) (State.isArrayOf_alike C.hZ.alike Ar.2.1) Ar.2.2 (inb_of S hj) (H.at (inb_of S hj) hv) (g := mkF m pc Ls (.int j :: .ref a :: St)) rfl rfl (C.d hd) _ st, r⟩
theorem Go.aaload (C : Cx p s m meth c code ml rty nm own Z) {a : Addr} {kA : ClassId} {ty : FieldType} {z j : Int32} {vs : List Value} {dv w : Value} (V : Arv Z h a kA ty z vs dv) (hty : ty.isReference = true) (hj : ¬ j < 0 ∧ j < z) (hv : vs.getD j.toNatClampNeg dv = w) (hd : decode code pc = .ok (.aaload, 1)) (hp : pc + 1 = pc')
    (K : Go p l e R s m args below meth c Z Q h k n (mkF m pc' Ls (w :: St))) : Go p l e R s m args below meth c Z Q h k n (mkF m pc Ls (.int j :: .ref a :: St)) := by
  subst hp
  intro T L hE hF X eT
  obtain ⟨cl, Ar, q1, S, N, H, G⟩ := V
  obtain ⟨s₂, o, st, r⟩ := K T L hE hF X eT
  exact ⟨s₂, o, X.aaload C.hx (j := j) (v := w) (by rw [eT]; exact Ar.1) (State.isArrayOf_alike C.hZ.alike Ar.2.1) hty Ar.2.2 (inb_of S hj) (H.at (inb_of S hj) hv) (g := mkF m pc Ls (.int j :: .ref a :: St)) rfl rfl (C.d hd) _ st, r⟩
theorem Go.stB (C : Cx p s m meth c code ml rty nm own Z) {a : Addr} {kA : ClassId} {z j x : Int32} {vs : List Value} {dv : Value} (V : Arv Z h a kA .byte z vs dv) (hj : ¬ j < 0 ∧ j < z) {i : Nat} (hi : j.toNatClampNeg = i) (hlen : i < vs.length) (ha : Z.heap.size ≤ a)
    (hd : decode code pc = .ok (.bastore, 1)) (hp : pc + 1 = pc')
    (K : ∀ h', Wr h h' a j.toNatClampNeg (.int (nar .byte x)) → Arv Z h' a kA .byte z (vs.set i (.int (nar .byte x))) dv → Go p l e R s m args below meth c Z Q h' k n (mkF m pc' Ls St)) :
    Go p l e R s m args below meth c Z Q h k n (mkF m pc Ls (.int x :: .int j :: .ref a :: St)) := by
  subst hp
  intro T L hE hF X eT
  obtain ⟨cl, Ar, q1, S, N, H, G⟩ := V
  obtain ⟨T', h2, X', e', W', st'⟩ := Jvm.RoadKit.stB X C.hx C.hZ eT Ar (j := j) (inb_of S hj) (g := mkF m pc Ls (.int x :: .int j :: .ref a :: St)) rfl rfl (C.d hd)
  obtain ⟨s₂, o, st, r⟩ := K h2 W' (Arv.set Ar q1 S N H G (fits_nar_byte _) W' i hi hlen) T' _ (ext_wr hE W' ha) (Fr.snoc X' hF ha) X' e'
  exact ⟨s₂, o, st' _ st, r⟩
theorem Go.stR (C : Cx p s m meth c code ml rty nm own Z) {a : Addr} {kA : ClassId} {ty : FieldType} {z j : Int32} {v : Value} {vs : List Value} {dv : Value} (V : Arv Z h a kA ty z vs dv) (hty : ty.isReference = true) (hv : v.isRef = true) (F : Sto Z h a v) (hj : ¬ j < 0 ∧ j < z) {i : Nat} (hi : j.toNatClampNeg = i) (hlen : i < vs.length) (ha : Z.heap.size ≤ a)
    (hd : decode code pc = .ok (.aastore, 1)) (hp : pc + 1 = pc')
    (K : ∀ h', Wr h h' a j.toNatClampNeg v → Arv Z h' a kA ty z (vs.set i v) dv → Go p l e R s m args below meth c Z Q h' k n (mkF m pc' Ls St)) :
    Go p l e R s m args below meth c Z Q h k n (mkF m pc Ls (v :: .int j :: .ref a :: St)) := by
  subst hp
  intro T L hE hF X eT
  obtain ⟨cl, Ar, q1, S, N, H, G⟩ := V
  obtain ⟨T', h2, X', e', W', st'⟩ := Jvm.RoadKit.stR X C.hx C.hZ eT Ar (j := j) (inb_of S hj) hty F (g := mkF m pc Ls (v :: .int j :: .ref a :: St)) rfl rfl (C.d hd)
  obtain ⟨s₂, o, st, r⟩ := K h2 W' (Arv.set Ar q1 S N H G (fitR' hty hv) W' i hi hlen) T' _ (ext_wr hE W' ha) (Fr.snoc X' hF ha) X' e'
  exact ⟨s₂, o, st' _ st, r⟩
theorem Go.newR (C : Cx p s m meth c code ml rty nm own Z) {cC : String} {ix : Nat} (w1 : (Jvm.Cond.classLink own ix cC).before a0 Z = true) (w2 : (Jvm.Cond.arrayOver (.object cC)).before a0 Z = true) {z : Int32} (hz : ¬ z < 0) {cap : Nat} (hcap : z.toNatClampNeg ≤ cap) (hb : cap * 8 ≤ 536870912) (hd : decode code pc = .ok (.anewarray ix, 3)) (hp : pc + 3 = pc')
    (hk : k + 1 = k') (hn : n + cap = n') (hc : k' ≤ R.cells) (hl : n' ≤ R.slots)
    (K : ∀ (a : Addr) (h' : Heap) (kA : ClassId), a = h.size → Z.heap.size ≤ a → Ext h h' → Ovr Z kA cC → Arv Z h' a kA (.object cC) z [] .null → Go p l e R s m args below meth c Z Q h' k' n' (mkF m pc' Ls (.ref a :: St))) :
    Go p l e R s m args below meth c Z Q h k n (mkF m pc Ls (.int z :: St)) := by
  subst hp hk hn
  intro T L hE hF X eT
  obtain ⟨T', h2, kA, X', e', E', A', O', st'⟩ := Jvm.RoadKit.newR X C.hx C.hZ C.hown w1 w2 eT (g := mkF m pc Ls (.int z :: St)) rfl (C.d hd) rfl hz hcap hb hc hl
  obtain ⟨s₂, o, st, r⟩ := K _ h2 kA rfl hE.1 E' O' (Arv.new A' hz) T' L (ext_trans hE E') hF X' e'
  exact ⟨s₂, o, st' _ st, r⟩
/-- invokevirtual of a private method -/
theorem Go.privB (C : Cx p s m meth c code ml rty nm own Z) {a : Addr} {cl : String} (P : ∀ s', Z.Warmed39 s'.vm → Ext Z.heap h → Pay l R p e below s' args y 3 W as' h dc ds Qr) (hQ : ∀ v h' L, Ext Z.heap h → Qr v h' L → Q' v h' ∧ Ext Z.heap h' ∧ Fr Z.heap.size L) (E : Exa Z h a cl) (wl : (Jvm.Cond.methodLink own idx y).before a0 Z = true) (wi : (Jvm.Cond.instanceMethod y).before a0 Z = true) (wse : (Jvm.Cond.selects y.cls y y).before a0 Z = true) (wp : (Jvm.Cond.privateMethod y).before a0 Z = true)
    (wc : (Jvm.Cond.code y bytes ml' ret').before a0 Z = true)
    (hy : y.cls ≠ "java/lang/invoke/MethodHandle" ∧ y.cls ≠ "java/lang/invoke/VarHandle") (hpd : parseMethodDescriptor y.desc = some ⟨ps, rt⟩) (hlen : argsL.length = ps.length) (has : (.ref a :: argsL).toArray = as') (hd : decode code pc = .ok (.invokevirtual idx, 3)) (hp : pc + 3 = pc') (hs : Ls.size = ml) (hst : St = argsL.reverse ++ .ref a :: rest)
    (hW : (rest.map fun v => v.category).sum ≤ W) (hk : k + dc = k') (hn : n + ds = n') (hc : k' ≤ R.cells) (hsl : n' ≤ R.slots)
    (K : ∀ v h', Q' v h' → Go p l e R s m args below meth c Z Q h' k' n' (mkF m pc' Ls (v.toList ++ rest))) : Go p l e R s m args below meth c Z Q h k n (mkF m pc Ls St) := by
  subst hp hk hn
  intro T L hE hF X eT
  obtain ⟨cq, q1, q2⟩ := E.cell
  obtain ⟨v, vm₁, ⟨T', L', k', n'⟩, -, X', ⟨Lc, hq, hL, hk, hn⟩, st'⟩ := X.privateBack C.hx (y := y) C.hown (mvT C.hZ wl) (mvT C.hZ wi) (mvT C.hZ wse) (Cond.privateMethod_at (mvP C.hZ wp (args := #[]))) (mvT C.hZ wc) hy (P s C.hZ hE) (g := mkF m pc Ls St) rfl (hs.trans C.hml.symm) (Steps.refl _) (a := a) (by rw [eT]; exact q1) q2 (argsL := argsL) (rest := rest) (lenOf hpd hlen) hst (by show 2 * 0 + _ ≤ _; omega) (C.d hd) (fun _ _ => ⟨has, eT, hc, hsl⟩)
  dsimp only [Pt.U, Pt.locs, Pt.cells, Pt.slots] at X' hL hk hn st' hq
  subst hL hk hn
  obtain ⟨hq, hE', hF'⟩ := hQ _ _ _ hE hq
  obtain ⟨s₂, o, st, r⟩ := K v _ hq T' _ hE' (Fr.app hF hF') X' rfl
  exact ⟨s₂, o, st'.trans st, r⟩
/-- invokeinterface, the interface's own method -/
theorem Go.ifaceB (C : Cx p s m meth c code ml rty nm own Z) {a : Addr} {cl : String} {xi : MethodName} {cnt : Nat} (P : ∀ s', Z.Warmed39 s'.vm → Ext Z.heap h → Pay l R p e below s' args y 5 W as' h dc ds Qr) (hQ : ∀ v h' L, Ext Z.heap h → Qr v h' L → Q' v h' ∧ Ext Z.heap h' ∧ Fr Z.heap.size L) (E : Exa Z h a cl) (wl : (Jvm.Cond.methodLink own idx xi).before a0 Z = true) (wd : (Jvm.Cond.declares xi).before a0 Z = true) (wf : (Jvm.Cond.interfaceMethod xi.cls xi.cls xi.name xi.desc).before a0 Z = true) (wse : (Jvm.Cond.selects cl xi y).before a0 Z = true)
    (wi : (Jvm.Cond.instanceMethod y).before a0 Z = true) (wpu : (Jvm.Cond.publicMethod y).before a0 Z = true) (wu : (Jvm.Cond.unhidden cl xi.name xi.desc).before a0 Z = true) (wca : (Jvm.Cond.castable cl xi.cls).before a0 Z = true)
    (hy : xi.cls ≠ "java/lang/invoke/MethodHandle" ∧ xi.cls ≠ "java/lang/invoke/VarHandle") (hpd : parseMethodDescriptor xi.desc = some ⟨ps, rt⟩) (hlen : argsL.length = ps.length) (has : (.ref a :: argsL).toArray = as') (hd : decode code pc = .ok (.invokeinterface idx cnt, 5)) (hp : pc + 5 = pc') (hs : Ls.size = ml) (hst : St = argsL.reverse ++ .ref a :: rest)
    (hW : (rest.map fun v => v.category).sum ≤ W) (hk : k + dc = k') (hn : n + ds = n') (hc : k' ≤ R.cells) (hsl : n' ≤ R.slots)
    (K : ∀ v h', Q' v h' → Go p l e R s m args below meth c Z Q h' k' n' (mkF m pc' Ls (v.toList ++ rest))) : Go p l e R s m args below meth c Z Q h k n (mkF m pc Ls St) := by
  subst hp hk hn
  intro T L hE hF X eT
  obtain ⟨cq, kq, qa, qb, qc⟩ := isOf (T := T) C.hZ eT E
  obtain ⟨v, vm₁, ⟨T', L', k', n'⟩, -, X', ⟨Lc, hq, hL, hk, hn⟩, st'⟩ := X.interfaceBack C.hx (xi := xi) (y := y) C.hown (mvT C.hZ wl) (mvT C.hZ wd) (mvT C.hZ wf (faceOk hy)) (mvT C.hZ wse) (mvT C.hZ wi) (mvT C.hZ wpu) (mvT C.hZ wu) (mvT C.hZ wca) hy (P s C.hZ hE) qa qb qc (g := mkF m pc Ls St) rfl (hs.trans C.hml.symm) (Steps.refl _) (argsL := argsL) (rest := rest) (lenOf hpd hlen) hst (by show 2 * 0 + _ ≤ _; omega) (C.d hd) (fun _ _ => ⟨has, eT, hc, hsl⟩)
  dsimp only [Pt.U, Pt.locs, Pt.cells, Pt.slots] at X' hL hk hn st' hq
  subst hL hk hn
  obtain ⟨hq, hE', hF'⟩ := hQ _ _ _ hE hq
  obtain ⟨s₂, o, st, r⟩ := K v _ hq T' _ hE' (Fr.app hF hF') X' rfl
  exact ⟨s₂, o, st'.trans st, r⟩
end Core
end Jvm.Own
namespace Jvm.Own
open Sem ClassFile Op Lib Jvm.Stand Jvm.Free Jvm.LawKit Jvm.RoadKit
/-- a String of these chars, each 0 to 255, its bytes in an array of its own -/
def Str (Z : State) (h : Heap) (a : Addr) (cs : List Int32) : Prop := ∃ (t : Addr) (kb : ClassId), ¬ t = a ∧ Exa Z h a "java/lang/String" ∧ Fld Z h a "java/lang/String" "coder" "B" (.int 0) ∧ Fld Z h a "java/lang/String" "value" "[B" (.ref t) ∧
  Arv Z h t kb .byte (Int32.ofNat cs.length) ((cs.map fun c => c.toInt8.toInt32).map Value.int) (.int 0) ∧ (∀ c ∈ cs, ¬ c < 0 ∧ ¬ (255 : Int32) < c) ∧ cs.length ≤ 4000
theorem Str.ext {Z : State} {h h' : Heap} {a : Addr} {cs : List Int32} (S : Str Z h a cs) (E : Ext h h') : Str Z h' a cs := by
  obtain ⟨t, kb, h0, h1, h2, h3, h4, r⟩ := S
  exact ⟨t, kb, h0, h1.ext E, h2.ext E, h3.ext E, h4.ext E, r⟩
theorem Str.exa {Z : State} {h : Heap} {a : Addr} {cs : List Int32} (S : Str Z h a cs) : Exa Z h a "java/lang/String" := by obtain ⟨t, kb, -, h1, -⟩ := S; exact h1
theorem Str.lt {Z : State} {h : Heap} {a : Addr} {cs : List Int32} (S : Str Z h a cs) : a < h.size := S.exa.lt
theorem mask_rng (x : Int32) : ¬ (x &&& (255 : Int32)) < 0 ∧ ¬ (255 : Int32) < (x &&& (255 : Int32)) := by
  have h := c_mask x 255 8 (by decide) (by decide)
  have e0 : (0 : Int32).toInt = 0 := rfl
  have e1 : (255 : Int32).toInt = 255 := rfl
  simp only [Int32.lt_iff_toInt_lt, e0, e1, h]
  constructor <;> omega
/-- a char of one byte is itself -/
theorem i2c_id {x : Int32} (h : ¬ x < 0 ∧ ¬ (255 : Int32) < x) : x.toUInt32.toUInt16.toUInt32.toInt32 = x := by
  have h1 := c_i2c x
  have e0 : (0 : Int32).toInt = 0 := rfl
  have e1 : (255 : Int32).toInt = 255 := rfl
  simp only [Int32.lt_iff_toInt_lt, e0, e1] at h
  rw [← Int32.toInt_inj]; omega
theorem nar_i2c_mask (x : Int32) : nar .char ((x &&& (255 : Int32)).toUInt32.toUInt16.toUInt32.toInt32) = x &&& (255 : Int32) := by
  show ((x &&& (255 : Int32)).toUInt32.toUInt16.toUInt32.toInt32).toUInt32.toUInt16.toUInt32.toInt32 = _
  rw [i2c_id (mask_rng x), i2c_id (mask_rng x)]
end Jvm.Own
/- laws to paste: Road.backV, Road.chN, Road.codOf (cut by pick.py; bodies as the Statement names them) -/
namespace Jvm.Pilot.@@N@@
namespace StrChars
open Jvm Sem ClassFile Op Lib Jvm.Stand Jvm.Free.XT Jvm.Free.ALB Jvm.Free.JM Jvm.Free
open Jvm.Lib.Cold (StaticIs)
/-- a char array whose places are chars -/
def Ch (a : Addr) (A : Cell) (U : State) : Prop := Arr .char a A U ∧ Typed .char A
theorem Ch.mv {a : Addr} {A : Cell} {U U' : State} (h : Ch a A U) (hal : U.vm.Alike U'.vm) (hh : U'.heap = U.heap) : Ch a A U' := ⟨h.1.mv hal hh, h.2⟩
theorem Ch.keep {a : Addr} {A : Cell} {U U' : State} (h : Ch a A U) (hal : U.vm.Alike U'.vm) (hk : U'.heap[a]? = some A) : Ch a A U' := ⟨h.1.keep hal hk, h.2⟩
/-- what place i of a char[]'s cell holds -/
def cv (A : Cell) (i : Nat) : Int32 := match A.slots[i]? with | some (.int x) => x | _ => 0
theorem Ch.get {a : Addr} {A : Cell} {U : State} (h : Ch a A U) {i : Nat} (hi : i < A.slots.size) : A.slots[i]? = some (.int (cv A i)) := by
  have e := Array.getElem?_eq_getElem hi
  have f := h.2 i _ e
  unfold cv; rw [e]
  generalize A.slots[i] = v at f
  cases v <;> simp [fits] at f ⊢
/-- the byte that i2b leaves of a char -/
def lo8 (x : Int32) : Int32 := x.toInt8.toInt32
theorem fits_lo8 (y : Int32) : fits .byte (.int (lo8 y)) = true := by
  have h1 := y.toInt8.le_toInt
  have h2 := y.toInt8.toInt_lt
  simp only [lo8, fits, Bool.and_eq_true, decide_eq_true_eq, Int32.le_iff_toInt_le, Int8.toInt_toInt32, show (-128 : Int32).toInt = -128 from by decide, show (127 : Int32).toInt = 127 from by decide]
  omega
/-- A' is A but that each place j of lo .. hi - 1 holds f j -/
def Laid (A A' : Cell) (lo hi : Nat) (f : Nat → Value) : Prop := A'.cls = A.cls ∧ A'.vm = A.vm ∧ A'.slots.size = A.slots.size ∧ ∀ i, A'.slots[i]? = if lo ≤ i ∧ i < hi then some (f i) else A.slots[i]?
theorem Laid.zero (A : Cell) (lo : Nat) (f : Nat → Value) : Laid A A lo (lo + 0) f := ⟨rfl, rfl, rfl, fun i => by rw [if_neg (by omega)]⟩
theorem Laid.step {A Ak : Cell} {lo k : Nat} {f : Nat → Value} {v : Value} (h : Laid A Ak lo k f) (hlo : lo ≤ k) (hk : k < Ak.slots.size) (hv : v = f k) : Laid A (Ak.setSlot k v) lo (k + 1) f := by
  refine ⟨h.1, h.2.1, by simpa [Cell.setSlot] using h.2.2.1, fun i => ?_⟩
  by_cases e : k = i
  · subst e; rw [Cell.slots_setSlot_self v hk, if_pos (by omega), hv]
  · rw [Cell.slots_setSlot_ne v e, h.2.2.2 i]
    by_cases q : lo ≤ i ∧ i < k
    · rw [if_pos q, if_pos (by omega)]
    · rw [if_neg q, if_neg (by omega)]
def U16 : String := "java/lang/StringUTF16"
namespace Cmp5
def yN : MethodName := ⟨"java/lang/StringUTF16", "compress", "([CI[BII)I"⟩
abbrev yB : ByteArray := jdk_52_method_21_code
theorem d0 : decode yB 0 = .ok (.iconst 0, 1) := by decide +kernel
theorem d1 : decode yB 1 = .ok (.istore 5, 2) := by decide +kernel
theorem d3 : decode yB 3 = .ok (.iload 5, 2) := by decide +kernel
theorem d5 : decode yB 5 = .ok (.iload 4, 2) := by decide +kernel
theorem d7 : decode yB 7 = .ok (.if_icmp (.ge) 37, 3) := by decide +kernel
theorem d10 : decode yB 10 = .ok (.aload_n 0, 1) := by decide +kernel
theorem d11 : decode yB 11 = .ok (.iload_n 1, 1) := by decide +kernel
theorem d12 : decode yB 12 = .ok (.caload, 1) := by decide +kernel
theorem d13 : decode yB 13 = .ok (.istore 6, 2) := by decide +kernel
theorem d15 : decode yB 15 = .ok (.iload 6, 2) := by decide +kernel
theorem d17 : decode yB 17 = .ok (.sipush 255, 3) := by decide +kernel
theorem d20 : decode yB 20 = .ok (.if_icmp (.le) 6, 3) := by decide +kernel
theorem d26 : decode yB 26 = .ok (.aload_n 2, 1) := by decide +kernel
theorem d27 : decode yB 27 = .ok (.iload_n 3, 1) := by decide +kernel
theorem d28 : decode yB 28 = .ok (.iload 6, 2) := by decide +kernel
theorem d30 : decode yB 30 = .ok (.i2b, 1) := by decide +kernel
theorem d31 : decode yB 31 = .ok (.bastore, 1) := by decide +kernel
theorem d32 : decode yB 32 = .ok (.iinc 1 1, 3) := by decide +kernel
theorem d35 : decode yB 35 = .ok (.iinc 3 1, 3) := by decide +kernel
theorem d38 : decode yB 38 = .ok (.iinc 5 1, 3) := by decide +kernel
theorem d41 : decode yB 41 = .ok (.goto (-38), 3) := by decide +kernel
theorem d44 : decode yB 44 = .ok (.iload 4, 2) := by decide +kernel
theorem d46 : decode yB 46 = .ok (.ireturn, 1) := by decide +kernel
def site : List Cond := []
def tab : Cond := tabOf yN yB 7 (some .int) site
def P (b : Addr) (A : Cell) (d : Addr) (B : Cell) (o q len : Nat) (args : Array Value) (s : State) : Prop := args = #[.ref b, .int (Int32.ofNat o), .ref d, .int (Int32.ofNat q), .int (Int32.ofNat len)] ∧ Ch b A s ∧ Arr .byte d B s ∧ b ≠ d ∧ o + len ≤ A.slots.size ∧ q + len ≤ B.slots.size ∧ ∀ i, i < len → ¬ 255 < cv A (o + i)
def E (b : Addr) (A : Cell) (d : Addr) (B : Cell) (o q len : Nat) (r : Option Value) (s u : State) : Prop := r = some (.int (Int32.ofNat len)) ∧ ∃ B', Put d B' s u ∧ Laid B B' q (q + len) (fun j => Value.int (lo8 (cv A (o + (j - q)))))
/-- no char of the range above 255: len; the places written hold each char's low byte -/
theorem law (l : Launch) (b : Addr) (A : Cell) (d : Addr) (B : Cell) (o q len : Nat) : Law l yN 5 5 0 0 yB 7 (some .int) site (P b A d B o q len) (E b A d B o q len) (copyLocs d q len) 0 0 := by
  refine Law.of_walk (plainFor_of_name (by decide +kernel)) (by decide +kernel) (by decide +kernel) (by decide) (fun _ _ h => by rw [h.1]; rfl) (fun _ U U' hal hh h => ⟨h.1, h.2.1.mv hal hh, h.2.2.1.mv hal hh, h.2.2.2⟩) (fun r U U' V V' h1 hal h2 h => ⟨h.1, h.2.elim fun B' q => ⟨B', q.1.mv h1 h2, q.2⟩⟩) ?_
  intro p e s m args below meth c s₁ X0 hexec hbytes hml hret hlk hnm hown hh0 W hP
  obtain ⟨rfl, hA, hB, hne, l1, l2, hp⟩ := hP
  have c1 : Steps p.tables e below (s₁.setTop (entryFrame m #[.ref b, .int (Int32.ofNat o), .ref d, .int (Int32.ofNat q), .int (Int32.ofNat len)] 7)) (s₁.setTop (mkF m 0 #[.val (.ref b), .val (.int (Int32.ofNat o)), .val (.ref d), .val (.int (Int32.ofNat q)), .val (.int (Int32.ofNat len)), .unset, .unset] [])) := entry rfl
  have hA0 := hA.1.mv X0.warmed.alike hh0
  have hB0 := hB.mv X0.warmed.alike hh0
  have a31 := hA.1.2.2.2
  have c2 : Steps p.tables e below (s₁.setTop (entryFrame m #[.ref b, .int (Int32.ofNat o), .ref d, .int (Int32.ofNat q), .int (Int32.ofNat len)] 7)) (s₁.setTop (mkF m 3 #[.val (.ref b), .val (.int (Int32.ofNat o)), .val (.ref d), .val (.int (Int32.ofNat q)), .val (.int (Int32.ofNat len)), .val (.int 0), .unset] [])) := c1.trans (by
    refine iconstV X0.here hexec rfl 0 (hb hbytes d0) (by decide) ?_
    refine XS.istore X0.here hexec rfl (hb hbytes d1) rfl rfl ?_
    exact Steps.refl _)
  have loop : ∀ (r i : Nat), i + r = len → ∀ (z : Slot), (z = .unset ∨ ∃ w, z = .val w ∧ w.category = 1) → ∀ (Tl : State) (Bk : Cell), Stand p l e { frames := 0, locals := 0, cells := 0, slots := 0 } s m #[.ref b, .int (Int32.ofNat o), .ref d, .int (Int32.ofNat q), .int (Int32.ofNat len)] below meth c Tl ([] ++ copyLocs d q i) 0 0 → Put d Bk s₁ Tl → Laid B Bk q (q + i) (fun j => Value.int (lo8 (cv A (o + (j - q))))) →
      Steps p.tables e below (s₁.setTop (entryFrame m #[.ref b, .int (Int32.ofNat o), .ref d, .int (Int32.ofNat q), .int (Int32.ofNat len)] 7)) (Tl.setTop (mkF m 3 #[.val (.ref b), .val (.int (Int32.ofNat (o + i))), .val (.ref d), .val (.int (Int32.ofNat (q + i))), .val (.int (Int32.ofNat len)), .val (.int (Int32.ofNat i)), z] [])) → ∃ (T' : State) (B' : Cell) (z' : Slot), Stand p l e { frames := 0, locals := 0, cells := 0, slots := 0 } s m #[.ref b, .int (Int32.ofNat o), .ref d, .int (Int32.ofNat q), .int (Int32.ofNat len)] below meth c T' ([] ++ copyLocs d q len) 0 0 ∧ Put d B' s₁ T' ∧ Laid B B' q (q + len) (fun j => Value.int (lo8 (cv A (o + (j - q))))) ∧
      Steps p.tables e below (s₁.setTop (entryFrame m #[.ref b, .int (Int32.ofNat o), .ref d, .int (Int32.ofNat q), .int (Int32.ofNat len)] 7)) (T'.setTop (mkF m 3 #[.val (.ref b), .val (.int (Int32.ofNat (o + len))), .val (.ref d), .val (.int (Int32.ofNat (q + len))), .val (.int (Int32.ofNat len)), .val (.int (Int32.ofNat len)), z'] [])) := by
    intro r
    induction r with
    | zero =>
      intro i hi z hz Tl Bk Xl pl fl cl
      have hil : i = len := by omega
      rw [hil] at Xl fl cl
      exact ⟨Tl, Bk, z, Xl, pl, fl, cl⟩
    | succ r ih =>
      intro i hi z hz Tl Bk Xl pl fl cl
      have all := X0.warmed.alike.symm.trans Xl.warmed.alike
      have hAl := hA0.keep all (pl.other hne hA0.1)
      have hBk := hB0.like all pl.1 fl.1 fl.2.1 fl.2.2.1
      have hlt : q + i < Bk.slots.size := by rw [fl.2.2.1]; omega
      have c3 : Steps p.tables e below (s₁.setTop (entryFrame m #[.ref b, .int (Int32.ofNat o), .ref d, .int (Int32.ofNat q), .int (Int32.ofNat len)] 7)) (Tl.setTop (mkF m 12 #[.val (.ref b), .val (.int (Int32.ofNat (o + i))), .val (.ref d), .val (.int (Int32.ofNat (q + i))), .val (.int (Int32.ofNat len)), .val (.int (Int32.ofNat i)), z] [.int (Int32.ofNat (o + i)), .ref b])) := cl.trans (by
        refine XS.iload Xl.here hexec rfl (hb hbytes d3) rfl ?_
        refine XS.iload Xl.here hexec rfl (hb hbytes d5) rfl ?_
        refine XS.icmpNo Xl.here hexec rfl (hb hbytes d7) rfl (ii_ge_f (lt32 (by omega) (by omega))) ?_
        refine XS.aloadN Xl.here hexec rfl (hb hbytes d10) rfl rfl ?_
        refine XS.iloadN Xl.here hexec rfl (hb hbytes d11) rfl ?_
        exact Steps.refl _)
      have c4 : Steps p.tables e below (s₁.setTop (entryFrame m #[.ref b, .int (Int32.ofNat o), .ref d, .int (Int32.ofNat q), .int (Int32.ofNat len)] 7)) (Tl.setTop (mkF m 13 #[.val (.ref b), .val (.int (Int32.ofNat (o + i))), .val (.ref d), .val (.int (Int32.ofNat (q + i))), .val (.int (Int32.ofNat len)), .val (.int (Int32.ofNat i)), z] [.int (cv A (o + i))])) := c3.trans (by
        refine Xl.aget hexec hAl rfl (hA.get (i := o + i) (by omega)) rfl rfl (hb hbytes d12) ?_
        exact Steps.refl _)
      have c5 : Steps p.tables e below (s₁.setTop (entryFrame m #[.ref b, .int (Int32.ofNat o), .ref d, .int (Int32.ofNat q), .int (Int32.ofNat len)] 7)) (Tl.setTop (mkF m 15 #[.val (.ref b), .val (.int (Int32.ofNat (o + i))), .val (.ref d), .val (.int (Int32.ofNat (q + i))), .val (.int (Int32.ofNat len)), .val (.int (Int32.ofNat i)), .val (.int (cv A (o + i)))] [])) := c4.trans (by
        refine XS.istoreS Xl.here hexec rfl (hb hbytes d13) rfl rfl hz ?_
        exact Steps.refl _)
      have c6 : Steps p.tables e below (s₁.setTop (entryFrame m #[.ref b, .int (Int32.ofNat o), .ref d, .int (Int32.ofNat q), .int (Int32.ofNat len)] 7)) (Tl.setTop (mkF m 31 #[.val (.ref b), .val (.int (Int32.ofNat (o + i))), .val (.ref d), .val (.int (Int32.ofNat (q + i))), .val (.int (Int32.ofNat len)), .val (.int (Int32.ofNat i)), .val (.int (cv A (o + i)))] [.int (lo8 (cv A (o + i))), .int (Int32.ofNat (q + i)), .ref d])) := c5.trans (by
        refine XS.iload Xl.here hexec rfl (hb hbytes d15) rfl ?_
        refine sipushV Xl.here hexec rfl 255 (hb hbytes d17) (by decide) ?_
        refine XS.icmpYes Xl.here hexec rfl (pc0 := 20) rfl (hb hbytes d20) rfl (ii_le_t (hp i (by omega))) (by decide) rfl ?_
        refine XS.aloadN Xl.here hexec rfl (hb hbytes d26) rfl rfl ?_
        refine XS.iloadN Xl.here hexec rfl (hb hbytes d27) rfl ?_
        refine XS.iload Xl.here hexec rfl (hb hbytes d28) rfl ?_
        refine i2b Xl.here hexec rfl (hb hbytes d30) rfl ?_
        exact Steps.refl _)
      obtain ⟨T7, X7, p7, st7⟩ := Xl.aput hexec hBk rfl hlt rfl (fits_lo8 (cv A (o + i))) (g := (mkF m 31 #[.val (.ref b), .val (.int (Int32.ofNat (o + i))), .val (.ref d), .val (.int (Int32.ofNat (q + i))), .val (.int (Int32.ofNat len)), .val (.int (Int32.ofNat i)), .val (.int (cv A (o + i)))] [.int (lo8 (cv A (o + i))), .int (Int32.ofNat (q + i)), .ref d])) rfl (rest := []) rfl (hb hbytes d31)
      have c8 : Steps p.tables e below (s₁.setTop (entryFrame m #[.ref b, .int (Int32.ofNat o), .ref d, .int (Int32.ofNat q), .int (Int32.ofNat len)] 7)) (T7.setTop (mkF m 32 #[.val (.ref b), .val (.int (Int32.ofNat (o + i))), .val (.ref d), .val (.int (Int32.ofNat (q + i))), .val (.int (Int32.ofNat len)), .val (.int (Int32.ofNat i)), .val (.int (cv A (o + i)))] [])) := c6.trans (st7 _ (Steps.refl _))
      have c9 : Steps p.tables e below (s₁.setTop (entryFrame m #[.ref b, .int (Int32.ofNat o), .ref d, .int (Int32.ofNat q), .int (Int32.ofNat len)] 7)) (T7.setTop (mkF m 3 #[.val (.ref b), .val (.int (Int32.ofNat (o + i) + 1)), .val (.ref d), .val (.int (Int32.ofNat (q + i) + 1)), .val (.int (Int32.ofNat len)), .val (.int (Int32.ofNat i + 1)), .val (.int (cv A (o + i)))] [])) := c8.trans (by
        refine iincV X7.here hexec rfl 1 (hb hbytes d32) (by decide) rfl rfl ?_
        refine iincV X7.here hexec rfl 1 (hb hbytes d35) (by decide) rfl rfl ?_
        refine iincV X7.here hexec rfl 1 (hb hbytes d38) (by decide) rfl rfl ?_
        refine XS.goto X7.here hexec rfl (pc0 := 41) rfl (hb hbytes d41) (by decide) rfl ?_
        exact Steps.refl _)
      have c10 : Steps p.tables e below (s₁.setTop (entryFrame m #[.ref b, .int (Int32.ofNat o), .ref d, .int (Int32.ofNat q), .int (Int32.ofNat len)] 7)) (T7.setTop (mkF m 3 #[.val (.ref b), .val (.int (Int32.ofNat (o + (i + 1)))), .val (.ref d), .val (.int (Int32.ofNat (q + (i + 1)))), .val (.int (Int32.ofNat len)), .val (.int (Int32.ofNat (i + 1))), .val (.int (cv A (o + i)))] [])) := by
        have := c9
        rw [succ32, succ32, succ32] at this
        exact this
      exact ih (i + 1) (by omega) _ (Or.inr ⟨_, rfl, rfl⟩) T7 _ (by rw [copyLocs_step, ← List.append_assoc]; exact X7) (pl.trans p7) (fl.step (by omega) hlt (by simp)) c10
  obtain ⟨T9, B9, z9, X9, p9, f9, g9⟩ := loop len 0 (by omega) .unset (Or.inl rfl) s₁ B (by simpa [copyLocs] using X0) ⟨hB0.1, fun _ _ => rfl, rfl⟩ (Laid.zero _ _ _) c2
  have c11 : Steps p.tables e below (s₁.setTop (entryFrame m #[.ref b, .int (Int32.ofNat o), .ref d, .int (Int32.ofNat q), .int (Int32.ofNat len)] 7)) (T9.setTop (mkF m 46 #[.val (.ref b), .val (.int (Int32.ofNat (o + len))), .val (.ref d), .val (.int (Int32.ofNat (q + len))), .val (.int (Int32.ofNat len)), .val (.int (Int32.ofNat len)), z9] [.int (Int32.ofNat len)])) := g9.trans (by
    refine XS.iload X9.here hexec rfl (hb hbytes d3) rfl ?_
    refine XS.iload X9.here hexec rfl (hb hbytes d5) rfl ?_
    refine XS.icmpYes X9.here hexec rfl (pc0 := 7) rfl (hb hbytes d7) rfl (ii_ge_t (nlt32 (by omega) (Nat.le_refl _))) (by decide) rfl ?_
    refine XS.iload X9.here hexec rfl (hb hbytes d44) rfl ?_
    exact Steps.refl _)
  exact ⟨T9, some (.int (Int32.ofNat len)), _, _, _, X9, by simp, rfl, rfl, (fun h => by cases h), ⟨rfl, B9, p9.from hh0, f9⟩, fun fs hl => c11.trans (X9.ireturnOut hexec hret rfl (Or.inl rfl) (hb hbytes d46) hl)⟩
end Cmp5
namespace Cmp3
def yN : MethodName := ⟨"java/lang/StringUTF16", "compress", "([CII)[B"⟩
abbrev yB : ByteArray := jdk_52_method_16_code
theorem d0 : decode yB 0 = .ok (.iload_n 2, 1) := by decide +kernel
theorem d1 : decode yB 1 = .ok (.newarray .byte, 2) := by decide +kernel
theorem d3 : decode yB 3 = .ok (.astore_n 3, 1) := by decide +kernel
theorem d4 : decode yB 4 = .ok (.aload_n 0, 1) := by decide +kernel
theorem d5 : decode yB 5 = .ok (.iload_n 1, 1) := by decide +kernel
theorem d6 : decode yB 6 = .ok (.aload_n 3, 1) := by decide +kernel
theorem d7 : decode yB 7 = .ok (.iconst 0, 1) := by decide +kernel
theorem d8 : decode yB 8 = .ok (.iload_n 2, 1) := by decide +kernel
theorem d9 : decode yB 9 = .ok (.invokestatic 115, 3) := by decide +kernel
theorem d12 : decode yB 12 = .ok (.istore 4, 2) := by decide +kernel
theorem d14 : decode yB 14 = .ok (.iload 4, 2) := by decide +kernel
theorem d16 : decode yB 16 = .ok (.iload_n 2, 1) := by decide +kernel
theorem d17 : decode yB 17 = .ok (.if_icmp (.eq) 40, 3) := by decide +kernel
theorem d57 : decode yB 57 = .ok (.aload_n 3, 1) := by decide +kernel
theorem d58 : decode yB 58 = .ok (.areturn, 1) := by decide +kernel
def site : List Cond := [.arrayClass .byte, Cmp5.tab] ++ staticW U16 115 Cmp5.yN
def tab : Cond := tabOf yN yB 6 (some (.array .byte)) site
def P (b : Addr) (A : Cell) (o len : Nat) (args : Array Value) (s : State) : Prop := args = #[.ref b, .int (Int32.ofNat o), .int (Int32.ofNat len)] ∧ Ch b A s ∧ o + len ≤ A.slots.size ∧ len ≤ 536870912 ∧ ∀ i, i < len → ¬ 255 < cv A (o + i)
def E (b : Addr) (A : Cell) (o len : Nat) (r : Option Value) (s u : State) : Prop := NewArr .byte "[B" len (fun j => .int (lo8 (cv A (o + j)))) r s u ∧ u.heap.size = s.heap.size + 1
/-- no char of the range above 255: a new byte[] of their low bytes -/
theorem law (l : Launch) (b : Addr) (A : Cell) (o len : Nat) : Law l yN 3 3 1 18 yB 6 (some (.array .byte)) site (P b A o len) (E b A o len) [] 1 len := by
  refine Law.of_walk (plainFor_of_name (by decide +kernel)) (by decide +kernel) (by decide +kernel) (by decide) (fun _ _ h => by rw [h.1]; rfl) (fun _ U U' hal hh h => ⟨h.1, h.2.1.mv hal hh, h.2.2⟩) (fun r U U' V V' h1 hal h2 h => ⟨NewArr.mv r U U' V V' h1 hal h2 h.1, by rw [h1, h2]; exact h.2⟩) ?_
  intro p e s m args below meth c s₁ X0 hexec hbytes hml hret hlk hnm hown hh0 W hP
  obtain ⟨rfl, hA, l1, l2, hp⟩ := hP
  have a31 := hA.1.2.2.2
  have c1 : Steps p.tables e below (s₁.setTop (entryFrame m #[.ref b, .int (Int32.ofNat o), .int (Int32.ofNat len)] 6)) (s₁.setTop (mkF m 0 #[.val (.ref b), .val (.int (Int32.ofNat o)), .val (.int (Int32.ofNat len)), .unset, .unset, .unset] [])) := entry rfl
  have c2 : Steps p.tables e below (s₁.setTop (entryFrame m #[.ref b, .int (Int32.ofNat o), .int (Int32.ofNat len)] 6)) (s₁.setTop (mkF m 1 #[.val (.ref b), .val (.int (Int32.ofNat o)), .val (.int (Int32.ofNat len)), .unset, .unset, .unset] [.int (Int32.ofNat len)])) := c1.trans (by
    refine XS.iloadN X0.here hexec rfl (hb hbytes d0) rfl ?_
    exact Steps.refl _)
  obtain ⟨T3, B3, X3, ba3, bs3, bv3, bh3, bf3, st3⟩ := X0.anew hexec (atype := .byte) (wk W (.arrayClass .byte)) rfl (by show len * 1 ≤ _; omega) (by omega) (g := (mkF m 1 #[.val (.ref b), .val (.int (Int32.ofNat o)), .val (.int (Int32.ofNat len)), .unset, .unset, .unset] [.int (Int32.ofNat len)])) rfl (hb hbytes d1) (rest := []) rfl (Nat.le_refl _) (by show 0 + len ≤ len; omega)
  rw [hh0] at ba3 st3
  have kp3 : XT.Kept s T3 := (XT.Kept.of_eq hh0).push bh3
  have hA3 := hA.keep X3.warmed.alike (kp3 _ _ hA.1.1)
  have hne : b ≠ s.heap.size := hA.1.ne
  have c4 : Steps p.tables e below (s₁.setTop (entryFrame m #[.ref b, .int (Int32.ofNat o), .int (Int32.ofNat len)] 6)) (T3.setTop (mkF m 3 #[.val (.ref b), .val (.int (Int32.ofNat o)), .val (.int (Int32.ofNat len)), .unset, .unset, .unset] [.ref s.heap.size])) := c2.trans (st3 _ (Steps.refl _))
  have c5 : Steps p.tables e below (s₁.setTop (entryFrame m #[.ref b, .int (Int32.ofNat o), .int (Int32.ofNat len)] 6)) (T3.setTop (mkF m 9 #[.val (.ref b), .val (.int (Int32.ofNat o)), .val (.int (Int32.ofNat len)), .val (.ref s.heap.size), .unset, .unset] [.int (Int32.ofNat len), .int 0, .ref s.heap.size, .int (Int32.ofNat o), .ref b])) := c4.trans (by
    refine XS.astoreN X3.here hexec rfl (hb hbytes d3) rfl rfl rfl ?_
    refine XS.aloadN X3.here hexec rfl (hb hbytes d4) rfl rfl ?_
    refine XS.iloadN X3.here hexec rfl (hb hbytes d5) rfl ?_
    refine XS.aloadN X3.here hexec rfl (hb hbytes d6) rfl rfl ?_
    refine iconstV X3.here hexec rfl 0 (hb hbytes d7) (by decide) ?_
    refine XS.iloadN X3.here hexec rfl (hb hbytes d8) rfl ?_
    exact Steps.refl _)
  obtain ⟨v6, T6, X6, E6, g6⟩ := X3.callS hexec (Cmp5.law l b A s.heap.size B3 o 0 len) hown (wks W (staticW U16 115 Cmp5.yN)) (wk W Cmp5.tab) (W := 0) (Nat.le_of_ble_eq_true rfl) (Nat.le_of_ble_eq_true rfl) (Nat.le_refl _) (by show 0 + len + 0 ≤ len; omega) (g := (mkF m 9 #[.val (.ref b), .val (.int (Int32.ofNat o)), .val (.int (Int32.ofNat len)), .val (.ref s.heap.size), .unset, .unset] [.int (Int32.ofNat len), .int (Int32.ofNat 0), .ref s.heap.size, .int (Int32.ofNat o), .ref b])) rfl (by rw [hml]; rfl) c5 (argsL := [.ref b, .int (Int32.ofNat o), .ref s.heap.size, .int (Int32.ofNat 0), .int (Int32.ofNat len)]) (rest := []) rfl rfl (by show 2 * 0 + 0 ≤ _; decide) (hb hbytes d9) (⟨rfl, hA3, ba3, hne, l1, by rw [bs3]; simp, hp⟩)
  obtain ⟨rfl, B6, p6, f6⟩ := E6
  have c7 : Steps p.tables e below (s₁.setTop (entryFrame m #[.ref b, .int (Int32.ofNat o), .int (Int32.ofNat len)] 6)) (T6.setTop (mkF m 12 #[.val (.ref b), .val (.int (Int32.ofNat o)), .val (.int (Int32.ofNat len)), .val (.ref s.heap.size), .unset, .unset] [.int (Int32.ofNat len)])) := g6
  have c8 : Steps p.tables e below (s₁.setTop (entryFrame m #[.ref b, .int (Int32.ofNat o), .int (Int32.ofNat len)] 6)) (T6.setTop (mkF m 58 #[.val (.ref b), .val (.int (Int32.ofNat o)), .val (.int (Int32.ofNat len)), .val (.ref s.heap.size), .val (.int (Int32.ofNat len)), .unset] [.ref s.heap.size])) := c7.trans (by
    refine XS.istore X6.here hexec rfl (hb hbytes d12) rfl rfl ?_
    refine XS.iload X6.here hexec rfl (hb hbytes d14) rfl ?_
    refine XS.iloadN X6.here hexec rfl (hb hbytes d16) rfl ?_
    refine XS.icmpYes X6.here hexec rfl (pc0 := 17) rfl (hb hbytes d17) rfl (ii_eq_t rfl) (by decide) rfl ?_
    refine XS.aloadN X6.here hexec rfl (hb hbytes d57) rfl rfl ?_
    exact Steps.refl _)
  have X8 := X6.wide (L' := []) (cells' := 1) (slots' := len) (fun x hx hlt => by
    simp only [List.nil_append, copyLocs, List.mem_map, List.mem_range] at hx
    obtain ⟨i, -, rfl⟩ := hx
    exact absurd hlt (Nat.lt_irrefl _)) (Nat.le_refl _) (by omega)
  exact ⟨T6, some (.ref s.heap.size), _, _, _, X8, rfl, rfl, rfl, (fun h => by cases h), ⟨⟨rfl, B6, ba3.like (X3.warmed.alike.symm.trans X6.warmed.alike) p6.1 f6.1 f6.2.1 f6.2.2.1, f6.2.1.trans bv3, by rw [X6.warmed.alike.findClass, f6.1]; exact bf3, by rw [f6.2.2.1, bs3]; simp, fun j hj => by rw [f6.2.2.2 j, if_pos (by omega)]; rfl, kp3.put p6 (Nat.le_refl _)⟩, by rw [p6.2.2, bh3, hh0]; simp⟩, fun fs hl => c8.trans (X8.areturnOut hexec rfl hret rfl (hb hbytes d58) hl)⟩
end Cmp3
namespace CodL
def yN : MethodName := ⟨"java/lang/StringUTF16", "coderFromArrayLen", "([BI)B"⟩
abbrev yB : ByteArray := jdk_52_method_15_code
theorem d0 : decode yB 0 = .ok (.iload_n 1, 1) := by decide +kernel
theorem d1 : decode yB 1 = .ok (.aload_n 0, 1) := by decide +kernel
theorem d2 : decode yB 2 = .ok (.arraylength, 1) := by decide +kernel
theorem d3 : decode yB 3 = .ok (.isub, 1) := by decide +kernel
theorem d4 : decode yB 4 = .ok (.bipush 31, 2) := by decide +kernel
theorem d6 : decode yB 6 = .ok (.iushr, 1) := by decide +kernel
theorem d7 : decode yB 7 = .ok (.i2b, 1) := by decide +kernel
theorem d8 : decode yB 8 = .ok (.ireturn, 1) := by decide +kernel
def site : List Cond := []
def tab : Cond := tabOf yN yB 2 (some .byte) site
def P (d : Addr) (B : Cell) (args : Array Value) (s : State) : Prop := args = #[.ref d, .int (Int32.ofNat B.slots.size)] ∧ Arr .byte d B s
def E (r : Option Value) (s u : State) : Prop := XT.PureE (some (.int 0)) r s u
/-- an array as long as the number of chars: LATIN1 -/
theorem law (l : Launch) (d : Addr) (B : Cell) : Law l yN 2 2 0 0 yB 2 (some .byte) site (P d B) E [] 0 0 := by
  refine Law.of_walk (plainFor_of_name (by decide +kernel)) (by decide +kernel) (by decide +kernel) (by decide) (fun _ _ h => by rw [h.1]; rfl) (fun _ U U' hal hh h => ⟨h.1, h.2.mv hal hh⟩) (fun r U U' V V' h1 hal h2 h => XT.PureE.mv r U U' V V' h1 hal h2 h) ?_
  intro p e s m args below meth c s₁ X0 hexec hbytes hml hret hlk hnm hown hh0 W hP
  obtain ⟨rfl, hB⟩ := hP
  have hB0 := hB.mv X0.warmed.alike hh0
  have c1 : Steps p.tables e below (s₁.setTop (entryFrame m #[.ref d, .int (Int32.ofNat B.slots.size)] 2)) (s₁.setTop (mkF m 0 #[.val (.ref d), .val (.int (Int32.ofNat B.slots.size))] [])) := entry rfl
  have c2 : Steps p.tables e below (s₁.setTop (entryFrame m #[.ref d, .int (Int32.ofNat B.slots.size)] 2)) (s₁.setTop (mkF m 2 #[.val (.ref d), .val (.int (Int32.ofNat B.slots.size))] [.ref d, .int (Int32.ofNat B.slots.size)])) := c1.trans (by
    refine XS.iloadN X0.here hexec rfl (hb hbytes d0) rfl ?_
    refine XS.aloadN X0.here hexec rfl (hb hbytes d1) rfl rfl ?_
    exact Steps.refl _)
  have c3 : Steps p.tables e below (s₁.setTop (entryFrame m #[.ref d, .int (Int32.ofNat B.slots.size)] 2)) (s₁.setTop (mkF m 8 #[.val (.ref d), .val (.int (Int32.ofNat B.slots.size))] [.int (lo8 (ushr (Int32.ofNat B.slots.size - Int32.ofNat B.slots.size) 31))])) := c2.trans (by
    refine X0.alen hexec hB0 rfl rfl (hb hbytes d2) ?_
    refine XS.isub X0.here hexec rfl (hb hbytes d3) rfl ?_
    refine bipushV X0.here hexec rfl 31 (hb hbytes d4) (by decide) ?_
    refine iushr X0.here hexec rfl (hb hbytes d6) rfl ?_
    refine i2b X0.here hexec rfl (hb hbytes d7) rfl ?_
    exact Steps.refl _)
  have e0 : lo8 (ushr (Int32.ofNat B.slots.size - Int32.ofNat B.slots.size) 31) = 0 := by rw [Int32.sub_self]; decide
  rw [e0] at c3
  exact ⟨s₁, some (.int 0), _, _, _, X0, rfl, rfl, rfl, (fun h => by cases h), ⟨rfl, hh0⟩, fun fs hl => c3.trans (X0.ireturnOut hexec hret rfl (Or.inr (Or.inr (Or.inl rfl))) (hb hbytes d8) hl)⟩
end CodL
/-- the String at a is Latin-1 over a new byte[] (the heap's one new cell): the low bytes of the len chars of A from o on; every cell but a is kept -/
def Got (a : Addr) (D : Cell) (fV fC : Field) (A : Cell) (o len : Nat) (r : Option Value) (s u : State) : Prop := r = none ∧ ∃ D' V : Cell, Blank "java/lang/String" a D' u ∧ Same D D' [fV.slot, fC.slot] ∧ D'.slots[fV.slot]? = some (.ref s.heap.size) ∧ D'.slots[fC.slot]? = some (.int 0) ∧ Arr .byte s.heap.size V u ∧ V.vm = .none ∧ u.vm.findClass "[B" = some V.cls ∧ V.slots.size = len ∧ (∀ j, j < len → V.slots[j]? = some (.int (lo8 (cv A (o + j))))) ∧ (∀ (y : Addr) (c : Cell), y ≠ a → s.heap[y]? = some c → u.heap[y]? = some c) ∧ u.heap.size = s.heap.size + 1
theorem Got.mv {a : Addr} {D A : Cell} {fV fC : Field} {o len : Nat} : ∀ r (U U' V V' : State), U'.heap = U.heap → V.vm.Alike V'.vm → V'.heap = V.heap → Got a D fV fC A o len r U V → Got a D fV fC A o len r U' V' :=
  fun r U U' V V' h1 hal h2 ⟨e0, D', X, a1, a2, a3, a4, a5, a6, a7, a8, a9, a10, a11⟩ => ⟨e0, D', X, a1.mv hal h2, a2, by rw [h1]; exact a3, a4, by rw [h1]; exact a5.mv hal h2, a6, by rw [hal.findClass]; exact a7, a8, a9, by rw [h1, h2]; exact a10, by rw [h1, h2]; exact a11⟩
namespace New4
def yN : MethodName := ⟨"java/lang/String", "<init>", "([CIILjava/lang/Void;)V"⟩
abbrev yB : ByteArray := jdk_42_method_149_code
theorem d0 : decode yB 0 = .ok (.aload_n 0, 1) := by decide +kernel
theorem d1 : decode yB 1 = .ok (.invokespecial 1, 3) := by decide +kernel
theorem d4 : decode yB 4 = .ok (.iload_n 3, 1) := by decide +kernel
theorem d5 : decode yB 5 = .ok (.ifCond (.ne) 22, 3) := by decide +kernel
theorem d27 : decode yB 27 = .ok (.getstatic 38, 3) := by decide +kernel
theorem d30 : decode yB 30 = .ok (.ifCond (.eq) 28, 3) := by decide +kernel
theorem d33 : decode yB 33 = .ok (.aload_n 1, 1) := by decide +kernel
theorem d34 : decode yB 34 = .ok (.iload_n 2, 1) := by decide +kernel
theorem d35 : decode yB 35 = .ok (.iload_n 3, 1) := by decide +kernel
theorem d36 : decode yB 36 = .ok (.invokestatic 177, 3) := by decide +kernel
theorem d39 : decode yB 39 = .ok (.astore 5, 2) := by decide +kernel
theorem d41 : decode yB 41 = .ok (.aload_n 0, 1) := by decide +kernel
theorem d42 : decode yB 42 = .ok (.aload 5, 2) := by decide +kernel
theorem d44 : decode yB 44 = .ok (.iload_n 3, 1) := by decide +kernel
theorem d45 : decode yB 45 = .ok (.invokestatic 47, 3) := by decide +kernel
theorem d48 : decode yB 48 = .ok (.putfield 15, 3) := by decide +kernel
theorem d51 : decode yB 51 = .ok (.aload_n 0, 1) := by decide +kernel
theorem d52 : decode yB 52 = .ok (.aload 5, 2) := by decide +kernel
theorem d54 : decode yB 54 = .ok (.putfield 9, 3) := by decide +kernel
theorem d57 : decode yB 57 = .ok (.return_, 1) := by decide +kernel
def site : List Cond := [.fieldLink "java/lang/String" 38 "java/lang/String" "COMPACT_STRINGS" "Z", Cmp3.tab, CodL.tab, .laysFinal "java/lang/String" "java/lang/String" "value" "[B", .fieldLink "java/lang/String" 9 "java/lang/String" "value" "[B", .laysFinal "java/lang/String" "java/lang/String" "coder" "B", .fieldLink "java/lang/String" 15 "java/lang/String" "coder" "B"] ++ objW "java/lang/String" 1 ++ staticW "java/lang/String" 177 Cmp3.yN ++ staticW "java/lang/String" 47 CodL.yN
def tab : Cond := tabOf yN yB 6 none site
def P (a : Addr) (D : Cell) (fV fC : Field) (b : Addr) (A : Cell) (z : Int32) (o len : Nat) (args : Array Value) (s : State) : Prop := args = #[.ref a, .ref b, .int (Int32.ofNat o), .int (Int32.ofNat len), .null] ∧ Blank "java/lang/String" a D s ∧ Found "java/lang/String" "value" "[B" fV s ∧ Found "java/lang/String" "coder" "B" fC s ∧ Ch b A s ∧ StaticIs s "java/lang/String" "COMPACT_STRINGS" "Z" (.int z) ∧ ¬ z = 0 ∧ 0 < len ∧ o + len ≤ A.slots.size ∧ len ≤ 536870912 ∧ ∀ i, i < len → ¬ 255 < cv A (o + i)
def E (a : Addr) (D : Cell) (fV fC : Field) (A : Cell) (o len : Nat) (r : Option Value) (s u : State) : Prop := Got a D fV fC A o len r s u
/-- len > 0, no char of the range above 255: a Latin-1 String of their low bytes -/
theorem law (l : Launch) (a : Addr) (D : Cell) (fV fC : Field) (b : Addr) (A : Cell) (z : Int32) (o len : Nat) : Law l yN 5 4 2 35 yB 6 none site (P a D fV fC b A z o len) (E a D fV fC A o len) [⟨a, fC.slot⟩, ⟨a, fV.slot⟩] 1 len := by
  refine Law.of_walk (plainFor_of_name (by decide +kernel)) (by decide +kernel) (by decide +kernel) (by decide) (fun _ _ h => by rw [h.1]; rfl) (fun _ U U' hal hh h => ⟨h.1, h.2.1.mv hal hh, h.2.2.1.al hal, h.2.2.2.1.al hal, h.2.2.2.2.1.mv hal hh, h.2.2.2.2.2.1.there hal hh, h.2.2.2.2.2.2⟩) (fun r U U' V V' h1 hal h2 h => Got.mv r U U' V V' h1 hal h2 h) ?_
  intro p e s m args below meth c s₁ X0 hexec hbytes hml hret hlk hnm hown hh0 W hP
  obtain ⟨rfl, hB, f1, f2, hA, s1, hz, l0, l1, l2, hp⟩ := hP
  have a31 := hA.1.2.2.2
  have c1 : Steps p.tables e below (s₁.setTop (entryFrame m #[.ref a, .ref b, .int (Int32.ofNat o), .int (Int32.ofNat len), .null] 6)) (s₁.setTop (mkF m 0 #[.val (.ref a), .val (.ref b), .val (.int (Int32.ofNat o)), .val (.int (Int32.ofNat len)), .val .null, .unset] [])) := entry rfl
  have c2 : Steps p.tables e below (s₁.setTop (entryFrame m #[.ref a, .ref b, .int (Int32.ofNat o), .int (Int32.ofNat len), .null] 6)) (s₁.setTop (mkF m 1 #[.val (.ref a), .val (.ref b), .val (.int (Int32.ofNat o)), .val (.int (Int32.ofNat len)), .val .null, .unset] [.ref a])) := c1.trans (by
    refine XS.aloadN X0.here hexec rfl (hb hbytes d0) rfl rfl ?_
    exact Steps.refl _)
  obtain ⟨T3, X3, q3, st3⟩ := X0.oinit hexec hown (wks W (objW "java/lang/String" 1)) (g := (mkF m 1 #[.val (.ref a), .val (.ref b), .val (.int (Int32.ofNat o)), .val (.int (Int32.ofNat len)), .val .null, .unset] [.ref a])) rfl (by rw [hml]; rfl) (rest := []) rfl (hb hbytes d1) (W := 0) (by show 2 * 0 + 0 ≤ _; decide) (Nat.le_of_ble_eq_true rfl) (Nat.le_of_ble_eq_true rfl)
  have hh3 := q3.trans hh0
  have c4 : Steps p.tables e below (s₁.setTop (entryFrame m #[.ref a, .ref b, .int (Int32.ofNat o), .int (Int32.ofNat len), .null] 6)) (T3.setTop (mkF m 27 #[.val (.ref a), .val (.ref b), .val (.int (Int32.ofNat o)), .val (.int (Int32.ofNat len)), .val .null, .unset] [])) := (c2.trans (st3 _ (Steps.refl _))).trans (by
    refine XS.iloadN X3.here hexec rfl (hb hbytes d4) rfl ?_
    refine XS.ifYes X3.here hexec rfl (pc0 := 5) rfl (hb hbytes d5) rfl (i0_ne_t (nz32 (by omega) l0)) (by decide) rfl ?_
    exact Steps.refl _)
  obtain ⟨T5, X5, q5, st5⟩ := X3.sget hexec hown (wk W (.fieldLink "java/lang/String" 38 "java/lang/String" "COMPACT_STRINGS" "Z")) s1 (fun _ _ h => by rw [hh3]; exact h) (g := (mkF m 27 #[.val (.ref a), .val (.ref b), .val (.int (Int32.ofNat o)), .val (.int (Int32.ofNat len)), .val .null, .unset] [])) rfl (hb hbytes d27)
  have hh5 := q5.trans hh3
  have c6 : Steps p.tables e below (s₁.setTop (entryFrame m #[.ref a, .ref b, .int (Int32.ofNat o), .int (Int32.ofNat len), .null] 6)) (T5.setTop (mkF m 30 #[.val (.ref a), .val (.ref b), .val (.int (Int32.ofNat o)), .val (.int (Int32.ofNat len)), .val .null, .unset] [.int z])) := c4.trans (st5 _ (Steps.refl _))
  have c7 : Steps p.tables e below (s₁.setTop (entryFrame m #[.ref a, .ref b, .int (Int32.ofNat o), .int (Int32.ofNat len), .null] 6)) (T5.setTop (mkF m 36 #[.val (.ref a), .val (.ref b), .val (.int (Int32.ofNat o)), .val (.int (Int32.ofNat len)), .val .null, .unset] [.int (Int32.ofNat len), .int (Int32.ofNat o), .ref b])) := c6.trans (by
    refine XS.ifNo X5.here hexec rfl (hb hbytes d30) rfl (i0_eq_f hz) ?_
    refine XS.aloadN X5.here hexec rfl (hb hbytes d33) rfl rfl ?_
    refine XS.iloadN X5.here hexec rfl (hb hbytes d34) rfl ?_
    refine XS.iloadN X5.here hexec rfl (hb hbytes d35) rfl ?_
    exact Steps.refl _)
  obtain ⟨v8, T8, X8, E8, g8⟩ := X5.callS hexec (Cmp3.law l b A o len) hown (wks W (staticW "java/lang/String" 177 Cmp3.yN)) (wk W Cmp3.tab) (W := 0) (Nat.le_of_ble_eq_true rfl) (Nat.le_of_ble_eq_true rfl) (Nat.le_refl _) (by show 0 + len ≤ len; omega) (g := (mkF m 36 #[.val (.ref a), .val (.ref b), .val (.int (Int32.ofNat o)), .val (.int (Int32.ofNat len)), .val .null, .unset] [.int (Int32.ofNat len), .int (Int32.ofNat o), .ref b])) rfl (by rw [hml]; rfl) c7 (argsL := [.ref b, .int (Int32.ofNat o), .int (Int32.ofNat len)]) (rest := []) rfl rfl (by show 2 * 0 + 0 ≤ _; decide) (hb hbytes d36) (⟨rfl, hA.mv X5.warmed.alike hh5, l1, l2, hp⟩)
  obtain ⟨e8, z8⟩ := E8
  obtain ⟨rfl, N, n1, n2, n3, n4, n5, n6⟩ := NewArr.mv _ T5 s _ _ hh5.symm (Vm.Alike.refl _) rfl e8
  rw [hh5] at z8
  have hB1 := hB.keep X8.warmed.alike (n6 _ _ hB.1)
  have hne : s.heap.size ≠ a := (Nat.ne_of_lt (Array.getElem?_eq_some_iff.mp hB.1).1).symm
  have c9 : Steps p.tables e below (s₁.setTop (entryFrame m #[.ref a, .ref b, .int (Int32.ofNat o), .int (Int32.ofNat len), .null] 6)) (T8.setTop (mkF m 39 #[.val (.ref a), .val (.ref b), .val (.int (Int32.ofNat o)), .val (.int (Int32.ofNat len)), .val .null, .unset] [.ref s.heap.size])) := g8
  have c10 : Steps p.tables e below (s₁.setTop (entryFrame m #[.ref a, .ref b, .int (Int32.ofNat o), .int (Int32.ofNat len), .null] 6)) (T8.setTop (mkF m 45 #[.val (.ref a), .val (.ref b), .val (.int (Int32.ofNat o)), .val (.int (Int32.ofNat len)), .val .null, .val (.ref s.heap.size)] [.int (Int32.ofNat N.slots.size), .ref s.heap.size, .ref a])) := by
    have hc : Steps p.tables e below (s₁.setTop (entryFrame m #[.ref a, .ref b, .int (Int32.ofNat o), .int (Int32.ofNat len), .null] 6)) (T8.setTop (mkF m 45 #[.val (.ref a), .val (.ref b), .val (.int (Int32.ofNat o)), .val (.int (Int32.ofNat len)), .val .null, .val (.ref s.heap.size)] [.int (Int32.ofNat len), .ref s.heap.size, .ref a])) := c9.trans (by
      refine XS.astore X8.here hexec rfl (hb hbytes d39) rfl rfl rfl ?_
      refine XS.aloadN X8.here hexec rfl (hb hbytes d41) rfl rfl ?_
      refine XS.aload X8.here hexec rfl (hb hbytes d42) rfl rfl ?_
      refine XS.iloadN X8.here hexec rfl (hb hbytes d44) rfl ?_
      exact Steps.refl _)
    rw [n4]; exact hc
  obtain ⟨v11, T11, X11, E11, g11⟩ := X8.callS hexec (CodL.law l s.heap.size N) hown (wks W (staticW "java/lang/String" 47 CodL.yN)) (wk W CodL.tab) (W := 1) (Nat.le_of_ble_eq_true rfl) (Nat.le_of_ble_eq_true rfl) (Nat.le_refl _) (by show 0 + len + 0 ≤ len; omega) (g := (mkF m 45 #[.val (.ref a), .val (.ref b), .val (.int (Int32.ofNat o)), .val (.int (Int32.ofNat len)), .val .null, .val (.ref s.heap.size)] [.int (Int32.ofNat N.slots.size), .ref s.heap.size, .ref a])) rfl (by rw [hml]; rfl) c10 (argsL := [.ref s.heap.size, .int (Int32.ofNat N.slots.size)]) (rest := [.ref a]) rfl rfl (by show 2 * 0 + (1 + 0) ≤ _; decide) (hb hbytes d45) (⟨rfl, n1⟩)
  obtain ⟨rfl, q11⟩ := E11
  have hB11 := hB1.mv (X8.warmed.alike.symm.trans X11.warmed.alike) q11
  have c12 : Steps p.tables e below (s₁.setTop (entryFrame m #[.ref a, .ref b, .int (Int32.ofNat o), .int (Int32.ofNat len), .null] 6)) (T11.setTop (mkF m 48 #[.val (.ref a), .val (.ref b), .val (.int (Int32.ofNat o)), .val (.int (Int32.ofNat len)), .val .null, .val (.ref s.heap.size)] [.int 0, .ref a])) := g11
  obtain ⟨T13, X13, p13, bl13, sl13, st13⟩ := X11.finit hexec hown (wk W (.fieldLink "java/lang/String" 15 "java/lang/String" "coder" "B")) (Or.inr ⟨_, (wk W (.laysFinal "java/lang/String" "java/lang/String" "coder" "B"))⟩) (Or.inl ⟨rfl, hnm⟩) f2 (Or.inl rfl) hB11 (t := .byte) (by decide +kernel) rfl (g := (mkF m 48 #[.val (.ref a), .val (.ref b), .val (.int (Int32.ofNat o)), .val (.int (Int32.ofNat len)), .val .null, .val (.ref s.heap.size)] [.int 0, .ref a])) rfl (rest := []) rfl (hb hbytes d48)
  have c14 : Steps p.tables e below (s₁.setTop (entryFrame m #[.ref a, .ref b, .int (Int32.ofNat o), .int (Int32.ofNat len), .null] 6)) (T13.setTop (mkF m 54 #[.val (.ref a), .val (.ref b), .val (.int (Int32.ofNat o)), .val (.int (Int32.ofNat len)), .val .null, .val (.ref s.heap.size)] [.ref s.heap.size, .ref a])) := (c12.trans (st13 _ (Steps.refl _))).trans (by
    refine XS.aloadN X13.here hexec rfl (hb hbytes d51) rfl rfl ?_
    refine XS.aload X13.here hexec rfl (hb hbytes d52) rfl rfl ?_
    exact Steps.refl _)
  obtain ⟨T15, X15, p15, bl15, sl15, st15⟩ := X13.finit hexec hown (wk W (.fieldLink "java/lang/String" 9 "java/lang/String" "value" "[B")) (Or.inr ⟨_, (wk W (.laysFinal "java/lang/String" "java/lang/String" "value" "[B"))⟩) (Or.inl ⟨rfl, hnm⟩) f1 (Or.inl rfl) bl13 (t := (.array .byte)) (by decide +kernel) rfl (g := (mkF m 54 #[.val (.ref a), .val (.ref b), .val (.int (Int32.ofNat o)), .val (.int (Int32.ofNat len)), .val .null, .val (.ref s.heap.size)] [.ref s.heap.size, .ref a])) rfl (rest := []) rfl (hb hbytes d54)
  have c16 : Steps p.tables e below (s₁.setTop (entryFrame m #[.ref a, .ref b, .int (Int32.ofNat o), .int (Int32.ofNat len), .null] 6)) (T15.setTop (mkF m 57 #[.val (.ref a), .val (.ref b), .val (.int (Int32.ofNat o)), .val (.int (Int32.ofNat len)), .val .null, .val (.ref s.heap.size)] [])) := c14.trans (st15 _ (Steps.refl _))
  have ap := apart (Or.inr ⟨_, (wk W (.laysFinal "java/lang/String" "java/lang/String" "value" "[B"))⟩) (Or.inr ⟨_, (wk W (.laysFinal "java/lang/String" "java/lang/String" "coder" "B"))⟩) f1 f2 (t₁ := .array .byte) (t₂ := .byte) (by decide +kernel) (by decide +kernel) (by decide)
  have al := X8.warmed.alike.symm.trans X15.warmed.alike
  have n7 : T11.heap[s.heap.size]? = some N := by rw [q11]; exact n1.1
  exact ⟨T15, none, _, _, _, X15, by simp, rfl, by omega, (fun _ => rfl), ⟨rfl, _, N, bl15, ((Same.refl D _).set _ (by simp)).set _ (by simp), sl15, (Cell.slots_setSlot_ne _ ap).trans sl13, n1.keep al (p15.other hne (p13.other hne n7)), n2, by rw [al.findClass]; exact n3, n4, n5, fun y c h1 h2 => p15.other h1 (p13.other h1 (by rw [q11]; exact n6 y c h2)), by rw [p15.2.2, p13.2.2, q11]; exact z8⟩, fun fs hl => c16.trans (X15.returnOut hexec hret (hb hbytes d57) hl)⟩
end New4
namespace New1
def yN : MethodName := ⟨"java/lang/String", "<init>", "([C)V"⟩
abbrev yB : ByteArray := jdk_42_method_3_code
theorem d0 : decode yB 0 = .ok (.aload_n 0, 1) := by decide +kernel
theorem d1 : decode yB 1 = .ok (.aload_n 1, 1) := by decide +kernel
theorem d2 : decode yB 2 = .ok (.iconst 0, 1) := by decide +kernel
theorem d3 : decode yB 3 = .ok (.aload_n 1, 1) := by decide +kernel
theorem d4 : decode yB 4 = .ok (.arraylength, 1) := by decide +kernel
theorem d5 : decode yB 5 = .ok (.aconst_null, 1) := by decide +kernel
theorem d6 : decode yB 6 = .ok (.invokespecial 27, 3) := by decide +kernel
theorem d9 : decode yB 9 = .ok (.return_, 1) := by decide +kernel
def site : List Cond := [New4.tab] ++ initW "java/lang/String" 27 New4.yN
def tab : Cond := tabOf yN yB 2 none site
def P (a : Addr) (D : Cell) (fV fC : Field) (b : Addr) (A : Cell) (z : Int32) (args : Array Value) (s : State) : Prop := args = #[.ref a, .ref b] ∧ Blank "java/lang/String" a D s ∧ Found "java/lang/String" "value" "[B" fV s ∧ Found "java/lang/String" "coder" "B" fC s ∧ Ch b A s ∧ StaticIs s "java/lang/String" "COMPACT_STRINGS" "Z" (.int z) ∧ ¬ z = 0 ∧ 0 < A.slots.size ∧ A.slots.size ≤ 536870912 ∧ ∀ i, i < A.slots.size → ¬ 255 < cv A i
def E (a : Addr) (D : Cell) (fV fC : Field) (A : Cell) (r : Option Value) (s u : State) : Prop := Got a D fV fC A 0 A.slots.size r s u
/-- new String(chars), not empty, no char above 255: a Latin-1 String of their low bytes -/
theorem law (l : Launch) (a : Addr) (D : Cell) (fV fC : Field) (b : Addr) (A : Cell) (z : Int32) : Law l yN 2 1 3 52 yB 2 none site (P a D fV fC b A z) (E a D fV fC A) [⟨a, fC.slot⟩, ⟨a, fV.slot⟩] 1 A.slots.size := by
  refine Law.of_walk (plainFor_of_name (by decide +kernel)) (by decide +kernel) (by decide +kernel) (by decide) (fun _ _ h => by rw [h.1]; rfl) (fun _ U U' hal hh h => ⟨h.1, h.2.1.mv hal hh, h.2.2.1.al hal, h.2.2.2.1.al hal, h.2.2.2.2.1.mv hal hh, h.2.2.2.2.2.1.there hal hh, h.2.2.2.2.2.2⟩) (fun r U U' V V' h1 hal h2 h => Got.mv r U U' V V' h1 hal h2 h) ?_
  intro p e s m args below meth c s₁ X0 hexec hbytes hml hret hlk hnm hown hh0 W hP
  obtain ⟨rfl, hB, f1, f2, hA, s1, hz, l0, l2, hp⟩ := hP
  have c1 : Steps p.tables e below (s₁.setTop (entryFrame m #[.ref a, .ref b] 2)) (s₁.setTop (mkF m 0 #[.val (.ref a), .val (.ref b)] [])) := entry rfl
  have c2 : Steps p.tables e below (s₁.setTop (entryFrame m #[.ref a, .ref b] 2)) (s₁.setTop (mkF m 6 #[.val (.ref a), .val (.ref b)] [.null, .int (Int32.ofNat A.slots.size), .int 0, .ref b, .ref a])) := c1.trans (by
    refine XS.aloadN X0.here hexec rfl (hb hbytes d0) rfl rfl ?_
    refine XS.aloadN X0.here hexec rfl (hb hbytes d1) rfl rfl ?_
    refine iconstV X0.here hexec rfl 0 (hb hbytes d2) (by decide) ?_
    refine XS.aloadN X0.here hexec rfl (hb hbytes d3) rfl rfl ?_
    refine X0.alen hexec (hA.1.mv X0.warmed.alike hh0) rfl rfl (hb hbytes d4) ?_
    refine XS.aconstNull X0.here hexec rfl (hb hbytes d5) ?_
    exact Steps.refl _)
  obtain ⟨v3, T3, X3, E3, g3⟩ := X0.callN hexec (New4.law l a D fV fC b A z 0 A.slots.size) rfl hown (wks W (initW "java/lang/String" 27 New4.yN)) (W New4.tab (by simp only [site, List.mem_cons, List.mem_append, true_or, or_true])) (W := 0) (Nat.le_of_ble_eq_true rfl) (Nat.le_of_ble_eq_true rfl) (Nat.le_refl _) (by show 0 + A.slots.size ≤ A.slots.size; omega) (g := (mkF m 6 #[.val (.ref a), .val (.ref b)] [.null, .int (Int32.ofNat A.slots.size), .int (Int32.ofNat 0), .ref b, .ref a])) rfl (by rw [hml]; rfl) c2 (argsL := [.ref b, .int (Int32.ofNat 0), .int (Int32.ofNat A.slots.size), .null]) (rest := []) rfl rfl (by show 2 * 0 + 0 ≤ _; decide) (hb hbytes d6) (⟨rfl, hB.mv X0.warmed.alike hh0, f1.al X0.warmed.alike, f2.al X0.warmed.alike, hA.mv X0.warmed.alike hh0, s1.there X0.warmed.alike hh0, hz, l0, by omega, l2, fun i hi => by rw [Nat.zero_add]; exact hp i hi⟩)
  have e0 := Got.mv _ s₁ s _ _ hh0.symm (Vm.Alike.refl _) rfl E3
  obtain rfl := e0.1
  have c4 : Steps p.tables e below (s₁.setTop (entryFrame m #[.ref a, .ref b] 2)) (T3.setTop (mkF m 9 #[.val (.ref a), .val (.ref b)] [])) := g3
  exact ⟨T3, none, _, _, _, X3, by simp, rfl, by omega, (fun _ => rfl), e0, fun fs hl => c4.trans (X3.returnOut hexec hret (hb hbytes d9) hl)⟩
theorem pays {l : Launch} {R : Room} {p : Program} {e : Env} {below : List Frame} {s : State} {sargs : Array Value} {len W : Nat} (a : Addr) (D : Cell) (fV fC : Field) (b : Addr) (A : Cell) (z : Int32) (htab : tab.before sargs s = true) (hfr : 4 ≤ R.frames) (hlo : W + 65 ≤ R.locals) :
    Back l R p e below s sargs yN len W (fun A₁ a₁ => A₁.cells + 1 ≤ R.cells ∧ A₁.slots + A.slots.size ≤ R.slots ∧ P a D fV fC b A z a₁ A₁.U) (fun A₁ _ v₁ B₁ => E a D fV fC A v₁ A₁.U B₁.U ∧ B₁.locs = A₁.locs ++ [⟨a, fC.slot⟩, ⟨a, fV.slot⟩] ∧ B₁.cells = A₁.cells + 1 ∧ B₁.slots = A₁.slots + A.slots.size) :=
  (law l a D fV fC b A z).pays htab hfr (by omega)
end New1
/-- the byte, read back as charAt reads it, is the char -/
theorem lo8_mask {x : Int32} (h0 : ¬ x < 0) (h1 : ¬ 255 < x) : lo8 x &&& 255 = x := by
  have t : ∀ k : Fin 256, lo8 (Int32.ofNat k.val) &&& 255 = Int32.ofNat k.val := by decide +kernel
  rw [Int32.lt_iff_toInt_lt] at h0 h1
  have e0 : (0 : Int32).toInt = 0 := rfl
  have e1 : (255 : Int32).toInt = 255 := rfl
  obtain ⟨k, hk⟩ : ∃ k : Nat, x.toInt = k := ⟨x.toInt.toNat, by omega⟩
  have hx : x = Int32.ofNat k := Int32.toInt_inj.mp (by rw [hk, Int32.toInt_ofNat_small (by omega)])
  rw [hx]
  exact t ⟨k, by omega⟩
end StrChars
namespace StrChars.Road
open Jvm Sem ClassFile Op Lib Jvm.Stand Jvm.Free Jvm.Free.XT
open Jvm.Lib.Cold (StaticIs)
abbrev ST : String := "java/lang/String"
/-- every table word that New1's law asks, flat -/
abbrev words : List Jvm.Cond := [.code New1.yN New1.yB 2 none, .initialized ST, .methodLink ST 27 New4.yN, .instanceMethod New4.yN,
  .code New4.yN New4.yB 6 none, .fieldLink ST 38 ST "COMPACT_STRINGS" "Z", .laysFinal ST ST "value" "[B", .fieldLink ST 9 ST "value" "[B", .laysFinal ST ST "coder" "B", .fieldLink ST 15 ST "coder" "B",
  .methodLink ST 1 Lib.objectInit, .instanceMethod Lib.objectInit, .code Lib.objectInit ⟨#[0xb1]⟩ 1 none, .methodLink ST 177 Cmp3.yN, .static Cmp3.yN, .methodLink ST 47 CodL.yN, .static CodL.yN,
  .code Cmp3.yN Cmp3.yB 6 (some (.array .byte)), .initialized U16, .arrayClass .byte, .methodLink U16 115 Cmp5.yN, .static Cmp5.yN, .code Cmp5.yN Cmp5.yB 7 (some .int), .code CodL.yN CodL.yB 2 (some .byte)]
theorem tab_of {a : Array Value} {s : State} (h : ∀ w ∈ words, w.before a s = true) : New1.tab.before a s = true := by
  have h5 : Cmp5.tab.before a s = true := unparts (wk h (.code Cmp5.yN Cmp5.yB 7 (some .int))) (wks h (.initialized Cmp5.yN.cls :: Cmp5.site))
  have hc : CodL.tab.before a s = true := unparts (wk h (.code CodL.yN CodL.yB 2 (some .byte))) (wks h (.initialized CodL.yN.cls :: CodL.site))
  have q5 : ∀ w ∈ Cmp5.tab :: words, w.before a s = true := fun w hw => (List.mem_cons.mp hw).elim (fun e => e ▸ h5) (h w)
  have h3 : Cmp3.tab.before a s = true := unparts (wk q5 (.code Cmp3.yN Cmp3.yB 6 (some (.array .byte)))) (wks q5 (.initialized Cmp3.yN.cls :: Cmp3.site))
  have q3 : ∀ w ∈ Cmp3.tab :: CodL.tab :: words, w.before a s = true := fun w hw => (List.mem_cons.mp hw).elim (fun e => e ▸ h3) fun hw => (List.mem_cons.mp hw).elim (fun e => e ▸ hc) (h w)
  have h4 : New4.tab.before a s = true := unparts (wk q3 (.code New4.yN New4.yB 6 none)) (wks q3 (.initialized New4.yN.cls :: New4.site))
  have q4 : ∀ w ∈ New4.tab :: words, w.before a s = true := fun w hw => (List.mem_cons.mp hw).elim (fun e => e ▸ h4) (h w)
  exact unparts (wk q4 (.code New1.yN New1.yB 2 none)) (wks q4 (.initialized New1.yN.cls :: New1.site))
/-- the words ride from the start Z to the walk's own state -/
theorem moved {Z s : State} {a0 args : Array Value} (hZ : Z.Warmed39 s.vm) (hw : ∀ d ∈ words, d.before a0 Z = true) : ∀ d ∈ words, d.before args s = true := fun d hd => by
  have q := hw d hd
  have t : ∀ d ∈ words, d = .arrayClass .byte ∨ (d.onTables && d.keepsFace) = true := by decide +kernel
  rcases t d hd with rfl | t
  · exact RoadKit.mvA hZ q
  · exact RoadKit.mv hZ q t
/-- WHAT COMES BACK, over the tables of the start Z: h the heap at the call, h' behind it -/
def Q (Z : State) (x : Addr) (A : Cell) (h : Heap) (v : Option Value) (h' : Heap) (L : List Loc) : Prop := v = none ∧ (∀ y ∈ L, y.base = x) ∧ RoadKit.Keep h h' [x] ∧ h'.size = h.size + 1 ∧ RoadKit.Exa Z h' x ST ∧ RoadKit.Fld Z h' x ST "value" "[B" (.ref h.size) ∧ RoadKit.Fld Z h' x ST "coder" "B" (.int 0) ∧
  (∃ V : Cell, RoadKit.Arr Z h' h.size V .byte ∧ V.vm = .none ∧ Z.vm.findClass "[B" = some V.cls ∧ V.slots.size = A.slots.size ∧ ∀ j, j < A.slots.size → V.slots[j]? = some (.int (lo8 (cv A j)))) ∧
  ∀ (O n d : String) (w : Value), RoadKit.Fld Z h x O n d w → RoadKit.slotOf Z O n d ≠ RoadKit.slotOf Z ST "value" "[B" → RoadKit.slotOf Z O n d ≠ RoadKit.slotOf Z ST "coder" "B" → RoadKit.Fld Z h' x O n d w
/-- **new String(chars) AT A CALL, IN THE ROAD'S FORM**: for specialBack behind newO: x the fresh String, b the char[] with the cell A -/
theorem back {p : Program} {l : Launch} {e : Env} {R : Room} {s : State} {args : Array Value} {below : List Frame} {len W : Nat} {Z : State} {a0 : Array Value} {h : Heap} (hZ : Z.Warmed39 s.vm) (hw : ∀ d ∈ words, d.before a0 Z = true) {kI : Nat} (wi : (Jvm.Cond.instantiable ST kI).before a0 Z = true)
    {x b : Addr} {A : Cell} {z : Int32} {v0 c0 : Value} (E : RoadKit.Exa Z h x ST) (V : RoadKit.Fld Z h x ST "value" "[B" v0) (C : RoadKit.Fld Z h x ST "coder" "B" c0) (K : RoadKit.Arr Z h b A .char) (hty : Typed .char A) (S : RoadKit.Sta Z h ST "COMPACT_STRINGS" "Z" (.int z)) (hz : ¬ z = 0)
    (l0 : 0 < A.slots.size) (l2 : A.slots.size ≤ 536870912) (hp : ∀ i, i < A.slots.size → ¬ 255 < cv A i) (hfr : 4 ≤ R.frames) (hlo : W + 65 ≤ R.locals) :
    Back l R p e below s args New1.yN len W (fun P a => a = #[.ref x, .ref b] ∧ P.U.heap = h ∧ P.cells + 1 ≤ R.cells ∧ P.slots + A.slots.size ≤ R.slots)
      (fun P _ v B => ∃ L, Q Z x A h v B.U.heap L ∧ B.locs = P.locs ++ L ∧ B.cells = P.cells + 1 ∧ B.slots = P.slots + A.slots.size) := by
  intro m meth c P g ig mk a X hg hsize hdg hW hn hp'
  obtain ⟨rfl, rfl, r1, r2⟩ := hp'
  have al : Z.vm.Alike P.U.vm := hZ.alike.trans X.warmed.alike
  obtain ⟨D, cfV, kV, iV, fV, hD, gV, stV, knV, obV, asV, slV⟩ := id V
  obtain ⟨D', cfC, kC, iC, fC, hD', gC, stC, -, -, asC, slC⟩ := id C
  cases hD.symm.trans hD'
  obtain ⟨D2, kD, e1, e2, e3, e4, e5⟩ := id E
  cases hD.symm.trans e1
  obtain ⟨c2, k2, i1, i2, i3, -⟩ := Cond.instantiable_spec wi
  cases e2.symm.trans i1
  cases e3.symm.trans i2
  obtain ⟨kU, u1, u2⟩ := al.2.2 _ _ e3
  have hB : Blank ST x D P.U := ⟨hD, ⟨knV, fun q hq => by rw [hq] at obV; cases obV⟩, by rw [al.findClass]; exact e2, kU, u1, by rw [u2]; exact i3, by rw [u2]; exact e5 i3⟩
  have F1 : Found ST "value" "[B" fV P.U := ⟨SBG.found_only al ⟨cfV, kV, iV, gV⟩, stV⟩
  have F2 : Found ST "coder" "B" fC P.U := ⟨SBG.found_only al ⟨cfC, kC, iC, gC⟩, stC⟩
  have hA : Ch b A P.U := ⟨⟨K.1, State.isArrayOf_alike al K.2.1, K.2.2, by omega⟩, hty⟩
  have hS : StaticIs P.U ST "COMPACT_STRINGS" "Z" (.int z) := by
    obtain ⟨cfS, iS, kS, fS, st, cS, t1, t2, t3, t4, t5, t6, t7⟩ := S
    exact StaticIs.there (s := { Z with heap := P.U.heap }) ⟨cfS, iS, kS, fS, st, cS, t1, t2, t3, t4, t5, (fun q => by rw [q] at t6; cases t6), t7⟩ al rfl
  obtain ⟨v, B, X', ⟨⟨hv, E', V', q1, q2, q3, q4, q5, q6, q7, q8, q9, q10, q11⟩, hl, hc, hs⟩, st⟩ := New1.pays x D fV fC b A z (tab_of (moved hZ hw)) hfr hlo m meth c P g ig mk _ X hg hsize hdg hW hn ⟨r1, r2, rfl, hB, F1, F2, hA, hS, hz, l0, l2, hp⟩
  have al' : Z.vm.Alike B.U.vm := hZ.alike.trans X'.warmed.alike
  have hsz : E'.slots.size = D.slots.size := by
    obtain ⟨-, -, -, kB, w1, w2, w3⟩ := q1
    obtain ⟨kB', y1, y2⟩ := al'.2.2 _ _ e3
    rw [q2.2.1] at w1
    cases w1.symm.trans y1
    rw [w3, e5 i3, y2]
  refine ⟨v, B, X', ⟨_, ⟨hv, ?_, ⟨by omega, fun y cy hy hn' => q10 y cy (by simpa using hn') hy, fun y cy hy => ?_⟩, q11, ⟨E', _, q1.1, by rw [q2.2.1]; exact e2, by rw [q2.2.1]; exact e3, by rw [q2.1]; exact obV, fun _ => by rw [hsz]; exact e5 i3⟩,
    ⟨E', cfV, kV, iV, fV, q1.1, gV, stV, by rw [q2.1]; exact knV, by rw [q2.1]; exact obV, by rw [q2.2.1]; exact asV, q3⟩, ⟨E', cfC, kC, iC, fC, q1.1, gC, stC, by rw [q2.1]; exact knV, by rw [q2.1]; exact obV, by rw [q2.2.1]; exact asC, q4⟩,
    ⟨V', ⟨q5.1, State.isArrayOf_alike al'.symm q5.2.1, q5.2.2.1⟩, q6, by rw [← al'.findClass]; exact q7, q8, fun j hj => by have := q9 j hj; rwa [Nat.zero_add] at this⟩, fun O n d w F n1 n2 => ?_⟩, hl, hc, hs⟩, st⟩
  · intro y hy
    simp only [List.mem_cons, List.not_mem_nil, or_false] at hy
    rcases hy with rfl | rfl <;> rfl
  · by_cases q : y = x
    · subst q
      cases hD.symm.trans hy
      exact ⟨E', q1.1, q2.2.1, q2.1, hsz⟩
    · exact ⟨cy, q10 y cy q hy, rfl, rfl, rfl⟩
  · obtain ⟨D3, cf, k, i, f, g1, g2, g3, g4, g5, g6, g7⟩ := F
    cases hD.symm.trans g1
    simp only [RoadKit.slotOf, g2, gV, gC, Option.map_some, Option.getD_some] at n1 n2
    exact ⟨E', cf, k, i, f, q1.1, g2, g3, by rw [q2.1]; exact g4, by rw [q2.1]; exact g5, by rw [q2.2.1]; exact g6, by rw [q2.2.2 f.slot (by simp [n1, n2])]; exact g7⟩
end StrChars.Road
namespace StrChars.Road
open Jvm Sem ClassFile Op Lib Jvm.Stand Jvm.Free Jvm.Free.XT
/-- WHAT COMES BACK, the byte[] as a list of values -/
def QA (Z : State) (x : Addr) (zn : Int32) (cs : List Int32) (h : Heap) (v : Option Value) (h' : Heap) (L : List Loc) : Prop := v = none ∧ (∀ y ∈ L, y.base = x) ∧ RoadKit.Keep h h' [x] ∧ h'.size = h.size + 1 ∧ RoadKit.Exa Z h' x ST ∧ RoadKit.Fld Z h' x ST "value" "[B" (.ref h.size) ∧ RoadKit.Fld Z h' x ST "coder" "B" (.int 0) ∧
  (∃ kb, Z.vm.findClass "[B" = some kb ∧ RoadKit.Arv Z h' h.size kb .byte zn (cs.map fun c => .int (lo8 c)) (.int 0)) ∧
  ∀ (O n d : String) (w : Value), RoadKit.Fld Z h x O n d w → RoadKit.slotOf Z O n d ≠ RoadKit.slotOf Z ST "value" "[B" → RoadKit.slotOf Z O n d ≠ RoadKit.slotOf Z ST "coder" "B" → RoadKit.Fld Z h' x O n d w
/-- **new String(chars) AT A CALL, THE ARRAYS AS LISTS**: the char[] at b holds cs, not empty, no char above 255 -/
theorem backArv {p : Program} {l : Launch} {e : Env} {R : Room} {s : State} {args : Array Value} {below : List Frame} {len W : Nat} {Z : State} {a0 : Array Value} {h : Heap} (hZ : Z.Warmed39 s.vm) (hw : ∀ d ∈ words, d.before a0 Z = true) {kI : Nat} (wi : (Jvm.Cond.instantiable ST kI).before a0 Z = true)
    {x b : Addr} {k : ClassId} {zn z : Int32} {cs : List Int32} {dv v0 c0 : Value} (E : RoadKit.Exa Z h x ST) (V : RoadKit.Fld Z h x ST "value" "[B" v0) (C : RoadKit.Fld Z h x ST "coder" "B" c0) (K : RoadKit.Arv Z h b k .char zn (cs.map Value.int) dv) (S : RoadKit.Sta Z h ST "COMPACT_STRINGS" "Z" (.int z)) (hz : ¬ z = 0)
    (hlen : zn.toNatClampNeg = cs.length) (h0 : 0 < cs.length) (hbig : cs.length ≤ 536870912) (hall : ∀ c ∈ cs, ¬ 255 < c) (hfr : 4 ≤ R.frames) (hlo : W + 65 ≤ R.locals) :
    Back l R p e below s args New1.yN len W (fun P a => a = #[.ref x, .ref b] ∧ P.U.heap = h ∧ P.cells + 1 ≤ R.cells ∧ P.slots + cs.length ≤ R.slots)
      (fun P _ v B => ∃ L, QA Z x zn cs h v B.U.heap L ∧ B.locs = P.locs ++ L ∧ B.cells = P.cells + 1 ∧ B.slots = P.slots + cs.length) := by
  obtain ⟨A, K1, K2, K3, K4, K5, K6⟩ := K
  have e : A.slots.size = cs.length := K3.trans hlen
  have hat : ∀ (i : Nat) (hi : i < cs.length), A.slots[i]? = some (.int cs[i]) := fun i hi => by rw [K5 i (by omega)]; simp [List.getD_eq_getElem?_getD, hi]
  have hcv : ∀ (i : Nat) (hi : i < cs.length), cv A i = cs[i] := fun i hi => by unfold cv; rw [hat i hi]
  have hty : Typed .char A := fun i v hv => by
    have hi : i < A.slots.size := (Array.getElem?_eq_some_iff.mp hv).1
    have q := K5 i hi
    rw [hv] at q
    rw [Option.some.inj q]
    exact K6 i hi
  refine Back.mono (back hZ hw wi E V C K1 hty S hz (by omega) (by omega) (fun i hi => by rw [hcv i (by omega)]; exact hall _ (List.getElem_mem _)) hfr hlo) (fun P a hp => ⟨hp.1, hp.2.1, hp.2.2.1, by rw [e]; exact hp.2.2.2⟩) (fun P a v B hp hq => ?_)
  obtain ⟨L, ⟨q1, q2, q3, q4, q5, q6, q7, ⟨V', v1, v2, v3, v4, v5⟩, q9⟩, hl, hc, hs⟩ := hq
  refine ⟨L, ⟨q1, q2, q3, q4, q5, q6, q7, ⟨V'.cls, v3, V', v1, rfl, by rw [v4, e, hlen], K4, fun i hi => ?_, fun i hi => ?_⟩, q9⟩, hl, hc, by rw [hs, e]⟩
  · have hi' : i < cs.length := by omega
    rw [v5 i (by omega), hcv i hi']; simp [List.getD_eq_getElem?_getD, hi']
  · have hi' : i < cs.length := by omega
    simp only [List.getD_eq_getElem?_getD, List.getElem?_map, List.getElem?_eq_getElem hi', Option.map_some, Option.getD_some]
    exact fits_lo8 _
end StrChars.Road
namespace StrChars.Road
open Jvm Sem ClassFile Op Lib Jvm.Stand Jvm.Free Jvm.Free.XT
/-- WHAT COMES BACK, in the writer's own shape -/
def QV (Z : State) (x : Addr) (N : Int32) (bs : List Int32) (h : Heap) (n0 : Nat) (v : Option Value) (h' : Heap) (L : List Loc) : Prop := v = none ∧ RoadKit.Fr n0 L ∧ RoadKit.Keep h h' [x] ∧ RoadKit.Exa Z h' x ST ∧ RoadKit.Fld Z h' x ST "coder" "B" (.int 0) ∧
  ∃ (t : Addr) (kb : ClassId), n0 ≤ t ∧ h.size ≤ t ∧ ¬ t = x ∧ RoadKit.Fld Z h' x ST "value" "[B" (.ref t) ∧ RoadKit.Arv Z h' t kb .byte N (bs.map Value.int) (.int 0)
/-- **new String(chars) AT A CALL, FOR THE WRITER**: a char[] of n known ints, each 0 to 255 -/
theorem backV {p : Program} {l : Launch} {e : Env} {R : Room} {s : State} {args : Array Value} {below : List Frame} {len W : Nat} {Z : State} {a0 : Array Value} {h : Heap} (hZ : Z.Warmed39 s.vm) (hw : ∀ d ∈ words, d.before a0 Z = true) {kI : Nat} (wi : (Jvm.Cond.instantiable ST kI).before a0 Z = true)
    {x b : Addr} {kC : ClassId} {cs bs : List Int32} {d v0 c0 : Value} {z N : Int32} {n n0 : Nat} (hx0 : n0 ≤ x) (hh0 : n0 ≤ h.size) (E : RoadKit.Exa Z h x ST) (V : RoadKit.Fld Z h x ST "value" "[B" v0) (C : RoadKit.Fld Z h x ST "coder" "B" c0) (K : RoadKit.Arv Z h b kC .char N (cs.map Value.int) d) (S : RoadKit.Sta Z h ST "COMPACT_STRINGS" "Z" (.int z)) (hz : ¬ z = 0)
    (hn : cs.length = n) (hN : N = Int32.ofNat n) (l0 : 0 < n) (l2 : n ≤ 4000) (hp : ∀ c ∈ cs, ¬ c < 0 ∧ ¬ (255 : Int32) < c) (hb : bs = cs.map (fun c => c.toInt8.toInt32)) (hfr : 4 ≤ R.frames) (hlo : W + 65 ≤ R.locals) :
    Back l R p e below s args (⟨"java/lang/String", "<init>", "([C)V"⟩ : MethodName) len W (fun P a => a = #[.ref x, .ref b] ∧ P.U.heap = h ∧ P.cells + 1 ≤ R.cells ∧ P.slots + n ≤ R.slots)
      (fun P _ v B => ∃ L, QV Z x N bs h n0 v B.U.heap L ∧ B.locs = P.locs ++ L ∧ B.cells = P.cells + 1 ∧ B.slots = P.slots + n) := by
  subst hn hN hb
  refine Back.mono (backArv hZ hw wi E V C K S hz (n32 (by omega)) l0 (by omega) (fun c hc => (hp c hc).2) hfr hlo) (fun P a hp => hp) (fun P a v B hp hq => ?_)
  obtain ⟨L, ⟨q1, q2, q3, q4, q5, q6, q7, ⟨kb, v1, v2⟩, q9⟩, hl, hc, hs⟩ := hq
  exact ⟨L, ⟨q1, fun y hy => by rw [q2 y hy]; exact hx0, q3, q5, q7, h.size, kb, hh0, Nat.le_refl _, Nat.ne_of_gt E.lt, q6, by rw [List.map_map]; exact v2⟩, hl, hc, hs⟩
end StrChars.Road
namespace StrChars
open Jvm Sem ClassFile Op Lib Jvm.Stand Jvm.Free.XT Jvm.Free.ALB Jvm.Free.JM Jvm.Free
open Jvm.Lib.Cold (StaticIs)
def hi8 (x : Int32) : Int32 := lo8 (x >>> ((8 : Int32) &&& 31))
/-- what StringUTF16.getChar makes of two bytes -/
def pairCh (u v : Int32) : Int32 := (((u &&& 255) <<< ((0 : Int32) &&& 31)) ||| ((v &&& 255) <<< ((8 : Int32) &&& 31))).toUInt32.toUInt16.toUInt32.toInt32
theorem lo8_and (x : Int32) : (lo8 x &&& 255).toBitVec.toNat = x.toBitVec.toNat % 256 := by
  have h : (lo8 x).toBitVec = (x.toBitVec.signExtend 8).signExtend 32 := by rw [lo8, Int8.toBitVec_toInt32, Int32.toBitVec_toInt8]
  rw [Int32.toBitVec_and, BitVec.toNat_and, h]
  have e : ((x.toBitVec.signExtend 8).signExtend 32).toNat % 256 = x.toBitVec.toNat % 256 := by
    rw [BitVec.toNat_signExtend]
    have hlt := x.toBitVec.isLt
    simp only [BitVec.toNat_setWidth, BitVec.toNat_signExtend]
    split <;> split <;> omega
  rw [← e]
  exact Nat.and_two_pow_sub_one_eq_mod _ 8
theorem pair_says {c : Int32} (h0 : ¬ c < 0) (h1 : ¬ 65535 < c) : pairCh (lo8 c) (hi8 c) = c := by
  rw [Int32.lt_iff_toInt_lt] at h0 h1
  have e0 : (0 : Int32).toInt = 0 := rfl
  have e1 : (65535 : Int32).toInt = 65535 := rfl
  have hc : c.toInt = c.toBitVec.toNat := by
    have := c.toBitVec.isLt
    have e : c.toInt = c.toBitVec.toInt := rfl
    rw [e] at h0 h1
    rw [e]
    rw [BitVec.toInt_eq_toNat_cond] at h0 h1 ⊢
    split at h0 <;> split <;> omega
  have hn : c.toBitVec.toNat < 65536 := by omega
  have a1 := lo8_and c
  have a2 : (hi8 c &&& 255).toBitVec.toNat = c.toBitVec.toNat / 256 := by
    rw [hi8, lo8_and]
    have e : ((8 : Int32) &&& 31) = 8 := by decide
    rw [e, Int32.toBitVec_shiftRight]
    have e2 : ((8 : Int32).toBitVec.smod 32) = 8#32 := by decide
    rw [e2, BitVec.sshiftRight_eq', BitVec.toNat_sshiftRight_of_msb_false (by rw [BitVec.msb_eq_false_iff_two_mul_lt]; omega)]
    show c.toBitVec.toNat >>> 8 % 256 = _
    rw [Nat.shiftRight_eq_div_pow]
    omega
  unfold pairCh
  apply Int32.toBitVec_inj.mp
  apply BitVec.eq_of_toNat_eq
  have f0 : ((0 : Int32) &&& 31) = 0 := by decide
  have f8 : ((8 : Int32) &&& 31) = 8 := by decide
  rw [f0, f8]
  have g : (((lo8 c &&& 255) <<< (0 : Int32)) ||| ((hi8 c &&& 255) <<< (8 : Int32))).toBitVec.toNat = c.toBitVec.toNat := by
    rw [Int32.toBitVec_or, Int32.toBitVec_shiftLeft, Int32.toBitVec_shiftLeft]
    have s0 : ((0 : Int32).toBitVec.smod 32) = 0#32 := by decide
    have s8 : ((8 : Int32).toBitVec.smod 32) = 8#32 := by decide
    rw [s0, s8, BitVec.toNat_or]
    simp only [BitVec.shiftLeft_eq', BitVec.toNat_shiftLeft, a1, a2]
    show (c.toBitVec.toNat % 256) <<< 0 % 2 ^ 32 ||| (c.toBitVec.toNat / 256) <<< 8 % 2 ^ 32 = _
    rw [Nat.shiftLeft_zero, Nat.mod_eq_of_lt (show c.toBitVec.toNat % 256 < 2 ^ 32 by omega), Nat.mod_eq_of_lt (show (c.toBitVec.toNat / 256) <<< 8 < 2 ^ 32 by rw [Nat.shiftLeft_eq]; omega), Nat.or_comm, ← Nat.shiftLeft_add_eq_or_of_lt (by omega), Nat.shiftLeft_eq]
    omega
  show BitVec.toNat (((((lo8 c &&& 255) <<< (0 : Int32)) ||| ((hi8 c &&& 255) <<< (8 : Int32))).toBitVec.setWidth 16).setWidth 32) = _
  rw [BitVec.toNat_setWidth, BitVec.toNat_setWidth, g]
  omega
end StrChars
namespace StrChars
open Jvm Sem ClassFile Op Lib Jvm.Stand Jvm.Free.XT Jvm.Free.ALB Jvm.Free.JM Jvm.Free
open Jvm.Lib.Cold (StaticIs)
/-- charAt's cast of a byte read back -/
def chr8 (u : Int32) : Int32 := (u &&& 255).toUInt32.toUInt16.toUInt32.toInt32
theorem chr8_lo8 {c : Int32} (h0 : ¬ c < 0) (h1 : ¬ 255 < c) : chr8 (lo8 c) = c := by
  have t : ∀ k : Fin 256, (Int32.ofNat k.val).toUInt32.toUInt16.toUInt32.toInt32 = Int32.ofNat k.val := by decide +kernel
  unfold chr8
  rw [lo8_mask h0 h1]
  rw [Int32.lt_iff_toInt_lt] at h0 h1
  have e0 : (0 : Int32).toInt = 0 := rfl
  have e1 : (255 : Int32).toInt = 255 := rfl
  obtain ⟨k, hk⟩ : ∃ k : Nat, c.toInt = k := ⟨c.toInt.toNat, by omega⟩
  have hx : c = Int32.ofNat k := Int32.toInt_inj.mp (by rw [hk, Int32.toInt_ofNat_small (by omega)])
  rw [hx]
  exact t ⟨k, by omega⟩
theorem narrow_ch {c : Int32} (h0 : ¬ c < 0) (h1 : ¬ 65535 < c) : narrow .char (.int c) = .int c := by
  have q : narrow .char (.int (pairCh (lo8 c) (hi8 c))) = .int (pairCh (lo8 c) (hi8 c)) := narrow_c _
  rwa [pair_says h0 h1] at q
/-- the array's cell V codes the n chars f 0 .. f (n - 1) by the coder cd, as the JDK does: coder 1 just where some char is above 255 -/
def Cod (cd : Int32) (n : Nat) (f : Nat → Int32) (V : Cell) : Prop := (cd = 0 ∧ V.slots.size = n ∧ ∀ j, j < n → V.slots[j]? = some (.int (lo8 (f j))) ∧ ¬ 255 < f j) ∨ (cd = 1 ∧ V.slots.size = 2 * n ∧ (∀ j, j < n → V.slots[2 * j]? = some (.int (lo8 (f j))) ∧ V.slots[2 * j + 1]? = some (.int (hi8 (f j)))) ∧ ∃ j, j < n ∧ 255 < f j)
theorem Cod.cd {cd : Int32} {n : Nat} {f : Nat → Int32} {V : Cell} (h : Cod cd n f V) : cd = 0 ∨ cd = 1 := h.imp (fun q => q.1) fun q => q.1
/-- **x is a String of the n chars f 0 .. f (n - 1)**, Latin-1 or UTF-16; its array at t has the cell V -/
def Txt (x t : Addr) (V : Cell) (cd : Int32) (n : Nat) (f : Nat → Int32) (U : State) : Prop := Exact "java/lang/String" x U ∧ Has x "java/lang/String" "value" "[B" (.ref t) U ∧ Has x "java/lang/String" "coder" "B" (.int cd) U ∧ XT.Arr .byte t V U ∧ Cod cd n f V ∧ ∀ j, j < n → ¬ f j < 0 ∧ ¬ 65535 < f j
theorem Txt.mv {x t : Addr} {V : Cell} {cd : Int32} {n : Nat} {f : Nat → Int32} {U U' : State} (h : Txt x t V cd n f U) (hal : U.vm.Alike U'.vm) (hh : U'.heap = U.heap) : Txt x t V cd n f U' := ⟨h.1.mv hal hh, h.2.1.mv hal hh, h.2.2.1.mv hal hh, h.2.2.2.1.mv hal hh, h.2.2.2.2⟩
namespace IsL
def yN : MethodName := ⟨"java/lang/String", "isLatin1", "()Z"⟩
abbrev yB : ByteArray := jdk_42_method_154_code
theorem d0 : decode yB 0 = .ok (.getstatic 38, 3) := by decide +kernel
theorem d3 : decode yB 3 = .ok (.ifCond (.eq) 14, 3) := by decide +kernel
theorem d6 : decode yB 6 = .ok (.aload_n 0, 1) := by decide +kernel
theorem d7 : decode yB 7 = .ok (.getfield 15, 3) := by decide +kernel
theorem d10 : decode yB 10 = .ok (.ifCond (.ne) 7, 3) := by decide +kernel
theorem d13 : decode yB 13 = .ok (.iconst 1, 1) := by decide +kernel
theorem d14 : decode yB 14 = .ok (.goto 4, 3) := by decide +kernel
theorem d17 : decode yB 17 = .ok (.iconst 0, 1) := by decide +kernel
theorem d18 : decode yB 18 = .ok (.ireturn, 1) := by decide +kernel
def site : List Cond := [.fieldLink "java/lang/String" 38 "java/lang/String" "COMPACT_STRINGS" "Z", .fieldLink "java/lang/String" 15 "java/lang/String" "coder" "B"]
def tab : Cond := tabOf yN yB 1 (some .boolean) site
def P (x : Addr) (cd z : Int32) (args : Array Value) (s : State) : Prop := args = #[.ref x] ∧ Has x "java/lang/String" "coder" "B" (.int cd) s ∧ (cd = 0 ∨ cd = 1) ∧ StaticIs s "java/lang/String" "COMPACT_STRINGS" "Z" (.int z) ∧ ¬ z = 0
def E (cd : Int32) (r : Option Value) (s u : State) : Prop := XT.PureE (some (.int (1 - cd))) r s u
theorem law (l : Launch) (x : Addr) (cd z : Int32) : Law l yN 1 0 0 0 yB 1 (some .boolean) site (P x cd z) (E cd) [] 0 0 := by
  refine Law.of_walk (plainFor_of_name (by decide +kernel)) (by decide +kernel) (by decide +kernel) (by decide) (fun _ _ h => by rw [h.1]; rfl) (fun _ U U' hal hh h => ⟨h.1, h.2.1.mv hal hh, h.2.2.1, h.2.2.2.1.there hal hh, h.2.2.2.2⟩) (fun r U U' V V' h1 hal h2 h => XT.PureE.mv r U U' V V' h1 hal h2 h) ?_
  intro p e s m args below meth c s₁ X0 hexec hbytes hml hret hlk hnm hown hh0 W hP
  obtain ⟨rfl, hx, hc, s1, hz⟩ := hP
  have c1 : Steps p.tables e below (s₁.setTop (entryFrame m #[.ref x] 1)) (s₁.setTop (mkF m 0 #[.val (.ref x)] [])) := entry rfl
  obtain ⟨T2, X2, q2, st2⟩ := X0.sget hexec hown (wk W (.fieldLink "java/lang/String" 38 "java/lang/String" "COMPACT_STRINGS" "Z")) s1 (fun _ _ h => by rw [hh0]; exact h) (g := (mkF m 0 #[.val (.ref x)] [])) rfl (hb hbytes d0)
  have hh2 := q2.trans hh0
  have c3 : Steps p.tables e below (s₁.setTop (entryFrame m #[.ref x] 1)) (T2.setTop (mkF m 7 #[.val (.ref x)] [.ref x])) := (c1.trans (st2 _ (Steps.refl _))).trans (by
    refine XS.ifNo X2.here hexec rfl (hb hbytes d3) rfl (i0_eq_f hz) ?_
    refine XS.aloadN X2.here hexec rfl (hb hbytes d6) rfl rfl ?_
    exact Steps.refl _)
  obtain ⟨T4, X4, q4, st4⟩ := X2.hget hexec hown (wk W (.fieldLink "java/lang/String" 15 "java/lang/String" "coder" "B")) (hx.mv X2.warmed.alike hh2) (g := (mkF m 7 #[.val (.ref x)] [.ref x])) rfl (rest := []) rfl (hb hbytes d7)
  have c5 : Steps p.tables e below (s₁.setTop (entryFrame m #[.ref x] 1)) (T4.setTop (mkF m 10 #[.val (.ref x)] [.int cd])) := c3.trans (st4 _ (Steps.refl _))
  have c6 : Steps p.tables e below (s₁.setTop (entryFrame m #[.ref x] 1)) (T4.setTop (mkF m 18 #[.val (.ref x)] [.int (1 - cd)])) := by
    rcases hc with rfl | rfl
    · exact c5.trans (by
        refine XS.ifNo X4.here hexec rfl (hb hbytes d10) rfl (i0_ne_f rfl) ?_
        refine iconstV X4.here hexec rfl 1 (hb hbytes d13) (by decide) ?_
        refine XS.goto X4.here hexec rfl (pc0 := 14) rfl (hb hbytes d14) (by decide) rfl ?_
        exact Steps.refl _)
    · exact c5.trans (by
        refine XS.ifYes X4.here hexec rfl (pc0 := 10) rfl (hb hbytes d10) rfl (i0_ne_t (by decide)) (by decide) rfl ?_
        refine iconstV X4.here hexec rfl 0 (hb hbytes d17) (by decide) ?_
        exact Steps.refl _)
  exact ⟨T4, some (.int (1 - cd)), _, _, _, X4, rfl, rfl, rfl, (fun h => by cases h), ⟨rfl, q4.trans hh2⟩, fun fs hl => c6.trans (X4.ireturnOut hexec hret (by rcases hc with rfl | rfl <;> rfl) (Or.inr (Or.inl rfl)) (hb hbytes d18) hl)⟩
end IsL
namespace LChA
def yN : MethodName := ⟨"java/lang/StringLatin1", "charAt", "([BI)C"⟩
abbrev yB : ByteArray := jdk_43_method_2_code
theorem d0 : decode yB 0 = .ok (.iload_n 1, 1) := by decide +kernel
theorem d1 : decode yB 1 = .ok (.aload_n 0, 1) := by decide +kernel
theorem d2 : decode yB 2 = .ok (.arraylength, 1) := by decide +kernel
theorem d3 : decode yB 3 = .ok (.invokestatic 9, 3) := by decide +kernel
theorem d6 : decode yB 6 = .ok (.aload_n 0, 1) := by decide +kernel
theorem d7 : decode yB 7 = .ok (.iload_n 1, 1) := by decide +kernel
theorem d8 : decode yB 8 = .ok (.baload, 1) := by decide +kernel
theorem d9 : decode yB 9 = .ok (.sipush 255, 3) := by decide +kernel
theorem d12 : decode yB 12 = .ok (.iand, 1) := by decide +kernel
theorem d13 : decode yB 13 = .ok (.i2c, 1) := by decide +kernel
theorem d14 : decode yB 14 = .ok (.ireturn, 1) := by decide +kernel
def site : List Cond := [JO.Str_checkIndex.tab] ++ staticW "java/lang/StringLatin1" 9 JO.Str_checkIndex.yN
def tab : Cond := tabOf yN yB 2 (some .char) site
def P (t : Addr) (V : Cell) (i : Nat) (u : Int32) (fm : Value) (args : Array Value) (s : State) : Prop := args = #[.ref t, .int (Int32.ofNat i)] ∧ XT.Arr .byte t V s ∧ V.slots[i]? = some (.int u) ∧ (StaticIs s "jdk/internal/util/Preconditions" "SIOOBE_FORMATTER" "Ljava/util/function/BiFunction;" fm ∧ fm.isRef = true)
def E (u : Int32) (r : Option Value) (s w : State) : Prop := XT.PureE (some (.int (chr8 u))) r s w
theorem law (l : Launch) (t : Addr) (V : Cell) (i : Nat) (u : Int32) (fm : Value) : Law l yN 2 2 2 27 yB 2 (some .char) site (P t V i u fm) (E u) [] 0 0 := by
  refine Law.of_walk (plainFor_of_name (by decide +kernel)) (by decide +kernel) (by decide +kernel) (by decide) (fun _ _ h => by rw [h.1]; rfl) (fun _ U U' hal hh h => ⟨h.1, h.2.1.mv hal hh, h.2.2.1, h.2.2.2.1.there hal hh, h.2.2.2.2⟩) (fun r U U' V V' h1 hal h2 h => XT.PureE.mv r U U' V V' h1 hal h2 h) ?_
  intro p e s m args below meth c s₁ X0 hexec hbytes hml hret hlk hnm hown hh0 W hP
  obtain ⟨rfl, hV, hu, s1, rf⟩ := hP
  have v31 := hV.2.2.2
  have hi : i < V.slots.size := (Array.getElem?_eq_some_iff.mp hu).1
  have c1 : Steps p.tables e below (s₁.setTop (entryFrame m #[.ref t, .int (Int32.ofNat i)] 2)) (s₁.setTop (mkF m 0 #[.val (.ref t), .val (.int (Int32.ofNat i))] [])) := entry rfl
  have c2 : Steps p.tables e below (s₁.setTop (entryFrame m #[.ref t, .int (Int32.ofNat i)] 2)) (s₁.setTop (mkF m 3 #[.val (.ref t), .val (.int (Int32.ofNat i))] [.int (Int32.ofNat V.slots.size), .int (Int32.ofNat i)])) := c1.trans (by
    refine XS.iloadN X0.here hexec rfl (hb hbytes d0) rfl ?_
    refine XS.aloadN X0.here hexec rfl (hb hbytes d1) rfl rfl ?_
    refine X0.alen hexec (hV.mv X0.warmed.alike hh0) rfl rfl (hb hbytes d2) ?_
    exact Steps.refl _)
  obtain ⟨v3, T3, X3, E3, g3⟩ := X0.callS hexec (JO.Str_checkIndex.law l (Int32.ofNat i) (Int32.ofNat V.slots.size) fm) hown (wks W (staticW "java/lang/StringLatin1" 9 JO.Str_checkIndex.yN)) (wk W JO.Str_checkIndex.tab) (W := 0) (Nat.le_of_ble_eq_true rfl) (Nat.le_of_ble_eq_true rfl) (Nat.le_refl _) (Nat.le_refl _) (g := (mkF m 3 #[.val (.ref t), .val (.int (Int32.ofNat i))] [.int (Int32.ofNat V.slots.size), .int (Int32.ofNat i)])) rfl (by rw [hml]; rfl) c2 (argsL := [.int (Int32.ofNat i), .int (Int32.ofNat V.slots.size)]) (rest := []) rfl rfl (by show 2 * 0 + 0 ≤ _; decide) (hb hbytes d3) (⟨rfl, rf, s1.there X0.warmed.alike hh0, Int32.ofNat_not_neg (by omega), lt32 v31 hi⟩)
  obtain ⟨rfl, q3⟩ := E3
  have hh3 := q3.trans hh0
  have c4 : Steps p.tables e below (s₁.setTop (entryFrame m #[.ref t, .int (Int32.ofNat i)] 2)) (T3.setTop (mkF m 14 #[.val (.ref t), .val (.int (Int32.ofNat i))] [.int (chr8 u)])) := Steps.trans g3 (by
    refine XS.aloadN X3.here hexec rfl (hb hbytes d6) rfl rfl ?_
    refine XS.iloadN X3.here hexec rfl (hb hbytes d7) rfl ?_
    refine X3.aget hexec (hV.mv X3.warmed.alike hh3) rfl hu rfl rfl (hb hbytes d8) ?_
    refine sipushV X3.here hexec rfl 255 (hb hbytes d9) (by decide) ?_
    refine XS.iand X3.here hexec rfl (hb hbytes d12) rfl ?_
    refine i2c X3.here hexec rfl (hb hbytes d13) rfl ?_
    exact Steps.refl _)
  exact ⟨T3, some (.int (chr8 u)), _, _, _, X3, rfl, rfl, rfl, (fun h => by cases h), ⟨rfl, hh3⟩, fun fs hl => c4.trans (X3.ireturnOut hexec hret (narrow_c _) (Or.inr (Or.inr (Or.inr (Or.inl rfl)))) (hb hbytes d14) hl)⟩
end LChA
end StrChars
namespace StrChars.Road
open Jvm Sem ClassFile Op Lib Jvm.Stand Jvm.Free Jvm.Free.XT
open Jvm.Lib.Cold (StaticIs)
theorem consq {a : Array Value} {s : State} {c : Jvm.Cond} {L : List Jvm.Cond} (h0 : c.before a s = true) (h : ∀ w ∈ L, w.before a s = true) : ∀ w ∈ c :: L, w.before a s = true := fun w hw => (List.mem_cons.mp hw).elim (fun e => e ▸ h0) (h w)
/-- the bytes of the chars cs, low before high -/
def wideBytes : List Int32 → List Value
  | [] => []
  | c :: cs => .int (lo8 c) :: .int (hi8 c) :: wideBytes cs
theorem wide_lo (d : Value) : ∀ (cs : List Int32) (j : Nat), j < cs.length → (wideBytes cs).getD (2 * j) d = .int (lo8 (cs.getD j 0))
  | [], j, h => absurd h (Nat.not_lt_zero j)
  | c :: cs, 0, _ => rfl
  | c :: cs, j + 1, h => by
    have q := wide_lo d cs j (by simpa using h)
    rw [show 2 * (j + 1) = 2 * j + 1 + 1 from by omega]
    simpa [wideBytes] using q
theorem wide_hi (d : Value) : ∀ (cs : List Int32) (j : Nat), j < cs.length → (wideBytes cs).getD (2 * j + 1) d = .int (hi8 (cs.getD j 0))
  | [], j, h => absurd h (Nat.not_lt_zero j)
  | c :: cs, 0, _ => rfl
  | c :: cs, j + 1, h => by
    have q := wide_hi d cs j (by simpa using h)
    rw [show 2 * (j + 1) + 1 = 2 * j + 1 + 1 + 1 from by omega]
    simpa [wideBytes] using q
theorem low_at (d : Value) (cs : List Int32) (j : Nat) (h : j < cs.length) : (cs.map fun c => Value.int (lo8 c)).getD j d = .int (lo8 (cs.getD j 0)) := by
  simp [List.getD_eq_getElem?_getD, h]
/-- an array of N2 bytes vs codes the chars cs by the coder cd -/
def CodA (cs : List Int32) (cd N2 : Int32) (vs : List Value) : Prop := (cd = 0 ∧ N2 = Int32.ofNat cs.length ∧ vs = (cs.map fun c => Value.int (lo8 c)) ∧ ∀ c ∈ cs, ¬ 255 < c) ∨ (cd = 1 ∧ N2 = Int32.ofNat (2 * cs.length) ∧ vs = wideBytes cs ∧ ∃ c ∈ cs, 255 < c)
theorem CodA.cod {cs : List Int32} {cd N2 : Int32} {vs : List Value} {V : Cell} (h : CodA cs cd N2 vs) (hn : 2 * cs.length < 2 ^ 31) (hs : V.slots.size = N2.toNatClampNeg) (hv : RoadKit.Has V vs (.int 0)) : Cod cd cs.length (fun j => cs.getD j 0) V := by
  rcases h with ⟨rfl, rfl, rfl, h⟩ | ⟨rfl, rfl, rfl, c, hc, hw⟩
  · rw [n32 (by omega)] at hs
    exact Or.inl ⟨rfl, hs, fun j hj => ⟨by rw [hv j (by omega), low_at _ _ _ hj], by
      have e : cs.getD j 0 = cs[j] := by simp [List.getD_eq_getElem?_getD, hj]
      show ¬ 255 < cs.getD j 0
      rw [e]; exact h _ (List.getElem_mem _)⟩⟩
  · rw [n32 (by omega)] at hs
    obtain ⟨j, hj, rfl⟩ := List.getElem_of_mem hc
    exact Or.inr ⟨rfl, hs, fun j hj => ⟨by rw [hv _ (by omega), wide_lo _ _ _ hj], by rw [hv _ (by omega), wide_hi _ _ _ hj]⟩, j, hj, by
      have e : cs.getD j 0 = cs[j] := by simp [List.getD_eq_getElem?_getD, hj]
      show 255 < cs.getD j 0
      rw [e]; exact hw⟩
/-- an object of exactly java/lang/String, its two fields found: as the laws ask it -/
theorem strObj {Z U : State} {a0 : Array Value} {kI : Nat} (wi : (Jvm.Cond.instantiable ST kI).before a0 Z = true) (al : Z.vm.Alike U.vm) {x : Addr} {v0 c0 : Value} (E : RoadKit.Exa Z U.heap x ST) (V : RoadKit.Fld Z U.heap x ST "value" "[B" v0) (C : RoadKit.Fld Z U.heap x ST "coder" "B" c0) :
    ∃ (D : Cell) (fV fC : Field), Blank ST x D U ∧ Found ST "value" "[B" fV U ∧ Found ST "coder" "B" fC U ∧ D.slots[fV.slot]? = some v0 ∧ D.slots[fC.slot]? = some c0 ∧ RoadKit.slotOf Z ST "value" "[B" = fV.slot ∧ RoadKit.slotOf Z ST "coder" "B" = fC.slot := by
  obtain ⟨D, cfV, kV, iV, fV, hD, gV, stV, knV, obV, asV, slV⟩ := V
  obtain ⟨D', cfC, kC, iC, fC, hD', gC, stC, -, -, asC, slC⟩ := C
  cases hD.symm.trans hD'
  obtain ⟨D2, kD, e1, e2, e3, e4, e5⟩ := E
  cases hD.symm.trans e1
  obtain ⟨c2, k2, i1, i2, i3, -⟩ := Cond.instantiable_spec wi
  cases e2.symm.trans i1
  cases e3.symm.trans i2
  obtain ⟨kU, u1, u2⟩ := al.2.2 _ _ e3
  exact ⟨D, fV, fC, ⟨hD, ⟨knV, fun q hq => by rw [hq] at obV; cases obV⟩, by rw [al.findClass]; exact e2, kU, u1, by rw [u2]; exact i3, by rw [u2]; exact e5 i3⟩, ⟨SBG.found_only al ⟨cfV, kV, iV, gV⟩, stV⟩, ⟨SBG.found_only al ⟨cfC, kC, iC, gC⟩, stC⟩, slV, slC, by simp [RoadKit.slotOf, gV], by simp [RoadKit.slotOf, gC]⟩
theorem sta_is {Z U : State} (al : Z.vm.Alike U.vm) {C n d : String} {v : Value} (S : RoadKit.Sta Z U.heap C n d v) : StaticIs U C n d v := by
  obtain ⟨cfS, iS, kS, fS, st, cS, t1, t2, t3, t4, t5, t6, t7⟩ := S
  exact StaticIs.there (s := { Z with heap := U.heap }) ⟨cfS, iS, kS, fS, st, cS, t1, t2, t3, t4, t5, (fun q => by rw [q] at t6; cases t6), t7⟩ al rfl
end StrChars.Road
namespace StrChars.Road
open Jvm Sem ClassFile Op Lib Jvm.Stand Jvm.Free Jvm.Free.XT
open Jvm.Lib.Cold (StaticIs)
/-- the road's facts of a String, as the laws ask it -/
theorem txt_of {Z U : State} {a0 : Array Value} {kI : Nat} (wi : (Jvm.Cond.instantiable ST kI).before a0 Z = true) (al : Z.vm.Alike U.vm) {x t : Addr} {kb : ClassId} {cs : List Int32} {cd N2 : Int32} {vs : List Value} (E : RoadKit.Exa Z U.heap x ST) (V : RoadKit.Fld Z U.heap x ST "value" "[B" (.ref t)) (C : RoadKit.Fld Z U.heap x ST "coder" "B" (.int cd)) (K : RoadKit.Arv Z U.heap t kb .byte N2 vs (.int 0)) (hc : CodA cs cd N2 vs) (hb : ∀ c ∈ cs, ¬ c < 0 ∧ ¬ (65535 : Int32) < c) (l2 : cs.length ≤ 4000) :
    ∃ A, Txt x t A cd cs.length (fun j => cs.getD j 0) U := by
  obtain ⟨A, K1, K2, K3, K4, K5, K6⟩ := K
  have hcod := hc.cod (by omega) K3 K5
  obtain ⟨D, fV, fC, hB, F1, F2, g1, g2, -, -⟩ := strObj wi al E V C
  exact ⟨A, ⟨_, hB.2.2.1, D, hB.1, rfl, by cases q : D.vm <;> first | rfl | exact absurd q (hB.2.1.2 _)⟩, Has.of hB F1 g1, Has.of hB F2 g2, ⟨K1.1, State.isArrayOf_alike al K1.2.1, K1.2.2, by rcases hcod with ⟨-, q, -⟩ | ⟨-, q, -⟩ <;> omega⟩, hcod, fun j hj => by
    have e : cs.getD j 0 = cs[j] := by simp [List.getD_eq_getElem?_getD, hj]
    show ¬ cs.getD j 0 < 0 ∧ ¬ 65535 < cs.getD j 0
    rw [e]; exact hb _ (List.getElem_mem _)⟩
end StrChars.Road
namespace StrChars
open Jvm Sem ClassFile Op Lib Jvm.Stand Jvm.Free.XT Jvm.Free.ALB Jvm.Free.JM Jvm.Free
open Jvm.Lib.Cold (StaticIs)
namespace ChN
def yN : MethodName := ⟨"java/lang/String", "charAt", "(I)C"⟩
abbrev yB : ByteArray := jdk_42_method_56_code
theorem d0 : decode yB 0 = .ok (.aload_n 0, 1) := by decide +kernel
theorem d1 : decode yB 1 = .ok (.invokevirtual 492, 3) := by decide +kernel
theorem d4 : decode yB 4 = .ok (.ifCond (.eq) 12, 3) := by decide +kernel
theorem d7 : decode yB 7 = .ok (.aload_n 0, 1) := by decide +kernel
theorem d8 : decode yB 8 = .ok (.getfield 9, 3) := by decide +kernel
theorem d11 : decode yB 11 = .ok (.iload_n 1, 1) := by decide +kernel
theorem d12 : decode yB 12 = .ok (.invokestatic 495, 3) := by decide +kernel
theorem d15 : decode yB 15 = .ok (.ireturn, 1) := by decide +kernel
def site : List Cond := [.fieldLink "java/lang/String" 9 "java/lang/String" "value" "[B", IsL.tab, LChA.tab] ++ virtW "java/lang/String" 492 "java/lang/String" IsL.yN IsL.yN ++ staticW "java/lang/String" 495 LChA.yN
def tab : Cond := tabOf yN yB 2 (some .char) site
def P (x t : Addr) (V : Cell) (n : Nat) (f : Nat → Int32) (z : Int32) (fm : Value) (i : Nat) (args : Array Value) (s : State) : Prop := args = #[.ref x, .int (Int32.ofNat i)] ∧ Txt x t V 0 n f s ∧ i < n ∧ StaticIs s "java/lang/String" "COMPACT_STRINGS" "Z" (.int z) ∧ ¬ z = 0 ∧ StaticIs s "jdk/internal/util/Preconditions" "SIOOBE_FORMATTER" "Ljava/util/function/BiFunction;" fm ∧ fm.isRef = true
def E (f : Nat → Int32) (i : Nat) (r : Option Value) (s u : State) : Prop := XT.PureE (some (.int (f i))) r s u
/-- charAt(i) of a Latin-1 String of n chars, i < n: f i -/
theorem law (l : Launch) (x t : Addr) (V : Cell) (n : Nat) (f : Nat → Int32) (z : Int32) (fm : Value) (i : Nat) : Law l yN 2 1 3 40 yB 2 (some .char) site (P x t V n f z fm i) (E f i) [] 0 0 := by
  refine Law.of_walk (plainFor_of_name (by decide +kernel)) (by decide +kernel) (by decide +kernel) (by decide) (fun _ _ h => by rw [h.1]; rfl) (fun _ U U' hal hh h => ⟨h.1, h.2.1.mv hal hh, h.2.2.1, h.2.2.2.1.there hal hh, h.2.2.2.2.1, h.2.2.2.2.2.1.there hal hh, h.2.2.2.2.2.2⟩) (fun r U U' V V' h1 hal h2 h => XT.PureE.mv r U U' V V' h1 hal h2 h) ?_
  intro p e s m args below meth c s₁ X0 hexec hbytes hml hret hlk hnm hown hh0 W hP
  obtain ⟨rfl, hx, hi, s1, hz, s3, rf⟩ := hP
  have v31 := hx.2.2.2.1.2.2.2
  have hr := hx.2.2.2.2.2 i hi
  have hx0 := hx.mv X0.warmed.alike hh0
  have c1 : Steps p.tables e below (s₁.setTop (entryFrame m #[.ref x, .int (Int32.ofNat i)] 2)) (s₁.setTop (mkF m 1 #[.val (.ref x), .val (.int (Int32.ofNat i))] [.ref x])) := Steps.trans (entry rfl) (by
    show Steps p.tables e below (s₁.setTop (mkF m 0 #[.val (.ref x), .val (.int (Int32.ofNat i))] [])) _
    refine XS.aloadN X0.here hexec rfl (hb hbytes d0) rfl rfl ?_
    exact Steps.refl _)
  obtain ⟨v2, T2, X2, E2, g2⟩ := X0.callV hexec (IsL.law l x 0 z) hown (wks W (virtW "java/lang/String" 492 "java/lang/String" IsL.yN IsL.yN)) rfl (by decide) (wk W IsL.tab) (W := 0) (Nat.le_of_ble_eq_true rfl) (Nat.le_of_ble_eq_true rfl) (Nat.le_refl _) (Nat.le_refl _) (hx0.1.fc X0.warmed.alike) hx0.1.is (g := (mkF m 1 #[.val (.ref x), .val (.int (Int32.ofNat i))] [.ref x])) rfl (by rw [hml]; rfl) c1 (argsL := []) (rest := []) rfl rfl (by show 2 * 0 + 0 ≤ _; decide) (hb hbytes d1) (⟨rfl, hx0.2.2.1, hx.2.2.2.2.1.cd, s1.there X0.warmed.alike hh0, hz⟩)
  obtain ⟨rfl, q2⟩ := E2
  have hh2 := q2.trans hh0
  have hx2 := hx.mv X2.warmed.alike hh2
  obtain ⟨-, k1, k2⟩ | ⟨k0, -⟩ := hx.2.2.2.2.1
  · have c3 : Steps p.tables e below (s₁.setTop (entryFrame m #[.ref x, .int (Int32.ofNat i)] 2)) (T2.setTop (mkF m 8 #[.val (.ref x), .val (.int (Int32.ofNat i))] [.ref x])) := Steps.trans g2 (by
      refine XS.ifNo X2.here hexec rfl (hb hbytes d4) rfl (i0_eq_f (by decide)) ?_
      refine XS.aloadN X2.here hexec rfl (hb hbytes d7) rfl rfl ?_
      exact Steps.refl _)
    obtain ⟨T4, X4, q4, st4⟩ := X2.hget hexec hown (wk W (.fieldLink "java/lang/String" 9 "java/lang/String" "value" "[B")) hx2.2.1 (g := (mkF m 8 #[.val (.ref x), .val (.int (Int32.ofNat i))] [.ref x])) rfl (rest := []) rfl (hb hbytes d8)
    have hh4 := q4.trans hh2
    have c5 : Steps p.tables e below (s₁.setTop (entryFrame m #[.ref x, .int (Int32.ofNat i)] 2)) (T4.setTop (mkF m 12 #[.val (.ref x), .val (.int (Int32.ofNat i))] [.int (Int32.ofNat i), .ref t])) := (c3.trans (st4 _ (Steps.refl _))).trans (by
      refine XS.iloadN X4.here hexec rfl (hb hbytes d11) rfl ?_
      exact Steps.refl _)
    obtain ⟨v6, T6, X6, E6, g6⟩ := X4.callS hexec (LChA.law l t V i (lo8 (f i)) fm) hown (wks W (staticW "java/lang/String" 495 LChA.yN)) (wk W LChA.tab) (W := 0) (Nat.le_of_ble_eq_true rfl) (Nat.le_of_ble_eq_true rfl) (Nat.le_refl _) (Nat.le_refl _) (g := (mkF m 12 #[.val (.ref x), .val (.int (Int32.ofNat i))] [.int (Int32.ofNat i), .ref t])) rfl (by rw [hml]; rfl) c5 (argsL := [.ref t, .int (Int32.ofNat i)]) (rest := []) rfl rfl (by show 2 * 0 + 0 ≤ _; decide) (hb hbytes d12) (⟨rfl, hx.2.2.2.1.mv X4.warmed.alike hh4, (k2 i hi).1, s3.there X4.warmed.alike hh4, rf⟩)
    obtain ⟨rfl, q6⟩ := E6
    rw [chr8_lo8 hr.1 (k2 i hi).2] at g6
    exact ⟨T6, some (.int (f i)), _, _, _, X6, rfl, rfl, rfl, (fun h => by cases h), ⟨rfl, q6.trans hh4⟩, fun fs hl => Steps.trans g6 (X6.ireturnOut hexec hret (narrow_ch hr.1 hr.2) (Or.inr (Or.inr (Or.inr (Or.inl rfl)))) (hb hbytes d15) hl)⟩
  · exact absurd k0 (by decide)
theorem pays {l : Launch} {R : Room} {p : Program} {e : Env} {below : List Frame} {s : State} {sargs : Array Value} {len W : Nat} (x t : Addr) (V : Cell) (n : Nat) (f : Nat → Int32) (z : Int32) (fm : Value) (i : Nat) (htab : tab.before sargs s = true) (hfr : 4 ≤ R.frames) (hlo : W + 53 ≤ R.locals) :
    Back l R p e below s sargs yN len W (fun A₁ a₁ => A₁.cells + 0 ≤ R.cells ∧ A₁.slots + 0 ≤ R.slots ∧ P x t V n f z fm i a₁ A₁.U) (fun A₁ _ v₁ B₁ => E f i v₁ A₁.U B₁.U ∧ B₁.locs = A₁.locs ++ [] ∧ B₁.cells = A₁.cells + 0 ∧ B₁.slots = A₁.slots + 0) :=
  (law l x t V n f z fm i).pays htab hfr (by omega)
end ChN
end StrChars
namespace StrChars.Road
open Jvm Sem ClassFile Op Lib Jvm.Stand Jvm.Free Jvm.Free.XT
open Jvm.Lib.Cold (StaticIs)
/-- the words of String.charAt(int), the Latin-1 road alone -/
abbrev wordsChN : List Jvm.Cond := [.code ChN.yN ChN.yB 2 (some .char), .initialized ST, .fieldLink ST 9 ST "value" "[B", .fieldLink ST 38 ST "COMPACT_STRINGS" "Z", .fieldLink ST 15 ST "coder" "B", .code IsL.yN IsL.yB 1 (some .boolean), .methodLink ST 492 IsL.yN, .declares IsL.yN, .selects ST IsL.yN IsL.yN, .instanceMethod IsL.yN,
  .methodLink ST 495 LChA.yN, .static LChA.yN, .code LChA.yN LChA.yB 2 (some .char), .initialized "java/lang/StringLatin1", .methodLink "java/lang/StringLatin1" 9 JO.Str_checkIndex.yN, .static JO.Str_checkIndex.yN, .code JO.Str_checkIndex.yN JO.Str_checkIndex.yB 2 none,
  .fieldLink ST 1053 "jdk/internal/util/Preconditions" "SIOOBE_FORMATTER" "Ljava/util/function/BiFunction;", .methodLink ST 1059 JC.PreCheck.yN, .static JC.PreCheck.yN, .code JC.PreCheck.yN JC.PreCheck.yB 3 (some .int), .initialized "jdk/internal/util/Preconditions"]
theorem tabChN_of {a : Array Value} {s : State} (h : ∀ w ∈ wordsChN, w.before a s = true) : ChN.tab.before a s = true := by
  have hp : JC.PreCheck.tab.before a s = true := unparts (wk h (.code JC.PreCheck.yN JC.PreCheck.yB 3 (some .int))) (wks h (.initialized JC.PreCheck.yN.cls :: JC.PreCheck.site))
  have qk := consq hp h
  have hk : JO.Str_checkIndex.tab.before a s = true := unparts (wk qk (.code JO.Str_checkIndex.yN JO.Str_checkIndex.yB 2 none)) (wks qk (.initialized JO.Str_checkIndex.yN.cls :: JO.Str_checkIndex.site))
  have ql := consq hk h
  have hl : LChA.tab.before a s = true := unparts (wk ql (.code LChA.yN LChA.yB 2 (some .char))) (wks ql (.initialized LChA.yN.cls :: LChA.site))
  have hi : IsL.tab.before a s = true := unparts (wk h (.code IsL.yN IsL.yB 1 (some .boolean))) (wks h (.initialized IsL.yN.cls :: IsL.site))
  have q := consq hi (consq hl h)
  exact unparts (wk q (.code ChN.yN ChN.yB 2 (some .char))) (wks q (.initialized ChN.yN.cls :: ChN.site))
theorem movedChN {Z s : State} {a0 args : Array Value} (hZ : Z.Warmed39 s.vm) (hw : ∀ d ∈ wordsChN, d.before a0 Z = true) : ∀ d ∈ wordsChN, d.before args s = true := fun d hd => by
  have t : ∀ d ∈ wordsChN, (d.onTables && d.keepsFace) = true := by decide +kernel
  exact RoadKit.mv hZ (hw d hd) (t d hd)
/-- **charAt(i) OF A LATIN-1 STRING**, i < n: the char -/
theorem chN {p : Program} {l : Launch} {e : Env} {R : Room} {s : State} {args : Array Value} {below : List Frame} {len W : Nat} {Z : State} {a0 : Array Value} {h : Heap} (hZ : Z.Warmed39 s.vm) (hw : ∀ d ∈ wordsChN, d.before a0 Z = true) {kI : Nat} (wi : (Jvm.Cond.instantiable ST kI).before a0 Z = true)
    {x t : Addr} {kb : ClassId} {cs : List Int32} {N2 z : Int32} {vs : List Value} {fm : Value} {i : Nat} {j : Int32} (E : RoadKit.Exa Z h x ST) (V : RoadKit.Fld Z h x ST "value" "[B" (.ref t)) (C : RoadKit.Fld Z h x ST "coder" "B" (.int 0)) (K : RoadKit.Arv Z h t kb .byte N2 vs (.int 0)) (hc : CodA cs 0 N2 vs) (hb : ∀ c ∈ cs, ¬ c < 0 ∧ ¬ (65535 : Int32) < c)
    (S : RoadKit.Sta Z h ST "COMPACT_STRINGS" "Z" (.int z)) (hz : ¬ z = 0) (F : RoadKit.Sta Z h "jdk/internal/util/Preconditions" "SIOOBE_FORMATTER" "Ljava/util/function/BiFunction;" fm) (rf : fm.isRef = true) (l2 : cs.length ≤ 4000) (hi : i < cs.length) (hj : j = Int32.ofNat i) (hfr : 4 ≤ R.frames) (hlo : W + 53 ≤ R.locals) :
    Back l R p e below s args (⟨"java/lang/String", "charAt", "(I)C"⟩ : MethodName) len W (fun P a => a = #[.ref x, .int j] ∧ P.U.heap = h ∧ P.cells + 0 ≤ R.cells ∧ P.slots + 0 ≤ R.slots)
      (fun P _ v B => ∃ L, (v = some (.int (cs.getD i 0)) ∧ L = [] ∧ B.U.heap = h) ∧ B.locs = P.locs ++ L ∧ B.cells = P.cells + 0 ∧ B.slots = P.slots + 0) := by
  subst hj
  intro m meth c P g ig mk a X hg hsize hdg hW hn hp'
  obtain ⟨rfl, rfl, r1, r2⟩ := hp'
  have al : Z.vm.Alike P.U.vm := hZ.alike.trans X.warmed.alike
  obtain ⟨A, hx⟩ := txt_of wi al E V C K hc hb l2
  obtain ⟨v, B, X', ⟨⟨hv, hh⟩, hl, hk, hs⟩, st⟩ := ChN.pays x t A cs.length (fun j => cs.getD j 0) z fm i (tabChN_of (movedChN hZ hw)) hfr hlo m meth c P g ig mk _ X hg hsize hdg hW hn ⟨r1, r2, rfl, hx, hi, sta_is al S, hz, sta_is al F, rf⟩
  exact ⟨v, B, X', ⟨[], ⟨hv, rfl, hh⟩, hl, hk, hs⟩, st⟩
/-- what backV says of its String, as the contracts of this text ask it: cs's low bytes, coder 0 -/
theorem codOf {cs : List Int32} {n : Nat} (hn : cs.length = n) (hb : ∀ c ∈ cs, ¬ 255 < c) : CodA cs 0 (Int32.ofNat n) ((cs.map lo8).map Value.int) := Or.inl ⟨rfl, by rw [hn], by simp [List.map_map, Function.comp_def], hb⟩
end StrChars.Road
end Jvm.Pilot.@@N@@
namespace Jvm.Pilot.@@N@@
open Jvm Jvm.ClassFile Sem Op Lib Jvm.Free Jvm.Stand Jvm.LawKit Jvm.RoadKit Bundle Jvm.Own Jvm.Pilot.@@N@@.Jvm.D
section
variable {p : Program} {l : Launch} {e : Env} {R : Room} {s : State} {m : MethodId} {args : Array Value} {below : List Frame} {meth : Method} {c : Code} {Z : State} {a0 : Array Value} {h h' : Heap} {k n k' n' : Nat} {Q : Option Value → Heap → Prop} {code : ByteArray} {ml : Nat} {own nm : String} {ret : Option FieldType} {pc pc' : Nat} {Ls : Array Slot} {St rest : List Value} {idx W : Nat}
theorem strWords (hw : ∀ d ∈ tables_1, d.before a0 Z = true) : ∀ d ∈ StrChars.Road.words, d.before a0 Z = true := fun d hd => hw d ((by decide +kernel : ∀ d ∈ StrChars.Road.words, d ∈ tables_1) d hd)
/-- the call of String.<init>([C) on the fresh object x -/
theorem Go.strInit (hw : ∀ d ∈ tables_1, d.before a0 Z = true) (C : Cx p s m meth c code ml ret nm own Z) {x b : Addr} {kC : ClassId} {cs : List Int32} {d v0 c0 : Value} {z N : Int32} {nn kI : Nat} (hx0 : Z.heap.size ≤ x) (E : Exa Z h x "java/lang/String") (V : Fld Z h x "java/lang/String" "value" "[B" v0) (Cd : Fld Z h x "java/lang/String" "coder" "B" c0)
    (Ka : Arv Z h b kC .char N (cs.map Value.int) d) (S : Sta Z Z.heap "java/lang/String" "COMPACT_STRINGS" "Z" (.int z)) (hz : ¬ z = 0) (hn : cs.length = nn) (hN : N = Int32.ofNat nn) (l0 : 0 < nn) (l2 : nn ≤ 4000) (hpr : ∀ c ∈ cs, ¬ c < 0 ∧ ¬ (255 : Int32) < c)
    (wI : (Jvm.Cond.instantiable "java/lang/String" kI).before a0 Z = true) (wl : (Jvm.Cond.methodLink own idx ⟨"java/lang/String", "<init>", "([C)V"⟩).before a0 Z = true) (wi : (Jvm.Cond.instanceMethod ⟨"java/lang/String", "<init>", "([C)V"⟩).before a0 Z = true)
    (hd : decode code pc = .ok (.invokespecial idx, 3)) (hp : pc + 3 = pc') (hs : Ls.size = ml) (hW : (rest.map fun v => v.category).sum ≤ W) (hf : 4 ≤ R.frames) (hlo : W + 65 ≤ R.locals) (hk : k + 1 = k') (hnn : n + nn = n') (hc : k' ≤ R.cells) (hsl : n' ≤ R.slots)
    (K : ∀ h', Keep h h' [x] → Str Z h' x cs → Go p l e R s m args below meth c Z Q h' k' n' (mkF m pc' Ls rest)) : Go p l e R s m args below meth c Z Q h k n (mkF m pc Ls (.ref b :: .ref x :: rest)) := by
  have hws := strWords hw
  refine Go.specialB C (a := x) (Q' := fun v h' => v = none ∧ Keep h h' [x] ∧ Str Z h' x cs) (fun s' hZ hE => StrChars.Road.backV (W := W) (n0 := Z.heap.size) hZ hws wI hx0 hE.1 E V Cd Ka (S.ext hE) hz hn hN l0 l2 hpr (bs := cs.map fun c => c.toInt8.toInt32) rfl hf hlo) ?_ rfl wl wi (hws _ (List.mem_cons_self ..)) (by decide) (ps := [.array .char]) (rt := none) (by decide +kernel) (argsL := [.ref b]) (rest := rest) rfl rfl hd hp hs rfl hW hk hnn hc hsl ?_
  · rintro v h' L hE ⟨rfl, hF, hK, hEx, hCo, t, kb, ht, ht2, hne, hV, hA⟩
    refine ⟨⟨rfl, hK, t, kb, hne, hEx, hCo, hV, ?_, hpr, by omega⟩, ext_keep1 hE hK hx0, hF⟩
    rw [hn, ← hN]; exact hA
  · rintro v h' ⟨rfl, hK, hS⟩
    exact K h' hK hS
end
end Jvm.Pilot.@@N@@
namespace Jvm.Pilot.@@N@@
open Jvm Jvm.ClassFile Sem Op Lib Jvm.Free Jvm.Stand Jvm.LawKit Jvm.RoadKit Bundle Jvm.Own Jvm.Pilot.@@N@@.Jvm.D
section
variable {p : Program} {l : Launch} {e : Env} {R : Room} {s : State} {m : MethodId} {args : Array Value} {below : List Frame} {meth : Method} {c : Code} {Z : State} {a0 : Array Value} {h h' : Heap} {k n k' n' : Nat} {Q : Option Value → Heap → Prop} {code : ByteArray} {ml : Nat} {own nm : String} {ret : Option FieldType} {pc pc' : Nat} {Ls : Array Slot} {St rest : List Value} {idx W : Nat}
theorem chWords (hw : ∀ d ∈ tables_1, d.before a0 Z = true) : ∀ d ∈ StrChars.Road.wordsChN, d.before a0 Z = true := fun d hd => hw d ((by decide +kernel : ∀ d ∈ StrChars.Road.wordsChN, d ∈ tables_1) d hd)
theorem up16 {cs : List Int32} (h : ∀ c ∈ cs, ¬ c < 0 ∧ ¬ (255 : Int32) < c) : ∀ c ∈ cs, ¬ c < 0 ∧ ¬ (65535 : Int32) < c := fun c hc => by
  obtain ⟨h1, h2⟩ := h c hc
  refine ⟨h1, fun q => h2 ?_⟩
  rw [Int32.lt_iff_toInt_lt] at q ⊢
  have e1 : (255 : Int32).toInt = 255 := rfl
  have e2 : (65535 : Int32).toInt = 65535 := rfl
  omega
/-- charAt, inside -/
theorem Go.charAt (hw : ∀ d ∈ tables_1, d.before a0 Z = true) (C : Cx p s m meth c code ml ret nm own Z) {x : Addr} {cs : List Int32} {i kI : Nat} {j z w : Int32} {fm : Value} (T : Str Z h x cs) (S : Sta Z Z.heap "java/lang/String" "COMPACT_STRINGS" "Z" (.int z)) (hz : ¬ z = 0) (F : Sta Z Z.heap "jdk/internal/util/Preconditions" "SIOOBE_FORMATTER" "Ljava/util/function/BiFunction;" fm) (rf : fm.isRef = true)
    (hi : i < cs.length) (hj : j = Int32.ofNat i) (hv : cs.getD i 0 = w) (wI : (Jvm.Cond.instantiable "java/lang/String" kI).before a0 Z = true) (wl : (Jvm.Cond.methodLink own idx ⟨"java/lang/String", "charAt", "(I)C"⟩).before a0 Z = true) (wd : (Jvm.Cond.declares ⟨"java/lang/String", "charAt", "(I)C"⟩).before a0 Z = true) (wse : (Jvm.Cond.selects "java/lang/String" ⟨"java/lang/String", "charAt", "(I)C"⟩ ⟨"java/lang/String", "charAt", "(I)C"⟩).before a0 Z = true) (wi : (Jvm.Cond.instanceMethod ⟨"java/lang/String", "charAt", "(I)C"⟩).before a0 Z = true)
    (hd : decode code pc = .ok (.invokevirtual idx, 3)) (hp : pc + 3 = pc') (hs : Ls.size = ml) (hW : (rest.map fun v => v.category).sum ≤ W) (hf : 4 ≤ R.frames) (hlo : W + 53 ≤ R.locals) (hc : k ≤ R.cells) (hsl : n ≤ R.slots)
    (K : Go p l e R s m args below meth c Z Q h k n (mkF m pc' Ls (.int w :: rest))) : Go p l e R s m args below meth c Z Q h k n (mkF m pc Ls (.int j :: .ref x :: rest)) := by
  have hwc := chWords hw
  obtain ⟨t, kb, hne, E, Cd, V, A, hpr, hl⟩ := T
  refine Go.virtB C (a := x) (Qr := fun v h' L => v = some (.int (cs.getD i 0)) ∧ L = [] ∧ h' = h) (Q' := fun v h' => v = some (.int w) ∧ h = h') (fun s' hZ hE => StrChars.Road.chN (W := W) hZ hwc wI E V Cd A (StrChars.Road.codOf rfl fun c hc => (hpr c hc).2) (up16 hpr) (S.ext hE) hz (F.ext hE) rf hl hi hj hf hlo) ?_ E wl wd wse wi (by decide) (ps := [.int]) (rt := some .char) (by decide +kernel) (argsL := [.int j]) (rest := rest) rfl rfl hd hp hs rfl hW (dc := 0) (ds := 0) (k' := k) (n' := n) rfl rfl hc hsl ?_
  · rintro v h' L hE ⟨hv', rfl, hh⟩
    subst hh
    exact ⟨⟨by rw [hv', hv], rfl⟩, hE, Fr.nil _⟩
  · rintro v h' ⟨rfl, rfl⟩
    exact K
end
end Jvm.Pilot.@@N@@
namespace Jvm.Pilot.@@N@@
open Jvm Jvm.ClassFile Sem Op Lib Jvm.Free Jvm.Stand Jvm.LawKit Jvm.RoadKit Bundle Jvm.Own Jvm.Pilot.@@N@@.Jvm.D
theorem pd_0 : parseMethodDescriptor "(JI)I" = some ⟨[.long, .int], some .int⟩ := by decide +kernel
theorem pd_1 : parseMethodDescriptor "(Ljava/lang/String;)C" = some ⟨[(.object "java/lang/String")], some .char⟩ := by decide +kernel
/-- what dig gives -/
def dg (x : Int64) (i : Int32) : Int32 := (((((x.toUInt64 >>> (((5 : Int32) * i) &&& 0x3f).toInt64.toUInt64).toInt64)) &&& (31 : Int64)).toInt32) % (10 : Int32)
theorem dg_rng (x : Int64) (i : Int32) : 0 ≤ (dg x i).toInt ∧ (dg x i).toInt ≤ 9 := by
  unfold dg
  generalize ((x.toUInt64 >>> (((5 : Int32) * i) &&& 0x3f).toInt64.toUInt64).toInt64) = y
  have h1 := c_maskL y 31 5 (by decide) (by decide)
  have h2 := c_l2i (y &&& 31)
  have h3 := rng32 ((y &&& 31).toInt32)
  have h4 : (y &&& 31).toInt32.toInt = (y &&& 31).toInt := by omega
  have h5 := (c_irem ((y &&& 31).toInt32) 10 10 (by decide)).1 (by omega)
  omega
theorem e_rng1 (c : Int32) : 0 ≤ ((c &&& (15 : Int32)) % (10 : Int32)).toInt ∧ ((c &&& (15 : Int32)) % (10 : Int32)).toInt ≤ 9 := by
  have h1 := c_mask c 15 4 (by decide) (by decide)
  have h5 := (c_irem (c &&& 15) 10 10 (by decide)).1 (by omega)
  omega
theorem e_rng2 (c : Int32) : 0 ≤ ((((c.toUInt32 >>> ((4 : Int32) &&& 31).toUInt32).toInt32) &&& (15 : Int32)) % (10 : Int32)).toInt ∧ ((((c.toUInt32 >>> ((4 : Int32) &&& 31).toUInt32).toInt32) &&& (15 : Int32)) % (10 : Int32)).toInt ≤ 9 := e_rng1 _
theorem add_small {x y : Int32} (h1 : 0 ≤ x.toInt + y.toInt) (h2 : x.toInt + y.toInt ≤ 100000) : (x + y).toInt = x.toInt + y.toInt := by
  have a := c_iadd x y; have b := rng32 (x + y); omega
theorem sub_small {x y : Int32} (h1 : -100000 ≤ x.toInt - y.toInt) (h2 : x.toInt - y.toInt ≤ 100000) : (x - y).toInt = x.toInt - y.toInt := by
  have a := c_isub x y; have b := rng32 (x - y); omega
theorem mul_small {x y : Int32} (h1 : -100000 ≤ x.toInt * y.toInt) (h2 : x.toInt * y.toInt ≤ 100000) : (x * y).toInt = x.toInt * y.toInt :=
  (Int32.toInt_mul x y).trans (Int.bmod_eq_of_le (by omega) (by omega))
theorem dig48 {d : Int32} (h : 0 ≤ d.toInt ∧ d.toInt ≤ 9) : ((48 : Int32) + d).toInt = 48 + d.toInt := by
  have e : (48 : Int32).toInt = 48 := rfl
  rw [add_small (by omega) (by omega), e]
theorem back48 {d : Int32} (h : 0 ≤ d.toInt ∧ d.toInt ≤ 9) : (((48 : Int32) + d) - (48 : Int32)).toInt = d.toInt := by
  have e : (48 : Int32).toInt = 48 := rfl
  have q := dig48 h
  rw [sub_small (by omega) (by omega)]; omega
theorem addA (s d : Int32) (h1 : 0 ≤ s.toInt ∧ s.toInt ≤ 1000) (h2 : 0 ≤ d.toInt ∧ d.toInt ≤ 9) : (s + ((((48 : Int32) + d) - (48 : Int32)) * (1 : Int32))).toInt = s.toInt + d.toInt := by
  have q := back48 h2
  have e : (1 : Int32).toInt = 1 := rfl
  have a := mul_small (x := ((48 : Int32) + d) - (48 : Int32)) (y := 1) (by rw [e]; omega) (by rw [e]; omega)
  rw [e] at a
  rw [add_small (by omega) (by omega)]; omega
theorem addB (s d : Int32) (h1 : 0 ≤ s.toInt ∧ s.toInt ≤ 1000) (h2 : 0 ≤ d.toInt ∧ d.toInt ≤ 9) : (s + ((((48 : Int32) + d) - (48 : Int32)) * (3 : Int32))).toInt = s.toInt + 3 * d.toInt := by
  have q := back48 h2
  have e : (3 : Int32).toInt = 3 := rfl
  have a := mul_small (x := ((48 : Int32) + d) - (48 : Int32)) (y := 3) (by rw [e]; omega) (by rw [e]; omega)
  rw [e] at a
  rw [add_small (by omega) (by omega)]; omega
theorem addS (s d : Int32) (h1 : 0 ≤ s.toInt ∧ s.toInt ≤ 1000) (h2 : 0 ≤ d.toInt ∧ d.toInt ≤ 9) : (s + d).toInt = s.toInt + d.toInt := add_small (by omega) (by omega)
theorem addT (s d : Int32) (h1 : 0 ≤ s.toInt ∧ s.toInt ≤ 1000) (h2 : 0 ≤ d.toInt ∧ d.toInt ≤ 9) : (s + ((3 : Int32) * d)).toInt = s.toInt + 3 * d.toInt := by
  have e : (3 : Int32).toInt = 3 := rfl
  have a := mul_small (x := 3) (y := d) (by rw [e]; omega) (by rw [e]; omega)
  rw [e] at a
  rw [add_small (by omega) (by omega)]; omega
theorem fin_chk (s : Int32) (h1 : 0 ≤ s.toInt) (h2 : s.toInt ≤ 1000) : (nar .char (((48 : Int32) + (((10 : Int32) - (s % (10 : Int32))) % (10 : Int32))).toUInt32.toUInt16.toUInt32.toInt32)).toInt = 48 + (10 - s.toInt % 10) % 10 := by
  have e0 : (0 : Int32).toInt = 0 := rfl
  have e1 : (255 : Int32).toInt = 255 := rfl
  have e10 : (10 : Int32).toInt = 10 := rfl
  have e48 : (48 : Int32).toInt = 48 := rfl
  have a := (c_irem s 10 10 (by decide)).1 h1
  have b := sub_small (x := 10) (y := s % 10) (by omega) (by omega)
  have c := (c_irem ((10 : Int32) - s % 10) 10 10 (by decide)).1 (by omega)
  have d := add_small (x := 48) (y := ((10 : Int32) - s % 10) % 10) (by omega) (by omega)
  have r : ¬ ((48 : Int32) + ((10 : Int32) - s % 10) % 10) < 0 ∧ ¬ (255 : Int32) < ((48 : Int32) + ((10 : Int32) - s % 10) % 10) := by
    simp only [Int32.lt_iff_toInt_lt]; constructor <;> omega
  show (((48 : Int32) + ((10 : Int32) - s % 10) % 10).toUInt32.toUInt16.toUInt32.toInt32).toUInt32.toUInt16.toUInt32.toInt32.toInt = _
  rw [i2c_id r, i2c_id r]; omega
theorem nar_dig {d : Int32} (h : 0 ≤ d.toInt ∧ d.toInt ≤ 9) : nar .char (((48 : Int32) + d).toUInt32.toUInt16.toUInt32.toInt32) = (48 : Int32) + d := by
  have e0 : (0 : Int32).toInt = 0 := rfl
  have e1 : (255 : Int32).toInt = 255 := rfl
  have q := dig48 h
  have r : ¬ ((48 : Int32) + d) < 0 ∧ ¬ (255 : Int32) < ((48 : Int32) + d) := by simp only [Int32.lt_iff_toInt_lt]; constructor <;> omega
  show (((48 : Int32) + d).toUInt32.toUInt16.toUInt32.toInt32).toUInt32.toUInt16.toUInt32.toInt32 = _
  rw [i2c_id r, i2c_id r]
theorem rng1 {d : Int32} (h : 0 ≤ d.toInt ∧ d.toInt ≤ 9) : ¬ ((48 : Int32) + d) < 0 ∧ ¬ (255 : Int32) < ((48 : Int32) + d) := by
  have e0 : (0 : Int32).toInt = 0 := rfl
  have e1 : (255 : Int32).toInt = 255 := rfl
  have q := dig48 h
  simp only [Int32.lt_iff_toInt_lt]; constructor <;> omega
theorem rng13 {d0 d1 d2 d3 d4 d5 d6 d7 d8 d9 d10 d11 e : Int32} (r0 : 0 ≤ d0.toInt ∧ d0.toInt ≤ 9) (r1 : 0 ≤ d1.toInt ∧ d1.toInt ≤ 9) (r2 : 0 ≤ d2.toInt ∧ d2.toInt ≤ 9) (r3 : 0 ≤ d3.toInt ∧ d3.toInt ≤ 9) (r4 : 0 ≤ d4.toInt ∧ d4.toInt ≤ 9) (r5 : 0 ≤ d5.toInt ∧ d5.toInt ≤ 9) (r6 : 0 ≤ d6.toInt ∧ d6.toInt ≤ 9) (r7 : 0 ≤ d7.toInt ∧ d7.toInt ≤ 9) (r8 : 0 ≤ d8.toInt ∧ d8.toInt ≤ 9) (r9 : 0 ≤ d9.toInt ∧ d9.toInt ≤ 9) (r10 : 0 ≤ d10.toInt ∧ d10.toInt ≤ 9) (r11 : 0 ≤ d11.toInt ∧ d11.toInt ≤ 9) (r12 : 0 ≤ e.toInt ∧ e.toInt ≤ 9) :
    ∀ c ∈ [(48 : Int32) + d0, (48 : Int32) + d1, (48 : Int32) + d2, (48 : Int32) + d3, (48 : Int32) + d4, (48 : Int32) + d5, (48 : Int32) + d6, (48 : Int32) + d7, (48 : Int32) + d8, (48 : Int32) + d9, (48 : Int32) + d10, (48 : Int32) + d11, (48 : Int32) + e], ¬ c < 0 ∧ ¬ (255 : Int32) < c := by
  intro c hc
  simp only [List.mem_cons, List.not_mem_nil, or_false] at hc
  rcases hc with rfl | rfl | rfl | rfl | rfl | rfl | rfl | rfl | rfl | rfl | rfl | rfl | rfl
  · exact rng1 r0
  · exact rng1 r1
  · exact rng1 r2
  · exact rng1 r3
  · exact rng1 r4
  · exact rng1 r5
  · exact rng1 r6
  · exact rng1 r7
  · exact rng1 r8
  · exact rng1 r9
  · exact rng1 r10
  · exact rng1 r11
  · exact rng1 r12
theorem chk_zero (s r : Int32) (h1 : 0 ≤ s.toInt ∧ s.toInt ≤ 1000) (h2 : r.toInt = 48 + (10 - s.toInt % 10) % 10) : ((s + (r - (48 : Int32))) % (10 : Int32)) = (0 : Int32) := by
  have e48 : (48 : Int32).toInt = 48 := rfl
  have e0 : (0 : Int32).toInt = 0 := rfl
  have a := sub_small (x := r) (y := 48) (by omega) (by omega)
  have b := add_small (x := s) (y := r - 48) (by omega) (by omega)
  have c := (c_irem (s + (r - 48)) 10 10 (by decide)).1 (by omega)
  rw [← Int32.toInt_inj, c, e0]; omega
theorem eq_I0 {args : Array Value} {first s : State} {o : Option Outcome} {idx : List Nat} {t : Term} {z : Int32} (h : t.eval args first o idx s = some (.int z)) : (Jvm.Cond.eq t (.int 0)).value args first o s idx = some (decide (z = 0)) := by
  have e2 : (Term.int 0).eval args first o idx s = some (.int 0) := Term.int_eval 0
  simp [Jvm.Cond.value, h, e2]

theorem d_dig_0 : decode method_2_code 0 = .ok (.lload_n 0, 1) := by decide +kernel
theorem d_dig_1 : decode method_2_code 1 = .ok (.iconst 5, 1) := by decide +kernel
theorem d_dig_2 : decode method_2_code 2 = .ok (.iload_n 2, 1) := by decide +kernel
theorem d_dig_3 : decode method_2_code 3 = .ok (.imul, 1) := by decide +kernel
theorem d_dig_4 : decode method_2_code 4 = .ok (.lushr, 1) := by decide +kernel
theorem d_dig_5 : decode method_2_code 5 = .ok (.ldc2_w 7, 3) := by decide +kernel
theorem d_dig_8 : decode method_2_code 8 = .ok (.land, 1) := by decide +kernel
theorem d_dig_9 : decode method_2_code 9 = .ok (.l2i, 1) := by decide +kernel
theorem d_dig_10 : decode method_2_code 10 = .ok (.bipush 10, 2) := by decide +kernel
theorem d_dig_12 : decode method_2_code 12 = .ok (.irem, 1) := by decide +kernel
theorem d_dig_13 : decode method_2_code 13 = .ok (.ireturn, 1) := by decide +kernel
theorem pn_dig : plainName "com/example/accessio/accessio/CheckDigitsIsbn13PinLaw" = true := by first | (simp [plainName, overriddenIn]; done) | decide +kernel
theorem ef_dig (m : MethodId) (x0 : Int64) (x1 : Int32)  : entryFrame m #[(.long x0), (.int x1)] 3 = mkF m 0 #[.val (.long x0), .second, .val (.int x1)] [] := by first | (simp [entryFrame, mkF, argsToLocals, Value.category]; done) | rfl
set_option maxRecDepth 65536 in
set_option maxHeartbeats 40000000 in
theorem P_dig (l : Launch) (Z : State) (a0 : Array Value) (hw : ∀ d ∈ tables_1, d.before a0 Z = true) (x : Int64) (i : Int32) (h0 : Heap)  :
    Pays l Z (⟨"com/example/accessio/accessio/CheckDigitsIsbn13PinLaw", "dig", "(JI)I"⟩ : MethodName) method_2_code 3 (some .int) ({ frames := 0, cells := 0, slots := 0, locals := 0 } : Room) #[(.long x), (.int i)] h0 (fun v h => v = some (.int (dg x i)) ∧ h0 = h) := by
  refine pays_of_go (plainFor_of_name pn_dig) (fun m => ef_dig m x i) ?_
  intro p e s m below meth c C0
  have C : Cx p s m meth c method_2_code 3 (some .int) "dig" "com/example/accessio/accessio/CheckDigitsIsbn13PinLaw" Z := C0
  show Go p l e ({ frames := 0, cells := 0, slots := 0, locals := 0 } : Room) s m #[(.long x), (.int i)] below meth c Z (fun v h => v = some (.int (dg x i)) ∧ h0 = h) h0 0 0 (mkF m 0 #[.val (.long x), .second, .val (.int i)] [])
  refine Go.plain (g' := (mkF m 1 #[.val (.long x), .second, .val (.int i)] [(.long x)])) (fun T_ L_ X_ t_ q_ => XS.lloadN X_.here C.hx rfl (C.d d_dig_0) rfl q_) ?_
  refine Go.plain (g' := (mkF m 2 #[.val (.long x), .second, .val (.int i)] [(.int (5 : Int32)), (.long x)])) (fun T_ L_ X_ t_ q_ => XS.iconst X_.here C.hx rfl (C.d d_dig_1) q_) ?_
  refine Go.plain (g' := (mkF m 3 #[.val (.long x), .second, .val (.int i)] [(.int i), (.int (5 : Int32)), (.long x)])) (fun T_ L_ X_ t_ q_ => XS.iloadN X_.here C.hx rfl (C.d d_dig_2) rfl q_) ?_
  refine Go.plain (g' := (mkF m 4 #[.val (.long x), .second, .val (.int i)] [(.int ((5 : Int32) * i)), (.long x)])) (fun T_ L_ X_ t_ q_ => XS.imul X_.here C.hx rfl (C.d d_dig_3) rfl q_) ?_
  refine Go.plain (g' := (mkF m 5 #[.val (.long x), .second, .val (.int i)] [(.long ((x.toUInt64 >>> (((5 : Int32) * i) &&& 0x3f).toInt64.toUInt64).toInt64))])) (fun T_ L_ X_ t_ q_ => XS.lushr X_.here C.hx rfl (C.d d_dig_4) rfl q_) ?_
  refine Go.ldcJ C (hw _ (List.mem_of_getElem? (i := 4) rfl)) d_dig_5 (pc' := 8) rfl ?_
  refine Go.plain (g' := (mkF m 9 #[.val (.long x), .second, .val (.int i)] [(.long (((x.toUInt64 >>> (((5 : Int32) * i) &&& 0x3f).toInt64.toUInt64).toInt64) &&& (31 : Int64)))])) (fun T_ L_ X_ t_ q_ => XS.land X_.here C.hx rfl (C.d d_dig_8) rfl q_) ?_
  refine Go.plain (g' := (mkF m 10 #[.val (.long x), .second, .val (.int i)] [(.int ((((x.toUInt64 >>> (((5 : Int32) * i) &&& 0x3f).toInt64.toUInt64).toInt64) &&& (31 : Int64)).toInt32))])) (fun T_ L_ X_ t_ q_ => XS.l2i X_.here C.hx rfl (C.d d_dig_9) rfl q_) ?_
  refine Go.plain (g' := (mkF m 12 #[.val (.long x), .second, .val (.int i)] [(.int (10 : Int32)), (.int ((((x.toUInt64 >>> (((5 : Int32) * i) &&& 0x3f).toInt64.toUInt64).toInt64) &&& (31 : Int64)).toInt32))])) (fun T_ L_ X_ t_ q_ => XS.bipush X_.here C.hx rfl (C.d d_dig_10) q_) ?_
  refine Go.irem C d_dig_12 (by decide) (pc' := 13) rfl ?_
  exact Go.retI C d_dig_13 (by decide) (by decide) ⟨rfl, rfl⟩
theorem d_isbn_0 : decode prog_5_method_2_code 0 = .ok (.iconst 0, 1) := by decide +kernel
theorem d_isbn_1 : decode prog_5_method_2_code 1 = .ok (.istore_n 1, 1) := by decide +kernel
theorem d_isbn_2 : decode prog_5_method_2_code 2 = .ok (.iconst 0, 1) := by decide +kernel
theorem d_isbn_3 : decode prog_5_method_2_code 3 = .ok (.istore_n 2, 1) := by decide +kernel
theorem d_isbn_4 : decode prog_5_method_2_code 4 = .ok (.iload_n 2, 1) := by decide +kernel
theorem d_isbn_5 : decode prog_5_method_2_code 5 = .ok (.bipush 12, 2) := by decide +kernel
theorem d_isbn_7 : decode prog_5_method_2_code 7 = .ok (.if_icmp .ge 32, 3) := by decide +kernel
theorem d_isbn_10 : decode prog_5_method_2_code 10 = .ok (.iload_n 1, 1) := by decide +kernel
theorem d_isbn_11 : decode prog_5_method_2_code 11 = .ok (.aload_n 0, 1) := by decide +kernel
theorem d_isbn_12 : decode prog_5_method_2_code 12 = .ok (.iload_n 2, 1) := by decide +kernel
theorem d_isbn_13 : decode prog_5_method_2_code 13 = .ok (.invokevirtual 7, 3) := by decide +kernel
theorem d_isbn_16 : decode prog_5_method_2_code 16 = .ok (.bipush 48, 2) := by decide +kernel
theorem d_isbn_18 : decode prog_5_method_2_code 18 = .ok (.isub, 1) := by decide +kernel
theorem d_isbn_19 : decode prog_5_method_2_code 19 = .ok (.iload_n 2, 1) := by decide +kernel
theorem d_isbn_20 : decode prog_5_method_2_code 20 = .ok (.iconst 2, 1) := by decide +kernel
theorem d_isbn_21 : decode prog_5_method_2_code 21 = .ok (.irem, 1) := by decide +kernel
theorem d_isbn_22 : decode prog_5_method_2_code 22 = .ok (.ifCond .ne 7, 3) := by decide +kernel
theorem d_isbn_25 : decode prog_5_method_2_code 25 = .ok (.iconst 1, 1) := by decide +kernel
theorem d_isbn_26 : decode prog_5_method_2_code 26 = .ok (.goto 4, 3) := by decide +kernel
theorem d_isbn_29 : decode prog_5_method_2_code 29 = .ok (.iconst 3, 1) := by decide +kernel
theorem d_isbn_30 : decode prog_5_method_2_code 30 = .ok (.imul, 1) := by decide +kernel
theorem d_isbn_31 : decode prog_5_method_2_code 31 = .ok (.iadd, 1) := by decide +kernel
theorem d_isbn_32 : decode prog_5_method_2_code 32 = .ok (.istore_n 1, 1) := by decide +kernel
theorem d_isbn_33 : decode prog_5_method_2_code 33 = .ok (.iinc 2 1, 3) := by decide +kernel
theorem d_isbn_36 : decode prog_5_method_2_code 36 = .ok (.goto (-32), 3) := by decide +kernel
theorem d_isbn_39 : decode prog_5_method_2_code 39 = .ok (.bipush 48, 2) := by decide +kernel
theorem d_isbn_41 : decode prog_5_method_2_code 41 = .ok (.bipush 10, 2) := by decide +kernel
theorem d_isbn_43 : decode prog_5_method_2_code 43 = .ok (.iload_n 1, 1) := by decide +kernel
theorem d_isbn_44 : decode prog_5_method_2_code 44 = .ok (.bipush 10, 2) := by decide +kernel
theorem d_isbn_46 : decode prog_5_method_2_code 46 = .ok (.irem, 1) := by decide +kernel
theorem d_isbn_47 : decode prog_5_method_2_code 47 = .ok (.isub, 1) := by decide +kernel
theorem d_isbn_48 : decode prog_5_method_2_code 48 = .ok (.bipush 10, 2) := by decide +kernel
theorem d_isbn_50 : decode prog_5_method_2_code 50 = .ok (.irem, 1) := by decide +kernel
theorem d_isbn_51 : decode prog_5_method_2_code 51 = .ok (.iadd, 1) := by decide +kernel
theorem d_isbn_52 : decode prog_5_method_2_code 52 = .ok (.i2c, 1) := by decide +kernel
theorem d_isbn_53 : decode prog_5_method_2_code 53 = .ok (.ireturn, 1) := by decide +kernel
theorem pn_isbn : plainName "com/example/accessio/accessio/CheckDigits" = true := by first | (simp [plainName, overriddenIn]; done) | decide +kernel
theorem ef_isbn (m : MethodId) (x0 : Addr)  : entryFrame m #[(.ref x0)] 3 = mkF m 0 #[.val (.ref x0), .unset, .unset] [] := by first | (simp [entryFrame, mkF, argsToLocals, Value.category]; done) | rfl
set_option maxRecDepth 65536 in
set_option maxHeartbeats 40000000 in
theorem P_isbn (l : Launch) (Z : State) (a0 : Array Value) (hw : ∀ d ∈ tables_1, d.before a0 Z = true) (a : Addr) (d0 d1 d2 d3 d4 d5 d6 d7 d8 d9 d10 d11 e zc : Int32) (fm : Value) (h0 : Heap) (T : Str Z h0 a [(48 : Int32) + d0, (48 : Int32) + d1, (48 : Int32) + d2, (48 : Int32) + d3, (48 : Int32) + d4, (48 : Int32) + d5, (48 : Int32) + d6, (48 : Int32) + d7, (48 : Int32) + d8, (48 : Int32) + d9, (48 : Int32) + d10, (48 : Int32) + d11, (48 : Int32) + e]) (r0 : 0 ≤ d0.toInt ∧ d0.toInt ≤ 9) (r1 : 0 ≤ d1.toInt ∧ d1.toInt ≤ 9) (r2 : 0 ≤ d2.toInt ∧ d2.toInt ≤ 9) (r3 : 0 ≤ d3.toInt ∧ d3.toInt ≤ 9) (r4 : 0 ≤ d4.toInt ∧ d4.toInt ≤ 9) (r5 : 0 ≤ d5.toInt ∧ d5.toInt ≤ 9) (r6 : 0 ≤ d6.toInt ∧ d6.toInt ≤ 9) (r7 : 0 ≤ d7.toInt ∧ d7.toInt ≤ 9) (r8 : 0 ≤ d8.toInt ∧ d8.toInt ≤ 9) (r9 : 0 ≤ d9.toInt ∧ d9.toInt ≤ 9) (r10 : 0 ≤ d10.toInt ∧ d10.toInt ≤ 9) (r11 : 0 ≤ d11.toInt ∧ d11.toInt ≤ 9) (S0 : Sta Z Z.heap "java/lang/String" "COMPACT_STRINGS" "Z" (.int zc)) (hz : ¬ zc = 0) (SF : Sta Z Z.heap "jdk/internal/util/Preconditions" "SIOOBE_FORMATTER" "Ljava/util/function/BiFunction;" fm) (rf : fm.isRef = true) :
    Pays l Z (⟨"com/example/accessio/accessio/CheckDigits", "isbn13", "(Ljava/lang/String;)C"⟩ : MethodName) prog_5_method_2_code 3 (some .char) ({ frames := 4, cells := 0, slots := 0, locals := 54 } : Room) #[(.ref a)] h0 (fun v h => ∃ r : Int32, v = some (.int r) ∧ r.toInt = 48 + (10 - (d0.toInt + 3 * d1.toInt + d2.toInt + 3 * d3.toInt + d4.toInt + 3 * d5.toInt + d6.toInt + 3 * d7.toInt + d8.toInt + 3 * d9.toInt + d10.toInt + 3 * d11.toInt) % 10) % 10 ∧ h0 = h) := by
  refine pays_of_go (plainFor_of_name pn_isbn) (fun m => ef_isbn m a) ?_
  intro p e s m below meth c C0
  have C : Cx p s m meth c prog_5_method_2_code 3 (some .char) "isbn13" "com/example/accessio/accessio/CheckDigits" Z := C0
  show Go p l e ({ frames := 4, cells := 0, slots := 0, locals := 54 } : Room) s m #[(.ref a)] below meth c Z (fun v h => ∃ r : Int32, v = some (.int r) ∧ r.toInt = 48 + (10 - (d0.toInt + 3 * d1.toInt + d2.toInt + 3 * d3.toInt + d4.toInt + 3 * d5.toInt + d6.toInt + 3 * d7.toInt + d8.toInt + 3 * d9.toInt + d10.toInt + 3 * d11.toInt) % 10) % 10 ∧ h0 = h) h0 0 0 (mkF m 0 #[.val (.ref a), .unset, .unset] [])
  refine Go.plain (g' := (mkF m 1 #[.val (.ref a), .unset, .unset] [(.int (0 : Int32))])) (fun T_ L_ X_ t_ q_ => XS.iconst X_.here C.hx rfl (C.d d_isbn_0) q_) ?_
  refine Go.plain (g' := (mkF m 2 #[.val (.ref a), .val (.int (0 : Int32)), .unset] [])) (fun T_ L_ X_ t_ q_ => XS.istoreN X_.here C.hx rfl (C.d d_isbn_1) rfl (l' := #[.val (.ref a), .val (.int (0 : Int32)), .unset]) rfl q_) ?_
  refine Go.plain (g' := (mkF m 3 #[.val (.ref a), .val (.int (0 : Int32)), .unset] [(.int (0 : Int32))])) (fun T_ L_ X_ t_ q_ => XS.iconst X_.here C.hx rfl (C.d d_isbn_2) q_) ?_
  refine Go.plain (g' := (mkF m 4 #[.val (.ref a), .val (.int (0 : Int32)), .val (.int (0 : Int32))] [])) (fun T_ L_ X_ t_ q_ => XS.istoreN X_.here C.hx rfl (C.d d_isbn_3) rfl (l' := #[.val (.ref a), .val (.int (0 : Int32)), .val (.int (0 : Int32))]) rfl q_) ?_
  have hs0 : (0 : Int32).toInt = 0 := rfl
  refine Go.plain (g' := (mkF m 5 #[.val (.ref a), .val (.int (0 : Int32)), .val (.int (0 : Int32))] [(.int (0 : Int32))])) (fun T_ L_ X_ t_ q_ => XS.iloadN X_.here C.hx rfl (C.d d_isbn_4) rfl q_) ?_
  refine Go.plain (g' := (mkF m 7 #[.val (.ref a), .val (.int (0 : Int32)), .val (.int (0 : Int32))] [(.int (12 : Int32)), (.int (0 : Int32))])) (fun T_ L_ X_ t_ q_ => XS.bipush X_.here C.hx rfl (C.d d_isbn_5) q_) ?_
  refine Go.plain (g' := (mkF m 10 #[.val (.ref a), .val (.int (0 : Int32)), .val (.int (0 : Int32))] [])) (fun T_ L_ X_ t_ q_ => XS.icmpNo X_.here C.hx rfl (C.d d_isbn_7) rfl (tlt (by decide : (0 : Int32) < (12 : Int32))).2.1 q_) ?_
  refine Go.plain (g' := (mkF m 11 #[.val (.ref a), .val (.int (0 : Int32)), .val (.int (0 : Int32))] [(.int (0 : Int32))])) (fun T_ L_ X_ t_ q_ => XS.iloadN X_.here C.hx rfl (C.d d_isbn_10) rfl q_) ?_
  refine Go.plain (g' := (mkF m 12 #[.val (.ref a), .val (.int (0 : Int32)), .val (.int (0 : Int32))] [(.ref a), (.int (0 : Int32))])) (fun T_ L_ X_ t_ q_ => XS.aloadN X_.here C.hx rfl (C.d d_isbn_11) rfl rfl q_) ?_
  refine Go.plain (g' := (mkF m 13 #[.val (.ref a), .val (.int (0 : Int32)), .val (.int (0 : Int32))] [(.int (0 : Int32)), (.ref a), (.int (0 : Int32))])) (fun T_ L_ X_ t_ q_ => XS.iloadN X_.here C.hx rfl (C.d d_isbn_12) rfl q_) ?_
  refine Go.charAt hw C (i := 0) (w := ((48 : Int32) + d0)) T S0 hz SF rf (Nat.le_of_ble_eq_true rfl) rfl rfl (hw _ (List.mem_of_getElem? (i := 7) rfl)) (hw _ (List.mem_of_getElem? (i := 39) rfl)) (hw _ (List.mem_of_getElem? (i := 40) rfl)) (hw _ (List.mem_of_getElem? (i := 42) rfl)) (hw _ (List.mem_of_getElem? (i := 41) rfl)) d_isbn_13 (pc' := 16) rfl rfl (W := 1) (Nat.le_of_eq rfl) (by decide) (by decide) (by decide) (by decide) ?_
  refine Go.plain (g' := (mkF m 18 #[.val (.ref a), .val (.int (0 : Int32)), .val (.int (0 : Int32))] [(.int (48 : Int32)), (.int ((48 : Int32) + d0)), (.int (0 : Int32))])) (fun T_ L_ X_ t_ q_ => XS.bipush X_.here C.hx rfl (C.d d_isbn_16) q_) ?_
  refine Go.plain (g' := (mkF m 19 #[.val (.ref a), .val (.int (0 : Int32)), .val (.int (0 : Int32))] [(.int (((48 : Int32) + d0) - (48 : Int32))), (.int (0 : Int32))])) (fun T_ L_ X_ t_ q_ => XS.isub X_.here C.hx rfl (C.d d_isbn_18) rfl q_) ?_
  refine Go.plain (g' := (mkF m 20 #[.val (.ref a), .val (.int (0 : Int32)), .val (.int (0 : Int32))] [(.int (0 : Int32)), (.int (((48 : Int32) + d0) - (48 : Int32))), (.int (0 : Int32))])) (fun T_ L_ X_ t_ q_ => XS.iloadN X_.here C.hx rfl (C.d d_isbn_19) rfl q_) ?_
  refine Go.plain (g' := (mkF m 21 #[.val (.ref a), .val (.int (0 : Int32)), .val (.int (0 : Int32))] [(.int (2 : Int32)), (.int (0 : Int32)), (.int (((48 : Int32) + d0) - (48 : Int32))), (.int (0 : Int32))])) (fun T_ L_ X_ t_ q_ => XS.iconst X_.here C.hx rfl (C.d d_isbn_20) q_) ?_
  refine Go.irem C d_isbn_21 (by decide) (pc' := 22) rfl ?_
  show Go p l e ({ frames := 4, cells := 0, slots := 0, locals := 54 } : Room) s m #[(.ref a)] below meth c Z (fun v h => ∃ r : Int32, v = some (.int r) ∧ r.toInt = 48 + (10 - (d0.toInt + 3 * d1.toInt + d2.toInt + 3 * d3.toInt + d4.toInt + 3 * d5.toInt + d6.toInt + 3 * d7.toInt + d8.toInt + 3 * d9.toInt + d10.toInt + 3 * d11.toInt) % 10) % 10 ∧ h0 = h) h0 0 0 (mkF m 22 #[.val (.ref a), .val (.int (0 : Int32)), .val (.int (0 : Int32))] [(.int (0 : Int32)), (.int (((48 : Int32) + d0) - (48 : Int32))), (.int (0 : Int32))])
  refine Go.plain (g' := (mkF m 25 #[.val (.ref a), .val (.int (0 : Int32)), .val (.int (0 : Int32))] [(.int (((48 : Int32) + d0) - (48 : Int32))), (.int (0 : Int32))])) (fun T_ L_ X_ t_ q_ => XS.ifNo X_.here C.hx rfl (C.d d_isbn_22) rfl ((if0 _ _).trans (teq (rfl : (0 : Int32) = (0 : Int32))).2) q_) ?_
  refine Go.plain (g' := (mkF m 26 #[.val (.ref a), .val (.int (0 : Int32)), .val (.int (0 : Int32))] [(.int (1 : Int32)), (.int (((48 : Int32) + d0) - (48 : Int32))), (.int (0 : Int32))])) (fun T_ L_ X_ t_ q_ => XS.iconst X_.here C.hx rfl (C.d d_isbn_25) q_) ?_
  refine Go.plain (g' := (mkF m 30 #[.val (.ref a), .val (.int (0 : Int32)), .val (.int (0 : Int32))] [(.int (1 : Int32)), (.int (((48 : Int32) + d0) - (48 : Int32))), (.int (0 : Int32))])) (fun T_ L_ X_ t_ q_ => XS.goto X_.here C.hx rfl (pc0 := 26) (pc' := 30) rfl (C.d d_isbn_26) (by decide) (by decide) q_) ?_
  refine Go.plain (g' := (mkF m 31 #[.val (.ref a), .val (.int (0 : Int32)), .val (.int (0 : Int32))] [(.int ((((48 : Int32) + d0) - (48 : Int32)) * (1 : Int32))), (.int (0 : Int32))])) (fun T_ L_ X_ t_ q_ => XS.imul X_.here C.hx rfl (C.d d_isbn_30) rfl q_) ?_
  refine Go.plain (g' := (mkF m 32 #[.val (.ref a), .val (.int (0 : Int32)), .val (.int (0 : Int32))] [(.int ((0 : Int32) + ((((48 : Int32) + d0) - (48 : Int32)) * (1 : Int32))))])) (fun T_ L_ X_ t_ q_ => XS.iadd X_.here C.hx rfl (C.d d_isbn_31) rfl q_) ?_
  have hs1 := addA (0 : Int32) d0 (by omega) (by omega)
  generalize ht1 : ((0 : Int32) + ((((48 : Int32) + d0) - (48 : Int32)) * (1 : Int32))) = t1 at hs1 ⊢
  refine Go.plain (g' := (mkF m 33 #[.val (.ref a), .val (.int t1), .val (.int (0 : Int32))] [])) (fun T_ L_ X_ t_ q_ => XS.istoreN X_.here C.hx rfl (C.d d_isbn_32) rfl (l' := #[.val (.ref a), .val (.int t1), .val (.int (0 : Int32))]) rfl q_) ?_
  refine Go.plain (g' := (mkF m 36 #[.val (.ref a), .val (.int t1), .val (.int (1 : Int32))] [])) (fun T_ L_ X_ t_ q_ => XS.iinc X_.here C.hx rfl (C.d d_isbn_33) rfl (l' := #[.val (.ref a), .val (.int t1), .val (.int (1 : Int32))]) rfl q_) ?_
  refine Go.plain (g' := (mkF m 4 #[.val (.ref a), .val (.int t1), .val (.int (1 : Int32))] [])) (fun T_ L_ X_ t_ q_ => XS.goto X_.here C.hx rfl (pc0 := 36) (pc' := 4) rfl (C.d d_isbn_36) (by decide) (by decide) q_) ?_
  refine Go.plain (g' := (mkF m 5 #[.val (.ref a), .val (.int t1), .val (.int (1 : Int32))] [(.int (1 : Int32))])) (fun T_ L_ X_ t_ q_ => XS.iloadN X_.here C.hx rfl (C.d d_isbn_4) rfl q_) ?_
  refine Go.plain (g' := (mkF m 7 #[.val (.ref a), .val (.int t1), .val (.int (1 : Int32))] [(.int (12 : Int32)), (.int (1 : Int32))])) (fun T_ L_ X_ t_ q_ => XS.bipush X_.here C.hx rfl (C.d d_isbn_5) q_) ?_
  refine Go.plain (g' := (mkF m 10 #[.val (.ref a), .val (.int t1), .val (.int (1 : Int32))] [])) (fun T_ L_ X_ t_ q_ => XS.icmpNo X_.here C.hx rfl (C.d d_isbn_7) rfl (tlt (by decide : (1 : Int32) < (12 : Int32))).2.1 q_) ?_
  refine Go.plain (g' := (mkF m 11 #[.val (.ref a), .val (.int t1), .val (.int (1 : Int32))] [(.int t1)])) (fun T_ L_ X_ t_ q_ => XS.iloadN X_.here C.hx rfl (C.d d_isbn_10) rfl q_) ?_
  refine Go.plain (g' := (mkF m 12 #[.val (.ref a), .val (.int t1), .val (.int (1 : Int32))] [(.ref a), (.int t1)])) (fun T_ L_ X_ t_ q_ => XS.aloadN X_.here C.hx rfl (C.d d_isbn_11) rfl rfl q_) ?_
  refine Go.plain (g' := (mkF m 13 #[.val (.ref a), .val (.int t1), .val (.int (1 : Int32))] [(.int (1 : Int32)), (.ref a), (.int t1)])) (fun T_ L_ X_ t_ q_ => XS.iloadN X_.here C.hx rfl (C.d d_isbn_12) rfl q_) ?_
  refine Go.charAt hw C (i := 1) (w := ((48 : Int32) + d1)) T S0 hz SF rf (Nat.le_of_ble_eq_true rfl) rfl rfl (hw _ (List.mem_of_getElem? (i := 7) rfl)) (hw _ (List.mem_of_getElem? (i := 39) rfl)) (hw _ (List.mem_of_getElem? (i := 40) rfl)) (hw _ (List.mem_of_getElem? (i := 42) rfl)) (hw _ (List.mem_of_getElem? (i := 41) rfl)) d_isbn_13 (pc' := 16) rfl rfl (W := 1) (Nat.le_of_eq rfl) (by decide) (by decide) (by decide) (by decide) ?_
  refine Go.plain (g' := (mkF m 18 #[.val (.ref a), .val (.int t1), .val (.int (1 : Int32))] [(.int (48 : Int32)), (.int ((48 : Int32) + d1)), (.int t1)])) (fun T_ L_ X_ t_ q_ => XS.bipush X_.here C.hx rfl (C.d d_isbn_16) q_) ?_
  refine Go.plain (g' := (mkF m 19 #[.val (.ref a), .val (.int t1), .val (.int (1 : Int32))] [(.int (((48 : Int32) + d1) - (48 : Int32))), (.int t1)])) (fun T_ L_ X_ t_ q_ => XS.isub X_.here C.hx rfl (C.d d_isbn_18) rfl q_) ?_
  refine Go.plain (g' := (mkF m 20 #[.val (.ref a), .val (.int t1), .val (.int (1 : Int32))] [(.int (1 : Int32)), (.int (((48 : Int32) + d1) - (48 : Int32))), (.int t1)])) (fun T_ L_ X_ t_ q_ => XS.iloadN X_.here C.hx rfl (C.d d_isbn_19) rfl q_) ?_
  refine Go.plain (g' := (mkF m 21 #[.val (.ref a), .val (.int t1), .val (.int (1 : Int32))] [(.int (2 : Int32)), (.int (1 : Int32)), (.int (((48 : Int32) + d1) - (48 : Int32))), (.int t1)])) (fun T_ L_ X_ t_ q_ => XS.iconst X_.here C.hx rfl (C.d d_isbn_20) q_) ?_
  refine Go.irem C d_isbn_21 (by decide) (pc' := 22) rfl ?_
  show Go p l e ({ frames := 4, cells := 0, slots := 0, locals := 54 } : Room) s m #[(.ref a)] below meth c Z (fun v h => ∃ r : Int32, v = some (.int r) ∧ r.toInt = 48 + (10 - (d0.toInt + 3 * d1.toInt + d2.toInt + 3 * d3.toInt + d4.toInt + 3 * d5.toInt + d6.toInt + 3 * d7.toInt + d8.toInt + 3 * d9.toInt + d10.toInt + 3 * d11.toInt) % 10) % 10 ∧ h0 = h) h0 0 0 (mkF m 22 #[.val (.ref a), .val (.int t1), .val (.int (1 : Int32))] [(.int (1 : Int32)), (.int (((48 : Int32) + d1) - (48 : Int32))), (.int t1)])
  refine Go.plain (g' := (mkF m 29 #[.val (.ref a), .val (.int t1), .val (.int (1 : Int32))] [(.int (((48 : Int32) + d1) - (48 : Int32))), (.int t1)])) (fun T_ L_ X_ t_ q_ => XS.ifYes X_.here C.hx rfl (pc0 := 22) (pc' := 29) rfl (C.d d_isbn_22) rfl ((if0 _ _).trans (feq (by decide : ¬ ((1 : Int32) = (0 : Int32)))).2) (by decide) (by decide) q_) ?_
  refine Go.plain (g' := (mkF m 30 #[.val (.ref a), .val (.int t1), .val (.int (1 : Int32))] [(.int (3 : Int32)), (.int (((48 : Int32) + d1) - (48 : Int32))), (.int t1)])) (fun T_ L_ X_ t_ q_ => XS.iconst X_.here C.hx rfl (C.d d_isbn_29) q_) ?_
  refine Go.plain (g' := (mkF m 31 #[.val (.ref a), .val (.int t1), .val (.int (1 : Int32))] [(.int ((((48 : Int32) + d1) - (48 : Int32)) * (3 : Int32))), (.int t1)])) (fun T_ L_ X_ t_ q_ => XS.imul X_.here C.hx rfl (C.d d_isbn_30) rfl q_) ?_
  refine Go.plain (g' := (mkF m 32 #[.val (.ref a), .val (.int t1), .val (.int (1 : Int32))] [(.int (t1 + ((((48 : Int32) + d1) - (48 : Int32)) * (3 : Int32))))])) (fun T_ L_ X_ t_ q_ => XS.iadd X_.here C.hx rfl (C.d d_isbn_31) rfl q_) ?_
  have hs2 := addB t1 d1 (by omega) (by omega)
  generalize ht2 : (t1 + ((((48 : Int32) + d1) - (48 : Int32)) * (3 : Int32))) = t2 at hs2 ⊢
  refine Go.plain (g' := (mkF m 33 #[.val (.ref a), .val (.int t2), .val (.int (1 : Int32))] [])) (fun T_ L_ X_ t_ q_ => XS.istoreN X_.here C.hx rfl (C.d d_isbn_32) rfl (l' := #[.val (.ref a), .val (.int t2), .val (.int (1 : Int32))]) rfl q_) ?_
  refine Go.plain (g' := (mkF m 36 #[.val (.ref a), .val (.int t2), .val (.int (2 : Int32))] [])) (fun T_ L_ X_ t_ q_ => XS.iinc X_.here C.hx rfl (C.d d_isbn_33) rfl (l' := #[.val (.ref a), .val (.int t2), .val (.int (2 : Int32))]) rfl q_) ?_
  refine Go.plain (g' := (mkF m 4 #[.val (.ref a), .val (.int t2), .val (.int (2 : Int32))] [])) (fun T_ L_ X_ t_ q_ => XS.goto X_.here C.hx rfl (pc0 := 36) (pc' := 4) rfl (C.d d_isbn_36) (by decide) (by decide) q_) ?_
  refine Go.plain (g' := (mkF m 5 #[.val (.ref a), .val (.int t2), .val (.int (2 : Int32))] [(.int (2 : Int32))])) (fun T_ L_ X_ t_ q_ => XS.iloadN X_.here C.hx rfl (C.d d_isbn_4) rfl q_) ?_
  refine Go.plain (g' := (mkF m 7 #[.val (.ref a), .val (.int t2), .val (.int (2 : Int32))] [(.int (12 : Int32)), (.int (2 : Int32))])) (fun T_ L_ X_ t_ q_ => XS.bipush X_.here C.hx rfl (C.d d_isbn_5) q_) ?_
  refine Go.plain (g' := (mkF m 10 #[.val (.ref a), .val (.int t2), .val (.int (2 : Int32))] [])) (fun T_ L_ X_ t_ q_ => XS.icmpNo X_.here C.hx rfl (C.d d_isbn_7) rfl (tlt (by decide : (2 : Int32) < (12 : Int32))).2.1 q_) ?_
  refine Go.plain (g' := (mkF m 11 #[.val (.ref a), .val (.int t2), .val (.int (2 : Int32))] [(.int t2)])) (fun T_ L_ X_ t_ q_ => XS.iloadN X_.here C.hx rfl (C.d d_isbn_10) rfl q_) ?_
  refine Go.plain (g' := (mkF m 12 #[.val (.ref a), .val (.int t2), .val (.int (2 : Int32))] [(.ref a), (.int t2)])) (fun T_ L_ X_ t_ q_ => XS.aloadN X_.here C.hx rfl (C.d d_isbn_11) rfl rfl q_) ?_
  refine Go.plain (g' := (mkF m 13 #[.val (.ref a), .val (.int t2), .val (.int (2 : Int32))] [(.int (2 : Int32)), (.ref a), (.int t2)])) (fun T_ L_ X_ t_ q_ => XS.iloadN X_.here C.hx rfl (C.d d_isbn_12) rfl q_) ?_
  refine Go.charAt hw C (i := 2) (w := ((48 : Int32) + d2)) T S0 hz SF rf (Nat.le_of_ble_eq_true rfl) rfl rfl (hw _ (List.mem_of_getElem? (i := 7) rfl)) (hw _ (List.mem_of_getElem? (i := 39) rfl)) (hw _ (List.mem_of_getElem? (i := 40) rfl)) (hw _ (List.mem_of_getElem? (i := 42) rfl)) (hw _ (List.mem_of_getElem? (i := 41) rfl)) d_isbn_13 (pc' := 16) rfl rfl (W := 1) (Nat.le_of_eq rfl) (by decide) (by decide) (by decide) (by decide) ?_
  refine Go.plain (g' := (mkF m 18 #[.val (.ref a), .val (.int t2), .val (.int (2 : Int32))] [(.int (48 : Int32)), (.int ((48 : Int32) + d2)), (.int t2)])) (fun T_ L_ X_ t_ q_ => XS.bipush X_.here C.hx rfl (C.d d_isbn_16) q_) ?_
  refine Go.plain (g' := (mkF m 19 #[.val (.ref a), .val (.int t2), .val (.int (2 : Int32))] [(.int (((48 : Int32) + d2) - (48 : Int32))), (.int t2)])) (fun T_ L_ X_ t_ q_ => XS.isub X_.here C.hx rfl (C.d d_isbn_18) rfl q_) ?_
  refine Go.plain (g' := (mkF m 20 #[.val (.ref a), .val (.int t2), .val (.int (2 : Int32))] [(.int (2 : Int32)), (.int (((48 : Int32) + d2) - (48 : Int32))), (.int t2)])) (fun T_ L_ X_ t_ q_ => XS.iloadN X_.here C.hx rfl (C.d d_isbn_19) rfl q_) ?_
  refine Go.plain (g' := (mkF m 21 #[.val (.ref a), .val (.int t2), .val (.int (2 : Int32))] [(.int (2 : Int32)), (.int (2 : Int32)), (.int (((48 : Int32) + d2) - (48 : Int32))), (.int t2)])) (fun T_ L_ X_ t_ q_ => XS.iconst X_.here C.hx rfl (C.d d_isbn_20) q_) ?_
  refine Go.irem C d_isbn_21 (by decide) (pc' := 22) rfl ?_
  show Go p l e ({ frames := 4, cells := 0, slots := 0, locals := 54 } : Room) s m #[(.ref a)] below meth c Z (fun v h => ∃ r : Int32, v = some (.int r) ∧ r.toInt = 48 + (10 - (d0.toInt + 3 * d1.toInt + d2.toInt + 3 * d3.toInt + d4.toInt + 3 * d5.toInt + d6.toInt + 3 * d7.toInt + d8.toInt + 3 * d9.toInt + d10.toInt + 3 * d11.toInt) % 10) % 10 ∧ h0 = h) h0 0 0 (mkF m 22 #[.val (.ref a), .val (.int t2), .val (.int (2 : Int32))] [(.int (0 : Int32)), (.int (((48 : Int32) + d2) - (48 : Int32))), (.int t2)])
  refine Go.plain (g' := (mkF m 25 #[.val (.ref a), .val (.int t2), .val (.int (2 : Int32))] [(.int (((48 : Int32) + d2) - (48 : Int32))), (.int t2)])) (fun T_ L_ X_ t_ q_ => XS.ifNo X_.here C.hx rfl (C.d d_isbn_22) rfl ((if0 _ _).trans (teq (rfl : (0 : Int32) = (0 : Int32))).2) q_) ?_
  refine Go.plain (g' := (mkF m 26 #[.val (.ref a), .val (.int t2), .val (.int (2 : Int32))] [(.int (1 : Int32)), (.int (((48 : Int32) + d2) - (48 : Int32))), (.int t2)])) (fun T_ L_ X_ t_ q_ => XS.iconst X_.here C.hx rfl (C.d d_isbn_25) q_) ?_
  refine Go.plain (g' := (mkF m 30 #[.val (.ref a), .val (.int t2), .val (.int (2 : Int32))] [(.int (1 : Int32)), (.int (((48 : Int32) + d2) - (48 : Int32))), (.int t2)])) (fun T_ L_ X_ t_ q_ => XS.goto X_.here C.hx rfl (pc0 := 26) (pc' := 30) rfl (C.d d_isbn_26) (by decide) (by decide) q_) ?_
  refine Go.plain (g' := (mkF m 31 #[.val (.ref a), .val (.int t2), .val (.int (2 : Int32))] [(.int ((((48 : Int32) + d2) - (48 : Int32)) * (1 : Int32))), (.int t2)])) (fun T_ L_ X_ t_ q_ => XS.imul X_.here C.hx rfl (C.d d_isbn_30) rfl q_) ?_
  refine Go.plain (g' := (mkF m 32 #[.val (.ref a), .val (.int t2), .val (.int (2 : Int32))] [(.int (t2 + ((((48 : Int32) + d2) - (48 : Int32)) * (1 : Int32))))])) (fun T_ L_ X_ t_ q_ => XS.iadd X_.here C.hx rfl (C.d d_isbn_31) rfl q_) ?_
  have hs3 := addA t2 d2 (by omega) (by omega)
  generalize ht3 : (t2 + ((((48 : Int32) + d2) - (48 : Int32)) * (1 : Int32))) = t3 at hs3 ⊢
  refine Go.plain (g' := (mkF m 33 #[.val (.ref a), .val (.int t3), .val (.int (2 : Int32))] [])) (fun T_ L_ X_ t_ q_ => XS.istoreN X_.here C.hx rfl (C.d d_isbn_32) rfl (l' := #[.val (.ref a), .val (.int t3), .val (.int (2 : Int32))]) rfl q_) ?_
  refine Go.plain (g' := (mkF m 36 #[.val (.ref a), .val (.int t3), .val (.int (3 : Int32))] [])) (fun T_ L_ X_ t_ q_ => XS.iinc X_.here C.hx rfl (C.d d_isbn_33) rfl (l' := #[.val (.ref a), .val (.int t3), .val (.int (3 : Int32))]) rfl q_) ?_
  refine Go.plain (g' := (mkF m 4 #[.val (.ref a), .val (.int t3), .val (.int (3 : Int32))] [])) (fun T_ L_ X_ t_ q_ => XS.goto X_.here C.hx rfl (pc0 := 36) (pc' := 4) rfl (C.d d_isbn_36) (by decide) (by decide) q_) ?_
  refine Go.plain (g' := (mkF m 5 #[.val (.ref a), .val (.int t3), .val (.int (3 : Int32))] [(.int (3 : Int32))])) (fun T_ L_ X_ t_ q_ => XS.iloadN X_.here C.hx rfl (C.d d_isbn_4) rfl q_) ?_
  refine Go.plain (g' := (mkF m 7 #[.val (.ref a), .val (.int t3), .val (.int (3 : Int32))] [(.int (12 : Int32)), (.int (3 : Int32))])) (fun T_ L_ X_ t_ q_ => XS.bipush X_.here C.hx rfl (C.d d_isbn_5) q_) ?_
  refine Go.plain (g' := (mkF m 10 #[.val (.ref a), .val (.int t3), .val (.int (3 : Int32))] [])) (fun T_ L_ X_ t_ q_ => XS.icmpNo X_.here C.hx rfl (C.d d_isbn_7) rfl (tlt (by decide : (3 : Int32) < (12 : Int32))).2.1 q_) ?_
  refine Go.plain (g' := (mkF m 11 #[.val (.ref a), .val (.int t3), .val (.int (3 : Int32))] [(.int t3)])) (fun T_ L_ X_ t_ q_ => XS.iloadN X_.here C.hx rfl (C.d d_isbn_10) rfl q_) ?_
  refine Go.plain (g' := (mkF m 12 #[.val (.ref a), .val (.int t3), .val (.int (3 : Int32))] [(.ref a), (.int t3)])) (fun T_ L_ X_ t_ q_ => XS.aloadN X_.here C.hx rfl (C.d d_isbn_11) rfl rfl q_) ?_
  refine Go.plain (g' := (mkF m 13 #[.val (.ref a), .val (.int t3), .val (.int (3 : Int32))] [(.int (3 : Int32)), (.ref a), (.int t3)])) (fun T_ L_ X_ t_ q_ => XS.iloadN X_.here C.hx rfl (C.d d_isbn_12) rfl q_) ?_
  refine Go.charAt hw C (i := 3) (w := ((48 : Int32) + d3)) T S0 hz SF rf (Nat.le_of_ble_eq_true rfl) rfl rfl (hw _ (List.mem_of_getElem? (i := 7) rfl)) (hw _ (List.mem_of_getElem? (i := 39) rfl)) (hw _ (List.mem_of_getElem? (i := 40) rfl)) (hw _ (List.mem_of_getElem? (i := 42) rfl)) (hw _ (List.mem_of_getElem? (i := 41) rfl)) d_isbn_13 (pc' := 16) rfl rfl (W := 1) (Nat.le_of_eq rfl) (by decide) (by decide) (by decide) (by decide) ?_
  refine Go.plain (g' := (mkF m 18 #[.val (.ref a), .val (.int t3), .val (.int (3 : Int32))] [(.int (48 : Int32)), (.int ((48 : Int32) + d3)), (.int t3)])) (fun T_ L_ X_ t_ q_ => XS.bipush X_.here C.hx rfl (C.d d_isbn_16) q_) ?_
  refine Go.plain (g' := (mkF m 19 #[.val (.ref a), .val (.int t3), .val (.int (3 : Int32))] [(.int (((48 : Int32) + d3) - (48 : Int32))), (.int t3)])) (fun T_ L_ X_ t_ q_ => XS.isub X_.here C.hx rfl (C.d d_isbn_18) rfl q_) ?_
  refine Go.plain (g' := (mkF m 20 #[.val (.ref a), .val (.int t3), .val (.int (3 : Int32))] [(.int (3 : Int32)), (.int (((48 : Int32) + d3) - (48 : Int32))), (.int t3)])) (fun T_ L_ X_ t_ q_ => XS.iloadN X_.here C.hx rfl (C.d d_isbn_19) rfl q_) ?_
  refine Go.plain (g' := (mkF m 21 #[.val (.ref a), .val (.int t3), .val (.int (3 : Int32))] [(.int (2 : Int32)), (.int (3 : Int32)), (.int (((48 : Int32) + d3) - (48 : Int32))), (.int t3)])) (fun T_ L_ X_ t_ q_ => XS.iconst X_.here C.hx rfl (C.d d_isbn_20) q_) ?_
  refine Go.irem C d_isbn_21 (by decide) (pc' := 22) rfl ?_
  show Go p l e ({ frames := 4, cells := 0, slots := 0, locals := 54 } : Room) s m #[(.ref a)] below meth c Z (fun v h => ∃ r : Int32, v = some (.int r) ∧ r.toInt = 48 + (10 - (d0.toInt + 3 * d1.toInt + d2.toInt + 3 * d3.toInt + d4.toInt + 3 * d5.toInt + d6.toInt + 3 * d7.toInt + d8.toInt + 3 * d9.toInt + d10.toInt + 3 * d11.toInt) % 10) % 10 ∧ h0 = h) h0 0 0 (mkF m 22 #[.val (.ref a), .val (.int t3), .val (.int (3 : Int32))] [(.int (1 : Int32)), (.int (((48 : Int32) + d3) - (48 : Int32))), (.int t3)])
  refine Go.plain (g' := (mkF m 29 #[.val (.ref a), .val (.int t3), .val (.int (3 : Int32))] [(.int (((48 : Int32) + d3) - (48 : Int32))), (.int t3)])) (fun T_ L_ X_ t_ q_ => XS.ifYes X_.here C.hx rfl (pc0 := 22) (pc' := 29) rfl (C.d d_isbn_22) rfl ((if0 _ _).trans (feq (by decide : ¬ ((1 : Int32) = (0 : Int32)))).2) (by decide) (by decide) q_) ?_
  refine Go.plain (g' := (mkF m 30 #[.val (.ref a), .val (.int t3), .val (.int (3 : Int32))] [(.int (3 : Int32)), (.int (((48 : Int32) + d3) - (48 : Int32))), (.int t3)])) (fun T_ L_ X_ t_ q_ => XS.iconst X_.here C.hx rfl (C.d d_isbn_29) q_) ?_
  refine Go.plain (g' := (mkF m 31 #[.val (.ref a), .val (.int t3), .val (.int (3 : Int32))] [(.int ((((48 : Int32) + d3) - (48 : Int32)) * (3 : Int32))), (.int t3)])) (fun T_ L_ X_ t_ q_ => XS.imul X_.here C.hx rfl (C.d d_isbn_30) rfl q_) ?_
  refine Go.plain (g' := (mkF m 32 #[.val (.ref a), .val (.int t3), .val (.int (3 : Int32))] [(.int (t3 + ((((48 : Int32) + d3) - (48 : Int32)) * (3 : Int32))))])) (fun T_ L_ X_ t_ q_ => XS.iadd X_.here C.hx rfl (C.d d_isbn_31) rfl q_) ?_
  have hs4 := addB t3 d3 (by omega) (by omega)
  generalize ht4 : (t3 + ((((48 : Int32) + d3) - (48 : Int32)) * (3 : Int32))) = t4 at hs4 ⊢
  refine Go.plain (g' := (mkF m 33 #[.val (.ref a), .val (.int t4), .val (.int (3 : Int32))] [])) (fun T_ L_ X_ t_ q_ => XS.istoreN X_.here C.hx rfl (C.d d_isbn_32) rfl (l' := #[.val (.ref a), .val (.int t4), .val (.int (3 : Int32))]) rfl q_) ?_
  refine Go.plain (g' := (mkF m 36 #[.val (.ref a), .val (.int t4), .val (.int (4 : Int32))] [])) (fun T_ L_ X_ t_ q_ => XS.iinc X_.here C.hx rfl (C.d d_isbn_33) rfl (l' := #[.val (.ref a), .val (.int t4), .val (.int (4 : Int32))]) rfl q_) ?_
  refine Go.plain (g' := (mkF m 4 #[.val (.ref a), .val (.int t4), .val (.int (4 : Int32))] [])) (fun T_ L_ X_ t_ q_ => XS.goto X_.here C.hx rfl (pc0 := 36) (pc' := 4) rfl (C.d d_isbn_36) (by decide) (by decide) q_) ?_
  refine Go.plain (g' := (mkF m 5 #[.val (.ref a), .val (.int t4), .val (.int (4 : Int32))] [(.int (4 : Int32))])) (fun T_ L_ X_ t_ q_ => XS.iloadN X_.here C.hx rfl (C.d d_isbn_4) rfl q_) ?_
  refine Go.plain (g' := (mkF m 7 #[.val (.ref a), .val (.int t4), .val (.int (4 : Int32))] [(.int (12 : Int32)), (.int (4 : Int32))])) (fun T_ L_ X_ t_ q_ => XS.bipush X_.here C.hx rfl (C.d d_isbn_5) q_) ?_
  refine Go.plain (g' := (mkF m 10 #[.val (.ref a), .val (.int t4), .val (.int (4 : Int32))] [])) (fun T_ L_ X_ t_ q_ => XS.icmpNo X_.here C.hx rfl (C.d d_isbn_7) rfl (tlt (by decide : (4 : Int32) < (12 : Int32))).2.1 q_) ?_
  refine Go.plain (g' := (mkF m 11 #[.val (.ref a), .val (.int t4), .val (.int (4 : Int32))] [(.int t4)])) (fun T_ L_ X_ t_ q_ => XS.iloadN X_.here C.hx rfl (C.d d_isbn_10) rfl q_) ?_
  refine Go.plain (g' := (mkF m 12 #[.val (.ref a), .val (.int t4), .val (.int (4 : Int32))] [(.ref a), (.int t4)])) (fun T_ L_ X_ t_ q_ => XS.aloadN X_.here C.hx rfl (C.d d_isbn_11) rfl rfl q_) ?_
  refine Go.plain (g' := (mkF m 13 #[.val (.ref a), .val (.int t4), .val (.int (4 : Int32))] [(.int (4 : Int32)), (.ref a), (.int t4)])) (fun T_ L_ X_ t_ q_ => XS.iloadN X_.here C.hx rfl (C.d d_isbn_12) rfl q_) ?_
  refine Go.charAt hw C (i := 4) (w := ((48 : Int32) + d4)) T S0 hz SF rf (Nat.le_of_ble_eq_true rfl) rfl rfl (hw _ (List.mem_of_getElem? (i := 7) rfl)) (hw _ (List.mem_of_getElem? (i := 39) rfl)) (hw _ (List.mem_of_getElem? (i := 40) rfl)) (hw _ (List.mem_of_getElem? (i := 42) rfl)) (hw _ (List.mem_of_getElem? (i := 41) rfl)) d_isbn_13 (pc' := 16) rfl rfl (W := 1) (Nat.le_of_eq rfl) (by decide) (by decide) (by decide) (by decide) ?_
  refine Go.plain (g' := (mkF m 18 #[.val (.ref a), .val (.int t4), .val (.int (4 : Int32))] [(.int (48 : Int32)), (.int ((48 : Int32) + d4)), (.int t4)])) (fun T_ L_ X_ t_ q_ => XS.bipush X_.here C.hx rfl (C.d d_isbn_16) q_) ?_
  refine Go.plain (g' := (mkF m 19 #[.val (.ref a), .val (.int t4), .val (.int (4 : Int32))] [(.int (((48 : Int32) + d4) - (48 : Int32))), (.int t4)])) (fun T_ L_ X_ t_ q_ => XS.isub X_.here C.hx rfl (C.d d_isbn_18) rfl q_) ?_
  refine Go.plain (g' := (mkF m 20 #[.val (.ref a), .val (.int t4), .val (.int (4 : Int32))] [(.int (4 : Int32)), (.int (((48 : Int32) + d4) - (48 : Int32))), (.int t4)])) (fun T_ L_ X_ t_ q_ => XS.iloadN X_.here C.hx rfl (C.d d_isbn_19) rfl q_) ?_
  refine Go.plain (g' := (mkF m 21 #[.val (.ref a), .val (.int t4), .val (.int (4 : Int32))] [(.int (2 : Int32)), (.int (4 : Int32)), (.int (((48 : Int32) + d4) - (48 : Int32))), (.int t4)])) (fun T_ L_ X_ t_ q_ => XS.iconst X_.here C.hx rfl (C.d d_isbn_20) q_) ?_
  refine Go.irem C d_isbn_21 (by decide) (pc' := 22) rfl ?_
  show Go p l e ({ frames := 4, cells := 0, slots := 0, locals := 54 } : Room) s m #[(.ref a)] below meth c Z (fun v h => ∃ r : Int32, v = some (.int r) ∧ r.toInt = 48 + (10 - (d0.toInt + 3 * d1.toInt + d2.toInt + 3 * d3.toInt + d4.toInt + 3 * d5.toInt + d6.toInt + 3 * d7.toInt + d8.toInt + 3 * d9.toInt + d10.toInt + 3 * d11.toInt) % 10) % 10 ∧ h0 = h) h0 0 0 (mkF m 22 #[.val (.ref a), .val (.int t4), .val (.int (4 : Int32))] [(.int (0 : Int32)), (.int (((48 : Int32) + d4) - (48 : Int32))), (.int t4)])
  refine Go.plain (g' := (mkF m 25 #[.val (.ref a), .val (.int t4), .val (.int (4 : Int32))] [(.int (((48 : Int32) + d4) - (48 : Int32))), (.int t4)])) (fun T_ L_ X_ t_ q_ => XS.ifNo X_.here C.hx rfl (C.d d_isbn_22) rfl ((if0 _ _).trans (teq (rfl : (0 : Int32) = (0 : Int32))).2) q_) ?_
  refine Go.plain (g' := (mkF m 26 #[.val (.ref a), .val (.int t4), .val (.int (4 : Int32))] [(.int (1 : Int32)), (.int (((48 : Int32) + d4) - (48 : Int32))), (.int t4)])) (fun T_ L_ X_ t_ q_ => XS.iconst X_.here C.hx rfl (C.d d_isbn_25) q_) ?_
  refine Go.plain (g' := (mkF m 30 #[.val (.ref a), .val (.int t4), .val (.int (4 : Int32))] [(.int (1 : Int32)), (.int (((48 : Int32) + d4) - (48 : Int32))), (.int t4)])) (fun T_ L_ X_ t_ q_ => XS.goto X_.here C.hx rfl (pc0 := 26) (pc' := 30) rfl (C.d d_isbn_26) (by decide) (by decide) q_) ?_
  refine Go.plain (g' := (mkF m 31 #[.val (.ref a), .val (.int t4), .val (.int (4 : Int32))] [(.int ((((48 : Int32) + d4) - (48 : Int32)) * (1 : Int32))), (.int t4)])) (fun T_ L_ X_ t_ q_ => XS.imul X_.here C.hx rfl (C.d d_isbn_30) rfl q_) ?_
  refine Go.plain (g' := (mkF m 32 #[.val (.ref a), .val (.int t4), .val (.int (4 : Int32))] [(.int (t4 + ((((48 : Int32) + d4) - (48 : Int32)) * (1 : Int32))))])) (fun T_ L_ X_ t_ q_ => XS.iadd X_.here C.hx rfl (C.d d_isbn_31) rfl q_) ?_
  have hs5 := addA t4 d4 (by omega) (by omega)
  generalize ht5 : (t4 + ((((48 : Int32) + d4) - (48 : Int32)) * (1 : Int32))) = t5 at hs5 ⊢
  refine Go.plain (g' := (mkF m 33 #[.val (.ref a), .val (.int t5), .val (.int (4 : Int32))] [])) (fun T_ L_ X_ t_ q_ => XS.istoreN X_.here C.hx rfl (C.d d_isbn_32) rfl (l' := #[.val (.ref a), .val (.int t5), .val (.int (4 : Int32))]) rfl q_) ?_
  refine Go.plain (g' := (mkF m 36 #[.val (.ref a), .val (.int t5), .val (.int (5 : Int32))] [])) (fun T_ L_ X_ t_ q_ => XS.iinc X_.here C.hx rfl (C.d d_isbn_33) rfl (l' := #[.val (.ref a), .val (.int t5), .val (.int (5 : Int32))]) rfl q_) ?_
  refine Go.plain (g' := (mkF m 4 #[.val (.ref a), .val (.int t5), .val (.int (5 : Int32))] [])) (fun T_ L_ X_ t_ q_ => XS.goto X_.here C.hx rfl (pc0 := 36) (pc' := 4) rfl (C.d d_isbn_36) (by decide) (by decide) q_) ?_
  refine Go.plain (g' := (mkF m 5 #[.val (.ref a), .val (.int t5), .val (.int (5 : Int32))] [(.int (5 : Int32))])) (fun T_ L_ X_ t_ q_ => XS.iloadN X_.here C.hx rfl (C.d d_isbn_4) rfl q_) ?_
  refine Go.plain (g' := (mkF m 7 #[.val (.ref a), .val (.int t5), .val (.int (5 : Int32))] [(.int (12 : Int32)), (.int (5 : Int32))])) (fun T_ L_ X_ t_ q_ => XS.bipush X_.here C.hx rfl (C.d d_isbn_5) q_) ?_
  refine Go.plain (g' := (mkF m 10 #[.val (.ref a), .val (.int t5), .val (.int (5 : Int32))] [])) (fun T_ L_ X_ t_ q_ => XS.icmpNo X_.here C.hx rfl (C.d d_isbn_7) rfl (tlt (by decide : (5 : Int32) < (12 : Int32))).2.1 q_) ?_
  refine Go.plain (g' := (mkF m 11 #[.val (.ref a), .val (.int t5), .val (.int (5 : Int32))] [(.int t5)])) (fun T_ L_ X_ t_ q_ => XS.iloadN X_.here C.hx rfl (C.d d_isbn_10) rfl q_) ?_
  refine Go.plain (g' := (mkF m 12 #[.val (.ref a), .val (.int t5), .val (.int (5 : Int32))] [(.ref a), (.int t5)])) (fun T_ L_ X_ t_ q_ => XS.aloadN X_.here C.hx rfl (C.d d_isbn_11) rfl rfl q_) ?_
  refine Go.plain (g' := (mkF m 13 #[.val (.ref a), .val (.int t5), .val (.int (5 : Int32))] [(.int (5 : Int32)), (.ref a), (.int t5)])) (fun T_ L_ X_ t_ q_ => XS.iloadN X_.here C.hx rfl (C.d d_isbn_12) rfl q_) ?_
  refine Go.charAt hw C (i := 5) (w := ((48 : Int32) + d5)) T S0 hz SF rf (Nat.le_of_ble_eq_true rfl) rfl rfl (hw _ (List.mem_of_getElem? (i := 7) rfl)) (hw _ (List.mem_of_getElem? (i := 39) rfl)) (hw _ (List.mem_of_getElem? (i := 40) rfl)) (hw _ (List.mem_of_getElem? (i := 42) rfl)) (hw _ (List.mem_of_getElem? (i := 41) rfl)) d_isbn_13 (pc' := 16) rfl rfl (W := 1) (Nat.le_of_eq rfl) (by decide) (by decide) (by decide) (by decide) ?_
  refine Go.plain (g' := (mkF m 18 #[.val (.ref a), .val (.int t5), .val (.int (5 : Int32))] [(.int (48 : Int32)), (.int ((48 : Int32) + d5)), (.int t5)])) (fun T_ L_ X_ t_ q_ => XS.bipush X_.here C.hx rfl (C.d d_isbn_16) q_) ?_
  refine Go.plain (g' := (mkF m 19 #[.val (.ref a), .val (.int t5), .val (.int (5 : Int32))] [(.int (((48 : Int32) + d5) - (48 : Int32))), (.int t5)])) (fun T_ L_ X_ t_ q_ => XS.isub X_.here C.hx rfl (C.d d_isbn_18) rfl q_) ?_
  refine Go.plain (g' := (mkF m 20 #[.val (.ref a), .val (.int t5), .val (.int (5 : Int32))] [(.int (5 : Int32)), (.int (((48 : Int32) + d5) - (48 : Int32))), (.int t5)])) (fun T_ L_ X_ t_ q_ => XS.iloadN X_.here C.hx rfl (C.d d_isbn_19) rfl q_) ?_
  refine Go.plain (g' := (mkF m 21 #[.val (.ref a), .val (.int t5), .val (.int (5 : Int32))] [(.int (2 : Int32)), (.int (5 : Int32)), (.int (((48 : Int32) + d5) - (48 : Int32))), (.int t5)])) (fun T_ L_ X_ t_ q_ => XS.iconst X_.here C.hx rfl (C.d d_isbn_20) q_) ?_
  refine Go.irem C d_isbn_21 (by decide) (pc' := 22) rfl ?_
  show Go p l e ({ frames := 4, cells := 0, slots := 0, locals := 54 } : Room) s m #[(.ref a)] below meth c Z (fun v h => ∃ r : Int32, v = some (.int r) ∧ r.toInt = 48 + (10 - (d0.toInt + 3 * d1.toInt + d2.toInt + 3 * d3.toInt + d4.toInt + 3 * d5.toInt + d6.toInt + 3 * d7.toInt + d8.toInt + 3 * d9.toInt + d10.toInt + 3 * d11.toInt) % 10) % 10 ∧ h0 = h) h0 0 0 (mkF m 22 #[.val (.ref a), .val (.int t5), .val (.int (5 : Int32))] [(.int (1 : Int32)), (.int (((48 : Int32) + d5) - (48 : Int32))), (.int t5)])
  refine Go.plain (g' := (mkF m 29 #[.val (.ref a), .val (.int t5), .val (.int (5 : Int32))] [(.int (((48 : Int32) + d5) - (48 : Int32))), (.int t5)])) (fun T_ L_ X_ t_ q_ => XS.ifYes X_.here C.hx rfl (pc0 := 22) (pc' := 29) rfl (C.d d_isbn_22) rfl ((if0 _ _).trans (feq (by decide : ¬ ((1 : Int32) = (0 : Int32)))).2) (by decide) (by decide) q_) ?_
  refine Go.plain (g' := (mkF m 30 #[.val (.ref a), .val (.int t5), .val (.int (5 : Int32))] [(.int (3 : Int32)), (.int (((48 : Int32) + d5) - (48 : Int32))), (.int t5)])) (fun T_ L_ X_ t_ q_ => XS.iconst X_.here C.hx rfl (C.d d_isbn_29) q_) ?_
  refine Go.plain (g' := (mkF m 31 #[.val (.ref a), .val (.int t5), .val (.int (5 : Int32))] [(.int ((((48 : Int32) + d5) - (48 : Int32)) * (3 : Int32))), (.int t5)])) (fun T_ L_ X_ t_ q_ => XS.imul X_.here C.hx rfl (C.d d_isbn_30) rfl q_) ?_
  refine Go.plain (g' := (mkF m 32 #[.val (.ref a), .val (.int t5), .val (.int (5 : Int32))] [(.int (t5 + ((((48 : Int32) + d5) - (48 : Int32)) * (3 : Int32))))])) (fun T_ L_ X_ t_ q_ => XS.iadd X_.here C.hx rfl (C.d d_isbn_31) rfl q_) ?_
  have hs6 := addB t5 d5 (by omega) (by omega)
  generalize ht6 : (t5 + ((((48 : Int32) + d5) - (48 : Int32)) * (3 : Int32))) = t6 at hs6 ⊢
  refine Go.plain (g' := (mkF m 33 #[.val (.ref a), .val (.int t6), .val (.int (5 : Int32))] [])) (fun T_ L_ X_ t_ q_ => XS.istoreN X_.here C.hx rfl (C.d d_isbn_32) rfl (l' := #[.val (.ref a), .val (.int t6), .val (.int (5 : Int32))]) rfl q_) ?_
  refine Go.plain (g' := (mkF m 36 #[.val (.ref a), .val (.int t6), .val (.int (6 : Int32))] [])) (fun T_ L_ X_ t_ q_ => XS.iinc X_.here C.hx rfl (C.d d_isbn_33) rfl (l' := #[.val (.ref a), .val (.int t6), .val (.int (6 : Int32))]) rfl q_) ?_
  refine Go.plain (g' := (mkF m 4 #[.val (.ref a), .val (.int t6), .val (.int (6 : Int32))] [])) (fun T_ L_ X_ t_ q_ => XS.goto X_.here C.hx rfl (pc0 := 36) (pc' := 4) rfl (C.d d_isbn_36) (by decide) (by decide) q_) ?_
  refine Go.plain (g' := (mkF m 5 #[.val (.ref a), .val (.int t6), .val (.int (6 : Int32))] [(.int (6 : Int32))])) (fun T_ L_ X_ t_ q_ => XS.iloadN X_.here C.hx rfl (C.d d_isbn_4) rfl q_) ?_
  refine Go.plain (g' := (mkF m 7 #[.val (.ref a), .val (.int t6), .val (.int (6 : Int32))] [(.int (12 : Int32)), (.int (6 : Int32))])) (fun T_ L_ X_ t_ q_ => XS.bipush X_.here C.hx rfl (C.d d_isbn_5) q_) ?_
  refine Go.plain (g' := (mkF m 10 #[.val (.ref a), .val (.int t6), .val (.int (6 : Int32))] [])) (fun T_ L_ X_ t_ q_ => XS.icmpNo X_.here C.hx rfl (C.d d_isbn_7) rfl (tlt (by decide : (6 : Int32) < (12 : Int32))).2.1 q_) ?_
  refine Go.plain (g' := (mkF m 11 #[.val (.ref a), .val (.int t6), .val (.int (6 : Int32))] [(.int t6)])) (fun T_ L_ X_ t_ q_ => XS.iloadN X_.here C.hx rfl (C.d d_isbn_10) rfl q_) ?_
  refine Go.plain (g' := (mkF m 12 #[.val (.ref a), .val (.int t6), .val (.int (6 : Int32))] [(.ref a), (.int t6)])) (fun T_ L_ X_ t_ q_ => XS.aloadN X_.here C.hx rfl (C.d d_isbn_11) rfl rfl q_) ?_
  refine Go.plain (g' := (mkF m 13 #[.val (.ref a), .val (.int t6), .val (.int (6 : Int32))] [(.int (6 : Int32)), (.ref a), (.int t6)])) (fun T_ L_ X_ t_ q_ => XS.iloadN X_.here C.hx rfl (C.d d_isbn_12) rfl q_) ?_
  refine Go.charAt hw C (i := 6) (w := ((48 : Int32) + d6)) T S0 hz SF rf (Nat.le_of_ble_eq_true rfl) rfl rfl (hw _ (List.mem_of_getElem? (i := 7) rfl)) (hw _ (List.mem_of_getElem? (i := 39) rfl)) (hw _ (List.mem_of_getElem? (i := 40) rfl)) (hw _ (List.mem_of_getElem? (i := 42) rfl)) (hw _ (List.mem_of_getElem? (i := 41) rfl)) d_isbn_13 (pc' := 16) rfl rfl (W := 1) (Nat.le_of_eq rfl) (by decide) (by decide) (by decide) (by decide) ?_
  refine Go.plain (g' := (mkF m 18 #[.val (.ref a), .val (.int t6), .val (.int (6 : Int32))] [(.int (48 : Int32)), (.int ((48 : Int32) + d6)), (.int t6)])) (fun T_ L_ X_ t_ q_ => XS.bipush X_.here C.hx rfl (C.d d_isbn_16) q_) ?_
  refine Go.plain (g' := (mkF m 19 #[.val (.ref a), .val (.int t6), .val (.int (6 : Int32))] [(.int (((48 : Int32) + d6) - (48 : Int32))), (.int t6)])) (fun T_ L_ X_ t_ q_ => XS.isub X_.here C.hx rfl (C.d d_isbn_18) rfl q_) ?_
  refine Go.plain (g' := (mkF m 20 #[.val (.ref a), .val (.int t6), .val (.int (6 : Int32))] [(.int (6 : Int32)), (.int (((48 : Int32) + d6) - (48 : Int32))), (.int t6)])) (fun T_ L_ X_ t_ q_ => XS.iloadN X_.here C.hx rfl (C.d d_isbn_19) rfl q_) ?_
  refine Go.plain (g' := (mkF m 21 #[.val (.ref a), .val (.int t6), .val (.int (6 : Int32))] [(.int (2 : Int32)), (.int (6 : Int32)), (.int (((48 : Int32) + d6) - (48 : Int32))), (.int t6)])) (fun T_ L_ X_ t_ q_ => XS.iconst X_.here C.hx rfl (C.d d_isbn_20) q_) ?_
  refine Go.irem C d_isbn_21 (by decide) (pc' := 22) rfl ?_
  show Go p l e ({ frames := 4, cells := 0, slots := 0, locals := 54 } : Room) s m #[(.ref a)] below meth c Z (fun v h => ∃ r : Int32, v = some (.int r) ∧ r.toInt = 48 + (10 - (d0.toInt + 3 * d1.toInt + d2.toInt + 3 * d3.toInt + d4.toInt + 3 * d5.toInt + d6.toInt + 3 * d7.toInt + d8.toInt + 3 * d9.toInt + d10.toInt + 3 * d11.toInt) % 10) % 10 ∧ h0 = h) h0 0 0 (mkF m 22 #[.val (.ref a), .val (.int t6), .val (.int (6 : Int32))] [(.int (0 : Int32)), (.int (((48 : Int32) + d6) - (48 : Int32))), (.int t6)])
  refine Go.plain (g' := (mkF m 25 #[.val (.ref a), .val (.int t6), .val (.int (6 : Int32))] [(.int (((48 : Int32) + d6) - (48 : Int32))), (.int t6)])) (fun T_ L_ X_ t_ q_ => XS.ifNo X_.here C.hx rfl (C.d d_isbn_22) rfl ((if0 _ _).trans (teq (rfl : (0 : Int32) = (0 : Int32))).2) q_) ?_
  refine Go.plain (g' := (mkF m 26 #[.val (.ref a), .val (.int t6), .val (.int (6 : Int32))] [(.int (1 : Int32)), (.int (((48 : Int32) + d6) - (48 : Int32))), (.int t6)])) (fun T_ L_ X_ t_ q_ => XS.iconst X_.here C.hx rfl (C.d d_isbn_25) q_) ?_
  refine Go.plain (g' := (mkF m 30 #[.val (.ref a), .val (.int t6), .val (.int (6 : Int32))] [(.int (1 : Int32)), (.int (((48 : Int32) + d6) - (48 : Int32))), (.int t6)])) (fun T_ L_ X_ t_ q_ => XS.goto X_.here C.hx rfl (pc0 := 26) (pc' := 30) rfl (C.d d_isbn_26) (by decide) (by decide) q_) ?_
  refine Go.plain (g' := (mkF m 31 #[.val (.ref a), .val (.int t6), .val (.int (6 : Int32))] [(.int ((((48 : Int32) + d6) - (48 : Int32)) * (1 : Int32))), (.int t6)])) (fun T_ L_ X_ t_ q_ => XS.imul X_.here C.hx rfl (C.d d_isbn_30) rfl q_) ?_
  refine Go.plain (g' := (mkF m 32 #[.val (.ref a), .val (.int t6), .val (.int (6 : Int32))] [(.int (t6 + ((((48 : Int32) + d6) - (48 : Int32)) * (1 : Int32))))])) (fun T_ L_ X_ t_ q_ => XS.iadd X_.here C.hx rfl (C.d d_isbn_31) rfl q_) ?_
  have hs7 := addA t6 d6 (by omega) (by omega)
  generalize ht7 : (t6 + ((((48 : Int32) + d6) - (48 : Int32)) * (1 : Int32))) = t7 at hs7 ⊢
  refine Go.plain (g' := (mkF m 33 #[.val (.ref a), .val (.int t7), .val (.int (6 : Int32))] [])) (fun T_ L_ X_ t_ q_ => XS.istoreN X_.here C.hx rfl (C.d d_isbn_32) rfl (l' := #[.val (.ref a), .val (.int t7), .val (.int (6 : Int32))]) rfl q_) ?_
  refine Go.plain (g' := (mkF m 36 #[.val (.ref a), .val (.int t7), .val (.int (7 : Int32))] [])) (fun T_ L_ X_ t_ q_ => XS.iinc X_.here C.hx rfl (C.d d_isbn_33) rfl (l' := #[.val (.ref a), .val (.int t7), .val (.int (7 : Int32))]) rfl q_) ?_
  refine Go.plain (g' := (mkF m 4 #[.val (.ref a), .val (.int t7), .val (.int (7 : Int32))] [])) (fun T_ L_ X_ t_ q_ => XS.goto X_.here C.hx rfl (pc0 := 36) (pc' := 4) rfl (C.d d_isbn_36) (by decide) (by decide) q_) ?_
  refine Go.plain (g' := (mkF m 5 #[.val (.ref a), .val (.int t7), .val (.int (7 : Int32))] [(.int (7 : Int32))])) (fun T_ L_ X_ t_ q_ => XS.iloadN X_.here C.hx rfl (C.d d_isbn_4) rfl q_) ?_
  refine Go.plain (g' := (mkF m 7 #[.val (.ref a), .val (.int t7), .val (.int (7 : Int32))] [(.int (12 : Int32)), (.int (7 : Int32))])) (fun T_ L_ X_ t_ q_ => XS.bipush X_.here C.hx rfl (C.d d_isbn_5) q_) ?_
  refine Go.plain (g' := (mkF m 10 #[.val (.ref a), .val (.int t7), .val (.int (7 : Int32))] [])) (fun T_ L_ X_ t_ q_ => XS.icmpNo X_.here C.hx rfl (C.d d_isbn_7) rfl (tlt (by decide : (7 : Int32) < (12 : Int32))).2.1 q_) ?_
  refine Go.plain (g' := (mkF m 11 #[.val (.ref a), .val (.int t7), .val (.int (7 : Int32))] [(.int t7)])) (fun T_ L_ X_ t_ q_ => XS.iloadN X_.here C.hx rfl (C.d d_isbn_10) rfl q_) ?_
  refine Go.plain (g' := (mkF m 12 #[.val (.ref a), .val (.int t7), .val (.int (7 : Int32))] [(.ref a), (.int t7)])) (fun T_ L_ X_ t_ q_ => XS.aloadN X_.here C.hx rfl (C.d d_isbn_11) rfl rfl q_) ?_
  refine Go.plain (g' := (mkF m 13 #[.val (.ref a), .val (.int t7), .val (.int (7 : Int32))] [(.int (7 : Int32)), (.ref a), (.int t7)])) (fun T_ L_ X_ t_ q_ => XS.iloadN X_.here C.hx rfl (C.d d_isbn_12) rfl q_) ?_
  refine Go.charAt hw C (i := 7) (w := ((48 : Int32) + d7)) T S0 hz SF rf (Nat.le_of_ble_eq_true rfl) rfl rfl (hw _ (List.mem_of_getElem? (i := 7) rfl)) (hw _ (List.mem_of_getElem? (i := 39) rfl)) (hw _ (List.mem_of_getElem? (i := 40) rfl)) (hw _ (List.mem_of_getElem? (i := 42) rfl)) (hw _ (List.mem_of_getElem? (i := 41) rfl)) d_isbn_13 (pc' := 16) rfl rfl (W := 1) (Nat.le_of_eq rfl) (by decide) (by decide) (by decide) (by decide) ?_
  refine Go.plain (g' := (mkF m 18 #[.val (.ref a), .val (.int t7), .val (.int (7 : Int32))] [(.int (48 : Int32)), (.int ((48 : Int32) + d7)), (.int t7)])) (fun T_ L_ X_ t_ q_ => XS.bipush X_.here C.hx rfl (C.d d_isbn_16) q_) ?_
  refine Go.plain (g' := (mkF m 19 #[.val (.ref a), .val (.int t7), .val (.int (7 : Int32))] [(.int (((48 : Int32) + d7) - (48 : Int32))), (.int t7)])) (fun T_ L_ X_ t_ q_ => XS.isub X_.here C.hx rfl (C.d d_isbn_18) rfl q_) ?_
  refine Go.plain (g' := (mkF m 20 #[.val (.ref a), .val (.int t7), .val (.int (7 : Int32))] [(.int (7 : Int32)), (.int (((48 : Int32) + d7) - (48 : Int32))), (.int t7)])) (fun T_ L_ X_ t_ q_ => XS.iloadN X_.here C.hx rfl (C.d d_isbn_19) rfl q_) ?_
  refine Go.plain (g' := (mkF m 21 #[.val (.ref a), .val (.int t7), .val (.int (7 : Int32))] [(.int (2 : Int32)), (.int (7 : Int32)), (.int (((48 : Int32) + d7) - (48 : Int32))), (.int t7)])) (fun T_ L_ X_ t_ q_ => XS.iconst X_.here C.hx rfl (C.d d_isbn_20) q_) ?_
  refine Go.irem C d_isbn_21 (by decide) (pc' := 22) rfl ?_
  show Go p l e ({ frames := 4, cells := 0, slots := 0, locals := 54 } : Room) s m #[(.ref a)] below meth c Z (fun v h => ∃ r : Int32, v = some (.int r) ∧ r.toInt = 48 + (10 - (d0.toInt + 3 * d1.toInt + d2.toInt + 3 * d3.toInt + d4.toInt + 3 * d5.toInt + d6.toInt + 3 * d7.toInt + d8.toInt + 3 * d9.toInt + d10.toInt + 3 * d11.toInt) % 10) % 10 ∧ h0 = h) h0 0 0 (mkF m 22 #[.val (.ref a), .val (.int t7), .val (.int (7 : Int32))] [(.int (1 : Int32)), (.int (((48 : Int32) + d7) - (48 : Int32))), (.int t7)])
  refine Go.plain (g' := (mkF m 29 #[.val (.ref a), .val (.int t7), .val (.int (7 : Int32))] [(.int (((48 : Int32) + d7) - (48 : Int32))), (.int t7)])) (fun T_ L_ X_ t_ q_ => XS.ifYes X_.here C.hx rfl (pc0 := 22) (pc' := 29) rfl (C.d d_isbn_22) rfl ((if0 _ _).trans (feq (by decide : ¬ ((1 : Int32) = (0 : Int32)))).2) (by decide) (by decide) q_) ?_
  refine Go.plain (g' := (mkF m 30 #[.val (.ref a), .val (.int t7), .val (.int (7 : Int32))] [(.int (3 : Int32)), (.int (((48 : Int32) + d7) - (48 : Int32))), (.int t7)])) (fun T_ L_ X_ t_ q_ => XS.iconst X_.here C.hx rfl (C.d d_isbn_29) q_) ?_
  refine Go.plain (g' := (mkF m 31 #[.val (.ref a), .val (.int t7), .val (.int (7 : Int32))] [(.int ((((48 : Int32) + d7) - (48 : Int32)) * (3 : Int32))), (.int t7)])) (fun T_ L_ X_ t_ q_ => XS.imul X_.here C.hx rfl (C.d d_isbn_30) rfl q_) ?_
  refine Go.plain (g' := (mkF m 32 #[.val (.ref a), .val (.int t7), .val (.int (7 : Int32))] [(.int (t7 + ((((48 : Int32) + d7) - (48 : Int32)) * (3 : Int32))))])) (fun T_ L_ X_ t_ q_ => XS.iadd X_.here C.hx rfl (C.d d_isbn_31) rfl q_) ?_
  have hs8 := addB t7 d7 (by omega) (by omega)
  generalize ht8 : (t7 + ((((48 : Int32) + d7) - (48 : Int32)) * (3 : Int32))) = t8 at hs8 ⊢
  refine Go.plain (g' := (mkF m 33 #[.val (.ref a), .val (.int t8), .val (.int (7 : Int32))] [])) (fun T_ L_ X_ t_ q_ => XS.istoreN X_.here C.hx rfl (C.d d_isbn_32) rfl (l' := #[.val (.ref a), .val (.int t8), .val (.int (7 : Int32))]) rfl q_) ?_
  refine Go.plain (g' := (mkF m 36 #[.val (.ref a), .val (.int t8), .val (.int (8 : Int32))] [])) (fun T_ L_ X_ t_ q_ => XS.iinc X_.here C.hx rfl (C.d d_isbn_33) rfl (l' := #[.val (.ref a), .val (.int t8), .val (.int (8 : Int32))]) rfl q_) ?_
  refine Go.plain (g' := (mkF m 4 #[.val (.ref a), .val (.int t8), .val (.int (8 : Int32))] [])) (fun T_ L_ X_ t_ q_ => XS.goto X_.here C.hx rfl (pc0 := 36) (pc' := 4) rfl (C.d d_isbn_36) (by decide) (by decide) q_) ?_
  refine Go.plain (g' := (mkF m 5 #[.val (.ref a), .val (.int t8), .val (.int (8 : Int32))] [(.int (8 : Int32))])) (fun T_ L_ X_ t_ q_ => XS.iloadN X_.here C.hx rfl (C.d d_isbn_4) rfl q_) ?_
  refine Go.plain (g' := (mkF m 7 #[.val (.ref a), .val (.int t8), .val (.int (8 : Int32))] [(.int (12 : Int32)), (.int (8 : Int32))])) (fun T_ L_ X_ t_ q_ => XS.bipush X_.here C.hx rfl (C.d d_isbn_5) q_) ?_
  refine Go.plain (g' := (mkF m 10 #[.val (.ref a), .val (.int t8), .val (.int (8 : Int32))] [])) (fun T_ L_ X_ t_ q_ => XS.icmpNo X_.here C.hx rfl (C.d d_isbn_7) rfl (tlt (by decide : (8 : Int32) < (12 : Int32))).2.1 q_) ?_
  refine Go.plain (g' := (mkF m 11 #[.val (.ref a), .val (.int t8), .val (.int (8 : Int32))] [(.int t8)])) (fun T_ L_ X_ t_ q_ => XS.iloadN X_.here C.hx rfl (C.d d_isbn_10) rfl q_) ?_
  refine Go.plain (g' := (mkF m 12 #[.val (.ref a), .val (.int t8), .val (.int (8 : Int32))] [(.ref a), (.int t8)])) (fun T_ L_ X_ t_ q_ => XS.aloadN X_.here C.hx rfl (C.d d_isbn_11) rfl rfl q_) ?_
  refine Go.plain (g' := (mkF m 13 #[.val (.ref a), .val (.int t8), .val (.int (8 : Int32))] [(.int (8 : Int32)), (.ref a), (.int t8)])) (fun T_ L_ X_ t_ q_ => XS.iloadN X_.here C.hx rfl (C.d d_isbn_12) rfl q_) ?_
  refine Go.charAt hw C (i := 8) (w := ((48 : Int32) + d8)) T S0 hz SF rf (Nat.le_of_ble_eq_true rfl) rfl rfl (hw _ (List.mem_of_getElem? (i := 7) rfl)) (hw _ (List.mem_of_getElem? (i := 39) rfl)) (hw _ (List.mem_of_getElem? (i := 40) rfl)) (hw _ (List.mem_of_getElem? (i := 42) rfl)) (hw _ (List.mem_of_getElem? (i := 41) rfl)) d_isbn_13 (pc' := 16) rfl rfl (W := 1) (Nat.le_of_eq rfl) (by decide) (by decide) (by decide) (by decide) ?_
  refine Go.plain (g' := (mkF m 18 #[.val (.ref a), .val (.int t8), .val (.int (8 : Int32))] [(.int (48 : Int32)), (.int ((48 : Int32) + d8)), (.int t8)])) (fun T_ L_ X_ t_ q_ => XS.bipush X_.here C.hx rfl (C.d d_isbn_16) q_) ?_
  refine Go.plain (g' := (mkF m 19 #[.val (.ref a), .val (.int t8), .val (.int (8 : Int32))] [(.int (((48 : Int32) + d8) - (48 : Int32))), (.int t8)])) (fun T_ L_ X_ t_ q_ => XS.isub X_.here C.hx rfl (C.d d_isbn_18) rfl q_) ?_
  refine Go.plain (g' := (mkF m 20 #[.val (.ref a), .val (.int t8), .val (.int (8 : Int32))] [(.int (8 : Int32)), (.int (((48 : Int32) + d8) - (48 : Int32))), (.int t8)])) (fun T_ L_ X_ t_ q_ => XS.iloadN X_.here C.hx rfl (C.d d_isbn_19) rfl q_) ?_
  refine Go.plain (g' := (mkF m 21 #[.val (.ref a), .val (.int t8), .val (.int (8 : Int32))] [(.int (2 : Int32)), (.int (8 : Int32)), (.int (((48 : Int32) + d8) - (48 : Int32))), (.int t8)])) (fun T_ L_ X_ t_ q_ => XS.iconst X_.here C.hx rfl (C.d d_isbn_20) q_) ?_
  refine Go.irem C d_isbn_21 (by decide) (pc' := 22) rfl ?_
  show Go p l e ({ frames := 4, cells := 0, slots := 0, locals := 54 } : Room) s m #[(.ref a)] below meth c Z (fun v h => ∃ r : Int32, v = some (.int r) ∧ r.toInt = 48 + (10 - (d0.toInt + 3 * d1.toInt + d2.toInt + 3 * d3.toInt + d4.toInt + 3 * d5.toInt + d6.toInt + 3 * d7.toInt + d8.toInt + 3 * d9.toInt + d10.toInt + 3 * d11.toInt) % 10) % 10 ∧ h0 = h) h0 0 0 (mkF m 22 #[.val (.ref a), .val (.int t8), .val (.int (8 : Int32))] [(.int (0 : Int32)), (.int (((48 : Int32) + d8) - (48 : Int32))), (.int t8)])
  refine Go.plain (g' := (mkF m 25 #[.val (.ref a), .val (.int t8), .val (.int (8 : Int32))] [(.int (((48 : Int32) + d8) - (48 : Int32))), (.int t8)])) (fun T_ L_ X_ t_ q_ => XS.ifNo X_.here C.hx rfl (C.d d_isbn_22) rfl ((if0 _ _).trans (teq (rfl : (0 : Int32) = (0 : Int32))).2) q_) ?_
  refine Go.plain (g' := (mkF m 26 #[.val (.ref a), .val (.int t8), .val (.int (8 : Int32))] [(.int (1 : Int32)), (.int (((48 : Int32) + d8) - (48 : Int32))), (.int t8)])) (fun T_ L_ X_ t_ q_ => XS.iconst X_.here C.hx rfl (C.d d_isbn_25) q_) ?_
  refine Go.plain (g' := (mkF m 30 #[.val (.ref a), .val (.int t8), .val (.int (8 : Int32))] [(.int (1 : Int32)), (.int (((48 : Int32) + d8) - (48 : Int32))), (.int t8)])) (fun T_ L_ X_ t_ q_ => XS.goto X_.here C.hx rfl (pc0 := 26) (pc' := 30) rfl (C.d d_isbn_26) (by decide) (by decide) q_) ?_
  refine Go.plain (g' := (mkF m 31 #[.val (.ref a), .val (.int t8), .val (.int (8 : Int32))] [(.int ((((48 : Int32) + d8) - (48 : Int32)) * (1 : Int32))), (.int t8)])) (fun T_ L_ X_ t_ q_ => XS.imul X_.here C.hx rfl (C.d d_isbn_30) rfl q_) ?_
  refine Go.plain (g' := (mkF m 32 #[.val (.ref a), .val (.int t8), .val (.int (8 : Int32))] [(.int (t8 + ((((48 : Int32) + d8) - (48 : Int32)) * (1 : Int32))))])) (fun T_ L_ X_ t_ q_ => XS.iadd X_.here C.hx rfl (C.d d_isbn_31) rfl q_) ?_
  have hs9 := addA t8 d8 (by omega) (by omega)
  generalize ht9 : (t8 + ((((48 : Int32) + d8) - (48 : Int32)) * (1 : Int32))) = t9 at hs9 ⊢
  refine Go.plain (g' := (mkF m 33 #[.val (.ref a), .val (.int t9), .val (.int (8 : Int32))] [])) (fun T_ L_ X_ t_ q_ => XS.istoreN X_.here C.hx rfl (C.d d_isbn_32) rfl (l' := #[.val (.ref a), .val (.int t9), .val (.int (8 : Int32))]) rfl q_) ?_
  refine Go.plain (g' := (mkF m 36 #[.val (.ref a), .val (.int t9), .val (.int (9 : Int32))] [])) (fun T_ L_ X_ t_ q_ => XS.iinc X_.here C.hx rfl (C.d d_isbn_33) rfl (l' := #[.val (.ref a), .val (.int t9), .val (.int (9 : Int32))]) rfl q_) ?_
  refine Go.plain (g' := (mkF m 4 #[.val (.ref a), .val (.int t9), .val (.int (9 : Int32))] [])) (fun T_ L_ X_ t_ q_ => XS.goto X_.here C.hx rfl (pc0 := 36) (pc' := 4) rfl (C.d d_isbn_36) (by decide) (by decide) q_) ?_
  refine Go.plain (g' := (mkF m 5 #[.val (.ref a), .val (.int t9), .val (.int (9 : Int32))] [(.int (9 : Int32))])) (fun T_ L_ X_ t_ q_ => XS.iloadN X_.here C.hx rfl (C.d d_isbn_4) rfl q_) ?_
  refine Go.plain (g' := (mkF m 7 #[.val (.ref a), .val (.int t9), .val (.int (9 : Int32))] [(.int (12 : Int32)), (.int (9 : Int32))])) (fun T_ L_ X_ t_ q_ => XS.bipush X_.here C.hx rfl (C.d d_isbn_5) q_) ?_
  refine Go.plain (g' := (mkF m 10 #[.val (.ref a), .val (.int t9), .val (.int (9 : Int32))] [])) (fun T_ L_ X_ t_ q_ => XS.icmpNo X_.here C.hx rfl (C.d d_isbn_7) rfl (tlt (by decide : (9 : Int32) < (12 : Int32))).2.1 q_) ?_
  refine Go.plain (g' := (mkF m 11 #[.val (.ref a), .val (.int t9), .val (.int (9 : Int32))] [(.int t9)])) (fun T_ L_ X_ t_ q_ => XS.iloadN X_.here C.hx rfl (C.d d_isbn_10) rfl q_) ?_
  refine Go.plain (g' := (mkF m 12 #[.val (.ref a), .val (.int t9), .val (.int (9 : Int32))] [(.ref a), (.int t9)])) (fun T_ L_ X_ t_ q_ => XS.aloadN X_.here C.hx rfl (C.d d_isbn_11) rfl rfl q_) ?_
  refine Go.plain (g' := (mkF m 13 #[.val (.ref a), .val (.int t9), .val (.int (9 : Int32))] [(.int (9 : Int32)), (.ref a), (.int t9)])) (fun T_ L_ X_ t_ q_ => XS.iloadN X_.here C.hx rfl (C.d d_isbn_12) rfl q_) ?_
  refine Go.charAt hw C (i := 9) (w := ((48 : Int32) + d9)) T S0 hz SF rf (Nat.le_of_ble_eq_true rfl) rfl rfl (hw _ (List.mem_of_getElem? (i := 7) rfl)) (hw _ (List.mem_of_getElem? (i := 39) rfl)) (hw _ (List.mem_of_getElem? (i := 40) rfl)) (hw _ (List.mem_of_getElem? (i := 42) rfl)) (hw _ (List.mem_of_getElem? (i := 41) rfl)) d_isbn_13 (pc' := 16) rfl rfl (W := 1) (Nat.le_of_eq rfl) (by decide) (by decide) (by decide) (by decide) ?_
  refine Go.plain (g' := (mkF m 18 #[.val (.ref a), .val (.int t9), .val (.int (9 : Int32))] [(.int (48 : Int32)), (.int ((48 : Int32) + d9)), (.int t9)])) (fun T_ L_ X_ t_ q_ => XS.bipush X_.here C.hx rfl (C.d d_isbn_16) q_) ?_
  refine Go.plain (g' := (mkF m 19 #[.val (.ref a), .val (.int t9), .val (.int (9 : Int32))] [(.int (((48 : Int32) + d9) - (48 : Int32))), (.int t9)])) (fun T_ L_ X_ t_ q_ => XS.isub X_.here C.hx rfl (C.d d_isbn_18) rfl q_) ?_
  refine Go.plain (g' := (mkF m 20 #[.val (.ref a), .val (.int t9), .val (.int (9 : Int32))] [(.int (9 : Int32)), (.int (((48 : Int32) + d9) - (48 : Int32))), (.int t9)])) (fun T_ L_ X_ t_ q_ => XS.iloadN X_.here C.hx rfl (C.d d_isbn_19) rfl q_) ?_
  refine Go.plain (g' := (mkF m 21 #[.val (.ref a), .val (.int t9), .val (.int (9 : Int32))] [(.int (2 : Int32)), (.int (9 : Int32)), (.int (((48 : Int32) + d9) - (48 : Int32))), (.int t9)])) (fun T_ L_ X_ t_ q_ => XS.iconst X_.here C.hx rfl (C.d d_isbn_20) q_) ?_
  refine Go.irem C d_isbn_21 (by decide) (pc' := 22) rfl ?_
  show Go p l e ({ frames := 4, cells := 0, slots := 0, locals := 54 } : Room) s m #[(.ref a)] below meth c Z (fun v h => ∃ r : Int32, v = some (.int r) ∧ r.toInt = 48 + (10 - (d0.toInt + 3 * d1.toInt + d2.toInt + 3 * d3.toInt + d4.toInt + 3 * d5.toInt + d6.toInt + 3 * d7.toInt + d8.toInt + 3 * d9.toInt + d10.toInt + 3 * d11.toInt) % 10) % 10 ∧ h0 = h) h0 0 0 (mkF m 22 #[.val (.ref a), .val (.int t9), .val (.int (9 : Int32))] [(.int (1 : Int32)), (.int (((48 : Int32) + d9) - (48 : Int32))), (.int t9)])
  refine Go.plain (g' := (mkF m 29 #[.val (.ref a), .val (.int t9), .val (.int (9 : Int32))] [(.int (((48 : Int32) + d9) - (48 : Int32))), (.int t9)])) (fun T_ L_ X_ t_ q_ => XS.ifYes X_.here C.hx rfl (pc0 := 22) (pc' := 29) rfl (C.d d_isbn_22) rfl ((if0 _ _).trans (feq (by decide : ¬ ((1 : Int32) = (0 : Int32)))).2) (by decide) (by decide) q_) ?_
  refine Go.plain (g' := (mkF m 30 #[.val (.ref a), .val (.int t9), .val (.int (9 : Int32))] [(.int (3 : Int32)), (.int (((48 : Int32) + d9) - (48 : Int32))), (.int t9)])) (fun T_ L_ X_ t_ q_ => XS.iconst X_.here C.hx rfl (C.d d_isbn_29) q_) ?_
  refine Go.plain (g' := (mkF m 31 #[.val (.ref a), .val (.int t9), .val (.int (9 : Int32))] [(.int ((((48 : Int32) + d9) - (48 : Int32)) * (3 : Int32))), (.int t9)])) (fun T_ L_ X_ t_ q_ => XS.imul X_.here C.hx rfl (C.d d_isbn_30) rfl q_) ?_
  refine Go.plain (g' := (mkF m 32 #[.val (.ref a), .val (.int t9), .val (.int (9 : Int32))] [(.int (t9 + ((((48 : Int32) + d9) - (48 : Int32)) * (3 : Int32))))])) (fun T_ L_ X_ t_ q_ => XS.iadd X_.here C.hx rfl (C.d d_isbn_31) rfl q_) ?_
  have hs10 := addB t9 d9 (by omega) (by omega)
  generalize ht10 : (t9 + ((((48 : Int32) + d9) - (48 : Int32)) * (3 : Int32))) = t10 at hs10 ⊢
  refine Go.plain (g' := (mkF m 33 #[.val (.ref a), .val (.int t10), .val (.int (9 : Int32))] [])) (fun T_ L_ X_ t_ q_ => XS.istoreN X_.here C.hx rfl (C.d d_isbn_32) rfl (l' := #[.val (.ref a), .val (.int t10), .val (.int (9 : Int32))]) rfl q_) ?_
  refine Go.plain (g' := (mkF m 36 #[.val (.ref a), .val (.int t10), .val (.int (10 : Int32))] [])) (fun T_ L_ X_ t_ q_ => XS.iinc X_.here C.hx rfl (C.d d_isbn_33) rfl (l' := #[.val (.ref a), .val (.int t10), .val (.int (10 : Int32))]) rfl q_) ?_
  refine Go.plain (g' := (mkF m 4 #[.val (.ref a), .val (.int t10), .val (.int (10 : Int32))] [])) (fun T_ L_ X_ t_ q_ => XS.goto X_.here C.hx rfl (pc0 := 36) (pc' := 4) rfl (C.d d_isbn_36) (by decide) (by decide) q_) ?_
  refine Go.plain (g' := (mkF m 5 #[.val (.ref a), .val (.int t10), .val (.int (10 : Int32))] [(.int (10 : Int32))])) (fun T_ L_ X_ t_ q_ => XS.iloadN X_.here C.hx rfl (C.d d_isbn_4) rfl q_) ?_
  refine Go.plain (g' := (mkF m 7 #[.val (.ref a), .val (.int t10), .val (.int (10 : Int32))] [(.int (12 : Int32)), (.int (10 : Int32))])) (fun T_ L_ X_ t_ q_ => XS.bipush X_.here C.hx rfl (C.d d_isbn_5) q_) ?_
  refine Go.plain (g' := (mkF m 10 #[.val (.ref a), .val (.int t10), .val (.int (10 : Int32))] [])) (fun T_ L_ X_ t_ q_ => XS.icmpNo X_.here C.hx rfl (C.d d_isbn_7) rfl (tlt (by decide : (10 : Int32) < (12 : Int32))).2.1 q_) ?_
  refine Go.plain (g' := (mkF m 11 #[.val (.ref a), .val (.int t10), .val (.int (10 : Int32))] [(.int t10)])) (fun T_ L_ X_ t_ q_ => XS.iloadN X_.here C.hx rfl (C.d d_isbn_10) rfl q_) ?_
  refine Go.plain (g' := (mkF m 12 #[.val (.ref a), .val (.int t10), .val (.int (10 : Int32))] [(.ref a), (.int t10)])) (fun T_ L_ X_ t_ q_ => XS.aloadN X_.here C.hx rfl (C.d d_isbn_11) rfl rfl q_) ?_
  refine Go.plain (g' := (mkF m 13 #[.val (.ref a), .val (.int t10), .val (.int (10 : Int32))] [(.int (10 : Int32)), (.ref a), (.int t10)])) (fun T_ L_ X_ t_ q_ => XS.iloadN X_.here C.hx rfl (C.d d_isbn_12) rfl q_) ?_
  refine Go.charAt hw C (i := 10) (w := ((48 : Int32) + d10)) T S0 hz SF rf (Nat.le_of_ble_eq_true rfl) rfl rfl (hw _ (List.mem_of_getElem? (i := 7) rfl)) (hw _ (List.mem_of_getElem? (i := 39) rfl)) (hw _ (List.mem_of_getElem? (i := 40) rfl)) (hw _ (List.mem_of_getElem? (i := 42) rfl)) (hw _ (List.mem_of_getElem? (i := 41) rfl)) d_isbn_13 (pc' := 16) rfl rfl (W := 1) (Nat.le_of_eq rfl) (by decide) (by decide) (by decide) (by decide) ?_
  refine Go.plain (g' := (mkF m 18 #[.val (.ref a), .val (.int t10), .val (.int (10 : Int32))] [(.int (48 : Int32)), (.int ((48 : Int32) + d10)), (.int t10)])) (fun T_ L_ X_ t_ q_ => XS.bipush X_.here C.hx rfl (C.d d_isbn_16) q_) ?_
  refine Go.plain (g' := (mkF m 19 #[.val (.ref a), .val (.int t10), .val (.int (10 : Int32))] [(.int (((48 : Int32) + d10) - (48 : Int32))), (.int t10)])) (fun T_ L_ X_ t_ q_ => XS.isub X_.here C.hx rfl (C.d d_isbn_18) rfl q_) ?_
  refine Go.plain (g' := (mkF m 20 #[.val (.ref a), .val (.int t10), .val (.int (10 : Int32))] [(.int (10 : Int32)), (.int (((48 : Int32) + d10) - (48 : Int32))), (.int t10)])) (fun T_ L_ X_ t_ q_ => XS.iloadN X_.here C.hx rfl (C.d d_isbn_19) rfl q_) ?_
  refine Go.plain (g' := (mkF m 21 #[.val (.ref a), .val (.int t10), .val (.int (10 : Int32))] [(.int (2 : Int32)), (.int (10 : Int32)), (.int (((48 : Int32) + d10) - (48 : Int32))), (.int t10)])) (fun T_ L_ X_ t_ q_ => XS.iconst X_.here C.hx rfl (C.d d_isbn_20) q_) ?_
  refine Go.irem C d_isbn_21 (by decide) (pc' := 22) rfl ?_
  show Go p l e ({ frames := 4, cells := 0, slots := 0, locals := 54 } : Room) s m #[(.ref a)] below meth c Z (fun v h => ∃ r : Int32, v = some (.int r) ∧ r.toInt = 48 + (10 - (d0.toInt + 3 * d1.toInt + d2.toInt + 3 * d3.toInt + d4.toInt + 3 * d5.toInt + d6.toInt + 3 * d7.toInt + d8.toInt + 3 * d9.toInt + d10.toInt + 3 * d11.toInt) % 10) % 10 ∧ h0 = h) h0 0 0 (mkF m 22 #[.val (.ref a), .val (.int t10), .val (.int (10 : Int32))] [(.int (0 : Int32)), (.int (((48 : Int32) + d10) - (48 : Int32))), (.int t10)])
  refine Go.plain (g' := (mkF m 25 #[.val (.ref a), .val (.int t10), .val (.int (10 : Int32))] [(.int (((48 : Int32) + d10) - (48 : Int32))), (.int t10)])) (fun T_ L_ X_ t_ q_ => XS.ifNo X_.here C.hx rfl (C.d d_isbn_22) rfl ((if0 _ _).trans (teq (rfl : (0 : Int32) = (0 : Int32))).2) q_) ?_
  refine Go.plain (g' := (mkF m 26 #[.val (.ref a), .val (.int t10), .val (.int (10 : Int32))] [(.int (1 : Int32)), (.int (((48 : Int32) + d10) - (48 : Int32))), (.int t10)])) (fun T_ L_ X_ t_ q_ => XS.iconst X_.here C.hx rfl (C.d d_isbn_25) q_) ?_
  refine Go.plain (g' := (mkF m 30 #[.val (.ref a), .val (.int t10), .val (.int (10 : Int32))] [(.int (1 : Int32)), (.int (((48 : Int32) + d10) - (48 : Int32))), (.int t10)])) (fun T_ L_ X_ t_ q_ => XS.goto X_.here C.hx rfl (pc0 := 26) (pc' := 30) rfl (C.d d_isbn_26) (by decide) (by decide) q_) ?_
  refine Go.plain (g' := (mkF m 31 #[.val (.ref a), .val (.int t10), .val (.int (10 : Int32))] [(.int ((((48 : Int32) + d10) - (48 : Int32)) * (1 : Int32))), (.int t10)])) (fun T_ L_ X_ t_ q_ => XS.imul X_.here C.hx rfl (C.d d_isbn_30) rfl q_) ?_
  refine Go.plain (g' := (mkF m 32 #[.val (.ref a), .val (.int t10), .val (.int (10 : Int32))] [(.int (t10 + ((((48 : Int32) + d10) - (48 : Int32)) * (1 : Int32))))])) (fun T_ L_ X_ t_ q_ => XS.iadd X_.here C.hx rfl (C.d d_isbn_31) rfl q_) ?_
  have hs11 := addA t10 d10 (by omega) (by omega)
  generalize ht11 : (t10 + ((((48 : Int32) + d10) - (48 : Int32)) * (1 : Int32))) = t11 at hs11 ⊢
  refine Go.plain (g' := (mkF m 33 #[.val (.ref a), .val (.int t11), .val (.int (10 : Int32))] [])) (fun T_ L_ X_ t_ q_ => XS.istoreN X_.here C.hx rfl (C.d d_isbn_32) rfl (l' := #[.val (.ref a), .val (.int t11), .val (.int (10 : Int32))]) rfl q_) ?_
  refine Go.plain (g' := (mkF m 36 #[.val (.ref a), .val (.int t11), .val (.int (11 : Int32))] [])) (fun T_ L_ X_ t_ q_ => XS.iinc X_.here C.hx rfl (C.d d_isbn_33) rfl (l' := #[.val (.ref a), .val (.int t11), .val (.int (11 : Int32))]) rfl q_) ?_
  refine Go.plain (g' := (mkF m 4 #[.val (.ref a), .val (.int t11), .val (.int (11 : Int32))] [])) (fun T_ L_ X_ t_ q_ => XS.goto X_.here C.hx rfl (pc0 := 36) (pc' := 4) rfl (C.d d_isbn_36) (by decide) (by decide) q_) ?_
  refine Go.plain (g' := (mkF m 5 #[.val (.ref a), .val (.int t11), .val (.int (11 : Int32))] [(.int (11 : Int32))])) (fun T_ L_ X_ t_ q_ => XS.iloadN X_.here C.hx rfl (C.d d_isbn_4) rfl q_) ?_
  refine Go.plain (g' := (mkF m 7 #[.val (.ref a), .val (.int t11), .val (.int (11 : Int32))] [(.int (12 : Int32)), (.int (11 : Int32))])) (fun T_ L_ X_ t_ q_ => XS.bipush X_.here C.hx rfl (C.d d_isbn_5) q_) ?_
  refine Go.plain (g' := (mkF m 10 #[.val (.ref a), .val (.int t11), .val (.int (11 : Int32))] [])) (fun T_ L_ X_ t_ q_ => XS.icmpNo X_.here C.hx rfl (C.d d_isbn_7) rfl (tlt (by decide : (11 : Int32) < (12 : Int32))).2.1 q_) ?_
  refine Go.plain (g' := (mkF m 11 #[.val (.ref a), .val (.int t11), .val (.int (11 : Int32))] [(.int t11)])) (fun T_ L_ X_ t_ q_ => XS.iloadN X_.here C.hx rfl (C.d d_isbn_10) rfl q_) ?_
  refine Go.plain (g' := (mkF m 12 #[.val (.ref a), .val (.int t11), .val (.int (11 : Int32))] [(.ref a), (.int t11)])) (fun T_ L_ X_ t_ q_ => XS.aloadN X_.here C.hx rfl (C.d d_isbn_11) rfl rfl q_) ?_
  refine Go.plain (g' := (mkF m 13 #[.val (.ref a), .val (.int t11), .val (.int (11 : Int32))] [(.int (11 : Int32)), (.ref a), (.int t11)])) (fun T_ L_ X_ t_ q_ => XS.iloadN X_.here C.hx rfl (C.d d_isbn_12) rfl q_) ?_
  refine Go.charAt hw C (i := 11) (w := ((48 : Int32) + d11)) T S0 hz SF rf (Nat.le_of_ble_eq_true rfl) rfl rfl (hw _ (List.mem_of_getElem? (i := 7) rfl)) (hw _ (List.mem_of_getElem? (i := 39) rfl)) (hw _ (List.mem_of_getElem? (i := 40) rfl)) (hw _ (List.mem_of_getElem? (i := 42) rfl)) (hw _ (List.mem_of_getElem? (i := 41) rfl)) d_isbn_13 (pc' := 16) rfl rfl (W := 1) (Nat.le_of_eq rfl) (by decide) (by decide) (by decide) (by decide) ?_
  refine Go.plain (g' := (mkF m 18 #[.val (.ref a), .val (.int t11), .val (.int (11 : Int32))] [(.int (48 : Int32)), (.int ((48 : Int32) + d11)), (.int t11)])) (fun T_ L_ X_ t_ q_ => XS.bipush X_.here C.hx rfl (C.d d_isbn_16) q_) ?_
  refine Go.plain (g' := (mkF m 19 #[.val (.ref a), .val (.int t11), .val (.int (11 : Int32))] [(.int (((48 : Int32) + d11) - (48 : Int32))), (.int t11)])) (fun T_ L_ X_ t_ q_ => XS.isub X_.here C.hx rfl (C.d d_isbn_18) rfl q_) ?_
  refine Go.plain (g' := (mkF m 20 #[.val (.ref a), .val (.int t11), .val (.int (11 : Int32))] [(.int (11 : Int32)), (.int (((48 : Int32) + d11) - (48 : Int32))), (.int t11)])) (fun T_ L_ X_ t_ q_ => XS.iloadN X_.here C.hx rfl (C.d d_isbn_19) rfl q_) ?_
  refine Go.plain (g' := (mkF m 21 #[.val (.ref a), .val (.int t11), .val (.int (11 : Int32))] [(.int (2 : Int32)), (.int (11 : Int32)), (.int (((48 : Int32) + d11) - (48 : Int32))), (.int t11)])) (fun T_ L_ X_ t_ q_ => XS.iconst X_.here C.hx rfl (C.d d_isbn_20) q_) ?_
  refine Go.irem C d_isbn_21 (by decide) (pc' := 22) rfl ?_
  show Go p l e ({ frames := 4, cells := 0, slots := 0, locals := 54 } : Room) s m #[(.ref a)] below meth c Z (fun v h => ∃ r : Int32, v = some (.int r) ∧ r.toInt = 48 + (10 - (d0.toInt + 3 * d1.toInt + d2.toInt + 3 * d3.toInt + d4.toInt + 3 * d5.toInt + d6.toInt + 3 * d7.toInt + d8.toInt + 3 * d9.toInt + d10.toInt + 3 * d11.toInt) % 10) % 10 ∧ h0 = h) h0 0 0 (mkF m 22 #[.val (.ref a), .val (.int t11), .val (.int (11 : Int32))] [(.int (1 : Int32)), (.int (((48 : Int32) + d11) - (48 : Int32))), (.int t11)])
  refine Go.plain (g' := (mkF m 29 #[.val (.ref a), .val (.int t11), .val (.int (11 : Int32))] [(.int (((48 : Int32) + d11) - (48 : Int32))), (.int t11)])) (fun T_ L_ X_ t_ q_ => XS.ifYes X_.here C.hx rfl (pc0 := 22) (pc' := 29) rfl (C.d d_isbn_22) rfl ((if0 _ _).trans (feq (by decide : ¬ ((1 : Int32) = (0 : Int32)))).2) (by decide) (by decide) q_) ?_
  refine Go.plain (g' := (mkF m 30 #[.val (.ref a), .val (.int t11), .val (.int (11 : Int32))] [(.int (3 : Int32)), (.int (((48 : Int32) + d11) - (48 : Int32))), (.int t11)])) (fun T_ L_ X_ t_ q_ => XS.iconst X_.here C.hx rfl (C.d d_isbn_29) q_) ?_
  refine Go.plain (g' := (mkF m 31 #[.val (.ref a), .val (.int t11), .val (.int (11 : Int32))] [(.int ((((48 : Int32) + d11) - (48 : Int32)) * (3 : Int32))), (.int t11)])) (fun T_ L_ X_ t_ q_ => XS.imul X_.here C.hx rfl (C.d d_isbn_30) rfl q_) ?_
  refine Go.plain (g' := (mkF m 32 #[.val (.ref a), .val (.int t11), .val (.int (11 : Int32))] [(.int (t11 + ((((48 : Int32) + d11) - (48 : Int32)) * (3 : Int32))))])) (fun T_ L_ X_ t_ q_ => XS.iadd X_.here C.hx rfl (C.d d_isbn_31) rfl q_) ?_
  have hs12 := addB t11 d11 (by omega) (by omega)
  generalize ht12 : (t11 + ((((48 : Int32) + d11) - (48 : Int32)) * (3 : Int32))) = t12 at hs12 ⊢
  refine Go.plain (g' := (mkF m 33 #[.val (.ref a), .val (.int t12), .val (.int (11 : Int32))] [])) (fun T_ L_ X_ t_ q_ => XS.istoreN X_.here C.hx rfl (C.d d_isbn_32) rfl (l' := #[.val (.ref a), .val (.int t12), .val (.int (11 : Int32))]) rfl q_) ?_
  refine Go.plain (g' := (mkF m 36 #[.val (.ref a), .val (.int t12), .val (.int (12 : Int32))] [])) (fun T_ L_ X_ t_ q_ => XS.iinc X_.here C.hx rfl (C.d d_isbn_33) rfl (l' := #[.val (.ref a), .val (.int t12), .val (.int (12 : Int32))]) rfl q_) ?_
  refine Go.plain (g' := (mkF m 4 #[.val (.ref a), .val (.int t12), .val (.int (12 : Int32))] [])) (fun T_ L_ X_ t_ q_ => XS.goto X_.here C.hx rfl (pc0 := 36) (pc' := 4) rfl (C.d d_isbn_36) (by decide) (by decide) q_) ?_
  refine Go.plain (g' := (mkF m 5 #[.val (.ref a), .val (.int t12), .val (.int (12 : Int32))] [(.int (12 : Int32))])) (fun T_ L_ X_ t_ q_ => XS.iloadN X_.here C.hx rfl (C.d d_isbn_4) rfl q_) ?_
  refine Go.plain (g' := (mkF m 7 #[.val (.ref a), .val (.int t12), .val (.int (12 : Int32))] [(.int (12 : Int32)), (.int (12 : Int32))])) (fun T_ L_ X_ t_ q_ => XS.bipush X_.here C.hx rfl (C.d d_isbn_5) q_) ?_
  refine Go.plain (g' := (mkF m 39 #[.val (.ref a), .val (.int t12), .val (.int (12 : Int32))] [])) (fun T_ L_ X_ t_ q_ => XS.icmpYes X_.here C.hx rfl (pc0 := 7) (pc' := 39) rfl (C.d d_isbn_7) rfl (flt (by decide : ¬ ((12 : Int32) < (12 : Int32)))).2.1 (by decide) (by decide) q_) ?_
  refine Go.plain (g' := (mkF m 41 #[.val (.ref a), .val (.int t12), .val (.int (12 : Int32))] [(.int (48 : Int32))])) (fun T_ L_ X_ t_ q_ => XS.bipush X_.here C.hx rfl (C.d d_isbn_39) q_) ?_
  refine Go.plain (g' := (mkF m 43 #[.val (.ref a), .val (.int t12), .val (.int (12 : Int32))] [(.int (10 : Int32)), (.int (48 : Int32))])) (fun T_ L_ X_ t_ q_ => XS.bipush X_.here C.hx rfl (C.d d_isbn_41) q_) ?_
  refine Go.plain (g' := (mkF m 44 #[.val (.ref a), .val (.int t12), .val (.int (12 : Int32))] [(.int t12), (.int (10 : Int32)), (.int (48 : Int32))])) (fun T_ L_ X_ t_ q_ => XS.iloadN X_.here C.hx rfl (C.d d_isbn_43) rfl q_) ?_
  refine Go.plain (g' := (mkF m 46 #[.val (.ref a), .val (.int t12), .val (.int (12 : Int32))] [(.int (10 : Int32)), (.int t12), (.int (10 : Int32)), (.int (48 : Int32))])) (fun T_ L_ X_ t_ q_ => XS.bipush X_.here C.hx rfl (C.d d_isbn_44) q_) ?_
  refine Go.irem C d_isbn_46 (by decide) (pc' := 47) rfl ?_
  refine Go.plain (g' := (mkF m 48 #[.val (.ref a), .val (.int t12), .val (.int (12 : Int32))] [(.int ((10 : Int32) - (t12 % (10 : Int32)))), (.int (48 : Int32))])) (fun T_ L_ X_ t_ q_ => XS.isub X_.here C.hx rfl (C.d d_isbn_47) rfl q_) ?_
  refine Go.plain (g' := (mkF m 50 #[.val (.ref a), .val (.int t12), .val (.int (12 : Int32))] [(.int (10 : Int32)), (.int ((10 : Int32) - (t12 % (10 : Int32)))), (.int (48 : Int32))])) (fun T_ L_ X_ t_ q_ => XS.bipush X_.here C.hx rfl (C.d d_isbn_48) q_) ?_
  refine Go.irem C d_isbn_50 (by decide) (pc' := 51) rfl ?_
  refine Go.plain (g' := (mkF m 52 #[.val (.ref a), .val (.int t12), .val (.int (12 : Int32))] [(.int ((48 : Int32) + (((10 : Int32) - (t12 % (10 : Int32))) % (10 : Int32))))])) (fun T_ L_ X_ t_ q_ => XS.iadd X_.here C.hx rfl (C.d d_isbn_51) rfl q_) ?_
  refine Go.plain (g' := (mkF m 53 #[.val (.ref a), .val (.int t12), .val (.int (12 : Int32))] [(.int (((48 : Int32) + (((10 : Int32) - (t12 % (10 : Int32))) % (10 : Int32))).toUInt32.toUInt16.toUInt32.toInt32))])) (fun T_ L_ X_ t_ q_ => XS.i2c X_.here C.hx rfl (C.d d_isbn_52) rfl q_) ?_
  exact Go.retN C (by simp) d_isbn_53 (by decide) (by decide) ⟨_, rfl, by rw [fin_chk t12 (by omega) (by omega)]; omega, rfl⟩
theorem pn_law : plainName "com/example/accessio/accessio/CheckDigitsIsbn13PinLaw" = true := by first | (simp [plainName, overriddenIn]; done) | decide +kernel
theorem ef_law (m : MethodId) (x0 : Int64) (x1 : Int64) (x2 : Int32)  : entryFrame m #[(.long x0), (.long x1), (.int x2)] maxLocals = mkF m 0 #[.val (.long x0), .second, .val (.long x1), .second, .val (.int x2), .unset, .unset, .unset, .unset, .unset, .unset, .unset, .unset, .unset, .unset, .unset, .unset, .unset, .unset, .unset, .unset, .unset, .unset, .unset] [] := by first | (simp [entryFrame, mkF, argsToLocals, Value.category, maxLocals]; done) | rfl
set_option maxRecDepth 65536 in
set_option maxHeartbeats 40000000 in
theorem P_law (l : Launch) (Z : State) (a0 : Array Value) (hw : ∀ d ∈ tables_1, d.before a0 Z = true) (p0 p1 : Int64) (p2 zc : Int32) (fm : Value) (h0 : Heap) (S0 : Sta Z Z.heap "java/lang/String" "COMPACT_STRINGS" "Z" (.int zc)) (hz : ¬ zc = 0) (SF : Sta Z Z.heap "jdk/internal/util/Preconditions" "SIOOBE_FORMATTER" "Ljava/util/function/BiFunction;" fm) (rf : fm.isRef = true) :
    Pays l Z x code maxLocals ret room_1 #[(.long p0), (.long p1), (.int p2)] h0 (fun v h => v = some (.int (1 : Int32))) := by
  refine pays_of_go (plainFor_of_name pn_law) (fun m => ef_law m p0 p1 p2) ?_
  intro p e s m below meth c C0
  have C : Cx p s m meth c code 24 (some .boolean) "law" "com/example/accessio/accessio/CheckDigitsIsbn13PinLaw" Z := C0
  show Go p l e room_1 s m #[(.long p0), (.long p1), (.int p2)] below meth c Z (fun v h => v = some (.int (1 : Int32))) h0 0 0 (mkF m 0 #[.val (.long p0), .second, .val (.long p1), .second, .val (.int p2), .unset, .unset, .unset, .unset, .unset, .unset, .unset, .unset, .unset, .unset, .unset, .unset, .unset, .unset, .unset, .unset, .unset, .unset, .unset] [])
  refine Go.plain (g' := (mkF m 1 #[.val (.long p0), .second, .val (.long p1), .second, .val (.int p2), .unset, .unset, .unset, .unset, .unset, .unset, .unset, .unset, .unset, .unset, .unset, .unset, .unset, .unset, .unset, .unset, .unset, .unset, .unset] [(.long p0)])) (fun T_ L_ X_ t_ q_ => XS.lloadN X_.here C.hx rfl (C.d at_0) rfl q_) ?_
  refine Go.plain (g' := (mkF m 2 #[.val (.long p0), .second, .val (.long p1), .second, .val (.int p2), .unset, .unset, .unset, .unset, .unset, .unset, .unset, .unset, .unset, .unset, .unset, .unset, .unset, .unset, .unset, .unset, .unset, .unset, .unset] [(.int (0 : Int32)), (.long p0)])) (fun T_ L_ X_ t_ q_ => XS.iconst X_.here C.hx rfl (C.d at_1) q_) ?_
  refine Go.static C (P_dig l Z a0 hw p0 (0 : Int32) h0) (hw _ (List.mem_of_getElem? (i := 0) rfl)) (hw _ (List.mem_of_getElem? (i := 1) rfl)) (hw _ (List.mem_of_getElem? (i := 2) rfl)) (hw _ (List.mem_of_getElem? (i := 3) rfl)) (by decide) pd_0 (argsL := [(.long p0), (.int (0 : Int32))]) (rest := []) rfl rfl at_2 (pc' := 5) rfl rfl rfl (W := 0) (Nat.le_of_eq rfl) (by decide) (by decide) (k' := 0) (n' := 0) rfl rfl (by decide) (by decide) ?_
  rintro _ _ ⟨rfl, rfl⟩
  show Go p l e room_1 s m #[(.long p0), (.long p1), (.int p2)] below meth c Z (fun v h => v = some (.int (1 : Int32))) h0 0 0 (mkF m 5 #[.val (.long p0), .second, .val (.long p1), .second, .val (.int p2), .unset, .unset, .unset, .unset, .unset, .unset, .unset, .unset, .unset, .unset, .unset, .unset, .unset, .unset, .unset, .unset, .unset, .unset, .unset] [(.int (dg p0 (0 : Int32)))])
  have r0 := dg_rng p0 (0 : Int32)
  generalize dg p0 (0 : Int32) = d0 at r0 ⊢
  refine Go.plain (g' := (mkF m 7 #[.val (.long p0), .second, .val (.long p1), .second, .val (.int p2), .val (.int d0), .unset, .unset, .unset, .unset, .unset, .unset, .unset, .unset, .unset, .unset, .unset, .unset, .unset, .unset, .unset, .unset, .unset, .unset] [])) (fun T_ L_ X_ t_ q_ => XS.istore X_.here C.hx rfl (C.d at_5) rfl (l' := #[.val (.long p0), .second, .val (.long p1), .second, .val (.int p2), .val (.int d0), .unset, .unset, .unset, .unset, .unset, .unset, .unset, .unset, .unset, .unset, .unset, .unset, .unset, .unset, .unset, .unset, .unset, .unset]) rfl q_) ?_
  refine Go.plain (g' := (mkF m 8 #[.val (.long p0), .second, .val (.long p1), .second, .val (.int p2), .val (.int d0), .unset, .unset, .unset, .unset, .unset, .unset, .unset, .unset, .unset, .unset, .unset, .unset, .unset, .unset, .unset, .unset, .unset, .unset] [(.long p0)])) (fun T_ L_ X_ t_ q_ => XS.lloadN X_.here C.hx rfl (C.d at_7) rfl q_) ?_
  refine Go.plain (g' := (mkF m 9 #[.val (.long p0), .second, .val (.long p1), .second, .val (.int p2), .val (.int d0), .unset, .unset, .unset, .unset, .unset, .unset, .unset, .unset, .unset, .unset, .unset, .unset, .unset, .unset, .unset, .unset, .unset, .unset] [(.int (1 : Int32)), (.long p0)])) (fun T_ L_ X_ t_ q_ => XS.iconst X_.here C.hx rfl (C.d at_8) q_) ?_
  refine Go.static C (P_dig l Z a0 hw p0 (1 : Int32) h0) (hw _ (List.mem_of_getElem? (i := 0) rfl)) (hw _ (List.mem_of_getElem? (i := 1) rfl)) (hw _ (List.mem_of_getElem? (i := 2) rfl)) (hw _ (List.mem_of_getElem? (i := 3) rfl)) (by decide) pd_0 (argsL := [(.long p0), (.int (1 : Int32))]) (rest := []) rfl rfl at_9 (pc' := 12) rfl rfl rfl (W := 0) (Nat.le_of_eq rfl) (by decide) (by decide) (k' := 0) (n' := 0) rfl rfl (by decide) (by decide) ?_
  rintro _ _ ⟨rfl, rfl⟩
  show Go p l e room_1 s m #[(.long p0), (.long p1), (.int p2)] below meth c Z (fun v h => v = some (.int (1 : Int32))) h0 0 0 (mkF m 12 #[.val (.long p0), .second, .val (.long p1), .second, .val (.int p2), .val (.int d0), .unset, .unset, .unset, .unset, .unset, .unset, .unset, .unset, .unset, .unset, .unset, .unset, .unset, .unset, .unset, .unset, .unset, .unset] [(.int (dg p0 (1 : Int32)))])
  have r1 := dg_rng p0 (1 : Int32)
  generalize dg p0 (1 : Int32) = d1 at r1 ⊢
  refine Go.plain (g' := (mkF m 14 #[.val (.long p0), .second, .val (.long p1), .second, .val (.int p2), .val (.int d0), .val (.int d1), .unset, .unset, .unset, .unset, .unset, .unset, .unset, .unset, .unset, .unset, .unset, .unset, .unset, .unset, .unset, .unset, .unset] [])) (fun T_ L_ X_ t_ q_ => XS.istore X_.here C.hx rfl (C.d at_12) rfl (l' := #[.val (.long p0), .second, .val (.long p1), .second, .val (.int p2), .val (.int d0), .val (.int d1), .unset, .unset, .unset, .unset, .unset, .unset, .unset, .unset, .unset, .unset, .unset, .unset, .unset, .unset, .unset, .unset, .unset]) rfl q_) ?_
  refine Go.plain (g' := (mkF m 15 #[.val (.long p0), .second, .val (.long p1), .second, .val (.int p2), .val (.int d0), .val (.int d1), .unset, .unset, .unset, .unset, .unset, .unset, .unset, .unset, .unset, .unset, .unset, .unset, .unset, .unset, .unset, .unset, .unset] [(.long p0)])) (fun T_ L_ X_ t_ q_ => XS.lloadN X_.here C.hx rfl (C.d at_14) rfl q_) ?_
  refine Go.plain (g' := (mkF m 16 #[.val (.long p0), .second, .val (.long p1), .second, .val (.int p2), .val (.int d0), .val (.int d1), .unset, .unset, .unset, .unset, .unset, .unset, .unset, .unset, .unset, .unset, .unset, .unset, .unset, .unset, .unset, .unset, .unset] [(.int (2 : Int32)), (.long p0)])) (fun T_ L_ X_ t_ q_ => XS.iconst X_.here C.hx rfl (C.d at_15) q_) ?_
  refine Go.static C (P_dig l Z a0 hw p0 (2 : Int32) h0) (hw _ (List.mem_of_getElem? (i := 0) rfl)) (hw _ (List.mem_of_getElem? (i := 1) rfl)) (hw _ (List.mem_of_getElem? (i := 2) rfl)) (hw _ (List.mem_of_getElem? (i := 3) rfl)) (by decide) pd_0 (argsL := [(.long p0), (.int (2 : Int32))]) (rest := []) rfl rfl at_16 (pc' := 19) rfl rfl rfl (W := 0) (Nat.le_of_eq rfl) (by decide) (by decide) (k' := 0) (n' := 0) rfl rfl (by decide) (by decide) ?_
  rintro _ _ ⟨rfl, rfl⟩
  show Go p l e room_1 s m #[(.long p0), (.long p1), (.int p2)] below meth c Z (fun v h => v = some (.int (1 : Int32))) h0 0 0 (mkF m 19 #[.val (.long p0), .second, .val (.long p1), .second, .val (.int p2), .val (.int d0), .val (.int d1), .unset, .unset, .unset, .unset, .unset, .unset, .unset, .unset, .unset, .unset, .unset, .unset, .unset, .unset, .unset, .unset, .unset] [(.int (dg p0 (2 : Int32)))])
  have r2 := dg_rng p0 (2 : Int32)
  generalize dg p0 (2 : Int32) = d2 at r2 ⊢
  refine Go.plain (g' := (mkF m 21 #[.val (.long p0), .second, .val (.long p1), .second, .val (.int p2), .val (.int d0), .val (.int d1), .val (.int d2), .unset, .unset, .unset, .unset, .unset, .unset, .unset, .unset, .unset, .unset, .unset, .unset, .unset, .unset, .unset, .unset] [])) (fun T_ L_ X_ t_ q_ => XS.istore X_.here C.hx rfl (C.d at_19) rfl (l' := #[.val (.long p0), .second, .val (.long p1), .second, .val (.int p2), .val (.int d0), .val (.int d1), .val (.int d2), .unset, .unset, .unset, .unset, .unset, .unset, .unset, .unset, .unset, .unset, .unset, .unset, .unset, .unset, .unset, .unset]) rfl q_) ?_
  refine Go.plain (g' := (mkF m 22 #[.val (.long p0), .second, .val (.long p1), .second, .val (.int p2), .val (.int d0), .val (.int d1), .val (.int d2), .unset, .unset, .unset, .unset, .unset, .unset, .unset, .unset, .unset, .unset, .unset, .unset, .unset, .unset, .unset, .unset] [(.long p0)])) (fun T_ L_ X_ t_ q_ => XS.lloadN X_.here C.hx rfl (C.d at_21) rfl q_) ?_
  refine Go.plain (g' := (mkF m 23 #[.val (.long p0), .second, .val (.long p1), .second, .val (.int p2), .val (.int d0), .val (.int d1), .val (.int d2), .unset, .unset, .unset, .unset, .unset, .unset, .unset, .unset, .unset, .unset, .unset, .unset, .unset, .unset, .unset, .unset] [(.int (3 : Int32)), (.long p0)])) (fun T_ L_ X_ t_ q_ => XS.iconst X_.here C.hx rfl (C.d at_22) q_) ?_
  refine Go.static C (P_dig l Z a0 hw p0 (3 : Int32) h0) (hw _ (List.mem_of_getElem? (i := 0) rfl)) (hw _ (List.mem_of_getElem? (i := 1) rfl)) (hw _ (List.mem_of_getElem? (i := 2) rfl)) (hw _ (List.mem_of_getElem? (i := 3) rfl)) (by decide) pd_0 (argsL := [(.long p0), (.int (3 : Int32))]) (rest := []) rfl rfl at_23 (pc' := 26) rfl rfl rfl (W := 0) (Nat.le_of_eq rfl) (by decide) (by decide) (k' := 0) (n' := 0) rfl rfl (by decide) (by decide) ?_
  rintro _ _ ⟨rfl, rfl⟩
  show Go p l e room_1 s m #[(.long p0), (.long p1), (.int p2)] below meth c Z (fun v h => v = some (.int (1 : Int32))) h0 0 0 (mkF m 26 #[.val (.long p0), .second, .val (.long p1), .second, .val (.int p2), .val (.int d0), .val (.int d1), .val (.int d2), .unset, .unset, .unset, .unset, .unset, .unset, .unset, .unset, .unset, .unset, .unset, .unset, .unset, .unset, .unset, .unset] [(.int (dg p0 (3 : Int32)))])
  have r3 := dg_rng p0 (3 : Int32)
  generalize dg p0 (3 : Int32) = d3 at r3 ⊢
  refine Go.plain (g' := (mkF m 28 #[.val (.long p0), .second, .val (.long p1), .second, .val (.int p2), .val (.int d0), .val (.int d1), .val (.int d2), .val (.int d3), .unset, .unset, .unset, .unset, .unset, .unset, .unset, .unset, .unset, .unset, .unset, .unset, .unset, .unset, .unset] [])) (fun T_ L_ X_ t_ q_ => XS.istore X_.here C.hx rfl (C.d at_26) rfl (l' := #[.val (.long p0), .second, .val (.long p1), .second, .val (.int p2), .val (.int d0), .val (.int d1), .val (.int d2), .val (.int d3), .unset, .unset, .unset, .unset, .unset, .unset, .unset, .unset, .unset, .unset, .unset, .unset, .unset, .unset, .unset]) rfl q_) ?_
  refine Go.plain (g' := (mkF m 29 #[.val (.long p0), .second, .val (.long p1), .second, .val (.int p2), .val (.int d0), .val (.int d1), .val (.int d2), .val (.int d3), .unset, .unset, .unset, .unset, .unset, .unset, .unset, .unset, .unset, .unset, .unset, .unset, .unset, .unset, .unset] [(.long p0)])) (fun T_ L_ X_ t_ q_ => XS.lloadN X_.here C.hx rfl (C.d at_28) rfl q_) ?_
  refine Go.plain (g' := (mkF m 30 #[.val (.long p0), .second, .val (.long p1), .second, .val (.int p2), .val (.int d0), .val (.int d1), .val (.int d2), .val (.int d3), .unset, .unset, .unset, .unset, .unset, .unset, .unset, .unset, .unset, .unset, .unset, .unset, .unset, .unset, .unset] [(.int (4 : Int32)), (.long p0)])) (fun T_ L_ X_ t_ q_ => XS.iconst X_.here C.hx rfl (C.d at_29) q_) ?_
  refine Go.static C (P_dig l Z a0 hw p0 (4 : Int32) h0) (hw _ (List.mem_of_getElem? (i := 0) rfl)) (hw _ (List.mem_of_getElem? (i := 1) rfl)) (hw _ (List.mem_of_getElem? (i := 2) rfl)) (hw _ (List.mem_of_getElem? (i := 3) rfl)) (by decide) pd_0 (argsL := [(.long p0), (.int (4 : Int32))]) (rest := []) rfl rfl at_30 (pc' := 33) rfl rfl rfl (W := 0) (Nat.le_of_eq rfl) (by decide) (by decide) (k' := 0) (n' := 0) rfl rfl (by decide) (by decide) ?_
  rintro _ _ ⟨rfl, rfl⟩
  show Go p l e room_1 s m #[(.long p0), (.long p1), (.int p2)] below meth c Z (fun v h => v = some (.int (1 : Int32))) h0 0 0 (mkF m 33 #[.val (.long p0), .second, .val (.long p1), .second, .val (.int p2), .val (.int d0), .val (.int d1), .val (.int d2), .val (.int d3), .unset, .unset, .unset, .unset, .unset, .unset, .unset, .unset, .unset, .unset, .unset, .unset, .unset, .unset, .unset] [(.int (dg p0 (4 : Int32)))])
  have r4 := dg_rng p0 (4 : Int32)
  generalize dg p0 (4 : Int32) = d4 at r4 ⊢
  refine Go.plain (g' := (mkF m 35 #[.val (.long p0), .second, .val (.long p1), .second, .val (.int p2), .val (.int d0), .val (.int d1), .val (.int d2), .val (.int d3), .val (.int d4), .unset, .unset, .unset, .unset, .unset, .unset, .unset, .unset, .unset, .unset, .unset, .unset, .unset, .unset] [])) (fun T_ L_ X_ t_ q_ => XS.istore X_.here C.hx rfl (C.d at_33) rfl (l' := #[.val (.long p0), .second, .val (.long p1), .second, .val (.int p2), .val (.int d0), .val (.int d1), .val (.int d2), .val (.int d3), .val (.int d4), .unset, .unset, .unset, .unset, .unset, .unset, .unset, .unset, .unset, .unset, .unset, .unset, .unset, .unset]) rfl q_) ?_
  refine Go.plain (g' := (mkF m 36 #[.val (.long p0), .second, .val (.long p1), .second, .val (.int p2), .val (.int d0), .val (.int d1), .val (.int d2), .val (.int d3), .val (.int d4), .unset, .unset, .unset, .unset, .unset, .unset, .unset, .unset, .unset, .unset, .unset, .unset, .unset, .unset] [(.long p0)])) (fun T_ L_ X_ t_ q_ => XS.lloadN X_.here C.hx rfl (C.d at_35) rfl q_) ?_
  refine Go.plain (g' := (mkF m 37 #[.val (.long p0), .second, .val (.long p1), .second, .val (.int p2), .val (.int d0), .val (.int d1), .val (.int d2), .val (.int d3), .val (.int d4), .unset, .unset, .unset, .unset, .unset, .unset, .unset, .unset, .unset, .unset, .unset, .unset, .unset, .unset] [(.int (5 : Int32)), (.long p0)])) (fun T_ L_ X_ t_ q_ => XS.iconst X_.here C.hx rfl (C.d at_36) q_) ?_
  refine Go.static C (P_dig l Z a0 hw p0 (5 : Int32) h0) (hw _ (List.mem_of_getElem? (i := 0) rfl)) (hw _ (List.mem_of_getElem? (i := 1) rfl)) (hw _ (List.mem_of_getElem? (i := 2) rfl)) (hw _ (List.mem_of_getElem? (i := 3) rfl)) (by decide) pd_0 (argsL := [(.long p0), (.int (5 : Int32))]) (rest := []) rfl rfl at_37 (pc' := 40) rfl rfl rfl (W := 0) (Nat.le_of_eq rfl) (by decide) (by decide) (k' := 0) (n' := 0) rfl rfl (by decide) (by decide) ?_
  rintro _ _ ⟨rfl, rfl⟩
  show Go p l e room_1 s m #[(.long p0), (.long p1), (.int p2)] below meth c Z (fun v h => v = some (.int (1 : Int32))) h0 0 0 (mkF m 40 #[.val (.long p0), .second, .val (.long p1), .second, .val (.int p2), .val (.int d0), .val (.int d1), .val (.int d2), .val (.int d3), .val (.int d4), .unset, .unset, .unset, .unset, .unset, .unset, .unset, .unset, .unset, .unset, .unset, .unset, .unset, .unset] [(.int (dg p0 (5 : Int32)))])
  have r5 := dg_rng p0 (5 : Int32)
  generalize dg p0 (5 : Int32) = d5 at r5 ⊢
  refine Go.plain (g' := (mkF m 42 #[.val (.long p0), .second, .val (.long p1), .second, .val (.int p2), .val (.int d0), .val (.int d1), .val (.int d2), .val (.int d3), .val (.int d4), .val (.int d5), .unset, .unset, .unset, .unset, .unset, .unset, .unset, .unset, .unset, .unset, .unset, .unset, .unset] [])) (fun T_ L_ X_ t_ q_ => XS.istore X_.here C.hx rfl (C.d at_40) rfl (l' := #[.val (.long p0), .second, .val (.long p1), .second, .val (.int p2), .val (.int d0), .val (.int d1), .val (.int d2), .val (.int d3), .val (.int d4), .val (.int d5), .unset, .unset, .unset, .unset, .unset, .unset, .unset, .unset, .unset, .unset, .unset, .unset, .unset]) rfl q_) ?_
  refine Go.plain (g' := (mkF m 43 #[.val (.long p0), .second, .val (.long p1), .second, .val (.int p2), .val (.int d0), .val (.int d1), .val (.int d2), .val (.int d3), .val (.int d4), .val (.int d5), .unset, .unset, .unset, .unset, .unset, .unset, .unset, .unset, .unset, .unset, .unset, .unset, .unset] [(.long p1)])) (fun T_ L_ X_ t_ q_ => XS.lloadN X_.here C.hx rfl (C.d at_42) rfl q_) ?_
  refine Go.plain (g' := (mkF m 44 #[.val (.long p0), .second, .val (.long p1), .second, .val (.int p2), .val (.int d0), .val (.int d1), .val (.int d2), .val (.int d3), .val (.int d4), .val (.int d5), .unset, .unset, .unset, .unset, .unset, .unset, .unset, .unset, .unset, .unset, .unset, .unset, .unset] [(.int (0 : Int32)), (.long p1)])) (fun T_ L_ X_ t_ q_ => XS.iconst X_.here C.hx rfl (C.d at_43) q_) ?_
  refine Go.static C (P_dig l Z a0 hw p1 (0 : Int32) h0) (hw _ (List.mem_of_getElem? (i := 0) rfl)) (hw _ (List.mem_of_getElem? (i := 1) rfl)) (hw _ (List.mem_of_getElem? (i := 2) rfl)) (hw _ (List.mem_of_getElem? (i := 3) rfl)) (by decide) pd_0 (argsL := [(.long p1), (.int (0 : Int32))]) (rest := []) rfl rfl at_44 (pc' := 47) rfl rfl rfl (W := 0) (Nat.le_of_eq rfl) (by decide) (by decide) (k' := 0) (n' := 0) rfl rfl (by decide) (by decide) ?_
  rintro _ _ ⟨rfl, rfl⟩
  show Go p l e room_1 s m #[(.long p0), (.long p1), (.int p2)] below meth c Z (fun v h => v = some (.int (1 : Int32))) h0 0 0 (mkF m 47 #[.val (.long p0), .second, .val (.long p1), .second, .val (.int p2), .val (.int d0), .val (.int d1), .val (.int d2), .val (.int d3), .val (.int d4), .val (.int d5), .unset, .unset, .unset, .unset, .unset, .unset, .unset, .unset, .unset, .unset, .unset, .unset, .unset] [(.int (dg p1 (0 : Int32)))])
  have r6 := dg_rng p1 (0 : Int32)
  generalize dg p1 (0 : Int32) = d6 at r6 ⊢
  refine Go.plain (g' := (mkF m 49 #[.val (.long p0), .second, .val (.long p1), .second, .val (.int p2), .val (.int d0), .val (.int d1), .val (.int d2), .val (.int d3), .val (.int d4), .val (.int d5), .val (.int d6), .unset, .unset, .unset, .unset, .unset, .unset, .unset, .unset, .unset, .unset, .unset, .unset] [])) (fun T_ L_ X_ t_ q_ => XS.istore X_.here C.hx rfl (C.d at_47) rfl (l' := #[.val (.long p0), .second, .val (.long p1), .second, .val (.int p2), .val (.int d0), .val (.int d1), .val (.int d2), .val (.int d3), .val (.int d4), .val (.int d5), .val (.int d6), .unset, .unset, .unset, .unset, .unset, .unset, .unset, .unset, .unset, .unset, .unset, .unset]) rfl q_) ?_
  refine Go.plain (g' := (mkF m 50 #[.val (.long p0), .second, .val (.long p1), .second, .val (.int p2), .val (.int d0), .val (.int d1), .val (.int d2), .val (.int d3), .val (.int d4), .val (.int d5), .val (.int d6), .unset, .unset, .unset, .unset, .unset, .unset, .unset, .unset, .unset, .unset, .unset, .unset] [(.long p1)])) (fun T_ L_ X_ t_ q_ => XS.lloadN X_.here C.hx rfl (C.d at_49) rfl q_) ?_
  refine Go.plain (g' := (mkF m 51 #[.val (.long p0), .second, .val (.long p1), .second, .val (.int p2), .val (.int d0), .val (.int d1), .val (.int d2), .val (.int d3), .val (.int d4), .val (.int d5), .val (.int d6), .unset, .unset, .unset, .unset, .unset, .unset, .unset, .unset, .unset, .unset, .unset, .unset] [(.int (1 : Int32)), (.long p1)])) (fun T_ L_ X_ t_ q_ => XS.iconst X_.here C.hx rfl (C.d at_50) q_) ?_
  refine Go.static C (P_dig l Z a0 hw p1 (1 : Int32) h0) (hw _ (List.mem_of_getElem? (i := 0) rfl)) (hw _ (List.mem_of_getElem? (i := 1) rfl)) (hw _ (List.mem_of_getElem? (i := 2) rfl)) (hw _ (List.mem_of_getElem? (i := 3) rfl)) (by decide) pd_0 (argsL := [(.long p1), (.int (1 : Int32))]) (rest := []) rfl rfl at_51 (pc' := 54) rfl rfl rfl (W := 0) (Nat.le_of_eq rfl) (by decide) (by decide) (k' := 0) (n' := 0) rfl rfl (by decide) (by decide) ?_
  rintro _ _ ⟨rfl, rfl⟩
  show Go p l e room_1 s m #[(.long p0), (.long p1), (.int p2)] below meth c Z (fun v h => v = some (.int (1 : Int32))) h0 0 0 (mkF m 54 #[.val (.long p0), .second, .val (.long p1), .second, .val (.int p2), .val (.int d0), .val (.int d1), .val (.int d2), .val (.int d3), .val (.int d4), .val (.int d5), .val (.int d6), .unset, .unset, .unset, .unset, .unset, .unset, .unset, .unset, .unset, .unset, .unset, .unset] [(.int (dg p1 (1 : Int32)))])
  have r7 := dg_rng p1 (1 : Int32)
  generalize dg p1 (1 : Int32) = d7 at r7 ⊢
  refine Go.plain (g' := (mkF m 56 #[.val (.long p0), .second, .val (.long p1), .second, .val (.int p2), .val (.int d0), .val (.int d1), .val (.int d2), .val (.int d3), .val (.int d4), .val (.int d5), .val (.int d6), .val (.int d7), .unset, .unset, .unset, .unset, .unset, .unset, .unset, .unset, .unset, .unset, .unset] [])) (fun T_ L_ X_ t_ q_ => XS.istore X_.here C.hx rfl (C.d at_54) rfl (l' := #[.val (.long p0), .second, .val (.long p1), .second, .val (.int p2), .val (.int d0), .val (.int d1), .val (.int d2), .val (.int d3), .val (.int d4), .val (.int d5), .val (.int d6), .val (.int d7), .unset, .unset, .unset, .unset, .unset, .unset, .unset, .unset, .unset, .unset, .unset]) rfl q_) ?_
  refine Go.plain (g' := (mkF m 57 #[.val (.long p0), .second, .val (.long p1), .second, .val (.int p2), .val (.int d0), .val (.int d1), .val (.int d2), .val (.int d3), .val (.int d4), .val (.int d5), .val (.int d6), .val (.int d7), .unset, .unset, .unset, .unset, .unset, .unset, .unset, .unset, .unset, .unset, .unset] [(.long p1)])) (fun T_ L_ X_ t_ q_ => XS.lloadN X_.here C.hx rfl (C.d at_56) rfl q_) ?_
  refine Go.plain (g' := (mkF m 58 #[.val (.long p0), .second, .val (.long p1), .second, .val (.int p2), .val (.int d0), .val (.int d1), .val (.int d2), .val (.int d3), .val (.int d4), .val (.int d5), .val (.int d6), .val (.int d7), .unset, .unset, .unset, .unset, .unset, .unset, .unset, .unset, .unset, .unset, .unset] [(.int (2 : Int32)), (.long p1)])) (fun T_ L_ X_ t_ q_ => XS.iconst X_.here C.hx rfl (C.d at_57) q_) ?_
  refine Go.static C (P_dig l Z a0 hw p1 (2 : Int32) h0) (hw _ (List.mem_of_getElem? (i := 0) rfl)) (hw _ (List.mem_of_getElem? (i := 1) rfl)) (hw _ (List.mem_of_getElem? (i := 2) rfl)) (hw _ (List.mem_of_getElem? (i := 3) rfl)) (by decide) pd_0 (argsL := [(.long p1), (.int (2 : Int32))]) (rest := []) rfl rfl at_58 (pc' := 61) rfl rfl rfl (W := 0) (Nat.le_of_eq rfl) (by decide) (by decide) (k' := 0) (n' := 0) rfl rfl (by decide) (by decide) ?_
  rintro _ _ ⟨rfl, rfl⟩
  show Go p l e room_1 s m #[(.long p0), (.long p1), (.int p2)] below meth c Z (fun v h => v = some (.int (1 : Int32))) h0 0 0 (mkF m 61 #[.val (.long p0), .second, .val (.long p1), .second, .val (.int p2), .val (.int d0), .val (.int d1), .val (.int d2), .val (.int d3), .val (.int d4), .val (.int d5), .val (.int d6), .val (.int d7), .unset, .unset, .unset, .unset, .unset, .unset, .unset, .unset, .unset, .unset, .unset] [(.int (dg p1 (2 : Int32)))])
  have r8 := dg_rng p1 (2 : Int32)
  generalize dg p1 (2 : Int32) = d8 at r8 ⊢
  refine Go.plain (g' := (mkF m 63 #[.val (.long p0), .second, .val (.long p1), .second, .val (.int p2), .val (.int d0), .val (.int d1), .val (.int d2), .val (.int d3), .val (.int d4), .val (.int d5), .val (.int d6), .val (.int d7), .val (.int d8), .unset, .unset, .unset, .unset, .unset, .unset, .unset, .unset, .unset, .unset] [])) (fun T_ L_ X_ t_ q_ => XS.istore X_.here C.hx rfl (C.d at_61) rfl (l' := #[.val (.long p0), .second, .val (.long p1), .second, .val (.int p2), .val (.int d0), .val (.int d1), .val (.int d2), .val (.int d3), .val (.int d4), .val (.int d5), .val (.int d6), .val (.int d7), .val (.int d8), .unset, .unset, .unset, .unset, .unset, .unset, .unset, .unset, .unset, .unset]) rfl q_) ?_
  refine Go.plain (g' := (mkF m 64 #[.val (.long p0), .second, .val (.long p1), .second, .val (.int p2), .val (.int d0), .val (.int d1), .val (.int d2), .val (.int d3), .val (.int d4), .val (.int d5), .val (.int d6), .val (.int d7), .val (.int d8), .unset, .unset, .unset, .unset, .unset, .unset, .unset, .unset, .unset, .unset] [(.long p1)])) (fun T_ L_ X_ t_ q_ => XS.lloadN X_.here C.hx rfl (C.d at_63) rfl q_) ?_
  refine Go.plain (g' := (mkF m 65 #[.val (.long p0), .second, .val (.long p1), .second, .val (.int p2), .val (.int d0), .val (.int d1), .val (.int d2), .val (.int d3), .val (.int d4), .val (.int d5), .val (.int d6), .val (.int d7), .val (.int d8), .unset, .unset, .unset, .unset, .unset, .unset, .unset, .unset, .unset, .unset] [(.int (3 : Int32)), (.long p1)])) (fun T_ L_ X_ t_ q_ => XS.iconst X_.here C.hx rfl (C.d at_64) q_) ?_
  refine Go.static C (P_dig l Z a0 hw p1 (3 : Int32) h0) (hw _ (List.mem_of_getElem? (i := 0) rfl)) (hw _ (List.mem_of_getElem? (i := 1) rfl)) (hw _ (List.mem_of_getElem? (i := 2) rfl)) (hw _ (List.mem_of_getElem? (i := 3) rfl)) (by decide) pd_0 (argsL := [(.long p1), (.int (3 : Int32))]) (rest := []) rfl rfl at_65 (pc' := 68) rfl rfl rfl (W := 0) (Nat.le_of_eq rfl) (by decide) (by decide) (k' := 0) (n' := 0) rfl rfl (by decide) (by decide) ?_
  rintro _ _ ⟨rfl, rfl⟩
  show Go p l e room_1 s m #[(.long p0), (.long p1), (.int p2)] below meth c Z (fun v h => v = some (.int (1 : Int32))) h0 0 0 (mkF m 68 #[.val (.long p0), .second, .val (.long p1), .second, .val (.int p2), .val (.int d0), .val (.int d1), .val (.int d2), .val (.int d3), .val (.int d4), .val (.int d5), .val (.int d6), .val (.int d7), .val (.int d8), .unset, .unset, .unset, .unset, .unset, .unset, .unset, .unset, .unset, .unset] [(.int (dg p1 (3 : Int32)))])
  have r9 := dg_rng p1 (3 : Int32)
  generalize dg p1 (3 : Int32) = d9 at r9 ⊢
  refine Go.plain (g' := (mkF m 70 #[.val (.long p0), .second, .val (.long p1), .second, .val (.int p2), .val (.int d0), .val (.int d1), .val (.int d2), .val (.int d3), .val (.int d4), .val (.int d5), .val (.int d6), .val (.int d7), .val (.int d8), .val (.int d9), .unset, .unset, .unset, .unset, .unset, .unset, .unset, .unset, .unset] [])) (fun T_ L_ X_ t_ q_ => XS.istore X_.here C.hx rfl (C.d at_68) rfl (l' := #[.val (.long p0), .second, .val (.long p1), .second, .val (.int p2), .val (.int d0), .val (.int d1), .val (.int d2), .val (.int d3), .val (.int d4), .val (.int d5), .val (.int d6), .val (.int d7), .val (.int d8), .val (.int d9), .unset, .unset, .unset, .unset, .unset, .unset, .unset, .unset, .unset]) rfl q_) ?_
  refine Go.plain (g' := (mkF m 71 #[.val (.long p0), .second, .val (.long p1), .second, .val (.int p2), .val (.int d0), .val (.int d1), .val (.int d2), .val (.int d3), .val (.int d4), .val (.int d5), .val (.int d6), .val (.int d7), .val (.int d8), .val (.int d9), .unset, .unset, .unset, .unset, .unset, .unset, .unset, .unset, .unset] [(.long p1)])) (fun T_ L_ X_ t_ q_ => XS.lloadN X_.here C.hx rfl (C.d at_70) rfl q_) ?_
  refine Go.plain (g' := (mkF m 72 #[.val (.long p0), .second, .val (.long p1), .second, .val (.int p2), .val (.int d0), .val (.int d1), .val (.int d2), .val (.int d3), .val (.int d4), .val (.int d5), .val (.int d6), .val (.int d7), .val (.int d8), .val (.int d9), .unset, .unset, .unset, .unset, .unset, .unset, .unset, .unset, .unset] [(.int (4 : Int32)), (.long p1)])) (fun T_ L_ X_ t_ q_ => XS.iconst X_.here C.hx rfl (C.d at_71) q_) ?_
  refine Go.static C (P_dig l Z a0 hw p1 (4 : Int32) h0) (hw _ (List.mem_of_getElem? (i := 0) rfl)) (hw _ (List.mem_of_getElem? (i := 1) rfl)) (hw _ (List.mem_of_getElem? (i := 2) rfl)) (hw _ (List.mem_of_getElem? (i := 3) rfl)) (by decide) pd_0 (argsL := [(.long p1), (.int (4 : Int32))]) (rest := []) rfl rfl at_72 (pc' := 75) rfl rfl rfl (W := 0) (Nat.le_of_eq rfl) (by decide) (by decide) (k' := 0) (n' := 0) rfl rfl (by decide) (by decide) ?_
  rintro _ _ ⟨rfl, rfl⟩
  show Go p l e room_1 s m #[(.long p0), (.long p1), (.int p2)] below meth c Z (fun v h => v = some (.int (1 : Int32))) h0 0 0 (mkF m 75 #[.val (.long p0), .second, .val (.long p1), .second, .val (.int p2), .val (.int d0), .val (.int d1), .val (.int d2), .val (.int d3), .val (.int d4), .val (.int d5), .val (.int d6), .val (.int d7), .val (.int d8), .val (.int d9), .unset, .unset, .unset, .unset, .unset, .unset, .unset, .unset, .unset] [(.int (dg p1 (4 : Int32)))])
  have r10 := dg_rng p1 (4 : Int32)
  generalize dg p1 (4 : Int32) = d10 at r10 ⊢
  refine Go.plain (g' := (mkF m 77 #[.val (.long p0), .second, .val (.long p1), .second, .val (.int p2), .val (.int d0), .val (.int d1), .val (.int d2), .val (.int d3), .val (.int d4), .val (.int d5), .val (.int d6), .val (.int d7), .val (.int d8), .val (.int d9), .val (.int d10), .unset, .unset, .unset, .unset, .unset, .unset, .unset, .unset] [])) (fun T_ L_ X_ t_ q_ => XS.istore X_.here C.hx rfl (C.d at_75) rfl (l' := #[.val (.long p0), .second, .val (.long p1), .second, .val (.int p2), .val (.int d0), .val (.int d1), .val (.int d2), .val (.int d3), .val (.int d4), .val (.int d5), .val (.int d6), .val (.int d7), .val (.int d8), .val (.int d9), .val (.int d10), .unset, .unset, .unset, .unset, .unset, .unset, .unset, .unset]) rfl q_) ?_
  refine Go.plain (g' := (mkF m 78 #[.val (.long p0), .second, .val (.long p1), .second, .val (.int p2), .val (.int d0), .val (.int d1), .val (.int d2), .val (.int d3), .val (.int d4), .val (.int d5), .val (.int d6), .val (.int d7), .val (.int d8), .val (.int d9), .val (.int d10), .unset, .unset, .unset, .unset, .unset, .unset, .unset, .unset] [(.long p1)])) (fun T_ L_ X_ t_ q_ => XS.lloadN X_.here C.hx rfl (C.d at_77) rfl q_) ?_
  refine Go.plain (g' := (mkF m 79 #[.val (.long p0), .second, .val (.long p1), .second, .val (.int p2), .val (.int d0), .val (.int d1), .val (.int d2), .val (.int d3), .val (.int d4), .val (.int d5), .val (.int d6), .val (.int d7), .val (.int d8), .val (.int d9), .val (.int d10), .unset, .unset, .unset, .unset, .unset, .unset, .unset, .unset] [(.int (5 : Int32)), (.long p1)])) (fun T_ L_ X_ t_ q_ => XS.iconst X_.here C.hx rfl (C.d at_78) q_) ?_
  refine Go.static C (P_dig l Z a0 hw p1 (5 : Int32) h0) (hw _ (List.mem_of_getElem? (i := 0) rfl)) (hw _ (List.mem_of_getElem? (i := 1) rfl)) (hw _ (List.mem_of_getElem? (i := 2) rfl)) (hw _ (List.mem_of_getElem? (i := 3) rfl)) (by decide) pd_0 (argsL := [(.long p1), (.int (5 : Int32))]) (rest := []) rfl rfl at_79 (pc' := 82) rfl rfl rfl (W := 0) (Nat.le_of_eq rfl) (by decide) (by decide) (k' := 0) (n' := 0) rfl rfl (by decide) (by decide) ?_
  rintro _ _ ⟨rfl, rfl⟩
  show Go p l e room_1 s m #[(.long p0), (.long p1), (.int p2)] below meth c Z (fun v h => v = some (.int (1 : Int32))) h0 0 0 (mkF m 82 #[.val (.long p0), .second, .val (.long p1), .second, .val (.int p2), .val (.int d0), .val (.int d1), .val (.int d2), .val (.int d3), .val (.int d4), .val (.int d5), .val (.int d6), .val (.int d7), .val (.int d8), .val (.int d9), .val (.int d10), .unset, .unset, .unset, .unset, .unset, .unset, .unset, .unset] [(.int (dg p1 (5 : Int32)))])
  have r11 := dg_rng p1 (5 : Int32)
  generalize dg p1 (5 : Int32) = d11 at r11 ⊢
  refine Go.plain (g' := (mkF m 84 #[.val (.long p0), .second, .val (.long p1), .second, .val (.int p2), .val (.int d0), .val (.int d1), .val (.int d2), .val (.int d3), .val (.int d4), .val (.int d5), .val (.int d6), .val (.int d7), .val (.int d8), .val (.int d9), .val (.int d10), .val (.int d11), .unset, .unset, .unset, .unset, .unset, .unset, .unset] [])) (fun T_ L_ X_ t_ q_ => XS.istore X_.here C.hx rfl (C.d at_82) rfl (l' := #[.val (.long p0), .second, .val (.long p1), .second, .val (.int p2), .val (.int d0), .val (.int d1), .val (.int d2), .val (.int d3), .val (.int d4), .val (.int d5), .val (.int d6), .val (.int d7), .val (.int d8), .val (.int d9), .val (.int d10), .val (.int d11), .unset, .unset, .unset, .unset, .unset, .unset, .unset]) rfl q_) ?_
  refine Go.plain (g' := (mkF m 86 #[.val (.long p0), .second, .val (.long p1), .second, .val (.int p2), .val (.int d0), .val (.int d1), .val (.int d2), .val (.int d3), .val (.int d4), .val (.int d5), .val (.int d6), .val (.int d7), .val (.int d8), .val (.int d9), .val (.int d10), .val (.int d11), .unset, .unset, .unset, .unset, .unset, .unset, .unset] [(.int p2)])) (fun T_ L_ X_ t_ q_ => XS.iload X_.here C.hx rfl (C.d at_84) rfl q_) ?_
  refine Go.plain (g' := (mkF m 88 #[.val (.long p0), .second, .val (.long p1), .second, .val (.int p2), .val (.int d0), .val (.int d1), .val (.int d2), .val (.int d3), .val (.int d4), .val (.int d5), .val (.int d6), .val (.int d7), .val (.int d8), .val (.int d9), .val (.int d10), .val (.int d11), .unset, .unset, .unset, .unset, .unset, .unset, .unset] [(.int (15 : Int32)), (.int p2)])) (fun T_ L_ X_ t_ q_ => XS.bipush X_.here C.hx rfl (C.d at_86) q_) ?_
  refine Go.plain (g' := (mkF m 89 #[.val (.long p0), .second, .val (.long p1), .second, .val (.int p2), .val (.int d0), .val (.int d1), .val (.int d2), .val (.int d3), .val (.int d4), .val (.int d5), .val (.int d6), .val (.int d7), .val (.int d8), .val (.int d9), .val (.int d10), .val (.int d11), .unset, .unset, .unset, .unset, .unset, .unset, .unset] [(.int (p2 &&& (15 : Int32)))])) (fun T_ L_ X_ t_ q_ => XS.iand X_.here C.hx rfl (C.d at_88) rfl q_) ?_
  refine Go.plain (g' := (mkF m 91 #[.val (.long p0), .second, .val (.long p1), .second, .val (.int p2), .val (.int d0), .val (.int d1), .val (.int d2), .val (.int d3), .val (.int d4), .val (.int d5), .val (.int d6), .val (.int d7), .val (.int d8), .val (.int d9), .val (.int d10), .val (.int d11), .unset, .unset, .unset, .unset, .unset, .unset, .unset] [(.int (10 : Int32)), (.int (p2 &&& (15 : Int32)))])) (fun T_ L_ X_ t_ q_ => XS.bipush X_.here C.hx rfl (C.d at_89) q_) ?_
  refine Go.irem C at_91 (by decide) (pc' := 92) rfl ?_
  have re1 := e_rng1 p2
  generalize ((p2 &&& (15 : Int32)) % (10 : Int32)) = e1 at re1 ⊢
  refine Go.plain (g' := (mkF m 94 #[.val (.long p0), .second, .val (.long p1), .second, .val (.int p2), .val (.int d0), .val (.int d1), .val (.int d2), .val (.int d3), .val (.int d4), .val (.int d5), .val (.int d6), .val (.int d7), .val (.int d8), .val (.int d9), .val (.int d10), .val (.int d11), .val (.int e1), .unset, .unset, .unset, .unset, .unset, .unset] [])) (fun T_ L_ X_ t_ q_ => XS.istore X_.here C.hx rfl (C.d at_92) rfl (l' := #[.val (.long p0), .second, .val (.long p1), .second, .val (.int p2), .val (.int d0), .val (.int d1), .val (.int d2), .val (.int d3), .val (.int d4), .val (.int d5), .val (.int d6), .val (.int d7), .val (.int d8), .val (.int d9), .val (.int d10), .val (.int d11), .val (.int e1), .unset, .unset, .unset, .unset, .unset, .unset]) rfl q_) ?_
  refine Go.plain (g' := (mkF m 96 #[.val (.long p0), .second, .val (.long p1), .second, .val (.int p2), .val (.int d0), .val (.int d1), .val (.int d2), .val (.int d3), .val (.int d4), .val (.int d5), .val (.int d6), .val (.int d7), .val (.int d8), .val (.int d9), .val (.int d10), .val (.int d11), .val (.int e1), .unset, .unset, .unset, .unset, .unset, .unset] [(.int p2)])) (fun T_ L_ X_ t_ q_ => XS.iload X_.here C.hx rfl (C.d at_94) rfl q_) ?_
  refine Go.plain (g' := (mkF m 97 #[.val (.long p0), .second, .val (.long p1), .second, .val (.int p2), .val (.int d0), .val (.int d1), .val (.int d2), .val (.int d3), .val (.int d4), .val (.int d5), .val (.int d6), .val (.int d7), .val (.int d8), .val (.int d9), .val (.int d10), .val (.int d11), .val (.int e1), .unset, .unset, .unset, .unset, .unset, .unset] [(.int (4 : Int32)), (.int p2)])) (fun T_ L_ X_ t_ q_ => XS.iconst X_.here C.hx rfl (C.d at_96) q_) ?_
  refine Go.plain (g' := (mkF m 98 #[.val (.long p0), .second, .val (.long p1), .second, .val (.int p2), .val (.int d0), .val (.int d1), .val (.int d2), .val (.int d3), .val (.int d4), .val (.int d5), .val (.int d6), .val (.int d7), .val (.int d8), .val (.int d9), .val (.int d10), .val (.int d11), .val (.int e1), .unset, .unset, .unset, .unset, .unset, .unset] [(.int ((p2.toUInt32 >>> ((4 : Int32) &&& 31).toUInt32).toInt32))])) (fun T_ L_ X_ t_ q_ => XS.iushr X_.here C.hx rfl (C.d at_97) rfl q_) ?_
  refine Go.plain (g' := (mkF m 100 #[.val (.long p0), .second, .val (.long p1), .second, .val (.int p2), .val (.int d0), .val (.int d1), .val (.int d2), .val (.int d3), .val (.int d4), .val (.int d5), .val (.int d6), .val (.int d7), .val (.int d8), .val (.int d9), .val (.int d10), .val (.int d11), .val (.int e1), .unset, .unset, .unset, .unset, .unset, .unset] [(.int (15 : Int32)), (.int ((p2.toUInt32 >>> ((4 : Int32) &&& 31).toUInt32).toInt32))])) (fun T_ L_ X_ t_ q_ => XS.bipush X_.here C.hx rfl (C.d at_98) q_) ?_
  refine Go.plain (g' := (mkF m 101 #[.val (.long p0), .second, .val (.long p1), .second, .val (.int p2), .val (.int d0), .val (.int d1), .val (.int d2), .val (.int d3), .val (.int d4), .val (.int d5), .val (.int d6), .val (.int d7), .val (.int d8), .val (.int d9), .val (.int d10), .val (.int d11), .val (.int e1), .unset, .unset, .unset, .unset, .unset, .unset] [(.int (((p2.toUInt32 >>> ((4 : Int32) &&& 31).toUInt32).toInt32) &&& (15 : Int32)))])) (fun T_ L_ X_ t_ q_ => XS.iand X_.here C.hx rfl (C.d at_100) rfl q_) ?_
  refine Go.plain (g' := (mkF m 103 #[.val (.long p0), .second, .val (.long p1), .second, .val (.int p2), .val (.int d0), .val (.int d1), .val (.int d2), .val (.int d3), .val (.int d4), .val (.int d5), .val (.int d6), .val (.int d7), .val (.int d8), .val (.int d9), .val (.int d10), .val (.int d11), .val (.int e1), .unset, .unset, .unset, .unset, .unset, .unset] [(.int (10 : Int32)), (.int (((p2.toUInt32 >>> ((4 : Int32) &&& 31).toUInt32).toInt32) &&& (15 : Int32)))])) (fun T_ L_ X_ t_ q_ => XS.bipush X_.here C.hx rfl (C.d at_101) q_) ?_
  refine Go.irem C at_103 (by decide) (pc' := 104) rfl ?_
  have re2 := e_rng2 p2
  generalize ((((p2.toUInt32 >>> ((4 : Int32) &&& 31).toUInt32).toInt32) &&& (15 : Int32)) % (10 : Int32)) = e2 at re2 ⊢
  refine Go.plain (g' := (mkF m 106 #[.val (.long p0), .second, .val (.long p1), .second, .val (.int p2), .val (.int d0), .val (.int d1), .val (.int d2), .val (.int d3), .val (.int d4), .val (.int d5), .val (.int d6), .val (.int d7), .val (.int d8), .val (.int d9), .val (.int d10), .val (.int d11), .val (.int e1), .val (.int e2), .unset, .unset, .unset, .unset, .unset] [])) (fun T_ L_ X_ t_ q_ => XS.istore X_.here C.hx rfl (C.d at_104) rfl (l' := #[.val (.long p0), .second, .val (.long p1), .second, .val (.int p2), .val (.int d0), .val (.int d1), .val (.int d2), .val (.int d3), .val (.int d4), .val (.int d5), .val (.int d6), .val (.int d7), .val (.int d8), .val (.int d9), .val (.int d10), .val (.int d11), .val (.int e1), .val (.int e2), .unset, .unset, .unset, .unset, .unset]) rfl q_) ?_
  refine Go.plain (g' := (mkF m 108 #[.val (.long p0), .second, .val (.long p1), .second, .val (.int p2), .val (.int d0), .val (.int d1), .val (.int d2), .val (.int d3), .val (.int d4), .val (.int d5), .val (.int d6), .val (.int d7), .val (.int d8), .val (.int d9), .val (.int d10), .val (.int d11), .val (.int e1), .val (.int e2), .unset, .unset, .unset, .unset, .unset] [(.int (13 : Int32))])) (fun T_ L_ X_ t_ q_ => XS.bipush X_.here C.hx rfl (C.d at_106) q_) ?_
  refine Go.newP C (hw _ (List.mem_of_getElem? (i := 5) rfl)) (by decide) (cap := 13) (by decide) (by decide) at_108 (pc' := 110) rfl (k' := 1) (n' := 13) rfl rfl (by decide) (by decide) ?_
  intro ca h1 k_ca q_ca z_ca E_ca V_ca
  have V_ca : Arv Z h1 ca k_ca .char (13 : Int32) [.int 0, .int 0, .int 0, .int 0, .int 0, .int 0, .int 0, .int 0, .int 0, .int 0, .int 0, .int 0, .int 0] (.int 0) := V_ca.pad (pad_rep [] (.int 0) 13)
  refine Go.plain (g' := (mkF m 111 #[.val (.long p0), .second, .val (.long p1), .second, .val (.int p2), .val (.int d0), .val (.int d1), .val (.int d2), .val (.int d3), .val (.int d4), .val (.int d5), .val (.int d6), .val (.int d7), .val (.int d8), .val (.int d9), .val (.int d10), .val (.int d11), .val (.int e1), .val (.int e2), .unset, .unset, .unset, .unset, .unset] [(.ref ca), (.ref ca)])) (fun T_ L_ X_ t_ q_ => XS.dup X_.here C.hx rfl (C.d at_110) rfl rfl q_) ?_
  refine Go.plain (g' := (mkF m 112 #[.val (.long p0), .second, .val (.long p1), .second, .val (.int p2), .val (.int d0), .val (.int d1), .val (.int d2), .val (.int d3), .val (.int d4), .val (.int d5), .val (.int d6), .val (.int d7), .val (.int d8), .val (.int d9), .val (.int d10), .val (.int d11), .val (.int e1), .val (.int e2), .unset, .unset, .unset, .unset, .unset] [(.int (0 : Int32)), (.ref ca), (.ref ca)])) (fun T_ L_ X_ t_ q_ => XS.iconst X_.here C.hx rfl (C.d at_111) q_) ?_
  refine Go.plain (g' := (mkF m 114 #[.val (.long p0), .second, .val (.long p1), .second, .val (.int p2), .val (.int d0), .val (.int d1), .val (.int d2), .val (.int d3), .val (.int d4), .val (.int d5), .val (.int d6), .val (.int d7), .val (.int d8), .val (.int d9), .val (.int d10), .val (.int d11), .val (.int e1), .val (.int e2), .unset, .unset, .unset, .unset, .unset] [(.int (48 : Int32)), (.int (0 : Int32)), (.ref ca), (.ref ca)])) (fun T_ L_ X_ t_ q_ => XS.bipush X_.here C.hx rfl (C.d at_112) q_) ?_
  refine Go.plain (g' := (mkF m 116 #[.val (.long p0), .second, .val (.long p1), .second, .val (.int p2), .val (.int d0), .val (.int d1), .val (.int d2), .val (.int d3), .val (.int d4), .val (.int d5), .val (.int d6), .val (.int d7), .val (.int d8), .val (.int d9), .val (.int d10), .val (.int d11), .val (.int e1), .val (.int e2), .unset, .unset, .unset, .unset, .unset] [(.int d0), (.int (48 : Int32)), (.int (0 : Int32)), (.ref ca), (.ref ca)])) (fun T_ L_ X_ t_ q_ => XS.iload X_.here C.hx rfl (C.d at_114) rfl q_) ?_
  refine Go.plain (g' := (mkF m 117 #[.val (.long p0), .second, .val (.long p1), .second, .val (.int p2), .val (.int d0), .val (.int d1), .val (.int d2), .val (.int d3), .val (.int d4), .val (.int d5), .val (.int d6), .val (.int d7), .val (.int d8), .val (.int d9), .val (.int d10), .val (.int d11), .val (.int e1), .val (.int e2), .unset, .unset, .unset, .unset, .unset] [(.int ((48 : Int32) + d0)), (.int (0 : Int32)), (.ref ca), (.ref ca)])) (fun T_ L_ X_ t_ q_ => XS.iadd X_.here C.hx rfl (C.d at_116) rfl q_) ?_
  refine Go.plain (g' := (mkF m 118 #[.val (.long p0), .second, .val (.long p1), .second, .val (.int p2), .val (.int d0), .val (.int d1), .val (.int d2), .val (.int d3), .val (.int d4), .val (.int d5), .val (.int d6), .val (.int d7), .val (.int d8), .val (.int d9), .val (.int d10), .val (.int d11), .val (.int e1), .val (.int e2), .unset, .unset, .unset, .unset, .unset] [(.int (((48 : Int32) + d0).toUInt32.toUInt16.toUInt32.toInt32)), (.int (0 : Int32)), (.ref ca), (.ref ca)])) (fun T_ L_ X_ t_ q_ => XS.i2c X_.here C.hx rfl (C.d at_117) rfl q_) ?_
  refine Go.stC C V_ca ⟨by decide, by decide⟩ (i := 0) rfl (Nat.le_of_ble_eq_true rfl) z_ca at_118 (pc' := 119) rfl ?_
  intro h2 W_h2 V_ca
  rw [nar_dig r0] at V_ca
  have V_ca : Arv Z h2 ca k_ca .char (13 : Int32) [.int ((48 : Int32) + d0), .int 0, .int 0, .int 0, .int 0, .int 0, .int 0, .int 0, .int 0, .int 0, .int 0, .int 0, .int 0] (.int 0) := V_ca
  refine Go.plain (g' := (mkF m 120 #[.val (.long p0), .second, .val (.long p1), .second, .val (.int p2), .val (.int d0), .val (.int d1), .val (.int d2), .val (.int d3), .val (.int d4), .val (.int d5), .val (.int d6), .val (.int d7), .val (.int d8), .val (.int d9), .val (.int d10), .val (.int d11), .val (.int e1), .val (.int e2), .unset, .unset, .unset, .unset, .unset] [(.ref ca), (.ref ca)])) (fun T_ L_ X_ t_ q_ => XS.dup X_.here C.hx rfl (C.d at_119) rfl rfl q_) ?_
  refine Go.plain (g' := (mkF m 121 #[.val (.long p0), .second, .val (.long p1), .second, .val (.int p2), .val (.int d0), .val (.int d1), .val (.int d2), .val (.int d3), .val (.int d4), .val (.int d5), .val (.int d6), .val (.int d7), .val (.int d8), .val (.int d9), .val (.int d10), .val (.int d11), .val (.int e1), .val (.int e2), .unset, .unset, .unset, .unset, .unset] [(.int (1 : Int32)), (.ref ca), (.ref ca)])) (fun T_ L_ X_ t_ q_ => XS.iconst X_.here C.hx rfl (C.d at_120) q_) ?_
  refine Go.plain (g' := (mkF m 123 #[.val (.long p0), .second, .val (.long p1), .second, .val (.int p2), .val (.int d0), .val (.int d1), .val (.int d2), .val (.int d3), .val (.int d4), .val (.int d5), .val (.int d6), .val (.int d7), .val (.int d8), .val (.int d9), .val (.int d10), .val (.int d11), .val (.int e1), .val (.int e2), .unset, .unset, .unset, .unset, .unset] [(.int (48 : Int32)), (.int (1 : Int32)), (.ref ca), (.ref ca)])) (fun T_ L_ X_ t_ q_ => XS.bipush X_.here C.hx rfl (C.d at_121) q_) ?_
  refine Go.plain (g' := (mkF m 125 #[.val (.long p0), .second, .val (.long p1), .second, .val (.int p2), .val (.int d0), .val (.int d1), .val (.int d2), .val (.int d3), .val (.int d4), .val (.int d5), .val (.int d6), .val (.int d7), .val (.int d8), .val (.int d9), .val (.int d10), .val (.int d11), .val (.int e1), .val (.int e2), .unset, .unset, .unset, .unset, .unset] [(.int d1), (.int (48 : Int32)), (.int (1 : Int32)), (.ref ca), (.ref ca)])) (fun T_ L_ X_ t_ q_ => XS.iload X_.here C.hx rfl (C.d at_123) rfl q_) ?_
  refine Go.plain (g' := (mkF m 126 #[.val (.long p0), .second, .val (.long p1), .second, .val (.int p2), .val (.int d0), .val (.int d1), .val (.int d2), .val (.int d3), .val (.int d4), .val (.int d5), .val (.int d6), .val (.int d7), .val (.int d8), .val (.int d9), .val (.int d10), .val (.int d11), .val (.int e1), .val (.int e2), .unset, .unset, .unset, .unset, .unset] [(.int ((48 : Int32) + d1)), (.int (1 : Int32)), (.ref ca), (.ref ca)])) (fun T_ L_ X_ t_ q_ => XS.iadd X_.here C.hx rfl (C.d at_125) rfl q_) ?_
  refine Go.plain (g' := (mkF m 127 #[.val (.long p0), .second, .val (.long p1), .second, .val (.int p2), .val (.int d0), .val (.int d1), .val (.int d2), .val (.int d3), .val (.int d4), .val (.int d5), .val (.int d6), .val (.int d7), .val (.int d8), .val (.int d9), .val (.int d10), .val (.int d11), .val (.int e1), .val (.int e2), .unset, .unset, .unset, .unset, .unset] [(.int (((48 : Int32) + d1).toUInt32.toUInt16.toUInt32.toInt32)), (.int (1 : Int32)), (.ref ca), (.ref ca)])) (fun T_ L_ X_ t_ q_ => XS.i2c X_.here C.hx rfl (C.d at_126) rfl q_) ?_
  refine Go.stC C V_ca ⟨by decide, by decide⟩ (i := 1) rfl (Nat.le_of_ble_eq_true rfl) z_ca at_127 (pc' := 128) rfl ?_
  intro h3 W_h3 V_ca
  rw [nar_dig r1] at V_ca
  have V_ca : Arv Z h3 ca k_ca .char (13 : Int32) [.int ((48 : Int32) + d0), .int ((48 : Int32) + d1), .int 0, .int 0, .int 0, .int 0, .int 0, .int 0, .int 0, .int 0, .int 0, .int 0, .int 0] (.int 0) := V_ca
  refine Go.plain (g' := (mkF m 129 #[.val (.long p0), .second, .val (.long p1), .second, .val (.int p2), .val (.int d0), .val (.int d1), .val (.int d2), .val (.int d3), .val (.int d4), .val (.int d5), .val (.int d6), .val (.int d7), .val (.int d8), .val (.int d9), .val (.int d10), .val (.int d11), .val (.int e1), .val (.int e2), .unset, .unset, .unset, .unset, .unset] [(.ref ca), (.ref ca)])) (fun T_ L_ X_ t_ q_ => XS.dup X_.here C.hx rfl (C.d at_128) rfl rfl q_) ?_
  refine Go.plain (g' := (mkF m 130 #[.val (.long p0), .second, .val (.long p1), .second, .val (.int p2), .val (.int d0), .val (.int d1), .val (.int d2), .val (.int d3), .val (.int d4), .val (.int d5), .val (.int d6), .val (.int d7), .val (.int d8), .val (.int d9), .val (.int d10), .val (.int d11), .val (.int e1), .val (.int e2), .unset, .unset, .unset, .unset, .unset] [(.int (2 : Int32)), (.ref ca), (.ref ca)])) (fun T_ L_ X_ t_ q_ => XS.iconst X_.here C.hx rfl (C.d at_129) q_) ?_
  refine Go.plain (g' := (mkF m 132 #[.val (.long p0), .second, .val (.long p1), .second, .val (.int p2), .val (.int d0), .val (.int d1), .val (.int d2), .val (.int d3), .val (.int d4), .val (.int d5), .val (.int d6), .val (.int d7), .val (.int d8), .val (.int d9), .val (.int d10), .val (.int d11), .val (.int e1), .val (.int e2), .unset, .unset, .unset, .unset, .unset] [(.int (48 : Int32)), (.int (2 : Int32)), (.ref ca), (.ref ca)])) (fun T_ L_ X_ t_ q_ => XS.bipush X_.here C.hx rfl (C.d at_130) q_) ?_
  refine Go.plain (g' := (mkF m 134 #[.val (.long p0), .second, .val (.long p1), .second, .val (.int p2), .val (.int d0), .val (.int d1), .val (.int d2), .val (.int d3), .val (.int d4), .val (.int d5), .val (.int d6), .val (.int d7), .val (.int d8), .val (.int d9), .val (.int d10), .val (.int d11), .val (.int e1), .val (.int e2), .unset, .unset, .unset, .unset, .unset] [(.int d2), (.int (48 : Int32)), (.int (2 : Int32)), (.ref ca), (.ref ca)])) (fun T_ L_ X_ t_ q_ => XS.iload X_.here C.hx rfl (C.d at_132) rfl q_) ?_
  refine Go.plain (g' := (mkF m 135 #[.val (.long p0), .second, .val (.long p1), .second, .val (.int p2), .val (.int d0), .val (.int d1), .val (.int d2), .val (.int d3), .val (.int d4), .val (.int d5), .val (.int d6), .val (.int d7), .val (.int d8), .val (.int d9), .val (.int d10), .val (.int d11), .val (.int e1), .val (.int e2), .unset, .unset, .unset, .unset, .unset] [(.int ((48 : Int32) + d2)), (.int (2 : Int32)), (.ref ca), (.ref ca)])) (fun T_ L_ X_ t_ q_ => XS.iadd X_.here C.hx rfl (C.d at_134) rfl q_) ?_
  refine Go.plain (g' := (mkF m 136 #[.val (.long p0), .second, .val (.long p1), .second, .val (.int p2), .val (.int d0), .val (.int d1), .val (.int d2), .val (.int d3), .val (.int d4), .val (.int d5), .val (.int d6), .val (.int d7), .val (.int d8), .val (.int d9), .val (.int d10), .val (.int d11), .val (.int e1), .val (.int e2), .unset, .unset, .unset, .unset, .unset] [(.int (((48 : Int32) + d2).toUInt32.toUInt16.toUInt32.toInt32)), (.int (2 : Int32)), (.ref ca), (.ref ca)])) (fun T_ L_ X_ t_ q_ => XS.i2c X_.here C.hx rfl (C.d at_135) rfl q_) ?_
  refine Go.stC C V_ca ⟨by decide, by decide⟩ (i := 2) rfl (Nat.le_of_ble_eq_true rfl) z_ca at_136 (pc' := 137) rfl ?_
  intro h4 W_h4 V_ca
  rw [nar_dig r2] at V_ca
  have V_ca : Arv Z h4 ca k_ca .char (13 : Int32) [.int ((48 : Int32) + d0), .int ((48 : Int32) + d1), .int ((48 : Int32) + d2), .int 0, .int 0, .int 0, .int 0, .int 0, .int 0, .int 0, .int 0, .int 0, .int 0] (.int 0) := V_ca
  refine Go.plain (g' := (mkF m 138 #[.val (.long p0), .second, .val (.long p1), .second, .val (.int p2), .val (.int d0), .val (.int d1), .val (.int d2), .val (.int d3), .val (.int d4), .val (.int d5), .val (.int d6), .val (.int d7), .val (.int d8), .val (.int d9), .val (.int d10), .val (.int d11), .val (.int e1), .val (.int e2), .unset, .unset, .unset, .unset, .unset] [(.ref ca), (.ref ca)])) (fun T_ L_ X_ t_ q_ => XS.dup X_.here C.hx rfl (C.d at_137) rfl rfl q_) ?_
  refine Go.plain (g' := (mkF m 139 #[.val (.long p0), .second, .val (.long p1), .second, .val (.int p2), .val (.int d0), .val (.int d1), .val (.int d2), .val (.int d3), .val (.int d4), .val (.int d5), .val (.int d6), .val (.int d7), .val (.int d8), .val (.int d9), .val (.int d10), .val (.int d11), .val (.int e1), .val (.int e2), .unset, .unset, .unset, .unset, .unset] [(.int (3 : Int32)), (.ref ca), (.ref ca)])) (fun T_ L_ X_ t_ q_ => XS.iconst X_.here C.hx rfl (C.d at_138) q_) ?_
  refine Go.plain (g' := (mkF m 141 #[.val (.long p0), .second, .val (.long p1), .second, .val (.int p2), .val (.int d0), .val (.int d1), .val (.int d2), .val (.int d3), .val (.int d4), .val (.int d5), .val (.int d6), .val (.int d7), .val (.int d8), .val (.int d9), .val (.int d10), .val (.int d11), .val (.int e1), .val (.int e2), .unset, .unset, .unset, .unset, .unset] [(.int (48 : Int32)), (.int (3 : Int32)), (.ref ca), (.ref ca)])) (fun T_ L_ X_ t_ q_ => XS.bipush X_.here C.hx rfl (C.d at_139) q_) ?_
  refine Go.plain (g' := (mkF m 143 #[.val (.long p0), .second, .val (.long p1), .second, .val (.int p2), .val (.int d0), .val (.int d1), .val (.int d2), .val (.int d3), .val (.int d4), .val (.int d5), .val (.int d6), .val (.int d7), .val (.int d8), .val (.int d9), .val (.int d10), .val (.int d11), .val (.int e1), .val (.int e2), .unset, .unset, .unset, .unset, .unset] [(.int d3), (.int (48 : Int32)), (.int (3 : Int32)), (.ref ca), (.ref ca)])) (fun T_ L_ X_ t_ q_ => XS.iload X_.here C.hx rfl (C.d at_141) rfl q_) ?_
  refine Go.plain (g' := (mkF m 144 #[.val (.long p0), .second, .val (.long p1), .second, .val (.int p2), .val (.int d0), .val (.int d1), .val (.int d2), .val (.int d3), .val (.int d4), .val (.int d5), .val (.int d6), .val (.int d7), .val (.int d8), .val (.int d9), .val (.int d10), .val (.int d11), .val (.int e1), .val (.int e2), .unset, .unset, .unset, .unset, .unset] [(.int ((48 : Int32) + d3)), (.int (3 : Int32)), (.ref ca), (.ref ca)])) (fun T_ L_ X_ t_ q_ => XS.iadd X_.here C.hx rfl (C.d at_143) rfl q_) ?_
  refine Go.plain (g' := (mkF m 145 #[.val (.long p0), .second, .val (.long p1), .second, .val (.int p2), .val (.int d0), .val (.int d1), .val (.int d2), .val (.int d3), .val (.int d4), .val (.int d5), .val (.int d6), .val (.int d7), .val (.int d8), .val (.int d9), .val (.int d10), .val (.int d11), .val (.int e1), .val (.int e2), .unset, .unset, .unset, .unset, .unset] [(.int (((48 : Int32) + d3).toUInt32.toUInt16.toUInt32.toInt32)), (.int (3 : Int32)), (.ref ca), (.ref ca)])) (fun T_ L_ X_ t_ q_ => XS.i2c X_.here C.hx rfl (C.d at_144) rfl q_) ?_
  refine Go.stC C V_ca ⟨by decide, by decide⟩ (i := 3) rfl (Nat.le_of_ble_eq_true rfl) z_ca at_145 (pc' := 146) rfl ?_
  intro h5 W_h5 V_ca
  rw [nar_dig r3] at V_ca
  have V_ca : Arv Z h5 ca k_ca .char (13 : Int32) [.int ((48 : Int32) + d0), .int ((48 : Int32) + d1), .int ((48 : Int32) + d2), .int ((48 : Int32) + d3), .int 0, .int 0, .int 0, .int 0, .int 0, .int 0, .int 0, .int 0, .int 0] (.int 0) := V_ca
  refine Go.plain (g' := (mkF m 147 #[.val (.long p0), .second, .val (.long p1), .second, .val (.int p2), .val (.int d0), .val (.int d1), .val (.int d2), .val (.int d3), .val (.int d4), .val (.int d5), .val (.int d6), .val (.int d7), .val (.int d8), .val (.int d9), .val (.int d10), .val (.int d11), .val (.int e1), .val (.int e2), .unset, .unset, .unset, .unset, .unset] [(.ref ca), (.ref ca)])) (fun T_ L_ X_ t_ q_ => XS.dup X_.here C.hx rfl (C.d at_146) rfl rfl q_) ?_
  refine Go.plain (g' := (mkF m 148 #[.val (.long p0), .second, .val (.long p1), .second, .val (.int p2), .val (.int d0), .val (.int d1), .val (.int d2), .val (.int d3), .val (.int d4), .val (.int d5), .val (.int d6), .val (.int d7), .val (.int d8), .val (.int d9), .val (.int d10), .val (.int d11), .val (.int e1), .val (.int e2), .unset, .unset, .unset, .unset, .unset] [(.int (4 : Int32)), (.ref ca), (.ref ca)])) (fun T_ L_ X_ t_ q_ => XS.iconst X_.here C.hx rfl (C.d at_147) q_) ?_
  refine Go.plain (g' := (mkF m 150 #[.val (.long p0), .second, .val (.long p1), .second, .val (.int p2), .val (.int d0), .val (.int d1), .val (.int d2), .val (.int d3), .val (.int d4), .val (.int d5), .val (.int d6), .val (.int d7), .val (.int d8), .val (.int d9), .val (.int d10), .val (.int d11), .val (.int e1), .val (.int e2), .unset, .unset, .unset, .unset, .unset] [(.int (48 : Int32)), (.int (4 : Int32)), (.ref ca), (.ref ca)])) (fun T_ L_ X_ t_ q_ => XS.bipush X_.here C.hx rfl (C.d at_148) q_) ?_
  refine Go.plain (g' := (mkF m 152 #[.val (.long p0), .second, .val (.long p1), .second, .val (.int p2), .val (.int d0), .val (.int d1), .val (.int d2), .val (.int d3), .val (.int d4), .val (.int d5), .val (.int d6), .val (.int d7), .val (.int d8), .val (.int d9), .val (.int d10), .val (.int d11), .val (.int e1), .val (.int e2), .unset, .unset, .unset, .unset, .unset] [(.int d4), (.int (48 : Int32)), (.int (4 : Int32)), (.ref ca), (.ref ca)])) (fun T_ L_ X_ t_ q_ => XS.iload X_.here C.hx rfl (C.d at_150) rfl q_) ?_
  refine Go.plain (g' := (mkF m 153 #[.val (.long p0), .second, .val (.long p1), .second, .val (.int p2), .val (.int d0), .val (.int d1), .val (.int d2), .val (.int d3), .val (.int d4), .val (.int d5), .val (.int d6), .val (.int d7), .val (.int d8), .val (.int d9), .val (.int d10), .val (.int d11), .val (.int e1), .val (.int e2), .unset, .unset, .unset, .unset, .unset] [(.int ((48 : Int32) + d4)), (.int (4 : Int32)), (.ref ca), (.ref ca)])) (fun T_ L_ X_ t_ q_ => XS.iadd X_.here C.hx rfl (C.d at_152) rfl q_) ?_
  refine Go.plain (g' := (mkF m 154 #[.val (.long p0), .second, .val (.long p1), .second, .val (.int p2), .val (.int d0), .val (.int d1), .val (.int d2), .val (.int d3), .val (.int d4), .val (.int d5), .val (.int d6), .val (.int d7), .val (.int d8), .val (.int d9), .val (.int d10), .val (.int d11), .val (.int e1), .val (.int e2), .unset, .unset, .unset, .unset, .unset] [(.int (((48 : Int32) + d4).toUInt32.toUInt16.toUInt32.toInt32)), (.int (4 : Int32)), (.ref ca), (.ref ca)])) (fun T_ L_ X_ t_ q_ => XS.i2c X_.here C.hx rfl (C.d at_153) rfl q_) ?_
  refine Go.stC C V_ca ⟨by decide, by decide⟩ (i := 4) rfl (Nat.le_of_ble_eq_true rfl) z_ca at_154 (pc' := 155) rfl ?_
  intro h6 W_h6 V_ca
  rw [nar_dig r4] at V_ca
  have V_ca : Arv Z h6 ca k_ca .char (13 : Int32) [.int ((48 : Int32) + d0), .int ((48 : Int32) + d1), .int ((48 : Int32) + d2), .int ((48 : Int32) + d3), .int ((48 : Int32) + d4), .int 0, .int 0, .int 0, .int 0, .int 0, .int 0, .int 0, .int 0] (.int 0) := V_ca
  refine Go.plain (g' := (mkF m 156 #[.val (.long p0), .second, .val (.long p1), .second, .val (.int p2), .val (.int d0), .val (.int d1), .val (.int d2), .val (.int d3), .val (.int d4), .val (.int d5), .val (.int d6), .val (.int d7), .val (.int d8), .val (.int d9), .val (.int d10), .val (.int d11), .val (.int e1), .val (.int e2), .unset, .unset, .unset, .unset, .unset] [(.ref ca), (.ref ca)])) (fun T_ L_ X_ t_ q_ => XS.dup X_.here C.hx rfl (C.d at_155) rfl rfl q_) ?_
  refine Go.plain (g' := (mkF m 157 #[.val (.long p0), .second, .val (.long p1), .second, .val (.int p2), .val (.int d0), .val (.int d1), .val (.int d2), .val (.int d3), .val (.int d4), .val (.int d5), .val (.int d6), .val (.int d7), .val (.int d8), .val (.int d9), .val (.int d10), .val (.int d11), .val (.int e1), .val (.int e2), .unset, .unset, .unset, .unset, .unset] [(.int (5 : Int32)), (.ref ca), (.ref ca)])) (fun T_ L_ X_ t_ q_ => XS.iconst X_.here C.hx rfl (C.d at_156) q_) ?_
  refine Go.plain (g' := (mkF m 159 #[.val (.long p0), .second, .val (.long p1), .second, .val (.int p2), .val (.int d0), .val (.int d1), .val (.int d2), .val (.int d3), .val (.int d4), .val (.int d5), .val (.int d6), .val (.int d7), .val (.int d8), .val (.int d9), .val (.int d10), .val (.int d11), .val (.int e1), .val (.int e2), .unset, .unset, .unset, .unset, .unset] [(.int (48 : Int32)), (.int (5 : Int32)), (.ref ca), (.ref ca)])) (fun T_ L_ X_ t_ q_ => XS.bipush X_.here C.hx rfl (C.d at_157) q_) ?_
  refine Go.plain (g' := (mkF m 161 #[.val (.long p0), .second, .val (.long p1), .second, .val (.int p2), .val (.int d0), .val (.int d1), .val (.int d2), .val (.int d3), .val (.int d4), .val (.int d5), .val (.int d6), .val (.int d7), .val (.int d8), .val (.int d9), .val (.int d10), .val (.int d11), .val (.int e1), .val (.int e2), .unset, .unset, .unset, .unset, .unset] [(.int d5), (.int (48 : Int32)), (.int (5 : Int32)), (.ref ca), (.ref ca)])) (fun T_ L_ X_ t_ q_ => XS.iload X_.here C.hx rfl (C.d at_159) rfl q_) ?_
  refine Go.plain (g' := (mkF m 162 #[.val (.long p0), .second, .val (.long p1), .second, .val (.int p2), .val (.int d0), .val (.int d1), .val (.int d2), .val (.int d3), .val (.int d4), .val (.int d5), .val (.int d6), .val (.int d7), .val (.int d8), .val (.int d9), .val (.int d10), .val (.int d11), .val (.int e1), .val (.int e2), .unset, .unset, .unset, .unset, .unset] [(.int ((48 : Int32) + d5)), (.int (5 : Int32)), (.ref ca), (.ref ca)])) (fun T_ L_ X_ t_ q_ => XS.iadd X_.here C.hx rfl (C.d at_161) rfl q_) ?_
  refine Go.plain (g' := (mkF m 163 #[.val (.long p0), .second, .val (.long p1), .second, .val (.int p2), .val (.int d0), .val (.int d1), .val (.int d2), .val (.int d3), .val (.int d4), .val (.int d5), .val (.int d6), .val (.int d7), .val (.int d8), .val (.int d9), .val (.int d10), .val (.int d11), .val (.int e1), .val (.int e2), .unset, .unset, .unset, .unset, .unset] [(.int (((48 : Int32) + d5).toUInt32.toUInt16.toUInt32.toInt32)), (.int (5 : Int32)), (.ref ca), (.ref ca)])) (fun T_ L_ X_ t_ q_ => XS.i2c X_.here C.hx rfl (C.d at_162) rfl q_) ?_
  refine Go.stC C V_ca ⟨by decide, by decide⟩ (i := 5) rfl (Nat.le_of_ble_eq_true rfl) z_ca at_163 (pc' := 164) rfl ?_
  intro h7 W_h7 V_ca
  rw [nar_dig r5] at V_ca
  have V_ca : Arv Z h7 ca k_ca .char (13 : Int32) [.int ((48 : Int32) + d0), .int ((48 : Int32) + d1), .int ((48 : Int32) + d2), .int ((48 : Int32) + d3), .int ((48 : Int32) + d4), .int ((48 : Int32) + d5), .int 0, .int 0, .int 0, .int 0, .int 0, .int 0, .int 0] (.int 0) := V_ca
  refine Go.plain (g' := (mkF m 165 #[.val (.long p0), .second, .val (.long p1), .second, .val (.int p2), .val (.int d0), .val (.int d1), .val (.int d2), .val (.int d3), .val (.int d4), .val (.int d5), .val (.int d6), .val (.int d7), .val (.int d8), .val (.int d9), .val (.int d10), .val (.int d11), .val (.int e1), .val (.int e2), .unset, .unset, .unset, .unset, .unset] [(.ref ca), (.ref ca)])) (fun T_ L_ X_ t_ q_ => XS.dup X_.here C.hx rfl (C.d at_164) rfl rfl q_) ?_
  refine Go.plain (g' := (mkF m 167 #[.val (.long p0), .second, .val (.long p1), .second, .val (.int p2), .val (.int d0), .val (.int d1), .val (.int d2), .val (.int d3), .val (.int d4), .val (.int d5), .val (.int d6), .val (.int d7), .val (.int d8), .val (.int d9), .val (.int d10), .val (.int d11), .val (.int e1), .val (.int e2), .unset, .unset, .unset, .unset, .unset] [(.int (6 : Int32)), (.ref ca), (.ref ca)])) (fun T_ L_ X_ t_ q_ => XS.bipush X_.here C.hx rfl (C.d at_165) q_) ?_
  refine Go.plain (g' := (mkF m 169 #[.val (.long p0), .second, .val (.long p1), .second, .val (.int p2), .val (.int d0), .val (.int d1), .val (.int d2), .val (.int d3), .val (.int d4), .val (.int d5), .val (.int d6), .val (.int d7), .val (.int d8), .val (.int d9), .val (.int d10), .val (.int d11), .val (.int e1), .val (.int e2), .unset, .unset, .unset, .unset, .unset] [(.int (48 : Int32)), (.int (6 : Int32)), (.ref ca), (.ref ca)])) (fun T_ L_ X_ t_ q_ => XS.bipush X_.here C.hx rfl (C.d at_167) q_) ?_
  refine Go.plain (g' := (mkF m 171 #[.val (.long p0), .second, .val (.long p1), .second, .val (.int p2), .val (.int d0), .val (.int d1), .val (.int d2), .val (.int d3), .val (.int d4), .val (.int d5), .val (.int d6), .val (.int d7), .val (.int d8), .val (.int d9), .val (.int d10), .val (.int d11), .val (.int e1), .val (.int e2), .unset, .unset, .unset, .unset, .unset] [(.int d6), (.int (48 : Int32)), (.int (6 : Int32)), (.ref ca), (.ref ca)])) (fun T_ L_ X_ t_ q_ => XS.iload X_.here C.hx rfl (C.d at_169) rfl q_) ?_
  refine Go.plain (g' := (mkF m 172 #[.val (.long p0), .second, .val (.long p1), .second, .val (.int p2), .val (.int d0), .val (.int d1), .val (.int d2), .val (.int d3), .val (.int d4), .val (.int d5), .val (.int d6), .val (.int d7), .val (.int d8), .val (.int d9), .val (.int d10), .val (.int d11), .val (.int e1), .val (.int e2), .unset, .unset, .unset, .unset, .unset] [(.int ((48 : Int32) + d6)), (.int (6 : Int32)), (.ref ca), (.ref ca)])) (fun T_ L_ X_ t_ q_ => XS.iadd X_.here C.hx rfl (C.d at_171) rfl q_) ?_
  refine Go.plain (g' := (mkF m 173 #[.val (.long p0), .second, .val (.long p1), .second, .val (.int p2), .val (.int d0), .val (.int d1), .val (.int d2), .val (.int d3), .val (.int d4), .val (.int d5), .val (.int d6), .val (.int d7), .val (.int d8), .val (.int d9), .val (.int d10), .val (.int d11), .val (.int e1), .val (.int e2), .unset, .unset, .unset, .unset, .unset] [(.int (((48 : Int32) + d6).toUInt32.toUInt16.toUInt32.toInt32)), (.int (6 : Int32)), (.ref ca), (.ref ca)])) (fun T_ L_ X_ t_ q_ => XS.i2c X_.here C.hx rfl (C.d at_172) rfl q_) ?_
  refine Go.stC C V_ca ⟨by decide, by decide⟩ (i := 6) rfl (Nat.le_of_ble_eq_true rfl) z_ca at_173 (pc' := 174) rfl ?_
  intro h8 W_h8 V_ca
  rw [nar_dig r6] at V_ca
  have V_ca : Arv Z h8 ca k_ca .char (13 : Int32) [.int ((48 : Int32) + d0), .int ((48 : Int32) + d1), .int ((48 : Int32) + d2), .int ((48 : Int32) + d3), .int ((48 : Int32) + d4), .int ((48 : Int32) + d5), .int ((48 : Int32) + d6), .int 0, .int 0, .int 0, .int 0, .int 0, .int 0] (.int 0) := V_ca
  refine Go.plain (g' := (mkF m 175 #[.val (.long p0), .second, .val (.long p1), .second, .val (.int p2), .val (.int d0), .val (.int d1), .val (.int d2), .val (.int d3), .val (.int d4), .val (.int d5), .val (.int d6), .val (.int d7), .val (.int d8), .val (.int d9), .val (.int d10), .val (.int d11), .val (.int e1), .val (.int e2), .unset, .unset, .unset, .unset, .unset] [(.ref ca), (.ref ca)])) (fun T_ L_ X_ t_ q_ => XS.dup X_.here C.hx rfl (C.d at_174) rfl rfl q_) ?_
  refine Go.plain (g' := (mkF m 177 #[.val (.long p0), .second, .val (.long p1), .second, .val (.int p2), .val (.int d0), .val (.int d1), .val (.int d2), .val (.int d3), .val (.int d4), .val (.int d5), .val (.int d6), .val (.int d7), .val (.int d8), .val (.int d9), .val (.int d10), .val (.int d11), .val (.int e1), .val (.int e2), .unset, .unset, .unset, .unset, .unset] [(.int (7 : Int32)), (.ref ca), (.ref ca)])) (fun T_ L_ X_ t_ q_ => XS.bipush X_.here C.hx rfl (C.d at_175) q_) ?_
  refine Go.plain (g' := (mkF m 179 #[.val (.long p0), .second, .val (.long p1), .second, .val (.int p2), .val (.int d0), .val (.int d1), .val (.int d2), .val (.int d3), .val (.int d4), .val (.int d5), .val (.int d6), .val (.int d7), .val (.int d8), .val (.int d9), .val (.int d10), .val (.int d11), .val (.int e1), .val (.int e2), .unset, .unset, .unset, .unset, .unset] [(.int (48 : Int32)), (.int (7 : Int32)), (.ref ca), (.ref ca)])) (fun T_ L_ X_ t_ q_ => XS.bipush X_.here C.hx rfl (C.d at_177) q_) ?_
  refine Go.plain (g' := (mkF m 181 #[.val (.long p0), .second, .val (.long p1), .second, .val (.int p2), .val (.int d0), .val (.int d1), .val (.int d2), .val (.int d3), .val (.int d4), .val (.int d5), .val (.int d6), .val (.int d7), .val (.int d8), .val (.int d9), .val (.int d10), .val (.int d11), .val (.int e1), .val (.int e2), .unset, .unset, .unset, .unset, .unset] [(.int d7), (.int (48 : Int32)), (.int (7 : Int32)), (.ref ca), (.ref ca)])) (fun T_ L_ X_ t_ q_ => XS.iload X_.here C.hx rfl (C.d at_179) rfl q_) ?_
  refine Go.plain (g' := (mkF m 182 #[.val (.long p0), .second, .val (.long p1), .second, .val (.int p2), .val (.int d0), .val (.int d1), .val (.int d2), .val (.int d3), .val (.int d4), .val (.int d5), .val (.int d6), .val (.int d7), .val (.int d8), .val (.int d9), .val (.int d10), .val (.int d11), .val (.int e1), .val (.int e2), .unset, .unset, .unset, .unset, .unset] [(.int ((48 : Int32) + d7)), (.int (7 : Int32)), (.ref ca), (.ref ca)])) (fun T_ L_ X_ t_ q_ => XS.iadd X_.here C.hx rfl (C.d at_181) rfl q_) ?_
  refine Go.plain (g' := (mkF m 183 #[.val (.long p0), .second, .val (.long p1), .second, .val (.int p2), .val (.int d0), .val (.int d1), .val (.int d2), .val (.int d3), .val (.int d4), .val (.int d5), .val (.int d6), .val (.int d7), .val (.int d8), .val (.int d9), .val (.int d10), .val (.int d11), .val (.int e1), .val (.int e2), .unset, .unset, .unset, .unset, .unset] [(.int (((48 : Int32) + d7).toUInt32.toUInt16.toUInt32.toInt32)), (.int (7 : Int32)), (.ref ca), (.ref ca)])) (fun T_ L_ X_ t_ q_ => XS.i2c X_.here C.hx rfl (C.d at_182) rfl q_) ?_
  refine Go.stC C V_ca ⟨by decide, by decide⟩ (i := 7) rfl (Nat.le_of_ble_eq_true rfl) z_ca at_183 (pc' := 184) rfl ?_
  intro h9 W_h9 V_ca
  rw [nar_dig r7] at V_ca
  have V_ca : Arv Z h9 ca k_ca .char (13 : Int32) [.int ((48 : Int32) + d0), .int ((48 : Int32) + d1), .int ((48 : Int32) + d2), .int ((48 : Int32) + d3), .int ((48 : Int32) + d4), .int ((48 : Int32) + d5), .int ((48 : Int32) + d6), .int ((48 : Int32) + d7), .int 0, .int 0, .int 0, .int 0, .int 0] (.int 0) := V_ca
  refine Go.plain (g' := (mkF m 185 #[.val (.long p0), .second, .val (.long p1), .second, .val (.int p2), .val (.int d0), .val (.int d1), .val (.int d2), .val (.int d3), .val (.int d4), .val (.int d5), .val (.int d6), .val (.int d7), .val (.int d8), .val (.int d9), .val (.int d10), .val (.int d11), .val (.int e1), .val (.int e2), .unset, .unset, .unset, .unset, .unset] [(.ref ca), (.ref ca)])) (fun T_ L_ X_ t_ q_ => XS.dup X_.here C.hx rfl (C.d at_184) rfl rfl q_) ?_
  refine Go.plain (g' := (mkF m 187 #[.val (.long p0), .second, .val (.long p1), .second, .val (.int p2), .val (.int d0), .val (.int d1), .val (.int d2), .val (.int d3), .val (.int d4), .val (.int d5), .val (.int d6), .val (.int d7), .val (.int d8), .val (.int d9), .val (.int d10), .val (.int d11), .val (.int e1), .val (.int e2), .unset, .unset, .unset, .unset, .unset] [(.int (8 : Int32)), (.ref ca), (.ref ca)])) (fun T_ L_ X_ t_ q_ => XS.bipush X_.here C.hx rfl (C.d at_185) q_) ?_
  refine Go.plain (g' := (mkF m 189 #[.val (.long p0), .second, .val (.long p1), .second, .val (.int p2), .val (.int d0), .val (.int d1), .val (.int d2), .val (.int d3), .val (.int d4), .val (.int d5), .val (.int d6), .val (.int d7), .val (.int d8), .val (.int d9), .val (.int d10), .val (.int d11), .val (.int e1), .val (.int e2), .unset, .unset, .unset, .unset, .unset] [(.int (48 : Int32)), (.int (8 : Int32)), (.ref ca), (.ref ca)])) (fun T_ L_ X_ t_ q_ => XS.bipush X_.here C.hx rfl (C.d at_187) q_) ?_
  refine Go.plain (g' := (mkF m 191 #[.val (.long p0), .second, .val (.long p1), .second, .val (.int p2), .val (.int d0), .val (.int d1), .val (.int d2), .val (.int d3), .val (.int d4), .val (.int d5), .val (.int d6), .val (.int d7), .val (.int d8), .val (.int d9), .val (.int d10), .val (.int d11), .val (.int e1), .val (.int e2), .unset, .unset, .unset, .unset, .unset] [(.int d8), (.int (48 : Int32)), (.int (8 : Int32)), (.ref ca), (.ref ca)])) (fun T_ L_ X_ t_ q_ => XS.iload X_.here C.hx rfl (C.d at_189) rfl q_) ?_
  refine Go.plain (g' := (mkF m 192 #[.val (.long p0), .second, .val (.long p1), .second, .val (.int p2), .val (.int d0), .val (.int d1), .val (.int d2), .val (.int d3), .val (.int d4), .val (.int d5), .val (.int d6), .val (.int d7), .val (.int d8), .val (.int d9), .val (.int d10), .val (.int d11), .val (.int e1), .val (.int e2), .unset, .unset, .unset, .unset, .unset] [(.int ((48 : Int32) + d8)), (.int (8 : Int32)), (.ref ca), (.ref ca)])) (fun T_ L_ X_ t_ q_ => XS.iadd X_.here C.hx rfl (C.d at_191) rfl q_) ?_
  refine Go.plain (g' := (mkF m 193 #[.val (.long p0), .second, .val (.long p1), .second, .val (.int p2), .val (.int d0), .val (.int d1), .val (.int d2), .val (.int d3), .val (.int d4), .val (.int d5), .val (.int d6), .val (.int d7), .val (.int d8), .val (.int d9), .val (.int d10), .val (.int d11), .val (.int e1), .val (.int e2), .unset, .unset, .unset, .unset, .unset] [(.int (((48 : Int32) + d8).toUInt32.toUInt16.toUInt32.toInt32)), (.int (8 : Int32)), (.ref ca), (.ref ca)])) (fun T_ L_ X_ t_ q_ => XS.i2c X_.here C.hx rfl (C.d at_192) rfl q_) ?_
  refine Go.stC C V_ca ⟨by decide, by decide⟩ (i := 8) rfl (Nat.le_of_ble_eq_true rfl) z_ca at_193 (pc' := 194) rfl ?_
  intro h10 W_h10 V_ca
  rw [nar_dig r8] at V_ca
  have V_ca : Arv Z h10 ca k_ca .char (13 : Int32) [.int ((48 : Int32) + d0), .int ((48 : Int32) + d1), .int ((48 : Int32) + d2), .int ((48 : Int32) + d3), .int ((48 : Int32) + d4), .int ((48 : Int32) + d5), .int ((48 : Int32) + d6), .int ((48 : Int32) + d7), .int ((48 : Int32) + d8), .int 0, .int 0, .int 0, .int 0] (.int 0) := V_ca
  refine Go.plain (g' := (mkF m 195 #[.val (.long p0), .second, .val (.long p1), .second, .val (.int p2), .val (.int d0), .val (.int d1), .val (.int d2), .val (.int d3), .val (.int d4), .val (.int d5), .val (.int d6), .val (.int d7), .val (.int d8), .val (.int d9), .val (.int d10), .val (.int d11), .val (.int e1), .val (.int e2), .unset, .unset, .unset, .unset, .unset] [(.ref ca), (.ref ca)])) (fun T_ L_ X_ t_ q_ => XS.dup X_.here C.hx rfl (C.d at_194) rfl rfl q_) ?_
  refine Go.plain (g' := (mkF m 197 #[.val (.long p0), .second, .val (.long p1), .second, .val (.int p2), .val (.int d0), .val (.int d1), .val (.int d2), .val (.int d3), .val (.int d4), .val (.int d5), .val (.int d6), .val (.int d7), .val (.int d8), .val (.int d9), .val (.int d10), .val (.int d11), .val (.int e1), .val (.int e2), .unset, .unset, .unset, .unset, .unset] [(.int (9 : Int32)), (.ref ca), (.ref ca)])) (fun T_ L_ X_ t_ q_ => XS.bipush X_.here C.hx rfl (C.d at_195) q_) ?_
  refine Go.plain (g' := (mkF m 199 #[.val (.long p0), .second, .val (.long p1), .second, .val (.int p2), .val (.int d0), .val (.int d1), .val (.int d2), .val (.int d3), .val (.int d4), .val (.int d5), .val (.int d6), .val (.int d7), .val (.int d8), .val (.int d9), .val (.int d10), .val (.int d11), .val (.int e1), .val (.int e2), .unset, .unset, .unset, .unset, .unset] [(.int (48 : Int32)), (.int (9 : Int32)), (.ref ca), (.ref ca)])) (fun T_ L_ X_ t_ q_ => XS.bipush X_.here C.hx rfl (C.d at_197) q_) ?_
  refine Go.plain (g' := (mkF m 201 #[.val (.long p0), .second, .val (.long p1), .second, .val (.int p2), .val (.int d0), .val (.int d1), .val (.int d2), .val (.int d3), .val (.int d4), .val (.int d5), .val (.int d6), .val (.int d7), .val (.int d8), .val (.int d9), .val (.int d10), .val (.int d11), .val (.int e1), .val (.int e2), .unset, .unset, .unset, .unset, .unset] [(.int d9), (.int (48 : Int32)), (.int (9 : Int32)), (.ref ca), (.ref ca)])) (fun T_ L_ X_ t_ q_ => XS.iload X_.here C.hx rfl (C.d at_199) rfl q_) ?_
  refine Go.plain (g' := (mkF m 202 #[.val (.long p0), .second, .val (.long p1), .second, .val (.int p2), .val (.int d0), .val (.int d1), .val (.int d2), .val (.int d3), .val (.int d4), .val (.int d5), .val (.int d6), .val (.int d7), .val (.int d8), .val (.int d9), .val (.int d10), .val (.int d11), .val (.int e1), .val (.int e2), .unset, .unset, .unset, .unset, .unset] [(.int ((48 : Int32) + d9)), (.int (9 : Int32)), (.ref ca), (.ref ca)])) (fun T_ L_ X_ t_ q_ => XS.iadd X_.here C.hx rfl (C.d at_201) rfl q_) ?_
  refine Go.plain (g' := (mkF m 203 #[.val (.long p0), .second, .val (.long p1), .second, .val (.int p2), .val (.int d0), .val (.int d1), .val (.int d2), .val (.int d3), .val (.int d4), .val (.int d5), .val (.int d6), .val (.int d7), .val (.int d8), .val (.int d9), .val (.int d10), .val (.int d11), .val (.int e1), .val (.int e2), .unset, .unset, .unset, .unset, .unset] [(.int (((48 : Int32) + d9).toUInt32.toUInt16.toUInt32.toInt32)), (.int (9 : Int32)), (.ref ca), (.ref ca)])) (fun T_ L_ X_ t_ q_ => XS.i2c X_.here C.hx rfl (C.d at_202) rfl q_) ?_
  refine Go.stC C V_ca ⟨by decide, by decide⟩ (i := 9) rfl (Nat.le_of_ble_eq_true rfl) z_ca at_203 (pc' := 204) rfl ?_
  intro h11 W_h11 V_ca
  rw [nar_dig r9] at V_ca
  have V_ca : Arv Z h11 ca k_ca .char (13 : Int32) [.int ((48 : Int32) + d0), .int ((48 : Int32) + d1), .int ((48 : Int32) + d2), .int ((48 : Int32) + d3), .int ((48 : Int32) + d4), .int ((48 : Int32) + d5), .int ((48 : Int32) + d6), .int ((48 : Int32) + d7), .int ((48 : Int32) + d8), .int ((48 : Int32) + d9), .int 0, .int 0, .int 0] (.int 0) := V_ca
  refine Go.plain (g' := (mkF m 205 #[.val (.long p0), .second, .val (.long p1), .second, .val (.int p2), .val (.int d0), .val (.int d1), .val (.int d2), .val (.int d3), .val (.int d4), .val (.int d5), .val (.int d6), .val (.int d7), .val (.int d8), .val (.int d9), .val (.int d10), .val (.int d11), .val (.int e1), .val (.int e2), .unset, .unset, .unset, .unset, .unset] [(.ref ca), (.ref ca)])) (fun T_ L_ X_ t_ q_ => XS.dup X_.here C.hx rfl (C.d at_204) rfl rfl q_) ?_
  refine Go.plain (g' := (mkF m 207 #[.val (.long p0), .second, .val (.long p1), .second, .val (.int p2), .val (.int d0), .val (.int d1), .val (.int d2), .val (.int d3), .val (.int d4), .val (.int d5), .val (.int d6), .val (.int d7), .val (.int d8), .val (.int d9), .val (.int d10), .val (.int d11), .val (.int e1), .val (.int e2), .unset, .unset, .unset, .unset, .unset] [(.int (10 : Int32)), (.ref ca), (.ref ca)])) (fun T_ L_ X_ t_ q_ => XS.bipush X_.here C.hx rfl (C.d at_205) q_) ?_
  refine Go.plain (g' := (mkF m 209 #[.val (.long p0), .second, .val (.long p1), .second, .val (.int p2), .val (.int d0), .val (.int d1), .val (.int d2), .val (.int d3), .val (.int d4), .val (.int d5), .val (.int d6), .val (.int d7), .val (.int d8), .val (.int d9), .val (.int d10), .val (.int d11), .val (.int e1), .val (.int e2), .unset, .unset, .unset, .unset, .unset] [(.int (48 : Int32)), (.int (10 : Int32)), (.ref ca), (.ref ca)])) (fun T_ L_ X_ t_ q_ => XS.bipush X_.here C.hx rfl (C.d at_207) q_) ?_
  refine Go.plain (g' := (mkF m 211 #[.val (.long p0), .second, .val (.long p1), .second, .val (.int p2), .val (.int d0), .val (.int d1), .val (.int d2), .val (.int d3), .val (.int d4), .val (.int d5), .val (.int d6), .val (.int d7), .val (.int d8), .val (.int d9), .val (.int d10), .val (.int d11), .val (.int e1), .val (.int e2), .unset, .unset, .unset, .unset, .unset] [(.int d10), (.int (48 : Int32)), (.int (10 : Int32)), (.ref ca), (.ref ca)])) (fun T_ L_ X_ t_ q_ => XS.iload X_.here C.hx rfl (C.d at_209) rfl q_) ?_
  refine Go.plain (g' := (mkF m 212 #[.val (.long p0), .second, .val (.long p1), .second, .val (.int p2), .val (.int d0), .val (.int d1), .val (.int d2), .val (.int d3), .val (.int d4), .val (.int d5), .val (.int d6), .val (.int d7), .val (.int d8), .val (.int d9), .val (.int d10), .val (.int d11), .val (.int e1), .val (.int e2), .unset, .unset, .unset, .unset, .unset] [(.int ((48 : Int32) + d10)), (.int (10 : Int32)), (.ref ca), (.ref ca)])) (fun T_ L_ X_ t_ q_ => XS.iadd X_.here C.hx rfl (C.d at_211) rfl q_) ?_
  refine Go.plain (g' := (mkF m 213 #[.val (.long p0), .second, .val (.long p1), .second, .val (.int p2), .val (.int d0), .val (.int d1), .val (.int d2), .val (.int d3), .val (.int d4), .val (.int d5), .val (.int d6), .val (.int d7), .val (.int d8), .val (.int d9), .val (.int d10), .val (.int d11), .val (.int e1), .val (.int e2), .unset, .unset, .unset, .unset, .unset] [(.int (((48 : Int32) + d10).toUInt32.toUInt16.toUInt32.toInt32)), (.int (10 : Int32)), (.ref ca), (.ref ca)])) (fun T_ L_ X_ t_ q_ => XS.i2c X_.here C.hx rfl (C.d at_212) rfl q_) ?_
  refine Go.stC C V_ca ⟨by decide, by decide⟩ (i := 10) rfl (Nat.le_of_ble_eq_true rfl) z_ca at_213 (pc' := 214) rfl ?_
  intro h12 W_h12 V_ca
  rw [nar_dig r10] at V_ca
  have V_ca : Arv Z h12 ca k_ca .char (13 : Int32) [.int ((48 : Int32) + d0), .int ((48 : Int32) + d1), .int ((48 : Int32) + d2), .int ((48 : Int32) + d3), .int ((48 : Int32) + d4), .int ((48 : Int32) + d5), .int ((48 : Int32) + d6), .int ((48 : Int32) + d7), .int ((48 : Int32) + d8), .int ((48 : Int32) + d9), .int ((48 : Int32) + d10), .int 0, .int 0] (.int 0) := V_ca
  refine Go.plain (g' := (mkF m 215 #[.val (.long p0), .second, .val (.long p1), .second, .val (.int p2), .val (.int d0), .val (.int d1), .val (.int d2), .val (.int d3), .val (.int d4), .val (.int d5), .val (.int d6), .val (.int d7), .val (.int d8), .val (.int d9), .val (.int d10), .val (.int d11), .val (.int e1), .val (.int e2), .unset, .unset, .unset, .unset, .unset] [(.ref ca), (.ref ca)])) (fun T_ L_ X_ t_ q_ => XS.dup X_.here C.hx rfl (C.d at_214) rfl rfl q_) ?_
  refine Go.plain (g' := (mkF m 217 #[.val (.long p0), .second, .val (.long p1), .second, .val (.int p2), .val (.int d0), .val (.int d1), .val (.int d2), .val (.int d3), .val (.int d4), .val (.int d5), .val (.int d6), .val (.int d7), .val (.int d8), .val (.int d9), .val (.int d10), .val (.int d11), .val (.int e1), .val (.int e2), .unset, .unset, .unset, .unset, .unset] [(.int (11 : Int32)), (.ref ca), (.ref ca)])) (fun T_ L_ X_ t_ q_ => XS.bipush X_.here C.hx rfl (C.d at_215) q_) ?_
  refine Go.plain (g' := (mkF m 219 #[.val (.long p0), .second, .val (.long p1), .second, .val (.int p2), .val (.int d0), .val (.int d1), .val (.int d2), .val (.int d3), .val (.int d4), .val (.int d5), .val (.int d6), .val (.int d7), .val (.int d8), .val (.int d9), .val (.int d10), .val (.int d11), .val (.int e1), .val (.int e2), .unset, .unset, .unset, .unset, .unset] [(.int (48 : Int32)), (.int (11 : Int32)), (.ref ca), (.ref ca)])) (fun T_ L_ X_ t_ q_ => XS.bipush X_.here C.hx rfl (C.d at_217) q_) ?_
  refine Go.plain (g' := (mkF m 221 #[.val (.long p0), .second, .val (.long p1), .second, .val (.int p2), .val (.int d0), .val (.int d1), .val (.int d2), .val (.int d3), .val (.int d4), .val (.int d5), .val (.int d6), .val (.int d7), .val (.int d8), .val (.int d9), .val (.int d10), .val (.int d11), .val (.int e1), .val (.int e2), .unset, .unset, .unset, .unset, .unset] [(.int d11), (.int (48 : Int32)), (.int (11 : Int32)), (.ref ca), (.ref ca)])) (fun T_ L_ X_ t_ q_ => XS.iload X_.here C.hx rfl (C.d at_219) rfl q_) ?_
  refine Go.plain (g' := (mkF m 222 #[.val (.long p0), .second, .val (.long p1), .second, .val (.int p2), .val (.int d0), .val (.int d1), .val (.int d2), .val (.int d3), .val (.int d4), .val (.int d5), .val (.int d6), .val (.int d7), .val (.int d8), .val (.int d9), .val (.int d10), .val (.int d11), .val (.int e1), .val (.int e2), .unset, .unset, .unset, .unset, .unset] [(.int ((48 : Int32) + d11)), (.int (11 : Int32)), (.ref ca), (.ref ca)])) (fun T_ L_ X_ t_ q_ => XS.iadd X_.here C.hx rfl (C.d at_221) rfl q_) ?_
  refine Go.plain (g' := (mkF m 223 #[.val (.long p0), .second, .val (.long p1), .second, .val (.int p2), .val (.int d0), .val (.int d1), .val (.int d2), .val (.int d3), .val (.int d4), .val (.int d5), .val (.int d6), .val (.int d7), .val (.int d8), .val (.int d9), .val (.int d10), .val (.int d11), .val (.int e1), .val (.int e2), .unset, .unset, .unset, .unset, .unset] [(.int (((48 : Int32) + d11).toUInt32.toUInt16.toUInt32.toInt32)), (.int (11 : Int32)), (.ref ca), (.ref ca)])) (fun T_ L_ X_ t_ q_ => XS.i2c X_.here C.hx rfl (C.d at_222) rfl q_) ?_
  refine Go.stC C V_ca ⟨by decide, by decide⟩ (i := 11) rfl (Nat.le_of_ble_eq_true rfl) z_ca at_223 (pc' := 224) rfl ?_
  intro h13 W_h13 V_ca
  rw [nar_dig r11] at V_ca
  have V_ca : Arv Z h13 ca k_ca .char (13 : Int32) [.int ((48 : Int32) + d0), .int ((48 : Int32) + d1), .int ((48 : Int32) + d2), .int ((48 : Int32) + d3), .int ((48 : Int32) + d4), .int ((48 : Int32) + d5), .int ((48 : Int32) + d6), .int ((48 : Int32) + d7), .int ((48 : Int32) + d8), .int ((48 : Int32) + d9), .int ((48 : Int32) + d10), .int ((48 : Int32) + d11), .int 0] (.int 0) := V_ca
  refine Go.plain (g' := (mkF m 225 #[.val (.long p0), .second, .val (.long p1), .second, .val (.int p2), .val (.int d0), .val (.int d1), .val (.int d2), .val (.int d3), .val (.int d4), .val (.int d5), .val (.int d6), .val (.int d7), .val (.int d8), .val (.int d9), .val (.int d10), .val (.int d11), .val (.int e1), .val (.int e2), .unset, .unset, .unset, .unset, .unset] [(.ref ca), (.ref ca)])) (fun T_ L_ X_ t_ q_ => XS.dup X_.here C.hx rfl (C.d at_224) rfl rfl q_) ?_
  refine Go.plain (g' := (mkF m 227 #[.val (.long p0), .second, .val (.long p1), .second, .val (.int p2), .val (.int d0), .val (.int d1), .val (.int d2), .val (.int d3), .val (.int d4), .val (.int d5), .val (.int d6), .val (.int d7), .val (.int d8), .val (.int d9), .val (.int d10), .val (.int d11), .val (.int e1), .val (.int e2), .unset, .unset, .unset, .unset, .unset] [(.int (12 : Int32)), (.ref ca), (.ref ca)])) (fun T_ L_ X_ t_ q_ => XS.bipush X_.here C.hx rfl (C.d at_225) q_) ?_
  refine Go.plain (g' := (mkF m 229 #[.val (.long p0), .second, .val (.long p1), .second, .val (.int p2), .val (.int d0), .val (.int d1), .val (.int d2), .val (.int d3), .val (.int d4), .val (.int d5), .val (.int d6), .val (.int d7), .val (.int d8), .val (.int d9), .val (.int d10), .val (.int d11), .val (.int e1), .val (.int e2), .unset, .unset, .unset, .unset, .unset] [(.int (48 : Int32)), (.int (12 : Int32)), (.ref ca), (.ref ca)])) (fun T_ L_ X_ t_ q_ => XS.bipush X_.here C.hx rfl (C.d at_227) q_) ?_
  refine Go.plain (g' := (mkF m 231 #[.val (.long p0), .second, .val (.long p1), .second, .val (.int p2), .val (.int d0), .val (.int d1), .val (.int d2), .val (.int d3), .val (.int d4), .val (.int d5), .val (.int d6), .val (.int d7), .val (.int d8), .val (.int d9), .val (.int d10), .val (.int d11), .val (.int e1), .val (.int e2), .unset, .unset, .unset, .unset, .unset] [(.int e1), (.int (48 : Int32)), (.int (12 : Int32)), (.ref ca), (.ref ca)])) (fun T_ L_ X_ t_ q_ => XS.iload X_.here C.hx rfl (C.d at_229) rfl q_) ?_
  refine Go.plain (g' := (mkF m 232 #[.val (.long p0), .second, .val (.long p1), .second, .val (.int p2), .val (.int d0), .val (.int d1), .val (.int d2), .val (.int d3), .val (.int d4), .val (.int d5), .val (.int d6), .val (.int d7), .val (.int d8), .val (.int d9), .val (.int d10), .val (.int d11), .val (.int e1), .val (.int e2), .unset, .unset, .unset, .unset, .unset] [(.int ((48 : Int32) + e1)), (.int (12 : Int32)), (.ref ca), (.ref ca)])) (fun T_ L_ X_ t_ q_ => XS.iadd X_.here C.hx rfl (C.d at_231) rfl q_) ?_
  refine Go.plain (g' := (mkF m 233 #[.val (.long p0), .second, .val (.long p1), .second, .val (.int p2), .val (.int d0), .val (.int d1), .val (.int d2), .val (.int d3), .val (.int d4), .val (.int d5), .val (.int d6), .val (.int d7), .val (.int d8), .val (.int d9), .val (.int d10), .val (.int d11), .val (.int e1), .val (.int e2), .unset, .unset, .unset, .unset, .unset] [(.int (((48 : Int32) + e1).toUInt32.toUInt16.toUInt32.toInt32)), (.int (12 : Int32)), (.ref ca), (.ref ca)])) (fun T_ L_ X_ t_ q_ => XS.i2c X_.here C.hx rfl (C.d at_232) rfl q_) ?_
  refine Go.stC C V_ca ⟨by decide, by decide⟩ (i := 12) rfl (Nat.le_of_ble_eq_true rfl) z_ca at_233 (pc' := 234) rfl ?_
  intro h14 W_h14 V_ca
  rw [nar_dig re1] at V_ca
  have V_ca : Arv Z h14 ca k_ca .char (13 : Int32) [.int ((48 : Int32) + d0), .int ((48 : Int32) + d1), .int ((48 : Int32) + d2), .int ((48 : Int32) + d3), .int ((48 : Int32) + d4), .int ((48 : Int32) + d5), .int ((48 : Int32) + d6), .int ((48 : Int32) + d7), .int ((48 : Int32) + d8), .int ((48 : Int32) + d9), .int ((48 : Int32) + d10), .int ((48 : Int32) + d11), .int ((48 : Int32) + e1)] (.int 0) := V_ca
  refine Go.plain (g' := (mkF m 236 #[.val (.long p0), .second, .val (.long p1), .second, .val (.int p2), .val (.int d0), .val (.int d1), .val (.int d2), .val (.int d3), .val (.int d4), .val (.int d5), .val (.int d6), .val (.int d7), .val (.int d8), .val (.int d9), .val (.int d10), .val (.int d11), .val (.int e1), .val (.int e2), .val (.ref ca), .unset, .unset, .unset, .unset] [])) (fun T_ L_ X_ t_ q_ => XS.astore X_.here C.hx rfl (C.d at_234) rfl rfl (l' := #[.val (.long p0), .second, .val (.long p1), .second, .val (.int p2), .val (.int d0), .val (.int d1), .val (.int d2), .val (.int d3), .val (.int d4), .val (.int d5), .val (.int d6), .val (.int d7), .val (.int d8), .val (.int d9), .val (.int d10), .val (.int d11), .val (.int e1), .val (.int e2), .val (.ref ca), .unset, .unset, .unset, .unset]) rfl q_) ?_
  refine Go.plain (g' := (mkF m 238 #[.val (.long p0), .second, .val (.long p1), .second, .val (.int p2), .val (.int d0), .val (.int d1), .val (.int d2), .val (.int d3), .val (.int d4), .val (.int d5), .val (.int d6), .val (.int d7), .val (.int d8), .val (.int d9), .val (.int d10), .val (.int d11), .val (.int e1), .val (.int e2), .val (.ref ca), .unset, .unset, .unset, .unset] [(.int (13 : Int32))])) (fun T_ L_ X_ t_ q_ => XS.bipush X_.here C.hx rfl (C.d at_236) q_) ?_
  refine Go.newP C (hw _ (List.mem_of_getElem? (i := 5) rfl)) (by decide) (cap := 13) (by decide) (by decide) at_238 (pc' := 240) rfl (k' := 2) (n' := 26) rfl rfl (by decide) (by decide) ?_
  intro cb h15 k_cb q_cb z_cb E_cb V_cb
  have ne_ca_cb : ca ≠ cb := Nat.ne_of_lt (by rw [q_cb]; exact V_ca.lt)
  have V_ca := V_ca.ext E_cb
  have V_cb : Arv Z h15 cb k_cb .char (13 : Int32) [.int 0, .int 0, .int 0, .int 0, .int 0, .int 0, .int 0, .int 0, .int 0, .int 0, .int 0, .int 0, .int 0] (.int 0) := V_cb.pad (pad_rep [] (.int 0) 13)
  refine Go.plain (g' := (mkF m 241 #[.val (.long p0), .second, .val (.long p1), .second, .val (.int p2), .val (.int d0), .val (.int d1), .val (.int d2), .val (.int d3), .val (.int d4), .val (.int d5), .val (.int d6), .val (.int d7), .val (.int d8), .val (.int d9), .val (.int d10), .val (.int d11), .val (.int e1), .val (.int e2), .val (.ref ca), .unset, .unset, .unset, .unset] [(.ref cb), (.ref cb)])) (fun T_ L_ X_ t_ q_ => XS.dup X_.here C.hx rfl (C.d at_240) rfl rfl q_) ?_
  refine Go.plain (g' := (mkF m 242 #[.val (.long p0), .second, .val (.long p1), .second, .val (.int p2), .val (.int d0), .val (.int d1), .val (.int d2), .val (.int d3), .val (.int d4), .val (.int d5), .val (.int d6), .val (.int d7), .val (.int d8), .val (.int d9), .val (.int d10), .val (.int d11), .val (.int e1), .val (.int e2), .val (.ref ca), .unset, .unset, .unset, .unset] [(.int (0 : Int32)), (.ref cb), (.ref cb)])) (fun T_ L_ X_ t_ q_ => XS.iconst X_.here C.hx rfl (C.d at_241) q_) ?_
  refine Go.plain (g' := (mkF m 244 #[.val (.long p0), .second, .val (.long p1), .second, .val (.int p2), .val (.int d0), .val (.int d1), .val (.int d2), .val (.int d3), .val (.int d4), .val (.int d5), .val (.int d6), .val (.int d7), .val (.int d8), .val (.int d9), .val (.int d10), .val (.int d11), .val (.int e1), .val (.int e2), .val (.ref ca), .unset, .unset, .unset, .unset] [(.int (48 : Int32)), (.int (0 : Int32)), (.ref cb), (.ref cb)])) (fun T_ L_ X_ t_ q_ => XS.bipush X_.here C.hx rfl (C.d at_242) q_) ?_
  refine Go.plain (g' := (mkF m 246 #[.val (.long p0), .second, .val (.long p1), .second, .val (.int p2), .val (.int d0), .val (.int d1), .val (.int d2), .val (.int d3), .val (.int d4), .val (.int d5), .val (.int d6), .val (.int d7), .val (.int d8), .val (.int d9), .val (.int d10), .val (.int d11), .val (.int e1), .val (.int e2), .val (.ref ca), .unset, .unset, .unset, .unset] [(.int d0), (.int (48 : Int32)), (.int (0 : Int32)), (.ref cb), (.ref cb)])) (fun T_ L_ X_ t_ q_ => XS.iload X_.here C.hx rfl (C.d at_244) rfl q_) ?_
  refine Go.plain (g' := (mkF m 247 #[.val (.long p0), .second, .val (.long p1), .second, .val (.int p2), .val (.int d0), .val (.int d1), .val (.int d2), .val (.int d3), .val (.int d4), .val (.int d5), .val (.int d6), .val (.int d7), .val (.int d8), .val (.int d9), .val (.int d10), .val (.int d11), .val (.int e1), .val (.int e2), .val (.ref ca), .unset, .unset, .unset, .unset] [(.int ((48 : Int32) + d0)), (.int (0 : Int32)), (.ref cb), (.ref cb)])) (fun T_ L_ X_ t_ q_ => XS.iadd X_.here C.hx rfl (C.d at_246) rfl q_) ?_
  refine Go.plain (g' := (mkF m 248 #[.val (.long p0), .second, .val (.long p1), .second, .val (.int p2), .val (.int d0), .val (.int d1), .val (.int d2), .val (.int d3), .val (.int d4), .val (.int d5), .val (.int d6), .val (.int d7), .val (.int d8), .val (.int d9), .val (.int d10), .val (.int d11), .val (.int e1), .val (.int e2), .val (.ref ca), .unset, .unset, .unset, .unset] [(.int (((48 : Int32) + d0).toUInt32.toUInt16.toUInt32.toInt32)), (.int (0 : Int32)), (.ref cb), (.ref cb)])) (fun T_ L_ X_ t_ q_ => XS.i2c X_.here C.hx rfl (C.d at_247) rfl q_) ?_
  refine Go.stC C V_cb ⟨by decide, by decide⟩ (i := 0) rfl (Nat.le_of_ble_eq_true rfl) z_cb at_248 (pc' := 249) rfl ?_
  intro h16 W_h16 V_cb
  rw [nar_dig r0] at V_cb
  have V_ca := V_ca.other W_h16 ne_ca_cb
  have V_cb : Arv Z h16 cb k_cb .char (13 : Int32) [.int ((48 : Int32) + d0), .int 0, .int 0, .int 0, .int 0, .int 0, .int 0, .int 0, .int 0, .int 0, .int 0, .int 0, .int 0] (.int 0) := V_cb
  refine Go.plain (g' := (mkF m 250 #[.val (.long p0), .second, .val (.long p1), .second, .val (.int p2), .val (.int d0), .val (.int d1), .val (.int d2), .val (.int d3), .val (.int d4), .val (.int d5), .val (.int d6), .val (.int d7), .val (.int d8), .val (.int d9), .val (.int d10), .val (.int d11), .val (.int e1), .val (.int e2), .val (.ref ca), .unset, .unset, .unset, .unset] [(.ref cb), (.ref cb)])) (fun T_ L_ X_ t_ q_ => XS.dup X_.here C.hx rfl (C.d at_249) rfl rfl q_) ?_
  refine Go.plain (g' := (mkF m 251 #[.val (.long p0), .second, .val (.long p1), .second, .val (.int p2), .val (.int d0), .val (.int d1), .val (.int d2), .val (.int d3), .val (.int d4), .val (.int d5), .val (.int d6), .val (.int d7), .val (.int d8), .val (.int d9), .val (.int d10), .val (.int d11), .val (.int e1), .val (.int e2), .val (.ref ca), .unset, .unset, .unset, .unset] [(.int (1 : Int32)), (.ref cb), (.ref cb)])) (fun T_ L_ X_ t_ q_ => XS.iconst X_.here C.hx rfl (C.d at_250) q_) ?_
  refine Go.plain (g' := (mkF m 253 #[.val (.long p0), .second, .val (.long p1), .second, .val (.int p2), .val (.int d0), .val (.int d1), .val (.int d2), .val (.int d3), .val (.int d4), .val (.int d5), .val (.int d6), .val (.int d7), .val (.int d8), .val (.int d9), .val (.int d10), .val (.int d11), .val (.int e1), .val (.int e2), .val (.ref ca), .unset, .unset, .unset, .unset] [(.int (48 : Int32)), (.int (1 : Int32)), (.ref cb), (.ref cb)])) (fun T_ L_ X_ t_ q_ => XS.bipush X_.here C.hx rfl (C.d at_251) q_) ?_
  refine Go.plain (g' := (mkF m 255 #[.val (.long p0), .second, .val (.long p1), .second, .val (.int p2), .val (.int d0), .val (.int d1), .val (.int d2), .val (.int d3), .val (.int d4), .val (.int d5), .val (.int d6), .val (.int d7), .val (.int d8), .val (.int d9), .val (.int d10), .val (.int d11), .val (.int e1), .val (.int e2), .val (.ref ca), .unset, .unset, .unset, .unset] [(.int d1), (.int (48 : Int32)), (.int (1 : Int32)), (.ref cb), (.ref cb)])) (fun T_ L_ X_ t_ q_ => XS.iload X_.here C.hx rfl (C.d at_253) rfl q_) ?_
  refine Go.plain (g' := (mkF m 256 #[.val (.long p0), .second, .val (.long p1), .second, .val (.int p2), .val (.int d0), .val (.int d1), .val (.int d2), .val (.int d3), .val (.int d4), .val (.int d5), .val (.int d6), .val (.int d7), .val (.int d8), .val (.int d9), .val (.int d10), .val (.int d11), .val (.int e1), .val (.int e2), .val (.ref ca), .unset, .unset, .unset, .unset] [(.int ((48 : Int32) + d1)), (.int (1 : Int32)), (.ref cb), (.ref cb)])) (fun T_ L_ X_ t_ q_ => XS.iadd X_.here C.hx rfl (C.d at_255) rfl q_) ?_
  refine Go.plain (g' := (mkF m 257 #[.val (.long p0), .second, .val (.long p1), .second, .val (.int p2), .val (.int d0), .val (.int d1), .val (.int d2), .val (.int d3), .val (.int d4), .val (.int d5), .val (.int d6), .val (.int d7), .val (.int d8), .val (.int d9), .val (.int d10), .val (.int d11), .val (.int e1), .val (.int e2), .val (.ref ca), .unset, .unset, .unset, .unset] [(.int (((48 : Int32) + d1).toUInt32.toUInt16.toUInt32.toInt32)), (.int (1 : Int32)), (.ref cb), (.ref cb)])) (fun T_ L_ X_ t_ q_ => XS.i2c X_.here C.hx rfl (C.d at_256) rfl q_) ?_
  refine Go.stC C V_cb ⟨by decide, by decide⟩ (i := 1) rfl (Nat.le_of_ble_eq_true rfl) z_cb at_257 (pc' := 258) rfl ?_
  intro h17 W_h17 V_cb
  rw [nar_dig r1] at V_cb
  have V_ca := V_ca.other W_h17 ne_ca_cb
  have V_cb : Arv Z h17 cb k_cb .char (13 : Int32) [.int ((48 : Int32) + d0), .int ((48 : Int32) + d1), .int 0, .int 0, .int 0, .int 0, .int 0, .int 0, .int 0, .int 0, .int 0, .int 0, .int 0] (.int 0) := V_cb
  refine Go.plain (g' := (mkF m 259 #[.val (.long p0), .second, .val (.long p1), .second, .val (.int p2), .val (.int d0), .val (.int d1), .val (.int d2), .val (.int d3), .val (.int d4), .val (.int d5), .val (.int d6), .val (.int d7), .val (.int d8), .val (.int d9), .val (.int d10), .val (.int d11), .val (.int e1), .val (.int e2), .val (.ref ca), .unset, .unset, .unset, .unset] [(.ref cb), (.ref cb)])) (fun T_ L_ X_ t_ q_ => XS.dup X_.here C.hx rfl (C.d at_258) rfl rfl q_) ?_
  refine Go.plain (g' := (mkF m 260 #[.val (.long p0), .second, .val (.long p1), .second, .val (.int p2), .val (.int d0), .val (.int d1), .val (.int d2), .val (.int d3), .val (.int d4), .val (.int d5), .val (.int d6), .val (.int d7), .val (.int d8), .val (.int d9), .val (.int d10), .val (.int d11), .val (.int e1), .val (.int e2), .val (.ref ca), .unset, .unset, .unset, .unset] [(.int (2 : Int32)), (.ref cb), (.ref cb)])) (fun T_ L_ X_ t_ q_ => XS.iconst X_.here C.hx rfl (C.d at_259) q_) ?_
  refine Go.plain (g' := (mkF m 262 #[.val (.long p0), .second, .val (.long p1), .second, .val (.int p2), .val (.int d0), .val (.int d1), .val (.int d2), .val (.int d3), .val (.int d4), .val (.int d5), .val (.int d6), .val (.int d7), .val (.int d8), .val (.int d9), .val (.int d10), .val (.int d11), .val (.int e1), .val (.int e2), .val (.ref ca), .unset, .unset, .unset, .unset] [(.int (48 : Int32)), (.int (2 : Int32)), (.ref cb), (.ref cb)])) (fun T_ L_ X_ t_ q_ => XS.bipush X_.here C.hx rfl (C.d at_260) q_) ?_
  refine Go.plain (g' := (mkF m 264 #[.val (.long p0), .second, .val (.long p1), .second, .val (.int p2), .val (.int d0), .val (.int d1), .val (.int d2), .val (.int d3), .val (.int d4), .val (.int d5), .val (.int d6), .val (.int d7), .val (.int d8), .val (.int d9), .val (.int d10), .val (.int d11), .val (.int e1), .val (.int e2), .val (.ref ca), .unset, .unset, .unset, .unset] [(.int d2), (.int (48 : Int32)), (.int (2 : Int32)), (.ref cb), (.ref cb)])) (fun T_ L_ X_ t_ q_ => XS.iload X_.here C.hx rfl (C.d at_262) rfl q_) ?_
  refine Go.plain (g' := (mkF m 265 #[.val (.long p0), .second, .val (.long p1), .second, .val (.int p2), .val (.int d0), .val (.int d1), .val (.int d2), .val (.int d3), .val (.int d4), .val (.int d5), .val (.int d6), .val (.int d7), .val (.int d8), .val (.int d9), .val (.int d10), .val (.int d11), .val (.int e1), .val (.int e2), .val (.ref ca), .unset, .unset, .unset, .unset] [(.int ((48 : Int32) + d2)), (.int (2 : Int32)), (.ref cb), (.ref cb)])) (fun T_ L_ X_ t_ q_ => XS.iadd X_.here C.hx rfl (C.d at_264) rfl q_) ?_
  refine Go.plain (g' := (mkF m 266 #[.val (.long p0), .second, .val (.long p1), .second, .val (.int p2), .val (.int d0), .val (.int d1), .val (.int d2), .val (.int d3), .val (.int d4), .val (.int d5), .val (.int d6), .val (.int d7), .val (.int d8), .val (.int d9), .val (.int d10), .val (.int d11), .val (.int e1), .val (.int e2), .val (.ref ca), .unset, .unset, .unset, .unset] [(.int (((48 : Int32) + d2).toUInt32.toUInt16.toUInt32.toInt32)), (.int (2 : Int32)), (.ref cb), (.ref cb)])) (fun T_ L_ X_ t_ q_ => XS.i2c X_.here C.hx rfl (C.d at_265) rfl q_) ?_
  refine Go.stC C V_cb ⟨by decide, by decide⟩ (i := 2) rfl (Nat.le_of_ble_eq_true rfl) z_cb at_266 (pc' := 267) rfl ?_
  intro h18 W_h18 V_cb
  rw [nar_dig r2] at V_cb
  have V_ca := V_ca.other W_h18 ne_ca_cb
  have V_cb : Arv Z h18 cb k_cb .char (13 : Int32) [.int ((48 : Int32) + d0), .int ((48 : Int32) + d1), .int ((48 : Int32) + d2), .int 0, .int 0, .int 0, .int 0, .int 0, .int 0, .int 0, .int 0, .int 0, .int 0] (.int 0) := V_cb
  refine Go.plain (g' := (mkF m 268 #[.val (.long p0), .second, .val (.long p1), .second, .val (.int p2), .val (.int d0), .val (.int d1), .val (.int d2), .val (.int d3), .val (.int d4), .val (.int d5), .val (.int d6), .val (.int d7), .val (.int d8), .val (.int d9), .val (.int d10), .val (.int d11), .val (.int e1), .val (.int e2), .val (.ref ca), .unset, .unset, .unset, .unset] [(.ref cb), (.ref cb)])) (fun T_ L_ X_ t_ q_ => XS.dup X_.here C.hx rfl (C.d at_267) rfl rfl q_) ?_
  refine Go.plain (g' := (mkF m 269 #[.val (.long p0), .second, .val (.long p1), .second, .val (.int p2), .val (.int d0), .val (.int d1), .val (.int d2), .val (.int d3), .val (.int d4), .val (.int d5), .val (.int d6), .val (.int d7), .val (.int d8), .val (.int d9), .val (.int d10), .val (.int d11), .val (.int e1), .val (.int e2), .val (.ref ca), .unset, .unset, .unset, .unset] [(.int (3 : Int32)), (.ref cb), (.ref cb)])) (fun T_ L_ X_ t_ q_ => XS.iconst X_.here C.hx rfl (C.d at_268) q_) ?_
  refine Go.plain (g' := (mkF m 271 #[.val (.long p0), .second, .val (.long p1), .second, .val (.int p2), .val (.int d0), .val (.int d1), .val (.int d2), .val (.int d3), .val (.int d4), .val (.int d5), .val (.int d6), .val (.int d7), .val (.int d8), .val (.int d9), .val (.int d10), .val (.int d11), .val (.int e1), .val (.int e2), .val (.ref ca), .unset, .unset, .unset, .unset] [(.int (48 : Int32)), (.int (3 : Int32)), (.ref cb), (.ref cb)])) (fun T_ L_ X_ t_ q_ => XS.bipush X_.here C.hx rfl (C.d at_269) q_) ?_
  refine Go.plain (g' := (mkF m 273 #[.val (.long p0), .second, .val (.long p1), .second, .val (.int p2), .val (.int d0), .val (.int d1), .val (.int d2), .val (.int d3), .val (.int d4), .val (.int d5), .val (.int d6), .val (.int d7), .val (.int d8), .val (.int d9), .val (.int d10), .val (.int d11), .val (.int e1), .val (.int e2), .val (.ref ca), .unset, .unset, .unset, .unset] [(.int d3), (.int (48 : Int32)), (.int (3 : Int32)), (.ref cb), (.ref cb)])) (fun T_ L_ X_ t_ q_ => XS.iload X_.here C.hx rfl (C.d at_271) rfl q_) ?_
  refine Go.plain (g' := (mkF m 274 #[.val (.long p0), .second, .val (.long p1), .second, .val (.int p2), .val (.int d0), .val (.int d1), .val (.int d2), .val (.int d3), .val (.int d4), .val (.int d5), .val (.int d6), .val (.int d7), .val (.int d8), .val (.int d9), .val (.int d10), .val (.int d11), .val (.int e1), .val (.int e2), .val (.ref ca), .unset, .unset, .unset, .unset] [(.int ((48 : Int32) + d3)), (.int (3 : Int32)), (.ref cb), (.ref cb)])) (fun T_ L_ X_ t_ q_ => XS.iadd X_.here C.hx rfl (C.d at_273) rfl q_) ?_
  refine Go.plain (g' := (mkF m 275 #[.val (.long p0), .second, .val (.long p1), .second, .val (.int p2), .val (.int d0), .val (.int d1), .val (.int d2), .val (.int d3), .val (.int d4), .val (.int d5), .val (.int d6), .val (.int d7), .val (.int d8), .val (.int d9), .val (.int d10), .val (.int d11), .val (.int e1), .val (.int e2), .val (.ref ca), .unset, .unset, .unset, .unset] [(.int (((48 : Int32) + d3).toUInt32.toUInt16.toUInt32.toInt32)), (.int (3 : Int32)), (.ref cb), (.ref cb)])) (fun T_ L_ X_ t_ q_ => XS.i2c X_.here C.hx rfl (C.d at_274) rfl q_) ?_
  refine Go.stC C V_cb ⟨by decide, by decide⟩ (i := 3) rfl (Nat.le_of_ble_eq_true rfl) z_cb at_275 (pc' := 276) rfl ?_
  intro h19 W_h19 V_cb
  rw [nar_dig r3] at V_cb
  have V_ca := V_ca.other W_h19 ne_ca_cb
  have V_cb : Arv Z h19 cb k_cb .char (13 : Int32) [.int ((48 : Int32) + d0), .int ((48 : Int32) + d1), .int ((48 : Int32) + d2), .int ((48 : Int32) + d3), .int 0, .int 0, .int 0, .int 0, .int 0, .int 0, .int 0, .int 0, .int 0] (.int 0) := V_cb
  refine Go.plain (g' := (mkF m 277 #[.val (.long p0), .second, .val (.long p1), .second, .val (.int p2), .val (.int d0), .val (.int d1), .val (.int d2), .val (.int d3), .val (.int d4), .val (.int d5), .val (.int d6), .val (.int d7), .val (.int d8), .val (.int d9), .val (.int d10), .val (.int d11), .val (.int e1), .val (.int e2), .val (.ref ca), .unset, .unset, .unset, .unset] [(.ref cb), (.ref cb)])) (fun T_ L_ X_ t_ q_ => XS.dup X_.here C.hx rfl (C.d at_276) rfl rfl q_) ?_
  refine Go.plain (g' := (mkF m 278 #[.val (.long p0), .second, .val (.long p1), .second, .val (.int p2), .val (.int d0), .val (.int d1), .val (.int d2), .val (.int d3), .val (.int d4), .val (.int d5), .val (.int d6), .val (.int d7), .val (.int d8), .val (.int d9), .val (.int d10), .val (.int d11), .val (.int e1), .val (.int e2), .val (.ref ca), .unset, .unset, .unset, .unset] [(.int (4 : Int32)), (.ref cb), (.ref cb)])) (fun T_ L_ X_ t_ q_ => XS.iconst X_.here C.hx rfl (C.d at_277) q_) ?_
  refine Go.plain (g' := (mkF m 280 #[.val (.long p0), .second, .val (.long p1), .second, .val (.int p2), .val (.int d0), .val (.int d1), .val (.int d2), .val (.int d3), .val (.int d4), .val (.int d5), .val (.int d6), .val (.int d7), .val (.int d8), .val (.int d9), .val (.int d10), .val (.int d11), .val (.int e1), .val (.int e2), .val (.ref ca), .unset, .unset, .unset, .unset] [(.int (48 : Int32)), (.int (4 : Int32)), (.ref cb), (.ref cb)])) (fun T_ L_ X_ t_ q_ => XS.bipush X_.here C.hx rfl (C.d at_278) q_) ?_
  refine Go.plain (g' := (mkF m 282 #[.val (.long p0), .second, .val (.long p1), .second, .val (.int p2), .val (.int d0), .val (.int d1), .val (.int d2), .val (.int d3), .val (.int d4), .val (.int d5), .val (.int d6), .val (.int d7), .val (.int d8), .val (.int d9), .val (.int d10), .val (.int d11), .val (.int e1), .val (.int e2), .val (.ref ca), .unset, .unset, .unset, .unset] [(.int d4), (.int (48 : Int32)), (.int (4 : Int32)), (.ref cb), (.ref cb)])) (fun T_ L_ X_ t_ q_ => XS.iload X_.here C.hx rfl (C.d at_280) rfl q_) ?_
  refine Go.plain (g' := (mkF m 283 #[.val (.long p0), .second, .val (.long p1), .second, .val (.int p2), .val (.int d0), .val (.int d1), .val (.int d2), .val (.int d3), .val (.int d4), .val (.int d5), .val (.int d6), .val (.int d7), .val (.int d8), .val (.int d9), .val (.int d10), .val (.int d11), .val (.int e1), .val (.int e2), .val (.ref ca), .unset, .unset, .unset, .unset] [(.int ((48 : Int32) + d4)), (.int (4 : Int32)), (.ref cb), (.ref cb)])) (fun T_ L_ X_ t_ q_ => XS.iadd X_.here C.hx rfl (C.d at_282) rfl q_) ?_
  refine Go.plain (g' := (mkF m 284 #[.val (.long p0), .second, .val (.long p1), .second, .val (.int p2), .val (.int d0), .val (.int d1), .val (.int d2), .val (.int d3), .val (.int d4), .val (.int d5), .val (.int d6), .val (.int d7), .val (.int d8), .val (.int d9), .val (.int d10), .val (.int d11), .val (.int e1), .val (.int e2), .val (.ref ca), .unset, .unset, .unset, .unset] [(.int (((48 : Int32) + d4).toUInt32.toUInt16.toUInt32.toInt32)), (.int (4 : Int32)), (.ref cb), (.ref cb)])) (fun T_ L_ X_ t_ q_ => XS.i2c X_.here C.hx rfl (C.d at_283) rfl q_) ?_
  refine Go.stC C V_cb ⟨by decide, by decide⟩ (i := 4) rfl (Nat.le_of_ble_eq_true rfl) z_cb at_284 (pc' := 285) rfl ?_
  intro h20 W_h20 V_cb
  rw [nar_dig r4] at V_cb
  have V_ca := V_ca.other W_h20 ne_ca_cb
  have V_cb : Arv Z h20 cb k_cb .char (13 : Int32) [.int ((48 : Int32) + d0), .int ((48 : Int32) + d1), .int ((48 : Int32) + d2), .int ((48 : Int32) + d3), .int ((48 : Int32) + d4), .int 0, .int 0, .int 0, .int 0, .int 0, .int 0, .int 0, .int 0] (.int 0) := V_cb
  refine Go.plain (g' := (mkF m 286 #[.val (.long p0), .second, .val (.long p1), .second, .val (.int p2), .val (.int d0), .val (.int d1), .val (.int d2), .val (.int d3), .val (.int d4), .val (.int d5), .val (.int d6), .val (.int d7), .val (.int d8), .val (.int d9), .val (.int d10), .val (.int d11), .val (.int e1), .val (.int e2), .val (.ref ca), .unset, .unset, .unset, .unset] [(.ref cb), (.ref cb)])) (fun T_ L_ X_ t_ q_ => XS.dup X_.here C.hx rfl (C.d at_285) rfl rfl q_) ?_
  refine Go.plain (g' := (mkF m 287 #[.val (.long p0), .second, .val (.long p1), .second, .val (.int p2), .val (.int d0), .val (.int d1), .val (.int d2), .val (.int d3), .val (.int d4), .val (.int d5), .val (.int d6), .val (.int d7), .val (.int d8), .val (.int d9), .val (.int d10), .val (.int d11), .val (.int e1), .val (.int e2), .val (.ref ca), .unset, .unset, .unset, .unset] [(.int (5 : Int32)), (.ref cb), (.ref cb)])) (fun T_ L_ X_ t_ q_ => XS.iconst X_.here C.hx rfl (C.d at_286) q_) ?_
  refine Go.plain (g' := (mkF m 289 #[.val (.long p0), .second, .val (.long p1), .second, .val (.int p2), .val (.int d0), .val (.int d1), .val (.int d2), .val (.int d3), .val (.int d4), .val (.int d5), .val (.int d6), .val (.int d7), .val (.int d8), .val (.int d9), .val (.int d10), .val (.int d11), .val (.int e1), .val (.int e2), .val (.ref ca), .unset, .unset, .unset, .unset] [(.int (48 : Int32)), (.int (5 : Int32)), (.ref cb), (.ref cb)])) (fun T_ L_ X_ t_ q_ => XS.bipush X_.here C.hx rfl (C.d at_287) q_) ?_
  refine Go.plain (g' := (mkF m 291 #[.val (.long p0), .second, .val (.long p1), .second, .val (.int p2), .val (.int d0), .val (.int d1), .val (.int d2), .val (.int d3), .val (.int d4), .val (.int d5), .val (.int d6), .val (.int d7), .val (.int d8), .val (.int d9), .val (.int d10), .val (.int d11), .val (.int e1), .val (.int e2), .val (.ref ca), .unset, .unset, .unset, .unset] [(.int d5), (.int (48 : Int32)), (.int (5 : Int32)), (.ref cb), (.ref cb)])) (fun T_ L_ X_ t_ q_ => XS.iload X_.here C.hx rfl (C.d at_289) rfl q_) ?_
  refine Go.plain (g' := (mkF m 292 #[.val (.long p0), .second, .val (.long p1), .second, .val (.int p2), .val (.int d0), .val (.int d1), .val (.int d2), .val (.int d3), .val (.int d4), .val (.int d5), .val (.int d6), .val (.int d7), .val (.int d8), .val (.int d9), .val (.int d10), .val (.int d11), .val (.int e1), .val (.int e2), .val (.ref ca), .unset, .unset, .unset, .unset] [(.int ((48 : Int32) + d5)), (.int (5 : Int32)), (.ref cb), (.ref cb)])) (fun T_ L_ X_ t_ q_ => XS.iadd X_.here C.hx rfl (C.d at_291) rfl q_) ?_
  refine Go.plain (g' := (mkF m 293 #[.val (.long p0), .second, .val (.long p1), .second, .val (.int p2), .val (.int d0), .val (.int d1), .val (.int d2), .val (.int d3), .val (.int d4), .val (.int d5), .val (.int d6), .val (.int d7), .val (.int d8), .val (.int d9), .val (.int d10), .val (.int d11), .val (.int e1), .val (.int e2), .val (.ref ca), .unset, .unset, .unset, .unset] [(.int (((48 : Int32) + d5).toUInt32.toUInt16.toUInt32.toInt32)), (.int (5 : Int32)), (.ref cb), (.ref cb)])) (fun T_ L_ X_ t_ q_ => XS.i2c X_.here C.hx rfl (C.d at_292) rfl q_) ?_
  refine Go.stC C V_cb ⟨by decide, by decide⟩ (i := 5) rfl (Nat.le_of_ble_eq_true rfl) z_cb at_293 (pc' := 294) rfl ?_
  intro h21 W_h21 V_cb
  rw [nar_dig r5] at V_cb
  have V_ca := V_ca.other W_h21 ne_ca_cb
  have V_cb : Arv Z h21 cb k_cb .char (13 : Int32) [.int ((48 : Int32) + d0), .int ((48 : Int32) + d1), .int ((48 : Int32) + d2), .int ((48 : Int32) + d3), .int ((48 : Int32) + d4), .int ((48 : Int32) + d5), .int 0, .int 0, .int 0, .int 0, .int 0, .int 0, .int 0] (.int 0) := V_cb
  refine Go.plain (g' := (mkF m 295 #[.val (.long p0), .second, .val (.long p1), .second, .val (.int p2), .val (.int d0), .val (.int d1), .val (.int d2), .val (.int d3), .val (.int d4), .val (.int d5), .val (.int d6), .val (.int d7), .val (.int d8), .val (.int d9), .val (.int d10), .val (.int d11), .val (.int e1), .val (.int e2), .val (.ref ca), .unset, .unset, .unset, .unset] [(.ref cb), (.ref cb)])) (fun T_ L_ X_ t_ q_ => XS.dup X_.here C.hx rfl (C.d at_294) rfl rfl q_) ?_
  refine Go.plain (g' := (mkF m 297 #[.val (.long p0), .second, .val (.long p1), .second, .val (.int p2), .val (.int d0), .val (.int d1), .val (.int d2), .val (.int d3), .val (.int d4), .val (.int d5), .val (.int d6), .val (.int d7), .val (.int d8), .val (.int d9), .val (.int d10), .val (.int d11), .val (.int e1), .val (.int e2), .val (.ref ca), .unset, .unset, .unset, .unset] [(.int (6 : Int32)), (.ref cb), (.ref cb)])) (fun T_ L_ X_ t_ q_ => XS.bipush X_.here C.hx rfl (C.d at_295) q_) ?_
  refine Go.plain (g' := (mkF m 299 #[.val (.long p0), .second, .val (.long p1), .second, .val (.int p2), .val (.int d0), .val (.int d1), .val (.int d2), .val (.int d3), .val (.int d4), .val (.int d5), .val (.int d6), .val (.int d7), .val (.int d8), .val (.int d9), .val (.int d10), .val (.int d11), .val (.int e1), .val (.int e2), .val (.ref ca), .unset, .unset, .unset, .unset] [(.int (48 : Int32)), (.int (6 : Int32)), (.ref cb), (.ref cb)])) (fun T_ L_ X_ t_ q_ => XS.bipush X_.here C.hx rfl (C.d at_297) q_) ?_
  refine Go.plain (g' := (mkF m 301 #[.val (.long p0), .second, .val (.long p1), .second, .val (.int p2), .val (.int d0), .val (.int d1), .val (.int d2), .val (.int d3), .val (.int d4), .val (.int d5), .val (.int d6), .val (.int d7), .val (.int d8), .val (.int d9), .val (.int d10), .val (.int d11), .val (.int e1), .val (.int e2), .val (.ref ca), .unset, .unset, .unset, .unset] [(.int d6), (.int (48 : Int32)), (.int (6 : Int32)), (.ref cb), (.ref cb)])) (fun T_ L_ X_ t_ q_ => XS.iload X_.here C.hx rfl (C.d at_299) rfl q_) ?_
  refine Go.plain (g' := (mkF m 302 #[.val (.long p0), .second, .val (.long p1), .second, .val (.int p2), .val (.int d0), .val (.int d1), .val (.int d2), .val (.int d3), .val (.int d4), .val (.int d5), .val (.int d6), .val (.int d7), .val (.int d8), .val (.int d9), .val (.int d10), .val (.int d11), .val (.int e1), .val (.int e2), .val (.ref ca), .unset, .unset, .unset, .unset] [(.int ((48 : Int32) + d6)), (.int (6 : Int32)), (.ref cb), (.ref cb)])) (fun T_ L_ X_ t_ q_ => XS.iadd X_.here C.hx rfl (C.d at_301) rfl q_) ?_
  refine Go.plain (g' := (mkF m 303 #[.val (.long p0), .second, .val (.long p1), .second, .val (.int p2), .val (.int d0), .val (.int d1), .val (.int d2), .val (.int d3), .val (.int d4), .val (.int d5), .val (.int d6), .val (.int d7), .val (.int d8), .val (.int d9), .val (.int d10), .val (.int d11), .val (.int e1), .val (.int e2), .val (.ref ca), .unset, .unset, .unset, .unset] [(.int (((48 : Int32) + d6).toUInt32.toUInt16.toUInt32.toInt32)), (.int (6 : Int32)), (.ref cb), (.ref cb)])) (fun T_ L_ X_ t_ q_ => XS.i2c X_.here C.hx rfl (C.d at_302) rfl q_) ?_
  refine Go.stC C V_cb ⟨by decide, by decide⟩ (i := 6) rfl (Nat.le_of_ble_eq_true rfl) z_cb at_303 (pc' := 304) rfl ?_
  intro h22 W_h22 V_cb
  rw [nar_dig r6] at V_cb
  have V_ca := V_ca.other W_h22 ne_ca_cb
  have V_cb : Arv Z h22 cb k_cb .char (13 : Int32) [.int ((48 : Int32) + d0), .int ((48 : Int32) + d1), .int ((48 : Int32) + d2), .int ((48 : Int32) + d3), .int ((48 : Int32) + d4), .int ((48 : Int32) + d5), .int ((48 : Int32) + d6), .int 0, .int 0, .int 0, .int 0, .int 0, .int 0] (.int 0) := V_cb
  refine Go.plain (g' := (mkF m 305 #[.val (.long p0), .second, .val (.long p1), .second, .val (.int p2), .val (.int d0), .val (.int d1), .val (.int d2), .val (.int d3), .val (.int d4), .val (.int d5), .val (.int d6), .val (.int d7), .val (.int d8), .val (.int d9), .val (.int d10), .val (.int d11), .val (.int e1), .val (.int e2), .val (.ref ca), .unset, .unset, .unset, .unset] [(.ref cb), (.ref cb)])) (fun T_ L_ X_ t_ q_ => XS.dup X_.here C.hx rfl (C.d at_304) rfl rfl q_) ?_
  refine Go.plain (g' := (mkF m 307 #[.val (.long p0), .second, .val (.long p1), .second, .val (.int p2), .val (.int d0), .val (.int d1), .val (.int d2), .val (.int d3), .val (.int d4), .val (.int d5), .val (.int d6), .val (.int d7), .val (.int d8), .val (.int d9), .val (.int d10), .val (.int d11), .val (.int e1), .val (.int e2), .val (.ref ca), .unset, .unset, .unset, .unset] [(.int (7 : Int32)), (.ref cb), (.ref cb)])) (fun T_ L_ X_ t_ q_ => XS.bipush X_.here C.hx rfl (C.d at_305) q_) ?_
  refine Go.plain (g' := (mkF m 309 #[.val (.long p0), .second, .val (.long p1), .second, .val (.int p2), .val (.int d0), .val (.int d1), .val (.int d2), .val (.int d3), .val (.int d4), .val (.int d5), .val (.int d6), .val (.int d7), .val (.int d8), .val (.int d9), .val (.int d10), .val (.int d11), .val (.int e1), .val (.int e2), .val (.ref ca), .unset, .unset, .unset, .unset] [(.int (48 : Int32)), (.int (7 : Int32)), (.ref cb), (.ref cb)])) (fun T_ L_ X_ t_ q_ => XS.bipush X_.here C.hx rfl (C.d at_307) q_) ?_
  refine Go.plain (g' := (mkF m 311 #[.val (.long p0), .second, .val (.long p1), .second, .val (.int p2), .val (.int d0), .val (.int d1), .val (.int d2), .val (.int d3), .val (.int d4), .val (.int d5), .val (.int d6), .val (.int d7), .val (.int d8), .val (.int d9), .val (.int d10), .val (.int d11), .val (.int e1), .val (.int e2), .val (.ref ca), .unset, .unset, .unset, .unset] [(.int d7), (.int (48 : Int32)), (.int (7 : Int32)), (.ref cb), (.ref cb)])) (fun T_ L_ X_ t_ q_ => XS.iload X_.here C.hx rfl (C.d at_309) rfl q_) ?_
  refine Go.plain (g' := (mkF m 312 #[.val (.long p0), .second, .val (.long p1), .second, .val (.int p2), .val (.int d0), .val (.int d1), .val (.int d2), .val (.int d3), .val (.int d4), .val (.int d5), .val (.int d6), .val (.int d7), .val (.int d8), .val (.int d9), .val (.int d10), .val (.int d11), .val (.int e1), .val (.int e2), .val (.ref ca), .unset, .unset, .unset, .unset] [(.int ((48 : Int32) + d7)), (.int (7 : Int32)), (.ref cb), (.ref cb)])) (fun T_ L_ X_ t_ q_ => XS.iadd X_.here C.hx rfl (C.d at_311) rfl q_) ?_
  refine Go.plain (g' := (mkF m 313 #[.val (.long p0), .second, .val (.long p1), .second, .val (.int p2), .val (.int d0), .val (.int d1), .val (.int d2), .val (.int d3), .val (.int d4), .val (.int d5), .val (.int d6), .val (.int d7), .val (.int d8), .val (.int d9), .val (.int d10), .val (.int d11), .val (.int e1), .val (.int e2), .val (.ref ca), .unset, .unset, .unset, .unset] [(.int (((48 : Int32) + d7).toUInt32.toUInt16.toUInt32.toInt32)), (.int (7 : Int32)), (.ref cb), (.ref cb)])) (fun T_ L_ X_ t_ q_ => XS.i2c X_.here C.hx rfl (C.d at_312) rfl q_) ?_
  refine Go.stC C V_cb ⟨by decide, by decide⟩ (i := 7) rfl (Nat.le_of_ble_eq_true rfl) z_cb at_313 (pc' := 314) rfl ?_
  intro h23 W_h23 V_cb
  rw [nar_dig r7] at V_cb
  have V_ca := V_ca.other W_h23 ne_ca_cb
  have V_cb : Arv Z h23 cb k_cb .char (13 : Int32) [.int ((48 : Int32) + d0), .int ((48 : Int32) + d1), .int ((48 : Int32) + d2), .int ((48 : Int32) + d3), .int ((48 : Int32) + d4), .int ((48 : Int32) + d5), .int ((48 : Int32) + d6), .int ((48 : Int32) + d7), .int 0, .int 0, .int 0, .int 0, .int 0] (.int 0) := V_cb
  refine Go.plain (g' := (mkF m 315 #[.val (.long p0), .second, .val (.long p1), .second, .val (.int p2), .val (.int d0), .val (.int d1), .val (.int d2), .val (.int d3), .val (.int d4), .val (.int d5), .val (.int d6), .val (.int d7), .val (.int d8), .val (.int d9), .val (.int d10), .val (.int d11), .val (.int e1), .val (.int e2), .val (.ref ca), .unset, .unset, .unset, .unset] [(.ref cb), (.ref cb)])) (fun T_ L_ X_ t_ q_ => XS.dup X_.here C.hx rfl (C.d at_314) rfl rfl q_) ?_
  refine Go.plain (g' := (mkF m 317 #[.val (.long p0), .second, .val (.long p1), .second, .val (.int p2), .val (.int d0), .val (.int d1), .val (.int d2), .val (.int d3), .val (.int d4), .val (.int d5), .val (.int d6), .val (.int d7), .val (.int d8), .val (.int d9), .val (.int d10), .val (.int d11), .val (.int e1), .val (.int e2), .val (.ref ca), .unset, .unset, .unset, .unset] [(.int (8 : Int32)), (.ref cb), (.ref cb)])) (fun T_ L_ X_ t_ q_ => XS.bipush X_.here C.hx rfl (C.d at_315) q_) ?_
  refine Go.plain (g' := (mkF m 319 #[.val (.long p0), .second, .val (.long p1), .second, .val (.int p2), .val (.int d0), .val (.int d1), .val (.int d2), .val (.int d3), .val (.int d4), .val (.int d5), .val (.int d6), .val (.int d7), .val (.int d8), .val (.int d9), .val (.int d10), .val (.int d11), .val (.int e1), .val (.int e2), .val (.ref ca), .unset, .unset, .unset, .unset] [(.int (48 : Int32)), (.int (8 : Int32)), (.ref cb), (.ref cb)])) (fun T_ L_ X_ t_ q_ => XS.bipush X_.here C.hx rfl (C.d at_317) q_) ?_
  refine Go.plain (g' := (mkF m 321 #[.val (.long p0), .second, .val (.long p1), .second, .val (.int p2), .val (.int d0), .val (.int d1), .val (.int d2), .val (.int d3), .val (.int d4), .val (.int d5), .val (.int d6), .val (.int d7), .val (.int d8), .val (.int d9), .val (.int d10), .val (.int d11), .val (.int e1), .val (.int e2), .val (.ref ca), .unset, .unset, .unset, .unset] [(.int d8), (.int (48 : Int32)), (.int (8 : Int32)), (.ref cb), (.ref cb)])) (fun T_ L_ X_ t_ q_ => XS.iload X_.here C.hx rfl (C.d at_319) rfl q_) ?_
  refine Go.plain (g' := (mkF m 322 #[.val (.long p0), .second, .val (.long p1), .second, .val (.int p2), .val (.int d0), .val (.int d1), .val (.int d2), .val (.int d3), .val (.int d4), .val (.int d5), .val (.int d6), .val (.int d7), .val (.int d8), .val (.int d9), .val (.int d10), .val (.int d11), .val (.int e1), .val (.int e2), .val (.ref ca), .unset, .unset, .unset, .unset] [(.int ((48 : Int32) + d8)), (.int (8 : Int32)), (.ref cb), (.ref cb)])) (fun T_ L_ X_ t_ q_ => XS.iadd X_.here C.hx rfl (C.d at_321) rfl q_) ?_
  refine Go.plain (g' := (mkF m 323 #[.val (.long p0), .second, .val (.long p1), .second, .val (.int p2), .val (.int d0), .val (.int d1), .val (.int d2), .val (.int d3), .val (.int d4), .val (.int d5), .val (.int d6), .val (.int d7), .val (.int d8), .val (.int d9), .val (.int d10), .val (.int d11), .val (.int e1), .val (.int e2), .val (.ref ca), .unset, .unset, .unset, .unset] [(.int (((48 : Int32) + d8).toUInt32.toUInt16.toUInt32.toInt32)), (.int (8 : Int32)), (.ref cb), (.ref cb)])) (fun T_ L_ X_ t_ q_ => XS.i2c X_.here C.hx rfl (C.d at_322) rfl q_) ?_
  refine Go.stC C V_cb ⟨by decide, by decide⟩ (i := 8) rfl (Nat.le_of_ble_eq_true rfl) z_cb at_323 (pc' := 324) rfl ?_
  intro h24 W_h24 V_cb
  rw [nar_dig r8] at V_cb
  have V_ca := V_ca.other W_h24 ne_ca_cb
  have V_cb : Arv Z h24 cb k_cb .char (13 : Int32) [.int ((48 : Int32) + d0), .int ((48 : Int32) + d1), .int ((48 : Int32) + d2), .int ((48 : Int32) + d3), .int ((48 : Int32) + d4), .int ((48 : Int32) + d5), .int ((48 : Int32) + d6), .int ((48 : Int32) + d7), .int ((48 : Int32) + d8), .int 0, .int 0, .int 0, .int 0] (.int 0) := V_cb
  refine Go.plain (g' := (mkF m 325 #[.val (.long p0), .second, .val (.long p1), .second, .val (.int p2), .val (.int d0), .val (.int d1), .val (.int d2), .val (.int d3), .val (.int d4), .val (.int d5), .val (.int d6), .val (.int d7), .val (.int d8), .val (.int d9), .val (.int d10), .val (.int d11), .val (.int e1), .val (.int e2), .val (.ref ca), .unset, .unset, .unset, .unset] [(.ref cb), (.ref cb)])) (fun T_ L_ X_ t_ q_ => XS.dup X_.here C.hx rfl (C.d at_324) rfl rfl q_) ?_
  refine Go.plain (g' := (mkF m 327 #[.val (.long p0), .second, .val (.long p1), .second, .val (.int p2), .val (.int d0), .val (.int d1), .val (.int d2), .val (.int d3), .val (.int d4), .val (.int d5), .val (.int d6), .val (.int d7), .val (.int d8), .val (.int d9), .val (.int d10), .val (.int d11), .val (.int e1), .val (.int e2), .val (.ref ca), .unset, .unset, .unset, .unset] [(.int (9 : Int32)), (.ref cb), (.ref cb)])) (fun T_ L_ X_ t_ q_ => XS.bipush X_.here C.hx rfl (C.d at_325) q_) ?_
  refine Go.plain (g' := (mkF m 329 #[.val (.long p0), .second, .val (.long p1), .second, .val (.int p2), .val (.int d0), .val (.int d1), .val (.int d2), .val (.int d3), .val (.int d4), .val (.int d5), .val (.int d6), .val (.int d7), .val (.int d8), .val (.int d9), .val (.int d10), .val (.int d11), .val (.int e1), .val (.int e2), .val (.ref ca), .unset, .unset, .unset, .unset] [(.int (48 : Int32)), (.int (9 : Int32)), (.ref cb), (.ref cb)])) (fun T_ L_ X_ t_ q_ => XS.bipush X_.here C.hx rfl (C.d at_327) q_) ?_
  refine Go.plain (g' := (mkF m 331 #[.val (.long p0), .second, .val (.long p1), .second, .val (.int p2), .val (.int d0), .val (.int d1), .val (.int d2), .val (.int d3), .val (.int d4), .val (.int d5), .val (.int d6), .val (.int d7), .val (.int d8), .val (.int d9), .val (.int d10), .val (.int d11), .val (.int e1), .val (.int e2), .val (.ref ca), .unset, .unset, .unset, .unset] [(.int d9), (.int (48 : Int32)), (.int (9 : Int32)), (.ref cb), (.ref cb)])) (fun T_ L_ X_ t_ q_ => XS.iload X_.here C.hx rfl (C.d at_329) rfl q_) ?_
  refine Go.plain (g' := (mkF m 332 #[.val (.long p0), .second, .val (.long p1), .second, .val (.int p2), .val (.int d0), .val (.int d1), .val (.int d2), .val (.int d3), .val (.int d4), .val (.int d5), .val (.int d6), .val (.int d7), .val (.int d8), .val (.int d9), .val (.int d10), .val (.int d11), .val (.int e1), .val (.int e2), .val (.ref ca), .unset, .unset, .unset, .unset] [(.int ((48 : Int32) + d9)), (.int (9 : Int32)), (.ref cb), (.ref cb)])) (fun T_ L_ X_ t_ q_ => XS.iadd X_.here C.hx rfl (C.d at_331) rfl q_) ?_
  refine Go.plain (g' := (mkF m 333 #[.val (.long p0), .second, .val (.long p1), .second, .val (.int p2), .val (.int d0), .val (.int d1), .val (.int d2), .val (.int d3), .val (.int d4), .val (.int d5), .val (.int d6), .val (.int d7), .val (.int d8), .val (.int d9), .val (.int d10), .val (.int d11), .val (.int e1), .val (.int e2), .val (.ref ca), .unset, .unset, .unset, .unset] [(.int (((48 : Int32) + d9).toUInt32.toUInt16.toUInt32.toInt32)), (.int (9 : Int32)), (.ref cb), (.ref cb)])) (fun T_ L_ X_ t_ q_ => XS.i2c X_.here C.hx rfl (C.d at_332) rfl q_) ?_
  refine Go.stC C V_cb ⟨by decide, by decide⟩ (i := 9) rfl (Nat.le_of_ble_eq_true rfl) z_cb at_333 (pc' := 334) rfl ?_
  intro h25 W_h25 V_cb
  rw [nar_dig r9] at V_cb
  have V_ca := V_ca.other W_h25 ne_ca_cb
  have V_cb : Arv Z h25 cb k_cb .char (13 : Int32) [.int ((48 : Int32) + d0), .int ((48 : Int32) + d1), .int ((48 : Int32) + d2), .int ((48 : Int32) + d3), .int ((48 : Int32) + d4), .int ((48 : Int32) + d5), .int ((48 : Int32) + d6), .int ((48 : Int32) + d7), .int ((48 : Int32) + d8), .int ((48 : Int32) + d9), .int 0, .int 0, .int 0] (.int 0) := V_cb
  refine Go.plain (g' := (mkF m 335 #[.val (.long p0), .second, .val (.long p1), .second, .val (.int p2), .val (.int d0), .val (.int d1), .val (.int d2), .val (.int d3), .val (.int d4), .val (.int d5), .val (.int d6), .val (.int d7), .val (.int d8), .val (.int d9), .val (.int d10), .val (.int d11), .val (.int e1), .val (.int e2), .val (.ref ca), .unset, .unset, .unset, .unset] [(.ref cb), (.ref cb)])) (fun T_ L_ X_ t_ q_ => XS.dup X_.here C.hx rfl (C.d at_334) rfl rfl q_) ?_
  refine Go.plain (g' := (mkF m 337 #[.val (.long p0), .second, .val (.long p1), .second, .val (.int p2), .val (.int d0), .val (.int d1), .val (.int d2), .val (.int d3), .val (.int d4), .val (.int d5), .val (.int d6), .val (.int d7), .val (.int d8), .val (.int d9), .val (.int d10), .val (.int d11), .val (.int e1), .val (.int e2), .val (.ref ca), .unset, .unset, .unset, .unset] [(.int (10 : Int32)), (.ref cb), (.ref cb)])) (fun T_ L_ X_ t_ q_ => XS.bipush X_.here C.hx rfl (C.d at_335) q_) ?_
  refine Go.plain (g' := (mkF m 339 #[.val (.long p0), .second, .val (.long p1), .second, .val (.int p2), .val (.int d0), .val (.int d1), .val (.int d2), .val (.int d3), .val (.int d4), .val (.int d5), .val (.int d6), .val (.int d7), .val (.int d8), .val (.int d9), .val (.int d10), .val (.int d11), .val (.int e1), .val (.int e2), .val (.ref ca), .unset, .unset, .unset, .unset] [(.int (48 : Int32)), (.int (10 : Int32)), (.ref cb), (.ref cb)])) (fun T_ L_ X_ t_ q_ => XS.bipush X_.here C.hx rfl (C.d at_337) q_) ?_
  refine Go.plain (g' := (mkF m 341 #[.val (.long p0), .second, .val (.long p1), .second, .val (.int p2), .val (.int d0), .val (.int d1), .val (.int d2), .val (.int d3), .val (.int d4), .val (.int d5), .val (.int d6), .val (.int d7), .val (.int d8), .val (.int d9), .val (.int d10), .val (.int d11), .val (.int e1), .val (.int e2), .val (.ref ca), .unset, .unset, .unset, .unset] [(.int d10), (.int (48 : Int32)), (.int (10 : Int32)), (.ref cb), (.ref cb)])) (fun T_ L_ X_ t_ q_ => XS.iload X_.here C.hx rfl (C.d at_339) rfl q_) ?_
  refine Go.plain (g' := (mkF m 342 #[.val (.long p0), .second, .val (.long p1), .second, .val (.int p2), .val (.int d0), .val (.int d1), .val (.int d2), .val (.int d3), .val (.int d4), .val (.int d5), .val (.int d6), .val (.int d7), .val (.int d8), .val (.int d9), .val (.int d10), .val (.int d11), .val (.int e1), .val (.int e2), .val (.ref ca), .unset, .unset, .unset, .unset] [(.int ((48 : Int32) + d10)), (.int (10 : Int32)), (.ref cb), (.ref cb)])) (fun T_ L_ X_ t_ q_ => XS.iadd X_.here C.hx rfl (C.d at_341) rfl q_) ?_
  refine Go.plain (g' := (mkF m 343 #[.val (.long p0), .second, .val (.long p1), .second, .val (.int p2), .val (.int d0), .val (.int d1), .val (.int d2), .val (.int d3), .val (.int d4), .val (.int d5), .val (.int d6), .val (.int d7), .val (.int d8), .val (.int d9), .val (.int d10), .val (.int d11), .val (.int e1), .val (.int e2), .val (.ref ca), .unset, .unset, .unset, .unset] [(.int (((48 : Int32) + d10).toUInt32.toUInt16.toUInt32.toInt32)), (.int (10 : Int32)), (.ref cb), (.ref cb)])) (fun T_ L_ X_ t_ q_ => XS.i2c X_.here C.hx rfl (C.d at_342) rfl q_) ?_
  refine Go.stC C V_cb ⟨by decide, by decide⟩ (i := 10) rfl (Nat.le_of_ble_eq_true rfl) z_cb at_343 (pc' := 344) rfl ?_
  intro h26 W_h26 V_cb
  rw [nar_dig r10] at V_cb
  have V_ca := V_ca.other W_h26 ne_ca_cb
  have V_cb : Arv Z h26 cb k_cb .char (13 : Int32) [.int ((48 : Int32) + d0), .int ((48 : Int32) + d1), .int ((48 : Int32) + d2), .int ((48 : Int32) + d3), .int ((48 : Int32) + d4), .int ((48 : Int32) + d5), .int ((48 : Int32) + d6), .int ((48 : Int32) + d7), .int ((48 : Int32) + d8), .int ((48 : Int32) + d9), .int ((48 : Int32) + d10), .int 0, .int 0] (.int 0) := V_cb
  refine Go.plain (g' := (mkF m 345 #[.val (.long p0), .second, .val (.long p1), .second, .val (.int p2), .val (.int d0), .val (.int d1), .val (.int d2), .val (.int d3), .val (.int d4), .val (.int d5), .val (.int d6), .val (.int d7), .val (.int d8), .val (.int d9), .val (.int d10), .val (.int d11), .val (.int e1), .val (.int e2), .val (.ref ca), .unset, .unset, .unset, .unset] [(.ref cb), (.ref cb)])) (fun T_ L_ X_ t_ q_ => XS.dup X_.here C.hx rfl (C.d at_344) rfl rfl q_) ?_
  refine Go.plain (g' := (mkF m 347 #[.val (.long p0), .second, .val (.long p1), .second, .val (.int p2), .val (.int d0), .val (.int d1), .val (.int d2), .val (.int d3), .val (.int d4), .val (.int d5), .val (.int d6), .val (.int d7), .val (.int d8), .val (.int d9), .val (.int d10), .val (.int d11), .val (.int e1), .val (.int e2), .val (.ref ca), .unset, .unset, .unset, .unset] [(.int (11 : Int32)), (.ref cb), (.ref cb)])) (fun T_ L_ X_ t_ q_ => XS.bipush X_.here C.hx rfl (C.d at_345) q_) ?_
  refine Go.plain (g' := (mkF m 349 #[.val (.long p0), .second, .val (.long p1), .second, .val (.int p2), .val (.int d0), .val (.int d1), .val (.int d2), .val (.int d3), .val (.int d4), .val (.int d5), .val (.int d6), .val (.int d7), .val (.int d8), .val (.int d9), .val (.int d10), .val (.int d11), .val (.int e1), .val (.int e2), .val (.ref ca), .unset, .unset, .unset, .unset] [(.int (48 : Int32)), (.int (11 : Int32)), (.ref cb), (.ref cb)])) (fun T_ L_ X_ t_ q_ => XS.bipush X_.here C.hx rfl (C.d at_347) q_) ?_
  refine Go.plain (g' := (mkF m 351 #[.val (.long p0), .second, .val (.long p1), .second, .val (.int p2), .val (.int d0), .val (.int d1), .val (.int d2), .val (.int d3), .val (.int d4), .val (.int d5), .val (.int d6), .val (.int d7), .val (.int d8), .val (.int d9), .val (.int d10), .val (.int d11), .val (.int e1), .val (.int e2), .val (.ref ca), .unset, .unset, .unset, .unset] [(.int d11), (.int (48 : Int32)), (.int (11 : Int32)), (.ref cb), (.ref cb)])) (fun T_ L_ X_ t_ q_ => XS.iload X_.here C.hx rfl (C.d at_349) rfl q_) ?_
  refine Go.plain (g' := (mkF m 352 #[.val (.long p0), .second, .val (.long p1), .second, .val (.int p2), .val (.int d0), .val (.int d1), .val (.int d2), .val (.int d3), .val (.int d4), .val (.int d5), .val (.int d6), .val (.int d7), .val (.int d8), .val (.int d9), .val (.int d10), .val (.int d11), .val (.int e1), .val (.int e2), .val (.ref ca), .unset, .unset, .unset, .unset] [(.int ((48 : Int32) + d11)), (.int (11 : Int32)), (.ref cb), (.ref cb)])) (fun T_ L_ X_ t_ q_ => XS.iadd X_.here C.hx rfl (C.d at_351) rfl q_) ?_
  refine Go.plain (g' := (mkF m 353 #[.val (.long p0), .second, .val (.long p1), .second, .val (.int p2), .val (.int d0), .val (.int d1), .val (.int d2), .val (.int d3), .val (.int d4), .val (.int d5), .val (.int d6), .val (.int d7), .val (.int d8), .val (.int d9), .val (.int d10), .val (.int d11), .val (.int e1), .val (.int e2), .val (.ref ca), .unset, .unset, .unset, .unset] [(.int (((48 : Int32) + d11).toUInt32.toUInt16.toUInt32.toInt32)), (.int (11 : Int32)), (.ref cb), (.ref cb)])) (fun T_ L_ X_ t_ q_ => XS.i2c X_.here C.hx rfl (C.d at_352) rfl q_) ?_
  refine Go.stC C V_cb ⟨by decide, by decide⟩ (i := 11) rfl (Nat.le_of_ble_eq_true rfl) z_cb at_353 (pc' := 354) rfl ?_
  intro h27 W_h27 V_cb
  rw [nar_dig r11] at V_cb
  have V_ca := V_ca.other W_h27 ne_ca_cb
  have V_cb : Arv Z h27 cb k_cb .char (13 : Int32) [.int ((48 : Int32) + d0), .int ((48 : Int32) + d1), .int ((48 : Int32) + d2), .int ((48 : Int32) + d3), .int ((48 : Int32) + d4), .int ((48 : Int32) + d5), .int ((48 : Int32) + d6), .int ((48 : Int32) + d7), .int ((48 : Int32) + d8), .int ((48 : Int32) + d9), .int ((48 : Int32) + d10), .int ((48 : Int32) + d11), .int 0] (.int 0) := V_cb
  refine Go.plain (g' := (mkF m 355 #[.val (.long p0), .second, .val (.long p1), .second, .val (.int p2), .val (.int d0), .val (.int d1), .val (.int d2), .val (.int d3), .val (.int d4), .val (.int d5), .val (.int d6), .val (.int d7), .val (.int d8), .val (.int d9), .val (.int d10), .val (.int d11), .val (.int e1), .val (.int e2), .val (.ref ca), .unset, .unset, .unset, .unset] [(.ref cb), (.ref cb)])) (fun T_ L_ X_ t_ q_ => XS.dup X_.here C.hx rfl (C.d at_354) rfl rfl q_) ?_
  refine Go.plain (g' := (mkF m 357 #[.val (.long p0), .second, .val (.long p1), .second, .val (.int p2), .val (.int d0), .val (.int d1), .val (.int d2), .val (.int d3), .val (.int d4), .val (.int d5), .val (.int d6), .val (.int d7), .val (.int d8), .val (.int d9), .val (.int d10), .val (.int d11), .val (.int e1), .val (.int e2), .val (.ref ca), .unset, .unset, .unset, .unset] [(.int (12 : Int32)), (.ref cb), (.ref cb)])) (fun T_ L_ X_ t_ q_ => XS.bipush X_.here C.hx rfl (C.d at_355) q_) ?_
  refine Go.plain (g' := (mkF m 359 #[.val (.long p0), .second, .val (.long p1), .second, .val (.int p2), .val (.int d0), .val (.int d1), .val (.int d2), .val (.int d3), .val (.int d4), .val (.int d5), .val (.int d6), .val (.int d7), .val (.int d8), .val (.int d9), .val (.int d10), .val (.int d11), .val (.int e1), .val (.int e2), .val (.ref ca), .unset, .unset, .unset, .unset] [(.int (48 : Int32)), (.int (12 : Int32)), (.ref cb), (.ref cb)])) (fun T_ L_ X_ t_ q_ => XS.bipush X_.here C.hx rfl (C.d at_357) q_) ?_
  refine Go.plain (g' := (mkF m 361 #[.val (.long p0), .second, .val (.long p1), .second, .val (.int p2), .val (.int d0), .val (.int d1), .val (.int d2), .val (.int d3), .val (.int d4), .val (.int d5), .val (.int d6), .val (.int d7), .val (.int d8), .val (.int d9), .val (.int d10), .val (.int d11), .val (.int e1), .val (.int e2), .val (.ref ca), .unset, .unset, .unset, .unset] [(.int e2), (.int (48 : Int32)), (.int (12 : Int32)), (.ref cb), (.ref cb)])) (fun T_ L_ X_ t_ q_ => XS.iload X_.here C.hx rfl (C.d at_359) rfl q_) ?_
  refine Go.plain (g' := (mkF m 362 #[.val (.long p0), .second, .val (.long p1), .second, .val (.int p2), .val (.int d0), .val (.int d1), .val (.int d2), .val (.int d3), .val (.int d4), .val (.int d5), .val (.int d6), .val (.int d7), .val (.int d8), .val (.int d9), .val (.int d10), .val (.int d11), .val (.int e1), .val (.int e2), .val (.ref ca), .unset, .unset, .unset, .unset] [(.int ((48 : Int32) + e2)), (.int (12 : Int32)), (.ref cb), (.ref cb)])) (fun T_ L_ X_ t_ q_ => XS.iadd X_.here C.hx rfl (C.d at_361) rfl q_) ?_
  refine Go.plain (g' := (mkF m 363 #[.val (.long p0), .second, .val (.long p1), .second, .val (.int p2), .val (.int d0), .val (.int d1), .val (.int d2), .val (.int d3), .val (.int d4), .val (.int d5), .val (.int d6), .val (.int d7), .val (.int d8), .val (.int d9), .val (.int d10), .val (.int d11), .val (.int e1), .val (.int e2), .val (.ref ca), .unset, .unset, .unset, .unset] [(.int (((48 : Int32) + e2).toUInt32.toUInt16.toUInt32.toInt32)), (.int (12 : Int32)), (.ref cb), (.ref cb)])) (fun T_ L_ X_ t_ q_ => XS.i2c X_.here C.hx rfl (C.d at_362) rfl q_) ?_
  refine Go.stC C V_cb ⟨by decide, by decide⟩ (i := 12) rfl (Nat.le_of_ble_eq_true rfl) z_cb at_363 (pc' := 364) rfl ?_
  intro h28 W_h28 V_cb
  rw [nar_dig re2] at V_cb
  have V_ca := V_ca.other W_h28 ne_ca_cb
  have V_cb : Arv Z h28 cb k_cb .char (13 : Int32) [.int ((48 : Int32) + d0), .int ((48 : Int32) + d1), .int ((48 : Int32) + d2), .int ((48 : Int32) + d3), .int ((48 : Int32) + d4), .int ((48 : Int32) + d5), .int ((48 : Int32) + d6), .int ((48 : Int32) + d7), .int ((48 : Int32) + d8), .int ((48 : Int32) + d9), .int ((48 : Int32) + d10), .int ((48 : Int32) + d11), .int ((48 : Int32) + e2)] (.int 0) := V_cb
  refine Go.plain (g' := (mkF m 366 #[.val (.long p0), .second, .val (.long p1), .second, .val (.int p2), .val (.int d0), .val (.int d1), .val (.int d2), .val (.int d3), .val (.int d4), .val (.int d5), .val (.int d6), .val (.int d7), .val (.int d8), .val (.int d9), .val (.int d10), .val (.int d11), .val (.int e1), .val (.int e2), .val (.ref ca), .val (.ref cb), .unset, .unset, .unset] [])) (fun T_ L_ X_ t_ q_ => XS.astore X_.here C.hx rfl (C.d at_364) rfl rfl (l' := #[.val (.long p0), .second, .val (.long p1), .second, .val (.int p2), .val (.int d0), .val (.int d1), .val (.int d2), .val (.int d3), .val (.int d4), .val (.int d5), .val (.int d6), .val (.int d7), .val (.int d8), .val (.int d9), .val (.int d10), .val (.int d11), .val (.int e1), .val (.int e2), .val (.ref ca), .val (.ref cb), .unset, .unset, .unset]) rfl q_) ?_
  refine Go.new C (hw _ (List.mem_of_getElem? (i := 6) rfl)) (hw _ (List.mem_of_getElem? (i := 7) rfl)) (hw _ (List.mem_of_getElem? (i := 8) rfl)) at_366 (pc' := 369) rfl (k' := 3) (n' := 30) rfl rfl (by decide) (by decide) ?_
  intro s1 h29 q_s1 z_s1 E_s1 A_s1 D_s1
  have FV : Fld Z h29 s1 "java/lang/String" "value" "[B" .null := D_s1 (Or.inr (hw _ (List.mem_of_getElem? (i := 34) rfl))) (ty := (.array .byte)) (by decide)
  have FC : Fld Z h29 s1 "java/lang/String" "coder" "B" (.int (0 : Int32)) := D_s1 (Or.inr (hw _ (List.mem_of_getElem? (i := 32) rfl))) (ty := .byte) (by decide)
  refine Go.plain (g' := (mkF m 370 #[.val (.long p0), .second, .val (.long p1), .second, .val (.int p2), .val (.int d0), .val (.int d1), .val (.int d2), .val (.int d3), .val (.int d4), .val (.int d5), .val (.int d6), .val (.int d7), .val (.int d8), .val (.int d9), .val (.int d10), .val (.int d11), .val (.int e1), .val (.int e2), .val (.ref ca), .val (.ref cb), .unset, .unset, .unset] [(.ref s1), (.ref s1)])) (fun T_ L_ X_ t_ q_ => XS.dup X_.here C.hx rfl (C.d at_369) rfl rfl q_) ?_
  refine Go.plain (g' := (mkF m 372 #[.val (.long p0), .second, .val (.long p1), .second, .val (.int p2), .val (.int d0), .val (.int d1), .val (.int d2), .val (.int d3), .val (.int d4), .val (.int d5), .val (.int d6), .val (.int d7), .val (.int d8), .val (.int d9), .val (.int d10), .val (.int d11), .val (.int e1), .val (.int e2), .val (.ref ca), .val (.ref cb), .unset, .unset, .unset] [(.ref ca), (.ref s1), (.ref s1)])) (fun T_ L_ X_ t_ q_ => XS.aload X_.here C.hx rfl (C.d at_370) rfl rfl q_) ?_
  refine Go.strInit hw C (cs := [(48 : Int32) + d0, (48 : Int32) + d1, (48 : Int32) + d2, (48 : Int32) + d3, (48 : Int32) + d4, (48 : Int32) + d5, (48 : Int32) + d6, (48 : Int32) + d7, (48 : Int32) + d8, (48 : Int32) + d9, (48 : Int32) + d10, (48 : Int32) + d11, (48 : Int32) + e1]) (nn := 13) z_s1 A_s1 FV FC (V_ca.ext E_s1) S0 hz rfl rfl (by decide) (by decide) (rng13 r0 r1 r2 r3 r4 r5 r6 r7 r8 r9 r10 r11 re1) (hw _ (List.mem_of_getElem? (i := 7) rfl)) (hw _ (List.mem_of_getElem? (i := 9) rfl)) (hw _ (List.mem_of_getElem? (i := 10) rfl)) at_372 (pc' := 375) rfl rfl (W := 1) (Nat.le_of_eq rfl) (by decide) (by decide) (k' := 4) (n' := 43) rfl rfl (by decide) (by decide) ?_
  intro h30 K_s1 T_s1
  have X_s1 := ext_keep1 E_s1 K_s1 (Nat.le_of_eq q_s1.symm)
  have V_ca := V_ca.ext X_s1
  have V_cb := V_cb.ext X_s1
  refine Go.static C (P_isbn l Z a0 hw s1 d0 d1 d2 d3 d4 d5 d6 d7 d8 d9 d10 d11 e1 zc fm h30 T_s1 r0 r1 r2 r3 r4 r5 r6 r7 r8 r9 r10 r11 S0 hz SF rf) (hw _ (List.mem_of_getElem? (i := 35) rfl)) (hw _ (List.mem_of_getElem? (i := 36) rfl)) (hw _ (List.mem_of_getElem? (i := 37) rfl)) (hw _ (List.mem_of_getElem? (i := 38) rfl)) (by decide) pd_1 (argsL := [(.ref s1)]) (rest := []) rfl rfl at_375 (pc' := 378) rfl rfl rfl (W := 0) (Nat.le_of_eq rfl) (by decide) (by decide) (k' := 4) (n' := 43) rfl rfl (by decide) (by decide) ?_
  rintro _ _ ⟨c0, rfl, hc0, rfl⟩
  show Go p l e room_1 s m #[(.long p0), (.long p1), (.int p2)] below meth c Z (fun v h => v = some (.int (1 : Int32))) h30 4 43 (mkF m 378 #[.val (.long p0), .second, .val (.long p1), .second, .val (.int p2), .val (.int d0), .val (.int d1), .val (.int d2), .val (.int d3), .val (.int d4), .val (.int d5), .val (.int d6), .val (.int d7), .val (.int d8), .val (.int d9), .val (.int d10), .val (.int d11), .val (.int e1), .val (.int e2), .val (.ref ca), .val (.ref cb), .unset, .unset, .unset] [(.int c0)])
  refine Go.plain (g' := (mkF m 380 #[.val (.long p0), .second, .val (.long p1), .second, .val (.int p2), .val (.int d0), .val (.int d1), .val (.int d2), .val (.int d3), .val (.int d4), .val (.int d5), .val (.int d6), .val (.int d7), .val (.int d8), .val (.int d9), .val (.int d10), .val (.int d11), .val (.int e1), .val (.int e2), .val (.ref ca), .val (.ref cb), .val (.int c0), .unset, .unset] [])) (fun T_ L_ X_ t_ q_ => XS.istore X_.here C.hx rfl (C.d at_378) rfl (l' := #[.val (.long p0), .second, .val (.long p1), .second, .val (.int p2), .val (.int d0), .val (.int d1), .val (.int d2), .val (.int d3), .val (.int d4), .val (.int d5), .val (.int d6), .val (.int d7), .val (.int d8), .val (.int d9), .val (.int d10), .val (.int d11), .val (.int e1), .val (.int e2), .val (.ref ca), .val (.ref cb), .val (.int c0), .unset, .unset]) rfl q_) ?_
  refine Go.new C (hw _ (List.mem_of_getElem? (i := 6) rfl)) (hw _ (List.mem_of_getElem? (i := 7) rfl)) (hw _ (List.mem_of_getElem? (i := 8) rfl)) at_380 (pc' := 383) rfl (k' := 5) (n' := 47) rfl rfl (by decide) (by decide) ?_
  intro s2 h31 q_s2 z_s2 E_s2 A_s2 D_s2
  have FV : Fld Z h31 s2 "java/lang/String" "value" "[B" .null := D_s2 (Or.inr (hw _ (List.mem_of_getElem? (i := 34) rfl))) (ty := (.array .byte)) (by decide)
  have FC : Fld Z h31 s2 "java/lang/String" "coder" "B" (.int (0 : Int32)) := D_s2 (Or.inr (hw _ (List.mem_of_getElem? (i := 32) rfl))) (ty := .byte) (by decide)
  refine Go.plain (g' := (mkF m 384 #[.val (.long p0), .second, .val (.long p1), .second, .val (.int p2), .val (.int d0), .val (.int d1), .val (.int d2), .val (.int d3), .val (.int d4), .val (.int d5), .val (.int d6), .val (.int d7), .val (.int d8), .val (.int d9), .val (.int d10), .val (.int d11), .val (.int e1), .val (.int e2), .val (.ref ca), .val (.ref cb), .val (.int c0), .unset, .unset] [(.ref s2), (.ref s2)])) (fun T_ L_ X_ t_ q_ => XS.dup X_.here C.hx rfl (C.d at_383) rfl rfl q_) ?_
  refine Go.plain (g' := (mkF m 386 #[.val (.long p0), .second, .val (.long p1), .second, .val (.int p2), .val (.int d0), .val (.int d1), .val (.int d2), .val (.int d3), .val (.int d4), .val (.int d5), .val (.int d6), .val (.int d7), .val (.int d8), .val (.int d9), .val (.int d10), .val (.int d11), .val (.int e1), .val (.int e2), .val (.ref ca), .val (.ref cb), .val (.int c0), .unset, .unset] [(.ref cb), (.ref s2), (.ref s2)])) (fun T_ L_ X_ t_ q_ => XS.aload X_.here C.hx rfl (C.d at_384) rfl rfl q_) ?_
  refine Go.strInit hw C (cs := [(48 : Int32) + d0, (48 : Int32) + d1, (48 : Int32) + d2, (48 : Int32) + d3, (48 : Int32) + d4, (48 : Int32) + d5, (48 : Int32) + d6, (48 : Int32) + d7, (48 : Int32) + d8, (48 : Int32) + d9, (48 : Int32) + d10, (48 : Int32) + d11, (48 : Int32) + e2]) (nn := 13) z_s2 A_s2 FV FC (V_cb.ext E_s2) S0 hz rfl rfl (by decide) (by decide) (rng13 r0 r1 r2 r3 r4 r5 r6 r7 r8 r9 r10 r11 re2) (hw _ (List.mem_of_getElem? (i := 7) rfl)) (hw _ (List.mem_of_getElem? (i := 9) rfl)) (hw _ (List.mem_of_getElem? (i := 10) rfl)) at_386 (pc' := 389) rfl rfl (W := 1) (Nat.le_of_eq rfl) (by decide) (by decide) (k' := 6) (n' := 60) rfl rfl (by decide) (by decide) ?_
  intro h32 K_s2 T_s2
  have X_s2 := ext_keep1 E_s2 K_s2 (Nat.le_of_eq q_s2.symm)
  have V_ca := V_ca.ext X_s2
  have V_cb := V_cb.ext X_s2
  refine Go.static C (P_isbn l Z a0 hw s2 d0 d1 d2 d3 d4 d5 d6 d7 d8 d9 d10 d11 e2 zc fm h32 T_s2 r0 r1 r2 r3 r4 r5 r6 r7 r8 r9 r10 r11 S0 hz SF rf) (hw _ (List.mem_of_getElem? (i := 35) rfl)) (hw _ (List.mem_of_getElem? (i := 36) rfl)) (hw _ (List.mem_of_getElem? (i := 37) rfl)) (hw _ (List.mem_of_getElem? (i := 38) rfl)) (by decide) pd_1 (argsL := [(.ref s2)]) (rest := []) rfl rfl at_389 (pc' := 392) rfl rfl rfl (W := 0) (Nat.le_of_eq rfl) (by decide) (by decide) (k' := 6) (n' := 60) rfl rfl (by decide) (by decide) ?_
  rintro _ _ ⟨c1, rfl, hc1, rfl⟩
  show Go p l e room_1 s m #[(.long p0), (.long p1), (.int p2)] below meth c Z (fun v h => v = some (.int (1 : Int32))) h32 6 60 (mkF m 392 #[.val (.long p0), .second, .val (.long p1), .second, .val (.int p2), .val (.int d0), .val (.int d1), .val (.int d2), .val (.int d3), .val (.int d4), .val (.int d5), .val (.int d6), .val (.int d7), .val (.int d8), .val (.int d9), .val (.int d10), .val (.int d11), .val (.int e1), .val (.int e2), .val (.ref ca), .val (.ref cb), .val (.int c0), .unset, .unset] [(.int c1)])
  refine Go.plain (g' := (mkF m 394 #[.val (.long p0), .second, .val (.long p1), .second, .val (.int p2), .val (.int d0), .val (.int d1), .val (.int d2), .val (.int d3), .val (.int d4), .val (.int d5), .val (.int d6), .val (.int d7), .val (.int d8), .val (.int d9), .val (.int d10), .val (.int d11), .val (.int e1), .val (.int e2), .val (.ref ca), .val (.ref cb), .val (.int c0), .val (.int c1), .unset] [])) (fun T_ L_ X_ t_ q_ => XS.istore X_.here C.hx rfl (C.d at_392) rfl (l' := #[.val (.long p0), .second, .val (.long p1), .second, .val (.int p2), .val (.int d0), .val (.int d1), .val (.int d2), .val (.int d3), .val (.int d4), .val (.int d5), .val (.int d6), .val (.int d7), .val (.int d8), .val (.int d9), .val (.int d10), .val (.int d11), .val (.int e1), .val (.int e2), .val (.ref ca), .val (.ref cb), .val (.int c0), .val (.int c1), .unset]) rfl q_) ?_
  have u0 : d0.toInt = d0.toInt := rfl
  refine Go.plain (g' := (mkF m 396 #[.val (.long p0), .second, .val (.long p1), .second, .val (.int p2), .val (.int d0), .val (.int d1), .val (.int d2), .val (.int d3), .val (.int d4), .val (.int d5), .val (.int d6), .val (.int d7), .val (.int d8), .val (.int d9), .val (.int d10), .val (.int d11), .val (.int e1), .val (.int e2), .val (.ref ca), .val (.ref cb), .val (.int c0), .val (.int c1), .unset] [(.int d0)])) (fun T_ L_ X_ t_ q_ => XS.iload X_.here C.hx rfl (C.d at_394) rfl q_) ?_
  refine Go.plain (g' := (mkF m 397 #[.val (.long p0), .second, .val (.long p1), .second, .val (.int p2), .val (.int d0), .val (.int d1), .val (.int d2), .val (.int d3), .val (.int d4), .val (.int d5), .val (.int d6), .val (.int d7), .val (.int d8), .val (.int d9), .val (.int d10), .val (.int d11), .val (.int e1), .val (.int e2), .val (.ref ca), .val (.ref cb), .val (.int c0), .val (.int c1), .unset] [(.int (3 : Int32)), (.int d0)])) (fun T_ L_ X_ t_ q_ => XS.iconst X_.here C.hx rfl (C.d at_396) q_) ?_
  refine Go.plain (g' := (mkF m 399 #[.val (.long p0), .second, .val (.long p1), .second, .val (.int p2), .val (.int d0), .val (.int d1), .val (.int d2), .val (.int d3), .val (.int d4), .val (.int d5), .val (.int d6), .val (.int d7), .val (.int d8), .val (.int d9), .val (.int d10), .val (.int d11), .val (.int e1), .val (.int e2), .val (.ref ca), .val (.ref cb), .val (.int c0), .val (.int c1), .unset] [(.int d1), (.int (3 : Int32)), (.int d0)])) (fun T_ L_ X_ t_ q_ => XS.iload X_.here C.hx rfl (C.d at_397) rfl q_) ?_
  refine Go.plain (g' := (mkF m 400 #[.val (.long p0), .second, .val (.long p1), .second, .val (.int p2), .val (.int d0), .val (.int d1), .val (.int d2), .val (.int d3), .val (.int d4), .val (.int d5), .val (.int d6), .val (.int d7), .val (.int d8), .val (.int d9), .val (.int d10), .val (.int d11), .val (.int e1), .val (.int e2), .val (.ref ca), .val (.ref cb), .val (.int c0), .val (.int c1), .unset] [(.int ((3 : Int32) * d1)), (.int d0)])) (fun T_ L_ X_ t_ q_ => XS.imul X_.here C.hx rfl (C.d at_399) rfl q_) ?_
  refine Go.plain (g' := (mkF m 401 #[.val (.long p0), .second, .val (.long p1), .second, .val (.int p2), .val (.int d0), .val (.int d1), .val (.int d2), .val (.int d3), .val (.int d4), .val (.int d5), .val (.int d6), .val (.int d7), .val (.int d8), .val (.int d9), .val (.int d10), .val (.int d11), .val (.int e1), .val (.int e2), .val (.ref ca), .val (.ref cb), .val (.int c0), .val (.int c1), .unset] [(.int (d0 + ((3 : Int32) * d1)))])) (fun T_ L_ X_ t_ q_ => XS.iadd X_.here C.hx rfl (C.d at_400) rfl q_) ?_
  have hu1 := addT d0 d1 (by omega) (by omega)
  generalize (d0 + ((3 : Int32) * d1)) = u1v at hu1 ⊢
  refine Go.plain (g' := (mkF m 403 #[.val (.long p0), .second, .val (.long p1), .second, .val (.int p2), .val (.int d0), .val (.int d1), .val (.int d2), .val (.int d3), .val (.int d4), .val (.int d5), .val (.int d6), .val (.int d7), .val (.int d8), .val (.int d9), .val (.int d10), .val (.int d11), .val (.int e1), .val (.int e2), .val (.ref ca), .val (.ref cb), .val (.int c0), .val (.int c1), .unset] [(.int d2), (.int u1v)])) (fun T_ L_ X_ t_ q_ => XS.iload X_.here C.hx rfl (C.d at_401) rfl q_) ?_
  refine Go.plain (g' := (mkF m 404 #[.val (.long p0), .second, .val (.long p1), .second, .val (.int p2), .val (.int d0), .val (.int d1), .val (.int d2), .val (.int d3), .val (.int d4), .val (.int d5), .val (.int d6), .val (.int d7), .val (.int d8), .val (.int d9), .val (.int d10), .val (.int d11), .val (.int e1), .val (.int e2), .val (.ref ca), .val (.ref cb), .val (.int c0), .val (.int c1), .unset] [(.int (u1v + d2))])) (fun T_ L_ X_ t_ q_ => XS.iadd X_.here C.hx rfl (C.d at_403) rfl q_) ?_
  have hu2 := addS u1v d2 (by omega) (by omega)
  generalize (u1v + d2) = u2v at hu2 ⊢
  refine Go.plain (g' := (mkF m 405 #[.val (.long p0), .second, .val (.long p1), .second, .val (.int p2), .val (.int d0), .val (.int d1), .val (.int d2), .val (.int d3), .val (.int d4), .val (.int d5), .val (.int d6), .val (.int d7), .val (.int d8), .val (.int d9), .val (.int d10), .val (.int d11), .val (.int e1), .val (.int e2), .val (.ref ca), .val (.ref cb), .val (.int c0), .val (.int c1), .unset] [(.int (3 : Int32)), (.int u2v)])) (fun T_ L_ X_ t_ q_ => XS.iconst X_.here C.hx rfl (C.d at_404) q_) ?_
  refine Go.plain (g' := (mkF m 407 #[.val (.long p0), .second, .val (.long p1), .second, .val (.int p2), .val (.int d0), .val (.int d1), .val (.int d2), .val (.int d3), .val (.int d4), .val (.int d5), .val (.int d6), .val (.int d7), .val (.int d8), .val (.int d9), .val (.int d10), .val (.int d11), .val (.int e1), .val (.int e2), .val (.ref ca), .val (.ref cb), .val (.int c0), .val (.int c1), .unset] [(.int d3), (.int (3 : Int32)), (.int u2v)])) (fun T_ L_ X_ t_ q_ => XS.iload X_.here C.hx rfl (C.d at_405) rfl q_) ?_
  refine Go.plain (g' := (mkF m 408 #[.val (.long p0), .second, .val (.long p1), .second, .val (.int p2), .val (.int d0), .val (.int d1), .val (.int d2), .val (.int d3), .val (.int d4), .val (.int d5), .val (.int d6), .val (.int d7), .val (.int d8), .val (.int d9), .val (.int d10), .val (.int d11), .val (.int e1), .val (.int e2), .val (.ref ca), .val (.ref cb), .val (.int c0), .val (.int c1), .unset] [(.int ((3 : Int32) * d3)), (.int u2v)])) (fun T_ L_ X_ t_ q_ => XS.imul X_.here C.hx rfl (C.d at_407) rfl q_) ?_
  refine Go.plain (g' := (mkF m 409 #[.val (.long p0), .second, .val (.long p1), .second, .val (.int p2), .val (.int d0), .val (.int d1), .val (.int d2), .val (.int d3), .val (.int d4), .val (.int d5), .val (.int d6), .val (.int d7), .val (.int d8), .val (.int d9), .val (.int d10), .val (.int d11), .val (.int e1), .val (.int e2), .val (.ref ca), .val (.ref cb), .val (.int c0), .val (.int c1), .unset] [(.int (u2v + ((3 : Int32) * d3)))])) (fun T_ L_ X_ t_ q_ => XS.iadd X_.here C.hx rfl (C.d at_408) rfl q_) ?_
  have hu3 := addT u2v d3 (by omega) (by omega)
  generalize (u2v + ((3 : Int32) * d3)) = u3v at hu3 ⊢
  refine Go.plain (g' := (mkF m 411 #[.val (.long p0), .second, .val (.long p1), .second, .val (.int p2), .val (.int d0), .val (.int d1), .val (.int d2), .val (.int d3), .val (.int d4), .val (.int d5), .val (.int d6), .val (.int d7), .val (.int d8), .val (.int d9), .val (.int d10), .val (.int d11), .val (.int e1), .val (.int e2), .val (.ref ca), .val (.ref cb), .val (.int c0), .val (.int c1), .unset] [(.int d4), (.int u3v)])) (fun T_ L_ X_ t_ q_ => XS.iload X_.here C.hx rfl (C.d at_409) rfl q_) ?_
  refine Go.plain (g' := (mkF m 412 #[.val (.long p0), .second, .val (.long p1), .second, .val (.int p2), .val (.int d0), .val (.int d1), .val (.int d2), .val (.int d3), .val (.int d4), .val (.int d5), .val (.int d6), .val (.int d7), .val (.int d8), .val (.int d9), .val (.int d10), .val (.int d11), .val (.int e1), .val (.int e2), .val (.ref ca), .val (.ref cb), .val (.int c0), .val (.int c1), .unset] [(.int (u3v + d4))])) (fun T_ L_ X_ t_ q_ => XS.iadd X_.here C.hx rfl (C.d at_411) rfl q_) ?_
  have hu4 := addS u3v d4 (by omega) (by omega)
  generalize (u3v + d4) = u4v at hu4 ⊢
  refine Go.plain (g' := (mkF m 413 #[.val (.long p0), .second, .val (.long p1), .second, .val (.int p2), .val (.int d0), .val (.int d1), .val (.int d2), .val (.int d3), .val (.int d4), .val (.int d5), .val (.int d6), .val (.int d7), .val (.int d8), .val (.int d9), .val (.int d10), .val (.int d11), .val (.int e1), .val (.int e2), .val (.ref ca), .val (.ref cb), .val (.int c0), .val (.int c1), .unset] [(.int (3 : Int32)), (.int u4v)])) (fun T_ L_ X_ t_ q_ => XS.iconst X_.here C.hx rfl (C.d at_412) q_) ?_
  refine Go.plain (g' := (mkF m 415 #[.val (.long p0), .second, .val (.long p1), .second, .val (.int p2), .val (.int d0), .val (.int d1), .val (.int d2), .val (.int d3), .val (.int d4), .val (.int d5), .val (.int d6), .val (.int d7), .val (.int d8), .val (.int d9), .val (.int d10), .val (.int d11), .val (.int e1), .val (.int e2), .val (.ref ca), .val (.ref cb), .val (.int c0), .val (.int c1), .unset] [(.int d5), (.int (3 : Int32)), (.int u4v)])) (fun T_ L_ X_ t_ q_ => XS.iload X_.here C.hx rfl (C.d at_413) rfl q_) ?_
  refine Go.plain (g' := (mkF m 416 #[.val (.long p0), .second, .val (.long p1), .second, .val (.int p2), .val (.int d0), .val (.int d1), .val (.int d2), .val (.int d3), .val (.int d4), .val (.int d5), .val (.int d6), .val (.int d7), .val (.int d8), .val (.int d9), .val (.int d10), .val (.int d11), .val (.int e1), .val (.int e2), .val (.ref ca), .val (.ref cb), .val (.int c0), .val (.int c1), .unset] [(.int ((3 : Int32) * d5)), (.int u4v)])) (fun T_ L_ X_ t_ q_ => XS.imul X_.here C.hx rfl (C.d at_415) rfl q_) ?_
  refine Go.plain (g' := (mkF m 417 #[.val (.long p0), .second, .val (.long p1), .second, .val (.int p2), .val (.int d0), .val (.int d1), .val (.int d2), .val (.int d3), .val (.int d4), .val (.int d5), .val (.int d6), .val (.int d7), .val (.int d8), .val (.int d9), .val (.int d10), .val (.int d11), .val (.int e1), .val (.int e2), .val (.ref ca), .val (.ref cb), .val (.int c0), .val (.int c1), .unset] [(.int (u4v + ((3 : Int32) * d5)))])) (fun T_ L_ X_ t_ q_ => XS.iadd X_.here C.hx rfl (C.d at_416) rfl q_) ?_
  have hu5 := addT u4v d5 (by omega) (by omega)
  generalize (u4v + ((3 : Int32) * d5)) = u5v at hu5 ⊢
  refine Go.plain (g' := (mkF m 419 #[.val (.long p0), .second, .val (.long p1), .second, .val (.int p2), .val (.int d0), .val (.int d1), .val (.int d2), .val (.int d3), .val (.int d4), .val (.int d5), .val (.int d6), .val (.int d7), .val (.int d8), .val (.int d9), .val (.int d10), .val (.int d11), .val (.int e1), .val (.int e2), .val (.ref ca), .val (.ref cb), .val (.int c0), .val (.int c1), .unset] [(.int d6), (.int u5v)])) (fun T_ L_ X_ t_ q_ => XS.iload X_.here C.hx rfl (C.d at_417) rfl q_) ?_
  refine Go.plain (g' := (mkF m 420 #[.val (.long p0), .second, .val (.long p1), .second, .val (.int p2), .val (.int d0), .val (.int d1), .val (.int d2), .val (.int d3), .val (.int d4), .val (.int d5), .val (.int d6), .val (.int d7), .val (.int d8), .val (.int d9), .val (.int d10), .val (.int d11), .val (.int e1), .val (.int e2), .val (.ref ca), .val (.ref cb), .val (.int c0), .val (.int c1), .unset] [(.int (u5v + d6))])) (fun T_ L_ X_ t_ q_ => XS.iadd X_.here C.hx rfl (C.d at_419) rfl q_) ?_
  have hu6 := addS u5v d6 (by omega) (by omega)
  generalize (u5v + d6) = u6v at hu6 ⊢
  refine Go.plain (g' := (mkF m 421 #[.val (.long p0), .second, .val (.long p1), .second, .val (.int p2), .val (.int d0), .val (.int d1), .val (.int d2), .val (.int d3), .val (.int d4), .val (.int d5), .val (.int d6), .val (.int d7), .val (.int d8), .val (.int d9), .val (.int d10), .val (.int d11), .val (.int e1), .val (.int e2), .val (.ref ca), .val (.ref cb), .val (.int c0), .val (.int c1), .unset] [(.int (3 : Int32)), (.int u6v)])) (fun T_ L_ X_ t_ q_ => XS.iconst X_.here C.hx rfl (C.d at_420) q_) ?_
  refine Go.plain (g' := (mkF m 423 #[.val (.long p0), .second, .val (.long p1), .second, .val (.int p2), .val (.int d0), .val (.int d1), .val (.int d2), .val (.int d3), .val (.int d4), .val (.int d5), .val (.int d6), .val (.int d7), .val (.int d8), .val (.int d9), .val (.int d10), .val (.int d11), .val (.int e1), .val (.int e2), .val (.ref ca), .val (.ref cb), .val (.int c0), .val (.int c1), .unset] [(.int d7), (.int (3 : Int32)), (.int u6v)])) (fun T_ L_ X_ t_ q_ => XS.iload X_.here C.hx rfl (C.d at_421) rfl q_) ?_
  refine Go.plain (g' := (mkF m 424 #[.val (.long p0), .second, .val (.long p1), .second, .val (.int p2), .val (.int d0), .val (.int d1), .val (.int d2), .val (.int d3), .val (.int d4), .val (.int d5), .val (.int d6), .val (.int d7), .val (.int d8), .val (.int d9), .val (.int d10), .val (.int d11), .val (.int e1), .val (.int e2), .val (.ref ca), .val (.ref cb), .val (.int c0), .val (.int c1), .unset] [(.int ((3 : Int32) * d7)), (.int u6v)])) (fun T_ L_ X_ t_ q_ => XS.imul X_.here C.hx rfl (C.d at_423) rfl q_) ?_
  refine Go.plain (g' := (mkF m 425 #[.val (.long p0), .second, .val (.long p1), .second, .val (.int p2), .val (.int d0), .val (.int d1), .val (.int d2), .val (.int d3), .val (.int d4), .val (.int d5), .val (.int d6), .val (.int d7), .val (.int d8), .val (.int d9), .val (.int d10), .val (.int d11), .val (.int e1), .val (.int e2), .val (.ref ca), .val (.ref cb), .val (.int c0), .val (.int c1), .unset] [(.int (u6v + ((3 : Int32) * d7)))])) (fun T_ L_ X_ t_ q_ => XS.iadd X_.here C.hx rfl (C.d at_424) rfl q_) ?_
  have hu7 := addT u6v d7 (by omega) (by omega)
  generalize (u6v + ((3 : Int32) * d7)) = u7v at hu7 ⊢
  refine Go.plain (g' := (mkF m 427 #[.val (.long p0), .second, .val (.long p1), .second, .val (.int p2), .val (.int d0), .val (.int d1), .val (.int d2), .val (.int d3), .val (.int d4), .val (.int d5), .val (.int d6), .val (.int d7), .val (.int d8), .val (.int d9), .val (.int d10), .val (.int d11), .val (.int e1), .val (.int e2), .val (.ref ca), .val (.ref cb), .val (.int c0), .val (.int c1), .unset] [(.int d8), (.int u7v)])) (fun T_ L_ X_ t_ q_ => XS.iload X_.here C.hx rfl (C.d at_425) rfl q_) ?_
  refine Go.plain (g' := (mkF m 428 #[.val (.long p0), .second, .val (.long p1), .second, .val (.int p2), .val (.int d0), .val (.int d1), .val (.int d2), .val (.int d3), .val (.int d4), .val (.int d5), .val (.int d6), .val (.int d7), .val (.int d8), .val (.int d9), .val (.int d10), .val (.int d11), .val (.int e1), .val (.int e2), .val (.ref ca), .val (.ref cb), .val (.int c0), .val (.int c1), .unset] [(.int (u7v + d8))])) (fun T_ L_ X_ t_ q_ => XS.iadd X_.here C.hx rfl (C.d at_427) rfl q_) ?_
  have hu8 := addS u7v d8 (by omega) (by omega)
  generalize (u7v + d8) = u8v at hu8 ⊢
  refine Go.plain (g' := (mkF m 429 #[.val (.long p0), .second, .val (.long p1), .second, .val (.int p2), .val (.int d0), .val (.int d1), .val (.int d2), .val (.int d3), .val (.int d4), .val (.int d5), .val (.int d6), .val (.int d7), .val (.int d8), .val (.int d9), .val (.int d10), .val (.int d11), .val (.int e1), .val (.int e2), .val (.ref ca), .val (.ref cb), .val (.int c0), .val (.int c1), .unset] [(.int (3 : Int32)), (.int u8v)])) (fun T_ L_ X_ t_ q_ => XS.iconst X_.here C.hx rfl (C.d at_428) q_) ?_
  refine Go.plain (g' := (mkF m 431 #[.val (.long p0), .second, .val (.long p1), .second, .val (.int p2), .val (.int d0), .val (.int d1), .val (.int d2), .val (.int d3), .val (.int d4), .val (.int d5), .val (.int d6), .val (.int d7), .val (.int d8), .val (.int d9), .val (.int d10), .val (.int d11), .val (.int e1), .val (.int e2), .val (.ref ca), .val (.ref cb), .val (.int c0), .val (.int c1), .unset] [(.int d9), (.int (3 : Int32)), (.int u8v)])) (fun T_ L_ X_ t_ q_ => XS.iload X_.here C.hx rfl (C.d at_429) rfl q_) ?_
  refine Go.plain (g' := (mkF m 432 #[.val (.long p0), .second, .val (.long p1), .second, .val (.int p2), .val (.int d0), .val (.int d1), .val (.int d2), .val (.int d3), .val (.int d4), .val (.int d5), .val (.int d6), .val (.int d7), .val (.int d8), .val (.int d9), .val (.int d10), .val (.int d11), .val (.int e1), .val (.int e2), .val (.ref ca), .val (.ref cb), .val (.int c0), .val (.int c1), .unset] [(.int ((3 : Int32) * d9)), (.int u8v)])) (fun T_ L_ X_ t_ q_ => XS.imul X_.here C.hx rfl (C.d at_431) rfl q_) ?_
  refine Go.plain (g' := (mkF m 433 #[.val (.long p0), .second, .val (.long p1), .second, .val (.int p2), .val (.int d0), .val (.int d1), .val (.int d2), .val (.int d3), .val (.int d4), .val (.int d5), .val (.int d6), .val (.int d7), .val (.int d8), .val (.int d9), .val (.int d10), .val (.int d11), .val (.int e1), .val (.int e2), .val (.ref ca), .val (.ref cb), .val (.int c0), .val (.int c1), .unset] [(.int (u8v + ((3 : Int32) * d9)))])) (fun T_ L_ X_ t_ q_ => XS.iadd X_.here C.hx rfl (C.d at_432) rfl q_) ?_
  have hu9 := addT u8v d9 (by omega) (by omega)
  generalize (u8v + ((3 : Int32) * d9)) = u9v at hu9 ⊢
  refine Go.plain (g' := (mkF m 435 #[.val (.long p0), .second, .val (.long p1), .second, .val (.int p2), .val (.int d0), .val (.int d1), .val (.int d2), .val (.int d3), .val (.int d4), .val (.int d5), .val (.int d6), .val (.int d7), .val (.int d8), .val (.int d9), .val (.int d10), .val (.int d11), .val (.int e1), .val (.int e2), .val (.ref ca), .val (.ref cb), .val (.int c0), .val (.int c1), .unset] [(.int d10), (.int u9v)])) (fun T_ L_ X_ t_ q_ => XS.iload X_.here C.hx rfl (C.d at_433) rfl q_) ?_
  refine Go.plain (g' := (mkF m 436 #[.val (.long p0), .second, .val (.long p1), .second, .val (.int p2), .val (.int d0), .val (.int d1), .val (.int d2), .val (.int d3), .val (.int d4), .val (.int d5), .val (.int d6), .val (.int d7), .val (.int d8), .val (.int d9), .val (.int d10), .val (.int d11), .val (.int e1), .val (.int e2), .val (.ref ca), .val (.ref cb), .val (.int c0), .val (.int c1), .unset] [(.int (u9v + d10))])) (fun T_ L_ X_ t_ q_ => XS.iadd X_.here C.hx rfl (C.d at_435) rfl q_) ?_
  have hu10 := addS u9v d10 (by omega) (by omega)
  generalize (u9v + d10) = u10v at hu10 ⊢
  refine Go.plain (g' := (mkF m 437 #[.val (.long p0), .second, .val (.long p1), .second, .val (.int p2), .val (.int d0), .val (.int d1), .val (.int d2), .val (.int d3), .val (.int d4), .val (.int d5), .val (.int d6), .val (.int d7), .val (.int d8), .val (.int d9), .val (.int d10), .val (.int d11), .val (.int e1), .val (.int e2), .val (.ref ca), .val (.ref cb), .val (.int c0), .val (.int c1), .unset] [(.int (3 : Int32)), (.int u10v)])) (fun T_ L_ X_ t_ q_ => XS.iconst X_.here C.hx rfl (C.d at_436) q_) ?_
  refine Go.plain (g' := (mkF m 439 #[.val (.long p0), .second, .val (.long p1), .second, .val (.int p2), .val (.int d0), .val (.int d1), .val (.int d2), .val (.int d3), .val (.int d4), .val (.int d5), .val (.int d6), .val (.int d7), .val (.int d8), .val (.int d9), .val (.int d10), .val (.int d11), .val (.int e1), .val (.int e2), .val (.ref ca), .val (.ref cb), .val (.int c0), .val (.int c1), .unset] [(.int d11), (.int (3 : Int32)), (.int u10v)])) (fun T_ L_ X_ t_ q_ => XS.iload X_.here C.hx rfl (C.d at_437) rfl q_) ?_
  refine Go.plain (g' := (mkF m 440 #[.val (.long p0), .second, .val (.long p1), .second, .val (.int p2), .val (.int d0), .val (.int d1), .val (.int d2), .val (.int d3), .val (.int d4), .val (.int d5), .val (.int d6), .val (.int d7), .val (.int d8), .val (.int d9), .val (.int d10), .val (.int d11), .val (.int e1), .val (.int e2), .val (.ref ca), .val (.ref cb), .val (.int c0), .val (.int c1), .unset] [(.int ((3 : Int32) * d11)), (.int u10v)])) (fun T_ L_ X_ t_ q_ => XS.imul X_.here C.hx rfl (C.d at_439) rfl q_) ?_
  refine Go.plain (g' := (mkF m 441 #[.val (.long p0), .second, .val (.long p1), .second, .val (.int p2), .val (.int d0), .val (.int d1), .val (.int d2), .val (.int d3), .val (.int d4), .val (.int d5), .val (.int d6), .val (.int d7), .val (.int d8), .val (.int d9), .val (.int d10), .val (.int d11), .val (.int e1), .val (.int e2), .val (.ref ca), .val (.ref cb), .val (.int c0), .val (.int c1), .unset] [(.int (u10v + ((3 : Int32) * d11)))])) (fun T_ L_ X_ t_ q_ => XS.iadd X_.here C.hx rfl (C.d at_440) rfl q_) ?_
  have hu11 := addT u10v d11 (by omega) (by omega)
  generalize (u10v + ((3 : Int32) * d11)) = u11v at hu11 ⊢
  refine Go.plain (g' := (mkF m 443 #[.val (.long p0), .second, .val (.long p1), .second, .val (.int p2), .val (.int d0), .val (.int d1), .val (.int d2), .val (.int d3), .val (.int d4), .val (.int d5), .val (.int d6), .val (.int d7), .val (.int d8), .val (.int d9), .val (.int d10), .val (.int d11), .val (.int e1), .val (.int e2), .val (.ref ca), .val (.ref cb), .val (.int c0), .val (.int c1), .val (.int u11v)] [])) (fun T_ L_ X_ t_ q_ => XS.istore X_.here C.hx rfl (C.d at_441) rfl (l' := #[.val (.long p0), .second, .val (.long p1), .second, .val (.int p2), .val (.int d0), .val (.int d1), .val (.int d2), .val (.int d3), .val (.int d4), .val (.int d5), .val (.int d6), .val (.int d7), .val (.int d8), .val (.int d9), .val (.int d10), .val (.int d11), .val (.int e1), .val (.int e2), .val (.ref ca), .val (.ref cb), .val (.int c0), .val (.int c1), .val (.int u11v)]) rfl q_) ?_
  have ec : c0 = c1 := by rw [← Int32.toInt_inj]; omega
  have l48 : (48 : Int32).toInt = 48 := rfl
  have l57 : (57 : Int32).toInt = 57 := rfl
  refine Go.plain (g' := (mkF m 445 #[.val (.long p0), .second, .val (.long p1), .second, .val (.int p2), .val (.int d0), .val (.int d1), .val (.int d2), .val (.int d3), .val (.int d4), .val (.int d5), .val (.int d6), .val (.int d7), .val (.int d8), .val (.int d9), .val (.int d10), .val (.int d11), .val (.int e1), .val (.int e2), .val (.ref ca), .val (.ref cb), .val (.int c0), .val (.int c1), .val (.int u11v)] [(.int c0)])) (fun T_ L_ X_ t_ q_ => XS.iload X_.here C.hx rfl (C.d at_443) rfl q_) ?_
  refine Go.plain (g' := (mkF m 447 #[.val (.long p0), .second, .val (.long p1), .second, .val (.int p2), .val (.int d0), .val (.int d1), .val (.int d2), .val (.int d3), .val (.int d4), .val (.int d5), .val (.int d6), .val (.int d7), .val (.int d8), .val (.int d9), .val (.int d10), .val (.int d11), .val (.int e1), .val (.int e2), .val (.ref ca), .val (.ref cb), .val (.int c0), .val (.int c1), .val (.int u11v)] [(.int (48 : Int32)), (.int c0)])) (fun T_ L_ X_ t_ q_ => XS.bipush X_.here C.hx rfl (C.d at_445) q_) ?_
  refine Go.plain (g' := (mkF m 450 #[.val (.long p0), .second, .val (.long p1), .second, .val (.int p2), .val (.int d0), .val (.int d1), .val (.int d2), .val (.int d3), .val (.int d4), .val (.int d5), .val (.int d6), .val (.int d7), .val (.int d8), .val (.int d9), .val (.int d10), .val (.int d11), .val (.int e1), .val (.int e2), .val (.ref ca), .val (.ref cb), .val (.int c0), .val (.int c1), .val (.int u11v)] [])) (fun T_ L_ X_ t_ q_ => XS.icmpNo X_.here C.hx rfl (C.d at_447) rfl (flt (by rw [Int32.lt_iff_toInt_lt]; omega : ¬ (c0 < (48 : Int32)))).1 q_) ?_
  refine Go.plain (g' := (mkF m 452 #[.val (.long p0), .second, .val (.long p1), .second, .val (.int p2), .val (.int d0), .val (.int d1), .val (.int d2), .val (.int d3), .val (.int d4), .val (.int d5), .val (.int d6), .val (.int d7), .val (.int d8), .val (.int d9), .val (.int d10), .val (.int d11), .val (.int e1), .val (.int e2), .val (.ref ca), .val (.ref cb), .val (.int c0), .val (.int c1), .val (.int u11v)] [(.int c0)])) (fun T_ L_ X_ t_ q_ => XS.iload X_.here C.hx rfl (C.d at_450) rfl q_) ?_
  refine Go.plain (g' := (mkF m 454 #[.val (.long p0), .second, .val (.long p1), .second, .val (.int p2), .val (.int d0), .val (.int d1), .val (.int d2), .val (.int d3), .val (.int d4), .val (.int d5), .val (.int d6), .val (.int d7), .val (.int d8), .val (.int d9), .val (.int d10), .val (.int d11), .val (.int e1), .val (.int e2), .val (.ref ca), .val (.ref cb), .val (.int c0), .val (.int c1), .val (.int u11v)] [(.int (57 : Int32)), (.int c0)])) (fun T_ L_ X_ t_ q_ => XS.bipush X_.here C.hx rfl (C.d at_452) q_) ?_
  refine Go.plain (g' := (mkF m 459 #[.val (.long p0), .second, .val (.long p1), .second, .val (.int p2), .val (.int d0), .val (.int d1), .val (.int d2), .val (.int d3), .val (.int d4), .val (.int d5), .val (.int d6), .val (.int d7), .val (.int d8), .val (.int d9), .val (.int d10), .val (.int d11), .val (.int e1), .val (.int e2), .val (.ref ca), .val (.ref cb), .val (.int c0), .val (.int c1), .val (.int u11v)] [])) (fun T_ L_ X_ t_ q_ => XS.icmpYes X_.here C.hx rfl (pc0 := 454) (pc' := 459) rfl (C.d at_454) rfl (flt (by rw [Int32.lt_iff_toInt_lt]; omega : ¬ ((57 : Int32) < c0))).2.2.2 (by decide) (by decide) q_) ?_
  refine Go.plain (g' := (mkF m 461 #[.val (.long p0), .second, .val (.long p1), .second, .val (.int p2), .val (.int d0), .val (.int d1), .val (.int d2), .val (.int d3), .val (.int d4), .val (.int d5), .val (.int d6), .val (.int d7), .val (.int d8), .val (.int d9), .val (.int d10), .val (.int d11), .val (.int e1), .val (.int e2), .val (.ref ca), .val (.ref cb), .val (.int c0), .val (.int c1), .val (.int u11v)] [(.int u11v)])) (fun T_ L_ X_ t_ q_ => XS.iload X_.here C.hx rfl (C.d at_459) rfl q_) ?_
  refine Go.plain (g' := (mkF m 463 #[.val (.long p0), .second, .val (.long p1), .second, .val (.int p2), .val (.int d0), .val (.int d1), .val (.int d2), .val (.int d3), .val (.int d4), .val (.int d5), .val (.int d6), .val (.int d7), .val (.int d8), .val (.int d9), .val (.int d10), .val (.int d11), .val (.int e1), .val (.int e2), .val (.ref ca), .val (.ref cb), .val (.int c0), .val (.int c1), .val (.int u11v)] [(.int c0), (.int u11v)])) (fun T_ L_ X_ t_ q_ => XS.iload X_.here C.hx rfl (C.d at_461) rfl q_) ?_
  refine Go.plain (g' := (mkF m 465 #[.val (.long p0), .second, .val (.long p1), .second, .val (.int p2), .val (.int d0), .val (.int d1), .val (.int d2), .val (.int d3), .val (.int d4), .val (.int d5), .val (.int d6), .val (.int d7), .val (.int d8), .val (.int d9), .val (.int d10), .val (.int d11), .val (.int e1), .val (.int e2), .val (.ref ca), .val (.ref cb), .val (.int c0), .val (.int c1), .val (.int u11v)] [(.int (48 : Int32)), (.int c0), (.int u11v)])) (fun T_ L_ X_ t_ q_ => XS.bipush X_.here C.hx rfl (C.d at_463) q_) ?_
  refine Go.plain (g' := (mkF m 466 #[.val (.long p0), .second, .val (.long p1), .second, .val (.int p2), .val (.int d0), .val (.int d1), .val (.int d2), .val (.int d3), .val (.int d4), .val (.int d5), .val (.int d6), .val (.int d7), .val (.int d8), .val (.int d9), .val (.int d10), .val (.int d11), .val (.int e1), .val (.int e2), .val (.ref ca), .val (.ref cb), .val (.int c0), .val (.int c1), .val (.int u11v)] [(.int (c0 - (48 : Int32))), (.int u11v)])) (fun T_ L_ X_ t_ q_ => XS.isub X_.here C.hx rfl (C.d at_465) rfl q_) ?_
  refine Go.plain (g' := (mkF m 467 #[.val (.long p0), .second, .val (.long p1), .second, .val (.int p2), .val (.int d0), .val (.int d1), .val (.int d2), .val (.int d3), .val (.int d4), .val (.int d5), .val (.int d6), .val (.int d7), .val (.int d8), .val (.int d9), .val (.int d10), .val (.int d11), .val (.int e1), .val (.int e2), .val (.ref ca), .val (.ref cb), .val (.int c0), .val (.int c1), .val (.int u11v)] [(.int (u11v + (c0 - (48 : Int32))))])) (fun T_ L_ X_ t_ q_ => XS.iadd X_.here C.hx rfl (C.d at_466) rfl q_) ?_
  refine Go.plain (g' := (mkF m 469 #[.val (.long p0), .second, .val (.long p1), .second, .val (.int p2), .val (.int d0), .val (.int d1), .val (.int d2), .val (.int d3), .val (.int d4), .val (.int d5), .val (.int d6), .val (.int d7), .val (.int d8), .val (.int d9), .val (.int d10), .val (.int d11), .val (.int e1), .val (.int e2), .val (.ref ca), .val (.ref cb), .val (.int c0), .val (.int c1), .val (.int u11v)] [(.int (10 : Int32)), (.int (u11v + (c0 - (48 : Int32))))])) (fun T_ L_ X_ t_ q_ => XS.bipush X_.here C.hx rfl (C.d at_467) q_) ?_
  refine Go.irem C at_469 (by decide) (pc' := 470) rfl ?_
  refine Go.plain (g' := (mkF m 473 #[.val (.long p0), .second, .val (.long p1), .second, .val (.int p2), .val (.int d0), .val (.int d1), .val (.int d2), .val (.int d3), .val (.int d4), .val (.int d5), .val (.int d6), .val (.int d7), .val (.int d8), .val (.int d9), .val (.int d10), .val (.int d11), .val (.int e1), .val (.int e2), .val (.ref ca), .val (.ref cb), .val (.int c0), .val (.int c1), .val (.int u11v)] [])) (fun T_ L_ X_ t_ q_ => XS.ifNo X_.here C.hx rfl (C.d at_470) rfl ((if0 _ _).trans (teq (chk_zero u11v c0 (by omega) (by omega) : ((u11v + (c0 - (48 : Int32))) % (10 : Int32)) = (0 : Int32))).2) q_) ?_
  refine Go.plain (g' := (mkF m 475 #[.val (.long p0), .second, .val (.long p1), .second, .val (.int p2), .val (.int d0), .val (.int d1), .val (.int d2), .val (.int d3), .val (.int d4), .val (.int d5), .val (.int d6), .val (.int d7), .val (.int d8), .val (.int d9), .val (.int d10), .val (.int d11), .val (.int e1), .val (.int e2), .val (.ref ca), .val (.ref cb), .val (.int c0), .val (.int c1), .val (.int u11v)] [(.int c0)])) (fun T_ L_ X_ t_ q_ => XS.iload X_.here C.hx rfl (C.d at_473) rfl q_) ?_
  refine Go.plain (g' := (mkF m 477 #[.val (.long p0), .second, .val (.long p1), .second, .val (.int p2), .val (.int d0), .val (.int d1), .val (.int d2), .val (.int d3), .val (.int d4), .val (.int d5), .val (.int d6), .val (.int d7), .val (.int d8), .val (.int d9), .val (.int d10), .val (.int d11), .val (.int e1), .val (.int e2), .val (.ref ca), .val (.ref cb), .val (.int c0), .val (.int c1), .val (.int u11v)] [(.int c1), (.int c0)])) (fun T_ L_ X_ t_ q_ => XS.iload X_.here C.hx rfl (C.d at_475) rfl q_) ?_
  refine Go.plain (g' := (mkF m 480 #[.val (.long p0), .second, .val (.long p1), .second, .val (.int p2), .val (.int d0), .val (.int d1), .val (.int d2), .val (.int d3), .val (.int d4), .val (.int d5), .val (.int d6), .val (.int d7), .val (.int d8), .val (.int d9), .val (.int d10), .val (.int d11), .val (.int e1), .val (.int e2), .val (.ref ca), .val (.ref cb), .val (.int c0), .val (.int c1), .val (.int u11v)] [])) (fun T_ L_ X_ t_ q_ => XS.icmpNo X_.here C.hx rfl (C.d at_477) rfl (teq (ec : c0 = c1)).2 q_) ?_
  refine Go.plain (g' := (mkF m 481 #[.val (.long p0), .second, .val (.long p1), .second, .val (.int p2), .val (.int d0), .val (.int d1), .val (.int d2), .val (.int d3), .val (.int d4), .val (.int d5), .val (.int d6), .val (.int d7), .val (.int d8), .val (.int d9), .val (.int d10), .val (.int d11), .val (.int e1), .val (.int e2), .val (.ref ca), .val (.ref cb), .val (.int c0), .val (.int c1), .val (.int u11v)] [(.int (1 : Int32))])) (fun T_ L_ X_ t_ q_ => XS.iconst X_.here C.hx rfl (C.d at_480) q_) ?_
  refine Go.plain (g' := (mkF m 485 #[.val (.long p0), .second, .val (.long p1), .second, .val (.int p2), .val (.int d0), .val (.int d1), .val (.int d2), .val (.int d3), .val (.int d4), .val (.int d5), .val (.int d6), .val (.int d7), .val (.int d8), .val (.int d9), .val (.int d10), .val (.int d11), .val (.int e1), .val (.int e2), .val (.ref ca), .val (.ref cb), .val (.int c0), .val (.int c1), .val (.int u11v)] [(.int (1 : Int32))])) (fun T_ L_ X_ t_ q_ => XS.goto X_.here C.hx rfl (pc0 := 481) (pc' := 485) rfl (C.d at_481) (by decide) (by decide) q_) ?_
  exact Go.retN C (by simp) at_485 (by decide) (by decide) rfl
set_option maxRecDepth 65536 in
set_option maxHeartbeats 40000000 in
theorem comes_1 {Post : Tables → Env → Array Value → State → Outcome → State → Prop} (hpost : ∀ tb e args s v u, (limb_1_1.after args s (.returned v) u = true ∧ limb_1_2.after args s (.returned v) u = true ∧ True) → FrameEnd s (.returned v) u (Jvm.fieldLocs frame_1_writes args s ++ Jvm.arrayLocs frame_1_arrays args s ++ Jvm.staticLocs frame_1_statics s) 24 192 → Post tb e args s (.returned v) u) :
    ArmFor flags0 classFile x code maxLocals ret World_1 tables_1 room_1 Calls_1 rest_1 Pre_1 Post := by
  intro l hfl _ _ p e ha hc hk s m args below hf hA hF happ hP
  obtain ⟨hcalls, hrest, hpre⟩ := hP
  obtain ⟨-, -, -, hnamed, -, -, -, hat⟩ := (Spec.applies_iff hf).mp happ
  obtain ⟨hg, hn⟩ := and_e (Cond.before_iff.mp (show (Jvm.Cond.and given_1 narrow_1).before args s = true from hpre))
  obtain ⟨gg0, hg⟩ := and_e hg
  obtain ⟨gg1, hg⟩ := and_e hg
  obtain ⟨gg2, hg⟩ := and_e hg
  have gg3 := hg
  obtain ⟨w0, w1, w2, rfl⟩ : ∃ w0 w1 w2 : Value, args = #[w0, w1, w2] := by
    have hs : args.size = 3 := by simpa [Cond.value, given_1] using gg0
    obtain ⟨L⟩ := args
    match L, hs with
    | [w0, w1, w2], _ => exact ⟨w0, w1, w2, rfl⟩
  have hw := fun d (hd : d ∈ tables_1) => atoms_spec (ws := Jvm.Cond.code x code maxLocals ret :: tables_1) hat d (List.mem_cons_of_mem _ hd)
  obtain ⟨hsets, hown0⟩ := atoms_of _ (rest_1_c_eq ▸ (show rest_1_c.before _ s = true from hrest))
  obtain ⟨i0, ei0⟩ := isL_v gg1
  obtain rfl : w0 = (.long i0) := Option.some.inj ei0
  obtain ⟨i1, ei1⟩ := isL_v gg2
  obtain rfl : w1 = (.long i1) := Option.some.inj ei1
  obtain ⟨i2, ei2⟩ := is_v gg3
  obtain rfl : w2 = (.int i2) := Option.some.inj ei2
  have n3 := not_v (Cond.before_iff.mp (hsets _ (List.mem_of_getElem? (i := 2) rfl)))
  obtain ⟨zc, ez⟩ := is_v (Cond.before_iff.mp (hsets _ (List.mem_of_getElem? (i := 1) rfl)))
  have S0 := Sta.start ez (Or.inl (hsets _ (List.mem_of_getElem? (i := 0) rfl)))
  have hz : ¬ zc = 0 := gotF (eq_I0 ez) n3
  obtain ⟨fm, ef, rf⟩ := isR_v (Cond.before_iff.mp (hsets _ (List.mem_of_getElem? (i := 8) rfl)))
  have SF := Sta.start ef (Or.inl (hsets _ (List.mem_of_getElem? (i := 7) rfl)))
  obtain ⟨n, o, h1, h2, h3, _, L, rfl, ⟨rfl, -, N⟩, hq⟩ := P_law l s _ hw i0 i1 i2 zc fm s.heap S0 hz SF rf (ext_refl _) tables_1 p e ha hc hk s m _ below hf ((Spec.applies_iff_loose hf).mp happ).1 ⟨rfl, State.Warmed39.refl s, rfl⟩ trivial
  refine ⟨n, _, h1, h2, h3, hpost _ _ _ _ _ _ ⟨Cond.after_iff.mpr rfl, Cond.after_iff.mpr (eq_i res_at (Term.int_eval (1)) rfl), trivial⟩ ⟨hq.1, hq.2.1, (hq.2.2.sift fun y hy => Or.inr (N y hy)).mono (by decide) (by decide)⟩⟩
theorem main_1_1 : Claimed_1_1 := comes_1 fun _ _ _ _ _ _ h hF => ⟨h.1, hF⟩
theorem main_1_2 : Claimed_1_2 := comes_1 fun _ _ _ _ _ _ h hF => ⟨h.2.1, hF⟩
end Jvm.Pilot.@@N@@
namespace Jvm.Pilot.@@N@@
open Jvm Jvm.ClassFile Sem Op Lib Jvm.Free Jvm.Stand Jvm.Pilot.@@N@@.Jvm.D
/-! MADE BY PROGRAM (witnessworld.py) out of the Statement's table words and the real class files: 20 classes; the members and pool entries that the words name. The judged class is class 1, her method 2. -/
namespace start1
open Jvm.ClassFile
def u (s : String) : CpInfo := .utf8 (stringToUtf16 s)
/-- a pool by its gaps: so many unusable entries, then the entry; so many at the end -/
def gap : Nat → List CpInfo → List CpInfo
  | 0, r => r
  | n + 1, r => .unusable :: gap n r
def poolList (es : List (Nat × CpInfo)) (last : Nat) : List CpInfo := es.foldr (fun e r => gap e.1 (e.2 :: r)) (gap last [])
def pool (es : List (Nat × CpInfo)) (last : Nat) : Array CpInfo := ⟨poolList es last⟩
def fileOf (pool : Array CpInfo) (this : Nat) (attrs : Array Attribute := #[]) (ms : Array MethodInfo := #[]) (fl : Nat := 33) (sup : Nat := 0) (ifs : Array Nat := #[]) (fds : Array FieldInfo := #[]) : ClassFile where
  minorVersion := 0
  majorVersion := 65
  constantPool := pool
  accessFlags := fl
  thisClass := this
  superClass := sup
  interfaces := ifs
  fields := fds
  methods := ms
  attributes := attrs
def plain (name : String) (sup : Option ClassId) : Class where
  name := name
  kind := .ordinary
  loader := none
  accessFlags := 33
  super := sup
  interfaces := #[]
  cf := none
  fields := #[]
  methods := #[]
  instanceTypes := #[]
  staticTypes := #[]
  resolved := #[]
  callSites := []
  init := .initialized
  statics := none
  mirror := none

def pool0 : Array CpInfo := pool [(5, u "<init>"), (0, u "()V"), (1, .class_ 10), (1, u "java/lang/Object")] 113

def k0c0 : Code := { maxStack := 0, maxLocals := 1, code := object_method_1_code, exceptionTable := #[], attributes := #[] }
def k0m0 : Method := { name := "<init>", desc := "()V", sig := { parameters := [], returnType := none }, accessFlags := 1, code := some k0c0 }
/-- java/lang/Object -/
def k0 : Class := { plain "java/lang/Object" none with
  accessFlags := 33
  interfaces := #[]
  cf := some (fileOf pool0 8 #[] #[{ accessFlags := 1, nameIndex := 5, descriptorIndex := 6, attributes := #[] }] 33 0 #[] #[])
  fields := #[]
  methods := #[k0m0]
  instanceTypes := #[]
  staticTypes := #[]
  resolved := Array.replicate 124 none
  statics := none }

def pool1 : Array CpInfo := pool [(2, .class_ 4), (1, u "java/lang/Object"), (0, u "<init>"), (0, u "()V"), (0, .long 31), (1, .methodref 10 11), (0, .class_ 12), (0, .nameAndType 13 14), (0, u "com/example/accessio/accessio/CheckDigitsIsbn13PinLaw"), (0, u "dig"), (0, u "(JI)I"), (0, .class_ 16), (0, u "java/lang/String"), (0, .methodref 15 18), (0, .nameAndType 5 19), (0, u "([C)V"), (0, .methodref 21 22), (0, .class_ 23), (0, .nameAndType 24 25), (0, u "com/example/accessio/accessio/CheckDigits"), (0, u "isbn13"), (0, u "(Ljava/lang/String;)C"), (2, u "law"), (0, u "(JJI)Z")] 5

def k1m0 : Method := { name := "<init>", desc := "()V", sig := { parameters := [], returnType := none }, accessFlags := 2, code := none }
def k1c1 : Code := { maxStack := 4, maxLocals := 3, code := method_2_code, exceptionTable := #[], attributes := #[] }
def k1m1 : Method := { name := "dig", desc := "(JI)I", sig := { parameters := [.long, .int], returnType := some .int }, accessFlags := 10, code := some k1c1 }
def k1c2 : Code := { maxStack := 5, maxLocals := 24, code := code, exceptionTable := #[], attributes := #[] }
def k1m2 : Method := { name := "law", desc := "(JJI)Z", sig := { parameters := [.long, .long, .int], returnType := some .boolean }, accessFlags := 9, code := some k1c2 }
/-- com/example/accessio/accessio/CheckDigitsIsbn13PinLaw -/
def k1 : Class := { plain "com/example/accessio/accessio/CheckDigitsIsbn13PinLaw" (some 0) with
  accessFlags := 49
  interfaces := #[]
  cf := some (fileOf pool1 10 #[] #[{ accessFlags := 2, nameIndex := 5, descriptorIndex := 6, attributes := #[] }, { accessFlags := 10, nameIndex := 13, descriptorIndex := 14, attributes := #[] }, { accessFlags := 9, nameIndex := 28, descriptorIndex := 29, attributes := #[] }] 49 2 #[] #[])
  fields := #[]
  methods := #[k1m0, k1m1, k1m2]
  instanceTypes := #[]
  staticTypes := #[]
  resolved := Array.replicate 35 none
  statics := none }

def pool2 : Array CpInfo := pool [(1, .class_ 2), (0, u "java/io/Serializable"), (0, .class_ 4), (0, u "java/lang/Object")] 2

/-- java/io/Serializable -/
def k2 : Class := { plain "java/io/Serializable" (some 0) with
  accessFlags := 1537
  interfaces := #[]
  cf := some (fileOf pool2 1 #[] #[] 1537 3 #[] #[])
  fields := #[]
  methods := #[]
  instanceTypes := #[]
  staticTypes := #[]
  resolved := Array.replicate 7 none
  statics := none }

def pool3 : Array CpInfo := pool [(1, .class_ 2), (0, u "java/lang/Comparable"), (0, .class_ 4), (0, u "java/lang/Object")] 7

/-- java/lang/Comparable -/
def k3 : Class := { plain "java/lang/Comparable" (some 0) with
  accessFlags := 1537
  interfaces := #[]
  cf := some (fileOf pool3 1 #[] #[] 1537 3 #[] #[])
  fields := #[]
  methods := #[]
  instanceTypes := #[]
  staticTypes := #[]
  resolved := Array.replicate 12 none
  statics := none }

def pool4 : Array CpInfo := pool [(2, .class_ 4), (1, u "java/lang/CharSequence"), (42, .class_ 48), (0, u "java/lang/CharSequence$1CodePointIterator"), (10, .class_ 60), (0, u "java/lang/CharSequence$1CharIterator"), (5, .class_ 67), (0, u "java/lang/Object")] 63

/-- java/lang/CharSequence -/
def k4 : Class := { plain "java/lang/CharSequence" (some 0) with
  accessFlags := 1537
  interfaces := #[]
  cf := some (fileOf pool4 2 #[.nestMembers #[47, 59]] #[] 1537 66 #[] #[])
  fields := #[]
  methods := #[]
  instanceTypes := #[]
  staticTypes := #[]
  resolved := Array.replicate 131 none
  statics := none }

def pool5 : Array CpInfo := pool [(1, .class_ 2), (0, u "java/lang/constant/Constable"), (0, .class_ 4), (0, u "java/lang/Object")] 6

/-- java/lang/constant/Constable -/
def k5 : Class := { plain "java/lang/constant/Constable" (some 0) with
  accessFlags := 1537
  interfaces := #[]
  cf := some (fileOf pool5 1 #[] #[] 1537 3 #[] #[])
  fields := #[]
  methods := #[]
  instanceTypes := #[]
  staticTypes := #[]
  resolved := Array.replicate 11 none
  statics := none }

def pool6 : Array CpInfo := pool [(1, .class_ 2), (0, u "java/lang/constant/ConstantDesc"), (0, .class_ 4), (0, u "java/lang/Object")] 32

/-- java/lang/constant/ConstantDesc -/
def k6 : Class := { plain "java/lang/constant/ConstantDesc" (some 0) with
  accessFlags := 1537
  interfaces := #[]
  cf := some (fileOf pool6 1 #[] #[] 1537 3 #[] #[])
  fields := #[]
  methods := #[]
  instanceTypes := #[]
  staticTypes := #[]
  resolved := Array.replicate 37 none
  statics := none }

def pool7 : Array CpInfo := pool [(1, .methodref 2 3), (0, .class_ 4), (0, .nameAndType 5 6), (0, u "java/lang/Object"), (0, u "<init>"), (0, u "()V"), (2, .fieldref 10 11), (0, .class_ 12), (0, .nameAndType 13 14), (0, u "java/lang/String"), (0, u "value"), (0, u "[B"), (0, .fieldref 10 16), (0, .nameAndType 17 18), (0, u "coder"), (0, u "B"), (2, u "hash"), (0, u "I"), (2, u "hashIsZero"), (0, u "Z"), (0, .methodref 10 28), (0, .nameAndType 5 29), (0, u "([CIILjava/lang/Void;)V"), (8, .fieldref 10 39), (0, .nameAndType 40 26), (0, u "COMPACT_STRINGS"), (1, .class_ 44), (1, u "java/lang/StringUTF16"), (0, u "compress"), (1, .methodref 42 48), (0, .nameAndType 49 50), (0, u "coderFromArrayLen"), (0, u "([BI)B"), (56, .class_ 109), (1, u "java/lang/StringLatin1"), (32, u "()Z"), (34, .methodref 42 178), (0, .nameAndType 45 179), (0, u "([CII)[B"), (183, u "([BI)C"), (27, u "(II)V"), (35, u "(I)C"), (64, .methodref 10 493), (0, .nameAndType 494 142), (0, u "isLatin1"), (0, .methodref 107 496), (0, .nameAndType 497 363), (0, u "charAt"), (3, u "checkIndex"), (73, .class_ 576), (0, u "java/lang/CharSequence"), (22, u "CASE_INSENSITIVE_ORDER"), (0, u "Ljava/util/Comparator;"), (409, u "([C)V"), (42, .fieldref 1054 1055), (0, .class_ 1056), (0, .nameAndType 1057 1058), (0, u "jdk/internal/util/Preconditions"), (0, u "SIOOBE_FORMATTER"), (0, u "Ljava/util/function/BiFunction;"), (0, .methodref 1054 1060), (0, .nameAndType 501 1061), (0, u "(IILjava/util/function/BiFunction;)I"), (39, u "serialPersistentFields"), (0, u "[Ljava/io/ObjectStreamField;"), (0, .class_ 1104), (0, u "java/lang/String$CaseInsensitiveComparator"), (1, .class_ 1107), (0, u "java/io/Serializable"), (0, .class_ 1109), (0, u "java/lang/Comparable"), (0, .class_ 1111), (0, u "java/lang/constant/Constable"), (0, .class_ 1113), (0, u "java/lang/constant/ConstantDesc"), (2, u "serialVersionUID"), (0, u "J"), (3, u "REPL"), (0, u "C"), (2, u "LATIN1"), (1, u "UTF16")] 323

def k7m0 : Method := { name := "<init>", desc := "()V", sig := { parameters := [], returnType := none }, accessFlags := 1, code := none }
def k7c1 : Code := { maxStack := 5, maxLocals := 2, code := jdk_42_method_3_code, exceptionTable := #[], attributes := #[] }
def k7m1 : Method := { name := "<init>", desc := "([C)V", sig := { parameters := [(.array .char)], returnType := none }, accessFlags := 1, code := some k7c1 }
def k7c2 : Code := { maxStack := 2, maxLocals := 2, code := jdk_42_method_56_code, exceptionTable := #[], attributes := #[] }
def k7m2 : Method := { name := "charAt", desc := "(I)C", sig := { parameters := [.int], returnType := some .char }, accessFlags := 1, code := some k7c2 }
def k7c3 : Code := { maxStack := 4, maxLocals := 6, code := jdk_42_method_149_code, exceptionTable := #[], attributes := #[] }
def k7m3 : Method := { name := "<init>", desc := "([CIILjava/lang/Void;)V", sig := { parameters := [(.array .char), .int, .int, (.object "java/lang/Void")], returnType := none }, accessFlags := 2, code := some k7c3 }
def k7c4 : Code := { maxStack := 1, maxLocals := 1, code := jdk_42_method_154_code, exceptionTable := #[], attributes := #[] }
def k7m4 : Method := { name := "isLatin1", desc := "()Z", sig := { parameters := [], returnType := some .boolean }, accessFlags := 0, code := some k7c4 }
def k7c5 : Code := { maxStack := 3, maxLocals := 2, code := jdk_42_method_155_code, exceptionTable := #[], attributes := #[] }
def k7m5 : Method := { name := "checkIndex", desc := "(II)V", sig := { parameters := [.int, .int], returnType := none }, accessFlags := 8, code := some k7c5 }
/-- java/lang/String -/
def k7 : Class := { plain "java/lang/String" (some 0) with
  accessFlags := 49
  interfaces := #[2, 3, 4, 5, 6]
  cf := some (fileOf pool7 10 #[.nestMembers #[1103]] #[{ accessFlags := 1, nameIndex := 5, descriptorIndex := 6, attributes := #[] }, { accessFlags := 1, nameIndex := 5, descriptorIndex := 1010, attributes := #[] }, { accessFlags := 1, nameIndex := 497, descriptorIndex := 427, attributes := #[] }, { accessFlags := 2, nameIndex := 5, descriptorIndex := 29, attributes := #[] }, { accessFlags := 0, nameIndex := 494, descriptorIndex := 142, attributes := #[] }, { accessFlags := 8, nameIndex := 501, descriptorIndex := 391, attributes := #[] }] 49 2 #[1106, 1108, 575, 1110, 1112] #[{ accessFlags := 18, nameIndex := 13, descriptorIndex := 14, attributes := #[] }, { accessFlags := 18, nameIndex := 17, descriptorIndex := 18, attributes := #[] }, { accessFlags := 2, nameIndex := 21, descriptorIndex := 22, attributes := #[] }, { accessFlags := 2, nameIndex := 25, descriptorIndex := 26, attributes := #[] }, { accessFlags := 26, nameIndex := 1116, descriptorIndex := 1117, attributes := #[] }, { accessFlags := 24, nameIndex := 40, descriptorIndex := 26, attributes := #[] }, { accessFlags := 26, nameIndex := 1101, descriptorIndex := 1102, attributes := #[] }, { accessFlags := 26, nameIndex := 1121, descriptorIndex := 1122, attributes := #[] }, { accessFlags := 25, nameIndex := 599, descriptorIndex := 600, attributes := #[] }, { accessFlags := 24, nameIndex := 1125, descriptorIndex := 18, attributes := #[] }, { accessFlags := 24, nameIndex := 1127, descriptorIndex := 18, attributes := #[] }])
  fields := #[{ name := "value", type := (.array .byte), accessFlags := 18, slot := 0, constantValue := 0 }, { name := "coder", type := .byte, accessFlags := 18, slot := 1, constantValue := 0 }, { name := "hash", type := .int, accessFlags := 2, slot := 2, constantValue := 0 }, { name := "hashIsZero", type := .boolean, accessFlags := 2, slot := 3, constantValue := 0 }, { name := "serialVersionUID", type := .long, accessFlags := 26, slot := 0, constantValue := 0 }, { name := "COMPACT_STRINGS", type := .boolean, accessFlags := 24, slot := 1, constantValue := 0 }, { name := "serialPersistentFields", type := (.array (.object "java/io/ObjectStreamField")), accessFlags := 26, slot := 2, constantValue := 0 }, { name := "REPL", type := .char, accessFlags := 26, slot := 3, constantValue := 0 }, { name := "CASE_INSENSITIVE_ORDER", type := (.object "java/util/Comparator"), accessFlags := 25, slot := 4, constantValue := 0 }, { name := "LATIN1", type := .byte, accessFlags := 24, slot := 5, constantValue := 0 }, { name := "UTF16", type := .byte, accessFlags := 24, slot := 6, constantValue := 0 }]
  methods := #[k7m0, k7m1, k7m2, k7m3, k7m4, k7m5]
  instanceTypes := #[(.array .byte), .byte, .int, .boolean]
  staticTypes := #[.long, .boolean, (.array (.object "java/io/ObjectStreamField")), .char, (.object "java/util/Comparator"), .byte, .byte]
  resolved := Array.replicate 1451 none
  statics := some 0 }

def pool8 : Array CpInfo := pool [(6, .class_ 8), (1, u "java/lang/Object"), (0, u "<init>"), (0, u "()V"), (1, .class_ 14), (1, u "java/lang/StringUTF16"), (31, u "$assertionsDisabled"), (0, u "Z"), (13, u "HI_BYTE_SHIFT"), (0, u "I"), (2, u "LO_BYTE_SHIFT"), (49, .methodref 12 116), (0, .nameAndType 117 118), (0, u "compress"), (0, u "([CI[BII)I"), (3, u "([CII)[B"), (138, u "coderFromArrayLen"), (0, u "([BI)B"), (106, .class_ 371), (1, u "java/lang/StringUTF16$LinesSpliterator"), (58, u "MAX_LENGTH"), (196, .class_ 628), (0, u "java/lang/StringUTF16$CodePointsSpliterator"), (0, .class_ 630), (0, u "java/lang/StringUTF16$CharsSpliterator")] 4

def k8m0 : Method := { name := "<init>", desc := "()V", sig := { parameters := [], returnType := none }, accessFlags := 0, code := none }
def k8c1 : Code := { maxStack := 2, maxLocals := 2, code := jdk_52_method_15_code, exceptionTable := #[], attributes := #[] }
def k8m1 : Method := { name := "coderFromArrayLen", desc := "([BI)B", sig := { parameters := [(.array .byte), .int], returnType := some .byte }, accessFlags := 8, code := some k8c1 }
def k8c2 : Code := { maxStack := 5, maxLocals := 6, code := jdk_52_method_16_code, exceptionTable := #[], attributes := #[] }
def k8m2 : Method := { name := "compress", desc := "([CII)[B", sig := { parameters := [(.array .char), .int, .int], returnType := some (.array .byte) }, accessFlags := 9, code := some k8c2 }
def k8c3 : Code := { maxStack := 3, maxLocals := 7, code := jdk_52_method_21_code, exceptionTable := #[], attributes := #[] }
def k8m3 : Method := { name := "compress", desc := "([CI[BII)I", sig := { parameters := [(.array .char), .int, (.array .byte), .int, .int], returnType := some .int }, accessFlags := 9, code := some k8c3 }
/-- java/lang/StringUTF16 -/
def k8 : Class := { plain "java/lang/StringUTF16" (some 0) with
  accessFlags := 48
  interfaces := #[]
  cf := some (fileOf pool8 12 #[.nestMembers #[627, 629, 369]] #[{ accessFlags := 0, nameIndex := 9, descriptorIndex := 10, attributes := #[] }, { accessFlags := 8, nameIndex := 261, descriptorIndex := 262, attributes := #[] }, { accessFlags := 9, nameIndex := 117, descriptorIndex := 122, attributes := #[] }, { accessFlags := 9, nameIndex := 117, descriptorIndex := 118, attributes := #[] }] 48 6 #[] #[{ accessFlags := 26, nameIndex := 61, descriptorIndex := 62, attributes := #[] }, { accessFlags := 26, nameIndex := 65, descriptorIndex := 62, attributes := #[] }, { accessFlags := 24, nameIndex := 430, descriptorIndex := 62, attributes := #[] }, { accessFlags := 4120, nameIndex := 46, descriptorIndex := 47, attributes := #[] }])
  fields := #[{ name := "HI_BYTE_SHIFT", type := .int, accessFlags := 26, slot := 0, constantValue := 0 }, { name := "LO_BYTE_SHIFT", type := .int, accessFlags := 26, slot := 1, constantValue := 0 }, { name := "MAX_LENGTH", type := .int, accessFlags := 24, slot := 2, constantValue := 0 }, { name := "$assertionsDisabled", type := .boolean, accessFlags := 4120, slot := 3, constantValue := 0 }]
  methods := #[k8m0, k8m1, k8m2, k8m3]
  instanceTypes := #[]
  staticTypes := #[.int, .int, .int, .boolean]
  resolved := Array.replicate 635 none
  statics := none }

def pool9 : Array CpInfo := pool [(2, .class_ 4), (1, u "java/lang/Object"), (0, u "<init>"), (0, u "()V"), (0, .methodref 8 9), (0, .class_ 10), (0, .nameAndType 11 12), (0, u "java/lang/String"), (0, u "charAt"), (0, u "(I)C"), (8, .class_ 22), (0, u "com/example/accessio/accessio/CheckDigits"), (2, u "isbn13"), (0, u "(Ljava/lang/String;)C")] 19

def k9m0 : Method := { name := "<init>", desc := "()V", sig := { parameters := [], returnType := none }, accessFlags := 2, code := none }
def k9c1 : Code := { maxStack := 4, maxLocals := 3, code := prog_5_method_2_code, exceptionTable := #[], attributes := #[] }
def k9m1 : Method := { name := "isbn13", desc := "(Ljava/lang/String;)C", sig := { parameters := [(.object "java/lang/String")], returnType := some .char }, accessFlags := 8, code := some k9c1 }
/-- com/example/accessio/accessio/CheckDigits -/
def k9 : Class := { plain "com/example/accessio/accessio/CheckDigits" (some 0) with
  accessFlags := 48
  interfaces := #[]
  cf := some (fileOf pool9 21 #[] #[{ accessFlags := 2, nameIndex := 5, descriptorIndex := 6, attributes := #[] }, { accessFlags := 8, nameIndex := 25, descriptorIndex := 26, attributes := #[] }] 48 2 #[] #[])
  fields := #[]
  methods := #[k9m0, k9m1]
  instanceTypes := #[]
  staticTypes := #[]
  resolved := Array.replicate 46 none
  statics := none }

def pool10 : Array CpInfo := pool [(1, .class_ 2), (0, u "java/lang/String"), (1, .class_ 6), (1, u "java/lang/Object"), (0, u "<init>"), (0, u "()V"), (0, .methodref 1 10), (0, .nameAndType 11 12), (0, u "checkIndex"), (0, u "(II)V"), (1, .class_ 16), (1, u "java/lang/StringLatin1"), (36, u "([BI)C"), (67, u "$assertionsDisabled"), (0, u "Z"), (98, .class_ 223), (1, u "java/lang/StringLatin1$LinesSpliterator"), (28, u "charAt"), (137, .class_ 391), (0, u "java/lang/StringLatin1$CharsSpliterator")] 3

def k10m0 : Method := { name := "<init>", desc := "()V", sig := { parameters := [], returnType := none }, accessFlags := 0, code := none }
def k10c1 : Code := { maxStack := 2, maxLocals := 2, code := jdk_43_method_2_code, exceptionTable := #[], attributes := #[] }
def k10m1 : Method := { name := "charAt", desc := "([BI)C", sig := { parameters := [(.array .byte), .int], returnType := some .char }, accessFlags := 9, code := some k10c1 }
/-- java/lang/StringLatin1 -/
def k10 : Class := { plain "java/lang/StringLatin1" (some 0) with
  accessFlags := 48
  interfaces := #[]
  cf := some (fileOf pool10 14 #[.nestMembers #[390, 221]] #[{ accessFlags := 0, nameIndex := 7, descriptorIndex := 8, attributes := #[] }, { accessFlags := 9, nameIndex := 252, descriptorIndex := 53, attributes := #[] }] 48 4 #[] #[{ accessFlags := 4120, nameIndex := 121, descriptorIndex := 122, attributes := #[] }])
  fields := #[{ name := "$assertionsDisabled", type := .boolean, accessFlags := 4120, slot := 0, constantValue := 0 }]
  methods := #[k10m0, k10m1]
  instanceTypes := #[]
  staticTypes := #[.boolean]
  resolved := Array.replicate 395 none
  statics := none }

def pool11 : Array CpInfo := pool [(2, .class_ 4), (1, u "java/lang/Object"), (0, u "<init>"), (0, u "()V"), (17, .class_ 26), (1, u "jdk/internal/util/Preconditions"), (6, u "checkIndex"), (21, .class_ 56), (0, u "jdk/internal/util/Preconditions$4"), (57, .class_ 115), (0, u "jdk/internal/util/Preconditions$1"), (7, u "SIOOBE_FORMATTER"), (0, u "Ljava/util/function/BiFunction;"), (0, .class_ 126), (0, u "jdk/internal/util/Preconditions$2"), (3, u "AIOOBE_FORMATTER"), (0, .class_ 132), (0, u "jdk/internal/util/Preconditions$3"), (3, u "IOOBE_FORMATTER"), (41, u "(IILjava/util/function/BiFunction;)I")] 15

def k11m0 : Method := { name := "<init>", desc := "()V", sig := { parameters := [], returnType := none }, accessFlags := 1, code := none }
def k11c1 : Code := { maxStack := 3, maxLocals := 3, code := jdk_41_method_11_code, exceptionTable := #[], attributes := #[] }
def k11m1 : Method := { name := "checkIndex", desc := "(IILjava/util/function/BiFunction;)I", sig := { parameters := [.int, .int, (.object "java/util/function/BiFunction")], returnType := some .int }, accessFlags := 9, code := some k11c1 }
/-- jdk/internal/util/Preconditions -/
def k11 : Class := { plain "jdk/internal/util/Preconditions" (some 0) with
  accessFlags := 33
  interfaces := #[]
  cf := some (fileOf pool11 24 #[.nestMembers #[55, 131, 125, 114]] #[{ accessFlags := 1, nameIndex := 5, descriptorIndex := 6, attributes := #[] }, { accessFlags := 9, nameIndex := 33, descriptorIndex := 178, attributes := #[] }] 33 2 #[] #[{ accessFlags := 25, nameIndex := 123, descriptorIndex := 124, attributes := #[] }, { accessFlags := 25, nameIndex := 130, descriptorIndex := 124, attributes := #[] }, { accessFlags := 25, nameIndex := 136, descriptorIndex := 124, attributes := #[] }])
  fields := #[{ name := "SIOOBE_FORMATTER", type := (.object "java/util/function/BiFunction"), accessFlags := 25, slot := 0, constantValue := 0 }, { name := "AIOOBE_FORMATTER", type := (.object "java/util/function/BiFunction"), accessFlags := 25, slot := 1, constantValue := 0 }, { name := "IOOBE_FORMATTER", type := (.object "java/util/function/BiFunction"), accessFlags := 25, slot := 2, constantValue := 0 }]
  methods := #[k11m0, k11m1]
  instanceTypes := #[]
  staticTypes := #[(.object "java/util/function/BiFunction"), (.object "java/util/function/BiFunction"), (.object "java/util/function/BiFunction")]
  resolved := Array.replicate 194 none
  statics := some 1 }

def pool12 : Array CpInfo := pool [(9, u "<init>"), (6, .class_ 18), (1, u "java/lang/Object"), (0, u "()V"), (1, .class_ 23), (1, u "jdk/internal/util/ArraysSupport"), (0, u "LOG2_ARRAY_LONG_INDEX_SCALE"), (0, u "I"), (2, u "U"), (0, u "Ljdk/internal/misc/Unsafe;"), (8, u "BIG_ENDIAN"), (0, u "Z"), (8, u "LOG2_BYTE_BIT_SIZE"), (4, u "LOG2_ARRAY_INT_INDEX_SCALE"), (54, u "JLA"), (0, u "Ljdk/internal/access/JavaLangAccess;"), (11, u "LOG2_ARRAY_BOOLEAN_INDEX_SCALE"), (9, u "LOG2_ARRAY_BYTE_INDEX_SCALE"), (5, u "LOG2_ARRAY_CHAR_INDEX_SCALE"), (5, u "LOG2_ARRAY_SHORT_INDEX_SCALE"), (18, u "LOG2_ARRAY_FLOAT_INDEX_SCALE"), (24, u "LOG2_ARRAY_DOUBLE_INDEX_SCALE"), (89, u "T_BOOLEAN"), (2, u "T_CHAR"), (1, u "T_FLOAT"), (1, u "T_DOUBLE"), (1, u "T_BYTE"), (1, u "T_SHORT"), (1, u "T_INT"), (1, u "T_LONG"), (1, u "SOFT_MAX_ARRAY_LENGTH")] 83

def k12m0 : Method := { name := "<init>", desc := "()V", sig := { parameters := [], returnType := none }, accessFlags := 2, code := none }
/-- jdk/internal/util/ArraysSupport -/
def k12 : Class := { plain "jdk/internal/util/ArraysSupport" (some 0) with
  accessFlags := 33
  interfaces := #[]
  cf := some (fileOf pool12 21 #[] #[{ accessFlags := 2, nameIndex := 9, descriptorIndex := 19, attributes := #[] }] 33 16 #[] #[{ accessFlags := 24, nameIndex := 28, descriptorIndex := 29, attributes := #[] }, { accessFlags := 26, nameIndex := 38, descriptorIndex := 39, attributes := #[] }, { accessFlags := 25, nameIndex := 121, descriptorIndex := 25, attributes := #[] }, { accessFlags := 25, nameIndex := 131, descriptorIndex := 25, attributes := #[] }, { accessFlags := 25, nameIndex := 137, descriptorIndex := 25, attributes := #[] }, { accessFlags := 25, nameIndex := 143, descriptorIndex := 25, attributes := #[] }, { accessFlags := 25, nameIndex := 53, descriptorIndex := 25, attributes := #[] }, { accessFlags := 25, nameIndex := 24, descriptorIndex := 25, attributes := #[] }, { accessFlags := 25, nameIndex := 162, descriptorIndex := 25, attributes := #[] }, { accessFlags := 25, nameIndex := 187, descriptorIndex := 25, attributes := #[] }, { accessFlags := 26, nameIndex := 48, descriptorIndex := 25, attributes := #[] }, { accessFlags := 25, nameIndex := 277, descriptorIndex := 25, attributes := #[] }, { accessFlags := 25, nameIndex := 280, descriptorIndex := 25, attributes := #[] }, { accessFlags := 25, nameIndex := 282, descriptorIndex := 25, attributes := #[] }, { accessFlags := 25, nameIndex := 284, descriptorIndex := 25, attributes := #[] }, { accessFlags := 25, nameIndex := 286, descriptorIndex := 25, attributes := #[] }, { accessFlags := 25, nameIndex := 288, descriptorIndex := 25, attributes := #[] }, { accessFlags := 25, nameIndex := 290, descriptorIndex := 25, attributes := #[] }, { accessFlags := 25, nameIndex := 292, descriptorIndex := 25, attributes := #[] }, { accessFlags := 26, nameIndex := 108, descriptorIndex := 109, attributes := #[] }, { accessFlags := 25, nameIndex := 294, descriptorIndex := 25, attributes := #[] }])
  fields := #[{ name := "U", type := (.object "jdk/internal/misc/Unsafe"), accessFlags := 24, slot := 0, constantValue := 0 }, { name := "BIG_ENDIAN", type := .boolean, accessFlags := 26, slot := 1, constantValue := 0 }, { name := "LOG2_ARRAY_BOOLEAN_INDEX_SCALE", type := .int, accessFlags := 25, slot := 2, constantValue := 0 }, { name := "LOG2_ARRAY_BYTE_INDEX_SCALE", type := .int, accessFlags := 25, slot := 3, constantValue := 0 }, { name := "LOG2_ARRAY_CHAR_INDEX_SCALE", type := .int, accessFlags := 25, slot := 4, constantValue := 0 }, { name := "LOG2_ARRAY_SHORT_INDEX_SCALE", type := .int, accessFlags := 25, slot := 5, constantValue := 0 }, { name := "LOG2_ARRAY_INT_INDEX_SCALE", type := .int, accessFlags := 25, slot := 6, constantValue := 0 }, { name := "LOG2_ARRAY_LONG_INDEX_SCALE", type := .int, accessFlags := 25, slot := 7, constantValue := 0 }, { name := "LOG2_ARRAY_FLOAT_INDEX_SCALE", type := .int, accessFlags := 25, slot := 8, constantValue := 0 }, { name := "LOG2_ARRAY_DOUBLE_INDEX_SCALE", type := .int, accessFlags := 25, slot := 9, constantValue := 0 }, { name := "LOG2_BYTE_BIT_SIZE", type := .int, accessFlags := 26, slot := 10, constantValue := 0 }, { name := "T_BOOLEAN", type := .int, accessFlags := 25, slot := 11, constantValue := 0 }, { name := "T_CHAR", type := .int, accessFlags := 25, slot := 12, constantValue := 0 }, { name := "T_FLOAT", type := .int, accessFlags := 25, slot := 13, constantValue := 0 }, { name := "T_DOUBLE", type := .int, accessFlags := 25, slot := 14, constantValue := 0 }, { name := "T_BYTE", type := .int, accessFlags := 25, slot := 15, constantValue := 0 }, { name := "T_SHORT", type := .int, accessFlags := 25, slot := 16, constantValue := 0 }, { name := "T_INT", type := .int, accessFlags := 25, slot := 17, constantValue := 0 }, { name := "T_LONG", type := .int, accessFlags := 25, slot := 18, constantValue := 0 }, { name := "JLA", type := (.object "jdk/internal/access/JavaLangAccess"), accessFlags := 26, slot := 19, constantValue := 0 }, { name := "SOFT_MAX_ARRAY_LENGTH", type := .int, accessFlags := 25, slot := 20, constantValue := 0 }]
  methods := #[k12m0]
  instanceTypes := #[]
  staticTypes := #[(.object "jdk/internal/misc/Unsafe"), .boolean, .int, .int, .int, .int, .int, .int, .int, .int, .int, .int, .int, .int, .int, .int, .int, .int, .int, (.object "jdk/internal/access/JavaLangAccess"), .int]
  resolved := Array.replicate 378 none
  statics := none }

def pool13 : Array CpInfo := pool [(1, u "java/lang/Cloneable"), (0, .class_ 1), (0, u "java/lang/Object"), (0, .class_ 3)] 3

/-- java/lang/Cloneable -/
def k13 : Class := { plain "java/lang/Cloneable" (some 0) with
  accessFlags := 1537
  interfaces := #[]
  cf := some (fileOf pool13 2 #[] #[] 1537 4 #[] #[])
  fields := #[]
  methods := #[]
  instanceTypes := #[]
  staticTypes := #[]
  resolved := Array.replicate 8 none
  statics := none }

/-- the primitive byte -/
def k14 : Class := { plain "byte" none with kind := .primitive 'B', accessFlags := 0x411 }
/-- [B -/
def k15 : Class := { plain "[B" (some 0) with kind := .array 14 .byte, interfaces := #[13, 2], accessFlags := 1041 }

/-- the primitive char -/
def k16 : Class := { plain "char" none with kind := .primitive 'C', accessFlags := 0x411 }
/-- [C -/
def k17 : Class := { plain "[C" (some 0) with kind := .array 16 .char, interfaces := #[13, 2], accessFlags := 1041 }

/-- the primitive int -/
def k18 : Class := { plain "int" none with kind := .primitive 'I', accessFlags := 0x411 }
/-- [I -/
def k19 : Class := { plain "[I" (some 0) with kind := .array 18 .int, interfaces := #[13, 2], accessFlags := 1041 }

def heap : Heap := #[{ cls := 7, slots := #[.long 0, .int 1, .null, .int 0, .null, .int 0, .int 0], vm := .statics 7 },
  { cls := 11, slots := #[.null, .null, .null], vm := .statics 11 }]
def classes : Array Class := #[k0, k1, k2, k3, k4, k5, k6, k7, k8, k9, k10, k11, k12, k13, k14, k15, k16, k17, k18, k19]
def interned : List (Array UInt16 × Addr) := []
def slotsUsed : Nat := 10
def theMethod : MethodId := ⟨1, 2⟩
def args0 : Array Value := #[.long 5, .long 6, .int 67]
def aboutOver (below : List Frame) : State where
  vm := { classes := classes, interned := interned.toArray }
  heap := heap
  slotsUsed := slotsUsed
  threads := #[{ frames := .invoking theMethod args0 :: below }]
def below0 : List Frame := [.native { method := ⟨0, 0⟩, args := #[] }]
def about1 : State := aboutOver below0
def p0 : Program := .bare "" "" ""
def e0 : Env := launch0.env 0 0 0
theorem w_frames : about1.frames = Frame.invoking theMethod args0 :: below0 := rfl
set_option maxRecDepth 65536 in
theorem w_args : argsFit about1.vm theMethod args0 = true := by decide +kernel
set_option maxRecDepth 65536 in
theorem w_heap : heapFits about1 = true := by decide +kernel
set_option maxRecDepth 65536 in
theorem w_runnable : about1.curStatus? = some .runnable := by decide +kernel
set_option maxRecDepth 65536 in
theorem w_alone : about1.alone = true := by decide +kernel
set_option maxRecDepth 65536 in
theorem w_named : about1.methodNamed? x = some theMethod := by decide +kernel
set_option maxRecDepth 65536 in
theorem w_hears : about1.hears theMethod below0 = true := by decide +kernel
set_option maxRecDepth 65536 in
theorem w_ripe : about1.ripe theMethod args0 below0 = true := by decide +kernel
theorem w_running : about1.status = .running := rfl
set_option maxRecDepth 65536 in
theorem w_room : about1.hasRoom e0.platform room_1 = true :=
  launch0.hasRoom_least _ room_1 (by decide +kernel) (by decide +kernel) (by decide +kernel) (by decide +kernel) (by decide +kernel) (by decide +kernel)
theorem allAtoms_all (ts : List Jvm.Cond) (a : Array Jvm.Value) (st : Jvm.State) : (allAtoms ts).before a st = ts.all (fun c => c.before a st) := by
  induction ts with
  | nil => rfl
  | cons c t ih =>
    show (Jvm.Cond.and c (allAtoms t)).before a st = _
    rw [Jvm.Cond.before_and, ih, List.all_cons]
def words1 : List Jvm.Cond := Jvm.Cond.code x code maxLocals ret :: tables_1
/-- a 'code' word, met by the world's own term for the bytes: nothing is compared byte by byte -/
theorem code_word {y : MethodName} {bytes : ByteArray} {mx : Nat} {rt : Option FieldType} {a : Array Value} {s : State} {m : MethodId} {meth : Method} {c : Code} (h1 : s.methodNamed? y = some m) (h2 : s.vm.method? m = some meth) (h3 : meth.code = some c) (h4 : c.code = bytes)
    (h5 : (c.maxLocals == mx && c.exceptionTable.isEmpty && decide (c.maxStack ≤ mostOperands) && decide (meth.sig.returnType = rt) && !meth.locks && decide (parseMethodDescriptor y.desc = some meth.sig)) = true) : (Jvm.Cond.code y bytes mx rt).before a s = true := by
  simp only [Bool.and_eq_true, beq_iff_eq, Bool.not_eq_true', decide_eq_true_eq] at h5
  obtain ⟨⟨⟨⟨⟨g1, g2⟩, g3⟩, g4⟩, g5⟩, g6⟩ := h5
  simp [Cond.before, Cond.holds, Cond.value, h1, h2, h3, h4, g1, g2, g3, g4, g5, g6]
def isCode : Jvm.Cond → Bool
  | .code _ _ _ _ => true
  | _ => false
theorem all_split {L : List Jvm.Cond} {P : Jvm.Cond → Bool} (h1 : L.all (fun c => isCode c || P c) = true) (h2 : ∀ c ∈ L.filter isCode, P c = true) : L.all P = true := by
  refine List.all_eq_true.mpr fun c hc => ?_
  have h := List.all_eq_true.mp h1 c hc
  rcases Bool.eq_false_or_eq_true (isCode c) with hi | hi
  · exact h2 c (List.mem_filter.mpr ⟨hc, hi⟩)
  · simpa [hi] using h
set_option maxRecDepth 65536 in
theorem w_c0 : (Jvm.Cond.code x code maxLocals ret).before args0 about1 = true := code_word (m := ⟨1, 2⟩) (meth := k1m2) (c := k1c2) (by decide +kernel) rfl rfl rfl (by decide +kernel)
set_option maxRecDepth 65536 in
theorem w_c1 : (Jvm.Cond.code ({ cls := "com/example/accessio/accessio/CheckDigitsIsbn13PinLaw", name := "dig", desc := "(JI)I" } : Jvm.MethodName) method_2_code (3 : Nat) (Option.some Jvm.ClassFile.FieldType.int)).before args0 about1 = true := code_word (m := ⟨1, 1⟩) (meth := k1m1) (c := k1c1) (by decide +kernel) rfl rfl rfl (by decide +kernel)
set_option maxRecDepth 65536 in
theorem w_c2 : (Jvm.Cond.code ({ cls := "java/lang/String", name := "<init>", desc := "([C)V" } : Jvm.MethodName) jdk_42_method_3_code (2 : Nat) (Option.none : Option Jvm.ClassFile.FieldType)).before args0 about1 = true := code_word (m := ⟨7, 1⟩) (meth := k7m1) (c := k7c1) (by decide +kernel) rfl rfl rfl (by decide +kernel)
set_option maxRecDepth 65536 in
theorem w_c3 : (Jvm.Cond.code ({ cls := "java/lang/String", name := "<init>", desc := "([CIILjava/lang/Void;)V" } : Jvm.MethodName) jdk_42_method_149_code (6 : Nat) (Option.none : Option Jvm.ClassFile.FieldType)).before args0 about1 = true := code_word (m := ⟨7, 3⟩) (meth := k7m3) (c := k7c3) (by decide +kernel) rfl rfl rfl (by decide +kernel)
set_option maxRecDepth 65536 in
theorem w_c4 : (Jvm.Cond.code ({ cls := "java/lang/Object", name := "<init>", desc := "()V" } : Jvm.MethodName) object_method_1_code (1 : Nat) (Option.none : Option Jvm.ClassFile.FieldType)).before args0 about1 = true := code_word (m := ⟨0, 0⟩) (meth := k0m0) (c := k0c0) (by decide +kernel) rfl rfl rfl (by decide +kernel)
set_option maxRecDepth 65536 in
theorem w_c5 : (Jvm.Cond.code ({ cls := "java/lang/StringUTF16", name := "compress", desc := "([CII)[B" } : Jvm.MethodName) jdk_52_method_16_code (6 : Nat) (Option.some (Jvm.ClassFile.FieldType.array Jvm.ClassFile.FieldType.byte))).before args0 about1 = true := code_word (m := ⟨8, 2⟩) (meth := k8m2) (c := k8c2) (by decide +kernel) rfl rfl rfl (by decide +kernel)
set_option maxRecDepth 65536 in
theorem w_c6 : (Jvm.Cond.code ({ cls := "java/lang/StringUTF16", name := "compress", desc := "([CI[BII)I" } : Jvm.MethodName) jdk_52_method_21_code (7 : Nat) (Option.some Jvm.ClassFile.FieldType.int)).before args0 about1 = true := code_word (m := ⟨8, 3⟩) (meth := k8m3) (c := k8c3) (by decide +kernel) rfl rfl rfl (by decide +kernel)
set_option maxRecDepth 65536 in
theorem w_c7 : (Jvm.Cond.code ({ cls := "java/lang/StringUTF16", name := "coderFromArrayLen", desc := "([BI)B" } : Jvm.MethodName) jdk_52_method_15_code (2 : Nat) (Option.some Jvm.ClassFile.FieldType.byte)).before args0 about1 = true := code_word (m := ⟨8, 1⟩) (meth := k8m1) (c := k8c1) (by decide +kernel) rfl rfl rfl (by decide +kernel)
set_option maxRecDepth 65536 in
theorem w_c8 : (Jvm.Cond.code ({ cls := "com/example/accessio/accessio/CheckDigits", name := "isbn13", desc := "(Ljava/lang/String;)C" } : Jvm.MethodName) prog_5_method_2_code (3 : Nat) (Option.some Jvm.ClassFile.FieldType.char)).before args0 about1 = true := code_word (m := ⟨9, 1⟩) (meth := k9m1) (c := k9c1) (by decide +kernel) rfl rfl rfl (by decide +kernel)
set_option maxRecDepth 65536 in
theorem w_c9 : (Jvm.Cond.code ({ cls := "java/lang/String", name := "charAt", desc := "(I)C" } : Jvm.MethodName) jdk_42_method_56_code (2 : Nat) (Option.some Jvm.ClassFile.FieldType.char)).before args0 about1 = true := code_word (m := ⟨7, 2⟩) (meth := k7m2) (c := k7c2) (by decide +kernel) rfl rfl rfl (by decide +kernel)
set_option maxRecDepth 65536 in
theorem w_c10 : (Jvm.Cond.code ({ cls := "java/lang/String", name := "isLatin1", desc := "()Z" } : Jvm.MethodName) jdk_42_method_154_code (1 : Nat) (Option.some Jvm.ClassFile.FieldType.boolean)).before args0 about1 = true := code_word (m := ⟨7, 4⟩) (meth := k7m4) (c := k7c4) (by decide +kernel) rfl rfl rfl (by decide +kernel)
set_option maxRecDepth 65536 in
theorem w_c11 : (Jvm.Cond.code ({ cls := "java/lang/StringLatin1", name := "charAt", desc := "([BI)C" } : Jvm.MethodName) jdk_43_method_2_code (2 : Nat) (Option.some Jvm.ClassFile.FieldType.char)).before args0 about1 = true := code_word (m := ⟨10, 1⟩) (meth := k10m1) (c := k10c1) (by decide +kernel) rfl rfl rfl (by decide +kernel)
set_option maxRecDepth 65536 in
theorem w_c12 : (Jvm.Cond.code ({ cls := "java/lang/String", name := "checkIndex", desc := "(II)V" } : Jvm.MethodName) jdk_42_method_155_code (2 : Nat) (Option.none : Option Jvm.ClassFile.FieldType)).before args0 about1 = true := code_word (m := ⟨7, 5⟩) (meth := k7m5) (c := k7c5) (by decide +kernel) rfl rfl rfl (by decide +kernel)
set_option maxRecDepth 65536 in
theorem w_c13 : (Jvm.Cond.code ({ cls := "jdk/internal/util/Preconditions", name := "checkIndex", desc := "(IILjava/util/function/BiFunction;)I" } : Jvm.MethodName) jdk_41_method_11_code (3 : Nat) (Option.some Jvm.ClassFile.FieldType.int)).before args0 about1 = true := code_word (m := ⟨11, 1⟩) (meth := k11m1) (c := k11c1) (by decide +kernel) rfl rfl rfl (by decide +kernel)
def codes1 : List Jvm.Cond := [Jvm.Cond.code x code maxLocals ret, Jvm.Cond.code ({ cls := "com/example/accessio/accessio/CheckDigitsIsbn13PinLaw", name := "dig", desc := "(JI)I" } : Jvm.MethodName) method_2_code (3 : Nat) (Option.some Jvm.ClassFile.FieldType.int), Jvm.Cond.code ({ cls := "java/lang/String", name := "<init>", desc := "([C)V" } : Jvm.MethodName) jdk_42_method_3_code (2 : Nat) (Option.none : Option Jvm.ClassFile.FieldType), Jvm.Cond.code ({ cls := "java/lang/String", name := "<init>", desc := "([CIILjava/lang/Void;)V" } : Jvm.MethodName) jdk_42_method_149_code (6 : Nat) (Option.none : Option Jvm.ClassFile.FieldType), Jvm.Cond.code ({ cls := "java/lang/Object", name := "<init>", desc := "()V" } : Jvm.MethodName) object_method_1_code (1 : Nat) (Option.none : Option Jvm.ClassFile.FieldType), Jvm.Cond.code ({ cls := "java/lang/StringUTF16", name := "compress", desc := "([CII)[B" } : Jvm.MethodName) jdk_52_method_16_code (6 : Nat) (Option.some (Jvm.ClassFile.FieldType.array Jvm.ClassFile.FieldType.byte)), Jvm.Cond.code ({ cls := "java/lang/StringUTF16", name := "compress", desc := "([CI[BII)I" } : Jvm.MethodName) jdk_52_method_21_code (7 : Nat) (Option.some Jvm.ClassFile.FieldType.int), Jvm.Cond.code ({ cls := "java/lang/StringUTF16", name := "coderFromArrayLen", desc := "([BI)B" } : Jvm.MethodName) jdk_52_method_15_code (2 : Nat) (Option.some Jvm.ClassFile.FieldType.byte), Jvm.Cond.code ({ cls := "com/example/accessio/accessio/CheckDigits", name := "isbn13", desc := "(Ljava/lang/String;)C" } : Jvm.MethodName) prog_5_method_2_code (3 : Nat) (Option.some Jvm.ClassFile.FieldType.char), Jvm.Cond.code ({ cls := "java/lang/String", name := "charAt", desc := "(I)C" } : Jvm.MethodName) jdk_42_method_56_code (2 : Nat) (Option.some Jvm.ClassFile.FieldType.char), Jvm.Cond.code ({ cls := "java/lang/String", name := "isLatin1", desc := "()Z" } : Jvm.MethodName) jdk_42_method_154_code (1 : Nat) (Option.some Jvm.ClassFile.FieldType.boolean), Jvm.Cond.code ({ cls := "java/lang/StringLatin1", name := "charAt", desc := "([BI)C" } : Jvm.MethodName) jdk_43_method_2_code (2 : Nat) (Option.some Jvm.ClassFile.FieldType.char), Jvm.Cond.code ({ cls := "java/lang/String", name := "checkIndex", desc := "(II)V" } : Jvm.MethodName) jdk_42_method_155_code (2 : Nat) (Option.none : Option Jvm.ClassFile.FieldType), Jvm.Cond.code ({ cls := "jdk/internal/util/Preconditions", name := "checkIndex", desc := "(IILjava/util/function/BiFunction;)I" } : Jvm.MethodName) jdk_41_method_11_code (3 : Nat) (Option.some Jvm.ClassFile.FieldType.int)]
set_option maxRecDepth 65536 in
theorem codes_eq : words1.filter isCode = codes1 := rfl
theorem w_codes : ∀ c ∈ words1.filter isCode, c.before args0 about1 = true := by
  rw [codes_eq]
  intro c hc
  simp only [codes1, List.mem_cons, List.not_mem_nil, or_false] at hc
  rcases hc with rfl | rfl | rfl | rfl | rfl | rfl | rfl | rfl | rfl | rfl | rfl | rfl | rfl | rfl
  · exact w_c0
  · exact w_c1
  · exact w_c2
  · exact w_c3
  · exact w_c4
  · exact w_c5
  · exact w_c6
  · exact w_c7
  · exact w_c8
  · exact w_c9
  · exact w_c10
  · exact w_c11
  · exact w_c12
  · exact w_c13
set_option maxRecDepth 65536 in
theorem w_t1 : (words1.take 24).all (fun c => isCode c || c.before args0 about1) = true := by decide +kernel
set_option maxRecDepth 65536 in
theorem w_t2 : ((words1.drop 24).take 24).all (fun c => isCode c || c.before args0 about1) = true := by decide +kernel
set_option maxRecDepth 65536 in
theorem w_t3 : ((words1.drop 24).drop 24).all (fun c => isCode c || c.before args0 about1) = true := by decide +kernel
theorem w_tables : (allAtoms (Jvm.Cond.code x code maxLocals ret :: tables_1)).before args0 about1 = true := by
  rw [allAtoms_all]
  show words1.all (fun c => c.before args0 about1) = true
  refine all_split ?_ w_codes
  rw [← List.take_append_drop 24 words1, List.all_append, w_t1, ← List.take_append_drop 24 (words1.drop 24), List.all_append, w_t2, w_t3]
  rfl
set_option maxRecDepth 65536 in
theorem w_rest : rest_1_c.before args0 about1 = true := by decide +kernel
set_option maxRecDepth 65536 in
theorem w_case : (Jvm.Cond.and given_1 narrow_1).before args0 about1 = true := by decide +kernel
theorem w_applies : (headSpec (Jvm.Cond.code x code maxLocals ret :: tables_1) room_1).applies x e0.platform about1 = true :=
  (Spec.applies_iff w_frames).mpr ⟨w_running, w_runnable, w_alone, w_named, w_hears, w_ripe, w_room, w_tables⟩
theorem atStart : AtStart classFile x code maxLocals ret World_1 tables_1 room_1 Calls_1 rest_1 Pre_1 launch0 p0 e0 about1 theMethod args0 below0 :=
  ⟨lists_1, trivial, launch0.admits_env _ _ _, launch0.least_env, fairChoices_fair.cas, fairChoices_fair.clock, w_frames, w_args, w_heap, w_applies, trivial, w_rest, w_case⟩
end start1
theorem witness_1 : WitnessClaimed_1 := ⟨start1.p0, start1.e0, start1.about1, start1.theMethod, start1.args0, start1.below0, start1.atStart⟩
end Jvm.Pilot.@@N@@
