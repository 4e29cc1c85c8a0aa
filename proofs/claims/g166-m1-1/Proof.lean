import JvmDerived
import JvmDerived.Pilot.@@N@@Statement
import JvmDerived.Pilot.@@N@@Code
set_option linter.unusedVariables false
set_option linter.unusedSimpArgs false
namespace Jvm.Pilot.@@N@@
open Jvm Jvm.ClassFile Sem Op Lib Jvm.Free Jvm.Stand Jvm.LawKit Jvm.RoadKit Bundle Jvm.Pilot.@@N@@.Jvm.D
section OwnHead
variable {p : Program} {l : Launch} {e : Env} {R : Room} {s : State} {m : MethodId} {args : Array Value} {below : List Frame} {meth : Method} {c : Code} {T : State} {locs : List Loc} {cells slots : Nat} {Z : State} {a0 : Array Value} {h : Heap} {Q : Option Value → Heap → List Loc → Prop} {ce sl : Nat} {pc pc' : Nat} {Ls : Array Slot} {st : List Value}
def own_G (p : Program) (e : Env) (below : List Frame) (s : State) (Q : Option Value → Heap → List Loc → Prop) (ce sl : Nat) (S : State) : Prop := ∃ s₂ o, Steps p.tables e below S s₂ ∧ s₂.status = .running ∧ Ended s₂ below o ∧ ∃ v L, o = .returned v ∧ Q v s₂.heap L ∧ FrameEnd s o s₂ L ce sl
theorem own_fw {S S' : State} (h : ∀ t, Steps p.tables e below S' t → Steps p.tables e below S t) (g : own_G p e below s Q ce sl S') : own_G p e below s Q ce sl S := by
  obtain ⟨s₂, o, h1, r⟩ := g; exact ⟨s₂, o, h _ h1, r⟩
theorem own_via {S S' : State} (h : own_G p e below s Q ce sl S' → own_G p e below s Q ce sl S) (g : own_G p e below s Q ce sl S') : own_G p e below s Q ce sl S := h g
theorem own_cast {S S' : State} (h : S = S') (g : own_G p e below s Q ce sl S') : own_G p e below s Q ce sl S := h ▸ g
abbrev own_M (l : Launch) (Z : State) (y : MethodName) (bytes : ByteArray) (maxL : Nat) (ret : Option FieldType) (ws : List Jvm.Cond) (rm : Room) (as' : Array Value) (h0 : Heap) (Q : Option Value → Heap → List Loc → Prop) (ce sl : Nat) : Prop := MetFree l y (head1 (Jvm.Cond.code y bytes maxL ret :: ws) rm) (fun a U => a = as' ∧ Z.Warmed39 U.vm ∧ U.heap = h0) (fun _ _ _ _ _ => True) (fun _ U o U' => ∃ v L, o = .returned v ∧ Q v U'.heap L ∧ FrameEnd U o U' L ce sl)
theorem own_body {y : MethodName} {bytes : ByteArray} {maxL : Nat} {ret : Option FieldType} {ws : List Jvm.Cond} {rm : Room} {as' : Array Value} {h0 : Heap} (hp : plainFor y = true)
    (body : ∀ (p : Program) (e : Env) (s : State) (m : MethodId) (below : List Frame) (meth : Method) (c : Code) (s₁ : State), p.tables.exec = Jvm.exec → c.code = bytes → c.maxLocals = maxL → s.vm.findClass y.cls = some m.cls → meth.name = y.name → meth.sig.returnType = ret → meth.locks = false → Z.Warmed39 s.vm → Stand p l e rm s m as' below meth c s₁ [] 0 0 → s₁.heap = h0 → own_G p e below s Q ce sl (s₁.setTop (entryFrame m as' maxL))) : own_M l Z y bytes maxL ret ws rm as' h0 Q ce sl := by
  refine MetFree.of_bodySF hp hisR ?_
  intro p e s m args below meth c s₁ Bd hml hP hK
  obtain ⟨rfl, hZ, hh⟩ := hP
  exact body p e s m below meth c s₁ Bd.exec Bd.bytes hml (findClass_of_methodNamed Bd.named) (name_of_methodNamed Bd.named Bd.method).1 Bd.returns Bd.notSynchronized hZ (Stand.of_body Bd) (by rw [← hh, Bd.state]; rfl)
theorem own_ret (X : Stand p l e R s m args below meth c T locs cells slots) (hx : p.tables.exec = Jvm.exec) {w : Value} {t : FieldType} {i : Instr} (hret : meth.sig.returnType = some t) (hlk : meth.locks = false) (hn : narrow t w = w)
    (hi : (i = .ireturn ∧ (t = .int ∨ t = .boolean ∨ t = .byte ∨ t = .char ∨ t = .short) ∧ ∃ z, w = .int z) ∨ (i = .lreturn ∧ t = .long ∧ ∃ z, w = .long z) ∨ (i = .dreturn ∧ t = .double ∧ ∃ z, w = .double z) ∨ (i = .freturn ∧ t = .float ∧ ∃ z, w = .float z) ∨ (i = .areturn ∧ t.isReference = true ∧ w.isRef = true))
    (hd : decode c.code pc = .ok (i, 1)) (hQ : Q (some w) T.heap locs) (hce : cells ≤ ce) (hsl : slots ≤ sl) : own_G p e below s Q ce sl (T.setTop (mkF m pc Ls (w :: st))) := by
  obtain ⟨fs, hr, hrun, hended, hW, hsame⟩ := X.leave (v := some w) (fun h => by rw [hret] at h; cases h) hlk
  exact ⟨_, _, retOut X hx hret hn hi hd hr, hrun, hended, _, _, rfl, hQ, ⟨_, rfl⟩, hW, hsame.mono hce hsl⟩
theorem own_retI (X : Stand p l e R s m args below meth c T locs cells slots) (hx : p.tables.exec = Jvm.exec) {z : Int32} (hret : meth.sig.returnType = some .int) (hlk : meth.locks = false) (hd : decode c.code pc = .ok (.ireturn, 1)) (hQ : Q (some (.int z)) T.heap locs) (hce : cells ≤ ce) (hsl : slots ≤ sl) : own_G p e below s Q ce sl (T.setTop (mkF m pc Ls (.int z :: st))) := own_ret X hx hret hlk rfl (Or.inl ⟨rfl, Or.inl rfl, z, rfl⟩) hd hQ hce hsl
theorem own_retZ (X : Stand p l e R s m args below meth c T locs cells slots) (hx : p.tables.exec = Jvm.exec) {z : Int32} (hret : meth.sig.returnType = some .boolean) (hlk : meth.locks = false) (hz : z = 0 ∨ z = 1) (hd : decode c.code pc = .ok (.ireturn, 1)) (hQ : Q (some (.int z)) T.heap locs) (hce : cells ≤ ce) (hsl : slots ≤ sl) : own_G p e below s Q ce sl (T.setTop (mkF m pc Ls (.int z :: st))) := own_ret X hx hret hlk (by rcases hz with rfl | rfl <;> rfl) (Or.inl ⟨rfl, Or.inr (Or.inl rfl), z, rfl⟩) hd hQ hce hsl
theorem own_retB (X : Stand p l e R s m args below meth c T locs cells slots) (hx : p.tables.exec = Jvm.exec) {z : Int32} (hret : meth.sig.returnType = some .byte) (hlk : meth.locks = false) (hz : narrow .byte (.int z) = .int z) (hd : decode c.code pc = .ok (.ireturn, 1)) (hQ : Q (some (.int z)) T.heap locs) (hce : cells ≤ ce) (hsl : slots ≤ sl) : own_G p e below s Q ce sl (T.setTop (mkF m pc Ls (.int z :: st))) := own_ret X hx hret hlk hz (Or.inl ⟨rfl, Or.inr (Or.inr (Or.inl rfl)), z, rfl⟩) hd hQ hce hsl
theorem own_retL (X : Stand p l e R s m args below meth c T locs cells slots) (hx : p.tables.exec = Jvm.exec) {z : Int64} (hret : meth.sig.returnType = some .long) (hlk : meth.locks = false) (hd : decode c.code pc = .ok (.lreturn, 1)) (hQ : Q (some (.long z)) T.heap locs) (hce : cells ≤ ce) (hsl : slots ≤ sl) : own_G p e below s Q ce sl (T.setTop (mkF m pc Ls (.long z :: st))) := own_ret X hx hret hlk rfl (Or.inr (Or.inl ⟨rfl, rfl, z, rfl⟩)) hd hQ hce hsl
theorem own_retA (X : Stand p l e R s m args below meth c T locs cells slots) (hx : p.tables.exec = Jvm.exec) {v : Value} {t : FieldType} (hret : meth.sig.returnType = some t) (hlk : meth.locks = false) (ht : t.isReference = true) (hn : narrow t v = v) (hv : v.isRef = true) (hd : decode c.code pc = .ok (.areturn, 1)) (hQ : Q (some v) T.heap locs) (hce : cells ≤ ce) (hsl : slots ≤ sl) : own_G p e below s Q ce sl (T.setTop (mkF m pc Ls (v :: st))) := own_ret X hx hret hlk hn (Or.inr (Or.inr (Or.inr (Or.inr ⟨rfl, ht, hv⟩)))) hd hQ hce hsl
theorem own_retV (X : Stand p l e R s m args below meth c T locs cells slots) (hx : p.tables.exec = Jvm.exec) (hret : meth.sig.returnType = none) (hlk : meth.locks = false) (hd : decode c.code pc = .ok (.return_, 1)) (hQ : Q none T.heap locs) (hce : cells ≤ ce) (hsl : slots ≤ sl) : own_G p e below s Q ce sl (T.setTop (mkF m pc Ls [])) := by
  obtain ⟨fs, hr, hrun, hended, hW, hsame⟩ := X.leave (v := none) (fun _ => rfl) hlk
  exact ⟨_, _, X.returnOut hx hret hd hr, hrun, hended, _, _, rfl, hQ, ⟨_, rfl⟩, hW, hsame.mono hce hsl⟩
theorem own_iloadN {i : Fin 4} {v : Int32} (X : Stand p l e R s m args below meth c T locs cells slots) (hx : p.tables.exec = Jvm.exec) (hd : decode c.code pc = .ok (.iload_n i, 1)) (hl : Ls[i.val]? = some (.val (.int v))) (hp : pc + 1 = pc') (k : own_G p e below s Q ce sl (T.setTop (mkF m pc' Ls (.int v :: st)))) : own_G p e below s Q ce sl (T.setTop (mkF m pc Ls st)) := by
  subst hp; exact own_fw (fun t q => XS.iloadN X.here hx rfl hd hl q) k
theorem own_iload {i : Nat} {v : Int32} (X : Stand p l e R s m args below meth c T locs cells slots) (hx : p.tables.exec = Jvm.exec) (hd : decode c.code pc = .ok (.iload i, 2)) (hl : Ls[i]? = some (.val (.int v))) (hp : pc + 2 = pc') (k : own_G p e below s Q ce sl (T.setTop (mkF m pc' Ls (.int v :: st)))) : own_G p e below s Q ce sl (T.setTop (mkF m pc Ls st)) := by
  subst hp; exact own_fw (fun t q => XS.iload X.here hx rfl hd hl q) k
theorem own_lloadN {i : Fin 4} {v : Int64} (X : Stand p l e R s m args below meth c T locs cells slots) (hx : p.tables.exec = Jvm.exec) (hd : decode c.code pc = .ok (.lload_n i, 1)) (hl : Ls[i.val]? = some (.val (.long v))) (hp : pc + 1 = pc') (k : own_G p e below s Q ce sl (T.setTop (mkF m pc' Ls (.long v :: st)))) : own_G p e below s Q ce sl (T.setTop (mkF m pc Ls st)) := by
  subst hp; exact own_fw (fun t q => XS.lloadN X.here hx rfl hd hl q) k
theorem own_lload {i : Nat} {v : Int64} (X : Stand p l e R s m args below meth c T locs cells slots) (hx : p.tables.exec = Jvm.exec) (hd : decode c.code pc = .ok (.lload i, 2)) (hl : Ls[i]? = some (.val (.long v))) (hp : pc + 2 = pc') (k : own_G p e below s Q ce sl (T.setTop (mkF m pc' Ls (.long v :: st)))) : own_G p e below s Q ce sl (T.setTop (mkF m pc Ls st)) := by
  subst hp; exact own_fw (fun t q => XS.lload X.here hx rfl hd hl q) k
theorem own_aloadN {i : Fin 4} {v : Value} (X : Stand p l e R s m args below meth c T locs cells slots) (hx : p.tables.exec = Jvm.exec) (hd : decode c.code pc = .ok (.aload_n i, 1)) (hl : Ls[i.val]? = some (.val v)) (hv : v.isRef = true) (hp : pc + 1 = pc') (k : own_G p e below s Q ce sl (T.setTop (mkF m pc' Ls (v :: st)))) : own_G p e below s Q ce sl (T.setTop (mkF m pc Ls st)) := by
  subst hp; exact own_fw (fun t q => XS.aloadN X.here hx rfl hd hl hv q) k
theorem own_aload {i : Nat} {v : Value} (X : Stand p l e R s m args below meth c T locs cells slots) (hx : p.tables.exec = Jvm.exec) (hd : decode c.code pc = .ok (.aload i, 2)) (hl : Ls[i]? = some (.val v)) (hv : v.isRef = true) (hp : pc + 2 = pc') (k : own_G p e below s Q ce sl (T.setTop (mkF m pc' Ls (v :: st)))) : own_G p e below s Q ce sl (T.setTop (mkF m pc Ls st)) := by
  subst hp; exact own_fw (fun t q => XS.aload X.here hx rfl hd hl hv q) k
theorem own_istoreN {i : Fin 4} {v : Int32} (X : Stand p l e R s m args below meth c T locs cells slots) (hx : p.tables.exec = Jvm.exec) (hd : decode c.code pc = .ok (.istore_n i, 1)) {l' : Array Slot} (hl : storeLocals Ls i.val (.int v) = some l') (hp : pc + 1 = pc') (k : own_G p e below s Q ce sl (T.setTop (mkF m pc' l' st))) : own_G p e below s Q ce sl (T.setTop (mkF m pc Ls (.int v :: st))) := by
  subst hp; exact own_fw (fun t q => XS.istoreN X.here hx rfl hd rfl hl q) k
theorem own_istore {i : Nat} {v : Int32} (X : Stand p l e R s m args below meth c T locs cells slots) (hx : p.tables.exec = Jvm.exec) (hd : decode c.code pc = .ok (.istore i, 2)) {l' : Array Slot} (hl : storeLocals Ls i (.int v) = some l') (hp : pc + 2 = pc') (k : own_G p e below s Q ce sl (T.setTop (mkF m pc' l' st))) : own_G p e below s Q ce sl (T.setTop (mkF m pc Ls (.int v :: st))) := by
  subst hp; exact own_fw (fun t q => XS.istore X.here hx rfl hd rfl hl q) k
theorem own_lstoreN {i : Fin 4} {v : Int64} (X : Stand p l e R s m args below meth c T locs cells slots) (hx : p.tables.exec = Jvm.exec) (hd : decode c.code pc = .ok (.lstore_n i, 1)) {l' : Array Slot} (hl : storeLocals Ls i.val (.long v) = some l') (hp : pc + 1 = pc') (k : own_G p e below s Q ce sl (T.setTop (mkF m pc' l' st))) : own_G p e below s Q ce sl (T.setTop (mkF m pc Ls (.long v :: st))) := by
  subst hp; exact own_fw (fun t q => XS.lstoreN X.here hx rfl hd rfl hl q) k
theorem own_lstore {i : Nat} {v : Int64} (X : Stand p l e R s m args below meth c T locs cells slots) (hx : p.tables.exec = Jvm.exec) (hd : decode c.code pc = .ok (.lstore i, 2)) {l' : Array Slot} (hl : storeLocals Ls i (.long v) = some l') (hp : pc + 2 = pc') (k : own_G p e below s Q ce sl (T.setTop (mkF m pc' l' st))) : own_G p e below s Q ce sl (T.setTop (mkF m pc Ls (.long v :: st))) := by
  subst hp; exact own_fw (fun t q => XS.lstore X.here hx rfl hd rfl hl q) k
theorem own_astoreN {i : Fin 4} {v : Value} (X : Stand p l e R s m args below meth c T locs cells slots) (hx : p.tables.exec = Jvm.exec) (hd : decode c.code pc = .ok (.astore_n i, 1)) (hv : v.isRef = true) {l' : Array Slot} (hl : storeLocals Ls i.val v = some l') (hp : pc + 1 = pc') (k : own_G p e below s Q ce sl (T.setTop (mkF m pc' l' st))) : own_G p e below s Q ce sl (T.setTop (mkF m pc Ls (v :: st))) := by
  subst hp; exact own_fw (fun t q => XS.astoreN X.here hx rfl hd rfl hv hl q) k
theorem own_astore {i : Nat} {v : Value} (X : Stand p l e R s m args below meth c T locs cells slots) (hx : p.tables.exec = Jvm.exec) (hd : decode c.code pc = .ok (.astore i, 2)) (hv : v.isRef = true) {l' : Array Slot} (hl : storeLocals Ls i v = some l') (hp : pc + 2 = pc') (k : own_G p e below s Q ce sl (T.setTop (mkF m pc' l' st))) : own_G p e below s Q ce sl (T.setTop (mkF m pc Ls (v :: st))) := by
  subst hp; exact own_fw (fun t q => XS.astore X.here hx rfl hd rfl hv hl q) k
theorem own_iconst {i : Int} {z : Int32} (X : Stand p l e R s m args below meth c T locs cells slots) (hx : p.tables.exec = Jvm.exec) (hd : decode c.code pc = .ok (.iconst i, 1)) (hz : Int32.ofInt i = z) (hp : pc + 1 = pc') (k : own_G p e below s Q ce sl (T.setTop (mkF m pc' Ls (.int z :: st)))) : own_G p e below s Q ce sl (T.setTop (mkF m pc Ls st)) := by
  subst hp hz; exact own_fw (fun t q => XS.iconst X.here hx rfl hd q) k
theorem own_bipush {i : Int} {z : Int32} (X : Stand p l e R s m args below meth c T locs cells slots) (hx : p.tables.exec = Jvm.exec) (hd : decode c.code pc = .ok (.bipush i, 2)) (hz : (Int8.ofInt i).toInt32 = z) (hp : pc + 2 = pc') (k : own_G p e below s Q ce sl (T.setTop (mkF m pc' Ls (.int z :: st)))) : own_G p e below s Q ce sl (T.setTop (mkF m pc Ls st)) := by
  subst hp hz; exact own_fw (fun t q => XS.bipush X.here hx rfl hd q) k
theorem own_sipush {i : Int} {z : Int32} (X : Stand p l e R s m args below meth c T locs cells slots) (hx : p.tables.exec = Jvm.exec) (hd : decode c.code pc = .ok (.sipush i, 3)) (hz : (Int16.ofInt i).toInt32 = z) (hp : pc + 3 = pc') (k : own_G p e below s Q ce sl (T.setTop (mkF m pc' Ls (.int z :: st)))) : own_G p e below s Q ce sl (T.setTop (mkF m pc Ls st)) := by
  subst hp hz; exact own_fw (fun t q => XS.sipush X.here hx rfl hd q) k
theorem own_lconst {i : Fin 2} {z : Int64} (X : Stand p l e R s m args below meth c T locs cells slots) (hx : p.tables.exec = Jvm.exec) (hd : decode c.code pc = .ok (.lconst i, 1)) (hz : Int64.ofNat i = z) (hp : pc + 1 = pc') (k : own_G p e below s Q ce sl (T.setTop (mkF m pc' Ls (.long z :: st)))) : own_G p e below s Q ce sl (T.setTop (mkF m pc Ls st)) := by
  subst hp hz; exact own_fw (fun t q => XS.lconst X.here hx rfl hd q) k
theorem own_aconstNull (X : Stand p l e R s m args below meth c T locs cells slots) (hx : p.tables.exec = Jvm.exec) (hd : decode c.code pc = .ok (.aconst_null, 1)) (hp : pc + 1 = pc') (k : own_G p e below s Q ce sl (T.setTop (mkF m pc' Ls (.null :: st)))) : own_G p e below s Q ce sl (T.setTop (mkF m pc Ls st)) := by
  subst hp; exact own_fw (fun t q => XS.aconstNull X.here hx rfl hd q) k
theorem own_ldc (X : Stand p l e R s m args below meth c T locs cells slots) (hx : p.tables.exec = Jvm.exec) (hZ : Z.Warmed39 s.vm) {own : String} {index : Nat} {v : Int32} (hown : s.vm.findClass own = some m.cls) (w1 : (Jvm.Cond.constant own index v).before a0 Z = true) (hd : decode c.code pc = .ok (.ldc index, 2)) (hp : pc + 2 = pc') (k : own_G p e below s Q ce sl (T.setTop (mkF m pc' Ls (.int v :: st)))) : own_G p e below s Q ce sl (T.setTop (mkF m pc Ls st)) := by
  subst hp; exact own_fw (X.ldcInt hx hown (mvT hZ w1) (g := mkF m pc Ls st) rfl hd) k
theorem own_ldc2 (X : Stand p l e R s m args below meth c T locs cells slots) (hx : p.tables.exec = Jvm.exec) (hZ : Z.Warmed39 s.vm) {own : String} {index : Nat} {v : Int64} (hown : s.vm.findClass own = some m.cls) (w1 : (Jvm.Cond.constantLong own index v).before a0 Z = true) (hd : decode c.code pc = .ok (.ldc2_w index, 3)) (hp : pc + 3 = pc') (k : own_G p e below s Q ce sl (T.setTop (mkF m pc' Ls (.long v :: st)))) : own_G p e below s Q ce sl (T.setTop (mkF m pc Ls st)) := by
  subst hp; exact own_fw (X.ldc2Long hx hown (mvT hZ w1) (g := mkF m pc Ls st) rfl hd) k
theorem own_iadd {x y : Int32} (X : Stand p l e R s m args below meth c T locs cells slots) (hx : p.tables.exec = Jvm.exec) (hd : decode c.code pc = .ok (.iadd, 1)) (hp : pc + 1 = pc') (k : own_G p e below s Q ce sl (T.setTop (mkF m pc' Ls (.int (x + y) :: st)))) : own_G p e below s Q ce sl (T.setTop (mkF m pc Ls (.int y :: .int x :: st))) := by
  subst hp; exact own_fw (fun t q => XS.iadd X.here hx rfl hd rfl q) k
theorem own_isub {x y : Int32} (X : Stand p l e R s m args below meth c T locs cells slots) (hx : p.tables.exec = Jvm.exec) (hd : decode c.code pc = .ok (.isub, 1)) (hp : pc + 1 = pc') (k : own_G p e below s Q ce sl (T.setTop (mkF m pc' Ls (.int (x - y) :: st)))) : own_G p e below s Q ce sl (T.setTop (mkF m pc Ls (.int y :: .int x :: st))) := by
  subst hp; exact own_fw (fun t q => XS.isub X.here hx rfl hd rfl q) k
theorem own_imul {x y : Int32} (X : Stand p l e R s m args below meth c T locs cells slots) (hx : p.tables.exec = Jvm.exec) (hd : decode c.code pc = .ok (.imul, 1)) (hp : pc + 1 = pc') (k : own_G p e below s Q ce sl (T.setTop (mkF m pc' Ls (.int (x * y) :: st)))) : own_G p e below s Q ce sl (T.setTop (mkF m pc Ls (.int y :: .int x :: st))) := by
  subst hp; exact own_fw (fun t q => XS.imul X.here hx rfl hd rfl q) k
theorem own_iand {x y : Int32} (X : Stand p l e R s m args below meth c T locs cells slots) (hx : p.tables.exec = Jvm.exec) (hd : decode c.code pc = .ok (.iand, 1)) (hp : pc + 1 = pc') (k : own_G p e below s Q ce sl (T.setTop (mkF m pc' Ls (.int (x &&& y) :: st)))) : own_G p e below s Q ce sl (T.setTop (mkF m pc Ls (.int y :: .int x :: st))) := by
  subst hp; exact own_fw (fun t q => XS.iand X.here hx rfl hd rfl q) k
theorem own_ior {x y : Int32} (X : Stand p l e R s m args below meth c T locs cells slots) (hx : p.tables.exec = Jvm.exec) (hd : decode c.code pc = .ok (.ior, 1)) (hp : pc + 1 = pc') (k : own_G p e below s Q ce sl (T.setTop (mkF m pc' Ls (.int (x ||| y) :: st)))) : own_G p e below s Q ce sl (T.setTop (mkF m pc Ls (.int y :: .int x :: st))) := by
  subst hp; exact own_fw (fun t q => XS.ior X.here hx rfl hd rfl q) k
theorem own_ixor {x y : Int32} (X : Stand p l e R s m args below meth c T locs cells slots) (hx : p.tables.exec = Jvm.exec) (hd : decode c.code pc = .ok (.ixor, 1)) (hp : pc + 1 = pc') (k : own_G p e below s Q ce sl (T.setTop (mkF m pc' Ls (.int (x ^^^ y) :: st)))) : own_G p e below s Q ce sl (T.setTop (mkF m pc Ls (.int y :: .int x :: st))) := by
  subst hp; exact own_fw (fun t q => XS.ixor X.here hx rfl hd rfl q) k
theorem own_ishl {x y : Int32} (X : Stand p l e R s m args below meth c T locs cells slots) (hx : p.tables.exec = Jvm.exec) (hd : decode c.code pc = .ok (.ishl, 1)) (hp : pc + 1 = pc') (k : own_G p e below s Q ce sl (T.setTop (mkF m pc' Ls (.int (x <<< (y &&& 31)) :: st)))) : own_G p e below s Q ce sl (T.setTop (mkF m pc Ls (.int y :: .int x :: st))) := by
  subst hp; exact own_fw (fun t q => XS.ishl X.here hx rfl hd rfl q) k
theorem own_ishr {x y : Int32} (X : Stand p l e R s m args below meth c T locs cells slots) (hx : p.tables.exec = Jvm.exec) (hd : decode c.code pc = .ok (.ishr, 1)) (hp : pc + 1 = pc') (k : own_G p e below s Q ce sl (T.setTop (mkF m pc' Ls (.int (x >>> (y &&& 31)) :: st)))) : own_G p e below s Q ce sl (T.setTop (mkF m pc Ls (.int y :: .int x :: st))) := by
  subst hp; exact own_fw (fun t q => XS.ishr X.here hx rfl hd rfl q) k
theorem own_iushr {x y : Int32} (X : Stand p l e R s m args below meth c T locs cells slots) (hx : p.tables.exec = Jvm.exec) (hd : decode c.code pc = .ok (.iushr, 1)) (hp : pc + 1 = pc') (k : own_G p e below s Q ce sl (T.setTop (mkF m pc' Ls (.int ((x.toUInt32 >>> (y &&& 31).toUInt32).toInt32) :: st)))) : own_G p e below s Q ce sl (T.setTop (mkF m pc Ls (.int y :: .int x :: st))) := by
  subst hp; exact own_fw (fun t q => XS.iushr X.here hx rfl hd rfl q) k
theorem own_ladd {x y : Int64} (X : Stand p l e R s m args below meth c T locs cells slots) (hx : p.tables.exec = Jvm.exec) (hd : decode c.code pc = .ok (.ladd, 1)) (hp : pc + 1 = pc') (k : own_G p e below s Q ce sl (T.setTop (mkF m pc' Ls (.long (x + y) :: st)))) : own_G p e below s Q ce sl (T.setTop (mkF m pc Ls (.long y :: .long x :: st))) := by
  subst hp; exact own_fw (fun t q => XS.ladd X.here hx rfl hd rfl q) k
theorem own_lsub {x y : Int64} (X : Stand p l e R s m args below meth c T locs cells slots) (hx : p.tables.exec = Jvm.exec) (hd : decode c.code pc = .ok (.lsub, 1)) (hp : pc + 1 = pc') (k : own_G p e below s Q ce sl (T.setTop (mkF m pc' Ls (.long (x - y) :: st)))) : own_G p e below s Q ce sl (T.setTop (mkF m pc Ls (.long y :: .long x :: st))) := by
  subst hp; exact own_fw (fun t q => XS.lsub X.here hx rfl hd rfl q) k
theorem own_lmul {x y : Int64} (X : Stand p l e R s m args below meth c T locs cells slots) (hx : p.tables.exec = Jvm.exec) (hd : decode c.code pc = .ok (.lmul, 1)) (hp : pc + 1 = pc') (k : own_G p e below s Q ce sl (T.setTop (mkF m pc' Ls (.long (x * y) :: st)))) : own_G p e below s Q ce sl (T.setTop (mkF m pc Ls (.long y :: .long x :: st))) := by
  subst hp; exact own_fw (fun t q => XS.lmul X.here hx rfl hd rfl q) k
theorem own_land {x y : Int64} (X : Stand p l e R s m args below meth c T locs cells slots) (hx : p.tables.exec = Jvm.exec) (hd : decode c.code pc = .ok (.land, 1)) (hp : pc + 1 = pc') (k : own_G p e below s Q ce sl (T.setTop (mkF m pc' Ls (.long (x &&& y) :: st)))) : own_G p e below s Q ce sl (T.setTop (mkF m pc Ls (.long y :: .long x :: st))) := by
  subst hp; exact own_fw (fun t q => XS.land X.here hx rfl hd rfl q) k
theorem own_lor {x y : Int64} (X : Stand p l e R s m args below meth c T locs cells slots) (hx : p.tables.exec = Jvm.exec) (hd : decode c.code pc = .ok (.lor, 1)) (hp : pc + 1 = pc') (k : own_G p e below s Q ce sl (T.setTop (mkF m pc' Ls (.long (x ||| y) :: st)))) : own_G p e below s Q ce sl (T.setTop (mkF m pc Ls (.long y :: .long x :: st))) := by
  subst hp; exact own_fw (fun t q => XS.lor X.here hx rfl hd rfl q) k
theorem own_lxor {x y : Int64} (X : Stand p l e R s m args below meth c T locs cells slots) (hx : p.tables.exec = Jvm.exec) (hd : decode c.code pc = .ok (.lxor, 1)) (hp : pc + 1 = pc') (k : own_G p e below s Q ce sl (T.setTop (mkF m pc' Ls (.long (x ^^^ y) :: st)))) : own_G p e below s Q ce sl (T.setTop (mkF m pc Ls (.long y :: .long x :: st))) := by
  subst hp; exact own_fw (fun t q => XS.lxor X.here hx rfl hd rfl q) k
theorem own_lshl {x : Int64} {y : Int32} (X : Stand p l e R s m args below meth c T locs cells slots) (hx : p.tables.exec = Jvm.exec) (hd : decode c.code pc = .ok (.lshl, 1)) (hp : pc + 1 = pc') (k : own_G p e below s Q ce sl (T.setTop (mkF m pc' Ls (.long (x <<< (y &&& 0x3f).toInt64) :: st)))) : own_G p e below s Q ce sl (T.setTop (mkF m pc Ls (.int y :: .long x :: st))) := by
  subst hp; exact own_fw (fun t q => XS.lshl X.here hx rfl hd rfl q) k
theorem own_lshr {x : Int64} {y : Int32} (X : Stand p l e R s m args below meth c T locs cells slots) (hx : p.tables.exec = Jvm.exec) (hd : decode c.code pc = .ok (.lshr, 1)) (hp : pc + 1 = pc') (k : own_G p e below s Q ce sl (T.setTop (mkF m pc' Ls (.long (x >>> (y &&& 0x3f).toInt64) :: st)))) : own_G p e below s Q ce sl (T.setTop (mkF m pc Ls (.int y :: .long x :: st))) := by
  subst hp; exact own_fw (fun t q => XS.lshr X.here hx rfl hd rfl q) k
theorem own_lushr {x : Int64} {y : Int32} (X : Stand p l e R s m args below meth c T locs cells slots) (hx : p.tables.exec = Jvm.exec) (hd : decode c.code pc = .ok (.lushr, 1)) (hp : pc + 1 = pc') (k : own_G p e below s Q ce sl (T.setTop (mkF m pc' Ls (.long ((x.toUInt64 >>> (y &&& 0x3f).toInt64.toUInt64).toInt64) :: st)))) : own_G p e below s Q ce sl (T.setTop (mkF m pc Ls (.int y :: .long x :: st))) := by
  subst hp; exact own_fw (fun t q => XS.lushr X.here hx rfl hd rfl q) k
theorem own_idiv {x y : Int32} (X : Stand p l e R s m args below meth c T locs cells slots) (hx : p.tables.exec = Jvm.exec) (hd : decode c.code pc = .ok (.idiv, 1)) (hy : y ≠ 0) (hp : pc + 1 = pc') (k : own_G p e below s Q ce sl (T.setTop (mkF m pc' Ls (.int (x / y) :: st)))) : own_G p e below s Q ce sl (T.setTop (mkF m pc Ls (.int y :: .int x :: st))) := by
  subst hp; exact own_fw (fun t q => XS.idiv X.here hx rfl hd rfl hy q) k
theorem own_ldiv {x y : Int64} (X : Stand p l e R s m args below meth c T locs cells slots) (hx : p.tables.exec = Jvm.exec) (hd : decode c.code pc = .ok (.ldiv, 1)) (hy : y ≠ 0) (hp : pc + 1 = pc') (k : own_G p e below s Q ce sl (T.setTop (mkF m pc' Ls (.long (x / y) :: st)))) : own_G p e below s Q ce sl (T.setTop (mkF m pc Ls (.long y :: .long x :: st))) := by
  subst hp; exact own_fw (fun t q => XS.ldiv X.here hx rfl hd rfl hy q) k
theorem own_irem {x y : Int32} (X : Stand p l e R s m args below meth c T locs cells slots) (hx : p.tables.exec = Jvm.exec) (hd : decode c.code pc = .ok (.irem, 1)) (hy : y ≠ 0) (hp : pc + 1 = pc') (k : own_G p e below s Q ce sl (T.setTop (mkF m pc' Ls (.int (x % y) :: st)))) : own_G p e below s Q ce sl (T.setTop (mkF m pc Ls (.int y :: .int x :: st))) := by
  subst hp; exact own_fw (fun t q => iremM X hx rfl hd rfl hy q) k
theorem own_lrem {x y : Int64} (X : Stand p l e R s m args below meth c T locs cells slots) (hx : p.tables.exec = Jvm.exec) (hd : decode c.code pc = .ok (.lrem, 1)) (hy : y ≠ 0) (hp : pc + 1 = pc') (k : own_G p e below s Q ce sl (T.setTop (mkF m pc' Ls (.long (x % y) :: st)))) : own_G p e below s Q ce sl (T.setTop (mkF m pc Ls (.long y :: .long x :: st))) := by
  subst hp; rw [← lrem_mod] at k; exact own_fw (fun t q => XS.lrem X.here hx rfl hd rfl hy q) k
theorem own_ineg {x : Int32} (X : Stand p l e R s m args below meth c T locs cells slots) (hx : p.tables.exec = Jvm.exec) (hd : decode c.code pc = .ok (.ineg, 1)) (hp : pc + 1 = pc') (k : own_G p e below s Q ce sl (T.setTop (mkF m pc' Ls (.int (-x) :: st)))) : own_G p e below s Q ce sl (T.setTop (mkF m pc Ls (.int x :: st))) := by
  subst hp; exact own_fw (fun t q => XS.ineg X.here hx rfl hd rfl q) k
theorem own_lneg {x : Int64} (X : Stand p l e R s m args below meth c T locs cells slots) (hx : p.tables.exec = Jvm.exec) (hd : decode c.code pc = .ok (.lneg, 1)) (hp : pc + 1 = pc') (k : own_G p e below s Q ce sl (T.setTop (mkF m pc' Ls (.long (-x) :: st)))) : own_G p e below s Q ce sl (T.setTop (mkF m pc Ls (.long x :: st))) := by
  subst hp; exact own_fw (fun t q => XS.lneg X.here hx rfl hd rfl q) k
theorem own_i2l {x : Int32} (X : Stand p l e R s m args below meth c T locs cells slots) (hx : p.tables.exec = Jvm.exec) (hd : decode c.code pc = .ok (.i2l, 1)) (hp : pc + 1 = pc') (k : own_G p e below s Q ce sl (T.setTop (mkF m pc' Ls (.long x.toInt64 :: st)))) : own_G p e below s Q ce sl (T.setTop (mkF m pc Ls (.int x :: st))) := by
  subst hp; exact own_fw (fun t q => XS.i2l X.here hx rfl hd rfl q) k
theorem own_l2i {x : Int64} (X : Stand p l e R s m args below meth c T locs cells slots) (hx : p.tables.exec = Jvm.exec) (hd : decode c.code pc = .ok (.l2i, 1)) (hp : pc + 1 = pc') (k : own_G p e below s Q ce sl (T.setTop (mkF m pc' Ls (.int x.toInt32 :: st)))) : own_G p e below s Q ce sl (T.setTop (mkF m pc Ls (.long x :: st))) := by
  subst hp; exact own_fw (fun t q => XS.l2i X.here hx rfl hd rfl q) k
theorem own_i2b {x : Int32} (X : Stand p l e R s m args below meth c T locs cells slots) (hx : p.tables.exec = Jvm.exec) (hd : decode c.code pc = .ok (.i2b, 1)) (hp : pc + 1 = pc') (k : own_G p e below s Q ce sl (T.setTop (mkF m pc' Ls (.int x.toInt8.toInt32 :: st)))) : own_G p e below s Q ce sl (T.setTop (mkF m pc Ls (.int x :: st))) := by
  subst hp; exact own_fw (fun t q => XS.i2b X.here hx rfl hd rfl q) k
theorem own_lcmp {x y : Int64} (X : Stand p l e R s m args below meth c T locs cells slots) (hx : p.tables.exec = Jvm.exec) (hd : decode c.code pc = .ok (.lcmp, 1)) (hp : pc + 1 = pc') (k : own_G p e below s Q ce sl (T.setTop (mkF m pc' Ls (.int (lcmpW x y) :: st)))) : own_G p e below s Q ce sl (T.setTop (mkF m pc Ls (.long y :: .long x :: st))) := by
  subst hp; exact own_fw (fun t q => XS.lcmp X.here hx rfl hd rfl q) k
theorem own_dup {x : Value} (X : Stand p l e R s m args below meth c T locs cells slots) (hx : p.tables.exec = Jvm.exec) (hd : decode c.code pc = .ok (.dup, 1)) (hc : x.category = 1) (hp : pc + 1 = pc') (k : own_G p e below s Q ce sl (T.setTop (mkF m pc' Ls (x :: x :: st)))) : own_G p e below s Q ce sl (T.setTop (mkF m pc Ls (x :: st))) := by
  subst hp; exact own_fw (fun t q => XS.dup X.here hx rfl hd rfl hc q) k
theorem own_pop {x : Value} (X : Stand p l e R s m args below meth c T locs cells slots) (hx : p.tables.exec = Jvm.exec) (hd : decode c.code pc = .ok (.pop, 1)) (hc : x.category = 1) (hp : pc + 1 = pc') (k : own_G p e below s Q ce sl (T.setTop (mkF m pc' Ls st))) : own_G p e below s Q ce sl (T.setTop (mkF m pc Ls (x :: st))) := by
  subst hp; exact own_fw (fun t q => XS.pop X.here hx rfl hd rfl hc q) k
theorem own_dupX1 {x y : Value} (X : Stand p l e R s m args below meth c T locs cells slots) (hx : p.tables.exec = Jvm.exec) (hd : decode c.code pc = .ok (.dup_x1, 1)) (hc : x.category = 1) (hc' : y.category = 1) (hp : pc + 1 = pc') (k : own_G p e below s Q ce sl (T.setTop (mkF m pc' Ls (x :: y :: x :: st)))) : own_G p e below s Q ce sl (T.setTop (mkF m pc Ls (x :: y :: st))) := by
  subst hp; exact own_fw (fun t q => XS.dupX1 X.here hx rfl hd rfl hc hc' q) k
theorem own_dup2 {x y : Value} (X : Stand p l e R s m args below meth c T locs cells slots) (hx : p.tables.exec = Jvm.exec) (hd : decode c.code pc = .ok (.dup2, 1)) (hc : x.category = 1) (hc' : y.category = 1) (hp : pc + 1 = pc') (k : own_G p e below s Q ce sl (T.setTop (mkF m pc' Ls (x :: y :: x :: y :: st)))) : own_G p e below s Q ce sl (T.setTop (mkF m pc Ls (x :: y :: st))) := by
  subst hp; exact own_fw (fun t q => XT.dup2 X.here hx rfl hd rfl hc hc' q) k
theorem own_iinc {i : Nat} {cst : Int} {x z : Int32} (X : Stand p l e R s m args below meth c T locs cells slots) (hx : p.tables.exec = Jvm.exec) (hd : decode c.code pc = .ok (.iinc i cst, 3)) (hl : Ls[i]? = some (.val (.int x))) (hz : Int32.ofInt cst = z) {l' : Array Slot} (hl' : storeLocals Ls i (.int (x + z)) = some l') (hp : pc + 3 = pc') (k : own_G p e below s Q ce sl (T.setTop (mkF m pc' l' st))) : own_G p e below s Q ce sl (T.setTop (mkF m pc Ls st)) := by
  subst hp hz; exact own_fw (fun t q => XS.iinc X.here hx rfl hd hl hl' q) k
theorem own_goto {o : Int} (X : Stand p l e R s m args below meth c T locs cells slots) (hx : p.tables.exec = Jvm.exec) (hd : decode c.code pc = .ok (.goto o, 3)) (ho : 0 ≤ (pc : Int) + o) (hp : ((pc : Int) + o).toNat = pc') (k : own_G p e below s Q ce sl (T.setTop (mkF m pc' Ls st))) : own_G p e below s Q ce sl (T.setTop (mkF m pc Ls st)) := own_fw (fun t q => XS.goto X.here hx rfl (pc0 := pc) rfl hd ho hp q) k
theorem own_icmpT {o : Int} {cd : ClassFile.Cond} {x y : Int32} (X : Stand p l e R s m args below meth c T locs cells slots) (hx : p.tables.exec = Jvm.exec) (hd : decode c.code pc = .ok (.if_icmp cd o, 3)) (hc : if_icmp.holds cd x y = true) (ho : 0 ≤ (pc : Int) + o) (hp : ((pc : Int) + o).toNat = pc') (k : own_G p e below s Q ce sl (T.setTop (mkF m pc' Ls st))) : own_G p e below s Q ce sl (T.setTop (mkF m pc Ls (.int y :: .int x :: st))) := own_fw (fun t q => XS.icmpYes X.here hx rfl (pc0 := pc) rfl hd rfl hc ho hp q) k
theorem own_icmpF {o : Int} {cd : ClassFile.Cond} {x y : Int32} (X : Stand p l e R s m args below meth c T locs cells slots) (hx : p.tables.exec = Jvm.exec) (hd : decode c.code pc = .ok (.if_icmp cd o, 3)) (hc : if_icmp.holds cd x y = false) (hp : pc + 3 = pc') (k : own_G p e below s Q ce sl (T.setTop (mkF m pc' Ls st))) : own_G p e below s Q ce sl (T.setTop (mkF m pc Ls (.int y :: .int x :: st))) := by
  subst hp; exact own_fw (fun t q => XS.icmpNo X.here hx rfl hd rfl hc q) k
theorem own_ifT {o : Int} {cd : ClassFile.Cond} {x : Int32} (X : Stand p l e R s m args below meth c T locs cells slots) (hx : p.tables.exec = Jvm.exec) (hd : decode c.code pc = .ok (.ifCond cd o, 3)) (hc : if_icmp.holds cd x 0 = true) (ho : 0 ≤ (pc : Int) + o) (hp : ((pc : Int) + o).toNat = pc') (k : own_G p e below s Q ce sl (T.setTop (mkF m pc' Ls st))) : own_G p e below s Q ce sl (T.setTop (mkF m pc Ls (.int x :: st))) := own_fw (fun t q => XS.ifYes X.here hx rfl (pc0 := pc) rfl hd rfl ((if0 cd x).trans hc) ho hp q) k
theorem own_ifF {o : Int} {cd : ClassFile.Cond} {x : Int32} (X : Stand p l e R s m args below meth c T locs cells slots) (hx : p.tables.exec = Jvm.exec) (hd : decode c.code pc = .ok (.ifCond cd o, 3)) (hc : if_icmp.holds cd x 0 = false) (hp : pc + 3 = pc') (k : own_G p e below s Q ce sl (T.setTop (mkF m pc' Ls st))) : own_G p e below s Q ce sl (T.setTop (mkF m pc Ls (.int x :: st))) := by
  subst hp; exact own_fw (fun t q => XS.ifNo X.here hx rfl hd rfl ((if0 cd x).trans hc) q) k
theorem own_ltL {x y : Int64} (h : x < y) : if_icmp.holds .lt (lcmpW x y) 0 = true ∧ if_icmp.holds .ge (lcmpW x y) 0 = false ∧ if_icmp.holds .gt (lcmpW y x) 0 = true ∧ if_icmp.holds .le (lcmpW y x) 0 = false := by
  have h1 := (lw_lt x y).mpr h
  have h2 := (lw_gt y x).mpr h
  exact ⟨(tlt h1).1, (tlt h1).2.1, (tlt h2).2.2.1, (tlt h2).2.2.2⟩
theorem own_geL {x y : Int64} (h : ¬ x < y) : if_icmp.holds .lt (lcmpW x y) 0 = false ∧ if_icmp.holds .ge (lcmpW x y) 0 = true ∧ if_icmp.holds .gt (lcmpW y x) 0 = false ∧ if_icmp.holds .le (lcmpW y x) 0 = true := by
  have h1 : ¬ lcmpW x y < 0 := fun q => h ((lw_lt x y).mp q)
  have h2 : ¬ 0 < lcmpW y x := fun q => h ((lw_gt y x).mp q)
  exact ⟨(flt h1).1, (flt h1).2.1, (flt h2).2.2.1, (flt h2).2.2.2⟩
theorem own_eqL {x y : Int64} (h : x = y) : if_icmp.holds .eq (lcmpW x y) 0 = true ∧ if_icmp.holds .ne (lcmpW x y) 0 = false := teq ((lw_eq x y).mpr h)
theorem own_neL {x y : Int64} (h : ¬ x = y) : if_icmp.holds .eq (lcmpW x y) 0 = false ∧ if_icmp.holds .ne (lcmpW x y) 0 = true := feq (fun q => h ((lw_eq x y).mp q))
theorem own_bT {P : Prop} [Decidable P] (h : P) : if_icmp.holds .eq (if P then (1 : Int32) else 0) 0 = false ∧ if_icmp.holds .ne (if P then (1 : Int32) else 0) 0 = true := by rw [if_pos h]; exact ⟨rfl, rfl⟩
theorem own_bF {P : Prop} [Decidable P] (h : ¬ P) : if_icmp.holds .eq (if P then (1 : Int32) else 0) 0 = true ∧ if_icmp.holds .ne (if P then (1 : Int32) else 0) 0 = false := by rw [if_neg h]; exact ⟨rfl, rfl⟩
theorem own_b01 {P : Prop} [Decidable P] : (if P then (1 : Int32) else 0) = 0 ∨ (if P then (1 : Int32) else 0) = 1 := by by_cases h : P <;> simp [h]
theorem own_ifnonnullT {o : Int} {b : Addr} (X : Stand p l e R s m args below meth c T locs cells slots) (hx : p.tables.exec = Jvm.exec) (hd : decode c.code pc = .ok (.ifnonnull o, 3)) (ho : 0 ≤ (pc : Int) + o) (hp : ((pc : Int) + o).toNat = pc') (k : own_G p e below s Q ce sl (T.setTop (mkF m pc' Ls st))) : own_G p e below s Q ce sl (T.setTop (mkF m pc Ls (.ref b :: st))) := own_fw (fun t q => XS.ifnonnullYes X.here hx rfl (pc0 := pc) rfl hd rfl ho hp q) k
theorem own_ifnonnullF {o : Int} (X : Stand p l e R s m args below meth c T locs cells slots) (hx : p.tables.exec = Jvm.exec) (hd : decode c.code pc = .ok (.ifnonnull o, 3)) (hp : pc + 3 = pc') (k : own_G p e below s Q ce sl (T.setTop (mkF m pc' Ls st))) : own_G p e below s Q ce sl (T.setTop (mkF m pc Ls (.null :: st))) := by
  subst hp; exact own_fw (fun t q => XS.ifnonnullNo X.here hx rfl hd rfl q) k
theorem own_ifnullT {o : Int} (X : Stand p l e R s m args below meth c T locs cells slots) (hx : p.tables.exec = Jvm.exec) (hd : decode c.code pc = .ok (.ifnull o, 3)) (ho : 0 ≤ (pc : Int) + o) (hp : ((pc : Int) + o).toNat = pc') (k : own_G p e below s Q ce sl (T.setTop (mkF m pc' Ls st))) : own_G p e below s Q ce sl (T.setTop (mkF m pc Ls (.null :: st))) := own_fw (fun t q => XS.ifnullYes X.here hx rfl (pc0 := pc) rfl hd rfl ho hp q) k
theorem own_ifnullF {o : Int} {b : Addr} (X : Stand p l e R s m args below meth c T locs cells slots) (hx : p.tables.exec = Jvm.exec) (hd : decode c.code pc = .ok (.ifnull o, 3)) (hp : pc + 3 = pc') (k : own_G p e below s Q ce sl (T.setTop (mkF m pc' Ls st))) : own_G p e below s Q ce sl (T.setTop (mkF m pc Ls (.ref b :: st))) := by
  subst hp; exact own_fw (fun t q => XS.ifnullNo X.here hx rfl hd rfl q) k
theorem own_acmpT {o : Int} {cd : ACond} {x y : Value} (X : Stand p l e R s m args below meth c T locs cells slots) (hx : p.tables.exec = Jvm.exec) (hd : decode c.code pc = .ok (.if_acmp cd o, 3)) (h1 : x.isRef = true) (h2 : y.isRef = true) (hc : XT.acmp cd x y = true) (ho : 0 ≤ (pc : Int) + o) (hp : ((pc : Int) + o).toNat = pc') (k : own_G p e below s Q ce sl (T.setTop (mkF m pc' Ls st))) : own_G p e below s Q ce sl (T.setTop (mkF m pc Ls (y :: x :: st))) := own_fw (fun t q => XT.acmpYes X.here hx rfl (pc0 := pc) rfl hd rfl h1 h2 hc ho hp q) k
theorem own_acmpF {o : Int} {cd : ACond} {x y : Value} (X : Stand p l e R s m args below meth c T locs cells slots) (hx : p.tables.exec = Jvm.exec) (hd : decode c.code pc = .ok (.if_acmp cd o, 3)) (h1 : x.isRef = true) (h2 : y.isRef = true) (hc : XT.acmp cd x y = false) (hp : pc + 3 = pc') (k : own_G p e below s Q ce sl (T.setTop (mkF m pc' Ls st))) : own_G p e below s Q ce sl (T.setTop (mkF m pc Ls (y :: x :: st))) := by
  subst hp; exact own_fw (fun t q => XT.acmpNo X.here hx rfl hd rfl h1 h2 hc q) k
theorem own_getF (X : Stand p l e R s m args below meth c T locs cells slots) (hx : p.tables.exec = Jvm.exec) (hZ : Z.Warmed39 s.vm) {own O n d : String} {index : Nat} (hown : s.vm.findClass own = some m.cls) (w1 : (Jvm.Cond.fieldLink own index O n d).before a0 Z = true) (eT : T.heap = h) {a : Addr} {v : Value} (F : Fld Z h a O n d v) (hd : decode c.code pc = .ok (.getfield index, 3)) (hp : pc + 3 = pc')
    (k : ∀ T' : State, Stand p l e R s m args below meth c T' locs cells slots → T'.heap = h → own_G p e below s Q ce sl (T'.setTop (mkF m pc' Ls (v :: st)))) : own_G p e below s Q ce sl (T.setTop (mkF m pc Ls (.ref a :: st))) := by
  subst hp
  obtain ⟨T', X', e', st'⟩ := getF X hx hZ hown (host := "") (Or.inl w1) Via.refl eT F (g := mkF m pc Ls (.ref a :: st)) rfl rfl hd
  exact own_fw st' (k T' X' e')
theorem own_putF (X : Stand p l e R s m args below meth c T locs cells slots) (hx : p.tables.exec = Jvm.exec) (hZ : Z.Warmed39 s.vm) {own O n d C : String} {index kk : Nat} {ty : FieldType} (hown : s.vm.findClass own = some m.cls) (w1 : (Jvm.Cond.fieldLink own index O n d).before a0 Z = true) (eT : T.heap = h) {a : Addr} {v old : Value} (F : Fld Z h a O n d old) (E : Exa Z h a C) (L : (Jvm.Cond.lays C O n d).before a0 Z = true ∨ ((Jvm.Cond.laysFinal C O n d).before a0 Z = true ∧ own = O ∧ meth.name = "<init>")) (wi : (Jvm.Cond.instantiable C kk).before a0 Z = true) (hty : parseFieldDescriptor d = some ty) (hn : narrow ty v = v) (hf : fits ty v = true) (hd : decode c.code pc = .ok (.putfield index, 3)) (hp : pc + 3 = pc')
    (k : ∀ (T' : State) (h' : Heap), Stand p l e R s m args below meth c T' (locs ++ [⟨a, RoadKit.slotOf Z O n d⟩]) cells slots → T'.heap = h' → Wr h h' a (RoadKit.slotOf Z O n d) v → own_G p e below s Q ce sl (T'.setTop (mkF m pc' Ls st))) : own_G p e below s Q ce sl (T.setTop (mkF m pc Ls (v :: .ref a :: st))) := by
  subst hp
  obtain ⟨T', h', X', e', W', st'⟩ := putF X hx hZ hown (host := "") (Or.inl w1) Via.refl eT F E L wi hty hn hf (g := mkF m pc Ls (v :: .ref a :: st)) rfl rfl hd
  exact own_fw st' (k T' h' X' e' W')
theorem own_new (X : Stand p l e R s m args below meth c T locs cells slots) (hx : p.tables.exec = Jvm.exec) (hZ : Z.Warmed39 s.vm) {own C : String} {index n : Nat} (hown : s.vm.findClass own = some m.cls) (w1 : (Jvm.Cond.classLink own index C).before a0 Z = true) (wi : (Jvm.Cond.instantiable C n).before a0 Z = true) (wz : (Jvm.Cond.initialized C).before a0 Z = true) (eT : T.heap = h) (hd : decode c.code pc = .ok (.new index, 3)) (hp : pc + 3 = pc') (hc : cells + 1 ≤ R.cells) (hl : slots + n ≤ R.slots)
    (k : ∀ (T' : State) (h' : Heap) (a : Addr), a = h.size → Stand p l e R s m args below meth c T' locs (cells + 1) (slots + n) → T'.heap = h' → Ext h h' → Exa Z h' a C → (∀ {O nm d : String} {ty : FieldType}, Laid Z a0 C O nm d → parseFieldDescriptor d = some ty → Fld Z h' a O nm d (defaultValue ty)) → own_G p e below s Q ce sl (T'.setTop (mkF m pc' Ls (.ref a :: st)))) : own_G p e below s Q ce sl (T.setTop (mkF m pc Ls st)) := by
  subst hp
  obtain ⟨T', h', X', e', E', A', D', -, st'⟩ := newO X hx hZ hown w1 wi wz eT (g := mkF m pc Ls st) rfl hd hc hl
  exact own_fw st' (k T' h' h.size rfl X' e' E' A' D')
theorem own_callS (X : Stand p l e R s m args below meth c T locs cells slots) (hx : p.tables.exec = Jvm.exec) (hZ : Z.Warmed39 s.vm) {own : String} {index : Nat} {y : MethodName} {bytes : ByteArray} {maxL : Nat} {ret : Option FieldType} (hown : s.vm.findClass own = some m.cls) (w1 : (Jvm.Cond.methodLink own index y).before a0 Z = true) (w2 : (Jvm.Cond.static y).before a0 Z = true) (w3 : (Jvm.Cond.initialized y.cls).before a0 Z = true) (w4 : (Jvm.Cond.code y bytes maxL ret).before a0 Z = true) (hy : y.cls ≠ "java/lang/invoke/MethodHandle" ∧ y.cls ≠ "java/lang/invoke/VarHandle") {rm : Room} {as' : List Value} {Q' : Option Value → Heap → List Loc → Prop} (hM : own_M l Z y bytes maxL ret [] rm as'.toArray h Q' rm.cells rm.slots) (eT : T.heap = h) {W : Nat} (hf : rm.frames + 1 ≤ R.frames) (hl : W + (maxL + 11) + rm.locals ≤ R.locals) {ps : List FieldType} {r : Option FieldType} (pd : parseMethodDescriptor y.desc = some ⟨ps, r⟩) (hlen : as'.length = ps.length) {stk rest : List Value} (hstk : stk = as'.reverse ++ rest) (hd : decode c.code pc = .ok (.invokestatic index, 3)) (hW : (rest.map fun v => v.category).sum ≤ W) (hsize : Ls.size = c.maxLocals) (hc : cells + rm.cells ≤ R.cells) (hs : slots + rm.slots ≤ R.slots) (hp : pc + 3 = pc')
    (k : ∀ (v : Option Value) (T' : State) (L : List Loc), Stand p l e R s m args below meth c T' (locs ++ L) (cells + rm.cells) (slots + rm.slots) → Q' v T'.heap L → own_G p e below s Q ce sl (T'.setTop (mkF m pc' Ls (v.toList ++ rest)))) : own_G p e below s Q ce sl (T.setTop (mkF m pc Ls stk)) := by
  subst hp hstk
  obtain ⟨v, vm1, ⟨T', L', k', n'⟩, hWm, X', ⟨Lc, hQ', l', y', z'⟩, st'⟩ := Jvm.LawKit.callS X hx (y := y) hown (mvT hZ w1) (mvT hZ w2) (mvT hZ w3) (mvT hZ w4) hy (backOf (W := W) hM hZ w4 w3 hf hl) (g := mkF m pc Ls (as'.reverse ++ rest)) rfl hsize (argsL := as') (rest := rest) (lenOf pd hlen) rfl (by show 2 * 0 + _ ≤ _; omega) hd (fun _ _ => ⟨rfl, eT, hc, hs⟩)
  dsimp only [Pt.U, Pt.locs, Pt.cells, Pt.slots] at X' l' y' z' hQ'
  subst l' y' z'
  exact own_fw st' (k v T' Lc X' hQ')
theorem own_callC (X : Stand p l e R s m args below meth c T locs cells slots) (hx : p.tables.exec = Jvm.exec) (hZ : Z.Warmed39 s.vm) {own : String} {index : Nat} {y : MethodName} {bytes : ByteArray} {maxL : Nat} (hy1 : y.name = "<init>") (hown : s.vm.findClass own = some m.cls) (w1 : (Jvm.Cond.methodLink own index y).before a0 Z = true) (w2 : (Jvm.Cond.instanceMethod y).before a0 Z = true) (w3 : (Jvm.Cond.initialized y.cls).before a0 Z = true) (w4 : (Jvm.Cond.code y bytes maxL none).before a0 Z = true) (hy : y.cls ≠ "java/lang/invoke/MethodHandle" ∧ y.cls ≠ "java/lang/invoke/VarHandle") {a : Addr} {rm : Room} {as' : List Value} {Q' : Option Value → Heap → List Loc → Prop} (hM : own_M l Z y bytes maxL none [] rm (.ref a :: as').toArray h Q' rm.cells rm.slots) (eT : T.heap = h) {W : Nat} (hf : rm.frames + 1 ≤ R.frames) (hl : W + (maxL + 11) + rm.locals ≤ R.locals) {ps : List FieldType} {r : Option FieldType} (pd : parseMethodDescriptor y.desc = some ⟨ps, r⟩) (hlen : as'.length = ps.length) {stk rest : List Value} (hstk : stk = as'.reverse ++ .ref a :: rest) (hd : decode c.code pc = .ok (.invokespecial index, 3)) (hW : (rest.map fun v => v.category).sum ≤ W) (hsize : Ls.size = c.maxLocals) (hc : cells + rm.cells ≤ R.cells) (hs : slots + rm.slots ≤ R.slots) (hp : pc + 3 = pc')
    (k : ∀ (v : Option Value) (T' : State) (L : List Loc), Stand p l e R s m args below meth c T' (locs ++ L) (cells + rm.cells) (slots + rm.slots) → Q' v T'.heap L → own_G p e below s Q ce sl (T'.setTop (mkF m pc' Ls (v.toList ++ rest)))) : own_G p e below s Q ce sl (T.setTop (mkF m pc Ls stk)) := by
  subst hp hstk
  obtain ⟨v, vm1, ⟨T', L', k', n'⟩, hWm, X', ⟨Lc, hQ', l', y', z'⟩, st'⟩ := X.specialBack hx (y := y) hy1 hown (mvT hZ w1) (mvT hZ w2) (mvT hZ w4) hy (backOf (W := W) hM hZ w4 w3 hf hl) (g := mkF m pc Ls (as'.reverse ++ .ref a :: rest)) rfl hsize (Steps.refl _) (a := a) (argsL := as') (rest := rest) (lenOf pd hlen) rfl (by show 2 * 0 + _ ≤ _; omega) hd (fun _ _ => ⟨rfl, eT, hc, hs⟩)
  dsimp only [Pt.U, Pt.locs, Pt.cells, Pt.slots] at X' l' y' z' hQ'
  subst l' y' z'
  exact own_fw (fun t q => st'.trans q) (k v T' Lc X' hQ')
theorem own_callV (X : Stand p l e R s m args below meth c T locs cells slots) (hx : p.tables.exec = Jvm.exec) (hZ : Z.Warmed39 s.vm) {own C : String} {index : Nat} {y : MethodName} {bytes : ByteArray} {maxL : Nat} {ret : Option FieldType} (hown : s.vm.findClass own = some m.cls) (w1 : (Jvm.Cond.methodLink own index y).before a0 Z = true) (w2 : (Jvm.Cond.declares y).before a0 Z = true) (w3 : (Jvm.Cond.selects C y y).before a0 Z = true) (w4 : (Jvm.Cond.instanceMethod y).before a0 Z = true) (w5 : (Jvm.Cond.initialized y.cls).before a0 Z = true) (w6 : (Jvm.Cond.code y bytes maxL ret).before a0 Z = true) (hy : y.cls ≠ "java/lang/invoke/MethodHandle" ∧ y.cls ≠ "java/lang/invoke/VarHandle") {a : Addr} (E : Exa Z h a C) {rm : Room} {as' : List Value} {Q' : Option Value → Heap → List Loc → Prop} (hM : own_M l Z y bytes maxL ret [] rm (.ref a :: as').toArray h Q' rm.cells rm.slots) (eT : T.heap = h) {W : Nat} (hf : rm.frames + 1 ≤ R.frames) (hl : W + (maxL + 11) + rm.locals ≤ R.locals) {ps : List FieldType} {r : Option FieldType} (pd : parseMethodDescriptor y.desc = some ⟨ps, r⟩) (hlen : as'.length = ps.length) {stk rest : List Value} (hstk : stk = as'.reverse ++ .ref a :: rest) (hd : decode c.code pc = .ok (.invokevirtual index, 3)) (hW : (rest.map fun v => v.category).sum ≤ W) (hsize : Ls.size = c.maxLocals) (hc : cells + rm.cells ≤ R.cells) (hs : slots + rm.slots ≤ R.slots) (hp : pc + 3 = pc')
    (k : ∀ (v : Option Value) (T' : State) (L : List Loc), Stand p l e R s m args below meth c T' (locs ++ L) (cells + rm.cells) (slots + rm.slots) → Q' v T'.heap L → own_G p e below s Q ce sl (T'.setTop (mkF m pc' Ls (v.toList ++ rest)))) : own_G p e below s Q ce sl (T.setTop (mkF m pc Ls stk)) := by
  subst hp hstk
  obtain ⟨cq, kq, qa, qb, qc⟩ := isOf hZ eT E
  obtain ⟨v, vm1, ⟨T', L', k', n'⟩, hWm, X', ⟨Lc, hQ', l', y', z'⟩, st'⟩ := X.virtualBack hx (y := y) (z := y) hown (mvT hZ w1) (mvT hZ w2) (notFace_of_selects (args := #[]) (mvT hZ w3)) (mvT hZ w3) (mvT hZ w4) hy (backOf (W := W) hM hZ w6 w5 hf hl) qa qc (g := mkF m pc Ls (as'.reverse ++ .ref a :: rest)) rfl hsize (Steps.refl _) (argsL := as') (rest := rest) (lenOf pd hlen) rfl (by show 2 * 0 + _ ≤ _; omega) hd (fun _ _ => ⟨rfl, eT, hc, hs⟩)
  dsimp only [Pt.U, Pt.locs, Pt.cells, Pt.slots] at X' l' y' z' hQ'
  subst l' y' z'
  exact own_fw (fun t q => st'.trans q) (k v T' Lc X' hQ')
end OwnHead
theorem od_prog_23_method_10_0 : decode prog_23_method_10_code 0 = .ok (.lload_n 0, 1) := by decide +kernel
theorem od_prog_23_method_10_1 : decode prog_23_method_10_code 1 = .ok (.lload 4, 2) := by decide +kernel
theorem od_prog_23_method_10_3 : decode prog_23_method_10_code 3 = .ok (.ladd, 1) := by decide +kernel
theorem od_prog_23_method_10_4 : decode prog_23_method_10_code 4 = .ok (.lstore 6, 2) := by decide +kernel
theorem od_prog_23_method_10_6 : decode prog_23_method_10_code 6 = .ok (.lload 6, 2) := by decide +kernel
theorem od_prog_23_method_10_8 : decode prog_23_method_10_code 8 = .ok (.lload_n 2, 1) := by decide +kernel
theorem od_prog_23_method_10_9 : decode prog_23_method_10_code 9 = .ok (.lsub, 1) := by decide +kernel
theorem od_prog_23_method_10_10 : decode prog_23_method_10_code 10 = .ok (.lconst 0, 1) := by decide +kernel
theorem od_prog_23_method_10_11 : decode prog_23_method_10_code 11 = .ok (.lcmp, 1) := by decide +kernel
theorem od_prog_23_method_10_12 : decode prog_23_method_10_code 12 = .ok (.ifCond .ge 9, 3) := by decide +kernel
theorem od_prog_23_method_10_15 : decode prog_23_method_10_code 15 = .ok (.lload_n 2, 1) := by decide +kernel
theorem od_prog_23_method_10_16 : decode prog_23_method_10_code 16 = .ok (.lload 4, 2) := by decide +kernel
theorem od_prog_23_method_10_18 : decode prog_23_method_10_code 18 = .ok (.ladd, 1) := by decide +kernel
theorem od_prog_23_method_10_19 : decode prog_23_method_10_code 19 = .ok (.lstore 6, 2) := by decide +kernel
theorem od_prog_23_method_10_21 : decode prog_23_method_10_code 21 = .ok (.lload 6, 2) := by decide +kernel
theorem od_prog_23_method_10_23 : decode prog_23_method_10_code 23 = .ok (.lreturn, 1) := by decide +kernel
theorem opn_com_example_klokd_klokd_service_NtpPoller : plainName "com/example/klokd/klokd/service/NtpPoller" = true := by first | (simp [plainName, overriddenIn]; done) | decide +kernel
theorem oef_rm_nd (m : MethodId) (u0 : Int64) (u1 : Int64) (u2 : Int64) : entryFrame m #[(.long u0), (.long u1), (.long u2)] 8 = mkF m 0 #[.val (.long u0), .second, .val (.long u1), .second, .val (.long u2), .second, .unset, .unset] [] := by first | (simp [entryFrame, mkF, argsToLocals, Value.category]; done) | rfl
set_option maxRecDepth 65536 in
set_option maxHeartbeats 40000000 in
theorem rm_nd (l : Launch) (Z : State) (a0 : Array Value) (hw : ∀ d ∈ tables_1, d.before a0 Z = true) (u0 : Int64) (u1 : Int64) (u2 : Int64) (h0 : Heap) (n0 : Nat) (Z0 : n0 ≤ h0.size)  :
    own_M l Z (⟨"com/example/klokd/klokd/service/NtpPoller", "nextDue", "(JJJ)J"⟩ : MethodName) prog_23_method_10_code 8 (some .long) [] ({ frames := 0, cells := 0, slots := 0, locals := 0 } : Room) #[(.long u0), (.long u1), (.long u2)] h0 (fun v h L => v = some (.long (if ((u0 + u2) - u1) < (0 : Int64) then (u1 + u2) else (u0 + u2))) ∧ Fr n0 L ∧ (h = h0)) 0 0 := by
  refine own_body (plainFor_of_name opn_com_example_klokd_klokd_service_NtpPoller) ?_
  intro p e s m below meth c s1 hx hby hml hown hnm hret hlk hZ X0 e0
  rw [oef_rm_nd m u0 u1 u2]
  have N0 := Fr.nil n0
  refine own_lloadN X0 hx (hb hby od_prog_23_method_10_0) rfl (pc' := 1) rfl ?_
  refine own_lload X0 hx (hb hby od_prog_23_method_10_1) rfl (pc' := 3) rfl ?_
  refine own_ladd X0 hx (hb hby od_prog_23_method_10_3) (pc' := 4) rfl ?_
  refine own_lstore X0 hx (hb hby od_prog_23_method_10_4) (l' := #[.val (.long u0), .second, .val (.long u1), .second, .val (.long u2), .second, .val (.long (u0 + u2)), .second]) rfl (pc' := 6) rfl ?_
  refine own_lload X0 hx (hb hby od_prog_23_method_10_6) rfl (pc' := 8) rfl ?_
  refine own_lloadN X0 hx (hb hby od_prog_23_method_10_8) rfl (pc' := 9) rfl ?_
  refine own_lsub X0 hx (hb hby od_prog_23_method_10_9) (pc' := 10) rfl ?_
  refine own_lconst X0 hx (hb hby od_prog_23_method_10_10) (z := (0 : Int64)) (by decide) (pc' := 11) rfl ?_
  refine own_lcmp X0 hx (hb hby od_prog_23_method_10_11) (pc' := 12) rfl ?_
  refine own_via (S' := s1.setTop (mkF m 21 #[.val (.long u0), .second, .val (.long u1), .second, .val (.long u2), .second, .val (.long (if ((u0 + u2) - u1) < (0 : Int64) then (u1 + u2) else (u0 + u2))), .second] [])) (fun kk => ?_) ?_
  · by_cases c1 : ((u0 + u2) - u1) < (0 : Int64)
    · refine own_ifF X0 hx (hb hby od_prog_23_method_10_12) (own_ltL c1).2.1 (pc' := 15) rfl ?_
      refine own_lloadN X0 hx (hb hby od_prog_23_method_10_15) rfl (pc' := 16) rfl ?_
      refine own_lload X0 hx (hb hby od_prog_23_method_10_16) rfl (pc' := 18) rfl ?_
      refine own_ladd X0 hx (hb hby od_prog_23_method_10_18) (pc' := 19) rfl ?_
      refine own_lstore X0 hx (hb hby od_prog_23_method_10_19) (l' := #[.val (.long u0), .second, .val (.long u1), .second, .val (.long u2), .second, .val (.long (u1 + u2)), .second]) rfl (pc' := 21) rfl ?_
      exact own_cast (by simp only [if_pos c1]) kk
    · refine own_ifT X0 hx (hb hby od_prog_23_method_10_12) (own_geL c1).2.1 (by decide) (pc' := 21) rfl ?_
      exact own_cast (by simp only [if_neg c1]) kk
  refine own_lload X0 hx (hb hby od_prog_23_method_10_21) rfl (pc' := 23) rfl ?_
  exact own_retL X0 hx hret hlk (hb hby od_prog_23_method_10_23) ⟨rfl, N0, e0⟩ (by decide) (by decide)
theorem own_key (a b c : Int64) : (if (((a - (b >>> ((2 : Int32) &&& 0x3f).toInt64)) + ((c &&& (4611686018427387903 : Int64)) + (1 : Int64))) - a) < (0 : Int64) then (a + ((c &&& (4611686018427387903 : Int64)) + (1 : Int64))) else ((a - (b >>> ((2 : Int32) &&& 0x3f).toInt64)) + ((c &&& (4611686018427387903 : Int64)) + (1 : Int64)))) = (a + (if ((c &&& (4611686018427387903 : Int64)) + (1 : Int64)) < (b >>> ((2 : Int32) &&& 0x3f).toInt64) then ((c &&& (4611686018427387903 : Int64)) + (1 : Int64)) else (((c &&& (4611686018427387903 : Int64)) + (1 : Int64)) - (b >>> ((2 : Int32) &&& 0x3f).toInt64)))) := by
  have h1 := c_lshr b 2 2 (by decide)
  have h2 := c_maskL c 4611686018427387903 62 (by decide) (by decide)
  have h3 := c_ladd (c &&& 4611686018427387903) 1
  have rb := rng64 b
  have ra := rng64 a
  generalize (b >>> ((2 : Int32) &&& 0x3f).toInt64) = lag at *
  generalize hI : (c &&& (4611686018427387903 : Int64)) + (1 : Int64) = iv at *
  have ri := rng64 iv
  have rl := rng64 lag
  simp only [Int64.reduceToInt] at h3
  have k1 := c_lsub a lag
  have k2 := c_ladd (a - lag) iv
  have k3 := c_lsub ((a - lag) + iv) a
  have k4 := c_ladd a iv
  have k5 := c_lsub iv lag
  have k6 := c_ladd a (iv - lag)
  have r1 := rng64 (a - lag)
  have r2 := rng64 ((a - lag) + iv)
  have r3 := rng64 (((a - lag) + iv) - a)
  have r4 := rng64 (a + iv)
  have r5 := rng64 (iv - lag)
  have r6 := rng64 (a + (iv - lag))
  have e1 : ((((a - lag) + iv) - a) < (0 : Int64)) ↔ iv < lag := by
    simp only [Int64.lt_iff_toInt_lt, Int64.lt_iff_toInt_lt, Int64.reduceToInt]
    omega
  by_cases hq : iv < lag
  · rw [if_pos hq, if_pos (e1.mpr hq)]
  · rw [if_neg hq, if_neg (fun z => hq (e1.mp z))]
    rw [← Int64.toInt_inj]
    omega
theorem ow_0 {Z : State} {a0 : Array Value} (hw : ∀ d ∈ tables_1, d.before a0 Z = true) : (Jvm.Cond.constantLong "com/example/klokd/klokd/service/NtpPollerNextDuePinLaw" (7 : Nat) (4611686018427387903 : Int64)).before a0 Z = true := hw _ (List.mem_of_getElem? (i := 0) rfl)
theorem ow_1 {Z : State} {a0 : Array Value} (hw : ∀ d ∈ tables_1, d.before a0 Z = true) : (Jvm.Cond.methodLink "com/example/klokd/klokd/service/NtpPollerNextDuePinLaw" (9 : Nat) ({ cls := "com/example/klokd/klokd/service/NtpPoller", name := "nextDue", desc := "(JJJ)J" } : Jvm.MethodName)).before a0 Z = true := hw _ (List.mem_of_getElem? (i := 1) rfl)
theorem opd__JJJ_J : parseMethodDescriptor "(JJJ)J" = some ⟨[.long, .long, .long], some .long⟩ := by decide +kernel
theorem ow_2 {Z : State} {a0 : Array Value} (hw : ∀ d ∈ tables_1, d.before a0 Z = true) : (Jvm.Cond.static ({ cls := "com/example/klokd/klokd/service/NtpPoller", name := "nextDue", desc := "(JJJ)J" } : Jvm.MethodName)).before a0 Z = true := hw _ (List.mem_of_getElem? (i := 2) rfl)
theorem ow_3 {Z : State} {a0 : Array Value} (hw : ∀ d ∈ tables_1, d.before a0 Z = true) : (Jvm.Cond.initialized "com/example/klokd/klokd/service/NtpPoller").before a0 Z = true := hw _ (List.mem_of_getElem? (i := 3) rfl)
theorem ow_4 {Z : State} {a0 : Array Value} (hw : ∀ d ∈ tables_1, d.before a0 Z = true) : (Jvm.Cond.code ({ cls := "com/example/klokd/klokd/service/NtpPoller", name := "nextDue", desc := "(JJJ)J" } : Jvm.MethodName) prog_23_method_10_code (8 : Nat) (Option.some Jvm.ClassFile.FieldType.long)).before a0 Z = true := hw _ (List.mem_of_getElem? (i := 4) rfl)
theorem opn_com_example_klokd_klokd_service_NtpPollerNextDuePinLaw : plainName "com/example/klokd/klokd/service/NtpPollerNextDuePinLaw" = true := by first | (simp [plainName, overriddenIn]; done) | decide +kernel
theorem oef_law (m : MethodId) (u0 : Int64) (u1 : Int64) (u2 : Int64) : entryFrame m #[(.long u0), (.long u1), (.long u2)] maxLocals = mkF m 0 #[.val (.long u0), .second, .val (.long u1), .second, .val (.long u2), .second, .unset, .unset, .unset, .unset, .unset, .unset, .unset, .unset, .unset, .unset] [] := by first | (simp [entryFrame, mkF, argsToLocals, Value.category, maxLocals]; done) | rfl
set_option maxRecDepth 65536 in
set_option maxHeartbeats 40000000 in
theorem own_law (l : Launch) (Z : State) (a0 : Array Value) (hw : ∀ d ∈ tables_1, d.before a0 Z = true) (u0 : Int64) (u1 : Int64) (u2 : Int64) (h0 : Heap) (n0 : Nat) (Z0 : n0 ≤ h0.size) :
    own_M l Z x code maxLocals ret tables_1 room_1 #[(.long u0), (.long u1), (.long u2)] h0 (fun v h L => v = some (.int 1) ∧ Fr n0 L) 0 0 := by
  refine own_body (plainFor_of_name opn_com_example_klokd_klokd_service_NtpPollerNextDuePinLaw) ?_
  intro p e s m below meth c s1 hx hby hml' hown hnm hret hlk hZ X0 e0
  have hml : c.maxLocals = 16 := hml'
  rw [oef_law m u0 u1 u2]
  have N0 := Fr.nil n0
  refine own_lloadN X0 hx (hb hby at_0) rfl (pc' := 1) rfl ?_
  refine own_iconst X0 hx (hb hby at_1) (z := (2 : Int32)) rfl (pc' := 2) rfl ?_
  refine own_lshr X0 hx (hb hby at_2) (pc' := 3) rfl ?_
  refine own_lstore X0 hx (hb hby at_3) (l' := #[.val (.long u0), .second, .val (.long u1), .second, .val (.long u2), .second, .val (.long (u1 >>> ((2 : Int32) &&& 0x3f).toInt64)), .second, .unset, .unset, .unset, .unset, .unset, .unset, .unset, .unset]) rfl (pc' := 5) rfl ?_
  refine own_lload X0 hx (hb hby at_5) rfl (pc' := 7) rfl ?_
  refine own_ldc2 X0 hx hZ hown (ow_0 hw) (hb hby at_7) (pc' := 10) rfl ?_
  refine own_land X0 hx (hb hby at_10) (pc' := 11) rfl ?_
  refine own_lconst X0 hx (hb hby at_11) (z := (1 : Int64)) (by decide) (pc' := 12) rfl ?_
  refine own_ladd X0 hx (hb hby at_12) (pc' := 13) rfl ?_
  refine own_lstore X0 hx (hb hby at_13) (l' := #[.val (.long u0), .second, .val (.long u1), .second, .val (.long u2), .second, .val (.long (u1 >>> ((2 : Int32) &&& 0x3f).toInt64)), .second, .val (.long ((u2 &&& (4611686018427387903 : Int64)) + (1 : Int64))), .second, .unset, .unset, .unset, .unset, .unset, .unset]) rfl (pc' := 15) rfl ?_
  refine own_lloadN X0 hx (hb hby at_15) rfl (pc' := 16) rfl ?_
  refine own_lload X0 hx (hb hby at_16) rfl (pc' := 18) rfl ?_
  refine own_lsub X0 hx (hb hby at_18) (pc' := 19) rfl ?_
  refine own_lstore X0 hx (hb hby at_19) (l' := #[.val (.long u0), .second, .val (.long u1), .second, .val (.long u2), .second, .val (.long (u1 >>> ((2 : Int32) &&& 0x3f).toInt64)), .second, .val (.long ((u2 &&& (4611686018427387903 : Int64)) + (1 : Int64))), .second, .val (.long (u0 - (u1 >>> ((2 : Int32) &&& 0x3f).toInt64))), .second, .unset, .unset, .unset, .unset]) rfl (pc' := 21) rfl ?_
  refine own_lload X0 hx (hb hby at_21) rfl (pc' := 23) rfl ?_
  refine own_lloadN X0 hx (hb hby at_23) rfl (pc' := 24) rfl ?_
  refine own_lload X0 hx (hb hby at_24) rfl (pc' := 26) rfl ?_
  refine own_callS X0 hx hZ hown (ow_1 hw) (ow_2 hw) (ow_3 hw) (ow_4 hw) (by decide) (rm_nd l Z a0 hw (u0 - (u1 >>> ((2 : Int32) &&& 0x3f).toInt64)) u0 ((u2 &&& (4611686018427387903 : Int64)) + (1 : Int64)) h0 n0 Z0) e0 (W := 0) (by decide) (by decide) opd__JJJ_J rfl (rest := []) rfl (hb hby at_26) (Nat.le_of_eq rfl) (by rw [hml]; rfl) (by decide) (by decide) (pc' := 29) rfl ?_
  intro v1 T1 L1 X1 q1
  obtain ⟨rfl, Nq1, eh1⟩ := q1
  have N1 := Fr.app N0 Nq1
  show own_G p e below s _ _ _ (T1.setTop (mkF m 29 #[.val (.long u0), .second, .val (.long u1), .second, .val (.long u2), .second, .val (.long (u1 >>> ((2 : Int32) &&& 0x3f).toInt64)), .second, .val (.long ((u2 &&& (4611686018427387903 : Int64)) + (1 : Int64))), .second, .val (.long (u0 - (u1 >>> ((2 : Int32) &&& 0x3f).toInt64))), .second, .unset, .unset, .unset, .unset] [(.long (if (((u0 - (u1 >>> ((2 : Int32) &&& 0x3f).toInt64)) + ((u2 &&& (4611686018427387903 : Int64)) + (1 : Int64))) - u0) < (0 : Int64) then (u0 + ((u2 &&& (4611686018427387903 : Int64)) + (1 : Int64))) else ((u0 - (u1 >>> ((2 : Int32) &&& 0x3f).toInt64)) + ((u2 &&& (4611686018427387903 : Int64)) + (1 : Int64)))))]))
  refine own_lstore X1 hx (hb hby at_29) (l' := #[.val (.long u0), .second, .val (.long u1), .second, .val (.long u2), .second, .val (.long (u1 >>> ((2 : Int32) &&& 0x3f).toInt64)), .second, .val (.long ((u2 &&& (4611686018427387903 : Int64)) + (1 : Int64))), .second, .val (.long (u0 - (u1 >>> ((2 : Int32) &&& 0x3f).toInt64))), .second, .val (.long (if (((u0 - (u1 >>> ((2 : Int32) &&& 0x3f).toInt64)) + ((u2 &&& (4611686018427387903 : Int64)) + (1 : Int64))) - u0) < (0 : Int64) then (u0 + ((u2 &&& (4611686018427387903 : Int64)) + (1 : Int64))) else ((u0 - (u1 >>> ((2 : Int32) &&& 0x3f).toInt64)) + ((u2 &&& (4611686018427387903 : Int64)) + (1 : Int64))))), .second, .unset, .unset]) rfl (pc' := 31) rfl ?_
  refine own_lload X1 hx (hb hby at_31) rfl (pc' := 33) rfl ?_
  refine own_lload X1 hx (hb hby at_33) rfl (pc' := 35) rfl ?_
  refine own_lcmp X1 hx (hb hby at_35) (pc' := 36) rfl ?_
  refine own_via (S' := T1.setTop (mkF m 53 #[.val (.long u0), .second, .val (.long u1), .second, .val (.long u2), .second, .val (.long (u1 >>> ((2 : Int32) &&& 0x3f).toInt64)), .second, .val (.long ((u2 &&& (4611686018427387903 : Int64)) + (1 : Int64))), .second, .val (.long (u0 - (u1 >>> ((2 : Int32) &&& 0x3f).toInt64))), .second, .val (.long (if (((u0 - (u1 >>> ((2 : Int32) &&& 0x3f).toInt64)) + ((u2 &&& (4611686018427387903 : Int64)) + (1 : Int64))) - u0) < (0 : Int64) then (u0 + ((u2 &&& (4611686018427387903 : Int64)) + (1 : Int64))) else ((u0 - (u1 >>> ((2 : Int32) &&& 0x3f).toInt64)) + ((u2 &&& (4611686018427387903 : Int64)) + (1 : Int64))))), .second, .val (.long (if ((u2 &&& (4611686018427387903 : Int64)) + (1 : Int64)) < (u1 >>> ((2 : Int32) &&& 0x3f).toInt64) then ((u2 &&& (4611686018427387903 : Int64)) + (1 : Int64)) else (((u2 &&& (4611686018427387903 : Int64)) + (1 : Int64)) - (u1 >>> ((2 : Int32) &&& 0x3f).toInt64)))), .second] [])) (fun kk => ?_) ?_
  · by_cases c2 : ((u2 &&& (4611686018427387903 : Int64)) + (1 : Int64)) < (u1 >>> ((2 : Int32) &&& 0x3f).toInt64)
    · refine own_ifF X1 hx (hb hby at_36) (own_ltL c2).2.2.2 (pc' := 39) rfl ?_
      refine own_lload X1 hx (hb hby at_39) rfl (pc' := 41) rfl ?_
      refine own_lstore X1 hx (hb hby at_41) (l' := #[.val (.long u0), .second, .val (.long u1), .second, .val (.long u2), .second, .val (.long (u1 >>> ((2 : Int32) &&& 0x3f).toInt64)), .second, .val (.long ((u2 &&& (4611686018427387903 : Int64)) + (1 : Int64))), .second, .val (.long (u0 - (u1 >>> ((2 : Int32) &&& 0x3f).toInt64))), .second, .val (.long (if (((u0 - (u1 >>> ((2 : Int32) &&& 0x3f).toInt64)) + ((u2 &&& (4611686018427387903 : Int64)) + (1 : Int64))) - u0) < (0 : Int64) then (u0 + ((u2 &&& (4611686018427387903 : Int64)) + (1 : Int64))) else ((u0 - (u1 >>> ((2 : Int32) &&& 0x3f).toInt64)) + ((u2 &&& (4611686018427387903 : Int64)) + (1 : Int64))))), .second, .val (.long ((u2 &&& (4611686018427387903 : Int64)) + (1 : Int64))), .second]) rfl (pc' := 43) rfl ?_
      refine own_goto X1 hx (hb hby at_43) (by decide) (pc' := 53) rfl ?_
      exact own_cast (by simp only [if_pos c2]) kk
    · refine own_ifT X1 hx (hb hby at_36) (own_geL c2).2.2.2 (by decide) (pc' := 46) rfl ?_
      refine own_lload X1 hx (hb hby at_46) rfl (pc' := 48) rfl ?_
      refine own_lload X1 hx (hb hby at_48) rfl (pc' := 50) rfl ?_
      refine own_lsub X1 hx (hb hby at_50) (pc' := 51) rfl ?_
      refine own_lstore X1 hx (hb hby at_51) (l' := #[.val (.long u0), .second, .val (.long u1), .second, .val (.long u2), .second, .val (.long (u1 >>> ((2 : Int32) &&& 0x3f).toInt64)), .second, .val (.long ((u2 &&& (4611686018427387903 : Int64)) + (1 : Int64))), .second, .val (.long (u0 - (u1 >>> ((2 : Int32) &&& 0x3f).toInt64))), .second, .val (.long (if (((u0 - (u1 >>> ((2 : Int32) &&& 0x3f).toInt64)) + ((u2 &&& (4611686018427387903 : Int64)) + (1 : Int64))) - u0) < (0 : Int64) then (u0 + ((u2 &&& (4611686018427387903 : Int64)) + (1 : Int64))) else ((u0 - (u1 >>> ((2 : Int32) &&& 0x3f).toInt64)) + ((u2 &&& (4611686018427387903 : Int64)) + (1 : Int64))))), .second, .val (.long (((u2 &&& (4611686018427387903 : Int64)) + (1 : Int64)) - (u1 >>> ((2 : Int32) &&& 0x3f).toInt64))), .second]) rfl (pc' := 53) rfl ?_
      exact own_cast (by simp only [if_neg c2]) kk
  refine own_lload X1 hx (hb hby at_53) rfl (pc' := 55) rfl ?_
  refine own_lloadN X1 hx (hb hby at_55) rfl (pc' := 56) rfl ?_
  refine own_lload X1 hx (hb hby at_56) rfl (pc' := 58) rfl ?_
  refine own_ladd X1 hx (hb hby at_58) (pc' := 59) rfl ?_
  refine own_lcmp X1 hx (hb hby at_59) (pc' := 60) rfl ?_
  refine own_ifF X1 hx (hb hby at_60) (own_eqL (own_key u0 u1 u2)).2 (pc' := 63) rfl ?_
  refine own_iconst X1 hx (hb hby at_63) (z := (1 : Int32)) rfl (pc' := 64) rfl ?_
  refine own_goto X1 hx (hb hby at_64) (by decide) (pc' := 68) rfl ?_
  exact own_retZ X1 hx hret hlk (Or.inr rfl) (hb hby at_68) ⟨rfl, N1⟩ (by decide) (by decide)
set_option maxRecDepth 65536 in
set_option maxHeartbeats 40000000 in
theorem comes_1 {Post : Tables → Env → Array Value → State → Outcome → State → Prop} (hpost : ∀ tb e args s v u, (limb_1_1.after args s (.returned v) u = true ∧ limb_1_2.after args s (.returned v) u = true ∧ True) → FrameEnd s (.returned v) u (Jvm.fieldLocs frame_1_writes args s ++ Jvm.arrayLocs frame_1_arrays args s ++ Jvm.staticLocs frame_1_statics s) 0 0 → Post tb e args s (.returned v) u) :
    ArmFor flags0 classFile x code maxLocals ret World_1 tables_1 room_1 Calls_1 rest_1 Pre_1 Post := by
  intro l hfl _ _ p e ha hc hk s m args below hf hA hF happ hP
  obtain ⟨hcalls, hrest, hpre⟩ := hP
  obtain ⟨-, -, -, hnamed, -, -, -, hat⟩ := (Spec.applies_iff hf).mp happ
  obtain ⟨hg, hn⟩ := and_e (Cond.before_iff.mp (show (Jvm.Cond.and given_1 narrow_1).before args s = true from hpre))
  obtain ⟨gc, gr0⟩ := and_e hg
  obtain ⟨gk0, gr1⟩ := and_e gr0
  obtain ⟨gk1, gr2⟩ := and_e gr1
  obtain ⟨w0, w1, w2, rfl⟩ : ∃ w0 w1 w2 : Value, args = #[w0, w1, w2] := by
    have hs : args.size = 3 := by simpa [Cond.value, given_1] using gc
    obtain ⟨L⟩ := args
    match L, hs with
    | [w0, w1, w2], _ => exact ⟨w0, w1, w2, rfl⟩
  have hw := fun d (hd : d ∈ tables_1) => atoms_spec (ws := Jvm.Cond.code x code maxLocals ret :: tables_1) hat d (List.mem_cons_of_mem _ hd)
  obtain ⟨i0, ei0⟩ := isL_v gk0
  obtain rfl : w0 = (.long i0) := Option.some.inj ei0
  obtain ⟨i1, ei1⟩ := isL_v gk1
  obtain rfl : w1 = (.long i1) := Option.some.inj ei1
  obtain ⟨i2, ei2⟩ := isL_v gr2
  obtain rfl : w2 = (.long i2) := Option.some.inj ei2
  obtain ⟨n, o, h1, h2, h3, _, L, rfl, ⟨rfl, N⟩, hq⟩ := own_law l s _ hw i0 i1 i2 s.heap s.heap.size (Nat.le_refl _) p e ha hc hk s m _ below hf ((Spec.applies_iff_loose hf).mp happ).1 ⟨rfl, State.Warmed39.refl s, rfl⟩ trivial
  refine ⟨n, _, h1, h2, h3, hpost _ _ _ _ _ _ ⟨Cond.after_iff.mpr rfl, Cond.after_iff.mpr (eq_i res_at (Term.int_eval (1)) rfl), trivial⟩ ⟨hq.1, hq.2.1, (hq.2.2.sift fun y hy => Or.inr (N y hy)).mono (by decide) (by decide)⟩⟩
theorem main_1_1 : Claimed_1_1 := comes_1 fun _ _ _ _ _ _ h hF => ⟨h.1, hF⟩
theorem main_1_2 : Claimed_1_2 := comes_1 fun _ _ _ _ _ _ h hF => ⟨h.2.1, hF⟩
end Jvm.Pilot.@@N@@
namespace Jvm.Pilot.@@N@@
open Jvm Jvm.ClassFile Sem Op Lib Jvm.Free Jvm.Stand Jvm.Pilot.@@N@@.Jvm.D
/-! MADE BY PROGRAM (witnessworld.py) out of the Statement's table words and the real class files: 11 classes; the members and pool entries that the words name. The judged class is class 1, her method 1. -/
namespace start1
open Jvm.ClassFile
def u (s : String) : CpInfo := .utf8 (stringToUtf16 s)
/-- a pool by its gaps: so many unusable entries, then the entry; so many at the end -/
def gap : Nat → List CpInfo → List CpInfo
  | 0, r => r
  | n + 1, r => .unusable :: gap n r
def poolList (es : List (Nat × CpInfo)) (last : Nat) : List CpInfo := es.foldr (fun e r => gap e.1 (e.2 :: r)) (gap last [])
def pool (es : List (Nat × CpInfo)) (last : Nat) : Array CpInfo := ⟨poolList es last⟩
def fileOf (pool : Array CpInfo) (this : Nat) (attrs : Array Attribute := #[]) (ms : Array MethodInfo := #[]) (fl : Nat := 33) (sup : Nat := 0) (ifs : Array Nat := #[]) (fds : Array FieldInfo := #[]) : ClassFile where
  minorVersion := 0
  majorVersion := 65
  constantPool := pool
  accessFlags := fl
  thisClass := this
  superClass := sup
  interfaces := ifs
  fields := fds
  methods := ms
  attributes := attrs
def plain (name : String) (sup : Option ClassId) : Class where
  name := name
  kind := .ordinary
  loader := none
  accessFlags := 33
  super := sup
  interfaces := #[]
  cf := none
  fields := #[]
  methods := #[]
  instanceTypes := #[]
  staticTypes := #[]
  resolved := #[]
  callSites := []
  init := .initialized
  statics := none
  mirror := none

def pool0 : Array CpInfo := pool [(5, u "<init>"), (0, u "()V"), (1, .class_ 10), (1, u "java/lang/Object")] 113

def k0m0 : Method := { name := "<init>", desc := "()V", sig := { parameters := [], returnType := none }, accessFlags := 1, code := none }
/-- java/lang/Object -/
def k0 : Class := { plain "java/lang/Object" none with
  accessFlags := 33
  interfaces := #[]
  cf := some (fileOf pool0 8 #[] #[{ accessFlags := 1, nameIndex := 5, descriptorIndex := 6, attributes := #[] }] 33 0 #[] #[])
  fields := #[]
  methods := #[k0m0]
  instanceTypes := #[]
  staticTypes := #[]
  resolved := Array.replicate 124 none
  statics := none }

def pool1 : Array CpInfo := pool [(2, .class_ 4), (1, u "java/lang/Object"), (0, u "<init>"), (0, u "()V"), (0, .long 4611686018427387903), (1, .methodref 10 11), (0, .class_ 12), (0, .nameAndType 13 14), (0, u "com/example/klokd/klokd/service/NtpPoller"), (0, u "nextDue"), (0, u "(JJJ)J"), (0, .class_ 16), (0, u "com/example/klokd/klokd/service/NtpPollerNextDuePinLaw"), (2, u "law"), (0, u "(JJJ)Z")] 3

def k1m0 : Method := { name := "<init>", desc := "()V", sig := { parameters := [], returnType := none }, accessFlags := 2, code := none }
def k1c1 : Code := { maxStack := 6, maxLocals := 16, code := code, exceptionTable := #[], attributes := #[] }
def k1m1 : Method := { name := "law", desc := "(JJJ)Z", sig := { parameters := [.long, .long, .long], returnType := some .boolean }, accessFlags := 9, code := some k1c1 }
/-- com/example/klokd/klokd/service/NtpPollerNextDuePinLaw -/
def k1 : Class := { plain "com/example/klokd/klokd/service/NtpPollerNextDuePinLaw" (some 0) with
  accessFlags := 49
  interfaces := #[]
  cf := some (fileOf pool1 15 #[] #[{ accessFlags := 2, nameIndex := 5, descriptorIndex := 6, attributes := #[] }, { accessFlags := 9, nameIndex := 19, descriptorIndex := 20, attributes := #[] }] 49 2 #[] #[])
  fields := #[]
  methods := #[k1m0, k1m1]
  instanceTypes := #[]
  staticTypes := #[]
  resolved := Array.replicate 24 none
  statics := none }

def pool2 : Array CpInfo := pool [(1, .class_ 2), (0, u "java/lang/AutoCloseable"), (0, .class_ 4), (0, u "java/lang/Object")] 7

/-- java/lang/AutoCloseable -/
def k2 : Class := { plain "java/lang/AutoCloseable" (some 0) with
  accessFlags := 1537
  interfaces := #[]
  cf := some (fileOf pool2 1 #[] #[] 1537 3 #[] #[])
  fields := #[]
  methods := #[]
  instanceTypes := #[]
  staticTypes := #[]
  resolved := Array.replicate 12 none
  statics := none }

def pool3 : Array CpInfo := pool [(1, .class_ 2), (0, u "java/io/Closeable"), (0, .class_ 4), (0, u "java/lang/Object"), (0, .class_ 6), (0, u "java/lang/AutoCloseable")] 7

/-- java/io/Closeable -/
def k3 : Class := { plain "java/io/Closeable" (some 0) with
  accessFlags := 1537
  interfaces := #[2]
  cf := some (fileOf pool3 1 #[] #[] 1537 3 #[5] #[])
  fields := #[]
  methods := #[]
  instanceTypes := #[]
  staticTypes := #[]
  resolved := Array.replicate 14 none
  statics := none }

def pool4 : Array CpInfo := pool [(2, .class_ 4), (1, u "java/lang/Object"), (8, .class_ 15), (1, u "com/example/klokd/klokd/service/NtpPoller"), (0, u "closed"), (0, u "Ljava/util/concurrent/CountDownLatch;"), (2, u "client"), (0, u "Lcom/example/klokd/klokd/service/NtpClient;"), (2, u "server"), (0, u "Ljava/net/InetSocketAddress;"), (2, u "count"), (0, u "J"), (2, u "interval"), (0, u "Ljava/time/Duration;"), (2, u "timeout"), (8, u "due"), (41, u "denied"), (0, u "Z"), (2, u "polled"), (28, u "nextDue"), (0, u "(JJJ)J"), (36, u "MAX_INTERVAL"), (85, .class_ 245), (0, u "java/io/Closeable")] 41

def k4c0 : Code := { maxStack := 4, maxLocals := 8, code := prog_23_method_10_code, exceptionTable := #[], attributes := #[] }
def k4m0 : Method := { name := "nextDue", desc := "(JJJ)J", sig := { parameters := [.long, .long, .long], returnType := some .long }, accessFlags := 8, code := some k4c0 }
/-- com/example/klokd/klokd/service/NtpPoller -/
def k4 : Class := { plain "com/example/klokd/klokd/service/NtpPoller" (some 0) with
  accessFlags := 49
  interfaces := #[3]
  cf := some (fileOf pool4 13 #[] #[{ accessFlags := 8, nameIndex := 120, descriptorIndex := 121, attributes := #[] }] 49 2 #[244] #[{ accessFlags := 25, nameIndex := 158, descriptorIndex := 33, attributes := #[] }, { accessFlags := 18, nameIndex := 20, descriptorIndex := 21, attributes := #[] }, { accessFlags := 18, nameIndex := 24, descriptorIndex := 25, attributes := #[] }, { accessFlags := 18, nameIndex := 28, descriptorIndex := 29, attributes := #[] }, { accessFlags := 18, nameIndex := 36, descriptorIndex := 33, attributes := #[] }, { accessFlags := 18, nameIndex := 16, descriptorIndex := 17, attributes := #[] }, { accessFlags := 2, nameIndex := 32, descriptorIndex := 33, attributes := #[] }, { accessFlags := 2, nameIndex := 91, descriptorIndex := 29, attributes := #[] }, { accessFlags := 2, nameIndex := 45, descriptorIndex := 29, attributes := #[] }, { accessFlags := 2, nameIndex := 87, descriptorIndex := 88, attributes := #[] }])
  fields := #[{ name := "MAX_INTERVAL", type := (.object "java/time/Duration"), accessFlags := 25, slot := 0, constantValue := 0 }, { name := "client", type := (.object "com/example/klokd/klokd/service/NtpClient"), accessFlags := 18, slot := 0, constantValue := 0 }, { name := "server", type := (.object "java/net/InetSocketAddress"), accessFlags := 18, slot := 1, constantValue := 0 }, { name := "count", type := .long, accessFlags := 18, slot := 2, constantValue := 0 }, { name := "timeout", type := (.object "java/time/Duration"), accessFlags := 18, slot := 3, constantValue := 0 }, { name := "closed", type := (.object "java/util/concurrent/CountDownLatch"), accessFlags := 18, slot := 4, constantValue := 0 }, { name := "interval", type := (.object "java/time/Duration"), accessFlags := 2, slot := 5, constantValue := 0 }, { name := "polled", type := .long, accessFlags := 2, slot := 6, constantValue := 0 }, { name := "due", type := .long, accessFlags := 2, slot := 7, constantValue := 0 }, { name := "denied", type := .boolean, accessFlags := 2, slot := 8, constantValue := 0 }]
  methods := #[k4m0]
  instanceTypes := #[(.object "com/example/klokd/klokd/service/NtpClient"), (.object "java/net/InetSocketAddress"), .long, (.object "java/time/Duration"), (.object "java/util/concurrent/CountDownLatch"), (.object "java/time/Duration"), .long, .long, .boolean]
  staticTypes := #[(.object "java/time/Duration")]
  resolved := Array.replicate 287 none
  statics := none }

def pool5 : Array CpInfo := pool [(1, u "java/lang/Cloneable"), (0, .class_ 1), (0, u "java/lang/Object"), (0, .class_ 3)] 3

/-- java/lang/Cloneable -/
def k5 : Class := { plain "java/lang/Cloneable" (some 0) with
  accessFlags := 1537
  interfaces := #[]
  cf := some (fileOf pool5 2 #[] #[] 1537 4 #[] #[])
  fields := #[]
  methods := #[]
  instanceTypes := #[]
  staticTypes := #[]
  resolved := Array.replicate 8 none
  statics := none }

def pool6 : Array CpInfo := pool [(1, u "java/io/Serializable"), (0, .class_ 1), (0, u "java/lang/Object"), (0, .class_ 3)] 3

/-- java/io/Serializable -/
def k6 : Class := { plain "java/io/Serializable" (some 0) with
  accessFlags := 1537
  interfaces := #[]
  cf := some (fileOf pool6 2 #[] #[] 1537 4 #[] #[])
  fields := #[]
  methods := #[]
  instanceTypes := #[]
  staticTypes := #[]
  resolved := Array.replicate 8 none
  statics := none }

/-- the primitive byte -/
def k7 : Class := { plain "byte" none with kind := .primitive 'B', accessFlags := 0x411 }
/-- [B -/
def k8 : Class := { plain "[B" (some 0) with kind := .array 7 .byte, interfaces := #[5, 6], accessFlags := 1041 }

/-- the primitive int -/
def k9 : Class := { plain "int" none with kind := .primitive 'I', accessFlags := 0x411 }
/-- [I -/
def k10 : Class := { plain "[I" (some 0) with kind := .array 9 .int, interfaces := #[5, 6], accessFlags := 1041 }

def heap : Heap := #[]
def classes : Array Class := #[k0, k1, k2, k3, k4, k5, k6, k7, k8, k9, k10]
def interned : List (Array UInt16 × Addr) := []
def slotsUsed : Nat := 0
def theMethod : MethodId := ⟨1, 1⟩
def args0 : Array Value := #[.long 5, .long 300, .long 7]
def aboutOver (below : List Frame) : State where
  vm := { classes := classes, interned := interned.toArray }
  heap := heap
  slotsUsed := slotsUsed
  threads := #[{ frames := .invoking theMethod args0 :: below }]
def below0 : List Frame := [.native { method := ⟨0, 0⟩, args := #[] }]
def about1 : State := aboutOver below0
def p0 : Program := .bare "" "" ""
def e0 : Env := launch0.env 0 0 0
theorem w_frames : about1.frames = Frame.invoking theMethod args0 :: below0 := rfl
set_option maxRecDepth 65536 in
theorem w_args : argsFit about1.vm theMethod args0 = true := by decide +kernel
set_option maxRecDepth 65536 in
theorem w_heap : heapFits about1 = true := by decide +kernel
set_option maxRecDepth 65536 in
theorem w_runnable : about1.curStatus? = some .runnable := by decide +kernel
set_option maxRecDepth 65536 in
theorem w_alone : about1.alone = true := by decide +kernel
set_option maxRecDepth 65536 in
theorem w_named : about1.methodNamed? x = some theMethod := by decide +kernel
set_option maxRecDepth 65536 in
theorem w_hears : about1.hears theMethod below0 = true := by decide +kernel
set_option maxRecDepth 65536 in
theorem w_ripe : about1.ripe theMethod args0 below0 = true := by decide +kernel
theorem w_running : about1.status = .running := rfl
set_option maxRecDepth 65536 in
theorem w_room : about1.hasRoom e0.platform room_1 = true :=
  launch0.hasRoom_least _ room_1 (by decide +kernel) (by decide +kernel) (by decide +kernel) (by decide +kernel) (by decide +kernel) (by decide +kernel)
theorem allAtoms_all (ts : List Jvm.Cond) (a : Array Jvm.Value) (st : Jvm.State) : (allAtoms ts).before a st = ts.all (fun c => c.before a st) := by
  induction ts with
  | nil => rfl
  | cons c t ih =>
    show (Jvm.Cond.and c (allAtoms t)).before a st = _
    rw [Jvm.Cond.before_and, ih, List.all_cons]
def words1 : List Jvm.Cond := Jvm.Cond.code x code maxLocals ret :: tables_1
/-- a 'code' word, met by the world's own term for the bytes: nothing is compared byte by byte -/
theorem code_word {y : MethodName} {bytes : ByteArray} {mx : Nat} {rt : Option FieldType} {a : Array Value} {s : State} {m : MethodId} {meth : Method} {c : Code} (h1 : s.methodNamed? y = some m) (h2 : s.vm.method? m = some meth) (h3 : meth.code = some c) (h4 : c.code = bytes)
    (h5 : (c.maxLocals == mx && c.exceptionTable.isEmpty && decide (c.maxStack ≤ mostOperands) && decide (meth.sig.returnType = rt) && !meth.locks && decide (parseMethodDescriptor y.desc = some meth.sig)) = true) : (Jvm.Cond.code y bytes mx rt).before a s = true := by
  simp only [Bool.and_eq_true, beq_iff_eq, Bool.not_eq_true', decide_eq_true_eq] at h5
  obtain ⟨⟨⟨⟨⟨g1, g2⟩, g3⟩, g4⟩, g5⟩, g6⟩ := h5
  simp [Cond.before, Cond.holds, Cond.value, h1, h2, h3, h4, g1, g2, g3, g4, g5, g6]
def isCode : Jvm.Cond → Bool
  | .code _ _ _ _ => true
  | _ => false
theorem all_split {L : List Jvm.Cond} {P : Jvm.Cond → Bool} (h1 : L.all (fun c => isCode c || P c) = true) (h2 : ∀ c ∈ L.filter isCode, P c = true) : L.all P = true := by
  refine List.all_eq_true.mpr fun c hc => ?_
  have h := List.all_eq_true.mp h1 c hc
  rcases Bool.eq_false_or_eq_true (isCode c) with hi | hi
  · exact h2 c (List.mem_filter.mpr ⟨hc, hi⟩)
  · simpa [hi] using h
set_option maxRecDepth 65536 in
theorem w_c0 : (Jvm.Cond.code x code maxLocals ret).before args0 about1 = true := code_word (m := ⟨1, 1⟩) (meth := k1m1) (c := k1c1) (by decide +kernel) rfl rfl rfl (by decide +kernel)
set_option maxRecDepth 65536 in
theorem w_c1 : (Jvm.Cond.code ({ cls := "com/example/klokd/klokd/service/NtpPoller", name := "nextDue", desc := "(JJJ)J" } : Jvm.MethodName) prog_23_method_10_code (8 : Nat) (Option.some Jvm.ClassFile.FieldType.long)).before args0 about1 = true := code_word (m := ⟨4, 0⟩) (meth := k4m0) (c := k4c0) (by decide +kernel) rfl rfl rfl (by decide +kernel)
def codes1 : List Jvm.Cond := [Jvm.Cond.code x code maxLocals ret, Jvm.Cond.code ({ cls := "com/example/klokd/klokd/service/NtpPoller", name := "nextDue", desc := "(JJJ)J" } : Jvm.MethodName) prog_23_method_10_code (8 : Nat) (Option.some Jvm.ClassFile.FieldType.long)]
set_option maxRecDepth 65536 in
theorem codes_eq : words1.filter isCode = codes1 := rfl
theorem w_codes : ∀ c ∈ words1.filter isCode, c.before args0 about1 = true := by
  rw [codes_eq]
  intro c hc
  simp only [codes1, List.mem_cons, List.not_mem_nil, or_false] at hc
  rcases hc with rfl | rfl
  · exact w_c0
  · exact w_c1
set_option maxRecDepth 65536 in
theorem w_t1 : words1.all (fun c => isCode c || c.before args0 about1) = true := by decide +kernel
theorem w_tables : (allAtoms (Jvm.Cond.code x code maxLocals ret :: tables_1)).before args0 about1 = true := by
  rw [allAtoms_all]
  show words1.all (fun c => c.before args0 about1) = true
  refine all_split ?_ w_codes
  rw [w_t1]
set_option maxRecDepth 65536 in
theorem w_case : (Jvm.Cond.and given_1 narrow_1).before args0 about1 = true := by decide +kernel
theorem w_applies : (headSpec (Jvm.Cond.code x code maxLocals ret :: tables_1) room_1).applies x e0.platform about1 = true :=
  (Spec.applies_iff w_frames).mpr ⟨w_running, w_runnable, w_alone, w_named, w_hears, w_ripe, w_room, w_tables⟩
theorem atStart : AtStart classFile x code maxLocals ret World_1 tables_1 room_1 Calls_1 rest_1 Pre_1 launch0 p0 e0 about1 theMethod args0 below0 :=
  ⟨lists_1, trivial, launch0.admits_env _ _ _, launch0.least_env, fairChoices_fair.cas, fairChoices_fair.clock, w_frames, w_args, w_heap, w_applies, trivial, trivial, w_case⟩
end start1
theorem witness_1 : WitnessClaimed_1 := ⟨start1.p0, start1.e0, start1.about1, start1.theMethod, start1.args0, start1.below0, start1.atStart⟩
end Jvm.Pilot.@@N@@
