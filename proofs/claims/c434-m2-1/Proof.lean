import JvmDerived
import JvmDerived.Pilot.@@N@@Statement
import JvmDerived.Pilot.@@N@@Code
set_option linter.unusedVariables false
set_option linter.unusedSimpArgs false
namespace Jvm.RoadKit
open Sem ClassFile Op Lib Jvm.Stand Jvm.Free Jvm.LawKit
section New
variable {p : Program} {l : Launch} {e : Env} {R : Room} {s : State} {m : MethodId} {args : Array Value} {below : List Frame} {meth : Method} {c : Code} {T : State} {locs : List Loc} {cells slots : Nat}
theorem retI (X : Stand p l e R s m args below meth c T locs cells slots) (hx : p.tables.exec = Jvm.exec) {pc : Nat} {Ls : Array Slot} {z : Int32} {rest : List Value} (hret : meth.sig.returnType = some .int) (hd : decode c.code pc = .ok (.ireturn, 1)) {fs : List Frame}
    (hl : ∀ (f : JFrame) (acts : List Action), f.method = m → f.locked = none → f.entered = [] → (doReturn e (T.setTop f) acts (some (.int z))).1 = T.setFrames fs) : Steps p.tables e below (T.setTop (mkF m pc Ls (.int z :: rest))) (T.setFrames fs) := by
  have hm' : T.vm.method? m = some meth := X.method'
  have hn : narrow .int (.int z) = .int z := rfl
  show Steps p.tables e below (T.setTop { method := m, pc := pc, locals := Ls, stack := _ :: rest, locked := none }) _
  jvm_step X.here [X.here.top, hx, hd, hm', hret, hn]
  first | (intro acts; rw [hl _ acts rfl rfl rfl]) | rw [hl _ _ rfl rfl rfl]
  exact Steps.refl _
end New
end Jvm.RoadKit
namespace Jvm.Pilot.@@N@@
namespace Own
open Jvm Jvm.ClassFile Sem Op Lib Jvm.Free Jvm.Stand Jvm.LawKit Jvm.RoadKit Bundle
/-- from this frame on the method comes to an end of which P holds -/
def Run (tb : Tables) (e : Env) (below : List Frame) (P : State → Prop) (T : State) (g : JFrame) : Prop := ∃ t, Steps tb e below (T.setTop g) t ∧ P t
theorem Run.of {tb : Tables} {e : Env} {below : List Frame} {P : State → Prop} {T T' : State} {g g' : JFrame} (st : ∀ target, Steps tb e below (T'.setTop g') target → Steps tb e below (T.setTop g) target) (k : Run tb e below P T' g') : Run tb e below P T g := by
  obtain ⟨t, h, hp⟩ := k; exact ⟨t, st _ h, hp⟩
theorem Run.tr {tb : Tables} {e : Env} {below : List Frame} {P : State → Prop} {T T' : State} {g g' : JFrame} (st : Steps tb e below (T.setTop g) (T'.setTop g')) (k : Run tb e below P T' g') : Run tb e below P T g := by
  obtain ⟨t, h, hp⟩ := k; exact ⟨t, st.trans h, hp⟩
/-- what is kept up while the heap grows and safe cells are written -/
def Cl (Z : State) (Inv : Heap → Prop) (Sf : Heap → Addr → Prop) : Prop :=
  (∀ (h h' : Heap) (ws : List Addr), Keep h h' ws → (∀ x ∈ ws, Sf h x) → Inv h → Inv h' ∧ ∀ x, Sf h x → Sf h' x) ∧
  (∀ (h : Heap) (x : Addr), h.size ≤ x → Sf h x) ∧
  (∀ (h : Heap) (x : Addr) (C : String), Exa Z h x C → C ≠ "java/lang/String" → C ≠ "[B" → Sf h x) ∧
  (∀ (h : Heap) (x : Addr) (c : Cell) (ty : FieldType), Arr Z h x c ty → ty ≠ .byte → Sf h x)
/-- where the walk of a body stands -/
def WP (p : Program) (l : Launch) (e : Env) (R : Room) (s : State) (m : MethodId) (args : Array Value) (below : List Frame) (meth : Method) (c : Code) (Z : State) (own mname : String) (bytes : ByteArray) (maxL : Nat) (ret : Option FieldType) (n0 : Nat) (Inv : Heap → Prop) (Sf : Heap → Addr → Prop) (T : State) (h : Heap) (locs : List Loc) (cells slots : Nat) : Prop :=
  Stand p l e R s m args below meth c T locs cells slots ∧ T.heap = h ∧ Z.Warmed39 s.vm ∧ s.vm.findClass own = some m.cls ∧ Fr n0 locs ∧ Old Z n0 h ∧ Inv h ∧ (p.tables.exec = Jvm.exec ∧ c.code = bytes ∧ c.maxLocals = maxL ∧ meth.sig.returnType = ret ∧ meth.locks = false ∧ meth.name = mname) ∧ Cl Z Inv Sf
theorem ext_keep {h h' : Heap} (E : Ext h h') : Keep h h' [] := (Keep.refl h []).ext E
theorem keep_id (h : Heap) : Keep h h [] := Keep.refl h []
theorem own_n {a b : Nat} (h : a < b) : a < b := h
theorem own_ne {a b : Nat} (h : a < b ∨ b < a) : a ≠ b := by omega
theorem own_ni {a b : Nat} (h : a ≠ b) : a < b ∨ b < a := by omega
theorem fr1 {k : Nat} {a : Addr} {sl : Nat} (q : k ≤ a) : Fr k [(⟨a, sl⟩ : Loc)] := fun y hy => by cases List.mem_singleton.mp hy; exact q
section Kit
variable {p : Program} {l : Launch} {e : Env} {R : Room} {s : State} {m : MethodId} {args : Array Value} {below : List Frame} {meth : Method} {c : Code} {Z : State} {own mname : String} {bytes : ByteArray} {maxL : Nat} {ret : Option FieldType} {n0 : Nat} {Inv : Heap → Prop} {Sf : Heap → Addr → Prop} {T : State} {h : Heap} {locs : List Loc} {cells slots : Nat} {a0 : Array Value} {P : State → Prop} {pc pc' : Nat} {Ls Ls' : Array Slot} {st : List Value}
theorem WP.hx (X : WP p l e R s m args below meth c Z own mname bytes maxL ret n0 Inv Sf T h locs cells slots) : p.tables.exec = Jvm.exec := X.2.2.2.2.2.2.2.1.1
theorem WP.hby (X : WP p l e R s m args below meth c Z own mname bytes maxL ret n0 Inv Sf T h locs cells slots) : c.code = bytes := X.2.2.2.2.2.2.2.1.2.1
theorem WP.hml (X : WP p l e R s m args below meth c Z own mname bytes maxL ret n0 Inv Sf T h locs cells slots) : c.maxLocals = maxL := X.2.2.2.2.2.2.2.1.2.2.1
theorem WP.hret (X : WP p l e R s m args below meth c Z own mname bytes maxL ret n0 Inv Sf T h locs cells slots) : meth.sig.returnType = ret := X.2.2.2.2.2.2.2.1.2.2.2.1
theorem WP.hlk (X : WP p l e R s m args below meth c Z own mname bytes maxL ret n0 Inv Sf T h locs cells slots) : meth.locks = false := X.2.2.2.2.2.2.2.1.2.2.2.2.1
theorem WP.hnm (X : WP p l e R s m args below meth c Z own mname bytes maxL ret n0 Inv Sf T h locs cells slots) : meth.name = mname := X.2.2.2.2.2.2.2.1.2.2.2.2.2
theorem WP.cl (X : WP p l e R s m args below meth c Z own mname bytes maxL ret n0 Inv Sf T h locs cells slots) : Cl Z Inv Sf := X.2.2.2.2.2.2.2.2
theorem WP.inv (X : WP p l e R s m args below meth c Z own mname bytes maxL ret n0 Inv Sf T h locs cells slots) : Inv h := X.2.2.2.2.2.2.1
theorem WP.old (X : WP p l e R s m args below meth c Z own mname bytes maxL ret n0 Inv Sf T h locs cells slots) : Old Z n0 h := X.2.2.2.2.2.1
theorem WP.n0le (X : WP p l e R s m args below meth c Z own mname bytes maxL ret n0 Inv Sf T h locs cells slots) : n0 ≤ h.size := X.old.1 ▸ X.old.2.1
theorem WP.fr (X : WP p l e R s m args below meth c Z own mname bytes maxL ret n0 Inv Sf T h locs cells slots) : Fr n0 locs := X.2.2.2.2.1
theorem WP.hown (X : WP p l e R s m args below meth c Z own mname bytes maxL ret n0 Inv Sf T h locs cells slots) : s.vm.findClass own = some m.cls := X.2.2.2.1
theorem WP.hZ (X : WP p l e R s m args below meth c Z own mname bytes maxL ret n0 Inv Sf T h locs cells slots) : Z.Warmed39 s.vm := X.2.2.1
theorem WP.eT (X : WP p l e R s m args below meth c Z own mname bytes maxL ret n0 Inv Sf T h locs cells slots) : T.heap = h := X.2.1
theorem WP.mv (X : WP p l e R s m args below meth c Z own mname bytes maxL ret n0 Inv Sf T h locs cells slots) {T' : State} {h' : Heap} {locs' : List Loc} {cells' slots' : Nat} (X' : Stand p l e R s m args below meth c T' locs' cells' slots') (e' : T'.heap = h') {ws : List Addr} (K : Keep h h' ws) (hs : ∀ x ∈ ws, Sf h x ∧ n0 ≤ x) (N : Fr n0 locs') : WP p l e R s m args below meth c Z own mname bytes maxL ret n0 Inv Sf T' h' locs' cells' slots' :=
  ⟨X', e', X.hZ, X.hown, N, X.old.keep K (fun x q => (hs x q).2), (X.cl.1 h h' ws K (fun x q => (hs x q).1) X.inv).1, X.2.2.2.2.2.2.2.1, X.cl⟩
theorem WP.same (X : WP p l e R s m args below meth c Z own mname bytes maxL ret n0 Inv Sf T h locs cells slots) {T' : State} (X' : Stand p l e R s m args below meth c T' locs cells slots) (e' : T'.heap = h) : WP p l e R s m args below meth c Z own mname bytes maxL ret n0 Inv Sf T' h locs cells slots := X.mv X' e' (keep_id h) (fun _ q => nomatch q) X.fr
theorem WP.up (X : WP p l e R s m args below meth c Z own mname bytes maxL ret n0 Inv Sf T h locs cells slots) {cells' slots' : Nat} (h1 : cells ≤ cells') (h2 : slots ≤ slots') : WP p l e R s m args below meth c Z own mname bytes maxL ret n0 Inv Sf T h locs cells' slots' :=
  ⟨⟨X.1.admits, X.1.cas, X.1.clock, X.1.frames, X.1.room, X.1.hears, X.1.method, X.1.code, X.1.here, X.1.tail, X.1.warmed, X.1.limits, X.1.bytes, X.1.same.mono h1 h2⟩, X.2⟩
/-- a safe cell stays safe -/
theorem WP.sf (X : WP p l e R s m args below meth c Z own mname bytes maxL ret n0 Inv Sf T h locs cells slots) {h' : Heap} {ws : List Addr} {x : Addr} (K : Keep h h' ws) (hs : ∀ x ∈ ws, Sf h x ∧ n0 ≤ x) (q : Sf h x) : Sf h' x := (X.cl.1 h h' ws K (fun x q => (hs x q).1) X.inv).2 x q
theorem WP.sfN (X : WP p l e R s m args below meth c Z own mname bytes maxL ret n0 Inv Sf T h locs cells slots) {x : Addr} (q : h.size ≤ x) : Sf h x := X.cl.2.1 h x q
theorem WP.sfE (X : WP p l e R s m args below meth c Z own mname bytes maxL ret n0 Inv Sf T h locs cells slots) {x : Addr} {C : String} (E : Exa Z h x C) (h1 : C ≠ "java/lang/String" := by decide) (h2 : C ≠ "[B" := by decide) : Sf h x := X.cl.2.2.1 h x C E h1 h2
theorem WP.sfA (X : WP p l e R s m args below meth c Z own mname bytes maxL ret n0 Inv Sf T h locs cells slots) {x : Addr} {k : ClassId} {ty : FieldType} {z : Int32} {vs : List Value} {d : Value} (A : Arv Z h x k ty z vs d) (h1 : ty ≠ .byte := by decide) : Sf h x := by
  obtain ⟨c, A, -⟩ := A; exact X.cl.2.2.2 h x c ty A h1

theorem k_aloadN (X : WP p l e R s m args below meth c Z own mname bytes maxL ret n0 Inv Sf T h locs cells slots) {k : Fin 4} {v : Value} (hd : decode bytes pc = .ok (.aload_n k, 1)) (hl : Ls[k.val]? = some (.val v)) (hv : v.isRef = true) (hp : pc + 1 = pc') (q : Run p.tables e below P T (mkF m pc' Ls (v :: st))) : Run p.tables e below P T (mkF m pc Ls (st)) := by
  subst hp; exact Run.of (fun _ k => XS.aloadN X.1.here X.hx rfl (hb X.hby hd) hl hv k) q
theorem k_aload (X : WP p l e R s m args below meth c Z own mname bytes maxL ret n0 Inv Sf T h locs cells slots) {k : Nat} {v : Value} (hd : decode bytes pc = .ok (.aload k, 2)) (hl : Ls[k]? = some (.val v)) (hv : v.isRef = true) (hp : pc + 2 = pc') (q : Run p.tables e below P T (mkF m pc' Ls (v :: st))) : Run p.tables e below P T (mkF m pc Ls (st)) := by
  subst hp; exact Run.of (fun _ k => XS.aload X.1.here X.hx rfl (hb X.hby hd) hl hv k) q
theorem k_iloadN (X : WP p l e R s m args below meth c Z own mname bytes maxL ret n0 Inv Sf T h locs cells slots) {k : Fin 4} {v : Int32} (hd : decode bytes pc = .ok (.iload_n k, 1)) (hl : Ls[k.val]? = some (.val (.int v))) (hp : pc + 1 = pc') (q : Run p.tables e below P T (mkF m pc' Ls (.int v :: st))) : Run p.tables e below P T (mkF m pc Ls (st)) := by
  subst hp; exact Run.of (fun _ k => XS.iloadN X.1.here X.hx rfl (hb X.hby hd) hl k) q
theorem k_iload (X : WP p l e R s m args below meth c Z own mname bytes maxL ret n0 Inv Sf T h locs cells slots) {k : Nat} {v : Int32} (hd : decode bytes pc = .ok (.iload k, 2)) (hl : Ls[k]? = some (.val (.int v))) (hp : pc + 2 = pc') (q : Run p.tables e below P T (mkF m pc' Ls (.int v :: st))) : Run p.tables e below P T (mkF m pc Ls (st)) := by
  subst hp; exact Run.of (fun _ k => XS.iload X.1.here X.hx rfl (hb X.hby hd) hl k) q
theorem k_astoreN (X : WP p l e R s m args below meth c Z own mname bytes maxL ret n0 Inv Sf T h locs cells slots) {k : Fin 4} {v : Value} (hd : decode bytes pc = .ok (.astore_n k, 1)) (hv : v.isRef = true) (hl : storeLocals Ls k.val v = some Ls') (hp : pc + 1 = pc') (q : Run p.tables e below P T (mkF m pc' Ls' (st))) : Run p.tables e below P T (mkF m pc Ls (v :: st)) := by
  subst hp; exact Run.of (fun _ k => XS.astoreN X.1.here X.hx rfl (hb X.hby hd) rfl hv hl k) q
theorem k_astore (X : WP p l e R s m args below meth c Z own mname bytes maxL ret n0 Inv Sf T h locs cells slots) {k : Nat} {v : Value} (hd : decode bytes pc = .ok (.astore k, 2)) (hv : v.isRef = true) (hl : storeLocals Ls k v = some Ls') (hp : pc + 2 = pc') (q : Run p.tables e below P T (mkF m pc' Ls' (st))) : Run p.tables e below P T (mkF m pc Ls (v :: st)) := by
  subst hp; exact Run.of (fun _ k => XS.astore X.1.here X.hx rfl (hb X.hby hd) rfl hv hl k) q
theorem k_istoreN (X : WP p l e R s m args below meth c Z own mname bytes maxL ret n0 Inv Sf T h locs cells slots) {k : Fin 4} {v : Int32} (hd : decode bytes pc = .ok (.istore_n k, 1)) (hl : storeLocals Ls k.val (.int v) = some Ls') (hp : pc + 1 = pc') (q : Run p.tables e below P T (mkF m pc' Ls' (st))) : Run p.tables e below P T (mkF m pc Ls (.int v :: st)) := by
  subst hp; exact Run.of (fun _ k => XS.istoreN X.1.here X.hx rfl (hb X.hby hd) rfl hl k) q
theorem k_istore (X : WP p l e R s m args below meth c Z own mname bytes maxL ret n0 Inv Sf T h locs cells slots) {k : Nat} {v : Int32} (hd : decode bytes pc = .ok (.istore k, 2)) (hl : storeLocals Ls k (.int v) = some Ls') (hp : pc + 2 = pc') (q : Run p.tables e below P T (mkF m pc' Ls' (st))) : Run p.tables e below P T (mkF m pc Ls (.int v :: st)) := by
  subst hp; exact Run.of (fun _ k => XS.istore X.1.here X.hx rfl (hb X.hby hd) rfl hl k) q
theorem k_iconst (X : WP p l e R s m args below meth c Z own mname bytes maxL ret n0 Inv Sf T h locs cells slots) {k : Int} {w : Int32} (hd : decode bytes pc = .ok (.iconst k, 1)) (hv : Int32.ofInt k = w) (hp : pc + 1 = pc') (q : Run p.tables e below P T (mkF m pc' Ls (.int w :: st))) : Run p.tables e below P T (mkF m pc Ls (st)) := by
  subst hp; subst hv; exact Run.of (fun _ k => XS.iconst X.1.here X.hx rfl (hb X.hby hd)  k) q
theorem k_bipush (X : WP p l e R s m args below meth c Z own mname bytes maxL ret n0 Inv Sf T h locs cells slots) {k : Int} {w : Int32} (hd : decode bytes pc = .ok (.bipush k, 2)) (hv : (Int8.ofInt k).toInt32 = w) (hp : pc + 2 = pc') (q : Run p.tables e below P T (mkF m pc' Ls (.int w :: st))) : Run p.tables e below P T (mkF m pc Ls (st)) := by
  subst hp; subst hv; exact Run.of (fun _ k => XS.bipush X.1.here X.hx rfl (hb X.hby hd)  k) q
theorem k_sipush (X : WP p l e R s m args below meth c Z own mname bytes maxL ret n0 Inv Sf T h locs cells slots) {k : Int} {w : Int32} (hd : decode bytes pc = .ok (.sipush k, 3)) (hv : (Int16.ofInt k).toInt32 = w) (hp : pc + 3 = pc') (q : Run p.tables e below P T (mkF m pc' Ls (.int w :: st))) : Run p.tables e below P T (mkF m pc Ls (st)) := by
  subst hp; subst hv; exact Run.of (fun _ k => XS.sipush X.1.here X.hx rfl (hb X.hby hd)  k) q
theorem k_aconstNull (X : WP p l e R s m args below meth c Z own mname bytes maxL ret n0 Inv Sf T h locs cells slots)  (hd : decode bytes pc = .ok (.aconst_null, 1))  (hp : pc + 1 = pc') (q : Run p.tables e below P T (mkF m pc' Ls (.null :: st))) : Run p.tables e below P T (mkF m pc Ls (st)) := by
  subst hp; exact Run.of (fun _ k => XS.aconstNull X.1.here X.hx rfl (hb X.hby hd)  k) q
theorem k_iadd (X : WP p l e R s m args below meth c Z own mname bytes maxL ret n0 Inv Sf T h locs cells slots) {x y w : Int32} (hd : decode bytes pc = .ok (.iadd, 1)) (hv : x + y = w) (hp : pc + 1 = pc') (q : Run p.tables e below P T (mkF m pc' Ls (.int w :: st))) : Run p.tables e below P T (mkF m pc Ls (.int y :: .int x :: st)) := by
  subst hp; subst hv; exact Run.of (fun _ k => XS.iadd X.1.here X.hx rfl (hb X.hby hd) rfl k) q
theorem k_isub (X : WP p l e R s m args below meth c Z own mname bytes maxL ret n0 Inv Sf T h locs cells slots) {x y w : Int32} (hd : decode bytes pc = .ok (.isub, 1)) (hv : x - y = w) (hp : pc + 1 = pc') (q : Run p.tables e below P T (mkF m pc' Ls (.int w :: st))) : Run p.tables e below P T (mkF m pc Ls (.int y :: .int x :: st)) := by
  subst hp; subst hv; exact Run.of (fun _ k => XS.isub X.1.here X.hx rfl (hb X.hby hd) rfl k) q
theorem k_imul (X : WP p l e R s m args below meth c Z own mname bytes maxL ret n0 Inv Sf T h locs cells slots) {x y w : Int32} (hd : decode bytes pc = .ok (.imul, 1)) (hv : x * y = w) (hp : pc + 1 = pc') (q : Run p.tables e below P T (mkF m pc' Ls (.int w :: st))) : Run p.tables e below P T (mkF m pc Ls (.int y :: .int x :: st)) := by
  subst hp; subst hv; exact Run.of (fun _ k => XS.imul X.1.here X.hx rfl (hb X.hby hd) rfl k) q
theorem k_iand (X : WP p l e R s m args below meth c Z own mname bytes maxL ret n0 Inv Sf T h locs cells slots) {x y w : Int32} (hd : decode bytes pc = .ok (.iand, 1)) (hv : x &&& y = w) (hp : pc + 1 = pc') (q : Run p.tables e below P T (mkF m pc' Ls (.int w :: st))) : Run p.tables e below P T (mkF m pc Ls (.int y :: .int x :: st)) := by
  subst hp; subst hv; exact Run.of (fun _ k => XS.iand X.1.here X.hx rfl (hb X.hby hd) rfl k) q
theorem k_ior (X : WP p l e R s m args below meth c Z own mname bytes maxL ret n0 Inv Sf T h locs cells slots) {x y w : Int32} (hd : decode bytes pc = .ok (.ior, 1)) (hv : x ||| y = w) (hp : pc + 1 = pc') (q : Run p.tables e below P T (mkF m pc' Ls (.int w :: st))) : Run p.tables e below P T (mkF m pc Ls (.int y :: .int x :: st)) := by
  subst hp; subst hv; exact Run.of (fun _ k => XS.ior X.1.here X.hx rfl (hb X.hby hd) rfl k) q
theorem k_ixor (X : WP p l e R s m args below meth c Z own mname bytes maxL ret n0 Inv Sf T h locs cells slots) {x y w : Int32} (hd : decode bytes pc = .ok (.ixor, 1)) (hv : x ^^^ y = w) (hp : pc + 1 = pc') (q : Run p.tables e below P T (mkF m pc' Ls (.int w :: st))) : Run p.tables e below P T (mkF m pc Ls (.int y :: .int x :: st)) := by
  subst hp; subst hv; exact Run.of (fun _ k => XS.ixor X.1.here X.hx rfl (hb X.hby hd) rfl k) q
theorem k_ishl (X : WP p l e R s m args below meth c Z own mname bytes maxL ret n0 Inv Sf T h locs cells slots) {x y w : Int32} (hd : decode bytes pc = .ok (.ishl, 1)) (hv : (x <<< (y &&& 31)) = w) (hp : pc + 1 = pc') (q : Run p.tables e below P T (mkF m pc' Ls (.int w :: st))) : Run p.tables e below P T (mkF m pc Ls (.int y :: .int x :: st)) := by
  subst hp; subst hv; exact Run.of (fun _ k => XS.ishl X.1.here X.hx rfl (hb X.hby hd) rfl k) q
theorem k_ishr (X : WP p l e R s m args below meth c Z own mname bytes maxL ret n0 Inv Sf T h locs cells slots) {x y w : Int32} (hd : decode bytes pc = .ok (.ishr, 1)) (hv : (x >>> (y &&& 31)) = w) (hp : pc + 1 = pc') (q : Run p.tables e below P T (mkF m pc' Ls (.int w :: st))) : Run p.tables e below P T (mkF m pc Ls (.int y :: .int x :: st)) := by
  subst hp; subst hv; exact Run.of (fun _ k => XS.ishr X.1.here X.hx rfl (hb X.hby hd) rfl k) q
theorem k_iushr (X : WP p l e R s m args below meth c Z own mname bytes maxL ret n0 Inv Sf T h locs cells slots) {x y w : Int32} (hd : decode bytes pc = .ok (.iushr, 1)) (hv : ((x.toUInt32 >>> (y &&& 31).toUInt32).toInt32) = w) (hp : pc + 1 = pc') (q : Run p.tables e below P T (mkF m pc' Ls (.int w :: st))) : Run p.tables e below P T (mkF m pc Ls (.int y :: .int x :: st)) := by
  subst hp; subst hv; exact Run.of (fun _ k => XS.iushr X.1.here X.hx rfl (hb X.hby hd) rfl k) q
theorem k_irem (X : WP p l e R s m args below meth c Z own mname bytes maxL ret n0 Inv Sf T h locs cells slots) {x y w : Int32} (hd : decode bytes pc = .ok (.irem, 1)) (hy : y ≠ 0) (hv : x - (x / y) * y = w) (hp : pc + 1 = pc') (q : Run p.tables e below P T (mkF m pc' Ls (.int w :: st))) : Run p.tables e below P T (mkF m pc Ls (.int y :: .int x :: st)) := by
  subst hp; subst hv; exact Run.of (fun _ k => XS.irem X.1.here X.hx rfl (hb X.hby hd) rfl hy k) q
theorem k_idiv (X : WP p l e R s m args below meth c Z own mname bytes maxL ret n0 Inv Sf T h locs cells slots) {x y w : Int32} (hd : decode bytes pc = .ok (.idiv, 1)) (hy : y ≠ 0) (hv : x / y = w) (hp : pc + 1 = pc') (q : Run p.tables e below P T (mkF m pc' Ls (.int w :: st))) : Run p.tables e below P T (mkF m pc Ls (.int y :: .int x :: st)) := by
  subst hp; subst hv; exact Run.of (fun _ k => XS.idiv X.1.here X.hx rfl (hb X.hby hd) rfl hy k) q
theorem k_ineg (X : WP p l e R s m args below meth c Z own mname bytes maxL ret n0 Inv Sf T h locs cells slots) {x w : Int32} (hd : decode bytes pc = .ok (.ineg, 1)) (hv : -x = w) (hp : pc + 1 = pc') (q : Run p.tables e below P T (mkF m pc' Ls (.int w :: st))) : Run p.tables e below P T (mkF m pc Ls (.int x :: st)) := by
  subst hp; subst hv; exact Run.of (fun _ k => XS.ineg X.1.here X.hx rfl (hb X.hby hd) rfl k) q
theorem k_i2c (X : WP p l e R s m args below meth c Z own mname bytes maxL ret n0 Inv Sf T h locs cells slots) {x w : Int32} (hd : decode bytes pc = .ok (.i2c, 1)) (hv : x.toUInt32.toUInt16.toUInt32.toInt32 = w) (hp : pc + 1 = pc') (q : Run p.tables e below P T (mkF m pc' Ls (.int w :: st))) : Run p.tables e below P T (mkF m pc Ls (.int x :: st)) := by
  subst hp; subst hv; exact Run.of (fun _ k => XS.i2c X.1.here X.hx rfl (hb X.hby hd) rfl k) q
theorem k_i2b (X : WP p l e R s m args below meth c Z own mname bytes maxL ret n0 Inv Sf T h locs cells slots) {x w : Int32} (hd : decode bytes pc = .ok (.i2b, 1)) (hv : x.toInt8.toInt32 = w) (hp : pc + 1 = pc') (q : Run p.tables e below P T (mkF m pc' Ls (.int w :: st))) : Run p.tables e below P T (mkF m pc Ls (.int x :: st)) := by
  subst hp; subst hv; exact Run.of (fun _ k => XS.i2b X.1.here X.hx rfl (hb X.hby hd) rfl k) q
theorem k_iinc (X : WP p l e R s m args below meth c Z own mname bytes maxL ret n0 Inv Sf T h locs cells slots) {k : Nat} {cst : Int} {x w : Int32} (hd : decode bytes pc = .ok (.iinc k cst, 3)) (hl : Ls[k]? = some (.val (.int x))) (hv : x + Int32.ofInt cst = w) (hl' : storeLocals Ls k (.int w) = some Ls') (hp : pc + 3 = pc') (q : Run p.tables e below P T (mkF m pc' Ls' (st))) : Run p.tables e below P T (mkF m pc Ls (st)) := by
  subst hp; subst hv; exact Run.of (fun _ k => XS.iinc X.1.here X.hx rfl (hb X.hby hd) hl hl' k) q
theorem k_lloadN (X : WP p l e R s m args below meth c Z own mname bytes maxL ret n0 Inv Sf T h locs cells slots) {k : Fin 4} {v : Int64} (hd : decode bytes pc = .ok (.lload_n k, 1)) (hl : Ls[k.val]? = some (.val (.long v))) (hp : pc + 1 = pc') (q : Run p.tables e below P T (mkF m pc' Ls (.long v :: st))) : Run p.tables e below P T (mkF m pc Ls (st)) := by
  subst hp; exact Run.of (fun _ k => XS.lloadN X.1.here X.hx rfl (hb X.hby hd) hl k) q
theorem k_lload (X : WP p l e R s m args below meth c Z own mname bytes maxL ret n0 Inv Sf T h locs cells slots) {k : Nat} {v : Int64} (hd : decode bytes pc = .ok (.lload k, 2)) (hl : Ls[k]? = some (.val (.long v))) (hp : pc + 2 = pc') (q : Run p.tables e below P T (mkF m pc' Ls (.long v :: st))) : Run p.tables e below P T (mkF m pc Ls (st)) := by
  subst hp; exact Run.of (fun _ k => XS.lload X.1.here X.hx rfl (hb X.hby hd) hl k) q
theorem k_lstoreN (X : WP p l e R s m args below meth c Z own mname bytes maxL ret n0 Inv Sf T h locs cells slots) {k : Fin 4} {v : Int64} (hd : decode bytes pc = .ok (.lstore_n k, 1)) (hl : storeLocals Ls k.val (.long v) = some Ls') (hp : pc + 1 = pc') (q : Run p.tables e below P T (mkF m pc' Ls' (st))) : Run p.tables e below P T (mkF m pc Ls (.long v :: st)) := by
  subst hp; exact Run.of (fun _ k => XS.lstoreN X.1.here X.hx rfl (hb X.hby hd) rfl hl k) q
theorem k_lstore (X : WP p l e R s m args below meth c Z own mname bytes maxL ret n0 Inv Sf T h locs cells slots) {k : Nat} {v : Int64} (hd : decode bytes pc = .ok (.lstore k, 2)) (hl : storeLocals Ls k (.long v) = some Ls') (hp : pc + 2 = pc') (q : Run p.tables e below P T (mkF m pc' Ls' (st))) : Run p.tables e below P T (mkF m pc Ls (.long v :: st)) := by
  subst hp; exact Run.of (fun _ k => XS.lstore X.1.here X.hx rfl (hb X.hby hd) rfl hl k) q
theorem k_lconst (X : WP p l e R s m args below meth c Z own mname bytes maxL ret n0 Inv Sf T h locs cells slots) {k : Fin 2} {w : Int64} (hd : decode bytes pc = .ok (.lconst k, 1)) (hv : Int64.ofNat k = w) (hp : pc + 1 = pc') (q : Run p.tables e below P T (mkF m pc' Ls (.long w :: st))) : Run p.tables e below P T (mkF m pc Ls (st)) := by
  subst hp; subst hv; exact Run.of (fun _ k => XS.lconst X.1.here X.hx rfl (hb X.hby hd)  k) q
theorem k_ladd (X : WP p l e R s m args below meth c Z own mname bytes maxL ret n0 Inv Sf T h locs cells slots) {x y w : Int64} (hd : decode bytes pc = .ok (.ladd, 1)) (hv : x + y = w) (hp : pc + 1 = pc') (q : Run p.tables e below P T (mkF m pc' Ls (.long w :: st))) : Run p.tables e below P T (mkF m pc Ls (.long y :: .long x :: st)) := by
  subst hp; subst hv; exact Run.of (fun _ k => XS.ladd X.1.here X.hx rfl (hb X.hby hd) rfl k) q
theorem k_lsub (X : WP p l e R s m args below meth c Z own mname bytes maxL ret n0 Inv Sf T h locs cells slots) {x y w : Int64} (hd : decode bytes pc = .ok (.lsub, 1)) (hv : x - y = w) (hp : pc + 1 = pc') (q : Run p.tables e below P T (mkF m pc' Ls (.long w :: st))) : Run p.tables e below P T (mkF m pc Ls (.long y :: .long x :: st)) := by
  subst hp; subst hv; exact Run.of (fun _ k => XS.lsub X.1.here X.hx rfl (hb X.hby hd) rfl k) q
theorem k_lmul (X : WP p l e R s m args below meth c Z own mname bytes maxL ret n0 Inv Sf T h locs cells slots) {x y w : Int64} (hd : decode bytes pc = .ok (.lmul, 1)) (hv : x * y = w) (hp : pc + 1 = pc') (q : Run p.tables e below P T (mkF m pc' Ls (.long w :: st))) : Run p.tables e below P T (mkF m pc Ls (.long y :: .long x :: st)) := by
  subst hp; subst hv; exact Run.of (fun _ k => XS.lmul X.1.here X.hx rfl (hb X.hby hd) rfl k) q
theorem k_land (X : WP p l e R s m args below meth c Z own mname bytes maxL ret n0 Inv Sf T h locs cells slots) {x y w : Int64} (hd : decode bytes pc = .ok (.land, 1)) (hv : x &&& y = w) (hp : pc + 1 = pc') (q : Run p.tables e below P T (mkF m pc' Ls (.long w :: st))) : Run p.tables e below P T (mkF m pc Ls (.long y :: .long x :: st)) := by
  subst hp; subst hv; exact Run.of (fun _ k => XS.land X.1.here X.hx rfl (hb X.hby hd) rfl k) q
theorem k_lor (X : WP p l e R s m args below meth c Z own mname bytes maxL ret n0 Inv Sf T h locs cells slots) {x y w : Int64} (hd : decode bytes pc = .ok (.lor, 1)) (hv : x ||| y = w) (hp : pc + 1 = pc') (q : Run p.tables e below P T (mkF m pc' Ls (.long w :: st))) : Run p.tables e below P T (mkF m pc Ls (.long y :: .long x :: st)) := by
  subst hp; subst hv; exact Run.of (fun _ k => XS.lor X.1.here X.hx rfl (hb X.hby hd) rfl k) q
theorem k_lxor (X : WP p l e R s m args below meth c Z own mname bytes maxL ret n0 Inv Sf T h locs cells slots) {x y w : Int64} (hd : decode bytes pc = .ok (.lxor, 1)) (hv : x ^^^ y = w) (hp : pc + 1 = pc') (q : Run p.tables e below P T (mkF m pc' Ls (.long w :: st))) : Run p.tables e below P T (mkF m pc Ls (.long y :: .long x :: st)) := by
  subst hp; subst hv; exact Run.of (fun _ k => XS.lxor X.1.here X.hx rfl (hb X.hby hd) rfl k) q
theorem k_lushr (X : WP p l e R s m args below meth c Z own mname bytes maxL ret n0 Inv Sf T h locs cells slots) {x w : Int64} {y : Int32} (hd : decode bytes pc = .ok (.lushr, 1)) (hv : ((x.toUInt64 >>> (y &&& 0x3f).toInt64.toUInt64).toInt64) = w) (hp : pc + 1 = pc') (q : Run p.tables e below P T (mkF m pc' Ls (.long w :: st))) : Run p.tables e below P T (mkF m pc Ls (.int y :: .long x :: st)) := by
  subst hp; subst hv; exact Run.of (fun _ k => XS.lushr X.1.here X.hx rfl (hb X.hby hd) rfl k) q
theorem k_i2l (X : WP p l e R s m args below meth c Z own mname bytes maxL ret n0 Inv Sf T h locs cells slots) {x : Int32} {w : Int64} (hd : decode bytes pc = .ok (.i2l, 1)) (hv : x.toInt64 = w) (hp : pc + 1 = pc') (q : Run p.tables e below P T (mkF m pc' Ls (.long w :: st))) : Run p.tables e below P T (mkF m pc Ls (.int x :: st)) := by
  subst hp; subst hv; exact Run.of (fun _ k => XS.i2l X.1.here X.hx rfl (hb X.hby hd) rfl k) q
theorem k_l2i (X : WP p l e R s m args below meth c Z own mname bytes maxL ret n0 Inv Sf T h locs cells slots) {x : Int64} {w : Int32} (hd : decode bytes pc = .ok (.l2i, 1)) (hv : x.toInt32 = w) (hp : pc + 1 = pc') (q : Run p.tables e below P T (mkF m pc' Ls (.int w :: st))) : Run p.tables e below P T (mkF m pc Ls (.long x :: st)) := by
  subst hp; subst hv; exact Run.of (fun _ k => XS.l2i X.1.here X.hx rfl (hb X.hby hd) rfl k) q
theorem k_lcmp (X : WP p l e R s m args below meth c Z own mname bytes maxL ret n0 Inv Sf T h locs cells slots) {x y : Int64} {w : Int32} (hd : decode bytes pc = .ok (.lcmp, 1)) (hv : (if x > y then 1 else if x = y then 0 else -1) = w) (hp : pc + 1 = pc') (q : Run p.tables e below P T (mkF m pc' Ls (.int w :: st))) : Run p.tables e below P T (mkF m pc Ls (.long y :: .long x :: st)) := by
  subst hp; subst hv; exact Run.of (fun _ k => XS.lcmp X.1.here X.hx rfl (hb X.hby hd) rfl k) q
theorem k_dup (X : WP p l e R s m args below meth c Z own mname bytes maxL ret n0 Inv Sf T h locs cells slots) {v : Value} (hd : decode bytes pc = .ok (.dup, 1)) (hc : v.category = 1) (hp : pc + 1 = pc') (q : Run p.tables e below P T (mkF m pc' Ls (v :: v :: st))) : Run p.tables e below P T (mkF m pc Ls (v :: st)) := by
  subst hp; exact Run.of (fun _ k => XS.dup X.1.here X.hx rfl (hb X.hby hd) rfl hc k) q
theorem k_pop (X : WP p l e R s m args below meth c Z own mname bytes maxL ret n0 Inv Sf T h locs cells slots) {v : Value} (hd : decode bytes pc = .ok (.pop, 1)) (hc : v.category = 1) (hp : pc + 1 = pc') (q : Run p.tables e below P T (mkF m pc' Ls (st))) : Run p.tables e below P T (mkF m pc Ls (v :: st)) := by
  subst hp; exact Run.of (fun _ k => XS.pop X.1.here X.hx rfl (hb X.hby hd) rfl hc k) q
theorem k_goto (X : WP p l e R s m args below meth c Z own mname bytes maxL ret n0 Inv Sf T h locs cells slots) {o : Int} (hd : decode bytes pc = .ok (.goto o, 3))  (ho : 0 ≤ (pc : Int) + o) (hp : ((pc : Int) + o).toNat = pc') (q : Run p.tables e below P T (mkF m pc' Ls (st))) : Run p.tables e below P T (mkF m pc Ls (st)) := by
  exact Run.of (fun _ k => XS.goto X.1.here X.hx rfl (pc0 := pc) (pc' := pc') rfl (hb X.hby hd)  ho hp k) q
theorem k_ifYes (X : WP p l e R s m args below meth c Z own mname bytes maxL ret n0 Inv Sf T h locs cells slots) {cd : ClassFile.Cond} {o : Int} {x : Int32} (hd : decode bytes pc = .ok (.ifCond cd o, 3)) (hc : ifCond.holds cd x = true) (ho : 0 ≤ (pc : Int) + o) (hp : ((pc : Int) + o).toNat = pc') (q : Run p.tables e below P T (mkF m pc' Ls (st))) : Run p.tables e below P T (mkF m pc Ls (.int x :: st)) := by
  exact Run.of (fun _ k => XS.ifYes X.1.here X.hx rfl (pc0 := pc) (pc' := pc') rfl (hb X.hby hd) rfl hc ho hp k) q
theorem k_ifNo (X : WP p l e R s m args below meth c Z own mname bytes maxL ret n0 Inv Sf T h locs cells slots) {cd : ClassFile.Cond} {o : Int} {x : Int32} (hd : decode bytes pc = .ok (.ifCond cd o, 3)) (hc : ifCond.holds cd x = false) (hp : pc + 3 = pc') (q : Run p.tables e below P T (mkF m pc' Ls (st))) : Run p.tables e below P T (mkF m pc Ls (.int x :: st)) := by
  subst hp; exact Run.of (fun _ k => XS.ifNo X.1.here X.hx rfl (hb X.hby hd) rfl hc k) q
theorem k_icmpYes (X : WP p l e R s m args below meth c Z own mname bytes maxL ret n0 Inv Sf T h locs cells slots) {cd : ClassFile.Cond} {o : Int} {x y : Int32} (hd : decode bytes pc = .ok (.if_icmp cd o, 3)) (hc : if_icmp.holds cd x y = true) (ho : 0 ≤ (pc : Int) + o) (hp : ((pc : Int) + o).toNat = pc') (q : Run p.tables e below P T (mkF m pc' Ls (st))) : Run p.tables e below P T (mkF m pc Ls (.int y :: .int x :: st)) := by
  exact Run.of (fun _ k => XS.icmpYes X.1.here X.hx rfl (pc0 := pc) (pc' := pc') rfl (hb X.hby hd) rfl hc ho hp k) q
theorem k_icmpNo (X : WP p l e R s m args below meth c Z own mname bytes maxL ret n0 Inv Sf T h locs cells slots) {cd : ClassFile.Cond} {o : Int} {x y : Int32} (hd : decode bytes pc = .ok (.if_icmp cd o, 3)) (hc : if_icmp.holds cd x y = false) (hp : pc + 3 = pc') (q : Run p.tables e below P T (mkF m pc' Ls (st))) : Run p.tables e below P T (mkF m pc Ls (.int y :: .int x :: st)) := by
  subst hp; exact Run.of (fun _ k => XS.icmpNo X.1.here X.hx rfl (hb X.hby hd) rfl hc k) q
theorem k_ifnullYes (X : WP p l e R s m args below meth c Z own mname bytes maxL ret n0 Inv Sf T h locs cells slots) {o : Int} (hd : decode bytes pc = .ok (.ifnull o, 3))  (ho : 0 ≤ (pc : Int) + o) (hp : ((pc : Int) + o).toNat = pc') (q : Run p.tables e below P T (mkF m pc' Ls (st))) : Run p.tables e below P T (mkF m pc Ls (.null :: st)) := by
  exact Run.of (fun _ k => XS.ifnullYes X.1.here X.hx rfl (pc0 := pc) (pc' := pc') rfl (hb X.hby hd) rfl ho hp k) q
theorem k_ifnullNo (X : WP p l e R s m args below meth c Z own mname bytes maxL ret n0 Inv Sf T h locs cells slots) {o : Int} {a : Addr} (hd : decode bytes pc = .ok (.ifnull o, 3))  (hp : pc + 3 = pc') (q : Run p.tables e below P T (mkF m pc' Ls (st))) : Run p.tables e below P T (mkF m pc Ls (.ref a :: st)) := by
  subst hp; exact Run.of (fun _ k => XS.ifnullNo X.1.here X.hx rfl (hb X.hby hd) rfl k) q
theorem k_ifnonnullYes (X : WP p l e R s m args below meth c Z own mname bytes maxL ret n0 Inv Sf T h locs cells slots) {o : Int} {a : Addr} (hd : decode bytes pc = .ok (.ifnonnull o, 3))  (ho : 0 ≤ (pc : Int) + o) (hp : ((pc : Int) + o).toNat = pc') (q : Run p.tables e below P T (mkF m pc' Ls (st))) : Run p.tables e below P T (mkF m pc Ls (.ref a :: st)) := by
  exact Run.of (fun _ k => XS.ifnonnullYes X.1.here X.hx rfl (pc0 := pc) (pc' := pc') rfl (hb X.hby hd) rfl ho hp k) q
theorem k_ifnonnullNo (X : WP p l e R s m args below meth c Z own mname bytes maxL ret n0 Inv Sf T h locs cells slots) {o : Int} (hd : decode bytes pc = .ok (.ifnonnull o, 3))  (hp : pc + 3 = pc') (q : Run p.tables e below P T (mkF m pc' Ls (st))) : Run p.tables e below P T (mkF m pc Ls (.null :: st)) := by
  subst hp; exact Run.of (fun _ k => XS.ifnonnullNo X.1.here X.hx rfl (hb X.hby hd) rfl k) q
theorem k_acmp (X : WP p l e R s m args below meth c Z own mname bytes maxL ret n0 Inv Sf T h locs cells slots) {cd : ACond} {x y : Value} {o : Int} (same : Bool) (hd : decode bytes pc = .ok (.if_acmp cd o, 3)) (h1 : x.isRef = true) (h2 : y.isRef = true) (hq : decide (x = y) = same) (ho : 0 ≤ (pc : Int) + o) (hp : pc' = if acV cd same = true then ((pc : Int) + o).toNat else pc + 3) (q : Run p.tables e below P T (mkF m pc' Ls st)) : Run p.tables e below P T (mkF m pc Ls (y :: x :: st)) :=
  Run.of (fun _ k => Jvm.RoadKit.acmp (g := mkF m pc Ls (y :: x :: st)) X.1 X.hx rfl h1 h2 (pc0 := pc) (pc' := pc') (same := same) rfl (hb X.hby hd) rfl hq ho hp k) q
theorem k_getF (X : WP p l e R s m args below meth c Z own mname bytes maxL ret n0 Inv Sf T h locs cells slots) {R0 O n d host : String} {index : Nat} {a : Addr} {v : Value} (hd : decode bytes pc = .ok (.getfield index, 3)) (w : (Cond.fieldLink own index R0 n d).before a0 Z = true ∨ (Cond.fieldLinkNest own index R0 n d host).before a0 Z = true) (via : Via Z R0 O n d) (F : Fld Z h a O n d v) (hp : pc + 3 = pc')
    (q : ∀ T', WP p l e R s m args below meth c Z own mname bytes maxL ret n0 Inv Sf T' h locs cells slots → Run p.tables e below P T' (mkF m pc' Ls (v :: st))) : Run p.tables e below P T (mkF m pc Ls (.ref a :: st)) := by
  subst hp
  obtain ⟨T', X', e', k⟩ := Jvm.RoadKit.getF X.1 X.hx X.hZ X.hown w via X.eT F (g := mkF m pc Ls (.ref a :: st)) rfl rfl (hb X.hby hd)
  exact Run.of k (q T' (X.same X' e'))
theorem k_getS (X : WP p l e R s m args below meth c Z own mname bytes maxL ret n0 Inv Sf T h locs cells slots) {R0 O n d host : String} {index : Nat} {v : Value} (hd : decode bytes pc = .ok (.getstatic index, 3)) (w : (Cond.fieldLink own index R0 n d).before a0 Z = true ∨ (Cond.fieldLinkNest own index R0 n d host).before a0 Z = true) (via : Via Z R0 O n d) (F : Sta Z h O n d v) (hp : pc + 3 = pc')
    (q : ∀ T', WP p l e R s m args below meth c Z own mname bytes maxL ret n0 Inv Sf T' h locs cells slots → Run p.tables e below P T' (mkF m pc' Ls (v :: st))) : Run p.tables e below P T (mkF m pc Ls st) := by
  subst hp
  obtain ⟨T', X', e', k⟩ := Jvm.RoadKit.getS2 X.1 X.hx X.hZ X.hown w via X.eT F (g := mkF m pc Ls st) rfl (hb X.hby hd)
  exact Run.of k (q T' (X.same X' e'))
theorem k_putF (X : WP p l e R s m args below meth c Z own mname bytes maxL ret n0 Inv Sf T h locs cells slots) {R0 O n d host C : String} {index kk : Nat} {ty : FieldType} {a : Addr} {v old : Value} (hd : decode bytes pc = .ok (.putfield index, 3)) (w : (Cond.fieldLink own index R0 n d).before a0 Z = true ∨ (Cond.fieldLinkNest own index R0 n d host).before a0 Z = true) (via : Via Z R0 O n d) (F : Fld Z h a O n d old) (E : Exa Z h a C)
    (L : (Cond.lays C O n d).before a0 Z = true ∨ ((Cond.laysFinal C O n d).before a0 Z = true ∧ own = O ∧ meth.name = "<init>")) (wi : (Cond.instantiable C kk).before a0 Z = true) (hty : parseFieldDescriptor d = some ty) (hn : narrow ty v = v) (hf : fits ty v = true) (hsf : Sf h a) (hge : n0 ≤ a) (hp : pc + 3 = pc')
    (q : ∀ T' h' L', WP p l e R s m args below meth c Z own mname bytes maxL ret n0 Inv Sf T' h' L' cells slots → Wr h h' a (Jvm.RoadKit.slotOf Z O n d) v → Keep h h' [a] → Run p.tables e below P T' (mkF m pc' Ls st)) : Run p.tables e below P T (mkF m pc Ls (v :: .ref a :: st)) := by
  subst hp
  obtain ⟨T', h', X', e', W, k⟩ := Jvm.RoadKit.putF X.1 X.hx X.hZ X.hown w via X.eT F E L wi hty hn hf (g := mkF m pc Ls (v :: .ref a :: st)) rfl rfl (hb X.hby hd)
  have K := Keep.of_wr W
  exact Run.of k (q T' h' _ (X.mv X' e' K (allS ⟨hsf, hge⟩ all0) (X.fr.app (fr1 hge))) W K)
theorem k_newO (X : WP p l e R s m args below meth c Z own mname bytes maxL ret n0 Inv Sf T h locs cells slots) {C : String} {index n : Nat} (hd : decode bytes pc = .ok (.new index, 3)) (w : (Cond.classLink own index C).before a0 Z = true) (wi : (Cond.instantiable C n).before a0 Z = true) (wz : (Cond.initialized C).before a0 Z = true) (hc : cells + 1 ≤ R.cells) (hl : slots + n ≤ R.slots) (hp : pc + 3 = pc')
    (q : ∀ T' h' (b : Nat), b = h.size → WP p l e R s m args below meth c Z own mname bytes maxL ret n0 Inv Sf T' h' locs (cells + 1) (slots + n) → Keep h h' [] → Exa Z h' b C → (∀ {O nm d : String} {ty : FieldType}, Laid Z a0 C O nm d → parseFieldDescriptor d = some ty → Fld Z h' b O nm d (defaultValue ty)) → Sf h' b → b < h'.size → n0 ≤ b → Run p.tables e below P T' (mkF m pc' Ls (.ref b :: st))) : Run p.tables e below P T (mkF m pc Ls st) := by
  subst hp
  obtain ⟨T', h', X', e', E, A, D, -, k⟩ := Jvm.RoadKit.newO X.1 X.hx X.hZ X.hown w wi wz X.eT (g := mkF m pc Ls st) rfl (hb X.hby hd) hc hl
  have K := ext_keep E
  exact Run.of k (q T' h' h.size rfl (X.mv X' e' K (fun _ q => nomatch q) X.fr) K A (fun L t => D L t) (X.sf K (fun _ q => nomatch q) (X.sfN (Nat.le_refl _))) (own_n A.lt) X.n0le)
theorem k_newP (X : WP p l e R s m args below meth c Z own mname bytes maxL ret n0 Inv Sf T h locs cells slots) {aty : ArrayType} {n : Int32} {cap : Nat} (hd : decode bytes pc = .ok (.newarray aty, 2)) (w : (Cond.arrayClass (newarray.typeOf aty)).before a0 Z = true) (hn : ¬ n < 0) (hcap : n.toNatClampNeg ≤ cap) (hb' : cap * 8 ≤ 536870912) (hc : cells + 1 ≤ R.cells) (hl : slots + cap ≤ R.slots) (hp : pc + 2 = pc')
    (q : ∀ T' h' (b : Nat) k, b = h.size → WP p l e R s m args below meth c Z own mname bytes maxL ret n0 Inv Sf T' h' locs (cells + 1) (slots + cap) → Keep h h' [] → Arv Z h' b k (newarray.typeOf aty) n [] (defaultValue (newarray.typeOf aty)) → Sf h' b → b < h'.size → n0 ≤ b → Run p.tables e below P T' (mkF m pc' Ls (.ref b :: st))) : Run p.tables e below P T (mkF m pc Ls (.int n :: st)) := by
  subst hp
  obtain ⟨T', h', cA, X', e', E, A, k⟩ := Jvm.RoadKit.newP X.1 X.hx X.hZ w X.eT (g := mkF m pc Ls (.int n :: st)) rfl (hb X.hby hd) rfl hn hcap hb' hc hl
  have K := ext_keep E
  exact Run.of k (q T' h' h.size cA rfl (X.mv X' e' K (fun _ q => nomatch q) X.fr) K (Arv.new A hn) (X.sf K (fun _ q => nomatch q) (X.sfN (Nat.le_refl _))) (own_n A.lt) X.n0le)
theorem k_arlen (X : WP p l e R s m args below meth c Z own mname bytes maxL ret n0 Inv Sf T h locs cells slots) {a : Addr} {k : ClassId} {ty : FieldType} {z : Int32} {vs : List Value} {d : Value} (hd : decode bytes pc = .ok (.arraylength, 1)) (A : Arv Z h a k ty z vs d) (hp : pc + 1 = pc') (q : Run p.tables e below P T (mkF m pc' Ls (.int z :: st))) : Run p.tables e below P T (mkF m pc Ls (.ref a :: st)) := by
  subst hp
  obtain ⟨cl, A, -, S, N, -, -⟩ := A
  refine Run.of (X.1.arraylength X.hx (by rw [X.eT]; exact A.1) (State.isArrayOf_alike X.hZ.alike A.2.1) (g := mkF m pc Ls (.ref a :: st)) rfl rfl (hb X.hby hd)) ?_
  rw [len_of S N]; exact q
theorem k_initO (X : WP p l e R s m args below meth c Z own mname bytes maxL ret n0 Inv Sf T h locs cells slots) {idx W : Nat} {a : Addr} (hd : decode bytes pc = .ok (.invokespecial idx, 3)) (w1 : (Cond.methodLink own idx Lib.objectInit).before a0 Z = true) (w2 : (Cond.instanceMethod Lib.objectInit).before a0 Z = true) (w3 : (Cond.code Lib.objectInit ⟨#[0xb1]⟩ 1 none).before a0 Z = true)
    (hsz : Ls.size = maxL) (hf : 1 ≤ R.frames) (hW : (st.map fun v => v.category).sum ≤ W) (hl : W + 12 ≤ R.locals) (hp : pc + 3 = pc')
    (q : ∀ T', WP p l e R s m args below meth c Z own mname bytes maxL ret n0 Inv Sf T' h locs cells slots → Run p.tables e below P T' (mkF m pc' Ls st)) : Run p.tables e below P T (mkF m pc Ls (.ref a :: st)) := by
  subst hp
  obtain ⟨T', X', e', k⟩ := Jvm.RoadKit.initO X.1 X.hx X.hZ X.hown w1 w2 w3 X.eT (g := mkF m pc Ls (.ref a :: st)) rfl (by rw [X.hml]; exact hsz) rfl (hb X.hby hd) hf (W := W) (by show 2 * 0 + _ ≤ _; omega) hl
  exact Run.of k (q T' (X.same X' e'))
theorem k_castY (X : WP p l e R s m args below meth c Z own mname bytes maxL ret n0 Inv Sf T h locs cells slots) {K : String} {index : Nat} {a : Addr} (hd : decode bytes pc = .ok (.checkcast index, 3)) (w : (Cond.classLink own index K).before a0 Z = true) (F : Ins Z h a K true) (hp : pc + 3 = pc')
    (q : ∀ T', WP p l e R s m args below meth c Z own mname bytes maxL ret n0 Inv Sf T' h locs cells slots → Run p.tables e below P T' (mkF m pc' Ls (.ref a :: st))) : Run p.tables e below P T (mkF m pc Ls (.ref a :: st)) := by
  subst hp
  obtain ⟨T', X', e', k⟩ := Jvm.RoadKit.castY X.1 X.hx X.hZ X.hown w X.eT F (g := mkF m pc Ls (.ref a :: st)) rfl rfl (hb X.hby hd)
  exact Run.of k (q T' (X.same X' e'))
theorem k_instY (X : WP p l e R s m args below meth c Z own mname bytes maxL ret n0 Inv Sf T h locs cells slots) {K : String} {index : Nat} {a : Addr} (hd : decode bytes pc = .ok (.instanceof index, 3)) (w : (Cond.classLink own index K).before a0 Z = true) (F : Ins Z h a K true) (hp : pc + 3 = pc')
    (q : ∀ T', WP p l e R s m args below meth c Z own mname bytes maxL ret n0 Inv Sf T' h locs cells slots → Run p.tables e below P T' (mkF m pc' Ls (.int 1 :: st))) : Run p.tables e below P T (mkF m pc Ls (.ref a :: st)) := by
  subst hp
  obtain ⟨T', X', e', k⟩ := Jvm.RoadKit.instY X.1 X.hx X.hZ X.hown w X.eT F (g := mkF m pc Ls (.ref a :: st)) rfl rfl (hb X.hby hd)
  exact Run.of k (q T' (X.same X' e'))
theorem k_castore (X : WP p l e R s m args below meth c Z own mname bytes maxL ret n0 Inv Sf T h locs cells slots) {a : Addr} {k : ClassId} {z j x w : Int32} {vs : List Value} {d : Value} (i : Nat) (hd : decode bytes pc = .ok (.castore, 1)) (A : Arv Z h a k .char z vs d) (hj0 : ¬ j < 0) (hjz : j < z) (hj : j.toNatClampNeg = i) (hi : i < vs.length) (hw : nar .char x = w) {vs' : List Value} (hvs : vs.set i (.int w) = vs') (hsf : Sf h a) (hge : n0 ≤ a) (hp : pc + 1 = pc')
    (q : ∀ T' h' L', WP p l e R s m args below meth c Z own mname bytes maxL ret n0 Inv Sf T' h' L' cells slots → Keep h h' [a] → Arv Z h' a k .char z vs' d → Run p.tables e below P T' (mkF m pc' Ls st)) : Run p.tables e below P T (mkF m pc Ls (.int x :: .int j :: .ref a :: st)) := by
  subst hp hw hvs
  obtain ⟨cl, A, q1, S, N, H, G⟩ := A
  obtain ⟨T', h', X', e', W, kk⟩ := Jvm.RoadKit.stC X.1 X.hx X.hZ X.eT A (j := j) (inb_of S ⟨hj0, hjz⟩) (g := mkF m pc Ls (.int x :: .int j :: .ref a :: st)) rfl rfl (hb X.hby hd)
  have K := Keep.of_wr W
  exact Run.of kk (q T' h' _ (X.mv X' e' K (allS ⟨hsf, hge⟩ all0) (X.fr.app (fr1 hge))) K (Arv.set A q1 S N H G (fits_nar_char _) W i hj hi))
theorem k_bastore (X : WP p l e R s m args below meth c Z own mname bytes maxL ret n0 Inv Sf T h locs cells slots) {a : Addr} {k : ClassId} {z j x w : Int32} {vs : List Value} {d : Value} (i : Nat) (hd : decode bytes pc = .ok (.bastore, 1)) (A : Arv Z h a k .byte z vs d) (hj0 : ¬ j < 0) (hjz : j < z) (hj : j.toNatClampNeg = i) (hi : i < vs.length) (hw : nar .byte x = w) {vs' : List Value} (hvs : vs.set i (.int w) = vs') (hsf : Sf h a) (hge : n0 ≤ a) (hp : pc + 1 = pc')
    (q : ∀ T' h' L', WP p l e R s m args below meth c Z own mname bytes maxL ret n0 Inv Sf T' h' L' cells slots → Keep h h' [a] → Arv Z h' a k .byte z vs' d → Run p.tables e below P T' (mkF m pc' Ls st)) : Run p.tables e below P T (mkF m pc Ls (.int x :: .int j :: .ref a :: st)) := by
  subst hp hw hvs
  obtain ⟨cl, A, q1, S, N, H, G⟩ := A
  obtain ⟨T', h', X', e', W, kk⟩ := Jvm.RoadKit.stB X.1 X.hx X.hZ X.eT A (j := j) (inb_of S ⟨hj0, hjz⟩) (g := mkF m pc Ls (.int x :: .int j :: .ref a :: st)) rfl rfl (hb X.hby hd)
  have K := Keep.of_wr W
  exact Run.of kk (q T' h' _ (X.mv X' e' K (allS ⟨hsf, hge⟩ all0) (X.fr.app (fr1 hge))) K (Arv.set A q1 S N H G (fits_nar_byte _) W i hj hi))
theorem k_iastore (X : WP p l e R s m args below meth c Z own mname bytes maxL ret n0 Inv Sf T h locs cells slots) {a : Addr} {k : ClassId} {z j x w : Int32} {vs : List Value} {d : Value} (i : Nat) (hd : decode bytes pc = .ok (.iastore, 1)) (A : Arv Z h a k .int z vs d) (hj0 : ¬ j < 0) (hjz : j < z) (hj : j.toNatClampNeg = i) (hi : i < vs.length) (hw : x = w) {vs' : List Value} (hvs : vs.set i (.int w) = vs') (hsf : Sf h a) (hge : n0 ≤ a) (hp : pc + 1 = pc')
    (q : ∀ T' h' L', WP p l e R s m args below meth c Z own mname bytes maxL ret n0 Inv Sf T' h' L' cells slots → Keep h h' [a] → Arv Z h' a k .int z vs' d → Run p.tables e below P T' (mkF m pc' Ls st)) : Run p.tables e below P T (mkF m pc Ls (.int x :: .int j :: .ref a :: st)) := by
  subst hp hw hvs
  obtain ⟨cl, A, q1, S, N, H, G⟩ := A
  obtain ⟨T', h', X', e', W, kk⟩ := Jvm.RoadKit.stI X.1 X.hx X.hZ X.eT A (j := j) (inb_of S ⟨hj0, hjz⟩) (g := mkF m pc Ls (.int x :: .int j :: .ref a :: st)) rfl rfl (hb X.hby hd)
  have K := Keep.of_wr W
  exact Run.of kk (q T' h' _ (X.mv X' e' K (allS ⟨hsf, hge⟩ all0) (X.fr.app (fr1 hge))) K (Arv.set A q1 S N H G rfl W i hj hi))
theorem k_caload (X : WP p l e R s m args below meth c Z own mname bytes maxL ret n0 Inv Sf T h locs cells slots) {a : Addr} {k : ClassId} {z j : Int32} {vs : List Value} {d v : Value} (hd : decode bytes pc = .ok (.caload, 1)) (A : Arv Z h a k .char z vs d) (hj0 : ¬ j < 0) (hjz : j < z) (hv : vs.getD j.toNatClampNeg d = v) (hp : pc + 1 = pc') (q : Run p.tables e below P T (mkF m pc' Ls (v :: st))) : Run p.tables e below P T (mkF m pc Ls (.int j :: .ref a :: st)) := by
  subst hp
  obtain ⟨cl, A, q1, S, N, H, G⟩ := A
  exact Run.of (X.1.caload X.hx (j := j) (v := v) (by rw [X.eT]; exact A.1) (State.isArrayOf_alike X.hZ.alike A.2.1) A.2.2 (inb_of S ⟨hj0, hjz⟩) (H.at (inb_of S ⟨hj0, hjz⟩) hv) (g := mkF m pc Ls (.int j :: .ref a :: st)) rfl rfl (hb X.hby hd)) q
theorem k_baload (X : WP p l e R s m args below meth c Z own mname bytes maxL ret n0 Inv Sf T h locs cells slots) {a : Addr} {k : ClassId} {z j : Int32} {vs : List Value} {d v : Value} (hd : decode bytes pc = .ok (.baload, 1)) (A : Arv Z h a k .byte z vs d) (hj0 : ¬ j < 0) (hjz : j < z) (hv : vs.getD j.toNatClampNeg d = v) (hp : pc + 1 = pc') (q : Run p.tables e below P T (mkF m pc' Ls (v :: st))) : Run p.tables e below P T (mkF m pc Ls (.int j :: .ref a :: st)) := by
  subst hp
  obtain ⟨cl, A, q1, S, N, H, G⟩ := A
  exact Run.of (X.1.baloadBytes X.hx (j := j) (v := v) (by rw [X.eT]; exact A.1) (State.isArrayOf_alike X.hZ.alike A.2.1) A.2.2 (inb_of S ⟨hj0, hjz⟩) (H.at (inb_of S ⟨hj0, hjz⟩) hv) (g := mkF m pc Ls (.int j :: .ref a :: st)) rfl rfl (hb X.hby hd)) q
theorem k_iaload (X : WP p l e R s m args below meth c Z own mname bytes maxL ret n0 Inv Sf T h locs cells slots) {a : Addr} {k : ClassId} {z j : Int32} {vs : List Value} {d v : Value} (hd : decode bytes pc = .ok (.iaload, 1)) (A : Arv Z h a k .int z vs d) (hj0 : ¬ j < 0) (hjz : j < z) (hv : vs.getD j.toNatClampNeg d = v) (hp : pc + 1 = pc') (q : Run p.tables e below P T (mkF m pc' Ls (v :: st))) : Run p.tables e below P T (mkF m pc Ls (.int j :: .ref a :: st)) := by
  subst hp
  obtain ⟨cl, A, q1, S, N, H, G⟩ := A
  exact Run.of (X.1.iaload X.hx (j := j) (v := v) (by rw [X.eT]; exact A.1) (State.isArrayOf_alike X.hZ.alike A.2.1) A.2.2 (inb_of S ⟨hj0, hjz⟩) (H.at (inb_of S ⟨hj0, hjz⟩) hv) (g := mkF m pc Ls (.int j :: .ref a :: st)) rfl rfl (hb X.hby hd)) q
theorem k_laload (X : WP p l e R s m args below meth c Z own mname bytes maxL ret n0 Inv Sf T h locs cells slots) {a : Addr} {k : ClassId} {z j : Int32} {vs : List Value} {d v : Value} (hd : decode bytes pc = .ok (.laload, 1)) (A : Arv Z h a k .long z vs d) (hj0 : ¬ j < 0) (hjz : j < z) (hv : vs.getD j.toNatClampNeg d = v) (hp : pc + 1 = pc') (q : Run p.tables e below P T (mkF m pc' Ls (v :: st))) : Run p.tables e below P T (mkF m pc Ls (.int j :: .ref a :: st)) := by
  subst hp
  obtain ⟨cl, A, q1, S, N, H, G⟩ := A
  exact Run.of (X.1.laload X.hx (j := j) (v := v) (by rw [X.eT]; exact A.1) (State.isArrayOf_alike X.hZ.alike A.2.1) A.2.2 (inb_of S ⟨hj0, hjz⟩) (H.at (inb_of S ⟨hj0, hjz⟩) hv) (g := mkF m pc Ls (.int j :: .ref a :: st)) rfl rfl (hb X.hby hd)) q
theorem k_aaload (X : WP p l e R s m args below meth c Z own mname bytes maxL ret n0 Inv Sf T h locs cells slots) {a : Addr} {k : ClassId} {z j : Int32} {vs : List Value} {d v : Value} {ty : FieldType} (hd : decode bytes pc = .ok (.aaload, 1)) (A : Arv Z h a k ty z vs d) (hr : ty.isReference = true) (hj0 : ¬ j < 0) (hjz : j < z) (hv : vs.getD j.toNatClampNeg d = v) (hp : pc + 1 = pc') (q : Run p.tables e below P T (mkF m pc' Ls (v :: st))) : Run p.tables e below P T (mkF m pc Ls (.int j :: .ref a :: st)) := by
  subst hp
  obtain ⟨cl, A, q1, S, N, H, G⟩ := A
  exact Run.of (X.1.aaload X.hx (j := j) (v := v) (by rw [X.eT]; exact A.1) (State.isArrayOf_alike X.hZ.alike A.2.1) hr A.2.2 (inb_of S ⟨hj0, hjz⟩) (H.at (inb_of S ⟨hj0, hjz⟩) hv) (g := mkF m pc Ls (.int j :: .ref a :: st)) rfl rfl (hb X.hby hd)) q
theorem k_castNull (X : WP p l e R s m args below meth c Z own mname bytes maxL ret n0 Inv Sf T h locs cells slots) {index : Nat} (hd : decode bytes pc = .ok (.checkcast index, 3)) (hp : pc + 3 = pc') (q : Run p.tables e below P T (mkF m pc' Ls (.null :: st))) : Run p.tables e below P T (mkF m pc Ls (.null :: st)) := by
  subst hp; exact Run.of (X.1.checkcastNull X.hx (g := mkF m pc Ls (.null :: st)) rfl rfl (hb X.hby hd)) q
theorem k_instNull (X : WP p l e R s m args below meth c Z own mname bytes maxL ret n0 Inv Sf T h locs cells slots) {index : Nat} (hd : decode bytes pc = .ok (.instanceof index, 3)) (hp : pc + 3 = pc') (q : Run p.tables e below P T (mkF m pc' Ls (.int 0 :: st))) : Run p.tables e below P T (mkF m pc Ls (.null :: st)) := by
  subst hp; exact Run.of (X.1.instanceofNull X.hx (g := mkF m pc Ls (.null :: st)) rfl rfl (hb X.hby hd)) q
theorem k_clone (X : WP p l e R s m args below meth c Z own mname bytes maxL ret n0 Inv Sf T h locs cells slots) {ad : String} {index W cap : Nat} {a : Addr} {k : ClassId} {ty : FieldType} {z : Int32} {vs : List Value} {d : Value} (hd : decode bytes pc = .ok (.invokevirtual index, 3)) (w1 : (Cond.methodLink own index ⟨ad, "clone", "()Ljava/lang/Object;"⟩).before a0 Z = true) (w2 : (Cond.sameMethod ad "java/lang/Object" "clone" "()Ljava/lang/Object;").before a0 Z = true) (w3 : (Cond.native ⟨"java/lang/Object", "clone", "()Ljava/lang/Object;"⟩).before a0 Z = true)
    (w4 : (Cond.instanceMethod ⟨"java/lang/Object", "clone", "()Ljava/lang/Object;"⟩).before a0 Z = true) (w5 : (Cond.selects ad ⟨ad, "clone", "()Ljava/lang/Object;"⟩ ⟨"java/lang/Object", "clone", "()Ljava/lang/Object;"⟩).before a0 Z = true) (w6 : (Cond.castable ad "java/lang/Cloneable").before a0 Z = true) (F : Arv Z h a k ty z vs d) (E : Exa Z h a ad) (hsz : Ls.size = maxL)
    (hf : 1 ≤ R.frames) (hW : (st.map fun v => v.category).sum ≤ W) (hl : W + 14 ≤ R.locals) (hcap : z.toNatClampNeg ≤ cap) (hc : cells + 1 ≤ R.cells) (hsl : slots + cap ≤ R.slots) (hp : pc + 3 = pc')
    (q : ∀ T' h' (b : Nat), b = h.size → WP p l e R s m args below meth c Z own mname bytes maxL ret n0 Inv Sf T' h' locs (cells + 1) (slots + cap) → Keep h h' [] → Arv Z h' b k ty z vs d → Exa Z h' b ad → Sf h' b → b < h'.size → n0 ≤ b → Run p.tables e below P T' (mkF m pc' Ls (.ref b :: st))) : Run p.tables e below P T (mkF m pc Ls (.ref a :: st)) := by
  subst hp
  obtain ⟨T', h', X', e', E', A', B', kk⟩ := Jvm.RoadKit.cloneH X.1 X.hx X.hZ X.hown w1 w2 w3 w4 w5 w6 X.eT F.arh E (g := mkF m pc Ls (.ref a :: st)) rfl (by rw [X.hml]; exact hsz) rfl (hb X.hby hd) hf (W := W) (by show 2 * 0 + _ ≤ _; omega) hl hcap hc hsl
  have K := ext_keep E'
  exact Run.of kk (q T' h' h.size rfl (X.mv X' e' K (fun _ q => nomatch q) X.fr) K A' B' (X.sf K (fun _ q => nomatch q) (X.sfN (Nat.le_refl _))) (own_n B'.lt) X.n0le)
theorem k_copy (X : WP p l e R s m args below meth c Z own mname bytes maxL ret n0 Inv Sf T h locs cells slots) {index W : Nat} {a b : Addr} {k k' : ClassId} {ty : FieldType} {z z' sp dp nn : Int32} {vs vd vd' : List Value} {dv dd : Value} (hd : decode bytes pc = .ok (.invokestatic index, 3)) (w1 : (Cond.methodLink own index Jvm.Stand.acN).before a0 Z = true) (w2 : (Cond.native Jvm.Stand.acN).before a0 Z = true) (w3 : (Cond.static Jvm.Stand.acN).before a0 Z = true) (w4 : (Cond.initialized "java/lang/System").before a0 Z = true) (A : Arv Z h a k ty z vs dv) (B : Arv Z h b k' ty z' vd dd) (hty : refKind ty = false)
    (h1 : ¬ sp < 0) (h2 : ¬ dp < 0) (h3 : ¬ nn < 0) (h4 : sp.toNatClampNeg + nn.toNatClampNeg ≤ z.toNatClampNeg) (h5 : dp.toNatClampNeg + nn.toNatClampNeg ≤ z'.toNatClampNeg) (hl : dp.toNatClampNeg + nn.toNatClampNeg ≤ vd.length) (hvd : vd.take dp.toNatClampNeg ++ (List.range nn.toNatClampNeg).map (fun i => vs.getD (sp.toNatClampNeg + i) dv) ++ vd.drop (dp.toNatClampNeg + nn.toNatClampNeg) = vd') (hsf : Sf h b) (hge : n0 ≤ b) (hsz : Ls.size = maxL) (hf : 1 ≤ R.frames) (hW : (st.map fun v => v.category).sum ≤ W) (hlo : W + 18 ≤ R.locals) (hp : pc + 3 = pc')
    (q : ∀ T' h' L', WP p l e R s m args below meth c Z own mname bytes maxL ret n0 Inv Sf T' h' L' cells slots → Keep h h' [b] → Arv Z h' b k' ty z' vd' dd → Run p.tables e below P T' (mkF m pc' Ls st)) : Run p.tables e below P T (mkF m pc Ls (.int nn :: .int dp :: .ref b :: .int sp :: .ref a :: st)) := by
  subst hp hvd
  have hnw : nativeFrameWords "java/lang/System" "arraycopy" 5 = 7 := by decide
  obtain ⟨T', h', L', X', e', N, K, A', kk⟩ := Jvm.RoadKit.cpA X.1 X.hx X.hZ X.hown w1 w2 w3 w4 X.eT A B (Or.inl ⟨rfl, hty⟩) h1 h2 h3 h4 h5 rfl hl X.fr hge (g := mkF m pc Ls (.int nn :: .int dp :: .ref b :: .int sp :: .ref a :: st)) rfl (by rw [X.hml]; exact hsz) rfl (hb X.hby hd) hf (W := W) (by show 2 * 0 + _ ≤ _; omega) (by rw [hnw]; exact hlo)
  exact Run.of kk (q T' h' L' (X.mv X' e' K (allS ⟨hsf, hge⟩ all0) N) K A')
theorem k_lastore (X : WP p l e R s m args below meth c Z own mname bytes maxL ret n0 Inv Sf T h locs cells slots) {a : Addr} {k : ClassId} {z j : Int32} {x : Int64} {vs : List Value} {d : Value} (i : Nat) (hd : decode bytes pc = .ok (.lastore, 1)) (A : Arv Z h a k .long z vs d) (hj0 : ¬ j < 0) (hjz : j < z) (hj : j.toNatClampNeg = i) (hi : i < vs.length) {vs' : List Value} (hvs : vs.set i (.long x) = vs') (hsf : Sf h a) (hge : n0 ≤ a) (hp : pc + 1 = pc')
    (q : ∀ T' h' L', WP p l e R s m args below meth c Z own mname bytes maxL ret n0 Inv Sf T' h' L' cells slots → Keep h h' [a] → Arv Z h' a k .long z vs' d → Run p.tables e below P T' (mkF m pc' Ls st)) : Run p.tables e below P T (mkF m pc Ls (.long x :: .int j :: .ref a :: st)) := by
  subst hp hvs
  obtain ⟨cl, A, q1, S, N, H, G⟩ := A
  obtain ⟨T', h', X', e', W, kk⟩ := Jvm.RoadKit.stJ X.1 X.hx X.hZ X.eT A (j := j) (inb_of S ⟨hj0, hjz⟩) (g := mkF m pc Ls (.long x :: .int j :: .ref a :: st)) rfl rfl (hb X.hby hd)
  have K := Keep.of_wr W
  exact Run.of kk (q T' h' _ (X.mv X' e' K (allS ⟨hsf, hge⟩ all0) (X.fr.app (fr1 hge))) K (Arv.set A q1 S N H G rfl W i hj hi))
theorem k_ldc2 (X : WP p l e R s m args below meth c Z own mname bytes maxL ret n0 Inv Sf T h locs cells slots) {index : Nat} {v : Int64} (hd : decode bytes pc = .ok (.ldc2_w index, 3)) (w : (Cond.constantLong own index v).before a0 Z = true) (hp : pc + 3 = pc') (q : Run p.tables e below P T (mkF m pc' Ls (.long v :: st))) : Run p.tables e below P T (mkF m pc Ls st) := by
  subst hp; exact Run.of (X.1.ldc2Long X.hx X.hown (mvT X.hZ w) (g := mkF m pc Ls st) rfl (hb X.hby hd)) q
theorem k_ldcI (X : WP p l e R s m args below meth c Z own mname bytes maxL ret n0 Inv Sf T h locs cells slots) {index : Nat} {v : Int32} (hd : decode bytes pc = .ok (.ldc index, 2)) (w : (Cond.constant own index v).before a0 Z = true) (hp : pc + 2 = pc') (q : Run p.tables e below P T (mkF m pc' Ls (.int v :: st))) : Run p.tables e below P T (mkF m pc Ls st) := by
  subst hp; exact Run.of (X.1.ldcInt X.hx X.hown (mvT X.hZ w) (g := mkF m pc Ls st) rfl (hb X.hby hd)) q
/-- the contract of a body that interns nothing -/
def MetF (l : Launch) (tw : List Jvm.Cond) (Z : State) (n0 : Nat) (y : MethodName) (bytes : ByteArray) (maxL : Nat) (ret : Option FieldType) (rm : Room) (as' : Array Value) (h : Heap) (ws : List Addr) (Q : Option Value → Heap → Prop) : Prop :=
  MetFree l y (head1 (Jvm.Cond.code y bytes maxL ret :: tw) rm) (fun a U => a = as' ∧ Z.Warmed39 U.vm ∧ U.heap = h) (fun _ _ _ _ _ => True) (fun _ U o U' => ∃ v L, o = .returned v ∧ ((Keep h U'.heap ws ∧ Q v U'.heap) ∧ Fr n0 L) ∧ FrameEnd U o U' L rm.cells rm.slots)
/-- its end -/
def PF (s : State) (below : List Frame) (n0 : Nat) (h0 : Heap) (ws : List Addr) (Q : Option Value → Heap → Prop) (k n : Nat) (t : State) : Prop := ∃ o, t.status = .running ∧ Ended t below o ∧ ∃ v L, o = .returned v ∧ ((Keep h0 t.heap ws ∧ Q v t.heap) ∧ Fr n0 L) ∧ FrameEnd s o t L k n
theorem clF (Z : State) : Cl Z (fun _ => True) (fun _ _ => True) := ⟨fun _ _ _ _ _ _ => ⟨trivial, fun _ _ => trivial⟩, fun _ _ _ => trivial, fun _ _ _ _ _ _ => trivial, fun _ _ _ _ _ _ => trivial⟩
theorem MetF.mono {l : Launch} {tw : List Jvm.Cond} {Z : State} {n0 : Nat} {y : MethodName} {bytes : ByteArray} {maxL : Nat} {ret : Option FieldType} {rm : Room} {as' : Array Value} {h : Heap} {ws : List Addr} {Q Q' : Option Value → Heap → Prop} (hM : MetF l tw Z n0 y bytes maxL ret rm as' h ws Q) (hq : ∀ r h', Q r h' → Q' r h') : MetF l tw Z n0 y bytes maxL ret rm as' h ws Q' := by
  intro p e ha hc hk s m args below hf happ hP hK
  obtain ⟨n, o, r1, r2, r3, v, L, e1, ⟨⟨K, q⟩, N⟩, r4⟩ := hM p e ha hc hk s m args below hf happ hP hK
  exact ⟨n, o, r1, r2, r3, v, L, e1, ⟨⟨K, hq _ _ q⟩, N⟩, r4⟩
theorem metF {y : MethodName} {bytes : ByteArray} {maxL : Nat} {ret : Option FieldType} {rm : Room} {as' : Array Value} {ws : List Addr} {Q : Option Value → Heap → Prop} {tw : List Jvm.Cond} (hpl : plainFor y = true) (Z0 : Old Z n0 h) {Ls : Array Slot} (hef : ∀ m, entryFrame m as' maxL = mkF m 0 Ls [])
    (body : ∀ p e s m below meth c T, WP p l e rm s m as' below meth c Z y.cls y.name bytes maxL ret n0 (fun _ => True) (fun _ _ => True) T h [] 0 0 → Run p.tables e below (PF s below n0 h ws Q rm.cells rm.slots) T (mkF m 0 Ls [])) : MetF l tw Z n0 y bytes maxL ret rm as' h ws Q := by
  refine MetFree.of_bodySF hpl hisR ?_
  intro p e s m args below meth c s₁ Bd hml0 hP hK
  obtain ⟨rfl, hZ, hh⟩ := hP
  have e0 : s₁.heap = h := by rw [← hh, Bd.state]; rfl
  obtain ⟨t, hs, o, hr, he, hq⟩ := body p e s m below meth c s₁ ⟨Stand.of_body Bd, e0, hZ, findClass_of_methodNamed Bd.named, Fr.nil n0, Z0, trivial, ⟨Bd.exec, Bd.bytes, hml0, Bd.returns, BodyLoose.notSynchronized Bd, (name_of_methodNamed Bd.named Bd.method).1⟩, clF Z⟩
  rw [← hef] at hs
  exact ⟨t, o, hs, hr, he, hq⟩

theorem k_retFI (X : WP p l e R s m args below meth c Z own mname bytes maxL ret n0 Inv Sf T h locs cells slots) {z : Int32} {ws : List Addr} {Q : Option Value → Heap → Prop} {k n : Nat} {h0 : Heap} (hd : decode bytes pc = .ok (.ireturn, 1)) (hr : ret = some .int) (K : Keep h0 h ws) (hQ : Q (some (.int z)) h) (hk : cells ≤ k) (hs : slots ≤ n) : Run p.tables e below (PF s below n0 h0 ws Q k n) T (mkF m pc Ls (.int z :: st)) := by
  have hlk := X.hlk
  obtain ⟨fs, hl, hrun, hended, hW, hsame⟩ := X.1.leave (v := some (.int z)) (fun q => by rw [X.hret, hr] at q; cases q)
  refine ⟨_, Jvm.RoadKit.retI X.1 X.hx (X.hret.trans hr) (hb X.hby hd) hl, _, hrun, hended, _, _, rfl, ⟨⟨?_, ?_⟩, X.fr⟩, ⟨_, rfl⟩, hW, hsame.mono hk hs⟩
  · show Keep h0 T.heap ws; rw [X.eT]; exact K
  · show Q _ T.heap; rw [X.eT]; exact hQ
theorem k_retFN (X : WP p l e R s m args below meth c Z own mname bytes maxL ret n0 Inv Sf T h locs cells slots) {z w : Int32} {ws : List Addr} {Q : Option Value → Heap → Prop} {k n : Nat} {h0 : Heap} (hd : decode bytes pc = .ok (.ireturn, 1)) {t : FieldType} (hr : ret = some t) (ht : t = .boolean ∨ t = .byte ∨ t = .char ∨ t = .short) (hnz : nar t z = w) (K : Keep h0 h ws) (hQ : Q (some (.int w)) h) (hk : cells ≤ k) (hs : slots ≤ n) : Run p.tables e below (PF s below n0 h0 ws Q k n) T (mkF m pc Ls (.int z :: st)) := by
  have hlk := X.hlk
  obtain ⟨fs, hl, hrun, hended, hW, hsame⟩ := X.1.leave (v := some (.int w)) (fun q => by rw [X.hret, hr] at q; cases q)
  refine ⟨_, Jvm.RoadKit.retN X.1 X.hx (X.hret.trans hr) ht (hb X.hby hd) (by rw [hnz]; exact hl), _, hrun, hended, _, _, rfl, ⟨⟨?_, ?_⟩, X.fr⟩, ⟨_, rfl⟩, hW, hsame.mono hk hs⟩
  · show Keep h0 T.heap ws; rw [X.eT]; exact K
  · show Q _ T.heap; rw [X.eT]; exact hQ
theorem k_retFJ (X : WP p l e R s m args below meth c Z own mname bytes maxL ret n0 Inv Sf T h locs cells slots) {z : Int64} {ws : List Addr} {Q : Option Value → Heap → Prop} {k n : Nat} {h0 : Heap} (hd : decode bytes pc = .ok (.lreturn, 1)) (hr : ret = some .long) (K : Keep h0 h ws) (hQ : Q (some (.long z)) h) (hk : cells ≤ k) (hs : slots ≤ n) : Run p.tables e below (PF s below n0 h0 ws Q k n) T (mkF m pc Ls (.long z :: st)) := by
  have hlk := X.hlk
  obtain ⟨fs, hl, hrun, hended, hW, hsame⟩ := X.1.leave (v := some (.long z)) (fun q => by rw [X.hret, hr] at q; cases q)
  refine ⟨_, Jvm.RoadKit.retOut X.1 X.hx (X.hret.trans hr) rfl (Or.inr (Or.inl ⟨rfl, rfl, _, rfl⟩)) (hb X.hby hd) hl, _, hrun, hended, _, _, rfl, ⟨⟨?_, ?_⟩, X.fr⟩, ⟨_, rfl⟩, hW, hsame.mono hk hs⟩
  · show Keep h0 T.heap ws; rw [X.eT]; exact K
  · show Q _ T.heap; rw [X.eT]; exact hQ
theorem k_retFA (X : WP p l e R s m args below meth c Z own mname bytes maxL ret n0 Inv Sf T h locs cells slots) {v : Value} {ws : List Addr} {Q : Option Value → Heap → Prop} {k n : Nat} {h0 : Heap} (hd : decode bytes pc = .ok (.areturn, 1)) {t : FieldType} (hr : ret = some t) (hn : narrow t v = v) (ht : t.isReference = true) (hv : v.isRef = true) (K : Keep h0 h ws) (hQ : Q (some (v)) h) (hk : cells ≤ k) (hs : slots ≤ n) : Run p.tables e below (PF s below n0 h0 ws Q k n) T (mkF m pc Ls (v :: st)) := by
  have hlk := X.hlk
  obtain ⟨fs, hl, hrun, hended, hW, hsame⟩ := X.1.leave (v := some (v)) (fun q => by rw [X.hret, hr] at q; cases q)
  refine ⟨_, Jvm.RoadKit.retOut X.1 X.hx (X.hret.trans hr) hn (Or.inr (Or.inr (Or.inr (Or.inr ⟨rfl, ht, hv⟩)))) (hb X.hby hd) hl, _, hrun, hended, _, _, rfl, ⟨⟨?_, ?_⟩, X.fr⟩, ⟨_, rfl⟩, hW, hsame.mono hk hs⟩
  · show Keep h0 T.heap ws; rw [X.eT]; exact K
  · show Q _ T.heap; rw [X.eT]; exact hQ
theorem k_retFV (X : WP p l e R s m args below meth c Z own mname bytes maxL ret n0 Inv Sf T h locs cells slots) {ws : List Addr} {Q : Option Value → Heap → Prop} {k n : Nat} {h0 : Heap} (hd : decode bytes pc = .ok (.return_, 1)) (hr : ret = none) (K : Keep h0 h ws) (hQ : Q none h) (hk : cells ≤ k) (hs : slots ≤ n) : Run p.tables e below (PF s below n0 h0 ws Q k n) T (mkF m pc Ls []) := by
  have hlk := X.hlk
  obtain ⟨fs, hl, hrun, hended, hW, hsame⟩ := X.1.leave (v := none) (fun _ => rfl)
  refine ⟨_, X.1.returnOut X.hx (X.hret.trans hr) (hb X.hby hd) hl, _, hrun, hended, _, _, rfl, ⟨⟨?_, ?_⟩, X.fr⟩, ⟨_, rfl⟩, hW, hsame.mono hk hs⟩
  · show Keep h0 T.heap ws; rw [X.eT]; exact K
  · show Q _ T.heap; rw [X.eT]; exact hQ
/-- what an interning walk keeps up: the literals of EL say their text -/
def InvH (Z : State) (a0 : Array Value) (EL : List (String × Nat)) (s0 : State) (v : Vm) (h : Heap) : Prop := EW Z a0 EL ∧ Z.Warmed39 v ∧ (∃ k0, s0.Since v k0 ∧ k0 ≤ h.size) ∧ CHr Z EL s0.vm s0.heap v h
theorem clH {EL : List (String × Nat)} {s0 : State} {v : Vm} (hal : Z.vm.Alike v) : Cl Z (InvH Z a0 EL s0 v) (Safe Z EL v) :=
  ⟨fun h h' ws K hs I => ⟨⟨I.1, I.2.1, by obtain ⟨k0, a, b⟩ := I.2.2.1; exact ⟨k0, a, Nat.le_trans b K.1⟩, I.2.2.2.trans (CHr.keep K hs I.2.2.2.1)⟩, fun x q => Safe.keep K hs I.2.2.2.1 q⟩, fun h x q => Safe.new q, fun h x C E h1 h2 => Safe.exa hal E h1 h2, fun h x c ty A ht => Safe.arr hal A ht⟩
/-- the contract of a body that may load literals -/
def MetH (l : Launch) (tw : List Jvm.Cond) (Z : State) (EL : List (String × Nat)) (n0 : Nat) (y : MethodName) (bytes : ByteArray) (maxL : Nat) (ret : Option FieldType) (rm : Room) (as' : Array Value) (h : Heap) (ws : List Addr) (Q : Option Value → Vm → Heap → Prop) : Prop :=
  MetFree l y (head1 (Jvm.Cond.code y bytes maxL ret :: tw) rm) (fun a U => a = as' ∧ Z.Warmed39 U.vm ∧ U.heap = h ∧ CHv Z EL U.vm h ∧ ∀ x ∈ ws, Safe Z EL U.vm h x) (fun _ _ _ _ _ => True)
    (fun _ U o U' => ∃ v L, o = .returned v ∧ ((Keep h U'.heap ws ∧ Q v U'.vm U'.heap) ∧ Fr n0 L) ∧ CHr Z EL U.vm U.heap U'.vm U'.heap ∧ ReturnedEndW U o U' L rm.cells rm.slots)
def PH (Z : State) (EL : List (String × Nat)) (s : State) (below : List Frame) (n0 : Nat) (h0 : Heap) (ws : List Addr) (Q : Option Value → Vm → Heap → Prop) (k n : Nat) (t : State) : Prop := ∃ o, t.status = .running ∧ Ended t below o ∧ ∃ v L, o = .returned v ∧ ((Keep h0 t.heap ws ∧ Q v t.vm t.heap) ∧ Fr n0 L) ∧ CHr Z EL s.vm s.heap t.vm t.heap ∧ ReturnedEndW s o t L k n
theorem metH {EL : List (String × Nat)} {y : MethodName} {bytes : ByteArray} {maxL : Nat} {ret : Option FieldType} {rm : Room} {as' : Array Value} {ws : List Addr} {Q : Option Value → Vm → Heap → Prop} {tw : List Jvm.Cond} (hEL : EW Z a0 EL) (hpl : plainFor y = true) (Z0 : Old Z n0 h) {Ls : Array Slot} (hef : ∀ m, entryFrame m as' maxL = mkF m 0 Ls [])
    (body : ∀ p e s m below meth c T v, WP p l e rm (s.setVm v) m as' below meth c Z y.cls y.name bytes maxL ret n0 (InvH Z a0 EL s v) (Safe Z EL v) T h [] 0 0 → (∀ x ∈ ws, Safe Z EL v h x) → Run p.tables e below (PH Z EL s below n0 h ws Q rm.cells rm.slots) T (mkF m 0 Ls [])) : MetH l tw Z EL n0 y bytes maxL ret rm as' h ws Q := by
  refine MetFree.of_bodySF hpl hisR ?_
  intro p e s m args below meth c s₁ Bd hml0 hP hK
  obtain ⟨rfl, hZ, hh, hC, hS⟩ := hP
  have e0 : s₁.heap = h := by rw [← hh, Bd.state]; rfl
  have I : InvH Z a0 EL s s.vm h := ⟨hEL, hZ, ⟨s.heap.size, (State.WarmedH.refl s).since _, by rw [hh]; exact Nat.le_refl _⟩, by rw [hh]; exact CHr.refl hC⟩
  obtain ⟨t, hs, o, hr, he, hq⟩ := body p e s m below meth c s₁ s.vm ⟨Stand.of_body Bd, e0, hZ, findClass_of_methodNamed Bd.named, Fr.nil n0, Z0, I, ⟨Bd.exec, Bd.bytes, hml0, Bd.returns, BodyLoose.notSynchronized Bd, (name_of_methodNamed Bd.named Bd.method).1⟩, clH hZ.alike⟩ hS
  rw [← hef] at hs
  exact ⟨t, o, hs, hr, he, hq⟩

theorem k_retHI {EL : List (String × Nat)} {v : Vm} (X : WP p l e R (s.setVm v) m args below meth c Z own mname bytes maxL ret n0 (InvH Z a0 EL s v) (Safe Z EL v) T h locs cells slots) {z : Int32} {ws : List Addr} {Q : Option Value → Vm → Heap → Prop} {k n : Nat} {h0 : Heap} (hd : decode bytes pc = .ok (.ireturn, 1)) (hr : ret = some .int) (K : Keep h0 h ws) (hQ : ∀ v', CHr Z EL v h v' h → Q (some (.int z)) v' h) (hk : cells ≤ k) (hs : slots ≤ n) : Run p.tables e below (PH Z EL s below n0 h0 ws Q k n) T (mkF m pc Ls (.int z :: st)) := by
  have hlk := X.hlk
  obtain ⟨hEL, hWv, ⟨k0, hS, hk0⟩, hC⟩ := X.inv
  obtain ⟨fs, hl, hrun, hended, hRW⟩ := X.1.leaveW hS (by rw [X.eT]; exact hk0) (v := some (.int z)) (fun q => by rw [X.hret, hr] at q; cases q)
  have hC' : CHr Z EL v h T.vm h := CHv.at X.1 hWv hEL hC.1
  refine ⟨_, Jvm.RoadKit.retI X.1 X.hx (X.hret.trans hr) (hb X.hby hd) hl, _, hrun, hended, _, _, rfl, ⟨⟨?_, ?_⟩, X.fr⟩, ?_, hRW.1, hRW.2.1, hRW.2.2.1, hRW.2.2.2.mono hk hs⟩
  · show Keep h0 T.heap ws; rw [X.eT]; exact K
  · show Q _ T.vm T.heap; rw [X.eT]; exact hQ _ hC'
  · show CHr Z EL s.vm s.heap T.vm T.heap; rw [X.eT]; exact hC.trans hC'
theorem k_retHN {EL : List (String × Nat)} {v : Vm} (X : WP p l e R (s.setVm v) m args below meth c Z own mname bytes maxL ret n0 (InvH Z a0 EL s v) (Safe Z EL v) T h locs cells slots) {z w : Int32} {ws : List Addr} {Q : Option Value → Vm → Heap → Prop} {k n : Nat} {h0 : Heap} (hd : decode bytes pc = .ok (.ireturn, 1)) {t : FieldType} (hr : ret = some t) (ht : t = .boolean ∨ t = .byte ∨ t = .char ∨ t = .short) (hnz : nar t z = w) (K : Keep h0 h ws) (hQ : ∀ v', CHr Z EL v h v' h → Q (some (.int w)) v' h) (hk : cells ≤ k) (hs : slots ≤ n) : Run p.tables e below (PH Z EL s below n0 h0 ws Q k n) T (mkF m pc Ls (.int z :: st)) := by
  have hlk := X.hlk
  obtain ⟨hEL, hWv, ⟨k0, hS, hk0⟩, hC⟩ := X.inv
  obtain ⟨fs, hl, hrun, hended, hRW⟩ := X.1.leaveW hS (by rw [X.eT]; exact hk0) (v := some (.int w)) (fun q => by rw [X.hret, hr] at q; cases q)
  have hC' : CHr Z EL v h T.vm h := CHv.at X.1 hWv hEL hC.1
  refine ⟨_, Jvm.RoadKit.retN X.1 X.hx (X.hret.trans hr) ht (hb X.hby hd) (by rw [hnz]; exact hl), _, hrun, hended, _, _, rfl, ⟨⟨?_, ?_⟩, X.fr⟩, ?_, hRW.1, hRW.2.1, hRW.2.2.1, hRW.2.2.2.mono hk hs⟩
  · show Keep h0 T.heap ws; rw [X.eT]; exact K
  · show Q _ T.vm T.heap; rw [X.eT]; exact hQ _ hC'
  · show CHr Z EL s.vm s.heap T.vm T.heap; rw [X.eT]; exact hC.trans hC'
theorem k_retHA {EL : List (String × Nat)} {v : Vm} (X : WP p l e R (s.setVm v) m args below meth c Z own mname bytes maxL ret n0 (InvH Z a0 EL s v) (Safe Z EL v) T h locs cells slots) {x : Value} {ws : List Addr} {Q : Option Value → Vm → Heap → Prop} {k n : Nat} {h0 : Heap} (hd : decode bytes pc = .ok (.areturn, 1)) {t : FieldType} (hr : ret = some t) (hn : narrow t x = x) (ht : t.isReference = true) (hv : x.isRef = true) (K : Keep h0 h ws) (hQ : ∀ v', CHr Z EL v h v' h → Q (some (x)) v' h) (hk : cells ≤ k) (hs : slots ≤ n) : Run p.tables e below (PH Z EL s below n0 h0 ws Q k n) T (mkF m pc Ls (x :: st)) := by
  have hlk := X.hlk
  obtain ⟨hEL, hWv, ⟨k0, hS, hk0⟩, hC⟩ := X.inv
  obtain ⟨fs, hl, hrun, hended, hRW⟩ := X.1.leaveW hS (by rw [X.eT]; exact hk0) (v := some (x)) (fun q => by rw [X.hret, hr] at q; cases q)
  have hC' : CHr Z EL v h T.vm h := CHv.at X.1 hWv hEL hC.1
  refine ⟨_, Jvm.RoadKit.retOut X.1 X.hx (X.hret.trans hr) hn (Or.inr (Or.inr (Or.inr (Or.inr ⟨rfl, ht, hv⟩)))) (hb X.hby hd) hl, _, hrun, hended, _, _, rfl, ⟨⟨?_, ?_⟩, X.fr⟩, ?_, hRW.1, hRW.2.1, hRW.2.2.1, hRW.2.2.2.mono hk hs⟩
  · show Keep h0 T.heap ws; rw [X.eT]; exact K
  · show Q _ T.vm T.heap; rw [X.eT]; exact hQ _ hC'
  · show CHr Z EL s.vm s.heap T.vm T.heap; rw [X.eT]; exact hC.trans hC'
theorem k_retHV {EL : List (String × Nat)} {v : Vm} (X : WP p l e R (s.setVm v) m args below meth c Z own mname bytes maxL ret n0 (InvH Z a0 EL s v) (Safe Z EL v) T h locs cells slots) {ws : List Addr} {Q : Option Value → Vm → Heap → Prop} {k n : Nat} {h0 : Heap} (hd : decode bytes pc = .ok (.return_, 1)) (hr : ret = none) (K : Keep h0 h ws) (hQ : ∀ v', CHr Z EL v h v' h → Q none v' h) (hk : cells ≤ k) (hs : slots ≤ n) : Run p.tables e below (PH Z EL s below n0 h0 ws Q k n) T (mkF m pc Ls []) := by
  have hlk := X.hlk
  obtain ⟨hEL, hWv, ⟨k0, hS, hk0⟩, hC⟩ := X.inv
  obtain ⟨fs, hl, hrun, hended, hRW⟩ := X.1.leaveW hS (by rw [X.eT]; exact hk0) (v := none) (fun _ => rfl)
  have hC' : CHr Z EL v h T.vm h := CHv.at X.1 hWv hEL hC.1
  refine ⟨_, X.1.returnOut X.hx (X.hret.trans hr) (hb X.hby hd) hl, _, hrun, hended, _, _, rfl, ⟨⟨?_, ?_⟩, X.fr⟩, ?_, hRW.1, hRW.2.1, hRW.2.2.1, hRW.2.2.2.mono hk hs⟩
  · show Keep h0 T.heap ws; rw [X.eT]; exact K
  · show Q _ T.vm T.heap; rw [X.eT]; exact hQ _ hC'
  · show CHr Z EL s.vm s.heap T.vm T.heap; rw [X.eT]; exact hC.trans hC'
theorem WP.reH {EL : List (String × Nat)} {v : Vm} (X : WP p l e R (s.setVm v) m args below meth c Z own mname bytes maxL ret n0 (InvH Z a0 EL s v) (Safe Z EL v) T h locs cells slots) {v' : Vm} {T' : State} {h' : Heap} {locs' : List Loc} {cells' slots' : Nat} (X' : Stand p l e R (s.setVm v') m args below meth c T' locs' cells' slots') (e' : T'.heap = h') {ws : List Addr} (K : Keep h h' ws) {k1 : Nat} (hS : s.Since v' k1) (hk : k1 ≤ h'.size) (hW : Z.Warmed39 v') (ho : v'.findClass own = some m.cls) (hC : CHr Z EL v h v' h') (hge : ∀ x ∈ ws, n0 ≤ x) (N : Fr n0 locs') : WP p l e R (s.setVm v') m args below meth c Z own mname bytes maxL ret n0 (InvH Z a0 EL s v') (Safe Z EL v') T' h' locs' cells' slots' :=
  ⟨X', e', hW, ho, N, X.old.keep K hge, ⟨X.inv.1, hW, ⟨k1, hS, hk⟩, X.inv.2.2.2.trans hC⟩, X.2.2.2.2.2.2.2.1, clH hW.alike⟩
theorem k_ldcO {EL : List (String × Nat)} {v : Vm} (X : WP p l e R (s.setVm v) m args below meth c Z own mname bytes maxL ret n0 (InvH Z a0 EL s v) (Safe Z EL v) T h locs cells slots) {text : String} {index n : Nat} (hd : decode bytes pc = .ok (.ldc index, 2)) (w : (Cond.stringLink own index text).before a0 Z = true) (wS : ∀ a ∈ Bundle.stringAtoms, a.before a0 Z = true) (hn : 4 * text.toList.length ≤ n) (hbig : n ≤ 536870912) (hc : cells + 2 ≤ R.cells) (hl : slots + (n + 4) ≤ R.slots) (hp : pc + 2 = pc')
    (q : ∀ a v' T' h', WP p l e R (s.setVm v') m args below meth c Z own mname bytes maxL ret n0 (InvH Z a0 EL s v') (Safe Z EL v') T' h' locs (cells + 2) (slots + (n + 4)) → Keep h h' [] → CHr Z EL v h v' h' → Run p.tables e below P T' (mkF m pc' Ls (.ref a :: st))) : Run p.tables e below P T (mkF m pc Ls st) := by
  subst hp
  obtain ⟨hEL, hWv, ⟨k0, hS, hk0⟩, hC⟩ := X.inv
  obtain ⟨a, T', h', k1, X', e', E, hS', hk1, hZ', ho', hC', -, k⟩ := ldcOH X.1 X.hx hWv X.hown w wS X.eT hS hk0 hEL hC.1 (g := mkF m pc Ls st) rfl (hb X.hby hd) hn hbig hc hl
  have K := ext_keep E
  exact Run.of k (q a T'.vm T' h' (X.reH X' e' K hS' hk1 hZ' ho' hC' (fun _ q => nomatch q) X.fr) K hC')
theorem k_ldcR {EL : List (String × Nat)} {v : Vm} (X : WP p l e R (s.setVm v) m args below meth c Z own mname bytes maxL ret n0 (InvH Z a0 EL s v) (Safe Z EL v) T h locs cells slots) {text : String} {index n : Nat} (hd : decode bytes pc = .ok (.ldc index, 2)) (w : (Cond.stringLink own index text).before a0 Z = true) (wS : ∀ a ∈ Bundle.stringAtoms, a.before a0 Z = true) (hmem : (own, index) ∈ EL) {vs : List Value} {z : Int32} (ht : (∀ c ∈ text.toList, c.toNat < 256) ∧ text.toList.map (fun c => Value.int (Jvm.Lit.byteI c.toNat.toUInt16)) = vs) (hz : ¬ z < 0) (hlv : z.toNatClampNeg = vs.length)
    (hn : 4 * text.toList.length ≤ n) (hbig : n ≤ 536870912) (hc : cells + 2 ≤ R.cells) (hl : slots + (n + 4) ≤ R.slots) (hp : pc + 2 = pc')
    (q : ∀ a b kb v' T' h', WP p l e R (s.setVm v') m args below meth c Z own mname bytes maxL ret n0 (InvH Z a0 EL s v') (Safe Z EL v') T' h' locs (cells + 2) (slots + (n + 4)) → Keep h h' [] → CHr Z EL v h v' h' → Exa Z h' a "java/lang/String" → Fld Z h' a "java/lang/String" "coder" "B" (.int 0) → Fld Z h' a "java/lang/String" "value" "[B" (.ref b) → Arv Z h' b kb .byte z vs (.int 0) → (∀ x, Safe Z EL v' h' x → x ≠ a ∧ x ≠ b) → Run p.tables e below P T' (mkF m pc' Ls (.ref a :: st))) : Run p.tables e below P T (mkF m pc Ls st) := by
  subst hp
  obtain ⟨hEL, hWv, ⟨k0, hS, hk0⟩, hC⟩ := X.inv
  obtain ⟨a, T', h', k1, b, kb, X', e', E, hS', hk1, hZ', ho', A, F1, F2, V, -, -, hC', -, hne, k⟩ := ldcCH X.1 X.hx hWv X.hown w wS X.eT hS hk0 hEL hmem hC.1 ht hz hlv (g := mkF m pc Ls st) rfl (hb X.hby hd) hn hbig hc hl
  have K := ext_keep E
  exact Run.of k (q a b kb T'.vm T' h' (X.reH X' e' K hS' hk1 hZ' ho' hC' (fun _ q => nomatch q) X.fr) K hC' A F1 F2 V hne)
theorem backH {EL : List (String × Nat)} {v : Vm} {y : MethodName} {bytes : ByteArray} {maxL : Nat} {ret : Option FieldType} {rm : Room} {len W : Nat} {as' : Array Value} {ws : List Addr} {Q : Option Value → Vm → Heap → Prop}
    (hM : MetH l [] Z EL n0 y bytes maxL ret rm as' h ws Q) (hZ : Z.Warmed39 v) (wc : (Cond.code y bytes maxL ret).before a0 Z = true) (wz : (Cond.initialized y.cls).before a0 Z = true) (hf : rm.frames + 1 ≤ R.frames) (hl : W + (maxL + 11) + rm.locals ≤ R.locals) (hEL : EW Z a0 EL) (H : CHv Z EL v h) (hs : ∀ x ∈ ws, x < h.size ∧ Safe Z EL v h x) :
    BackS l R p e below (s.setVm v) args y len W (fun A a => a = as' ∧ A.U.heap = h ∧ A.cells + rm.cells ≤ R.cells ∧ A.slots + rm.slots ≤ R.slots)
      (fun A _ r B => ∃ L, ((Keep h B.U.heap ws ∧ Q r B.U.vm B.U.heap) ∧ Fr n0 L) ∧ B.locs = A.locs ++ L ∧ B.cells = A.cells + rm.cells ∧ B.slots = A.slots + rm.slots ∧ CHr Z EL v h B.U.vm B.U.heap) :=
  BackS.of_freeW (bytes := bytes) (maxL := maxL) (ret := ret) (E := fun _ first o t L k n => k = rm.cells ∧ n = rm.slots ∧ (∃ r, o = .returned r ∧ ((Keep h t.heap ws ∧ Q r t.vm t.heap) ∧ Fr n0 L)) ∧ CHr Z EL first.vm first.heap t.vm t.heap) hM hf hl
    (fun m meth c A a Y hp => have hU : Z.Warmed39 A.U.vm := wtrans (s := s.setVm v) hZ Y.warmed
      ⟨by show (Cond.and _ .tt).before a A.U = true; rw [Cond.before_and, Jvm.RoadKit.mv hU wc]; rfl, Jvm.RoadKit.mv hU wc, Jvm.RoadKit.mv hU wz, hp.2.2.1, hp.2.2.2⟩)
    (fun m meth c A a g mk Y hp => ⟨hp.1, wtrans (s := s.setVm v) hZ Y.warmed, hp.2.1, (CHv.at Y hZ hEL H).1, fun x hx => (CHv.at Y hZ hEL H).safe (hs x hx).1 (hs x hx).2⟩) (fun _ _ _ _ _ _ _ _ _ => trivial)
    (fun _ _ _ _ ⟨r, L, h1, h2, h3, h4⟩ => ⟨L, _, _, h4, rfl, rfl, ⟨r, h1, h2⟩, h3⟩)
    (fun m meth c A a g mk r t L k n Y hp _ _ ⟨e1, e2, ⟨r', e3, e4⟩, e5⟩ => by
      cases e3; subst e1 e2
      refine ⟨L, e4, rfl, rfl, rfl, (CHv.at Y hZ hEL H).trans ?_⟩
      rw [← hp.2.1]; exact e5)
theorem selP {s : State} {args : Array Value} {C : String} {y : MethodName} (hsel : (Cond.selects C y y).before args s = true) (hp : (Cond.privateMethod y).before args s = true) (hi : (Cond.instanceMethod y).before args s = true) (hy : y.cls ≠ "java/lang/invoke/MethodHandle" ∧ y.cls ≠ "java/lang/invoke/VarHandle") : (Cond.selects y.cls y y).before args s = true := by
  obtain ⟨_, _, mk, -, -, q3, -, kP, h1, h2⟩ := Cond.selects_spec hsel
  exact selects_self_of_private (findClass_of_methodNamed q3) h1 h2 (Cond.privateMethod_at hp) hi hy
theorem sameP {s : State} {args : Array Value} {y y1 y2 : MethodName} {C : String} (hi : (Cond.instanceMethod y).before args s = true) (hsel : (Cond.selects C y1 y2).before args s = true) (h12 : y2.cls = y.cls) (hy : y.cls ≠ "java/lang/invoke/MethodHandle" ∧ y.cls ≠ "java/lang/invoke/VarHandle") : (Cond.sameMethod y.cls y.cls y.name y.desc).before args s = true := by
  obtain ⟨mk, methM, hnamed, hmethM, -, -⟩ := Cond.instanceMethod_spec hi
  have hf := State.methodFound?_of_named hnamed hy
  have hc := findClass_of_methodNamed hnamed
  obtain ⟨_, _, m2, -, -, q3, -, kP, h1, h2⟩ := Cond.selects_spec hsel
  have hm : m2.cls = mk.cls := Option.some.inj ((findClass_of_methodNamed q3).symm.trans (h12 ▸ hc))
  rw [hm] at h1
  simp [Cond.before, Cond.holds, Cond.value, hf, hc, hnamed, h1, h2]
theorem k_callSVF (X : WP p l e R s m args below meth c Z own mname bytes maxL ret n0 Inv Sf T h locs cells slots) {y : MethodName} {index W : Nat} {bytes' : ByteArray} {maxL' : Nat} {ret' : Option FieldType} {rm : Room} {ws : List Addr} {Q : Value → Heap → Prop}  {argsL rest stk : List Value} {ps : List FieldType} {rt : Option FieldType} (hd : decode bytes pc = .ok (.invokestatic index, 3)) (w1 : (Cond.methodLink own index y).before a0 Z = true) (w2 : (Cond.static y).before a0 Z = true) (wz : (Cond.initialized y.cls).before a0 Z = true) (wc : (Cond.code y bytes' maxL' ret').before a0 Z = true) (hy : y.cls ≠ "java/lang/invoke/MethodHandle" ∧ y.cls ≠ "java/lang/invoke/VarHandle")  (hM : MetF l [] Z n0 y bytes' maxL' ret' rm argsL.toArray h ws (fun r h' => ∃ w, r = some w ∧ Q w h')) (hstk : stk = argsL.reverse ++ rest) (hpd : parseMethodDescriptor y.desc = some ⟨ps, rt⟩) (hlen : argsL.length = ps.length) (hsz : Ls.size = maxL) (hfr : rm.frames + 1 ≤ R.frames) (hW : (rest.map fun v => v.category).sum ≤ W) (hlo : W + (maxL' + 11) + rm.locals ≤ R.locals) (hc : cells + rm.cells ≤ R.cells) (hs : slots + rm.slots ≤ R.slots) (hsf : ∀ x ∈ ws, Sf h x ∧ n0 ≤ x) (hp : pc + 3 = pc')
    (q : ∀ w T' h' L', WP p l e R s m args below meth c Z own mname bytes maxL ret n0 Inv Sf T' h' L' (cells + rm.cells) (slots + rm.slots) → Keep h h' ws → Q w h' → Run p.tables e below P T' (mkF m pc' Ls (w :: rest))) : Run p.tables e below P T (mkF m pc Ls stk) := by
  subst hp
  have bk := backOf (R := R) (p := p) (e := e) (below := below) (args := args) (len := 3) (W := W) (Q := fun r h' L => (Keep h h' ws ∧ (fun r h' => ∃ w, r = some w ∧ Q w h') r h') ∧ Fr n0 L) hM X.hZ wc wz hfr hlo
  obtain ⟨r, _, ⟨T', L', k', n'⟩, -, X', ⟨Lc, hQ, l1, l2, l3⟩, kk⟩ := Jvm.LawKit.callS X.1 X.hx (y := y) X.hown (mvT X.hZ w1) (mvT X.hZ w2) (mvT X.hZ wz) (mvT X.hZ wc) hy bk (g := mkF m pc Ls stk) rfl (by rw [X.hml]; exact hsz) (argsL := argsL) (rest := rest) (lenOf hpd hlen) hstk (by show 2 * 0 + _ ≤ _; omega) (hb X.hby hd) (fun _ _ => ⟨rfl, X.eT, hc, hs⟩)
  dsimp only [Pt.U, Pt.locs, Pt.cells, Pt.slots] at X' l1 l2 l3 kk hQ
  subst l1 l2 l3
  obtain ⟨⟨K, w, rfl, hQ⟩, N⟩ := hQ
  exact Run.of kk (q _ _ _ _ (X.mv X' rfl K hsf (X.fr.app N)) K hQ)
theorem k_callSNF (X : WP p l e R s m args below meth c Z own mname bytes maxL ret n0 Inv Sf T h locs cells slots) {y : MethodName} {index W : Nat} {bytes' : ByteArray} {maxL' : Nat} {ret' : Option FieldType} {rm : Room} {ws : List Addr} {Q : Heap → Prop}  {argsL rest stk : List Value} {ps : List FieldType} {rt : Option FieldType} (hd : decode bytes pc = .ok (.invokestatic index, 3)) (w1 : (Cond.methodLink own index y).before a0 Z = true) (w2 : (Cond.static y).before a0 Z = true) (wz : (Cond.initialized y.cls).before a0 Z = true) (wc : (Cond.code y bytes' maxL' ret').before a0 Z = true) (hy : y.cls ≠ "java/lang/invoke/MethodHandle" ∧ y.cls ≠ "java/lang/invoke/VarHandle")  (hM : MetF l [] Z n0 y bytes' maxL' ret' rm argsL.toArray h ws (fun r h' => r = none ∧ Q h')) (hstk : stk = argsL.reverse ++ rest) (hpd : parseMethodDescriptor y.desc = some ⟨ps, rt⟩) (hlen : argsL.length = ps.length) (hsz : Ls.size = maxL) (hfr : rm.frames + 1 ≤ R.frames) (hW : (rest.map fun v => v.category).sum ≤ W) (hlo : W + (maxL' + 11) + rm.locals ≤ R.locals) (hc : cells + rm.cells ≤ R.cells) (hs : slots + rm.slots ≤ R.slots) (hsf : ∀ x ∈ ws, Sf h x ∧ n0 ≤ x) (hp : pc + 3 = pc')
    (q : ∀ T' h' L', WP p l e R s m args below meth c Z own mname bytes maxL ret n0 Inv Sf T' h' L' (cells + rm.cells) (slots + rm.slots) → Keep h h' ws → Q h' → Run p.tables e below P T' (mkF m pc' Ls (rest))) : Run p.tables e below P T (mkF m pc Ls stk) := by
  subst hp
  have bk := backOf (R := R) (p := p) (e := e) (below := below) (args := args) (len := 3) (W := W) (Q := fun r h' L => (Keep h h' ws ∧ (fun r h' => r = none ∧ Q h') r h') ∧ Fr n0 L) hM X.hZ wc wz hfr hlo
  obtain ⟨r, _, ⟨T', L', k', n'⟩, -, X', ⟨Lc, hQ, l1, l2, l3⟩, kk⟩ := Jvm.LawKit.callS X.1 X.hx (y := y) X.hown (mvT X.hZ w1) (mvT X.hZ w2) (mvT X.hZ wz) (mvT X.hZ wc) hy bk (g := mkF m pc Ls stk) rfl (by rw [X.hml]; exact hsz) (argsL := argsL) (rest := rest) (lenOf hpd hlen) hstk (by show 2 * 0 + _ ≤ _; omega) (hb X.hby hd) (fun _ _ => ⟨rfl, X.eT, hc, hs⟩)
  dsimp only [Pt.U, Pt.locs, Pt.cells, Pt.slots] at X' l1 l2 l3 kk hQ
  subst l1 l2 l3
  obtain ⟨⟨K, rfl, hQ⟩, N⟩ := hQ
  exact Run.of kk (q _ _ _ (X.mv X' rfl K hsf (X.fr.app N)) K hQ)
theorem k_callSVH {EL : List (String × Nat)} {v : Vm} (X : WP p l e R (s.setVm v) m args below meth c Z own mname bytes maxL ret n0 (InvH Z a0 EL s v) (Safe Z EL v) T h locs cells slots) {y : MethodName} {index W : Nat} {bytes' : ByteArray} {maxL' : Nat} {ret' : Option FieldType} {rm : Room} {ws : List Addr} {Q : Value → Vm → Heap → Prop}  {argsL rest stk : List Value} {ps : List FieldType} {rt : Option FieldType} (hd : decode bytes pc = .ok (.invokestatic index, 3)) (w1 : (Cond.methodLink own index y).before a0 Z = true) (w2 : (Cond.static y).before a0 Z = true) (wz : (Cond.initialized y.cls).before a0 Z = true) (wc : (Cond.code y bytes' maxL' ret').before a0 Z = true) (hy : y.cls ≠ "java/lang/invoke/MethodHandle" ∧ y.cls ≠ "java/lang/invoke/VarHandle")  (hM : MetH l [] Z EL n0 y bytes' maxL' ret' rm argsL.toArray h ws (fun r v' h' => ∃ w, r = some w ∧ Q w v' h')) (hstk : stk = argsL.reverse ++ rest) (hpd : parseMethodDescriptor y.desc = some ⟨ps, rt⟩) (hlen : argsL.length = ps.length) (hsz : Ls.size = maxL) (hfr : rm.frames + 1 ≤ R.frames) (hW : (rest.map fun v => v.category).sum ≤ W) (hlo : W + (maxL' + 11) + rm.locals ≤ R.locals) (hc : cells + rm.cells ≤ R.cells) (hs : slots + rm.slots ≤ R.slots) (hsf : ∀ x ∈ ws, (x < h.size ∧ Safe Z EL v h x) ∧ n0 ≤ x) (hp : pc + 3 = pc')
    (q : ∀ w v' T' h' L', WP p l e R (s.setVm v') m args below meth c Z own mname bytes maxL ret n0 (InvH Z a0 EL s v') (Safe Z EL v') T' h' L' (cells + rm.cells) (slots + rm.slots) → Keep h h' ws → CHr Z EL v h v' h' → Q w v' h' → Run p.tables e below P T' (mkF m pc' Ls (w :: rest))) : Run p.tables e below P T (mkF m pc Ls stk) := by
  subst hp
  obtain ⟨hEL, hWv, ⟨k0, hS, hk0⟩, hC⟩ := X.inv
  have bk := backH (R := R) (p := p) (e := e) (below := below) (s := s) (args := args) (len := 3) (W := W) hM hWv wc wz hfr hlo hEL hC.1 (fun x q => (hsf x q).1)
  obtain ⟨r, _, ⟨T', L', k', n'⟩, -, X', hS2, hgr, ⟨Lc, hQ, l1, l2, l3, hC'⟩, kk⟩ := callSS X.1 X.hx (y := y) X.hown (mvT X.hZ w1) (mvT X.hZ w2) (mvT X.hZ wz) (mvT X.hZ wc) hy bk (g := mkF m pc Ls stk) rfl (by rw [X.hml]; exact hsz) (argsL := argsL) (rest := rest) (lenOf hpd hlen) hstk (by show 2 * 0 + _ ≤ _; omega) (hb X.hby hd) (fun _ _ => ⟨rfl, X.eT, hc, hs⟩)
  dsimp only [Pt.U, Pt.locs, Pt.cells, Pt.slots] at X' l1 l2 l3 kk hQ hS2 hgr hC'
  subst l1 l2 l3
  obtain ⟨⟨K, w, rfl, hQ⟩, N⟩ := hQ
  obtain ⟨X2, hS3, hZ2, ho2⟩ := rebS hS (show k0 ≤ T.heap.size by rw [X.eT]; exact hk0) X' hS2 hgr X.hZ X.hown
  exact Run.tr kk (q _ _ _ _ _ (X.reH X2 rfl K hS3 (Nat.le_refl _) hZ2 ho2 hC' (fun x q => (hsf x q).2) (X.fr.app N)) K hC' hQ)
theorem k_callSNH {EL : List (String × Nat)} {v : Vm} (X : WP p l e R (s.setVm v) m args below meth c Z own mname bytes maxL ret n0 (InvH Z a0 EL s v) (Safe Z EL v) T h locs cells slots) {y : MethodName} {index W : Nat} {bytes' : ByteArray} {maxL' : Nat} {ret' : Option FieldType} {rm : Room} {ws : List Addr} {Q : Vm → Heap → Prop}  {argsL rest stk : List Value} {ps : List FieldType} {rt : Option FieldType} (hd : decode bytes pc = .ok (.invokestatic index, 3)) (w1 : (Cond.methodLink own index y).before a0 Z = true) (w2 : (Cond.static y).before a0 Z = true) (wz : (Cond.initialized y.cls).before a0 Z = true) (wc : (Cond.code y bytes' maxL' ret').before a0 Z = true) (hy : y.cls ≠ "java/lang/invoke/MethodHandle" ∧ y.cls ≠ "java/lang/invoke/VarHandle")  (hM : MetH l [] Z EL n0 y bytes' maxL' ret' rm argsL.toArray h ws (fun r v' h' => r = none ∧ Q v' h')) (hstk : stk = argsL.reverse ++ rest) (hpd : parseMethodDescriptor y.desc = some ⟨ps, rt⟩) (hlen : argsL.length = ps.length) (hsz : Ls.size = maxL) (hfr : rm.frames + 1 ≤ R.frames) (hW : (rest.map fun v => v.category).sum ≤ W) (hlo : W + (maxL' + 11) + rm.locals ≤ R.locals) (hc : cells + rm.cells ≤ R.cells) (hs : slots + rm.slots ≤ R.slots) (hsf : ∀ x ∈ ws, (x < h.size ∧ Safe Z EL v h x) ∧ n0 ≤ x) (hp : pc + 3 = pc')
    (q : ∀ v' T' h' L', WP p l e R (s.setVm v') m args below meth c Z own mname bytes maxL ret n0 (InvH Z a0 EL s v') (Safe Z EL v') T' h' L' (cells + rm.cells) (slots + rm.slots) → Keep h h' ws → CHr Z EL v h v' h' → Q v' h' → Run p.tables e below P T' (mkF m pc' Ls (rest))) : Run p.tables e below P T (mkF m pc Ls stk) := by
  subst hp
  obtain ⟨hEL, hWv, ⟨k0, hS, hk0⟩, hC⟩ := X.inv
  have bk := backH (R := R) (p := p) (e := e) (below := below) (s := s) (args := args) (len := 3) (W := W) hM hWv wc wz hfr hlo hEL hC.1 (fun x q => (hsf x q).1)
  obtain ⟨r, _, ⟨T', L', k', n'⟩, -, X', hS2, hgr, ⟨Lc, hQ, l1, l2, l3, hC'⟩, kk⟩ := callSS X.1 X.hx (y := y) X.hown (mvT X.hZ w1) (mvT X.hZ w2) (mvT X.hZ wz) (mvT X.hZ wc) hy bk (g := mkF m pc Ls stk) rfl (by rw [X.hml]; exact hsz) (argsL := argsL) (rest := rest) (lenOf hpd hlen) hstk (by show 2 * 0 + _ ≤ _; omega) (hb X.hby hd) (fun _ _ => ⟨rfl, X.eT, hc, hs⟩)
  dsimp only [Pt.U, Pt.locs, Pt.cells, Pt.slots] at X' l1 l2 l3 kk hQ hS2 hgr hC'
  subst l1 l2 l3
  obtain ⟨⟨K, rfl, hQ⟩, N⟩ := hQ
  obtain ⟨X2, hS3, hZ2, ho2⟩ := rebS hS (show k0 ≤ T.heap.size by rw [X.eT]; exact hk0) X' hS2 hgr X.hZ X.hown
  exact Run.tr kk (q _ _ _ _ (X.reH X2 rfl K hS3 (Nat.le_refl _) hZ2 ho2 hC' (fun x q => (hsf x q).2) (X.fr.app N)) K hC' hQ)
theorem k_callPNF (X : WP p l e R s m args below meth c Z own mname bytes maxL ret n0 Inv Sf T h locs cells slots) {y : MethodName} {index W : Nat} {bytes' : ByteArray} {maxL' : Nat} {ret' : Option FieldType} {rm : Room} {ws : List Addr} {Q : Heap → Prop} {a : Addr} {argsL rest stk : List Value} {ps : List FieldType} {rt : Option FieldType} (hd : decode bytes pc = .ok (.invokespecial index, 3)) (w1 : (Cond.methodLink own index y).before a0 Z = true) (w2 : (Cond.instanceMethod y).before a0 Z = true) (wz : (Cond.initialized y.cls).before a0 Z = true) (wc : (Cond.code y bytes' maxL' ret').before a0 Z = true) (hy : y.cls ≠ "java/lang/invoke/MethodHandle" ∧ y.cls ≠ "java/lang/invoke/VarHandle") (hin : y.name = "<init>") (hrn : ret' = none) (hM : MetF l [] Z n0 y bytes' maxL' ret' rm (.ref a :: argsL).toArray h ws (fun r h' => r = none ∧ Q h')) (hstk : stk = argsL.reverse ++ .ref a :: rest) (hpd : parseMethodDescriptor y.desc = some ⟨ps, rt⟩) (hlen : argsL.length = ps.length) (hsz : Ls.size = maxL) (hfr : rm.frames + 1 ≤ R.frames) (hW : (rest.map fun v => v.category).sum ≤ W) (hlo : W + (maxL' + 11) + rm.locals ≤ R.locals) (hc : cells + rm.cells ≤ R.cells) (hs : slots + rm.slots ≤ R.slots) (hsf : ∀ x ∈ ws, Sf h x ∧ n0 ≤ x) (hp : pc + 3 = pc')
    (q : ∀ T' h' L', WP p l e R s m args below meth c Z own mname bytes maxL ret n0 Inv Sf T' h' L' (cells + rm.cells) (slots + rm.slots) → Keep h h' ws → Q h' → Run p.tables e below P T' (mkF m pc' Ls (rest))) : Run p.tables e below P T (mkF m pc Ls stk) := by
  subst hp
  have bk := backOf (R := R) (p := p) (e := e) (below := below) (args := args) (len := 3) (W := W) (Q := fun r h' L => (Keep h h' ws ∧ (fun r h' => r = none ∧ Q h') r h') ∧ Fr n0 L) hM X.hZ wc wz hfr hlo
  obtain ⟨r, _, ⟨T', L', k', n'⟩, -, X', ⟨Lc, hQ, l1, l2, l3⟩, kk⟩ := X.1.specialBack X.hx (y := y) hin X.hown (mvT X.hZ w1) (mvT X.hZ w2) (bytes := bytes') (maxL := maxL') (mvT X.hZ (hrn ▸ wc)) hy bk (g := mkF m pc Ls stk) rfl (by rw [X.hml]; exact hsz) (Steps.refl _) (a := a) (argsL := argsL) (rest := rest) (lenOf hpd hlen) hstk (by show 2 * 0 + _ ≤ _; omega) (hb X.hby hd) (fun _ _ => ⟨rfl, X.eT, hc, hs⟩)
  dsimp only [Pt.U, Pt.locs, Pt.cells, Pt.slots] at X' l1 l2 l3 kk hQ
  subst l1 l2 l3
  obtain ⟨⟨K, rfl, hQ⟩, N⟩ := hQ
  exact Run.tr kk (q _ _ _ (X.mv X' rfl K hsf (X.fr.app N)) K hQ)
theorem k_callPNH {EL : List (String × Nat)} {v : Vm} (X : WP p l e R (s.setVm v) m args below meth c Z own mname bytes maxL ret n0 (InvH Z a0 EL s v) (Safe Z EL v) T h locs cells slots) {y : MethodName} {index W : Nat} {bytes' : ByteArray} {maxL' : Nat} {ret' : Option FieldType} {rm : Room} {ws : List Addr} {Q : Vm → Heap → Prop} {a : Addr} {argsL rest stk : List Value} {ps : List FieldType} {rt : Option FieldType} (hd : decode bytes pc = .ok (.invokespecial index, 3)) (w1 : (Cond.methodLink own index y).before a0 Z = true) (w2 : (Cond.instanceMethod y).before a0 Z = true) (wz : (Cond.initialized y.cls).before a0 Z = true) (wc : (Cond.code y bytes' maxL' ret').before a0 Z = true) (hy : y.cls ≠ "java/lang/invoke/MethodHandle" ∧ y.cls ≠ "java/lang/invoke/VarHandle") (hin : y.name = "<init>") (hrn : ret' = none) (hM : MetH l [] Z EL n0 y bytes' maxL' ret' rm (.ref a :: argsL).toArray h ws (fun r v' h' => r = none ∧ Q v' h')) (hstk : stk = argsL.reverse ++ .ref a :: rest) (hpd : parseMethodDescriptor y.desc = some ⟨ps, rt⟩) (hlen : argsL.length = ps.length) (hsz : Ls.size = maxL) (hfr : rm.frames + 1 ≤ R.frames) (hW : (rest.map fun v => v.category).sum ≤ W) (hlo : W + (maxL' + 11) + rm.locals ≤ R.locals) (hc : cells + rm.cells ≤ R.cells) (hs : slots + rm.slots ≤ R.slots) (hsf : ∀ x ∈ ws, (x < h.size ∧ Safe Z EL v h x) ∧ n0 ≤ x) (hp : pc + 3 = pc')
    (q : ∀ v' T' h' L', WP p l e R (s.setVm v') m args below meth c Z own mname bytes maxL ret n0 (InvH Z a0 EL s v') (Safe Z EL v') T' h' L' (cells + rm.cells) (slots + rm.slots) → Keep h h' ws → CHr Z EL v h v' h' → Q v' h' → Run p.tables e below P T' (mkF m pc' Ls (rest))) : Run p.tables e below P T (mkF m pc Ls stk) := by
  subst hp
  obtain ⟨hEL, hWv, ⟨k0, hS, hk0⟩, hC⟩ := X.inv
  have bk := backH (R := R) (p := p) (e := e) (below := below) (s := s) (args := args) (len := 3) (W := W) hM hWv wc wz hfr hlo hEL hC.1 (fun x q => (hsf x q).1)
  obtain ⟨r, _, ⟨T', L', k', n'⟩, -, X', hS2, hgr, ⟨Lc, hQ, l1, l2, l3, hC'⟩, kk⟩ := X.1.specialBackS X.hx (y := y) hin X.hown (mvT X.hZ w1) (mvT X.hZ w2) (bytes := bytes') (maxL := maxL') (mvT X.hZ (hrn ▸ wc)) hy bk (g := mkF m pc Ls stk) rfl (by rw [X.hml]; exact hsz) (Steps.refl _) (a := a) (argsL := argsL) (rest := rest) (lenOf hpd hlen) hstk (by show 2 * 0 + _ ≤ _; omega) (hb X.hby hd) (fun _ _ => ⟨rfl, X.eT, hc, hs⟩)
  dsimp only [Pt.U, Pt.locs, Pt.cells, Pt.slots] at X' l1 l2 l3 kk hQ hS2 hgr hC'
  subst l1 l2 l3
  obtain ⟨⟨K, rfl, hQ⟩, N⟩ := hQ
  obtain ⟨X2, hS3, hZ2, ho2⟩ := rebS hS (show k0 ≤ T.heap.size by rw [X.eT]; exact hk0) X' hS2 hgr X.hZ X.hown
  exact Run.tr kk (q _ _ _ _ (X.reH X2 rfl K hS3 (Nat.le_refl _) hZ2 ho2 hC' (fun x q => (hsf x q).2) (X.fr.app N)) K hC' hQ)
theorem k_callVVF (X : WP p l e R s m args below meth c Z own mname bytes maxL ret n0 Inv Sf T h locs cells slots) {y : MethodName} {index W : Nat} {bytes' : ByteArray} {maxL' : Nat} {ret' : Option FieldType} {rm : Room} {ws : List Addr} {Q : Value → Heap → Prop} {a : Addr} {y0 : MethodName} {C : String} {argsL rest stk : List Value} {ps : List FieldType} {rt : Option FieldType} (hd : decode bytes pc = .ok (.invokevirtual index, 3)) (w1 : (Cond.methodLink own index y0).before a0 Z = true) (w2 : (Cond.declares y0).before a0 Z = true) (w3 : (Cond.selects C y0 y).before a0 Z = true) (w4 : (Cond.instanceMethod y).before a0 Z = true) (wz : (Cond.initialized y.cls).before a0 Z = true) (wc : (Cond.code y bytes' maxL' ret').before a0 Z = true) (hy : y0.cls ≠ "java/lang/invoke/MethodHandle" ∧ y0.cls ≠ "java/lang/invoke/VarHandle") (hnf : NotFace s y0) (E : Exa Z h a C) (hM : MetF l [] Z n0 y bytes' maxL' ret' rm (.ref a :: argsL).toArray h ws (fun r h' => ∃ w, r = some w ∧ Q w h')) (hstk : stk = argsL.reverse ++ .ref a :: rest) (hpd : parseMethodDescriptor y0.desc = some ⟨ps, rt⟩) (hlen : argsL.length = ps.length) (hsz : Ls.size = maxL) (hfr : rm.frames + 1 ≤ R.frames) (hW : (rest.map fun v => v.category).sum ≤ W) (hlo : W + (maxL' + 11) + rm.locals ≤ R.locals) (hc : cells + rm.cells ≤ R.cells) (hs : slots + rm.slots ≤ R.slots) (hsf : ∀ x ∈ ws, Sf h x ∧ n0 ≤ x) (hp : pc + 3 = pc')
    (q : ∀ w T' h' L', WP p l e R s m args below meth c Z own mname bytes maxL ret n0 Inv Sf T' h' L' (cells + rm.cells) (slots + rm.slots) → Keep h h' ws → Q w h' → Run p.tables e below P T' (mkF m pc' Ls (w :: rest))) : Run p.tables e below P T (mkF m pc Ls stk) := by
  subst hp
  obtain ⟨cq, kq, qa, qb, qc⟩ := isOf (T := T) X.hZ X.eT E
  have bk := backOf (R := R) (p := p) (e := e) (below := below) (args := args) (len := 3) (W := W) (Q := fun r h' L => (Keep h h' ws ∧ (fun r h' => ∃ w, r = some w ∧ Q w h') r h') ∧ Fr n0 L) hM X.hZ wc wz hfr hlo
  obtain ⟨r, _, ⟨T', L', k', n'⟩, -, X', ⟨Lc, hQ, l1, l2, l3⟩, kk⟩ := X.1.virtualBack X.hx (y := y0) (z := y) X.hown (mvT X.hZ w1) (mvT X.hZ w2) hnf (mvT X.hZ w3) (mvT X.hZ w4) hy bk qa qc (g := mkF m pc Ls stk) rfl (by rw [X.hml]; exact hsz) (Steps.refl _) (argsL := argsL) (rest := rest) (lenOf hpd hlen) hstk (by show 2 * 0 + _ ≤ _; omega) (hb X.hby hd) (fun _ _ => ⟨rfl, X.eT, hc, hs⟩)
  dsimp only [Pt.U, Pt.locs, Pt.cells, Pt.slots] at X' l1 l2 l3 kk hQ
  subst l1 l2 l3
  obtain ⟨⟨K, w, rfl, hQ⟩, N⟩ := hQ
  exact Run.tr kk (q _ _ _ _ (X.mv X' rfl K hsf (X.fr.app N)) K hQ)
theorem k_callVNF (X : WP p l e R s m args below meth c Z own mname bytes maxL ret n0 Inv Sf T h locs cells slots) {y : MethodName} {index W : Nat} {bytes' : ByteArray} {maxL' : Nat} {ret' : Option FieldType} {rm : Room} {ws : List Addr} {Q : Heap → Prop} {a : Addr} {y0 : MethodName} {C : String} {argsL rest stk : List Value} {ps : List FieldType} {rt : Option FieldType} (hd : decode bytes pc = .ok (.invokevirtual index, 3)) (w1 : (Cond.methodLink own index y0).before a0 Z = true) (w2 : (Cond.declares y0).before a0 Z = true) (w3 : (Cond.selects C y0 y).before a0 Z = true) (w4 : (Cond.instanceMethod y).before a0 Z = true) (wz : (Cond.initialized y.cls).before a0 Z = true) (wc : (Cond.code y bytes' maxL' ret').before a0 Z = true) (hy : y0.cls ≠ "java/lang/invoke/MethodHandle" ∧ y0.cls ≠ "java/lang/invoke/VarHandle") (hnf : NotFace s y0) (E : Exa Z h a C) (hM : MetF l [] Z n0 y bytes' maxL' ret' rm (.ref a :: argsL).toArray h ws (fun r h' => r = none ∧ Q h')) (hstk : stk = argsL.reverse ++ .ref a :: rest) (hpd : parseMethodDescriptor y0.desc = some ⟨ps, rt⟩) (hlen : argsL.length = ps.length) (hsz : Ls.size = maxL) (hfr : rm.frames + 1 ≤ R.frames) (hW : (rest.map fun v => v.category).sum ≤ W) (hlo : W + (maxL' + 11) + rm.locals ≤ R.locals) (hc : cells + rm.cells ≤ R.cells) (hs : slots + rm.slots ≤ R.slots) (hsf : ∀ x ∈ ws, Sf h x ∧ n0 ≤ x) (hp : pc + 3 = pc')
    (q : ∀ T' h' L', WP p l e R s m args below meth c Z own mname bytes maxL ret n0 Inv Sf T' h' L' (cells + rm.cells) (slots + rm.slots) → Keep h h' ws → Q h' → Run p.tables e below P T' (mkF m pc' Ls (rest))) : Run p.tables e below P T (mkF m pc Ls stk) := by
  subst hp
  obtain ⟨cq, kq, qa, qb, qc⟩ := isOf (T := T) X.hZ X.eT E
  have bk := backOf (R := R) (p := p) (e := e) (below := below) (args := args) (len := 3) (W := W) (Q := fun r h' L => (Keep h h' ws ∧ (fun r h' => r = none ∧ Q h') r h') ∧ Fr n0 L) hM X.hZ wc wz hfr hlo
  obtain ⟨r, _, ⟨T', L', k', n'⟩, -, X', ⟨Lc, hQ, l1, l2, l3⟩, kk⟩ := X.1.virtualBack X.hx (y := y0) (z := y) X.hown (mvT X.hZ w1) (mvT X.hZ w2) hnf (mvT X.hZ w3) (mvT X.hZ w4) hy bk qa qc (g := mkF m pc Ls stk) rfl (by rw [X.hml]; exact hsz) (Steps.refl _) (argsL := argsL) (rest := rest) (lenOf hpd hlen) hstk (by show 2 * 0 + _ ≤ _; omega) (hb X.hby hd) (fun _ _ => ⟨rfl, X.eT, hc, hs⟩)
  dsimp only [Pt.U, Pt.locs, Pt.cells, Pt.slots] at X' l1 l2 l3 kk hQ
  subst l1 l2 l3
  obtain ⟨⟨K, rfl, hQ⟩, N⟩ := hQ
  exact Run.tr kk (q _ _ _ (X.mv X' rfl K hsf (X.fr.app N)) K hQ)
theorem k_callVVH {EL : List (String × Nat)} {v : Vm} (X : WP p l e R (s.setVm v) m args below meth c Z own mname bytes maxL ret n0 (InvH Z a0 EL s v) (Safe Z EL v) T h locs cells slots) {y : MethodName} {index W : Nat} {bytes' : ByteArray} {maxL' : Nat} {ret' : Option FieldType} {rm : Room} {ws : List Addr} {Q : Value → Vm → Heap → Prop} {a : Addr} {y0 : MethodName} {C : String} {argsL rest stk : List Value} {ps : List FieldType} {rt : Option FieldType} (hd : decode bytes pc = .ok (.invokevirtual index, 3)) (w1 : (Cond.methodLink own index y0).before a0 Z = true) (w2 : (Cond.declares y0).before a0 Z = true) (w3 : (Cond.selects C y0 y).before a0 Z = true) (w4 : (Cond.instanceMethod y).before a0 Z = true) (wz : (Cond.initialized y.cls).before a0 Z = true) (wc : (Cond.code y bytes' maxL' ret').before a0 Z = true) (hy : y0.cls ≠ "java/lang/invoke/MethodHandle" ∧ y0.cls ≠ "java/lang/invoke/VarHandle") (hnf : NotFace (s.setVm v) y0) (E : Exa Z h a C) (hM : MetH l [] Z EL n0 y bytes' maxL' ret' rm (.ref a :: argsL).toArray h ws (fun r v' h' => ∃ w, r = some w ∧ Q w v' h')) (hstk : stk = argsL.reverse ++ .ref a :: rest) (hpd : parseMethodDescriptor y0.desc = some ⟨ps, rt⟩) (hlen : argsL.length = ps.length) (hsz : Ls.size = maxL) (hfr : rm.frames + 1 ≤ R.frames) (hW : (rest.map fun v => v.category).sum ≤ W) (hlo : W + (maxL' + 11) + rm.locals ≤ R.locals) (hc : cells + rm.cells ≤ R.cells) (hs : slots + rm.slots ≤ R.slots) (hsf : ∀ x ∈ ws, (x < h.size ∧ Safe Z EL v h x) ∧ n0 ≤ x) (hp : pc + 3 = pc')
    (q : ∀ w v' T' h' L', WP p l e R (s.setVm v') m args below meth c Z own mname bytes maxL ret n0 (InvH Z a0 EL s v') (Safe Z EL v') T' h' L' (cells + rm.cells) (slots + rm.slots) → Keep h h' ws → CHr Z EL v h v' h' → Q w v' h' → Run p.tables e below P T' (mkF m pc' Ls (w :: rest))) : Run p.tables e below P T (mkF m pc Ls stk) := by
  subst hp
  obtain ⟨cq, kq, qa, qb, qc⟩ := isOf (T := T) X.hZ X.eT E
  obtain ⟨hEL, hWv, ⟨k0, hS, hk0⟩, hC⟩ := X.inv
  have bk := backH (R := R) (p := p) (e := e) (below := below) (s := s) (args := args) (len := 3) (W := W) hM hWv wc wz hfr hlo hEL hC.1 (fun x q => (hsf x q).1)
  obtain ⟨r, _, ⟨T', L', k', n'⟩, -, X', hS2, hgr, ⟨Lc, hQ, l1, l2, l3, hC'⟩, kk⟩ := X.1.virtualBackS X.hx (y := y0) (z := y) X.hown (mvT X.hZ w1) (mvT X.hZ w2) hnf (mvT X.hZ w3) (mvT X.hZ w4) hy bk qa qc (g := mkF m pc Ls stk) rfl (by rw [X.hml]; exact hsz) (Steps.refl _) (argsL := argsL) (rest := rest) (lenOf hpd hlen) hstk (by show 2 * 0 + _ ≤ _; omega) (hb X.hby hd) (fun _ _ => ⟨rfl, X.eT, hc, hs⟩)
  dsimp only [Pt.U, Pt.locs, Pt.cells, Pt.slots] at X' l1 l2 l3 kk hQ hS2 hgr hC'
  subst l1 l2 l3
  obtain ⟨⟨K, w, rfl, hQ⟩, N⟩ := hQ
  obtain ⟨X2, hS3, hZ2, ho2⟩ := rebS hS (show k0 ≤ T.heap.size by rw [X.eT]; exact hk0) X' hS2 hgr X.hZ X.hown
  exact Run.tr kk (q _ _ _ _ _ (X.reH X2 rfl K hS3 (Nat.le_refl _) hZ2 ho2 hC' (fun x q => (hsf x q).2) (X.fr.app N)) K hC' hQ)
theorem k_callVNH {EL : List (String × Nat)} {v : Vm} (X : WP p l e R (s.setVm v) m args below meth c Z own mname bytes maxL ret n0 (InvH Z a0 EL s v) (Safe Z EL v) T h locs cells slots) {y : MethodName} {index W : Nat} {bytes' : ByteArray} {maxL' : Nat} {ret' : Option FieldType} {rm : Room} {ws : List Addr} {Q : Vm → Heap → Prop} {a : Addr} {y0 : MethodName} {C : String} {argsL rest stk : List Value} {ps : List FieldType} {rt : Option FieldType} (hd : decode bytes pc = .ok (.invokevirtual index, 3)) (w1 : (Cond.methodLink own index y0).before a0 Z = true) (w2 : (Cond.declares y0).before a0 Z = true) (w3 : (Cond.selects C y0 y).before a0 Z = true) (w4 : (Cond.instanceMethod y).before a0 Z = true) (wz : (Cond.initialized y.cls).before a0 Z = true) (wc : (Cond.code y bytes' maxL' ret').before a0 Z = true) (hy : y0.cls ≠ "java/lang/invoke/MethodHandle" ∧ y0.cls ≠ "java/lang/invoke/VarHandle") (hnf : NotFace (s.setVm v) y0) (E : Exa Z h a C) (hM : MetH l [] Z EL n0 y bytes' maxL' ret' rm (.ref a :: argsL).toArray h ws (fun r v' h' => r = none ∧ Q v' h')) (hstk : stk = argsL.reverse ++ .ref a :: rest) (hpd : parseMethodDescriptor y0.desc = some ⟨ps, rt⟩) (hlen : argsL.length = ps.length) (hsz : Ls.size = maxL) (hfr : rm.frames + 1 ≤ R.frames) (hW : (rest.map fun v => v.category).sum ≤ W) (hlo : W + (maxL' + 11) + rm.locals ≤ R.locals) (hc : cells + rm.cells ≤ R.cells) (hs : slots + rm.slots ≤ R.slots) (hsf : ∀ x ∈ ws, (x < h.size ∧ Safe Z EL v h x) ∧ n0 ≤ x) (hp : pc + 3 = pc')
    (q : ∀ v' T' h' L', WP p l e R (s.setVm v') m args below meth c Z own mname bytes maxL ret n0 (InvH Z a0 EL s v') (Safe Z EL v') T' h' L' (cells + rm.cells) (slots + rm.slots) → Keep h h' ws → CHr Z EL v h v' h' → Q v' h' → Run p.tables e below P T' (mkF m pc' Ls (rest))) : Run p.tables e below P T (mkF m pc Ls stk) := by
  subst hp
  obtain ⟨cq, kq, qa, qb, qc⟩ := isOf (T := T) X.hZ X.eT E
  obtain ⟨hEL, hWv, ⟨k0, hS, hk0⟩, hC⟩ := X.inv
  have bk := backH (R := R) (p := p) (e := e) (below := below) (s := s) (args := args) (len := 3) (W := W) hM hWv wc wz hfr hlo hEL hC.1 (fun x q => (hsf x q).1)
  obtain ⟨r, _, ⟨T', L', k', n'⟩, -, X', hS2, hgr, ⟨Lc, hQ, l1, l2, l3, hC'⟩, kk⟩ := X.1.virtualBackS X.hx (y := y0) (z := y) X.hown (mvT X.hZ w1) (mvT X.hZ w2) hnf (mvT X.hZ w3) (mvT X.hZ w4) hy bk qa qc (g := mkF m pc Ls stk) rfl (by rw [X.hml]; exact hsz) (Steps.refl _) (argsL := argsL) (rest := rest) (lenOf hpd hlen) hstk (by show 2 * 0 + _ ≤ _; omega) (hb X.hby hd) (fun _ _ => ⟨rfl, X.eT, hc, hs⟩)
  dsimp only [Pt.U, Pt.locs, Pt.cells, Pt.slots] at X' l1 l2 l3 kk hQ hS2 hgr hC'
  subst l1 l2 l3
  obtain ⟨⟨K, rfl, hQ⟩, N⟩ := hQ
  obtain ⟨X2, hS3, hZ2, ho2⟩ := rebS hS (show k0 ≤ T.heap.size by rw [X.eT]; exact hk0) X' hS2 hgr X.hZ X.hown
  exact Run.tr kk (q _ _ _ _ (X.reH X2 rfl K hS3 (Nat.le_refl _) hZ2 ho2 hC' (fun x q => (hsf x q).2) (X.fr.app N)) K hC' hQ)
theorem k_callIVF (X : WP p l e R s m args below meth c Z own mname bytes maxL ret n0 Inv Sf T h locs cells slots) {y : MethodName} {index W : Nat} {bytes' : ByteArray} {maxL' : Nat} {ret' : Option FieldType} {rm : Room} {ws : List Addr} {Q : Value → Heap → Prop} {a : Addr} {y0 : MethodName} {C : String} {count : Nat} {argsL rest stk : List Value} {ps : List FieldType} {rt : Option FieldType} (hd : decode bytes pc = .ok (.invokeinterface index count, 5)) (w1 : (Cond.methodLink own index y0).before args s = true) (w2 : (Cond.declares y0).before args s = true) (w5 : (Cond.interfaceMethod y0.cls y0.cls y0.name y0.desc).before args s = true) (w3 : (Cond.selects C y0 y).before args s = true) (w4 : (Cond.instanceMethod y).before args s = true) (w6 : (Cond.publicMethod y).before args s = true) (w7 : (Cond.unhidden C y0.name y0.desc).before args s = true) (w8 : (Cond.castable C y0.cls).before args s = true) (wz : (Cond.initialized y.cls).before a0 Z = true) (wc : (Cond.code y bytes' maxL' ret').before a0 Z = true) (hy : y0.cls ≠ "java/lang/invoke/MethodHandle" ∧ y0.cls ≠ "java/lang/invoke/VarHandle") (E : Exa Z h a C) (hM : MetF l [] Z n0 y bytes' maxL' ret' rm (.ref a :: argsL).toArray h ws (fun r h' => ∃ w, r = some w ∧ Q w h')) (hstk : stk = argsL.reverse ++ .ref a :: rest) (hpd : parseMethodDescriptor y0.desc = some ⟨ps, rt⟩) (hlen : argsL.length = ps.length) (hsz : Ls.size = maxL) (hfr : rm.frames + 1 ≤ R.frames) (hW : (rest.map fun v => v.category).sum ≤ W) (hlo : W + (maxL' + 11) + rm.locals ≤ R.locals) (hc : cells + rm.cells ≤ R.cells) (hs : slots + rm.slots ≤ R.slots) (hsf : ∀ x ∈ ws, Sf h x ∧ n0 ≤ x) (hp : pc + 5 = pc')
    (q : ∀ w T' h' L', WP p l e R s m args below meth c Z own mname bytes maxL ret n0 Inv Sf T' h' L' (cells + rm.cells) (slots + rm.slots) → Keep h h' ws → Q w h' → Run p.tables e below P T' (mkF m pc' Ls (w :: rest))) : Run p.tables e below P T (mkF m pc Ls stk) := by
  subst hp
  obtain ⟨cq, kq, qa, qb, qc⟩ := isOf (T := T) X.hZ X.eT E
  have bk := backOf (R := R) (p := p) (e := e) (below := below) (args := args) (len := 5) (W := W) (Q := fun r h' L => (Keep h h' ws ∧ (fun r h' => ∃ w, r = some w ∧ Q w h') r h') ∧ Fr n0 L) hM X.hZ wc wz hfr hlo
  obtain ⟨r, _, ⟨T', L', k', n'⟩, -, X', ⟨Lc, hQ, l1, l2, l3⟩, kk⟩ := X.1.interfaceBack X.hx (xi := y0) (y := y) X.hown w1 w2 w5 w3 w4 w6 w7 w8 hy bk qa qb qc (g := mkF m pc Ls stk) rfl (by rw [X.hml]; exact hsz) (Steps.refl _) (argsL := argsL) (rest := rest) (lenOf hpd hlen) hstk (by show 2 * 0 + _ ≤ _; omega) (hb X.hby hd) (fun _ _ => ⟨rfl, X.eT, hc, hs⟩)
  dsimp only [Pt.U, Pt.locs, Pt.cells, Pt.slots] at X' l1 l2 l3 kk hQ
  subst l1 l2 l3
  obtain ⟨⟨K, w, rfl, hQ⟩, N⟩ := hQ
  exact Run.tr kk (q _ _ _ _ (X.mv X' rfl K hsf (X.fr.app N)) K hQ)
theorem k_callINF (X : WP p l e R s m args below meth c Z own mname bytes maxL ret n0 Inv Sf T h locs cells slots) {y : MethodName} {index W : Nat} {bytes' : ByteArray} {maxL' : Nat} {ret' : Option FieldType} {rm : Room} {ws : List Addr} {Q : Heap → Prop} {a : Addr} {y0 : MethodName} {C : String} {count : Nat} {argsL rest stk : List Value} {ps : List FieldType} {rt : Option FieldType} (hd : decode bytes pc = .ok (.invokeinterface index count, 5)) (w1 : (Cond.methodLink own index y0).before args s = true) (w2 : (Cond.declares y0).before args s = true) (w5 : (Cond.interfaceMethod y0.cls y0.cls y0.name y0.desc).before args s = true) (w3 : (Cond.selects C y0 y).before args s = true) (w4 : (Cond.instanceMethod y).before args s = true) (w6 : (Cond.publicMethod y).before args s = true) (w7 : (Cond.unhidden C y0.name y0.desc).before args s = true) (w8 : (Cond.castable C y0.cls).before args s = true) (wz : (Cond.initialized y.cls).before a0 Z = true) (wc : (Cond.code y bytes' maxL' ret').before a0 Z = true) (hy : y0.cls ≠ "java/lang/invoke/MethodHandle" ∧ y0.cls ≠ "java/lang/invoke/VarHandle") (E : Exa Z h a C) (hM : MetF l [] Z n0 y bytes' maxL' ret' rm (.ref a :: argsL).toArray h ws (fun r h' => r = none ∧ Q h')) (hstk : stk = argsL.reverse ++ .ref a :: rest) (hpd : parseMethodDescriptor y0.desc = some ⟨ps, rt⟩) (hlen : argsL.length = ps.length) (hsz : Ls.size = maxL) (hfr : rm.frames + 1 ≤ R.frames) (hW : (rest.map fun v => v.category).sum ≤ W) (hlo : W + (maxL' + 11) + rm.locals ≤ R.locals) (hc : cells + rm.cells ≤ R.cells) (hs : slots + rm.slots ≤ R.slots) (hsf : ∀ x ∈ ws, Sf h x ∧ n0 ≤ x) (hp : pc + 5 = pc')
    (q : ∀ T' h' L', WP p l e R s m args below meth c Z own mname bytes maxL ret n0 Inv Sf T' h' L' (cells + rm.cells) (slots + rm.slots) → Keep h h' ws → Q h' → Run p.tables e below P T' (mkF m pc' Ls (rest))) : Run p.tables e below P T (mkF m pc Ls stk) := by
  subst hp
  obtain ⟨cq, kq, qa, qb, qc⟩ := isOf (T := T) X.hZ X.eT E
  have bk := backOf (R := R) (p := p) (e := e) (below := below) (args := args) (len := 5) (W := W) (Q := fun r h' L => (Keep h h' ws ∧ (fun r h' => r = none ∧ Q h') r h') ∧ Fr n0 L) hM X.hZ wc wz hfr hlo
  obtain ⟨r, _, ⟨T', L', k', n'⟩, -, X', ⟨Lc, hQ, l1, l2, l3⟩, kk⟩ := X.1.interfaceBack X.hx (xi := y0) (y := y) X.hown w1 w2 w5 w3 w4 w6 w7 w8 hy bk qa qb qc (g := mkF m pc Ls stk) rfl (by rw [X.hml]; exact hsz) (Steps.refl _) (argsL := argsL) (rest := rest) (lenOf hpd hlen) hstk (by show 2 * 0 + _ ≤ _; omega) (hb X.hby hd) (fun _ _ => ⟨rfl, X.eT, hc, hs⟩)
  dsimp only [Pt.U, Pt.locs, Pt.cells, Pt.slots] at X' l1 l2 l3 kk hQ
  subst l1 l2 l3
  obtain ⟨⟨K, rfl, hQ⟩, N⟩ := hQ
  exact Run.tr kk (q _ _ _ (X.mv X' rfl K hsf (X.fr.app N)) K hQ)
theorem k_callQVF (X : WP p l e R s m args below meth c Z own mname bytes maxL ret n0 Inv Sf T h locs cells slots) {y : MethodName} {index W : Nat} {bytes' : ByteArray} {maxL' : Nat} {ret' : Option FieldType} {rm : Room} {ws : List Addr} {Q : Value → Heap → Prop} {a : Addr} {C : String} {argsL rest stk : List Value} {ps : List FieldType} {rt : Option FieldType} (hd : decode bytes pc = .ok (.invokevirtual index, 3)) (w1 : (Cond.methodLink own index y).before a0 Z = true) (w2 : (Cond.instanceMethod y).before a0 Z = true) (w3 : (Cond.selects C y y).before a0 Z = true) (w4 : (Cond.privateMethod y).before a0 Z = true) (wz : (Cond.initialized y.cls).before a0 Z = true) (wc : (Cond.code y bytes' maxL' ret').before a0 Z = true) (hy : y.cls ≠ "java/lang/invoke/MethodHandle" ∧ y.cls ≠ "java/lang/invoke/VarHandle") (E : Exa Z h a C) (hM : MetF l [] Z n0 y bytes' maxL' ret' rm (.ref a :: argsL).toArray h ws (fun r h' => ∃ w, r = some w ∧ Q w h')) (hstk : stk = argsL.reverse ++ .ref a :: rest) (hpd : parseMethodDescriptor y.desc = some ⟨ps, rt⟩) (hlen : argsL.length = ps.length) (hsz : Ls.size = maxL) (hfr : rm.frames + 1 ≤ R.frames) (hW : (rest.map fun v => v.category).sum ≤ W) (hlo : W + (maxL' + 11) + rm.locals ≤ R.locals) (hc : cells + rm.cells ≤ R.cells) (hs : slots + rm.slots ≤ R.slots) (hsf : ∀ x ∈ ws, Sf h x ∧ n0 ≤ x) (hp : pc + 3 = pc')
    (q : ∀ w T' h' L', WP p l e R s m args below meth c Z own mname bytes maxL ret n0 Inv Sf T' h' L' (cells + rm.cells) (slots + rm.slots) → Keep h h' ws → Q w h' → Run p.tables e below P T' (mkF m pc' Ls (w :: rest))) : Run p.tables e below P T (mkF m pc Ls stk) := by
  subst hp
  obtain ⟨cq, kq, qa, -, -, qs, -⟩ := E
  have qb : ∀ z, cq.vm ≠ .statics z := fun z u => by rw [u] at qs; cases qs
  have bk := backOf (R := R) (p := p) (e := e) (below := below) (args := args) (len := 3) (W := W) (Q := fun r h' L => (Keep h h' ws ∧ (fun r h' => ∃ w, r = some w ∧ Q w h') r h') ∧ Fr n0 L) hM X.hZ wc wz hfr hlo
  obtain ⟨r, _, ⟨T', L', k', n'⟩, -, X', ⟨Lc, hQ, l1, l2, l3⟩, kk⟩ := X.1.privateBack X.hx (y := y) (bytes := bytes') (maxL := maxL') (ret := ret') X.hown (mvT X.hZ w1) (mvT X.hZ w2) (selP (mvT X.hZ w3) (mvT X.hZ w4) (mvT X.hZ w2) hy) (Cond.privateMethod_at (args := args) (mvT X.hZ w4)) (mvT X.hZ wc) hy bk (g := mkF m pc Ls stk) rfl (by rw [X.hml]; exact hsz) (Steps.refl _) (by rw [X.eT]; exact qa) qb (argsL := argsL) (rest := rest) (lenOf hpd hlen) hstk (by show 2 * 0 + _ ≤ _; omega) (hb X.hby hd) (fun _ _ => ⟨rfl, X.eT, hc, hs⟩)
  dsimp only [Pt.U, Pt.locs, Pt.cells, Pt.slots] at X' l1 l2 l3 kk hQ
  subst l1 l2 l3
  obtain ⟨⟨K, w, rfl, hQ⟩, N⟩ := hQ
  exact Run.tr kk (q _ _ _ _ (X.mv X' rfl K hsf (X.fr.app N)) K hQ)
theorem k_callQNF (X : WP p l e R s m args below meth c Z own mname bytes maxL ret n0 Inv Sf T h locs cells slots) {y : MethodName} {index W : Nat} {bytes' : ByteArray} {maxL' : Nat} {ret' : Option FieldType} {rm : Room} {ws : List Addr} {Q : Heap → Prop} {a : Addr} {C : String} {argsL rest stk : List Value} {ps : List FieldType} {rt : Option FieldType} (hd : decode bytes pc = .ok (.invokevirtual index, 3)) (w1 : (Cond.methodLink own index y).before a0 Z = true) (w2 : (Cond.instanceMethod y).before a0 Z = true) (w3 : (Cond.selects C y y).before a0 Z = true) (w4 : (Cond.privateMethod y).before a0 Z = true) (wz : (Cond.initialized y.cls).before a0 Z = true) (wc : (Cond.code y bytes' maxL' ret').before a0 Z = true) (hy : y.cls ≠ "java/lang/invoke/MethodHandle" ∧ y.cls ≠ "java/lang/invoke/VarHandle") (E : Exa Z h a C) (hM : MetF l [] Z n0 y bytes' maxL' ret' rm (.ref a :: argsL).toArray h ws (fun r h' => r = none ∧ Q h')) (hstk : stk = argsL.reverse ++ .ref a :: rest) (hpd : parseMethodDescriptor y.desc = some ⟨ps, rt⟩) (hlen : argsL.length = ps.length) (hsz : Ls.size = maxL) (hfr : rm.frames + 1 ≤ R.frames) (hW : (rest.map fun v => v.category).sum ≤ W) (hlo : W + (maxL' + 11) + rm.locals ≤ R.locals) (hc : cells + rm.cells ≤ R.cells) (hs : slots + rm.slots ≤ R.slots) (hsf : ∀ x ∈ ws, Sf h x ∧ n0 ≤ x) (hp : pc + 3 = pc')
    (q : ∀ T' h' L', WP p l e R s m args below meth c Z own mname bytes maxL ret n0 Inv Sf T' h' L' (cells + rm.cells) (slots + rm.slots) → Keep h h' ws → Q h' → Run p.tables e below P T' (mkF m pc' Ls (rest))) : Run p.tables e below P T (mkF m pc Ls stk) := by
  subst hp
  obtain ⟨cq, kq, qa, -, -, qs, -⟩ := E
  have qb : ∀ z, cq.vm ≠ .statics z := fun z u => by rw [u] at qs; cases qs
  have bk := backOf (R := R) (p := p) (e := e) (below := below) (args := args) (len := 3) (W := W) (Q := fun r h' L => (Keep h h' ws ∧ (fun r h' => r = none ∧ Q h') r h') ∧ Fr n0 L) hM X.hZ wc wz hfr hlo
  obtain ⟨r, _, ⟨T', L', k', n'⟩, -, X', ⟨Lc, hQ, l1, l2, l3⟩, kk⟩ := X.1.privateBack X.hx (y := y) (bytes := bytes') (maxL := maxL') (ret := ret') X.hown (mvT X.hZ w1) (mvT X.hZ w2) (selP (mvT X.hZ w3) (mvT X.hZ w4) (mvT X.hZ w2) hy) (Cond.privateMethod_at (args := args) (mvT X.hZ w4)) (mvT X.hZ wc) hy bk (g := mkF m pc Ls stk) rfl (by rw [X.hml]; exact hsz) (Steps.refl _) (by rw [X.eT]; exact qa) qb (argsL := argsL) (rest := rest) (lenOf hpd hlen) hstk (by show 2 * 0 + _ ≤ _; omega) (hb X.hby hd) (fun _ _ => ⟨rfl, X.eT, hc, hs⟩)
  dsimp only [Pt.U, Pt.locs, Pt.cells, Pt.slots] at X' l1 l2 l3 kk hQ
  subst l1 l2 l3
  obtain ⟨⟨K, rfl, hQ⟩, N⟩ := hQ
  exact Run.tr kk (q _ _ _ (X.mv X' rfl K hsf (X.fr.app N)) K hQ)
theorem k_callQVH {EL : List (String × Nat)} {v : Vm} (X : WP p l e R (s.setVm v) m args below meth c Z own mname bytes maxL ret n0 (InvH Z a0 EL s v) (Safe Z EL v) T h locs cells slots) {y : MethodName} {index W : Nat} {bytes' : ByteArray} {maxL' : Nat} {ret' : Option FieldType} {rm : Room} {ws : List Addr} {Q : Value → Vm → Heap → Prop} {a : Addr} {C : String} {argsL rest stk : List Value} {ps : List FieldType} {rt : Option FieldType} (hd : decode bytes pc = .ok (.invokevirtual index, 3)) (w1 : (Cond.methodLink own index y).before a0 Z = true) (w2 : (Cond.instanceMethod y).before a0 Z = true) (w3 : (Cond.selects C y y).before a0 Z = true) (w4 : (Cond.privateMethod y).before a0 Z = true) (wz : (Cond.initialized y.cls).before a0 Z = true) (wc : (Cond.code y bytes' maxL' ret').before a0 Z = true) (hy : y.cls ≠ "java/lang/invoke/MethodHandle" ∧ y.cls ≠ "java/lang/invoke/VarHandle") (E : Exa Z h a C) (hM : MetH l [] Z EL n0 y bytes' maxL' ret' rm (.ref a :: argsL).toArray h ws (fun r v' h' => ∃ w, r = some w ∧ Q w v' h')) (hstk : stk = argsL.reverse ++ .ref a :: rest) (hpd : parseMethodDescriptor y.desc = some ⟨ps, rt⟩) (hlen : argsL.length = ps.length) (hsz : Ls.size = maxL) (hfr : rm.frames + 1 ≤ R.frames) (hW : (rest.map fun v => v.category).sum ≤ W) (hlo : W + (maxL' + 11) + rm.locals ≤ R.locals) (hc : cells + rm.cells ≤ R.cells) (hs : slots + rm.slots ≤ R.slots) (hsf : ∀ x ∈ ws, (x < h.size ∧ Safe Z EL v h x) ∧ n0 ≤ x) (hp : pc + 3 = pc')
    (q : ∀ w v' T' h' L', WP p l e R (s.setVm v') m args below meth c Z own mname bytes maxL ret n0 (InvH Z a0 EL s v') (Safe Z EL v') T' h' L' (cells + rm.cells) (slots + rm.slots) → Keep h h' ws → CHr Z EL v h v' h' → Q w v' h' → Run p.tables e below P T' (mkF m pc' Ls (w :: rest))) : Run p.tables e below P T (mkF m pc Ls stk) := by
  subst hp
  obtain ⟨cq, kq, qa, -, -, qs, -⟩ := E
  have qb : ∀ z, cq.vm ≠ .statics z := fun z u => by rw [u] at qs; cases qs
  obtain ⟨hEL, hWv, ⟨k0, hS, hk0⟩, hC⟩ := X.inv
  have bk := backH (R := R) (p := p) (e := e) (below := below) (s := s) (args := args) (len := 3) (W := W) hM hWv wc wz hfr hlo hEL hC.1 (fun x q => (hsf x q).1)
  obtain ⟨r, _, ⟨T', L', k', n'⟩, -, X', hS2, hgr, ⟨Lc, hQ, l1, l2, l3, hC'⟩, kk⟩ := X.1.privateBackS X.hx (y := y) (bytes := bytes') (maxL := maxL') (ret := ret') X.hown (mvT X.hZ w1) (mvT X.hZ w2) (selP (mvT X.hZ w3) (mvT X.hZ w4) (mvT X.hZ w2) hy) (Cond.privateMethod_at (args := args) (mvT X.hZ w4)) (mvT X.hZ wc) hy bk (g := mkF m pc Ls stk) rfl (by rw [X.hml]; exact hsz) (Steps.refl _) (by rw [X.eT]; exact qa) qb (argsL := argsL) (rest := rest) (lenOf hpd hlen) hstk (by show 2 * 0 + _ ≤ _; omega) (hb X.hby hd) (fun _ _ => ⟨rfl, X.eT, hc, hs⟩)
  dsimp only [Pt.U, Pt.locs, Pt.cells, Pt.slots] at X' l1 l2 l3 kk hQ hS2 hgr hC'
  subst l1 l2 l3
  obtain ⟨⟨K, w, rfl, hQ⟩, N⟩ := hQ
  obtain ⟨X2, hS3, hZ2, ho2⟩ := rebS hS (show k0 ≤ T.heap.size by rw [X.eT]; exact hk0) X' hS2 hgr X.hZ X.hown
  exact Run.tr kk (q _ _ _ _ _ (X.reH X2 rfl K hS3 (Nat.le_refl _) hZ2 ho2 hC' (fun x q => (hsf x q).2) (X.fr.app N)) K hC' hQ)
theorem k_callQNH {EL : List (String × Nat)} {v : Vm} (X : WP p l e R (s.setVm v) m args below meth c Z own mname bytes maxL ret n0 (InvH Z a0 EL s v) (Safe Z EL v) T h locs cells slots) {y : MethodName} {index W : Nat} {bytes' : ByteArray} {maxL' : Nat} {ret' : Option FieldType} {rm : Room} {ws : List Addr} {Q : Vm → Heap → Prop} {a : Addr} {C : String} {argsL rest stk : List Value} {ps : List FieldType} {rt : Option FieldType} (hd : decode bytes pc = .ok (.invokevirtual index, 3)) (w1 : (Cond.methodLink own index y).before a0 Z = true) (w2 : (Cond.instanceMethod y).before a0 Z = true) (w3 : (Cond.selects C y y).before a0 Z = true) (w4 : (Cond.privateMethod y).before a0 Z = true) (wz : (Cond.initialized y.cls).before a0 Z = true) (wc : (Cond.code y bytes' maxL' ret').before a0 Z = true) (hy : y.cls ≠ "java/lang/invoke/MethodHandle" ∧ y.cls ≠ "java/lang/invoke/VarHandle") (E : Exa Z h a C) (hM : MetH l [] Z EL n0 y bytes' maxL' ret' rm (.ref a :: argsL).toArray h ws (fun r v' h' => r = none ∧ Q v' h')) (hstk : stk = argsL.reverse ++ .ref a :: rest) (hpd : parseMethodDescriptor y.desc = some ⟨ps, rt⟩) (hlen : argsL.length = ps.length) (hsz : Ls.size = maxL) (hfr : rm.frames + 1 ≤ R.frames) (hW : (rest.map fun v => v.category).sum ≤ W) (hlo : W + (maxL' + 11) + rm.locals ≤ R.locals) (hc : cells + rm.cells ≤ R.cells) (hs : slots + rm.slots ≤ R.slots) (hsf : ∀ x ∈ ws, (x < h.size ∧ Safe Z EL v h x) ∧ n0 ≤ x) (hp : pc + 3 = pc')
    (q : ∀ v' T' h' L', WP p l e R (s.setVm v') m args below meth c Z own mname bytes maxL ret n0 (InvH Z a0 EL s v') (Safe Z EL v') T' h' L' (cells + rm.cells) (slots + rm.slots) → Keep h h' ws → CHr Z EL v h v' h' → Q v' h' → Run p.tables e below P T' (mkF m pc' Ls (rest))) : Run p.tables e below P T (mkF m pc Ls stk) := by
  subst hp
  obtain ⟨cq, kq, qa, -, -, qs, -⟩ := E
  have qb : ∀ z, cq.vm ≠ .statics z := fun z u => by rw [u] at qs; cases qs
  obtain ⟨hEL, hWv, ⟨k0, hS, hk0⟩, hC⟩ := X.inv
  have bk := backH (R := R) (p := p) (e := e) (below := below) (s := s) (args := args) (len := 3) (W := W) hM hWv wc wz hfr hlo hEL hC.1 (fun x q => (hsf x q).1)
  obtain ⟨r, _, ⟨T', L', k', n'⟩, -, X', hS2, hgr, ⟨Lc, hQ, l1, l2, l3, hC'⟩, kk⟩ := X.1.privateBackS X.hx (y := y) (bytes := bytes') (maxL := maxL') (ret := ret') X.hown (mvT X.hZ w1) (mvT X.hZ w2) (selP (mvT X.hZ w3) (mvT X.hZ w4) (mvT X.hZ w2) hy) (Cond.privateMethod_at (args := args) (mvT X.hZ w4)) (mvT X.hZ wc) hy bk (g := mkF m pc Ls stk) rfl (by rw [X.hml]; exact hsz) (Steps.refl _) (by rw [X.eT]; exact qa) qb (argsL := argsL) (rest := rest) (lenOf hpd hlen) hstk (by show 2 * 0 + _ ≤ _; omega) (hb X.hby hd) (fun _ _ => ⟨rfl, X.eT, hc, hs⟩)
  dsimp only [Pt.U, Pt.locs, Pt.cells, Pt.slots] at X' l1 l2 l3 kk hQ hS2 hgr hC'
  subst l1 l2 l3
  obtain ⟨⟨K, rfl, hQ⟩, N⟩ := hQ
  obtain ⟨X2, hS3, hZ2, ho2⟩ := rebS hS (show k0 ≤ T.heap.size by rw [X.eT]; exact hk0) X' hS2 hgr X.hZ X.hown
  exact Run.tr kk (q _ _ _ _ (X.reH X2 rfl K hS3 (Nat.le_refl _) hZ2 ho2 hC' (fun x q => (hsf x q).2) (X.fr.app N)) K hC' hQ)
theorem k_callUVF (X : WP p l e R s m args below meth c Z own mname bytes maxL ret n0 Inv Sf T h locs cells slots) {y : MethodName} {index W : Nat} {bytes' : ByteArray} {maxL' : Nat} {ret' : Option FieldType} {rm : Room} {ws : List Addr} {Q : Value → Heap → Prop} {a : Addr} {C C1 : String} {y1 y2 : MethodName} {argsL rest stk : List Value} {ps : List FieldType} {rt : Option FieldType} (hd : decode bytes pc = .ok (.invokespecial index, 3)) (w1 : (Cond.methodLink own index y).before a0 Z = true) (w2 : (Cond.instanceMethod y).before a0 Z = true) (w3 : (Cond.selects C1 y1 y2).before a0 Z = true) (h12 : y2.cls = y.cls) (w4 : (Cond.superclass own y.cls).before a0 Z = true) (wz : (Cond.initialized y.cls).before a0 Z = true) (wc : (Cond.code y bytes' maxL' ret').before a0 Z = true) (hy : y.cls ≠ "java/lang/invoke/MethodHandle" ∧ y.cls ≠ "java/lang/invoke/VarHandle") (hin : y.name ≠ "<init>") (E : Ins Z h a C true) (hM : MetF l [] Z n0 y bytes' maxL' ret' rm (.ref a :: argsL).toArray h ws (fun r h' => ∃ w, r = some w ∧ Q w h')) (hstk : stk = argsL.reverse ++ .ref a :: rest) (hpd : parseMethodDescriptor y.desc = some ⟨ps, rt⟩) (hlen : argsL.length = ps.length) (hsz : Ls.size = maxL) (hfr : rm.frames + 1 ≤ R.frames) (hW : (rest.map fun v => v.category).sum ≤ W) (hlo : W + (maxL' + 11) + rm.locals ≤ R.locals) (hc : cells + rm.cells ≤ R.cells) (hs : slots + rm.slots ≤ R.slots) (hsf : ∀ x ∈ ws, Sf h x ∧ n0 ≤ x) (hp : pc + 3 = pc')
    (q : ∀ w T' h' L', WP p l e R s m args below meth c Z own mname bytes maxL ret n0 Inv Sf T' h' L' (cells + rm.cells) (slots + rm.slots) → Keep h h' ws → Q w h' → Run p.tables e below P T' (mkF m pc' Ls (w :: rest))) : Run p.tables e below P T (mkF m pc Ls stk) := by
  subst hp
  have bk := backOf (R := R) (p := p) (e := e) (below := below) (args := args) (len := 3) (W := W) (Q := fun r h' L => (Keep h h' ws ∧ (fun r h' => ∃ w, r = some w ∧ Q w h') r h') ∧ Fr n0 L) hM X.hZ wc wz hfr hlo
  obtain ⟨r, _, ⟨T', L', k', n'⟩, -, X', ⟨Lc, hQ, l1, l2, l3⟩, kk⟩ := Jvm.RoadKit.superBack X.1 X.hx X.hZ (y := y) X.hown w1 (sameP w2 w3 h12 hy) w2 w4 hin bk X.eT E (g := mkF m pc Ls stk) rfl (by rw [X.hml]; exact hsz) wc (argsL := argsL) (rest := rest) (lenOf hpd hlen) hstk (by show 2 * 0 + _ ≤ _; omega) (hb X.hby hd) (fun _ _ => ⟨rfl, X.eT, hc, hs⟩)
  dsimp only [Pt.U, Pt.locs, Pt.cells, Pt.slots] at X' l1 l2 l3 kk hQ
  subst l1 l2 l3
  obtain ⟨⟨K, w, rfl, hQ⟩, N⟩ := hQ
  exact Run.tr kk (q _ _ _ _ (X.mv X' rfl K hsf (X.fr.app N)) K hQ)
theorem k_callUNF (X : WP p l e R s m args below meth c Z own mname bytes maxL ret n0 Inv Sf T h locs cells slots) {y : MethodName} {index W : Nat} {bytes' : ByteArray} {maxL' : Nat} {ret' : Option FieldType} {rm : Room} {ws : List Addr} {Q : Heap → Prop} {a : Addr} {C C1 : String} {y1 y2 : MethodName} {argsL rest stk : List Value} {ps : List FieldType} {rt : Option FieldType} (hd : decode bytes pc = .ok (.invokespecial index, 3)) (w1 : (Cond.methodLink own index y).before a0 Z = true) (w2 : (Cond.instanceMethod y).before a0 Z = true) (w3 : (Cond.selects C1 y1 y2).before a0 Z = true) (h12 : y2.cls = y.cls) (w4 : (Cond.superclass own y.cls).before a0 Z = true) (wz : (Cond.initialized y.cls).before a0 Z = true) (wc : (Cond.code y bytes' maxL' ret').before a0 Z = true) (hy : y.cls ≠ "java/lang/invoke/MethodHandle" ∧ y.cls ≠ "java/lang/invoke/VarHandle") (hin : y.name ≠ "<init>") (E : Ins Z h a C true) (hM : MetF l [] Z n0 y bytes' maxL' ret' rm (.ref a :: argsL).toArray h ws (fun r h' => r = none ∧ Q h')) (hstk : stk = argsL.reverse ++ .ref a :: rest) (hpd : parseMethodDescriptor y.desc = some ⟨ps, rt⟩) (hlen : argsL.length = ps.length) (hsz : Ls.size = maxL) (hfr : rm.frames + 1 ≤ R.frames) (hW : (rest.map fun v => v.category).sum ≤ W) (hlo : W + (maxL' + 11) + rm.locals ≤ R.locals) (hc : cells + rm.cells ≤ R.cells) (hs : slots + rm.slots ≤ R.slots) (hsf : ∀ x ∈ ws, Sf h x ∧ n0 ≤ x) (hp : pc + 3 = pc')
    (q : ∀ T' h' L', WP p l e R s m args below meth c Z own mname bytes maxL ret n0 Inv Sf T' h' L' (cells + rm.cells) (slots + rm.slots) → Keep h h' ws → Q h' → Run p.tables e below P T' (mkF m pc' Ls (rest))) : Run p.tables e below P T (mkF m pc Ls stk) := by
  subst hp
  have bk := backOf (R := R) (p := p) (e := e) (below := below) (args := args) (len := 3) (W := W) (Q := fun r h' L => (Keep h h' ws ∧ (fun r h' => r = none ∧ Q h') r h') ∧ Fr n0 L) hM X.hZ wc wz hfr hlo
  obtain ⟨r, _, ⟨T', L', k', n'⟩, -, X', ⟨Lc, hQ, l1, l2, l3⟩, kk⟩ := Jvm.RoadKit.superBack X.1 X.hx X.hZ (y := y) X.hown w1 (sameP w2 w3 h12 hy) w2 w4 hin bk X.eT E (g := mkF m pc Ls stk) rfl (by rw [X.hml]; exact hsz) wc (argsL := argsL) (rest := rest) (lenOf hpd hlen) hstk (by show 2 * 0 + _ ≤ _; omega) (hb X.hby hd) (fun _ _ => ⟨rfl, X.eT, hc, hs⟩)
  dsimp only [Pt.U, Pt.locs, Pt.cells, Pt.slots] at X' l1 l2 l3 kk hQ
  subst l1 l2 l3
  obtain ⟨⟨K, rfl, hQ⟩, N⟩ := hQ
  exact Run.tr kk (q _ _ _ (X.mv X' rfl K hsf (X.fr.app N)) K hQ)
theorem k_callUVH {EL : List (String × Nat)} {v : Vm} (X : WP p l e R (s.setVm v) m args below meth c Z own mname bytes maxL ret n0 (InvH Z a0 EL s v) (Safe Z EL v) T h locs cells slots) {y : MethodName} {index W : Nat} {bytes' : ByteArray} {maxL' : Nat} {ret' : Option FieldType} {rm : Room} {ws : List Addr} {Q : Value → Vm → Heap → Prop} {a : Addr} {C C1 : String} {y1 y2 : MethodName} {argsL rest stk : List Value} {ps : List FieldType} {rt : Option FieldType} (hd : decode bytes pc = .ok (.invokespecial index, 3)) (w1 : (Cond.methodLink own index y).before a0 Z = true) (w2 : (Cond.instanceMethod y).before a0 Z = true) (w3 : (Cond.selects C1 y1 y2).before a0 Z = true) (h12 : y2.cls = y.cls) (w4 : (Cond.superclass own y.cls).before a0 Z = true) (wz : (Cond.initialized y.cls).before a0 Z = true) (wc : (Cond.code y bytes' maxL' ret').before a0 Z = true) (hy : y.cls ≠ "java/lang/invoke/MethodHandle" ∧ y.cls ≠ "java/lang/invoke/VarHandle") (hin : y.name ≠ "<init>") (E : Ins Z h a C true) (hM : MetH l [] Z EL n0 y bytes' maxL' ret' rm (.ref a :: argsL).toArray h ws (fun r v' h' => ∃ w, r = some w ∧ Q w v' h')) (hstk : stk = argsL.reverse ++ .ref a :: rest) (hpd : parseMethodDescriptor y.desc = some ⟨ps, rt⟩) (hlen : argsL.length = ps.length) (hsz : Ls.size = maxL) (hfr : rm.frames + 1 ≤ R.frames) (hW : (rest.map fun v => v.category).sum ≤ W) (hlo : W + (maxL' + 11) + rm.locals ≤ R.locals) (hc : cells + rm.cells ≤ R.cells) (hs : slots + rm.slots ≤ R.slots) (hsf : ∀ x ∈ ws, (x < h.size ∧ Safe Z EL v h x) ∧ n0 ≤ x) (hp : pc + 3 = pc')
    (q : ∀ w v' T' h' L', WP p l e R (s.setVm v') m args below meth c Z own mname bytes maxL ret n0 (InvH Z a0 EL s v') (Safe Z EL v') T' h' L' (cells + rm.cells) (slots + rm.slots) → Keep h h' ws → CHr Z EL v h v' h' → Q w v' h' → Run p.tables e below P T' (mkF m pc' Ls (w :: rest))) : Run p.tables e below P T (mkF m pc Ls stk) := by
  subst hp
  obtain ⟨hEL, hWv, ⟨k0, hS, hk0⟩, hC⟩ := X.inv
  have bk := backH (R := R) (p := p) (e := e) (below := below) (s := s) (args := args) (len := 3) (W := W) hM hWv wc wz hfr hlo hEL hC.1 (fun x q => (hsf x q).1)
  obtain ⟨r, _, ⟨T', L', k', n'⟩, -, X', hS2, hgr, ⟨Lc, hQ, l1, l2, l3, hC'⟩, kk⟩ := Jvm.RoadKit.superBackS X.1 X.hx X.hZ (y := y) X.hown w1 (sameP w2 w3 h12 hy) w2 w4 hin bk X.eT E (g := mkF m pc Ls stk) rfl (by rw [X.hml]; exact hsz) wc (argsL := argsL) (rest := rest) (lenOf hpd hlen) hstk (by show 2 * 0 + _ ≤ _; omega) (hb X.hby hd) (fun _ _ => ⟨rfl, X.eT, hc, hs⟩)
  dsimp only [Pt.U, Pt.locs, Pt.cells, Pt.slots] at X' l1 l2 l3 kk hQ hS2 hgr hC'
  subst l1 l2 l3
  obtain ⟨⟨K, w, rfl, hQ⟩, N⟩ := hQ
  obtain ⟨X2, hS3, hZ2, ho2⟩ := rebS hS (show k0 ≤ T.heap.size by rw [X.eT]; exact hk0) X' hS2 hgr X.hZ X.hown
  exact Run.tr kk (q _ _ _ _ _ (X.reH X2 rfl K hS3 (Nat.le_refl _) hZ2 ho2 hC' (fun x q => (hsf x q).2) (X.fr.app N)) K hC' hQ)
theorem k_callUNH {EL : List (String × Nat)} {v : Vm} (X : WP p l e R (s.setVm v) m args below meth c Z own mname bytes maxL ret n0 (InvH Z a0 EL s v) (Safe Z EL v) T h locs cells slots) {y : MethodName} {index W : Nat} {bytes' : ByteArray} {maxL' : Nat} {ret' : Option FieldType} {rm : Room} {ws : List Addr} {Q : Vm → Heap → Prop} {a : Addr} {C C1 : String} {y1 y2 : MethodName} {argsL rest stk : List Value} {ps : List FieldType} {rt : Option FieldType} (hd : decode bytes pc = .ok (.invokespecial index, 3)) (w1 : (Cond.methodLink own index y).before a0 Z = true) (w2 : (Cond.instanceMethod y).before a0 Z = true) (w3 : (Cond.selects C1 y1 y2).before a0 Z = true) (h12 : y2.cls = y.cls) (w4 : (Cond.superclass own y.cls).before a0 Z = true) (wz : (Cond.initialized y.cls).before a0 Z = true) (wc : (Cond.code y bytes' maxL' ret').before a0 Z = true) (hy : y.cls ≠ "java/lang/invoke/MethodHandle" ∧ y.cls ≠ "java/lang/invoke/VarHandle") (hin : y.name ≠ "<init>") (E : Ins Z h a C true) (hM : MetH l [] Z EL n0 y bytes' maxL' ret' rm (.ref a :: argsL).toArray h ws (fun r v' h' => r = none ∧ Q v' h')) (hstk : stk = argsL.reverse ++ .ref a :: rest) (hpd : parseMethodDescriptor y.desc = some ⟨ps, rt⟩) (hlen : argsL.length = ps.length) (hsz : Ls.size = maxL) (hfr : rm.frames + 1 ≤ R.frames) (hW : (rest.map fun v => v.category).sum ≤ W) (hlo : W + (maxL' + 11) + rm.locals ≤ R.locals) (hc : cells + rm.cells ≤ R.cells) (hs : slots + rm.slots ≤ R.slots) (hsf : ∀ x ∈ ws, (x < h.size ∧ Safe Z EL v h x) ∧ n0 ≤ x) (hp : pc + 3 = pc')
    (q : ∀ v' T' h' L', WP p l e R (s.setVm v') m args below meth c Z own mname bytes maxL ret n0 (InvH Z a0 EL s v') (Safe Z EL v') T' h' L' (cells + rm.cells) (slots + rm.slots) → Keep h h' ws → CHr Z EL v h v' h' → Q v' h' → Run p.tables e below P T' (mkF m pc' Ls (rest))) : Run p.tables e below P T (mkF m pc Ls stk) := by
  subst hp
  obtain ⟨hEL, hWv, ⟨k0, hS, hk0⟩, hC⟩ := X.inv
  have bk := backH (R := R) (p := p) (e := e) (below := below) (s := s) (args := args) (len := 3) (W := W) hM hWv wc wz hfr hlo hEL hC.1 (fun x q => (hsf x q).1)
  obtain ⟨r, _, ⟨T', L', k', n'⟩, -, X', hS2, hgr, ⟨Lc, hQ, l1, l2, l3, hC'⟩, kk⟩ := Jvm.RoadKit.superBackS X.1 X.hx X.hZ (y := y) X.hown w1 (sameP w2 w3 h12 hy) w2 w4 hin bk X.eT E (g := mkF m pc Ls stk) rfl (by rw [X.hml]; exact hsz) wc (argsL := argsL) (rest := rest) (lenOf hpd hlen) hstk (by show 2 * 0 + _ ≤ _; omega) (hb X.hby hd) (fun _ _ => ⟨rfl, X.eT, hc, hs⟩)
  dsimp only [Pt.U, Pt.locs, Pt.cells, Pt.slots] at X' l1 l2 l3 kk hQ hS2 hgr hC'
  subst l1 l2 l3
  obtain ⟨⟨K, rfl, hQ⟩, N⟩ := hQ
  obtain ⟨X2, hS3, hZ2, ho2⟩ := rebS hS (show k0 ≤ T.heap.size by rw [X.eT]; exact hk0) X' hS2 hgr X.hZ X.hown
  exact Run.tr kk (q _ _ _ _ (X.reH X2 rfl K hS3 (Nat.le_refl _) hZ2 ho2 hC' (fun x q => (hsf x q).2) (X.fr.app N)) K hC' hQ)
end Kit
end Own
end Jvm.Pilot.@@N@@
namespace Jvm.Pilot.@@N@@
open Jvm Jvm.ClassFile Sem Op Lib Jvm.Free Jvm.Stand Jvm.LawKit Jvm.RoadKit Bundle Jvm.Pilot.@@N@@.Jvm.D
section OwnProof
open Own
theorem own_nat {i : Nat} (h : i < 2147483648) : (Int32.ofNat i).toInt = (i : Int) := by
  rw [Int32.toInt_ofNat', show Int32.size = 4294967296 from rfl]; exact Int.bmod_eq_of_le (by omega) (by omega)
theorem own_nz {n : Nat} (h0 : 0 < n) (h1 : n < 2147483648) : ¬ Int32.ofNat n = 0 := fun q => by
  have e := congrArg Int32.toInt q
  rw [own_nat h1, show (0 : Int32).toInt = 0 from by decide] at e
  omega
theorem own_clamp {i : Nat} (h : i < 2147483648) : (Int32.ofNat i).toNatClampNeg = i := by
  show (Int32.ofNat i).toInt.toNat = i
  rw [own_nat h]; rfl
theorem own_nn {i : Nat} (h : i < 2147483648) : ¬ (Int32.ofNat i < 0) := by
  rw [Int32.lt_iff_toInt_lt, own_nat h]; show ¬ ((i : Int) < 0); omega
theorem own_lt {i n : Nat} (h : i < n) (hn : n < 2147483648) : Int32.ofNat i < Int32.ofNat n := by
  rw [Int32.lt_iff_toInt_lt, own_nat (by omega), own_nat hn]; omega
theorem own_succ (i : Nat) : Int32.ofNat i + Int32.ofInt 1 = Int32.ofNat (i + 1) := by
  rw [Int32.ofNat_add]; rfl
theorem own_shl1 {i : Nat} (h : i < 1073741824) : Int32.ofNat i <<< ((1 : Int32) &&& 31) = Int32.ofNat (2 * i) := by
  apply Int32.toInt_inj.mp
  have q := c_ishl (Int32.ofNat i) 1 1 (by decide)
  rw [own_nat (by omega)] at q
  rw [own_nat (by omega)]
  have := rng32 (Int32.ofNat i <<< ((1 : Int32) &&& 31))
  omega
theorem own_i2b (x : Int32) : nar .byte (x.toInt8.toInt32) = x.toInt8.toInt32 := by
  show x.toInt8.toInt32.toInt8.toInt32 = x.toInt8.toInt32
  rw [Int8.toInt8_toInt32]
def own_lo (c : Int32) : Value := .int c.toInt8.toInt32
/-- the bytes of a compact String -/
def own_lat (cs : List Int32) : List Value := cs.map own_lo
theorem own_latlen (cs : List Int32) : (own_lat cs).length = cs.length := by simp [own_lat]
theorem own_getc (cs : List Int32) (i : Nat) : (cs.map Value.int).getD i (.int 0) = .int (cs.getD i 0) := by
  simp only [List.getD_eq_getElem?_getD, List.getElem?_map]
  cases cs[i]? <;> rfl
theorem own_getc' (cs : List Int32) {i : Nat} (h : i < 2147483648) : (cs.map Value.int).getD (Int32.ofNat i).toNatClampNeg (.int 0) = .int (cs.getD i 0) := by
  rw [own_clamp h]; exact own_getc cs i
theorem own_turn (cs : List Int32) (vs : List Value) (i : Nat) (hi : i < cs.length) (hv : vs.length = cs.length) : ((cs.take i).map own_lo ++ vs.drop i).set i (.int (cs.getD i 0).toInt8.toInt32) = (cs.take (i + 1)).map own_lo ++ vs.drop (i + 1) := by
  apply List.ext_getElem?
  intro j
  by_cases hj : j = i
  · subst hj
    have h1 : j < ((cs.take j).map own_lo ++ vs.drop j).length := by simp; omega
    rw [List.getElem?_set_self h1, List.getElem?_append_left (by simp; omega)]
    simp [hi, own_lo, List.getD_eq_getElem?_getD]
  · rw [List.getElem?_set_ne (by omega)]
    by_cases hlt : j < i
    · rw [List.getElem?_append_left (by simp; omega), List.getElem?_append_left (by simp; omega)]
      simp [hlt, show j < i + 1 by omega]
    · rw [List.getElem?_append_right (by simp; omega), List.getElem?_append_right (by simp; omega)]
      simp only [List.length_map, List.length_take, List.getElem?_drop]
      congr 1; omega
theorem own_store {x0 x1 x2 x3 x4 x5 s6 : Slot} {v : Int32} (h : One s6) (h5 : ∃ w : Int32, x5 = .val (.int w)) : storeLocals #[x0, x1, x2, x3, x4, x5, s6] 6 (.int v) = some #[x0, x1, x2, x3, x4, x5, .val (.int v)] := by
  obtain ⟨w5, rfl⟩ := h5
  rcases h with rfl | ⟨w, rfl, hw⟩
  · rfl
  · cases w <;> first | rfl | (simp [Value.category] at hw)
/-- the first place of a sign above 255, or the length -/
def own_fst : List Int32 → Nat
  | [] => 0
  | c :: cs => if 255 < c then 0 else own_fst cs + 1
theorem own_fst_le : ∀ cs : List Int32, own_fst cs ≤ cs.length
  | [] => Nat.le_refl _
  | c :: cs => by
    unfold own_fst; split
    · simp
    · have := own_fst_le cs; simp; omega
theorem own_fst_lo : ∀ (cs : List Int32) (i : Nat), i < own_fst cs → ¬ 255 < cs.getD i 0
  | [], i, h => by simp [own_fst] at h
  | c :: cs, i, h => by
    unfold own_fst at h; split at h
    · omega
    · rename_i hc
      cases i with
      | zero => simpa using hc
      | succ i => simpa using own_fst_lo cs i (by omega)
theorem own_fst_hi : ∀ (cs : List Int32), own_fst cs < cs.length → 255 < cs.getD (own_fst cs) 0
  | [], h => by simp at h
  | c :: cs, h => by
    unfold own_fst at h ⊢; split
    · rename_i hc; simpa using hc
    · rename_i hc
      rw [if_neg hc] at h
      simpa using own_fst_hi cs (by simpa using h)
theorem own_fst_all : ∀ (cs : List Int32), (∀ c ∈ cs, ¬ 255 < c) → own_fst cs = cs.length
  | [], _ => rfl
  | c :: cs, h => by
    unfold own_fst
    rw [if_neg (h c (by simp)), own_fst_all cs fun x hx => h x (by simp [hx])]; simp
theorem own_rng {Z : State} {h : Heap} {b : Addr} {kb : ClassId} {z : Int32} {cs : List Int32} (A : Arv Z h b kb .char z (cs.map Value.int) (.int 0)) (hz : z = Int32.ofNat cs.length) (hn : cs.length < 2147483648) : ∀ i, i < cs.length → ¬ cs.getD i 0 < 0 ∧ ¬ 65535 < cs.getD i 0 := by
  intro i hi
  obtain ⟨cl, -, -, S, -, -, Gq⟩ := A
  have q := Gq i (by rw [S, hz, own_clamp hn]; exact hi)
  rw [own_getc] at q
  exact rng_char q
theorem own_and255 (x : Int32) : ¬ 255 < x &&& 255 := by
  have q := (c_and x 255 (by decide)).2
  rw [Int32.lt_iff_toInt_lt]; show ¬ ((255 : Int) < _); exact Int.not_lt.mpr q
theorem own_al0 : ∀ c ∈ ([] : List Int32), ¬ 255 < c := fun _ q => nomatch q
theorem own_alS {c : Int32} {L : List Int32} (q : ¬ 255 < c) (r : ∀ x ∈ L, ¬ 255 < x) : ∀ x ∈ c :: L, ¬ 255 < x := fun x z => (List.mem_cons.mp z).elim (fun u => u ▸ q) (r x)
def own_hi (c : Int32) : Value := .int (c >>> ((8 : Int32) &&& 31)).toInt8.toInt32
/-- the bytes of a String that is not compact -/
def own_u16 : List Int32 → List Value
  | [] => []
  | c :: cs => own_lo c :: own_hi c :: own_u16 cs
theorem own_u16len : ∀ cs : List Int32, (own_u16 cs).length = 2 * cs.length
  | [] => rfl
  | c :: cs => by simp [own_u16, own_u16len cs]; omega
theorem own_u16lo : ∀ (cs : List Int32) (j : Nat) (d : Value), j < cs.length → (own_u16 cs).getD (2 * j) d = own_lo (cs.getD j 0)
  | [], j, d, h => by simp at h
  | c :: cs, 0, d, h => by simp [own_u16]
  | c :: cs, j + 1, d, h => by
    have e : 2 * (j + 1) = 2 * j + 1 + 1 := by omega
    rw [e]; simpa [own_u16] using own_u16lo cs j d (by simpa using h)
theorem own_u16hi : ∀ (cs : List Int32) (j : Nat) (d : Value), j < cs.length → (own_u16 cs).getD (2 * j + 1) d = own_hi (cs.getD j 0)
  | [], j, d, h => by simp at h
  | c :: cs, 0, d, h => by simp [own_u16]
  | c :: cs, j + 1, d, h => by
    have e : 2 * (j + 1) + 1 = 2 * j + 1 + 1 + 1 := by omega
    rw [e]; simpa [own_u16] using own_u16hi cs j d (by simpa using h)
theorem own_u16turn : ∀ (cs : List Int32) (i : Nat), i < cs.length → ((own_u16 (cs.take i) ++ List.replicate (2 * (cs.length - i)) (Value.int (0 : Int32))).set (2 * i) (own_lo (cs.getD i 0))).set (2 * i + 1) (own_hi (cs.getD i 0)) = own_u16 (cs.take (i + 1)) ++ List.replicate (2 * (cs.length - (i + 1))) (Value.int (0 : Int32))
  | [], i, h => by simp at h
  | c :: cs, 0, h => by
    have e : 2 * ((c :: cs).length - 0) = 2 * cs.length + 1 + 1 := by simp; omega
    rw [e]; simp [own_u16, List.replicate_succ]
  | c :: cs, i + 1, h => by
    have e : 2 * (i + 1) = 2 * i + 1 + 1 := by omega
    have e2 : (c :: cs).length - (i + 1) = cs.length - i := by simp
    have e3 : (c :: cs).length - (i + 1 + 1) = cs.length - (i + 1) := by simp
    have q := own_u16turn cs i (by simpa using h)
    rw [e, e2, e3]
    simpa [own_u16] using q
theorem own_u16l (cs : List Int32) (i : Nat) (h : i ≤ cs.length) : (own_u16 (cs.take i) ++ List.replicate (2 * (cs.length - i)) (Value.int (0 : Int32))).length = 2 * cs.length := by
  rw [List.length_append, own_u16len, List.length_take, List.length_replicate, Nat.min_eq_left h]; omega
theorem own_shr0 (x : Int32) : x >>> ((0 : Int32) &&& 31) = x := by
  apply Int32.toInt_inj.mp
  rw [c_ishr x 0 0 (by decide)]; simp
theorem own_shl0 (x : Int32) : x <<< ((0 : Int32) &&& 31) = x := by
  apply Int32.toInt_inj.mp
  have q := c_ishl x 0 0 (by decide)
  have h1 := rng32 x; have h2 := rng32 (x <<< ((0 : Int32) &&& 31))
  omega
theorem own_join {c : Int32} (h0 : ¬ c < 0) (h1 : ¬ 65535 < c) : (((c.toInt8.toInt32 &&& 255) ||| (((c >>> ((8 : Int32) &&& 31)).toInt8.toInt32 &&& 255) <<< ((8 : Int32) &&& 31))).toUInt32.toUInt16.toUInt32.toInt32) = c := by
  have k0 : 0 ≤ c.toInt := by rw [Int32.lt_iff_toInt_lt] at h0; exact Int.not_lt.mp h0
  have k1 : c.toInt ≤ 65535 := by rw [Int32.lt_iff_toInt_lt] at h1; exact Int.not_lt.mp h1
  have a1 := c_i2b c
  have a2 := c_mask c.toInt8.toInt32 255 8 (by decide) (by decide)
  have b0 := c_ishr c 8 8 (by decide)
  have b1 := c_i2b (c >>> ((8 : Int32) &&& 31))
  have b2 := c_mask (c >>> ((8 : Int32) &&& 31)).toInt8.toInt32 255 8 (by decide) (by decide)
  generalize (c >>> ((8 : Int32) &&& 31)).toInt8.toInt32 = y at b1 b2 ⊢
  generalize c.toInt8.toInt32 = x at a1 a2 ⊢
  have b3 := c_ishl (y &&& 255) 8 8 (by decide)
  have r3 := rng32 ((y &&& 255) <<< ((8 : Int32) &&& 31))
  have v3 : ((y &&& 255) <<< ((8 : Int32) &&& 31)).toInt = (y &&& 255).toInt * 256 := by omega
  have o := c_or' (x &&& 255) ((y &&& 255) <<< ((8 : Int32) &&& 31)) 8 (by decide) 256 (by decide) (by rw [v3]; omega) (by omega) (by omega)
  have r4 := rng32 ((x &&& 255) ||| ((y &&& 255) <<< ((8 : Int32) &&& 31)))
  have f := c_i2c ((x &&& 255) ||| ((y &&& 255) <<< ((8 : Int32) &&& 31)))
  apply Int32.toInt_inj.mp
  omega
theorem own_neg31 {n : Nat} (h0 : 0 < n) (h1 : n < 1073741824) : (((Int32.ofNat n - Int32.ofNat (2 * n)).toUInt32 >>> ((31 : Int32) &&& 31).toUInt32).toInt32) = 1 := by
  apply Int32.toInt_inj.mp
  rw [c_iushr _ 31 31 (by decide) (by decide)]
  have q := c_isub (Int32.ofNat n) (Int32.ofNat (2 * n))
  rw [own_nat (by omega), own_nat (by omega)] at q
  have r := rng32 (Int32.ofNat n - Int32.ofNat (2 * n))
  show _ = (1 : Int)
  omega
/-- what a String of these signs holds -/
def own_cod (cs : List Int32) (cd zz : Int32) (bs : List Value) : Prop := (own_fst cs = cs.length ∧ cd = 0 ∧ zz = Int32.ofNat cs.length ∧ bs = own_lat cs) ∨ (own_fst cs < cs.length ∧ cd = 1 ∧ zz = Int32.ofNat (2 * cs.length) ∧ bs = own_u16 cs)
theorem own_all_of_fst {cs : List Int32} (h : own_fst cs = cs.length) : ∀ c ∈ cs, ¬ 255 < c := fun c hc => by
  obtain ⟨i, hi, e⟩ := List.getElem_of_mem hc
  have q := own_fst_lo cs i (by omega)
  rw [List.getD_eq_getElem?_getD, List.getElem?_eq_getElem hi] at q
  rw [← e]; simpa using q
theorem own_i2c_id {c : Int32} (h0 : ¬ c < 0) (h1 : ¬ 65535 < c) : nar .char c = c := by
  have k0 : 0 ≤ c.toInt := by rw [Int32.lt_iff_toInt_lt] at h0; exact Int.not_lt.mp h0
  have k1 : c.toInt ≤ 65535 := by rw [Int32.lt_iff_toInt_lt] at h1; exact Int.not_lt.mp h1
  have f := c_i2c c
  apply Int32.toInt_inj.mp
  show (c.toUInt32.toUInt16.toUInt32.toInt32).toInt = _
  omega
theorem own_cod_len {cs : List Int32} {cd zz : Int32} {bs : List Value} (h : own_cod cs cd zz bs) (hn : cs.length < 1073741824) : zz >>> (cd &&& 31) = Int32.ofNat cs.length := by
  rcases h with ⟨-, rfl, rfl, rfl⟩ | ⟨-, rfl, rfl, rfl⟩
  · exact own_shr0 _
  · apply Int32.toInt_inj.mp
    rw [c_ishr _ 1 1 (by decide), own_nat (by omega), own_nat (by omega)]; omega
theorem own_shr1 {n : Nat} (hn : n < 1073741824) : Int32.ofNat (2 * n) >>> ((1 : Int32) &&& 31) = Int32.ofNat n := by
  apply Int32.toInt_inj.mp
  rw [c_ishr _ 1 1 (by decide), own_nat (by omega), own_nat (by omega)]; omega
theorem own_cod_cd {cs : List Int32} {cd zz : Int32} {bs : List Value} (h : own_cod cs cd zz bs) : cd = 0 ∨ cd = 1 := by
  rcases h with ⟨-, rfl, -⟩ | ⟨-, rfl, -⟩
  · exact Or.inl rfl
  · exact Or.inr rfl
theorem own_nar01 {cd : Int32} (h : cd = 0 ∨ cd = 1) : nar .byte cd = cd := by rcases h with rfl | rfl <;> decide
theorem own_latget (cs : List Int32) {i : Nat} (hi : i < cs.length) (h : i < 2147483648) : (own_lat cs).getD (Int32.ofNat i).toNatClampNeg (.int (0 : Int32)) = .int (cs.getD i 0).toInt8.toInt32 := by
  rw [own_clamp h, own_lat, List.getD_eq_getElem?_getD, List.getD_eq_getElem?_getD, List.getElem?_map, List.getElem?_eq_getElem hi]; rfl
theorem own_back8 {c : Int32} (h0 : ¬ c < 0) (h1 : ¬ 255 < c) : ((c.toInt8.toInt32 &&& 255).toUInt32.toUInt16.toUInt32.toInt32) = c := by
  rw [i2c_mask]
  have k0 : 0 ≤ c.toInt := by rw [Int32.lt_iff_toInt_lt] at h0; exact Int.not_lt.mp h0
  have k1 : c.toInt ≤ 255 := by rw [Int32.lt_iff_toInt_lt] at h1; exact Int.not_lt.mp h1
  have a1 := c_i2b c
  have a2 := c_mask c.toInt8.toInt32 255 8 (by decide) (by decide)
  apply Int32.toInt_inj.mp
  omega
theorem own_255 {c : Int32} (h : ¬ 255 < c) : ¬ 65535 < c := by
  intro q; apply h; rw [Int32.lt_iff_toInt_lt] at q ⊢
  have : (65535 : Int32).toInt = 65535 := by decide
  have : (255 : Int32).toInt = 255 := by decide
  omega
theorem own_lat_rng {cs : List Int32} (hf : own_fst cs = cs.length) {i : Nat} (hi : i < cs.length) : ¬ 255 < cs.getD i 0 := own_fst_lo cs i (by omega)
/-- 1 where they are one text, else 0 -/
def own_eqv (cs ds : List Int32) : Int32 := if cs = ds then 1 else 0
def own_li (cs : List Int32) : List Int32 := cs.map fun c => c.toInt8.toInt32
theorem own_li_eq (cs : List Int32) : own_lat cs = (own_li cs).map Value.int := by simp [own_lat, own_li, own_lo, Function.comp_def]
def own_ui : List Int32 → List Int32
  | [] => []
  | c :: cs => c.toInt8.toInt32 :: (c >>> ((8 : Int32) &&& 31)).toInt8.toInt32 :: own_ui cs
theorem own_ui_eq : ∀ cs : List Int32, own_u16 cs = (own_ui cs).map Value.int
  | [] => rfl
  | c :: cs => by simp [own_u16, own_ui, own_lo, own_hi, own_ui_eq cs]
theorem own_li_len (cs : List Int32) : (own_li cs).length = cs.length := by simp [own_li]
theorem own_ui_len : ∀ cs : List Int32, (own_ui cs).length = 2 * cs.length
  | [] => rfl
  | c :: cs => by simp [own_ui, own_ui_len cs]; omega
theorem own_li_inj : ∀ {cs ds : List Int32}, (∀ c ∈ cs, ¬ c < 0 ∧ ¬ 255 < c) → (∀ c ∈ ds, ¬ c < 0 ∧ ¬ 255 < c) → own_li cs = own_li ds → cs = ds
  | [], [], _, _, _ => rfl
  | [], d :: ds, _, _, h => by simp [own_li] at h
  | c :: cs, [], _, _, h => by simp [own_li] at h
  | c :: cs, d :: ds, hc, hd, h => by
    simp only [own_li, List.map_cons, List.cons.injEq] at h
    have q1 := own_back8 (hc c (by simp)).1 (hc c (by simp)).2
    have q2 := own_back8 (hd d (by simp)).1 (hd d (by simp)).2
    rw [h.1, q2] at q1
    rw [q1, own_li_inj (fun x hx => hc x (by simp [hx])) (fun x hx => hd x (by simp [hx])) h.2]
theorem own_ui_inj : ∀ {cs ds : List Int32}, (∀ c ∈ cs, ¬ c < 0 ∧ ¬ 65535 < c) → (∀ c ∈ ds, ¬ c < 0 ∧ ¬ 65535 < c) → own_ui cs = own_ui ds → cs = ds
  | [], [], _, _, _ => rfl
  | [], d :: ds, _, _, h => by simp [own_ui] at h
  | c :: cs, [], _, _, h => by simp [own_ui] at h
  | c :: cs, d :: ds, hc, hd, h => by
    simp only [own_ui, List.cons.injEq] at h
    have q1 := own_join (hc c (by simp)).1 (hc c (by simp)).2
    have q2 := own_join (hd d (by simp)).1 (hd d (by simp)).2
    rw [h.1, h.2.1, q2] at q1
    rw [q1, own_ui_inj (fun x hx => hc x (by simp [hx])) (fun x hx => hd x (by simp [hx])) h.2.2]
theorem own_ext (is js : List Int32) (hl : is.length = js.length) (h : ∀ i, i < is.length → is.getD i 0 = js.getD i 0) : is = js := by
  apply List.ext_getElem hl
  intro i h1 h2
  have q := h i h1
  simpa [List.getD_eq_getElem?_getD, h1, h2] using q
/-- all signs are chars -/
def own_chs (cs : List Int32) : Prop := ∀ c ∈ cs, ¬ c < 0 ∧ ¬ 65535 < c
theorem own_chs_at {cs : List Int32} (h : own_chs cs) {i : Nat} (hi : i < cs.length) : ¬ cs.getD i 0 < 0 ∧ ¬ 65535 < cs.getD i 0 := by
  rw [List.getD_eq_getElem?_getD, List.getElem?_eq_getElem hi]; exact h _ (List.getElem_mem hi)
theorem own_cod_eq {cs ds : List Int32} {cd zz ze : Int32} {bs be : List Value} {ib ie : List Int32} (h1 : own_cod cs cd zz bs) (h2 : own_cod ds cd ze be) (k1 : own_chs cs) (k2 : own_chs ds) (e1 : bs = ib.map Value.int) (e2 : be = ie.map Value.int) : own_eqv ib ie = own_eqv cs ds := by
  have inj : ∀ {x y : List Int32}, x.map Value.int = y.map Value.int → x = y := fun {x y} q => by
    have := congrArg (List.map fun v => match v with | Value.int z => z | _ => 0) q
    simpa [Function.comp_def] using this
  have key : ib = ie ↔ cs = ds := by
    rcases h1 with ⟨f1, rfl, -, rfl⟩ | ⟨f1, rfl, -, rfl⟩
    · rcases h2 with ⟨f2, -, -, rfl⟩ | ⟨f2, q, -⟩
      · rw [own_li_eq] at e1 e2
        have a1 := inj e1; have a2 := inj e2
        subst a1 a2
        exact ⟨own_li_inj (fun c hc => ⟨(k1 c hc).1, own_all_of_fst f1 c hc⟩) (fun c hc => ⟨(k2 c hc).1, own_all_of_fst f2 c hc⟩), fun q => by rw [q]⟩
      · exact absurd q (by decide)
    · rcases h2 with ⟨f2, q, -⟩ | ⟨f2, -, -, rfl⟩
      · exact absurd q (by decide)
      · rw [own_ui_eq] at e1 e2
        have a1 := inj e1; have a2 := inj e2
        subst a1 a2
        exact ⟨own_ui_inj k1 k2, fun q => by rw [q]⟩
  unfold own_eqv
  by_cases q : cs = ds
  · rw [if_pos q, if_pos (key.mpr q)]
  · rw [if_neg q, if_neg fun r => q (key.mp r)]
theorem own_cod_ne {cs ds : List Int32} {cd ce zz ze : Int32} {bs be : List Value} (h1 : own_cod cs cd zz bs) (h2 : own_cod ds ce ze be) (hne : ¬ cd = ce) : own_eqv cs ds = 0 := by
  unfold own_eqv
  rw [if_neg]
  intro q; subst q
  rcases h1 with ⟨f1, rfl, -⟩ | ⟨f1, rfl, -⟩ <;> rcases h2 with ⟨f2, rfl, -⟩ | ⟨f2, rfl, -⟩ <;> first | exact hne rfl | omega
theorem own_cod_ints {cs : List Int32} {cd zz : Int32} {bs : List Value} (h : own_cod cs cd zz bs) : ∃ ib : List Int32, bs = ib.map Value.int ∧ zz = Int32.ofNat ib.length ∧ ib.length ≤ 2 * cs.length := by
  rcases h with ⟨-, -, rfl, rfl⟩ | ⟨-, -, rfl, rfl⟩
  · exact ⟨own_li cs, own_li_eq cs, by rw [own_li_len], by rw [own_li_len]; omega⟩
  · exact ⟨own_ui cs, own_ui_eq cs, by rw [own_ui_len], by rw [own_ui_len]; omega⟩
theorem own_eqv01 (cs ds : List Int32) : own_eqv cs ds = 0 ∨ own_eqv cs ds = 1 := by unfold own_eqv; split <;> simp
theorem own_nz01 {x : Int32} (h : x = 0 ∨ x = 1) : nar .boolean x = x := by rcases h with rfl | rfl <;> decide
theorem own_same_txt {Z : State} {h : Heap} {t : Addr} {k1 k2 : ClassId} {cd zz ze : Int32} {bs be : List Value} {cs ds : List Int32} (A : Arv Z h t k1 .byte zz bs (.int 0)) (B : Arv Z h t k2 .byte ze be (.int 0)) (h1 : own_cod cs cd zz bs) (h2 : own_cod ds cd ze be) (k1 : own_chs cs) (k2 : own_chs ds) (n1 : cs.length < 536870912) (n2 : ds.length < 536870912) : own_eqv cs ds = 1 := by
  obtain ⟨ib, ei, ezi, eli⟩ := own_cod_ints h1
  obtain ⟨ie, ej, ezj, elj⟩ := own_cod_ints h2
  have key := own_cod_eq h1 h2 k1 k2 ei ej
  rw [← key]
  apply if_pos
  have e1 : zz.toNatClampNeg = ib.length := by rw [ezi]; exact own_clamp (by omega)
  have e2 : ze.toNatClampNeg = ie.length := by rw [ezj]; exact own_clamp (by omega)
  have hl : ib.length = ie.length := by
    rcases Nat.decEq ib.length ie.length with q | q
    · exact absurd rfl (arv_ne A B (Or.inl (by rw [e1, e2]; exact q)))
    · exact q
  refine own_ext ib ie hl fun i hi => ?_
  rcases (inferInstance : Decidable (ib.getD i 0 = ie.getD i 0)) with q | q
  · refine absurd rfl (arv_ne A B (Or.inr ⟨i, by rw [e1]; exact hi, fun r => q ?_⟩))
    rw [ei, ej, own_getc, own_getc] at r
    exact Value.int.inj r
  · exact q
/-- the first place of the sign, or the length -/
def own_pos (ch : Int32) : List Int32 → Nat
  | [] => 0
  | c :: cs => if c = ch then 0 else own_pos ch cs + 1
theorem own_pos_le (ch : Int32) : ∀ cs : List Int32, own_pos ch cs ≤ cs.length
  | [] => Nat.le_refl _
  | c :: cs => by
    unfold own_pos; split
    · simp
    · have := own_pos_le ch cs; simp; omega
theorem own_pos_ne (ch : Int32) : ∀ (cs : List Int32) (i : Nat), i < own_pos ch cs → ¬ cs.getD i 0 = ch
  | [], i, h => by simp [own_pos] at h
  | c :: cs, i, h => by
    unfold own_pos at h; split at h
    · omega
    · rename_i hc
      cases i with
      | zero => simpa using hc
      | succ i => simpa using own_pos_ne ch cs i (by omega)
theorem own_pos_eq (ch : Int32) : ∀ (cs : List Int32), own_pos ch cs < cs.length → cs.getD (own_pos ch cs) 0 = ch
  | [], h => by simp at h
  | c :: cs, h => by
    unfold own_pos at h ⊢; split
    · rename_i hc; simpa using hc
    · rename_i hc
      rw [if_neg hc] at h
      simpa using own_pos_eq ch cs (by simpa using h)
/-- indexOf -/
def own_ix (ch : Int32) (cs : List Int32) : Int32 := if own_pos ch cs < cs.length then Int32.ofNat (own_pos ch cs) else -1
theorem own_b44 {c : Int32} (h0 : ¬ c < 0) (h1 : ¬ 255 < c) (ch : Int32) (k0 : ¬ ch < 0) (k1 : ¬ 255 < ch) : c.toInt8.toInt32 = ch.toInt8.toInt32 ↔ c = ch := by
  refine ⟨fun q => ?_, fun q => by rw [q]⟩
  have a := own_back8 h0 h1; have b := own_back8 k0 k1
  rw [q] at a; exact a.symm.trans b
theorem own_i2c_rng (x : Int32) : ¬ x.toUInt32.toUInt16.toUInt32.toInt32 < 0 ∧ ¬ 65535 < x.toUInt32.toUInt16.toUInt32.toInt32 := by
  have f := c_i2c x
  constructor
  · rw [Int32.lt_iff_toInt_lt, show (0 : Int32).toInt = 0 from by decide]; omega
  · rw [Int32.lt_iff_toInt_lt, show (65535 : Int32).toInt = 65535 from by decide]; omega
theorem own_c0 : own_chs [] := fun _ q => nomatch q
theorem own_cS {c : Int32} {L : List Int32} (q : ¬ c < 0 ∧ ¬ 65535 < c) (r : own_chs L) : own_chs (c :: L) := fun x z => (List.mem_cons.mp z).elim (fun u => u ▸ q) (r x)
theorem own_inj {a b : Nat} (ha : a < 2147483648) (hb : b < 2147483648) (h : Int32.ofNat a = Int32.ofNat b) : a = b := by
  have q := congrArg Int32.toNatClampNeg h
  rwa [own_clamp ha, own_clamp hb] at q
theorem own_subn {f n : Nat} : Int32.ofNat (f + n) - Int32.ofNat f = Int32.ofNat n := by
  rw [Int32.ofNat_add, Int32.add_comm, Int32.add_sub_cancel]
theorem own_subm {f n : Nat} (h : f ≤ n) : Int32.ofNat n - Int32.ofNat f = Int32.ofNat (n - f) := by
  rw [show Int32.ofNat n = Int32.ofNat (f + (n - f)) from by rw [Nat.add_sub_cancel' h]]; exact own_subn
theorem own_nlt {a b : Nat} (h : a ≤ b) (hb : b < 2147483648) : ¬ Int32.ofNat b < Int32.ofNat a := by
  rw [Int32.lt_iff_toInt_lt, own_nat hb, own_nat (by omega)]; omega
theorem own_orn {a b : Nat} (ha : a < 2147483648) (hb : b < 2147483648) : ¬ ((Int32.ofNat a ||| (0 : Int32)) ||| Int32.ofNat b) < 0 := by
  rw [Int32.or_zero]
  have e : Int32.ofNat a ||| Int32.ofNat b = Int32.ofNat (a ||| b) := by
    apply Int32.toBitVec_inj.mp
    rw [Int32.toBitVec_or, Int32.toBitVec_ofNat', Int32.toBitVec_ofNat', Int32.toBitVec_ofNat', BitVec.ofNat_or]
  rw [e]; exact own_nn (Nat.or_lt_two_pow (n := 31) ha hb)
theorem own_cpy (vs : List Value) (d : Value) (f n : Nat) (w : Value) (h : f + n ≤ vs.length) : (List.replicate n w).take 0 ++ (List.range n).map (fun i => vs.getD (f + i) d) ++ (List.replicate n w).drop (0 + n) = (vs.drop f).take n := by
  apply List.ext_getElem?
  intro j
  by_cases hj : j < n
  · simp [hj, List.getElem?_append, List.getElem?_take, List.getD_eq_getElem?_getD]
    rw [List.getElem?_eq_getElem (show f + j < vs.length by omega)]; rfl
  · simp [hj, List.getElem?_append, List.getElem?_take]
theorem own_gset {L : List Int32} {i j : Nat} {x : Int32} (h : i ≠ j) : (L.set i x).getD j 0 = L.getD j 0 := by
  rw [List.getD_eq_getElem?_getD, List.getElem?_set_ne h, List.getD_eq_getElem?_getD]
theorem own_gself {L : List Int32} {i : Nat} {x : Int32} (h : i < L.length) : (L.set i x).getD i 0 = x := by
  rw [List.getD_eq_getElem?_getD, List.getElem?_set_self h]; rfl
theorem own_grep (n j : Nat) : (List.replicate n (0 : Int32)).getD j 0 = 0 := by
  rw [List.getD_eq_getElem?_getD, List.getElem?_replicate]; split <;> rfl
theorem own_mset (cs : List Int32) (i : Nat) (x : Int32) : (cs.map Value.int).set i (.int x) = (cs.set i x).map Value.int := List.map_set.symm
theorem own_padz (n i : Nat) : ((List.replicate n (0 : Int32)).map Value.int).getD i (.int 0) = ([] : List Value).getD i (.int 0) := by
  rw [List.map_replicate, List.getD_eq_getElem?_getD, List.getElem?_replicate]; split <;> rfl
theorem own_takeg {cs : List Int32} {n i : Nat} (h : i < n) : (cs.take n).getD i 0 = cs.getD i 0 := by
  rw [List.getD_eq_getElem?_getD, List.getElem?_take_of_lt h, List.getD_eq_getElem?_getD]
def own_minv (x z : Int32) : Int32 := if z < x then z else x
theorem own_min_nat {a b : Nat} (ha : a < 2147483648) (hb : b < 2147483648) : own_minv (Int32.ofNat a) (Int32.ofNat b) = Int32.ofNat (min a b) := by
  unfold own_minv
  simp only [Int32.lt_iff_toInt_lt, own_nat ha, own_nat hb]
  by_cases h : b < a
  · rw [if_pos (by omega), Nat.min_eq_right (by omega)]
  · rw [if_neg (by omega), Nat.min_eq_left (by omega)]
theorem own_min_r {a b : Nat} (h : b ≤ a) (ha : a < 2147483648) : own_minv (Int32.ofNat a) (Int32.ofNat b) = Int32.ofNat b := by
  rw [own_min_nat ha (by omega), Nat.min_eq_right h]
theorem own_lat_cut (cs : List Int32) (f n : Nat) : ((own_lat cs).drop f).take n = own_lat ((cs.drop f).take n) := by
  simp [own_lat, List.map_drop, List.map_take]
theorem own_u16_take : ∀ (cs : List Int32) (n : Nat), (own_u16 cs).take (2 * n) = own_u16 (cs.take n)
  | [], n => by simp [own_u16]
  | c :: cs, 0 => by simp [own_u16]
  | c :: cs, n + 1 => by
    rw [show 2 * (n + 1) = 2 * n + 1 + 1 by omega]
    simp [own_u16, own_u16_take cs n]
theorem own_fst_cut {cs : List Int32} (h : own_fst cs = cs.length) (f n : Nat) : own_fst ((cs.drop f).take n) = ((cs.drop f).take n).length :=
  own_fst_all _ fun c hc => own_all_of_fst h c (List.mem_of_mem_drop (List.mem_of_mem_take hc))
theorem own_chs_take {cs : List Int32} (h : own_chs cs) (n : Nat) : own_chs (cs.take n) := fun c hc => h c (List.mem_of_mem_take hc)
theorem own_chs_set {cs : List Int32} (h : own_chs cs) {i : Nat} {x : Int32} (hx : ¬ x < 0 ∧ ¬ 65535 < x) : own_chs (cs.set i x) := fun c hc => by
  rcases List.mem_or_eq_of_mem_set hc with q | q
  · exact h c q
  · subst q; exact hx
theorem own_chs_rep (n : Nat) : own_chs (List.replicate n 0) := fun c hc => by
  rw [List.eq_of_mem_replicate hc]; decide
/-- lcmp's answer -/
def own_lc (x y : Int64) : Int32 := if x > y then 1 else if x = y then 0 else -1
theorem own_lc_eq {x y : Int64} (h : x = y) : own_lc x y = 0 := by
  subst h; unfold own_lc
  rw [if_neg (fun q => Int64.lt_irrefl q), if_pos rfl]
theorem own_lc_ne {x y : Int64} (h : ¬ x = y) : ¬ own_lc x y = 0 := by
  unfold own_lc
  rw [show (if x = y then (0 : Int32) else -1) = -1 from if_neg h]
  split <;> decide
def own_ush (x : Int64) (k : Int32) : Int64 := (x.toUInt64 >>> (k &&& 0x3f).toInt64.toUInt64).toInt64
def own_m1 (h : Int64) : Int64 := (h ^^^ own_ush h 30) * (-4658895280553007687)
def own_m2 (h : Int64) : Int64 := (h ^^^ own_ush h 27) * (-7723592293110705685)
def own_m3 (h : Int64) : Int64 := h ^^^ own_ush h 31
def own_fnv (h : Int64) (cs : List Int32) : Int64 := cs.foldl (fun h c => (h ^^^ c.toInt64) * 1099511628211) h
def own_mix (h : Int64) : Int64 := own_m3 (own_m2 (own_m1 h))
/-- the fingerprint -/
def own_fp (cs : List Int32) : Int64 := if own_mix (own_fnv (-3750763034362895579) cs) = 0 then 1 else own_mix (own_fnv (-3750763034362895579) cs)
theorem own_fp_nz (cs : List Int32) : ¬ own_fp cs = 0 := by
  unfold own_fp; split
  · decide
  · assumption
theorem own_fnv_turn (h : Int64) (cs : List Int32) (i : Nat) (hi : i < cs.length) : (own_fnv h (cs.take i) ^^^ (cs.getD i 0).toInt64) * 1099511628211 = own_fnv h (cs.take (i + 1)) := by
  unfold own_fnv
  rw [List.take_succ_eq_append_getElem hi, List.foldl_append]
  simp [List.getD_eq_getElem?_getD, hi]
theorem own_ush_bv (x : Int64) (k : Int32) (n : Nat) (h : ((k &&& 0x3f).toInt64.toUInt64.toBitVec % 64).toNat = n) : (own_ush x k).toBitVec = x.toBitVec >>> n := by
  subst h
  unfold own_ush
  show (x.toUInt64 >>> (k &&& 0x3f).toInt64.toUInt64).toBitVec = _
  rw [UInt64.toBitVec_shiftRight]; rfl
theorem own_xs (x : BitVec 64) (n : Nat) (h : 22 ≤ n) : (x ^^^ x >>> n) ^^^ (x ^^^ x >>> n) >>> n ^^^ (x ^^^ x >>> n) >>> (n + n) = x := by
  simp only [BitVec.ushiftRight_xor_distrib, ← BitVec.shiftRight_add]
  rw [BitVec.ushiftRight_eq_zero (show 64 ≤ n + (n + n) by omega)]
  generalize x >>> n = a
  generalize x >>> (n + n) = b
  rw [BitVec.xor_zero, BitVec.xor_assoc x a, ← BitVec.xor_assoc a a, BitVec.xor_self, BitVec.zero_xor, BitVec.xor_assoc, BitVec.xor_self, BitVec.xor_zero]
theorem own_xs_inj {x y : BitVec 64} {n : Nat} (h : 22 ≤ n) (e : x ^^^ x >>> n = y ^^^ y >>> n) : x = y := by
  rw [← own_xs x n h, e, own_xs y n h]
theorem own_xu_inj {x y : Int64} {k : Int32} {n : Nat} (hk : ((k &&& 0x3f).toInt64.toUInt64.toBitVec % 64).toNat = n) (h : 22 ≤ n) (e : x ^^^ own_ush x k = y ^^^ own_ush y k) : x = y := by
  have q := congrArg Int64.toBitVec e
  rw [Int64.toBitVec_xor, Int64.toBitVec_xor, own_ush_bv x k n hk, own_ush_bv y k n hk] at q
  exact Int64.toBitVec_inj.mp (own_xs_inj h q)
theorem own_mul_inj {x y c d : Int64} (hc : c * d = 1) (e : x * c = y * c) : x = y := by
  rw [← Int64.mul_one x, ← Int64.mul_one y, ← hc, ← Int64.mul_assoc, ← Int64.mul_assoc, e]
theorem own_mix_inj {x y : Int64} (e : own_mix x = own_mix y) : x = y := by
  unfold own_mix own_m3 at e
  have e1 := own_xu_inj (k := 31) (n := 31) (by decide) (by decide) e
  unfold own_m2 at e1
  have e2 := own_xu_inj (k := 27) (n := 27) (by decide) (by decide) (own_mul_inj (d := 3573116690164977347) (by decide) e1)
  unfold own_m1 at e2
  exact own_xu_inj (k := 30) (n := 30) (by decide) (by decide) (own_mul_inj (d := -7575587736534282103) (by decide) e2)
theorem own_mix0 : own_mix 0 = 0 := by decide
theorem own_wide {a b : Int32} (h : a.toInt64 = b.toInt64) : a = b := by
  have q := congrArg Int64.toInt h
  rw [Int32.toInt_toInt64, Int32.toInt_toInt64] at q
  exact Int32.toInt_inj.mp q
theorem own_f1 (c : Int32) : own_fnv (-3750763034362895579) [c] = ((-3750763034362895579) ^^^ c.toInt64) * 1099511628211 := rfl
theorem own_xc {x y z : Int64} (h : x ^^^ y = x ^^^ z) : y = z := by
  have q := congrArg (fun t => x ^^^ t) h
  simpa [← Int64.xor_assoc] using q
theorem own_f1_nz {c : Int32} (h : ¬ c < 0) : ¬ own_fnv (-3750763034362895579) [c] = 0 := fun q => by
  rw [own_f1] at q
  have e := own_mul_inj (x := (-3750763034362895579) ^^^ c.toInt64) (y := 0) (c := 1099511628211) (d := -3560570117845248645) (by decide) (by rw [q, Int64.zero_mul])
  have f : c.toInt64 = -3750763034362895579 := own_xc (x := -3750763034362895579) (by rw [e, Int64.xor_self])
  have g := congrArg Int64.toInt f
  rw [Int32.toInt_toInt64] at g
  rw [Int32.lt_iff_toInt_lt] at h
  have : (0 : Int32).toInt = 0 := by decide
  have : (-3750763034362895579 : Int64).toInt = -3750763034362895579 := by decide
  omega
theorem own_fp_inj {a b : Int32} (ha : ¬ a < 0) (hb : ¬ b < 0) (e : own_fp [a] = own_fp [b]) : a = b := by
  have na : ¬ own_mix (own_fnv (-3750763034362895579) [a]) = 0 := fun q => own_f1_nz ha (own_mix_inj (q.trans own_mix0.symm))
  have nb : ¬ own_mix (own_fnv (-3750763034362895579) [b]) = 0 := fun q => own_f1_nz hb (own_mix_inj (q.trans own_mix0.symm))
  unfold own_fp at e
  rw [if_neg na, if_neg nb] at e
  have q := own_mix_inj e
  rw [own_f1, own_f1] at q
  exact own_wide (own_xc (own_mul_inj (d := -3560570117845248645) (by decide) q))
theorem own_getl (L : List Int64) (i : Nat) : (L.map Value.long).getD i (.long 0) = .long (L.getD i 0) := by
  simp only [List.getD_eq_getElem?_getD, List.getElem?_map]
  cases L[i]? <;> rfl
theorem own_getl' (L : List Int64) {i : Nat} (h : i < 2147483648) : (L.map Value.long).getD (Int32.ofNat i).toNatClampNeg (.long 0) = .long (L.getD i 0) := by
  rw [own_clamp h]; exact own_getl L i
theorem own_padl (n i : Nat) : ((List.replicate n (0 : Int64)).map Value.long).getD i (.long 0) = ([] : List Value).getD i (.long 0) := by
  rw [List.map_replicate, List.getD_eq_getElem?_getD, List.getElem?_replicate]; split <;> rfl
theorem own_lset (L : List Int64) (i : Nat) (x : Int64) : (L.map Value.long).set i (.long x) = (L.set i x).map Value.long := List.map_set.symm
theorem own_sne {L : List Int64} {i j : Nat} {x : Int64} (h : i ≠ j) : (L.set i x).getD j 0 = L.getD j 0 := by
  rw [List.getD_eq_getElem?_getD, List.getElem?_set_ne h, List.getD_eq_getElem?_getD]
theorem own_sself {L : List Int64} {i : Nat} {x : Int64} (h : i < L.length) : (L.set i x).getD i 0 = x := by
  rw [List.getD_eq_getElem?_getD, List.getElem?_set_self h]; rfl
theorem own_rep0 (n j : Nat) : (List.replicate n (0 : Int64)).getD j 0 = 0 := by
  rw [List.getD_eq_getElem?_getD, List.getElem?_replicate]; split <;> rfl
/-- where the probe begins -/
def own_st (f : Int64) : Nat := (f.toInt32 &&& 1023).toNatClampNeg
theorem own_m1023 (x : Int32) : (x &&& 1023).toInt = x.toInt % 1024 := by
  have q := c_mask x 1023 10 (by decide) (by decide)
  rw [show ((2 ^ 10 : Nat) : Int) = 1024 from by decide] at q; exact q
theorem own_st_lt (f : Int64) : own_st f < 1024 := by
  have q := own_m1023 f.toInt32
  show (f.toInt32 &&& 1023).toInt.toNat < 1024
  omega
theorem own_st_eq (f : Int64) : f.toInt32 &&& 1023 = Int32.ofNat (own_st f) := by
  apply Int32.toInt_inj.mp
  have l := own_st_lt f
  rw [own_nat (by omega)]
  have q := own_m1023 f.toInt32
  show _ = (((f.toInt32 &&& 1023).toInt.toNat : Nat) : Int)
  omega
theorem own_nx (s : Nat) (h : s < 1024) : (Int32.ofNat s + 1) &&& 1023 = Int32.ofNat ((s + 1) % 1024) := by
  apply Int32.toInt_inj.mp
  rw [own_m1023, own_nat (by omega)]
  have a := c_iadd (Int32.ofNat s) 1
  rw [own_nat (by omega), show (1 : Int32).toInt = 1 from by decide] at a
  have r := rng32 (Int32.ofNat s + 1)
  omega
def own_go (L : List Int64) (f : Int64) : Nat → Nat → Nat
  | 0, s => s
  | n + 1, s => if L.getD s 0 = 0 ∨ L.getD s 0 = f then s else own_go L f n ((s + 1) % 1024)
/-- the slot that the probe finds -/
def own_slot (L : List Int64) (f : Int64) : Nat := own_go L f 4 (own_st f)
theorem own_go_lt (L : List Int64) (f : Int64) : ∀ (n s : Nat), s < 1024 → own_go L f n s < 1024
  | 0, s, h => h
  | n + 1, s, h => by
    unfold own_go; split
    · exact h
    · exact own_go_lt L f n _ (Nat.mod_lt _ (by decide))
theorem own_slot_lt (L : List Int64) (f : Int64) : own_slot L f < 1024 := own_go_lt L f 4 _ (own_st_lt f)
/-- the table holds f where its probe ends -/
def own_hit (L : List Int64) (f : Int64) : Prop := L.getD (own_slot L f) 0 = f
/-- from each place a free slot is near -/
def own_free (L : List Int64) : Prop := ∀ s, s < 1024 → ∃ n, n ≤ 3 ∧ L.getD ((s + n) % 1024) 0 = 0
theorem own_go_end (L : List Int64) (f : Int64) : ∀ (n s : Nat), s < 1024 → (∃ k, k ≤ n ∧ L.getD ((s + k) % 1024) 0 = 0) → L.getD (own_go L f (n + 1) s) 0 = 0 ∨ L.getD (own_go L f (n + 1) s) 0 = f
  | n, s, hs, ⟨k, hk, hz⟩ => by
    unfold own_go
    by_cases q : L.getD s 0 = 0 ∨ L.getD s 0 = f
    · rw [if_pos q]; exact q
    · rw [if_neg q]
      match n, k with
      | _, 0 => rw [Nat.add_zero, Nat.mod_eq_of_lt hs] at hz; exact absurd (Or.inl hz) q
      | 0, k + 1 => omega
      | n + 1, k + 1 => exact own_go_end L f n _ (Nat.mod_lt _ (by decide)) ⟨k, by omega, by rw [Nat.mod_add_mod, Nat.add_assoc, Nat.add_comm 1 k]; exact hz⟩
theorem own_slot_end {L : List Int64} (h : own_free L) (f : Int64) : L.getD (own_slot L f) 0 = 0 ∨ L.getD (own_slot L f) 0 = f := own_go_end L f 3 _ (own_st_lt f) (h _ (own_st_lt f))
theorem own_go_keep {L : List Int64} {f : Int64} (hf : ¬ f = 0) {i : Nat} (hi : L.getD i 0 = 0) (g : Int64) : ∀ (n s : Nat), L.getD (own_go L f n s) 0 = f → own_go (L.set i g) f n s = own_go L f n s
  | 0, s, h => rfl
  | n + 1, s, h => by
    unfold own_go at h ⊢
    by_cases q : L.getD s 0 = 0 ∨ L.getD s 0 = f
    · rw [if_pos q] at h
      have hne : i ≠ s := fun e => hf (by rw [← h, ← e, hi])
      rw [own_sne hne, if_pos q, if_pos q]
    · rw [if_neg q] at h
      have hne : i ≠ s := fun e => q (Or.inl (by rw [← e, hi]))
      rw [own_sne hne, if_neg q, if_neg q]
      exact own_go_keep hf hi g n _ h
theorem own_go_put {L : List Int64} {f : Int64} {r : Nat} (hr : r < L.length) (h0 : L.getD r 0 = 0) : ∀ (n s : Nat), own_go L f n s = r → own_go (L.set r f) f n s = r
  | 0, s, h => h
  | n + 1, s, h => by
    unfold own_go at h ⊢
    by_cases q : L.getD s 0 = 0 ∨ L.getD s 0 = f
    · rw [if_pos q] at h
      subst h
      rw [own_sself hr, if_pos (Or.inr rfl)]
    · rw [if_neg q] at h
      have hne : r ≠ s := fun e => q (Or.inl (by rw [← e, h0]))
      rw [own_sne hne, if_neg q]
      exact own_go_put hr h0 n _ h
/-- at most k slots are taken -/
def own_T (k : Nat) (L : List Int64) : Prop := L.length = 1024 ∧ ∃ S : List Nat, S.length ≤ k ∧ ∀ i, i ∉ S → L.getD i 0 = 0
theorem own_T0 : own_T 0 (List.replicate 1024 0) := ⟨List.length_replicate, [], Nat.le_refl _, fun i _ => own_rep0 _ _⟩
theorem own_Tset {k : Nat} {L : List Int64} (h : own_T k L) (i : Nat) (g : Int64) : own_T (k + 1) (L.set i g) := by
  obtain ⟨hl, S, hS, hz⟩ := h
  refine ⟨by simp [hl], i :: S, by simp; omega, fun j hj => ?_⟩
  simp only [List.mem_cons, not_or] at hj
  rw [own_sne (Ne.symm hj.1)]; exact hz j hj.2
theorem own_Tup {k n : Nat} {L : List Int64} (h : own_T k L) (hk : k ≤ n) : own_T n L := by
  obtain ⟨hl, S, hS, hz⟩ := h
  exact ⟨hl, S, by omega, hz⟩
theorem own_Tfree {L : List Int64} (h : own_T 3 L) : own_free L := by
  obtain ⟨hl, S, hS, hz⟩ := h
  intro s hs
  by_cases q0 : (s + 0) % 1024 ∈ S
  · by_cases q1 : (s + 1) % 1024 ∈ S
    · by_cases q2 : (s + 2) % 1024 ∈ S
      · by_cases q3 : (s + 3) % 1024 ∈ S
        · exfalso
          match S, hS with
          | [], _ => cases q0
          | [a], _ => simp only [List.mem_cons, List.not_mem_nil, or_false] at *; omega
          | [a, b], _ => simp only [List.mem_cons, List.not_mem_nil, or_false] at *; omega
          | [a, b, c], _ => simp only [List.mem_cons, List.not_mem_nil, or_false] at *; omega
        · exact ⟨3, by decide, hz _ q3⟩
      · exact ⟨2, by decide, hz _ q2⟩
    · exact ⟨1, by decide, hz _ q1⟩
  · exact ⟨0, by decide, hz _ q0⟩
theorem own_hit_keep {L : List Int64} {f : Int64} (hf : ¬ f = 0) (h : own_hit L f) {i : Nat} (hi : L.getD i 0 = 0) (g : Int64) : own_hit (L.set i g) f := by
  unfold own_hit own_slot at *
  rw [own_go_keep hf hi g 4 _ h, own_sne, h]
  intro e; exact hf (by rw [← h, ← e, hi])
theorem own_miss0 {L : List Int64} {f : Int64} (hF : own_free L) (h : ¬ own_hit L f) : L.getD (own_slot L f) 0 = 0 := (own_slot_end hF f).resolve_right h
theorem own_hit_put {L : List Int64} {f : Int64} (hl : L.length = 1024) (hF : own_free L) (h : ¬ own_hit L f) : own_hit (L.set (own_slot L f) f) f := by
  have z := own_miss0 hF h
  have lt : own_slot L f < L.length := hl ▸ own_slot_lt L f
  have e : own_slot (L.set (own_slot L f) f) f = own_slot L f := own_go_put lt z 4 _ rfl
  unfold own_hit
  rw [e]; exact own_sself lt
theorem own_no0 {f : Int64} (hf : ¬ f = 0) : ¬ own_hit (List.replicate 1024 0) f := fun q => hf (by unfold own_hit at q; rw [own_rep0] at q; exact q.symm)
theorem own_no1 {f g : Int64} (hg : ¬ g = 0) (hne : ¬ f = g) (i : Nat) : ¬ own_hit ((List.replicate 1024 0).set i f) g := fun q => by
  unfold own_hit at q
  rcases Nat.decEq i (own_slot ((List.replicate 1024 0).set i f) g) with e | e
  · rw [own_sne e, own_rep0] at q; exact hg q.symm
  · rw [← e] at q
    by_cases hi : i < 1024
    · rw [own_sself (by rw [List.length_replicate]; exact hi)] at q; exact hne q
    · rw [List.getD_eq_getElem?_getD, List.getElem?_eq_none (by rw [List.length_set, List.length_replicate]; omega)] at q; exact hg q.symm
theorem own_cod1L {c : Int32} (h : ¬ 255 < c) : own_cod [c] 0 1 (own_lat [c]) := Or.inl ⟨by simp [own_fst, h], rfl, rfl, rfl⟩
theorem own_cod1U {c : Int32} (h : 255 < c) : own_cod [c] 1 2 (own_u16 [c]) := Or.inr ⟨by simp [own_fst, h], rfl, rfl, rfl⟩
theorem own_eqv_ne {cs ds : List Int32} (h : ¬ cs = ds) : own_eqv cs ds = 0 := if_neg h
theorem own_eqv_eq {cs ds : List Int32} (h : cs = ds) : ¬ own_eqv cs ds = 0 := by unfold own_eqv; rw [if_pos h]; decide
theorem d_jdk_41_11_0 : decode jdk_41_method_11_code 0 = .ok (.iload_n 0, 1) := by decide +kernel
theorem d_jdk_41_11_1 : decode jdk_41_method_11_code 1 = .ok (.ifCond .lt 8, 3) := by decide +kernel
theorem d_jdk_41_11_4 : decode jdk_41_method_11_code 4 = .ok (.iload_n 0, 1) := by decide +kernel
theorem d_jdk_41_11_5 : decode jdk_41_method_11_code 5 = .ok (.iload_n 1, 1) := by decide +kernel
theorem d_jdk_41_11_6 : decode jdk_41_method_11_code 6 = .ok (.if_icmp .lt 10, 3) := by decide +kernel
theorem d_jdk_41_11_16 : decode jdk_41_method_11_code 16 = .ok (.iload_n 0, 1) := by decide +kernel
theorem d_jdk_41_11_17 : decode jdk_41_method_11_code 17 = .ok (.ireturn, 1) := by decide +kernel
theorem d_jdk_42_139_0 : decode jdk_42_method_139_code 0 = .ok (.getstatic 38, 3) := by decide +kernel
theorem d_jdk_42_139_3 : decode jdk_42_method_139_code 3 = .ok (.ifCond .eq 23, 3) := by decide +kernel
theorem d_jdk_42_139_6 : decode jdk_42_method_139_code 6 = .ok (.iload_n 0, 1) := by decide +kernel
theorem d_jdk_42_139_7 : decode jdk_42_method_139_code 7 = .ok (.invokestatic 1015, 3) := by decide +kernel
theorem d_jdk_42_139_10 : decode jdk_42_method_139_code 10 = .ok (.ifCond .eq 16, 3) := by decide +kernel
theorem d_jdk_42_139_13 : decode jdk_42_method_139_code 13 = .ok (.new 10, 3) := by decide +kernel
theorem d_jdk_42_139_16 : decode jdk_42_method_139_code 16 = .ok (.dup, 1) := by decide +kernel
theorem d_jdk_42_139_17 : decode jdk_42_method_139_code 17 = .ok (.iload_n 0, 1) := by decide +kernel
theorem d_jdk_42_139_18 : decode jdk_42_method_139_code 18 = .ok (.invokestatic 1018, 3) := by decide +kernel
theorem d_jdk_42_139_21 : decode jdk_42_method_139_code 21 = .ok (.iconst 0, 1) := by decide +kernel
theorem d_jdk_42_139_22 : decode jdk_42_method_139_code 22 = .ok (.invokespecial 209, 3) := by decide +kernel
theorem d_jdk_42_139_25 : decode jdk_42_method_139_code 25 = .ok (.areturn, 1) := by decide +kernel
theorem d_jdk_42_139_26 : decode jdk_42_method_139_code 26 = .ok (.new 10, 3) := by decide +kernel
theorem d_jdk_42_139_29 : decode jdk_42_method_139_code 29 = .ok (.dup, 1) := by decide +kernel
theorem d_jdk_42_139_30 : decode jdk_42_method_139_code 30 = .ok (.iload_n 0, 1) := by decide +kernel
theorem d_jdk_42_139_31 : decode jdk_42_method_139_code 31 = .ok (.invokestatic 1021, 3) := by decide +kernel
theorem d_jdk_42_139_34 : decode jdk_42_method_139_code 34 = .ok (.iconst 1, 1) := by decide +kernel
theorem d_jdk_42_139_35 : decode jdk_42_method_139_code 35 = .ok (.invokespecial 209, 3) := by decide +kernel
theorem d_jdk_42_139_38 : decode jdk_42_method_139_code 38 = .ok (.areturn, 1) := by decide +kernel
theorem d_jdk_42_149_0 : decode jdk_42_method_149_code 0 = .ok (.aload_n 0, 1) := by decide +kernel
theorem d_jdk_42_149_1 : decode jdk_42_method_149_code 1 = .ok (.invokespecial 1, 3) := by decide +kernel
theorem d_jdk_42_149_4 : decode jdk_42_method_149_code 4 = .ok (.iload_n 3, 1) := by decide +kernel
theorem d_jdk_42_149_5 : decode jdk_42_method_149_code 5 = .ok (.ifCond .ne 22, 3) := by decide +kernel
theorem d_jdk_42_149_8 : decode jdk_42_method_149_code 8 = .ok (.aload_n 0, 1) := by decide +kernel
theorem d_jdk_42_149_9 : decode jdk_42_method_149_code 9 = .ok (.ldc 7, 2) := by decide +kernel
theorem d_jdk_42_149_11 : decode jdk_42_method_149_code 11 = .ok (.getfield 9, 3) := by decide +kernel
theorem d_jdk_42_149_14 : decode jdk_42_method_149_code 14 = .ok (.putfield 9, 3) := by decide +kernel
theorem d_jdk_42_149_17 : decode jdk_42_method_149_code 17 = .ok (.aload_n 0, 1) := by decide +kernel
theorem d_jdk_42_149_18 : decode jdk_42_method_149_code 18 = .ok (.ldc 7, 2) := by decide +kernel
theorem d_jdk_42_149_20 : decode jdk_42_method_149_code 20 = .ok (.getfield 15, 3) := by decide +kernel
theorem d_jdk_42_149_23 : decode jdk_42_method_149_code 23 = .ok (.putfield 15, 3) := by decide +kernel
theorem d_jdk_42_149_26 : decode jdk_42_method_149_code 26 = .ok (.return_, 1) := by decide +kernel
theorem d_jdk_42_149_27 : decode jdk_42_method_149_code 27 = .ok (.getstatic 38, 3) := by decide +kernel
theorem d_jdk_42_149_30 : decode jdk_42_method_149_code 30 = .ok (.ifCond .eq 28, 3) := by decide +kernel
theorem d_jdk_42_149_33 : decode jdk_42_method_149_code 33 = .ok (.aload_n 1, 1) := by decide +kernel
theorem d_jdk_42_149_34 : decode jdk_42_method_149_code 34 = .ok (.iload_n 2, 1) := by decide +kernel
theorem d_jdk_42_149_35 : decode jdk_42_method_149_code 35 = .ok (.iload_n 3, 1) := by decide +kernel
theorem d_jdk_42_149_36 : decode jdk_42_method_149_code 36 = .ok (.invokestatic 177, 3) := by decide +kernel
theorem d_jdk_42_149_39 : decode jdk_42_method_149_code 39 = .ok (.astore 5, 2) := by decide +kernel
theorem d_jdk_42_149_41 : decode jdk_42_method_149_code 41 = .ok (.aload_n 0, 1) := by decide +kernel
theorem d_jdk_42_149_42 : decode jdk_42_method_149_code 42 = .ok (.aload 5, 2) := by decide +kernel
theorem d_jdk_42_149_44 : decode jdk_42_method_149_code 44 = .ok (.iload_n 3, 1) := by decide +kernel
theorem d_jdk_42_149_45 : decode jdk_42_method_149_code 45 = .ok (.invokestatic 47, 3) := by decide +kernel
theorem d_jdk_42_149_48 : decode jdk_42_method_149_code 48 = .ok (.putfield 15, 3) := by decide +kernel
theorem d_jdk_42_149_51 : decode jdk_42_method_149_code 51 = .ok (.aload_n 0, 1) := by decide +kernel
theorem d_jdk_42_149_52 : decode jdk_42_method_149_code 52 = .ok (.aload 5, 2) := by decide +kernel
theorem d_jdk_42_149_54 : decode jdk_42_method_149_code 54 = .ok (.putfield 9, 3) := by decide +kernel
theorem d_jdk_42_149_57 : decode jdk_42_method_149_code 57 = .ok (.return_, 1) := by decide +kernel
theorem d_jdk_42_151_0 : decode jdk_42_method_151_code 0 = .ok (.aload_n 0, 1) := by decide +kernel
theorem d_jdk_42_151_1 : decode jdk_42_method_151_code 1 = .ok (.invokespecial 1, 3) := by decide +kernel
theorem d_jdk_42_151_4 : decode jdk_42_method_151_code 4 = .ok (.aload_n 0, 1) := by decide +kernel
theorem d_jdk_42_151_5 : decode jdk_42_method_151_code 5 = .ok (.aload_n 1, 1) := by decide +kernel
theorem d_jdk_42_151_6 : decode jdk_42_method_151_code 6 = .ok (.putfield 9, 3) := by decide +kernel
theorem d_jdk_42_151_9 : decode jdk_42_method_151_code 9 = .ok (.aload_n 0, 1) := by decide +kernel
theorem d_jdk_42_151_10 : decode jdk_42_method_151_code 10 = .ok (.iload_n 2, 1) := by decide +kernel
theorem d_jdk_42_151_11 : decode jdk_42_method_151_code 11 = .ok (.putfield 15, 3) := by decide +kernel
theorem d_jdk_42_151_14 : decode jdk_42_method_151_code 14 = .ok (.return_, 1) := by decide +kernel
theorem d_jdk_42_152_0 : decode jdk_42_method_152_code 0 = .ok (.getstatic 38, 3) := by decide +kernel
theorem d_jdk_42_152_3 : decode jdk_42_method_152_code 3 = .ok (.ifCond .eq 10, 3) := by decide +kernel
theorem d_jdk_42_152_6 : decode jdk_42_method_152_code 6 = .ok (.aload_n 0, 1) := by decide +kernel
theorem d_jdk_42_152_7 : decode jdk_42_method_152_code 7 = .ok (.getfield 15, 3) := by decide +kernel
theorem d_jdk_42_152_10 : decode jdk_42_method_152_code 10 = .ok (.goto 4, 3) := by decide +kernel
theorem d_jdk_42_152_14 : decode jdk_42_method_152_code 14 = .ok (.ireturn, 1) := by decide +kernel
theorem d_jdk_42_154_0 : decode jdk_42_method_154_code 0 = .ok (.getstatic 38, 3) := by decide +kernel
theorem d_jdk_42_154_3 : decode jdk_42_method_154_code 3 = .ok (.ifCond .eq 14, 3) := by decide +kernel
theorem d_jdk_42_154_6 : decode jdk_42_method_154_code 6 = .ok (.aload_n 0, 1) := by decide +kernel
theorem d_jdk_42_154_7 : decode jdk_42_method_154_code 7 = .ok (.getfield 15, 3) := by decide +kernel
theorem d_jdk_42_154_10 : decode jdk_42_method_154_code 10 = .ok (.ifCond .ne 7, 3) := by decide +kernel
theorem d_jdk_42_154_13 : decode jdk_42_method_154_code 13 = .ok (.iconst 1, 1) := by decide +kernel
theorem d_jdk_42_154_14 : decode jdk_42_method_154_code 14 = .ok (.goto 4, 3) := by decide +kernel
theorem d_jdk_42_154_17 : decode jdk_42_method_154_code 17 = .ok (.iconst 0, 1) := by decide +kernel
theorem d_jdk_42_154_18 : decode jdk_42_method_154_code 18 = .ok (.ireturn, 1) := by decide +kernel
theorem d_jdk_42_155_0 : decode jdk_42_method_155_code 0 = .ok (.iload_n 0, 1) := by decide +kernel
theorem d_jdk_42_155_1 : decode jdk_42_method_155_code 1 = .ok (.iload_n 1, 1) := by decide +kernel
theorem d_jdk_42_155_2 : decode jdk_42_method_155_code 2 = .ok (.getstatic 1053, 3) := by decide +kernel
theorem d_jdk_42_155_5 : decode jdk_42_method_155_code 5 = .ok (.invokestatic 1059, 3) := by decide +kernel
theorem d_jdk_42_155_8 : decode jdk_42_method_155_code 8 = .ok (.pop, 1) := by decide +kernel
theorem d_jdk_42_155_9 : decode jdk_42_method_155_code 9 = .ok (.return_, 1) := by decide +kernel
theorem d_jdk_42_3_0 : decode jdk_42_method_3_code 0 = .ok (.aload_n 0, 1) := by decide +kernel
theorem d_jdk_42_3_1 : decode jdk_42_method_3_code 1 = .ok (.aload_n 1, 1) := by decide +kernel
theorem d_jdk_42_3_2 : decode jdk_42_method_3_code 2 = .ok (.iconst 0, 1) := by decide +kernel
theorem d_jdk_42_3_3 : decode jdk_42_method_3_code 3 = .ok (.aload_n 1, 1) := by decide +kernel
theorem d_jdk_42_3_4 : decode jdk_42_method_3_code 4 = .ok (.arraylength, 1) := by decide +kernel
theorem d_jdk_42_3_5 : decode jdk_42_method_3_code 5 = .ok (.aconst_null, 1) := by decide +kernel
theorem d_jdk_42_3_6 : decode jdk_42_method_3_code 6 = .ok (.invokespecial 27, 3) := by decide +kernel
theorem d_jdk_42_3_9 : decode jdk_42_method_3_code 9 = .ok (.return_, 1) := by decide +kernel
theorem d_jdk_42_54_0 : decode jdk_42_method_54_code 0 = .ok (.aload_n 0, 1) := by decide +kernel
theorem d_jdk_42_54_1 : decode jdk_42_method_54_code 1 = .ok (.getfield 9, 3) := by decide +kernel
theorem d_jdk_42_54_4 : decode jdk_42_method_54_code 4 = .ok (.arraylength, 1) := by decide +kernel
theorem d_jdk_42_54_5 : decode jdk_42_method_54_code 5 = .ok (.aload_n 0, 1) := by decide +kernel
theorem d_jdk_42_54_6 : decode jdk_42_method_54_code 6 = .ok (.invokevirtual 335, 3) := by decide +kernel
theorem d_jdk_42_54_9 : decode jdk_42_method_54_code 9 = .ok (.ishr, 1) := by decide +kernel
theorem d_jdk_42_54_10 : decode jdk_42_method_54_code 10 = .ok (.ireturn, 1) := by decide +kernel
theorem d_jdk_42_56_0 : decode jdk_42_method_56_code 0 = .ok (.aload_n 0, 1) := by decide +kernel
theorem d_jdk_42_56_1 : decode jdk_42_method_56_code 1 = .ok (.invokevirtual 492, 3) := by decide +kernel
theorem d_jdk_42_56_4 : decode jdk_42_method_56_code 4 = .ok (.ifCond .eq 12, 3) := by decide +kernel
theorem d_jdk_42_56_7 : decode jdk_42_method_56_code 7 = .ok (.aload_n 0, 1) := by decide +kernel
theorem d_jdk_42_56_8 : decode jdk_42_method_56_code 8 = .ok (.getfield 9, 3) := by decide +kernel
theorem d_jdk_42_56_11 : decode jdk_42_method_56_code 11 = .ok (.iload_n 1, 1) := by decide +kernel
theorem d_jdk_42_56_12 : decode jdk_42_method_56_code 12 = .ok (.invokestatic 495, 3) := by decide +kernel
theorem d_jdk_42_56_15 : decode jdk_42_method_56_code 15 = .ok (.ireturn, 1) := by decide +kernel
theorem d_jdk_42_56_16 : decode jdk_42_method_56_code 16 = .ok (.aload_n 0, 1) := by decide +kernel
theorem d_jdk_42_56_17 : decode jdk_42_method_56_code 17 = .ok (.getfield 9, 3) := by decide +kernel
theorem d_jdk_42_56_20 : decode jdk_42_method_56_code 20 = .ok (.iload_n 1, 1) := by decide +kernel
theorem d_jdk_42_56_21 : decode jdk_42_method_56_code 21 = .ok (.invokestatic 498, 3) := by decide +kernel
theorem d_jdk_42_56_24 : decode jdk_42_method_56_code 24 = .ok (.ireturn, 1) := by decide +kernel
theorem d_jdk_42_66_0 : decode jdk_42_method_66_code 0 = .ok (.aload_n 0, 1) := by decide +kernel
theorem d_jdk_42_66_1 : decode jdk_42_method_66_code 1 = .ok (.aload_n 1, 1) := by decide +kernel
theorem d_jdk_42_66_2 : decode jdk_42_method_66_code 2 = .ok (.if_acmp .ne 5, 3) := by decide +kernel
theorem d_jdk_42_66_5 : decode jdk_42_method_66_code 5 = .ok (.iconst 1, 1) := by decide +kernel
theorem d_jdk_42_66_6 : decode jdk_42_method_66_code 6 = .ok (.ireturn, 1) := by decide +kernel
theorem d_jdk_42_66_7 : decode jdk_42_method_66_code 7 = .ok (.aload_n 1, 1) := by decide +kernel
theorem d_jdk_42_66_8 : decode jdk_42_method_66_code 8 = .ok (.instanceof 10, 3) := by decide +kernel
theorem d_jdk_42_66_11 : decode jdk_42_method_66_code 11 = .ok (.ifCond .eq 43, 3) := by decide +kernel
theorem d_jdk_42_66_14 : decode jdk_42_method_66_code 14 = .ok (.aload_n 1, 1) := by decide +kernel
theorem d_jdk_42_66_15 : decode jdk_42_method_66_code 15 = .ok (.checkcast 10, 3) := by decide +kernel
theorem d_jdk_42_66_18 : decode jdk_42_method_66_code 18 = .ok (.astore_n 2, 1) := by decide +kernel
theorem d_jdk_42_66_19 : decode jdk_42_method_66_code 19 = .ok (.getstatic 38, 3) := by decide +kernel
theorem d_jdk_42_66_22 : decode jdk_42_method_66_code 22 = .ok (.ifCond .eq 14, 3) := by decide +kernel
theorem d_jdk_42_66_25 : decode jdk_42_method_66_code 25 = .ok (.aload_n 0, 1) := by decide +kernel
theorem d_jdk_42_66_26 : decode jdk_42_method_66_code 26 = .ok (.getfield 15, 3) := by decide +kernel
theorem d_jdk_42_66_29 : decode jdk_42_method_66_code 29 = .ok (.aload_n 2, 1) := by decide +kernel
theorem d_jdk_42_66_30 : decode jdk_42_method_66_code 30 = .ok (.getfield 15, 3) := by decide +kernel
theorem d_jdk_42_66_33 : decode jdk_42_method_66_code 33 = .ok (.if_icmp .ne 21, 3) := by decide +kernel
theorem d_jdk_42_66_36 : decode jdk_42_method_66_code 36 = .ok (.aload_n 0, 1) := by decide +kernel
theorem d_jdk_42_66_37 : decode jdk_42_method_66_code 37 = .ok (.getfield 9, 3) := by decide +kernel
theorem d_jdk_42_66_40 : decode jdk_42_method_66_code 40 = .ok (.aload_n 2, 1) := by decide +kernel
theorem d_jdk_42_66_41 : decode jdk_42_method_66_code 41 = .ok (.getfield 9, 3) := by decide +kernel
theorem d_jdk_42_66_44 : decode jdk_42_method_66_code 44 = .ok (.invokestatic 541, 3) := by decide +kernel
theorem d_jdk_42_66_47 : decode jdk_42_method_66_code 47 = .ok (.ifCond .eq 7, 3) := by decide +kernel
theorem d_jdk_42_66_50 : decode jdk_42_method_66_code 50 = .ok (.iconst 1, 1) := by decide +kernel
theorem d_jdk_42_66_51 : decode jdk_42_method_66_code 51 = .ok (.goto 4, 3) := by decide +kernel
theorem d_jdk_42_66_54 : decode jdk_42_method_66_code 54 = .ok (.iconst 0, 1) := by decide +kernel
theorem d_jdk_42_66_55 : decode jdk_42_method_66_code 55 = .ok (.ireturn, 1) := by decide +kernel
theorem d_jdk_43_13_0 : decode jdk_43_method_13_code 0 = .ok (.aload_n 0, 1) := by decide +kernel
theorem d_jdk_43_13_1 : decode jdk_43_method_13_code 1 = .ok (.arraylength, 1) := by decide +kernel
theorem d_jdk_43_13_2 : decode jdk_43_method_13_code 2 = .ok (.aload_n 1, 1) := by decide +kernel
theorem d_jdk_43_13_3 : decode jdk_43_method_13_code 3 = .ok (.arraylength, 1) := by decide +kernel
theorem d_jdk_43_13_4 : decode jdk_43_method_13_code 4 = .ok (.if_icmp .ne 30, 3) := by decide +kernel
theorem d_jdk_43_13_7 : decode jdk_43_method_13_code 7 = .ok (.iconst 0, 1) := by decide +kernel
theorem d_jdk_43_13_8 : decode jdk_43_method_13_code 8 = .ok (.istore_n 2, 1) := by decide +kernel
theorem d_jdk_43_13_9 : decode jdk_43_method_13_code 9 = .ok (.iload_n 2, 1) := by decide +kernel
theorem d_jdk_43_13_10 : decode jdk_43_method_13_code 10 = .ok (.aload_n 0, 1) := by decide +kernel
theorem d_jdk_43_13_11 : decode jdk_43_method_13_code 11 = .ok (.arraylength, 1) := by decide +kernel
theorem d_jdk_43_13_12 : decode jdk_43_method_13_code 12 = .ok (.if_icmp .ge 20, 3) := by decide +kernel
theorem d_jdk_43_13_15 : decode jdk_43_method_13_code 15 = .ok (.aload_n 0, 1) := by decide +kernel
theorem d_jdk_43_13_16 : decode jdk_43_method_13_code 16 = .ok (.iload_n 2, 1) := by decide +kernel
theorem d_jdk_43_13_17 : decode jdk_43_method_13_code 17 = .ok (.baload, 1) := by decide +kernel
theorem d_jdk_43_13_18 : decode jdk_43_method_13_code 18 = .ok (.aload_n 1, 1) := by decide +kernel
theorem d_jdk_43_13_19 : decode jdk_43_method_13_code 19 = .ok (.iload_n 2, 1) := by decide +kernel
theorem d_jdk_43_13_20 : decode jdk_43_method_13_code 20 = .ok (.baload, 1) := by decide +kernel
theorem d_jdk_43_13_21 : decode jdk_43_method_13_code 21 = .ok (.if_icmp .eq 5, 3) := by decide +kernel
theorem d_jdk_43_13_24 : decode jdk_43_method_13_code 24 = .ok (.iconst 0, 1) := by decide +kernel
theorem d_jdk_43_13_25 : decode jdk_43_method_13_code 25 = .ok (.ireturn, 1) := by decide +kernel
theorem d_jdk_43_13_26 : decode jdk_43_method_13_code 26 = .ok (.iinc 2 1, 3) := by decide +kernel
theorem d_jdk_43_13_29 : decode jdk_43_method_13_code 29 = .ok (.goto (-20), 3) := by decide +kernel
theorem d_jdk_43_13_32 : decode jdk_43_method_13_code 32 = .ok (.iconst 1, 1) := by decide +kernel
theorem d_jdk_43_13_33 : decode jdk_43_method_13_code 33 = .ok (.ireturn, 1) := by decide +kernel
theorem d_jdk_43_13_34 : decode jdk_43_method_13_code 34 = .ok (.iconst 0, 1) := by decide +kernel
theorem d_jdk_43_13_35 : decode jdk_43_method_13_code 35 = .ok (.ireturn, 1) := by decide +kernel
theorem d_jdk_43_2_0 : decode jdk_43_method_2_code 0 = .ok (.iload_n 1, 1) := by decide +kernel
theorem d_jdk_43_2_1 : decode jdk_43_method_2_code 1 = .ok (.aload_n 0, 1) := by decide +kernel
theorem d_jdk_43_2_2 : decode jdk_43_method_2_code 2 = .ok (.arraylength, 1) := by decide +kernel
theorem d_jdk_43_2_3 : decode jdk_43_method_2_code 3 = .ok (.invokestatic 9, 3) := by decide +kernel
theorem d_jdk_43_2_6 : decode jdk_43_method_2_code 6 = .ok (.aload_n 0, 1) := by decide +kernel
theorem d_jdk_43_2_7 : decode jdk_43_method_2_code 7 = .ok (.iload_n 1, 1) := by decide +kernel
theorem d_jdk_43_2_8 : decode jdk_43_method_2_code 8 = .ok (.baload, 1) := by decide +kernel
theorem d_jdk_43_2_9 : decode jdk_43_method_2_code 9 = .ok (.sipush 255, 3) := by decide +kernel
theorem d_jdk_43_2_12 : decode jdk_43_method_2_code 12 = .ok (.iand, 1) := by decide +kernel
theorem d_jdk_43_2_13 : decode jdk_43_method_2_code 13 = .ok (.i2c, 1) := by decide +kernel
theorem d_jdk_43_2_14 : decode jdk_43_method_2_code 14 = .ok (.ireturn, 1) := by decide +kernel
theorem d_jdk_43_3_0 : decode jdk_43_method_3_code 0 = .ok (.iload_n 0, 1) := by decide +kernel
theorem d_jdk_43_3_1 : decode jdk_43_method_3_code 1 = .ok (.sipush 255, 3) := by decide +kernel
theorem d_jdk_43_3_4 : decode jdk_43_method_3_code 4 = .ok (.if_icmp .gt 7, 3) := by decide +kernel
theorem d_jdk_43_3_7 : decode jdk_43_method_3_code 7 = .ok (.iconst 1, 1) := by decide +kernel
theorem d_jdk_43_3_8 : decode jdk_43_method_3_code 8 = .ok (.goto 4, 3) := by decide +kernel
theorem d_jdk_43_3_11 : decode jdk_43_method_3_code 11 = .ok (.iconst 0, 1) := by decide +kernel
theorem d_jdk_43_3_12 : decode jdk_43_method_3_code 12 = .ok (.ireturn, 1) := by decide +kernel
theorem d_jdk_43_46_0 : decode jdk_43_method_46_code 0 = .ok (.iconst 1, 1) := by decide +kernel
theorem d_jdk_43_46_1 : decode jdk_43_method_46_code 1 = .ok (.newarray .byte, 2) := by decide +kernel
theorem d_jdk_43_46_3 : decode jdk_43_method_46_code 3 = .ok (.dup, 1) := by decide +kernel
theorem d_jdk_43_46_4 : decode jdk_43_method_46_code 4 = .ok (.iconst 0, 1) := by decide +kernel
theorem d_jdk_43_46_5 : decode jdk_43_method_46_code 5 = .ok (.iload_n 0, 1) := by decide +kernel
theorem d_jdk_43_46_6 : decode jdk_43_method_46_code 6 = .ok (.i2b, 1) := by decide +kernel
theorem d_jdk_43_46_7 : decode jdk_43_method_46_code 7 = .ok (.bastore, 1) := by decide +kernel
theorem d_jdk_43_46_8 : decode jdk_43_method_46_code 8 = .ok (.areturn, 1) := by decide +kernel
theorem d_jdk_52_14_0 : decode jdk_52_method_14_code 0 = .ok (.iload_n 2, 1) := by decide +kernel
theorem d_jdk_52_14_1 : decode jdk_52_method_14_code 1 = .ok (.invokestatic 107, 3) := by decide +kernel
theorem d_jdk_52_14_4 : decode jdk_52_method_14_code 4 = .ok (.astore_n 3, 1) := by decide +kernel
theorem d_jdk_52_14_5 : decode jdk_52_method_14_code 5 = .ok (.iconst 0, 1) := by decide +kernel
theorem d_jdk_52_14_6 : decode jdk_52_method_14_code 6 = .ok (.istore 4, 2) := by decide +kernel
theorem d_jdk_52_14_8 : decode jdk_52_method_14_code 8 = .ok (.iload 4, 2) := by decide +kernel
theorem d_jdk_52_14_10 : decode jdk_52_method_14_code 10 = .ok (.iload_n 2, 1) := by decide +kernel
theorem d_jdk_52_14_11 : decode jdk_52_method_14_code 11 = .ok (.if_icmp .ge 21, 3) := by decide +kernel
theorem d_jdk_52_14_14 : decode jdk_52_method_14_code 14 = .ok (.aload_n 3, 1) := by decide +kernel
theorem d_jdk_52_14_15 : decode jdk_52_method_14_code 15 = .ok (.iload 4, 2) := by decide +kernel
theorem d_jdk_52_14_17 : decode jdk_52_method_14_code 17 = .ok (.aload_n 0, 1) := by decide +kernel
theorem d_jdk_52_14_18 : decode jdk_52_method_14_code 18 = .ok (.iload_n 1, 1) := by decide +kernel
theorem d_jdk_52_14_19 : decode jdk_52_method_14_code 19 = .ok (.caload, 1) := by decide +kernel
theorem d_jdk_52_14_20 : decode jdk_52_method_14_code 20 = .ok (.invokestatic 111, 3) := by decide +kernel
theorem d_jdk_52_14_23 : decode jdk_52_method_14_code 23 = .ok (.iinc 1 1, 3) := by decide +kernel
theorem d_jdk_52_14_26 : decode jdk_52_method_14_code 26 = .ok (.iinc 4 1, 3) := by decide +kernel
theorem d_jdk_52_14_29 : decode jdk_52_method_14_code 29 = .ok (.goto (-21), 3) := by decide +kernel
theorem d_jdk_52_14_32 : decode jdk_52_method_14_code 32 = .ok (.aload_n 3, 1) := by decide +kernel
theorem d_jdk_52_14_33 : decode jdk_52_method_14_code 33 = .ok (.areturn, 1) := by decide +kernel
theorem d_jdk_52_15_0 : decode jdk_52_method_15_code 0 = .ok (.iload_n 1, 1) := by decide +kernel
theorem d_jdk_52_15_1 : decode jdk_52_method_15_code 1 = .ok (.aload_n 0, 1) := by decide +kernel
theorem d_jdk_52_15_2 : decode jdk_52_method_15_code 2 = .ok (.arraylength, 1) := by decide +kernel
theorem d_jdk_52_15_3 : decode jdk_52_method_15_code 3 = .ok (.isub, 1) := by decide +kernel
theorem d_jdk_52_15_4 : decode jdk_52_method_15_code 4 = .ok (.bipush 31, 2) := by decide +kernel
theorem d_jdk_52_15_6 : decode jdk_52_method_15_code 6 = .ok (.iushr, 1) := by decide +kernel
theorem d_jdk_52_15_7 : decode jdk_52_method_15_code 7 = .ok (.i2b, 1) := by decide +kernel
theorem d_jdk_52_15_8 : decode jdk_52_method_15_code 8 = .ok (.ireturn, 1) := by decide +kernel
theorem d_jdk_52_16_0 : decode jdk_52_method_16_code 0 = .ok (.iload_n 2, 1) := by decide +kernel
theorem d_jdk_52_16_1 : decode jdk_52_method_16_code 1 = .ok (.newarray .byte, 2) := by decide +kernel
theorem d_jdk_52_16_3 : decode jdk_52_method_16_code 3 = .ok (.astore_n 3, 1) := by decide +kernel
theorem d_jdk_52_16_4 : decode jdk_52_method_16_code 4 = .ok (.aload_n 0, 1) := by decide +kernel
theorem d_jdk_52_16_5 : decode jdk_52_method_16_code 5 = .ok (.iload_n 1, 1) := by decide +kernel
theorem d_jdk_52_16_6 : decode jdk_52_method_16_code 6 = .ok (.aload_n 3, 1) := by decide +kernel
theorem d_jdk_52_16_7 : decode jdk_52_method_16_code 7 = .ok (.iconst 0, 1) := by decide +kernel
theorem d_jdk_52_16_8 : decode jdk_52_method_16_code 8 = .ok (.iload_n 2, 1) := by decide +kernel
theorem d_jdk_52_16_9 : decode jdk_52_method_16_code 9 = .ok (.invokestatic 115, 3) := by decide +kernel
theorem d_jdk_52_16_12 : decode jdk_52_method_16_code 12 = .ok (.istore 4, 2) := by decide +kernel
theorem d_jdk_52_16_14 : decode jdk_52_method_16_code 14 = .ok (.iload 4, 2) := by decide +kernel
theorem d_jdk_52_16_16 : decode jdk_52_method_16_code 16 = .ok (.iload_n 2, 1) := by decide +kernel
theorem d_jdk_52_16_17 : decode jdk_52_method_16_code 17 = .ok (.if_icmp .eq 40, 3) := by decide +kernel
theorem d_jdk_52_16_20 : decode jdk_52_method_16_code 20 = .ok (.aload_n 0, 1) := by decide +kernel
theorem d_jdk_52_16_21 : decode jdk_52_method_16_code 21 = .ok (.iload_n 1, 1) := by decide +kernel
theorem d_jdk_52_16_22 : decode jdk_52_method_16_code 22 = .ok (.iload_n 2, 1) := by decide +kernel
theorem d_jdk_52_16_23 : decode jdk_52_method_16_code 23 = .ok (.invokestatic 119, 3) := by decide +kernel
theorem d_jdk_52_16_26 : decode jdk_52_method_16_code 26 = .ok (.astore 5, 2) := by decide +kernel
theorem d_jdk_52_16_28 : decode jdk_52_method_16_code 28 = .ok (.aload 5, 2) := by decide +kernel
theorem d_jdk_52_16_30 : decode jdk_52_method_16_code 30 = .ok (.iload 4, 2) := by decide +kernel
theorem d_jdk_52_16_32 : decode jdk_52_method_16_code 32 = .ok (.invokestatic 71, 3) := by decide +kernel
theorem d_jdk_52_16_35 : decode jdk_52_method_16_code 35 = .ok (.sipush 255, 3) := by decide +kernel
theorem d_jdk_52_16_38 : decode jdk_52_method_16_code 38 = .ok (.if_icmp .gt 16, 3) := by decide +kernel
theorem d_jdk_52_16_54 : decode jdk_52_method_16_code 54 = .ok (.aload 5, 2) := by decide +kernel
theorem d_jdk_52_16_56 : decode jdk_52_method_16_code 56 = .ok (.areturn, 1) := by decide +kernel
theorem d_jdk_52_16_57 : decode jdk_52_method_16_code 57 = .ok (.aload_n 3, 1) := by decide +kernel
theorem d_jdk_52_16_58 : decode jdk_52_method_16_code 58 = .ok (.areturn, 1) := by decide +kernel
theorem d_jdk_52_21_0 : decode jdk_52_method_21_code 0 = .ok (.iconst 0, 1) := by decide +kernel
theorem d_jdk_52_21_1 : decode jdk_52_method_21_code 1 = .ok (.istore 5, 2) := by decide +kernel
theorem d_jdk_52_21_3 : decode jdk_52_method_21_code 3 = .ok (.iload 5, 2) := by decide +kernel
theorem d_jdk_52_21_5 : decode jdk_52_method_21_code 5 = .ok (.iload 4, 2) := by decide +kernel
theorem d_jdk_52_21_7 : decode jdk_52_method_21_code 7 = .ok (.if_icmp .ge 37, 3) := by decide +kernel
theorem d_jdk_52_21_10 : decode jdk_52_method_21_code 10 = .ok (.aload_n 0, 1) := by decide +kernel
theorem d_jdk_52_21_11 : decode jdk_52_method_21_code 11 = .ok (.iload_n 1, 1) := by decide +kernel
theorem d_jdk_52_21_12 : decode jdk_52_method_21_code 12 = .ok (.caload, 1) := by decide +kernel
theorem d_jdk_52_21_13 : decode jdk_52_method_21_code 13 = .ok (.istore 6, 2) := by decide +kernel
theorem d_jdk_52_21_15 : decode jdk_52_method_21_code 15 = .ok (.iload 6, 2) := by decide +kernel
theorem d_jdk_52_21_17 : decode jdk_52_method_21_code 17 = .ok (.sipush 255, 3) := by decide +kernel
theorem d_jdk_52_21_20 : decode jdk_52_method_21_code 20 = .ok (.if_icmp .le 6, 3) := by decide +kernel
theorem d_jdk_52_21_23 : decode jdk_52_method_21_code 23 = .ok (.iload 5, 2) := by decide +kernel
theorem d_jdk_52_21_25 : decode jdk_52_method_21_code 25 = .ok (.ireturn, 1) := by decide +kernel
theorem d_jdk_52_21_26 : decode jdk_52_method_21_code 26 = .ok (.aload_n 2, 1) := by decide +kernel
theorem d_jdk_52_21_27 : decode jdk_52_method_21_code 27 = .ok (.iload_n 3, 1) := by decide +kernel
theorem d_jdk_52_21_28 : decode jdk_52_method_21_code 28 = .ok (.iload 6, 2) := by decide +kernel
theorem d_jdk_52_21_30 : decode jdk_52_method_21_code 30 = .ok (.i2b, 1) := by decide +kernel
theorem d_jdk_52_21_31 : decode jdk_52_method_21_code 31 = .ok (.bastore, 1) := by decide +kernel
theorem d_jdk_52_21_32 : decode jdk_52_method_21_code 32 = .ok (.iinc 1 1, 3) := by decide +kernel
theorem d_jdk_52_21_35 : decode jdk_52_method_21_code 35 = .ok (.iinc 3 1, 3) := by decide +kernel
theorem d_jdk_52_21_38 : decode jdk_52_method_21_code 38 = .ok (.iinc 5 1, 3) := by decide +kernel
theorem d_jdk_52_21_41 : decode jdk_52_method_21_code 41 = .ok (.goto (-38), 3) := by decide +kernel
theorem d_jdk_52_21_44 : decode jdk_52_method_21_code 44 = .ok (.iload 4, 2) := by decide +kernel
theorem d_jdk_52_21_46 : decode jdk_52_method_21_code 46 = .ok (.ireturn, 1) := by decide +kernel
theorem d_jdk_52_24_0 : decode jdk_52_method_24_code 0 = .ok (.iconst 2, 1) := by decide +kernel
theorem d_jdk_52_24_1 : decode jdk_52_method_24_code 1 = .ok (.newarray .byte, 2) := by decide +kernel
theorem d_jdk_52_24_3 : decode jdk_52_method_24_code 3 = .ok (.astore_n 1, 1) := by decide +kernel
theorem d_jdk_52_24_4 : decode jdk_52_method_24_code 4 = .ok (.aload_n 1, 1) := by decide +kernel
theorem d_jdk_52_24_5 : decode jdk_52_method_24_code 5 = .ok (.iconst 0, 1) := by decide +kernel
theorem d_jdk_52_24_6 : decode jdk_52_method_24_code 6 = .ok (.iload_n 0, 1) := by decide +kernel
theorem d_jdk_52_24_7 : decode jdk_52_method_24_code 7 = .ok (.invokestatic 111, 3) := by decide +kernel
theorem d_jdk_52_24_10 : decode jdk_52_method_24_code 10 = .ok (.aload_n 1, 1) := by decide +kernel
theorem d_jdk_52_24_11 : decode jdk_52_method_24_code 11 = .ok (.areturn, 1) := by decide +kernel
theorem d_jdk_52_2_0 : decode jdk_52_method_2_code 0 = .ok (.iload_n 0, 1) := by decide +kernel
theorem d_jdk_52_2_1 : decode jdk_52_method_2_code 1 = .ok (.invokestatic 11, 3) := by decide +kernel
theorem d_jdk_52_2_4 : decode jdk_52_method_2_code 4 = .ok (.newarray .byte, 2) := by decide +kernel
theorem d_jdk_52_2_6 : decode jdk_52_method_2_code 6 = .ok (.areturn, 1) := by decide +kernel
theorem d_jdk_52_3_0 : decode jdk_52_method_3_code 0 = .ok (.iload_n 0, 1) := by decide +kernel
theorem d_jdk_52_3_1 : decode jdk_52_method_3_code 1 = .ok (.ifCond .ge 11, 3) := by decide +kernel
theorem d_jdk_52_3_12 : decode jdk_52_method_3_code 12 = .ok (.iload_n 0, 1) := by decide +kernel
theorem d_jdk_52_3_13 : decode jdk_52_method_3_code 13 = .ok (.ldc 20, 2) := by decide +kernel
theorem d_jdk_52_3_15 : decode jdk_52_method_3_code 15 = .ok (.if_icmp .lt 40, 3) := by decide +kernel
theorem d_jdk_52_3_55 : decode jdk_52_method_3_code 55 = .ok (.iload_n 0, 1) := by decide +kernel
theorem d_jdk_52_3_56 : decode jdk_52_method_3_code 56 = .ok (.iconst 1, 1) := by decide +kernel
theorem d_jdk_52_3_57 : decode jdk_52_method_3_code 57 = .ok (.ishl, 1) := by decide +kernel
theorem d_jdk_52_3_58 : decode jdk_52_method_3_code 58 = .ok (.ireturn, 1) := by decide +kernel
theorem d_jdk_52_4_0 : decode jdk_52_method_4_code 0 = .ok (.getstatic 44, 3) := by decide +kernel
theorem d_jdk_52_4_3 : decode jdk_52_method_4_code 3 = .ok (.ifCond .ne 25, 3) := by decide +kernel
theorem d_jdk_52_4_28 : decode jdk_52_method_4_code 28 = .ok (.iload_n 1, 1) := by decide +kernel
theorem d_jdk_52_4_29 : decode jdk_52_method_4_code 29 = .ok (.iconst 1, 1) := by decide +kernel
theorem d_jdk_52_4_30 : decode jdk_52_method_4_code 30 = .ok (.ishl, 1) := by decide +kernel
theorem d_jdk_52_4_31 : decode jdk_52_method_4_code 31 = .ok (.istore_n 1, 1) := by decide +kernel
theorem d_jdk_52_4_32 : decode jdk_52_method_4_code 32 = .ok (.aload_n 0, 1) := by decide +kernel
theorem d_jdk_52_4_33 : decode jdk_52_method_4_code 33 = .ok (.iload_n 1, 1) := by decide +kernel
theorem d_jdk_52_4_34 : decode jdk_52_method_4_code 34 = .ok (.iinc 1 1, 3) := by decide +kernel
theorem d_jdk_52_4_37 : decode jdk_52_method_4_code 37 = .ok (.iload_n 2, 1) := by decide +kernel
theorem d_jdk_52_4_38 : decode jdk_52_method_4_code 38 = .ok (.getstatic 59, 3) := by decide +kernel
theorem d_jdk_52_4_41 : decode jdk_52_method_4_code 41 = .ok (.ishr, 1) := by decide +kernel
theorem d_jdk_52_4_42 : decode jdk_52_method_4_code 42 = .ok (.i2b, 1) := by decide +kernel
theorem d_jdk_52_4_43 : decode jdk_52_method_4_code 43 = .ok (.bastore, 1) := by decide +kernel
theorem d_jdk_52_4_44 : decode jdk_52_method_4_code 44 = .ok (.aload_n 0, 1) := by decide +kernel
theorem d_jdk_52_4_45 : decode jdk_52_method_4_code 45 = .ok (.iload_n 1, 1) := by decide +kernel
theorem d_jdk_52_4_46 : decode jdk_52_method_4_code 46 = .ok (.iload_n 2, 1) := by decide +kernel
theorem d_jdk_52_4_47 : decode jdk_52_method_4_code 47 = .ok (.getstatic 63, 3) := by decide +kernel
theorem d_jdk_52_4_50 : decode jdk_52_method_4_code 50 = .ok (.ishr, 1) := by decide +kernel
theorem d_jdk_52_4_51 : decode jdk_52_method_4_code 51 = .ok (.i2b, 1) := by decide +kernel
theorem d_jdk_52_4_52 : decode jdk_52_method_4_code 52 = .ok (.bastore, 1) := by decide +kernel
theorem d_jdk_52_4_53 : decode jdk_52_method_4_code 53 = .ok (.return_, 1) := by decide +kernel
theorem d_jdk_52_5_0 : decode jdk_52_method_5_code 0 = .ok (.getstatic 44, 3) := by decide +kernel
theorem d_jdk_52_5_3 : decode jdk_52_method_5_code 3 = .ok (.ifCond .ne 25, 3) := by decide +kernel
theorem d_jdk_52_5_28 : decode jdk_52_method_5_code 28 = .ok (.iload_n 1, 1) := by decide +kernel
theorem d_jdk_52_5_29 : decode jdk_52_method_5_code 29 = .ok (.iconst 1, 1) := by decide +kernel
theorem d_jdk_52_5_30 : decode jdk_52_method_5_code 30 = .ok (.ishl, 1) := by decide +kernel
theorem d_jdk_52_5_31 : decode jdk_52_method_5_code 31 = .ok (.istore_n 1, 1) := by decide +kernel
theorem d_jdk_52_5_32 : decode jdk_52_method_5_code 32 = .ok (.aload_n 0, 1) := by decide +kernel
theorem d_jdk_52_5_33 : decode jdk_52_method_5_code 33 = .ok (.iload_n 1, 1) := by decide +kernel
theorem d_jdk_52_5_34 : decode jdk_52_method_5_code 34 = .ok (.iinc 1 1, 3) := by decide +kernel
theorem d_jdk_52_5_37 : decode jdk_52_method_5_code 37 = .ok (.baload, 1) := by decide +kernel
theorem d_jdk_52_5_38 : decode jdk_52_method_5_code 38 = .ok (.sipush 255, 3) := by decide +kernel
theorem d_jdk_52_5_41 : decode jdk_52_method_5_code 41 = .ok (.iand, 1) := by decide +kernel
theorem d_jdk_52_5_42 : decode jdk_52_method_5_code 42 = .ok (.getstatic 59, 3) := by decide +kernel
theorem d_jdk_52_5_45 : decode jdk_52_method_5_code 45 = .ok (.ishl, 1) := by decide +kernel
theorem d_jdk_52_5_46 : decode jdk_52_method_5_code 46 = .ok (.aload_n 0, 1) := by decide +kernel
theorem d_jdk_52_5_47 : decode jdk_52_method_5_code 47 = .ok (.iload_n 1, 1) := by decide +kernel
theorem d_jdk_52_5_48 : decode jdk_52_method_5_code 48 = .ok (.baload, 1) := by decide +kernel
theorem d_jdk_52_5_49 : decode jdk_52_method_5_code 49 = .ok (.sipush 255, 3) := by decide +kernel
theorem d_jdk_52_5_52 : decode jdk_52_method_5_code 52 = .ok (.iand, 1) := by decide +kernel
theorem d_jdk_52_5_53 : decode jdk_52_method_5_code 53 = .ok (.getstatic 63, 3) := by decide +kernel
theorem d_jdk_52_5_56 : decode jdk_52_method_5_code 56 = .ok (.ishl, 1) := by decide +kernel
theorem d_jdk_52_5_57 : decode jdk_52_method_5_code 57 = .ok (.ior, 1) := by decide +kernel
theorem d_jdk_52_5_58 : decode jdk_52_method_5_code 58 = .ok (.i2c, 1) := by decide +kernel
theorem d_jdk_52_5_59 : decode jdk_52_method_5_code 59 = .ok (.ireturn, 1) := by decide +kernel
theorem d_jdk_52_6_0 : decode jdk_52_method_6_code 0 = .ok (.aload_n 0, 1) := by decide +kernel
theorem d_jdk_52_6_1 : decode jdk_52_method_6_code 1 = .ok (.arraylength, 1) := by decide +kernel
theorem d_jdk_52_6_2 : decode jdk_52_method_6_code 2 = .ok (.iconst 1, 1) := by decide +kernel
theorem d_jdk_52_6_3 : decode jdk_52_method_6_code 3 = .ok (.ishr, 1) := by decide +kernel
theorem d_jdk_52_6_4 : decode jdk_52_method_6_code 4 = .ok (.ireturn, 1) := by decide +kernel
theorem d_jdk_52_83_0 : decode jdk_52_method_83_code 0 = .ok (.iload_n 1, 1) := by decide +kernel
theorem d_jdk_52_83_1 : decode jdk_52_method_83_code 1 = .ok (.aload_n 0, 1) := by decide +kernel
theorem d_jdk_52_83_2 : decode jdk_52_method_83_code 2 = .ok (.invokestatic 67, 3) := by decide +kernel
theorem d_jdk_52_83_5 : decode jdk_52_method_83_code 5 = .ok (.aload_n 0, 1) := by decide +kernel
theorem d_jdk_52_83_6 : decode jdk_52_method_83_code 6 = .ok (.iload_n 1, 1) := by decide +kernel
theorem d_jdk_52_83_7 : decode jdk_52_method_83_code 7 = .ok (.invokestatic 71, 3) := by decide +kernel
theorem d_jdk_52_83_10 : decode jdk_52_method_83_code 10 = .ok (.ireturn, 1) := by decide +kernel
theorem d_jdk_52_91_0 : decode jdk_52_method_91_code 0 = .ok (.iload_n 0, 1) := by decide +kernel
theorem d_jdk_52_91_1 : decode jdk_52_method_91_code 1 = .ok (.aload_n 1, 1) := by decide +kernel
theorem d_jdk_52_91_2 : decode jdk_52_method_91_code 2 = .ok (.invokestatic 48, 3) := by decide +kernel
theorem d_jdk_52_91_5 : decode jdk_52_method_91_code 5 = .ok (.invokestatic 414, 3) := by decide +kernel
theorem d_jdk_52_91_8 : decode jdk_52_method_91_code 8 = .ok (.return_, 1) := by decide +kernel
theorem d_prog_23_1_0 : decode prog_23_method_1_code 0 = .ok (.aload_n 0, 1) := by decide +kernel
theorem d_prog_23_1_1 : decode prog_23_method_1_code 1 = .ok (.invokespecial 1, 3) := by decide +kernel
theorem d_prog_23_1_4 : decode prog_23_method_1_code 4 = .ok (.aload_n 0, 1) := by decide +kernel
theorem d_prog_23_1_5 : decode prog_23_method_1_code 5 = .ok (.sipush 1024, 3) := by decide +kernel
theorem d_prog_23_1_8 : decode prog_23_method_1_code 8 = .ok (.newarray .long, 2) := by decide +kernel
theorem d_prog_23_1_10 : decode prog_23_method_1_code 10 = .ok (.putfield 7, 3) := by decide +kernel
theorem d_prog_23_1_13 : decode prog_23_method_1_code 13 = .ok (.return_, 1) := by decide +kernel
theorem d_prog_23_2_0 : decode prog_23_method_2_code 0 = .ok (.aload_n 1, 1) := by decide +kernel
theorem d_prog_23_2_1 : decode prog_23_method_2_code 1 = .ok (.invokestatic 13, 3) := by decide +kernel
theorem d_prog_23_2_4 : decode prog_23_method_2_code 4 = .ok (.lstore_n 2, 1) := by decide +kernel
theorem d_prog_23_2_5 : decode prog_23_method_2_code 5 = .ok (.aload_n 0, 1) := by decide +kernel
theorem d_prog_23_2_6 : decode prog_23_method_2_code 6 = .ok (.getfield 7, 3) := by decide +kernel
theorem d_prog_23_2_9 : decode prog_23_method_2_code 9 = .ok (.lload_n 2, 1) := by decide +kernel
theorem d_prog_23_2_10 : decode prog_23_method_2_code 10 = .ok (.invokestatic 17, 3) := by decide +kernel
theorem d_prog_23_2_13 : decode prog_23_method_2_code 13 = .ok (.istore 4, 2) := by decide +kernel
theorem d_prog_23_2_15 : decode prog_23_method_2_code 15 = .ok (.aload_n 0, 1) := by decide +kernel
theorem d_prog_23_2_16 : decode prog_23_method_2_code 16 = .ok (.getfield 7, 3) := by decide +kernel
theorem d_prog_23_2_19 : decode prog_23_method_2_code 19 = .ok (.iload 4, 2) := by decide +kernel
theorem d_prog_23_2_21 : decode prog_23_method_2_code 21 = .ok (.laload, 1) := by decide +kernel
theorem d_prog_23_2_22 : decode prog_23_method_2_code 22 = .ok (.lload_n 2, 1) := by decide +kernel
theorem d_prog_23_2_23 : decode prog_23_method_2_code 23 = .ok (.lcmp, 1) := by decide +kernel
theorem d_prog_23_2_24 : decode prog_23_method_2_code 24 = .ok (.ifCond .ne 5, 3) := by decide +kernel
theorem d_prog_23_2_27 : decode prog_23_method_2_code 27 = .ok (.iconst 0, 1) := by decide +kernel
theorem d_prog_23_2_28 : decode prog_23_method_2_code 28 = .ok (.ireturn, 1) := by decide +kernel
theorem d_prog_23_2_29 : decode prog_23_method_2_code 29 = .ok (.aload_n 0, 1) := by decide +kernel
theorem d_prog_23_2_30 : decode prog_23_method_2_code 30 = .ok (.getfield 7, 3) := by decide +kernel
theorem d_prog_23_2_33 : decode prog_23_method_2_code 33 = .ok (.iload 4, 2) := by decide +kernel
theorem d_prog_23_2_35 : decode prog_23_method_2_code 35 = .ok (.lload_n 2, 1) := by decide +kernel
theorem d_prog_23_2_36 : decode prog_23_method_2_code 36 = .ok (.lastore, 1) := by decide +kernel
theorem d_prog_23_2_37 : decode prog_23_method_2_code 37 = .ok (.aload_n 0, 1) := by decide +kernel
theorem d_prog_23_2_38 : decode prog_23_method_2_code 38 = .ok (.dup, 1) := by decide +kernel
theorem d_prog_23_2_39 : decode prog_23_method_2_code 39 = .ok (.getfield 21, 3) := by decide +kernel
theorem d_prog_23_2_42 : decode prog_23_method_2_code 42 = .ok (.iconst 1, 1) := by decide +kernel
theorem d_prog_23_2_43 : decode prog_23_method_2_code 43 = .ok (.iadd, 1) := by decide +kernel
theorem d_prog_23_2_44 : decode prog_23_method_2_code 44 = .ok (.putfield 21, 3) := by decide +kernel
theorem d_prog_23_2_47 : decode prog_23_method_2_code 47 = .ok (.aload_n 0, 1) := by decide +kernel
theorem d_prog_23_2_48 : decode prog_23_method_2_code 48 = .ok (.getfield 21, 3) := by decide +kernel
theorem d_prog_23_2_51 : decode prog_23_method_2_code 51 = .ok (.aload_n 0, 1) := by decide +kernel
theorem d_prog_23_2_52 : decode prog_23_method_2_code 52 = .ok (.getfield 7, 3) := by decide +kernel
theorem d_prog_23_2_55 : decode prog_23_method_2_code 55 = .ok (.arraylength, 1) := by decide +kernel
theorem d_prog_23_2_56 : decode prog_23_method_2_code 56 = .ok (.iconst 3, 1) := by decide +kernel
theorem d_prog_23_2_57 : decode prog_23_method_2_code 57 = .ok (.idiv, 1) := by decide +kernel
theorem d_prog_23_2_58 : decode prog_23_method_2_code 58 = .ok (.iconst 2, 1) := by decide +kernel
theorem d_prog_23_2_59 : decode prog_23_method_2_code 59 = .ok (.imul, 1) := by decide +kernel
theorem d_prog_23_2_60 : decode prog_23_method_2_code 60 = .ok (.if_icmp .le 7, 3) := by decide +kernel
theorem d_prog_23_2_67 : decode prog_23_method_2_code 67 = .ok (.iconst 1, 1) := by decide +kernel
theorem d_prog_23_2_68 : decode prog_23_method_2_code 68 = .ok (.ireturn, 1) := by decide +kernel
theorem d_prog_23_4_0 : decode prog_23_method_4_code 0 = .ok (.aload_n 0, 1) := by decide +kernel
theorem d_prog_23_4_1 : decode prog_23_method_4_code 1 = .ok (.arraylength, 1) := by decide +kernel
theorem d_prog_23_4_2 : decode prog_23_method_4_code 2 = .ok (.iconst 1, 1) := by decide +kernel
theorem d_prog_23_4_3 : decode prog_23_method_4_code 3 = .ok (.isub, 1) := by decide +kernel
theorem d_prog_23_4_4 : decode prog_23_method_4_code 4 = .ok (.istore_n 3, 1) := by decide +kernel
theorem d_prog_23_4_5 : decode prog_23_method_4_code 5 = .ok (.lload_n 1, 1) := by decide +kernel
theorem d_prog_23_4_6 : decode prog_23_method_4_code 6 = .ok (.l2i, 1) := by decide +kernel
theorem d_prog_23_4_7 : decode prog_23_method_4_code 7 = .ok (.iload_n 3, 1) := by decide +kernel
theorem d_prog_23_4_8 : decode prog_23_method_4_code 8 = .ok (.iand, 1) := by decide +kernel
theorem d_prog_23_4_9 : decode prog_23_method_4_code 9 = .ok (.istore 4, 2) := by decide +kernel
theorem d_prog_23_4_11 : decode prog_23_method_4_code 11 = .ok (.aload_n 0, 1) := by decide +kernel
theorem d_prog_23_4_12 : decode prog_23_method_4_code 12 = .ok (.iload 4, 2) := by decide +kernel
theorem d_prog_23_4_14 : decode prog_23_method_4_code 14 = .ok (.laload, 1) := by decide +kernel
theorem d_prog_23_4_15 : decode prog_23_method_4_code 15 = .ok (.lconst 0, 1) := by decide +kernel
theorem d_prog_23_4_16 : decode prog_23_method_4_code 16 = .ok (.lcmp, 1) := by decide +kernel
theorem d_prog_23_4_17 : decode prog_23_method_4_code 17 = .ok (.ifCond .eq 23, 3) := by decide +kernel
theorem d_prog_23_4_20 : decode prog_23_method_4_code 20 = .ok (.aload_n 0, 1) := by decide +kernel
theorem d_prog_23_4_21 : decode prog_23_method_4_code 21 = .ok (.iload 4, 2) := by decide +kernel
theorem d_prog_23_4_23 : decode prog_23_method_4_code 23 = .ok (.laload, 1) := by decide +kernel
theorem d_prog_23_4_24 : decode prog_23_method_4_code 24 = .ok (.lload_n 1, 1) := by decide +kernel
theorem d_prog_23_4_25 : decode prog_23_method_4_code 25 = .ok (.lcmp, 1) := by decide +kernel
theorem d_prog_23_4_26 : decode prog_23_method_4_code 26 = .ok (.ifCond .eq 14, 3) := by decide +kernel
theorem d_prog_23_4_29 : decode prog_23_method_4_code 29 = .ok (.iload 4, 2) := by decide +kernel
theorem d_prog_23_4_31 : decode prog_23_method_4_code 31 = .ok (.iconst 1, 1) := by decide +kernel
theorem d_prog_23_4_32 : decode prog_23_method_4_code 32 = .ok (.iadd, 1) := by decide +kernel
theorem d_prog_23_4_33 : decode prog_23_method_4_code 33 = .ok (.iload_n 3, 1) := by decide +kernel
theorem d_prog_23_4_34 : decode prog_23_method_4_code 34 = .ok (.iand, 1) := by decide +kernel
theorem d_prog_23_4_35 : decode prog_23_method_4_code 35 = .ok (.istore 4, 2) := by decide +kernel
theorem d_prog_23_4_37 : decode prog_23_method_4_code 37 = .ok (.goto (-26), 3) := by decide +kernel
theorem d_prog_23_4_40 : decode prog_23_method_4_code 40 = .ok (.iload 4, 2) := by decide +kernel
theorem d_prog_23_4_42 : decode prog_23_method_4_code 42 = .ok (.ireturn, 1) := by decide +kernel
theorem d_prog_23_5_0 : decode prog_23_method_5_code 0 = .ok (.ldc2_w 28, 3) := by decide +kernel
theorem d_prog_23_5_3 : decode prog_23_method_5_code 3 = .ok (.lstore_n 1, 1) := by decide +kernel
theorem d_prog_23_5_4 : decode prog_23_method_5_code 4 = .ok (.iconst 0, 1) := by decide +kernel
theorem d_prog_23_5_5 : decode prog_23_method_5_code 5 = .ok (.istore_n 3, 1) := by decide +kernel
theorem d_prog_23_5_6 : decode prog_23_method_5_code 6 = .ok (.iload_n 3, 1) := by decide +kernel
theorem d_prog_23_5_7 : decode prog_23_method_5_code 7 = .ok (.aload_n 0, 1) := by decide +kernel
theorem d_prog_23_5_8 : decode prog_23_method_5_code 8 = .ok (.invokevirtual 30, 3) := by decide +kernel
theorem d_prog_23_5_11 : decode prog_23_method_5_code 11 = .ok (.if_icmp .ge 22, 3) := by decide +kernel
theorem d_prog_23_5_14 : decode prog_23_method_5_code 14 = .ok (.lload_n 1, 1) := by decide +kernel
theorem d_prog_23_5_15 : decode prog_23_method_5_code 15 = .ok (.aload_n 0, 1) := by decide +kernel
theorem d_prog_23_5_16 : decode prog_23_method_5_code 16 = .ok (.iload_n 3, 1) := by decide +kernel
theorem d_prog_23_5_17 : decode prog_23_method_5_code 17 = .ok (.invokevirtual 36, 3) := by decide +kernel
theorem d_prog_23_5_20 : decode prog_23_method_5_code 20 = .ok (.i2l, 1) := by decide +kernel
theorem d_prog_23_5_21 : decode prog_23_method_5_code 21 = .ok (.lxor, 1) := by decide +kernel
theorem d_prog_23_5_22 : decode prog_23_method_5_code 22 = .ok (.ldc2_w 40, 3) := by decide +kernel
theorem d_prog_23_5_25 : decode prog_23_method_5_code 25 = .ok (.lmul, 1) := by decide +kernel
theorem d_prog_23_5_26 : decode prog_23_method_5_code 26 = .ok (.lstore_n 1, 1) := by decide +kernel
theorem d_prog_23_5_27 : decode prog_23_method_5_code 27 = .ok (.iinc 3 1, 3) := by decide +kernel
theorem d_prog_23_5_30 : decode prog_23_method_5_code 30 = .ok (.goto (-24), 3) := by decide +kernel
theorem d_prog_23_5_33 : decode prog_23_method_5_code 33 = .ok (.lload_n 1, 1) := by decide +kernel
theorem d_prog_23_5_34 : decode prog_23_method_5_code 34 = .ok (.lload_n 1, 1) := by decide +kernel
theorem d_prog_23_5_35 : decode prog_23_method_5_code 35 = .ok (.bipush 30, 2) := by decide +kernel
theorem d_prog_23_5_37 : decode prog_23_method_5_code 37 = .ok (.lushr, 1) := by decide +kernel
theorem d_prog_23_5_38 : decode prog_23_method_5_code 38 = .ok (.lxor, 1) := by decide +kernel
theorem d_prog_23_5_39 : decode prog_23_method_5_code 39 = .ok (.ldc2_w 42, 3) := by decide +kernel
theorem d_prog_23_5_42 : decode prog_23_method_5_code 42 = .ok (.lmul, 1) := by decide +kernel
theorem d_prog_23_5_43 : decode prog_23_method_5_code 43 = .ok (.lstore_n 1, 1) := by decide +kernel
theorem d_prog_23_5_44 : decode prog_23_method_5_code 44 = .ok (.lload_n 1, 1) := by decide +kernel
theorem d_prog_23_5_45 : decode prog_23_method_5_code 45 = .ok (.lload_n 1, 1) := by decide +kernel
theorem d_prog_23_5_46 : decode prog_23_method_5_code 46 = .ok (.bipush 27, 2) := by decide +kernel
theorem d_prog_23_5_48 : decode prog_23_method_5_code 48 = .ok (.lushr, 1) := by decide +kernel
theorem d_prog_23_5_49 : decode prog_23_method_5_code 49 = .ok (.lxor, 1) := by decide +kernel
theorem d_prog_23_5_50 : decode prog_23_method_5_code 50 = .ok (.ldc2_w 44, 3) := by decide +kernel
theorem d_prog_23_5_53 : decode prog_23_method_5_code 53 = .ok (.lmul, 1) := by decide +kernel
theorem d_prog_23_5_54 : decode prog_23_method_5_code 54 = .ok (.lstore_n 1, 1) := by decide +kernel
theorem d_prog_23_5_55 : decode prog_23_method_5_code 55 = .ok (.lload_n 1, 1) := by decide +kernel
theorem d_prog_23_5_56 : decode prog_23_method_5_code 56 = .ok (.lload_n 1, 1) := by decide +kernel
theorem d_prog_23_5_57 : decode prog_23_method_5_code 57 = .ok (.bipush 31, 2) := by decide +kernel
theorem d_prog_23_5_59 : decode prog_23_method_5_code 59 = .ok (.lushr, 1) := by decide +kernel
theorem d_prog_23_5_60 : decode prog_23_method_5_code 60 = .ok (.lxor, 1) := by decide +kernel
theorem d_prog_23_5_61 : decode prog_23_method_5_code 61 = .ok (.lstore_n 1, 1) := by decide +kernel
theorem d_prog_23_5_62 : decode prog_23_method_5_code 62 = .ok (.lload_n 1, 1) := by decide +kernel
theorem d_prog_23_5_63 : decode prog_23_method_5_code 63 = .ok (.lconst 0, 1) := by decide +kernel
theorem d_prog_23_5_64 : decode prog_23_method_5_code 64 = .ok (.lcmp, 1) := by decide +kernel
theorem d_prog_23_5_65 : decode prog_23_method_5_code 65 = .ok (.ifCond .ne 7, 3) := by decide +kernel
theorem d_prog_23_5_68 : decode prog_23_method_5_code 68 = .ok (.lconst 1, 1) := by decide +kernel
theorem d_prog_23_5_69 : decode prog_23_method_5_code 69 = .ok (.goto 4, 3) := by decide +kernel
theorem d_prog_23_5_72 : decode prog_23_method_5_code 72 = .ok (.lload_n 1, 1) := by decide +kernel
theorem d_prog_23_5_73 : decode prog_23_method_5_code 73 = .ok (.lreturn, 1) := by decide +kernel
theorem pd_0 : parseMethodDescriptor "([CI[BII)I" = some ⟨[(.array .char), .int, (.array .byte), .int, .int], some .int⟩ := by decide +kernel
theorem pd_1 : parseMethodDescriptor "([CII)[B" = some ⟨[(.array .char), .int, .int], some (.array .byte)⟩ := by decide +kernel
theorem pd_2 : parseMethodDescriptor "([BI)B" = some ⟨[(.array .byte), .int], some .byte⟩ := by decide +kernel
theorem pd_3 : parseMethodDescriptor "(I)I" = some ⟨[.int], some .int⟩ := by decide +kernel
theorem pd_4 : parseMethodDescriptor "(I)[B" = some ⟨[.int], some (.array .byte)⟩ := by decide +kernel
theorem pd_5 : parseMethodDescriptor "([BII)V" = some ⟨[(.array .byte), .int, .int], none⟩ := by decide +kernel
theorem pd_6 : parseMethodDescriptor "([BI)C" = some ⟨[(.array .byte), .int], some .char⟩ := by decide +kernel
theorem pd_7 : parseMethodDescriptor "([CIILjava/lang/Void;)V" = some ⟨[(.array .char), .int, .int, (.object "java/lang/Void")], none⟩ := by decide +kernel
theorem pd_8 : parseMethodDescriptor "()B" = some ⟨[], some .byte⟩ := by decide +kernel
theorem pd_9 : parseMethodDescriptor "(IILjava/util/function/BiFunction;)I" = some ⟨[.int, .int, (.object "java/util/function/BiFunction")], some .int⟩ := by decide +kernel
theorem pd_10 : parseMethodDescriptor "(II)V" = some ⟨[.int, .int], none⟩ := by decide +kernel
theorem pd_11 : parseMethodDescriptor "([B)I" = some ⟨[(.array .byte)], some .int⟩ := by decide +kernel
theorem pd_12 : parseMethodDescriptor "(I[B)V" = some ⟨[.int, (.array .byte)], none⟩ := by decide +kernel
theorem pd_13 : parseMethodDescriptor "()Z" = some ⟨[], some .boolean⟩ := by decide +kernel
theorem pd_14 : parseMethodDescriptor "([B[B)Z" = some ⟨[(.array .byte), (.array .byte)], some .boolean⟩ := by decide +kernel
theorem pd_15 : parseMethodDescriptor "(C)Z" = some ⟨[.char], some .boolean⟩ := by decide +kernel
theorem pd_16 : parseMethodDescriptor "(C)[B" = some ⟨[.char], some (.array .byte)⟩ := by decide +kernel
theorem pd_17 : parseMethodDescriptor "([BB)V" = some ⟨[(.array .byte), .byte], none⟩ := by decide +kernel
theorem pd_18 : parseMethodDescriptor "()I" = some ⟨[], some .int⟩ := by decide +kernel
theorem pd_19 : parseMethodDescriptor "(I)C" = some ⟨[.int], some .char⟩ := by decide +kernel
theorem pd_20 : parseMethodDescriptor "(Ljava/lang/String;)J" = some ⟨[(.object "java/lang/String")], some .long⟩ := by decide +kernel
theorem pd_21 : parseMethodDescriptor "([JJ)I" = some ⟨[(.array .long), .long], some .int⟩ := by decide +kernel
theorem pd_22 : parseMethodDescriptor "()V" = some ⟨[], none⟩ := by decide +kernel
theorem pd_23 : parseMethodDescriptor "(Ljava/lang/String;)Z" = some ⟨[(.object "java/lang/String")], some .boolean⟩ := by decide +kernel
theorem pd_24 : parseMethodDescriptor "(Ljava/lang/Object;)Z" = some ⟨[(.object "java/lang/Object")], some .boolean⟩ := by decide +kernel
theorem pd_25 : parseMethodDescriptor "(C)Ljava/lang/String;" = some ⟨[.char], some (.object "java/lang/String")⟩ := by decide +kernel
theorem pd_26 : parseMethodDescriptor "([C)V" = some ⟨[(.array .char)], none⟩ := by decide +kernel
theorem pn_0 : plainName "java/lang/StringUTF16" = true := by first | (simp [plainName, overriddenIn]; done) | decide +kernel
theorem pn_1 : plainName "java/lang/String" = true := by first | (simp [plainName, overriddenIn]; done) | decide +kernel
theorem pn_2 : plainName "jdk/internal/util/Preconditions" = true := by first | (simp [plainName, overriddenIn]; done) | decide +kernel
theorem pn_3 : plainName "java/lang/StringLatin1" = true := by first | (simp [plainName, overriddenIn]; done) | decide +kernel
theorem pn_4 : plainName "com/example/tuned_odds/tunedodds/index/FingerprintSet" = true := by first | (simp [plainName, overriddenIn]; done) | decide +kernel
theorem pn_5 : plainName "com/example/tuned_odds/tunedodds/index/FingerprintSetAddPinLaw" = true := by first | (simp [plainName, overriddenIn]; done) | decide +kernel
theorem w_0 {a0 : Array Value} {Z : State} (hw : ∀ d ∈ tables_1, d.before a0 Z = true) : (Jvm.Cond.methodLink "com/example/tuned_odds/tunedodds/index/FingerprintSetAddPinLaw" (7 : Nat) ({ cls := "java/lang/String", name := "valueOf", desc := "(C)Ljava/lang/String;" } : Jvm.MethodName)).before a0 Z = true := hw _ (List.mem_of_getElem? (i := 0) rfl)
theorem w_1 {a0 : Array Value} {Z : State} (hw : ∀ d ∈ tables_1, d.before a0 Z = true) : (Jvm.Cond.static ({ cls := "java/lang/String", name := "valueOf", desc := "(C)Ljava/lang/String;" } : Jvm.MethodName)).before a0 Z = true := hw _ (List.mem_of_getElem? (i := 1) rfl)
theorem w_2 {a0 : Array Value} {Z : State} (hw : ∀ d ∈ tables_1, d.before a0 Z = true) : (Jvm.Cond.initialized "java/lang/String").before a0 Z = true := hw _ (List.mem_of_getElem? (i := 2) rfl)
theorem w_3 {a0 : Array Value} {Z : State} (hw : ∀ d ∈ tables_1, d.before a0 Z = true) : (Jvm.Cond.code ({ cls := "java/lang/String", name := "valueOf", desc := "(C)Ljava/lang/String;" } : Jvm.MethodName) jdk_42_method_139_code (1 : Nat) (Option.some (Jvm.ClassFile.FieldType.object "java/lang/String"))).before a0 Z = true := hw _ (List.mem_of_getElem? (i := 3) rfl)
theorem w_4 {a0 : Array Value} {Z : State} (hw : ∀ d ∈ tables_1, d.before a0 Z = true) : (Jvm.Cond.fieldLink "java/lang/String" (38 : Nat) "java/lang/String" "COMPACT_STRINGS" "Z").before a0 Z = true := hw _ (List.mem_of_getElem? (i := 4) rfl)
theorem w_5 {a0 : Array Value} {Z : State} (hw : ∀ d ∈ tables_1, d.before a0 Z = true) : (Jvm.Cond.methodLink "java/lang/String" (1015 : Nat) ({ cls := "java/lang/StringLatin1", name := "canEncode", desc := "(C)Z" } : Jvm.MethodName)).before a0 Z = true := hw _ (List.mem_of_getElem? (i := 5) rfl)
theorem w_6 {a0 : Array Value} {Z : State} (hw : ∀ d ∈ tables_1, d.before a0 Z = true) : (Jvm.Cond.static ({ cls := "java/lang/StringLatin1", name := "canEncode", desc := "(C)Z" } : Jvm.MethodName)).before a0 Z = true := hw _ (List.mem_of_getElem? (i := 6) rfl)
theorem w_7 {a0 : Array Value} {Z : State} (hw : ∀ d ∈ tables_1, d.before a0 Z = true) : (Jvm.Cond.initialized "java/lang/StringLatin1").before a0 Z = true := hw _ (List.mem_of_getElem? (i := 7) rfl)
theorem w_8 {a0 : Array Value} {Z : State} (hw : ∀ d ∈ tables_1, d.before a0 Z = true) : (Jvm.Cond.code ({ cls := "java/lang/StringLatin1", name := "canEncode", desc := "(C)Z" } : Jvm.MethodName) jdk_43_method_3_code (1 : Nat) (Option.some Jvm.ClassFile.FieldType.boolean)).before a0 Z = true := hw _ (List.mem_of_getElem? (i := 8) rfl)
theorem w_9 {a0 : Array Value} {Z : State} (hw : ∀ d ∈ tables_1, d.before a0 Z = true) : (Jvm.Cond.classLink "java/lang/String" (10 : Nat) "java/lang/String").before a0 Z = true := hw _ (List.mem_of_getElem? (i := 9) rfl)
theorem w_10 {a0 : Array Value} {Z : State} (hw : ∀ d ∈ tables_1, d.before a0 Z = true) : (Jvm.Cond.instantiable "java/lang/String" (4 : Nat)).before a0 Z = true := hw _ (List.mem_of_getElem? (i := 10) rfl)
theorem w_11 {a0 : Array Value} {Z : State} (hw : ∀ d ∈ tables_1, d.before a0 Z = true) : (Jvm.Cond.methodLink "java/lang/String" (1018 : Nat) ({ cls := "java/lang/StringLatin1", name := "toBytes", desc := "(C)[B" } : Jvm.MethodName)).before a0 Z = true := hw _ (List.mem_of_getElem? (i := 11) rfl)
theorem w_12 {a0 : Array Value} {Z : State} (hw : ∀ d ∈ tables_1, d.before a0 Z = true) : (Jvm.Cond.static ({ cls := "java/lang/StringLatin1", name := "toBytes", desc := "(C)[B" } : Jvm.MethodName)).before a0 Z = true := hw _ (List.mem_of_getElem? (i := 12) rfl)
theorem w_13 {a0 : Array Value} {Z : State} (hw : ∀ d ∈ tables_1, d.before a0 Z = true) : (Jvm.Cond.code ({ cls := "java/lang/StringLatin1", name := "toBytes", desc := "(C)[B" } : Jvm.MethodName) jdk_43_method_46_code (1 : Nat) (Option.some (Jvm.ClassFile.FieldType.array Jvm.ClassFile.FieldType.byte))).before a0 Z = true := hw _ (List.mem_of_getElem? (i := 13) rfl)
theorem w_14 {a0 : Array Value} {Z : State} (hw : ∀ d ∈ tables_1, d.before a0 Z = true) : (Jvm.Cond.arrayClass Jvm.ClassFile.FieldType.byte).before a0 Z = true := hw _ (List.mem_of_getElem? (i := 14) rfl)
theorem w_15 {a0 : Array Value} {Z : State} (hw : ∀ d ∈ tables_1, d.before a0 Z = true) : (Jvm.Cond.methodLink "java/lang/String" (209 : Nat) ({ cls := "java/lang/String", name := "<init>", desc := "([BB)V" } : Jvm.MethodName)).before a0 Z = true := hw _ (List.mem_of_getElem? (i := 15) rfl)
theorem w_16 {a0 : Array Value} {Z : State} (hw : ∀ d ∈ tables_1, d.before a0 Z = true) : (Jvm.Cond.instanceMethod ({ cls := "java/lang/String", name := "<init>", desc := "([BB)V" } : Jvm.MethodName)).before a0 Z = true := hw _ (List.mem_of_getElem? (i := 16) rfl)
theorem w_18 {a0 : Array Value} {Z : State} (hw : ∀ d ∈ tables_1, d.before a0 Z = true) : (Jvm.Cond.code ({ cls := "java/lang/String", name := "<init>", desc := "([BB)V" } : Jvm.MethodName) jdk_42_method_151_code (3 : Nat) (Option.none : Option Jvm.ClassFile.FieldType)).before a0 Z = true := hw _ (List.mem_of_getElem? (i := 18) rfl)
theorem w_19 {a0 : Array Value} {Z : State} (hw : ∀ d ∈ tables_1, d.before a0 Z = true) : (Jvm.Cond.methodLink "java/lang/String" (1 : Nat) ({ cls := "java/lang/Object", name := "<init>", desc := "()V" } : Jvm.MethodName)).before a0 Z = true := hw _ (List.mem_of_getElem? (i := 19) rfl)
theorem w_20 {a0 : Array Value} {Z : State} (hw : ∀ d ∈ tables_1, d.before a0 Z = true) : (Jvm.Cond.instanceMethod ({ cls := "java/lang/Object", name := "<init>", desc := "()V" } : Jvm.MethodName)).before a0 Z = true := hw _ (List.mem_of_getElem? (i := 20) rfl)
theorem w_21 {a0 : Array Value} {Z : State} (hw : ∀ d ∈ tables_1, d.before a0 Z = true) : (Jvm.Cond.code ({ cls := "java/lang/Object", name := "<init>", desc := "()V" } : Jvm.MethodName) object_method_1_code (1 : Nat) (Option.none : Option Jvm.ClassFile.FieldType)).before a0 Z = true := hw _ (List.mem_of_getElem? (i := 21) rfl)
theorem w_22 {a0 : Array Value} {Z : State} (hw : ∀ d ∈ tables_1, d.before a0 Z = true) : (Jvm.Cond.fieldLink "java/lang/String" (9 : Nat) "java/lang/String" "value" "[B").before a0 Z = true := hw _ (List.mem_of_getElem? (i := 22) rfl)
theorem w_23 {a0 : Array Value} {Z : State} (hw : ∀ d ∈ tables_1, d.before a0 Z = true) : (Jvm.Cond.laysFinal "java/lang/String" "java/lang/String" "value" "[B").before a0 Z = true := hw _ (List.mem_of_getElem? (i := 23) rfl)
theorem w_24 {a0 : Array Value} {Z : State} (hw : ∀ d ∈ tables_1, d.before a0 Z = true) : (Jvm.Cond.fieldLink "java/lang/String" (15 : Nat) "java/lang/String" "coder" "B").before a0 Z = true := hw _ (List.mem_of_getElem? (i := 24) rfl)
theorem w_25 {a0 : Array Value} {Z : State} (hw : ∀ d ∈ tables_1, d.before a0 Z = true) : (Jvm.Cond.laysFinal "java/lang/String" "java/lang/String" "coder" "B").before a0 Z = true := hw _ (List.mem_of_getElem? (i := 25) rfl)
theorem w_26 {a0 : Array Value} {Z : State} (hw : ∀ d ∈ tables_1, d.before a0 Z = true) : (Jvm.Cond.classLink "com/example/tuned_odds/tunedodds/index/FingerprintSetAddPinLaw" (16 : Nat) "com/example/tuned_odds/tunedodds/index/FingerprintSet").before a0 Z = true := hw _ (List.mem_of_getElem? (i := 26) rfl)
theorem w_27 {a0 : Array Value} {Z : State} (hw : ∀ d ∈ tables_1, d.before a0 Z = true) : (Jvm.Cond.instantiable "com/example/tuned_odds/tunedodds/index/FingerprintSet" (2 : Nat)).before a0 Z = true := hw _ (List.mem_of_getElem? (i := 27) rfl)
theorem w_28 {a0 : Array Value} {Z : State} (hw : ∀ d ∈ tables_1, d.before a0 Z = true) : (Jvm.Cond.initialized "com/example/tuned_odds/tunedodds/index/FingerprintSet").before a0 Z = true := hw _ (List.mem_of_getElem? (i := 28) rfl)
theorem w_29 {a0 : Array Value} {Z : State} (hw : ∀ d ∈ tables_1, d.before a0 Z = true) : (Jvm.Cond.methodLink "com/example/tuned_odds/tunedodds/index/FingerprintSetAddPinLaw" (18 : Nat) ({ cls := "com/example/tuned_odds/tunedodds/index/FingerprintSet", name := "<init>", desc := "()V" } : Jvm.MethodName)).before a0 Z = true := hw _ (List.mem_of_getElem? (i := 29) rfl)
theorem w_30 {a0 : Array Value} {Z : State} (hw : ∀ d ∈ tables_1, d.before a0 Z = true) : (Jvm.Cond.instanceMethod ({ cls := "com/example/tuned_odds/tunedodds/index/FingerprintSet", name := "<init>", desc := "()V" } : Jvm.MethodName)).before a0 Z = true := hw _ (List.mem_of_getElem? (i := 30) rfl)
theorem w_31 {a0 : Array Value} {Z : State} (hw : ∀ d ∈ tables_1, d.before a0 Z = true) : (Jvm.Cond.code ({ cls := "com/example/tuned_odds/tunedodds/index/FingerprintSet", name := "<init>", desc := "()V" } : Jvm.MethodName) prog_23_method_1_code (1 : Nat) (Option.none : Option Jvm.ClassFile.FieldType)).before a0 Z = true := hw _ (List.mem_of_getElem? (i := 31) rfl)
theorem w_32 {a0 : Array Value} {Z : State} (hw : ∀ d ∈ tables_1, d.before a0 Z = true) : (Jvm.Cond.methodLink "com/example/tuned_odds/tunedodds/index/FingerprintSet" (1 : Nat) ({ cls := "java/lang/Object", name := "<init>", desc := "()V" } : Jvm.MethodName)).before a0 Z = true := hw _ (List.mem_of_getElem? (i := 32) rfl)
theorem w_33 {a0 : Array Value} {Z : State} (hw : ∀ d ∈ tables_1, d.before a0 Z = true) : (Jvm.Cond.arrayClass Jvm.ClassFile.FieldType.long).before a0 Z = true := hw _ (List.mem_of_getElem? (i := 33) rfl)
theorem w_34 {a0 : Array Value} {Z : State} (hw : ∀ d ∈ tables_1, d.before a0 Z = true) : (Jvm.Cond.fieldLink "com/example/tuned_odds/tunedodds/index/FingerprintSet" (7 : Nat) "com/example/tuned_odds/tunedodds/index/FingerprintSet" "slots" "[J").before a0 Z = true := hw _ (List.mem_of_getElem? (i := 34) rfl)
theorem w_35 {a0 : Array Value} {Z : State} (hw : ∀ d ∈ tables_1, d.before a0 Z = true) : (Jvm.Cond.lays "com/example/tuned_odds/tunedodds/index/FingerprintSet" "com/example/tuned_odds/tunedodds/index/FingerprintSet" "slots" "[J").before a0 Z = true := hw _ (List.mem_of_getElem? (i := 35) rfl)
theorem w_36 {a0 : Array Value} {Z : State} (hw : ∀ d ∈ tables_1, d.before a0 Z = true) : (Jvm.Cond.methodLink "com/example/tuned_odds/tunedodds/index/FingerprintSetAddPinLaw" (19 : Nat) ({ cls := "com/example/tuned_odds/tunedodds/index/FingerprintSet", name := "add", desc := "(Ljava/lang/String;)Z" } : Jvm.MethodName)).before a0 Z = true := hw _ (List.mem_of_getElem? (i := 36) rfl)
theorem w_37 {a0 : Array Value} {Z : State} (hw : ∀ d ∈ tables_1, d.before a0 Z = true) : (Jvm.Cond.declares ({ cls := "com/example/tuned_odds/tunedodds/index/FingerprintSet", name := "add", desc := "(Ljava/lang/String;)Z" } : Jvm.MethodName)).before a0 Z = true := hw _ (List.mem_of_getElem? (i := 37) rfl)
theorem w_38 {a0 : Array Value} {Z : State} (hw : ∀ d ∈ tables_1, d.before a0 Z = true) : (Jvm.Cond.instanceMethod ({ cls := "com/example/tuned_odds/tunedodds/index/FingerprintSet", name := "add", desc := "(Ljava/lang/String;)Z" } : Jvm.MethodName)).before a0 Z = true := hw _ (List.mem_of_getElem? (i := 38) rfl)
theorem w_39 {a0 : Array Value} {Z : State} (hw : ∀ d ∈ tables_1, d.before a0 Z = true) : (Jvm.Cond.selects "com/example/tuned_odds/tunedodds/index/FingerprintSet" ({ cls := "com/example/tuned_odds/tunedodds/index/FingerprintSet", name := "add", desc := "(Ljava/lang/String;)Z" } : Jvm.MethodName) ({ cls := "com/example/tuned_odds/tunedodds/index/FingerprintSet", name := "add", desc := "(Ljava/lang/String;)Z" } : Jvm.MethodName)).before a0 Z = true := hw _ (List.mem_of_getElem? (i := 39) rfl)
theorem w_40 {a0 : Array Value} {Z : State} (hw : ∀ d ∈ tables_1, d.before a0 Z = true) : (Jvm.Cond.code ({ cls := "com/example/tuned_odds/tunedodds/index/FingerprintSet", name := "add", desc := "(Ljava/lang/String;)Z" } : Jvm.MethodName) prog_23_method_2_code (5 : Nat) (Option.some Jvm.ClassFile.FieldType.boolean)).before a0 Z = true := hw _ (List.mem_of_getElem? (i := 40) rfl)
theorem w_41 {a0 : Array Value} {Z : State} (hw : ∀ d ∈ tables_1, d.before a0 Z = true) : (Jvm.Cond.methodLink "com/example/tuned_odds/tunedodds/index/FingerprintSet" (13 : Nat) ({ cls := "com/example/tuned_odds/tunedodds/index/FingerprintSet", name := "fingerprint", desc := "(Ljava/lang/String;)J" } : Jvm.MethodName)).before a0 Z = true := hw _ (List.mem_of_getElem? (i := 41) rfl)
theorem w_42 {a0 : Array Value} {Z : State} (hw : ∀ d ∈ tables_1, d.before a0 Z = true) : (Jvm.Cond.static ({ cls := "com/example/tuned_odds/tunedodds/index/FingerprintSet", name := "fingerprint", desc := "(Ljava/lang/String;)J" } : Jvm.MethodName)).before a0 Z = true := hw _ (List.mem_of_getElem? (i := 42) rfl)
theorem w_43 {a0 : Array Value} {Z : State} (hw : ∀ d ∈ tables_1, d.before a0 Z = true) : (Jvm.Cond.code ({ cls := "com/example/tuned_odds/tunedodds/index/FingerprintSet", name := "fingerprint", desc := "(Ljava/lang/String;)J" } : Jvm.MethodName) prog_23_method_5_code (4 : Nat) (Option.some Jvm.ClassFile.FieldType.long)).before a0 Z = true := hw _ (List.mem_of_getElem? (i := 43) rfl)
theorem w_44 {a0 : Array Value} {Z : State} (hw : ∀ d ∈ tables_1, d.before a0 Z = true) : (Jvm.Cond.constantLong "com/example/tuned_odds/tunedodds/index/FingerprintSet" (28 : Nat) (-3750763034362895579 : Int64)).before a0 Z = true := hw _ (List.mem_of_getElem? (i := 44) rfl)
theorem w_45 {a0 : Array Value} {Z : State} (hw : ∀ d ∈ tables_1, d.before a0 Z = true) : (Jvm.Cond.methodLink "com/example/tuned_odds/tunedodds/index/FingerprintSet" (30 : Nat) ({ cls := "java/lang/String", name := "length", desc := "()I" } : Jvm.MethodName)).before a0 Z = true := hw _ (List.mem_of_getElem? (i := 45) rfl)
theorem w_46 {a0 : Array Value} {Z : State} (hw : ∀ d ∈ tables_1, d.before a0 Z = true) : (Jvm.Cond.declares ({ cls := "java/lang/String", name := "length", desc := "()I" } : Jvm.MethodName)).before a0 Z = true := hw _ (List.mem_of_getElem? (i := 46) rfl)
theorem w_47 {a0 : Array Value} {Z : State} (hw : ∀ d ∈ tables_1, d.before a0 Z = true) : (Jvm.Cond.instanceMethod ({ cls := "java/lang/String", name := "length", desc := "()I" } : Jvm.MethodName)).before a0 Z = true := hw _ (List.mem_of_getElem? (i := 47) rfl)
theorem w_48 {a0 : Array Value} {Z : State} (hw : ∀ d ∈ tables_1, d.before a0 Z = true) : (Jvm.Cond.selects "java/lang/String" ({ cls := "java/lang/String", name := "length", desc := "()I" } : Jvm.MethodName) ({ cls := "java/lang/String", name := "length", desc := "()I" } : Jvm.MethodName)).before a0 Z = true := hw _ (List.mem_of_getElem? (i := 48) rfl)
theorem w_49 {a0 : Array Value} {Z : State} (hw : ∀ d ∈ tables_1, d.before a0 Z = true) : (Jvm.Cond.code ({ cls := "java/lang/String", name := "length", desc := "()I" } : Jvm.MethodName) jdk_42_method_54_code (1 : Nat) (Option.some Jvm.ClassFile.FieldType.int)).before a0 Z = true := hw _ (List.mem_of_getElem? (i := 49) rfl)
theorem w_50 {a0 : Array Value} {Z : State} (hw : ∀ d ∈ tables_1, d.before a0 Z = true) : (Jvm.Cond.methodLink "java/lang/String" (335 : Nat) ({ cls := "java/lang/String", name := "coder", desc := "()B" } : Jvm.MethodName)).before a0 Z = true := hw _ (List.mem_of_getElem? (i := 50) rfl)
theorem w_51 {a0 : Array Value} {Z : State} (hw : ∀ d ∈ tables_1, d.before a0 Z = true) : (Jvm.Cond.declares ({ cls := "java/lang/String", name := "coder", desc := "()B" } : Jvm.MethodName)).before a0 Z = true := hw _ (List.mem_of_getElem? (i := 51) rfl)
theorem w_52 {a0 : Array Value} {Z : State} (hw : ∀ d ∈ tables_1, d.before a0 Z = true) : (Jvm.Cond.instanceMethod ({ cls := "java/lang/String", name := "coder", desc := "()B" } : Jvm.MethodName)).before a0 Z = true := hw _ (List.mem_of_getElem? (i := 52) rfl)
theorem w_53 {a0 : Array Value} {Z : State} (hw : ∀ d ∈ tables_1, d.before a0 Z = true) : (Jvm.Cond.selects "java/lang/String" ({ cls := "java/lang/String", name := "coder", desc := "()B" } : Jvm.MethodName) ({ cls := "java/lang/String", name := "coder", desc := "()B" } : Jvm.MethodName)).before a0 Z = true := hw _ (List.mem_of_getElem? (i := 53) rfl)
theorem w_54 {a0 : Array Value} {Z : State} (hw : ∀ d ∈ tables_1, d.before a0 Z = true) : (Jvm.Cond.code ({ cls := "java/lang/String", name := "coder", desc := "()B" } : Jvm.MethodName) jdk_42_method_152_code (1 : Nat) (Option.some Jvm.ClassFile.FieldType.byte)).before a0 Z = true := hw _ (List.mem_of_getElem? (i := 54) rfl)
theorem w_55 {a0 : Array Value} {Z : State} (hw : ∀ d ∈ tables_1, d.before a0 Z = true) : (Jvm.Cond.methodLink "com/example/tuned_odds/tunedodds/index/FingerprintSet" (36 : Nat) ({ cls := "java/lang/String", name := "charAt", desc := "(I)C" } : Jvm.MethodName)).before a0 Z = true := hw _ (List.mem_of_getElem? (i := 55) rfl)
theorem w_56 {a0 : Array Value} {Z : State} (hw : ∀ d ∈ tables_1, d.before a0 Z = true) : (Jvm.Cond.declares ({ cls := "java/lang/String", name := "charAt", desc := "(I)C" } : Jvm.MethodName)).before a0 Z = true := hw _ (List.mem_of_getElem? (i := 56) rfl)
theorem w_57 {a0 : Array Value} {Z : State} (hw : ∀ d ∈ tables_1, d.before a0 Z = true) : (Jvm.Cond.instanceMethod ({ cls := "java/lang/String", name := "charAt", desc := "(I)C" } : Jvm.MethodName)).before a0 Z = true := hw _ (List.mem_of_getElem? (i := 57) rfl)
theorem w_58 {a0 : Array Value} {Z : State} (hw : ∀ d ∈ tables_1, d.before a0 Z = true) : (Jvm.Cond.selects "java/lang/String" ({ cls := "java/lang/String", name := "charAt", desc := "(I)C" } : Jvm.MethodName) ({ cls := "java/lang/String", name := "charAt", desc := "(I)C" } : Jvm.MethodName)).before a0 Z = true := hw _ (List.mem_of_getElem? (i := 58) rfl)
theorem w_59 {a0 : Array Value} {Z : State} (hw : ∀ d ∈ tables_1, d.before a0 Z = true) : (Jvm.Cond.code ({ cls := "java/lang/String", name := "charAt", desc := "(I)C" } : Jvm.MethodName) jdk_42_method_56_code (2 : Nat) (Option.some Jvm.ClassFile.FieldType.char)).before a0 Z = true := hw _ (List.mem_of_getElem? (i := 59) rfl)
theorem w_60 {a0 : Array Value} {Z : State} (hw : ∀ d ∈ tables_1, d.before a0 Z = true) : (Jvm.Cond.methodLink "java/lang/String" (492 : Nat) ({ cls := "java/lang/String", name := "isLatin1", desc := "()Z" } : Jvm.MethodName)).before a0 Z = true := hw _ (List.mem_of_getElem? (i := 60) rfl)
theorem w_61 {a0 : Array Value} {Z : State} (hw : ∀ d ∈ tables_1, d.before a0 Z = true) : (Jvm.Cond.declares ({ cls := "java/lang/String", name := "isLatin1", desc := "()Z" } : Jvm.MethodName)).before a0 Z = true := hw _ (List.mem_of_getElem? (i := 61) rfl)
theorem w_62 {a0 : Array Value} {Z : State} (hw : ∀ d ∈ tables_1, d.before a0 Z = true) : (Jvm.Cond.instanceMethod ({ cls := "java/lang/String", name := "isLatin1", desc := "()Z" } : Jvm.MethodName)).before a0 Z = true := hw _ (List.mem_of_getElem? (i := 62) rfl)
theorem w_63 {a0 : Array Value} {Z : State} (hw : ∀ d ∈ tables_1, d.before a0 Z = true) : (Jvm.Cond.selects "java/lang/String" ({ cls := "java/lang/String", name := "isLatin1", desc := "()Z" } : Jvm.MethodName) ({ cls := "java/lang/String", name := "isLatin1", desc := "()Z" } : Jvm.MethodName)).before a0 Z = true := hw _ (List.mem_of_getElem? (i := 63) rfl)
theorem w_64 {a0 : Array Value} {Z : State} (hw : ∀ d ∈ tables_1, d.before a0 Z = true) : (Jvm.Cond.code ({ cls := "java/lang/String", name := "isLatin1", desc := "()Z" } : Jvm.MethodName) jdk_42_method_154_code (1 : Nat) (Option.some Jvm.ClassFile.FieldType.boolean)).before a0 Z = true := hw _ (List.mem_of_getElem? (i := 64) rfl)
theorem w_65 {a0 : Array Value} {Z : State} (hw : ∀ d ∈ tables_1, d.before a0 Z = true) : (Jvm.Cond.methodLink "java/lang/String" (495 : Nat) ({ cls := "java/lang/StringLatin1", name := "charAt", desc := "([BI)C" } : Jvm.MethodName)).before a0 Z = true := hw _ (List.mem_of_getElem? (i := 65) rfl)
theorem w_66 {a0 : Array Value} {Z : State} (hw : ∀ d ∈ tables_1, d.before a0 Z = true) : (Jvm.Cond.static ({ cls := "java/lang/StringLatin1", name := "charAt", desc := "([BI)C" } : Jvm.MethodName)).before a0 Z = true := hw _ (List.mem_of_getElem? (i := 66) rfl)
theorem w_67 {a0 : Array Value} {Z : State} (hw : ∀ d ∈ tables_1, d.before a0 Z = true) : (Jvm.Cond.code ({ cls := "java/lang/StringLatin1", name := "charAt", desc := "([BI)C" } : Jvm.MethodName) jdk_43_method_2_code (2 : Nat) (Option.some Jvm.ClassFile.FieldType.char)).before a0 Z = true := hw _ (List.mem_of_getElem? (i := 67) rfl)
theorem w_68 {a0 : Array Value} {Z : State} (hw : ∀ d ∈ tables_1, d.before a0 Z = true) : (Jvm.Cond.methodLink "java/lang/StringLatin1" (9 : Nat) ({ cls := "java/lang/String", name := "checkIndex", desc := "(II)V" } : Jvm.MethodName)).before a0 Z = true := hw _ (List.mem_of_getElem? (i := 68) rfl)
theorem w_69 {a0 : Array Value} {Z : State} (hw : ∀ d ∈ tables_1, d.before a0 Z = true) : (Jvm.Cond.static ({ cls := "java/lang/String", name := "checkIndex", desc := "(II)V" } : Jvm.MethodName)).before a0 Z = true := hw _ (List.mem_of_getElem? (i := 69) rfl)
theorem w_70 {a0 : Array Value} {Z : State} (hw : ∀ d ∈ tables_1, d.before a0 Z = true) : (Jvm.Cond.code ({ cls := "java/lang/String", name := "checkIndex", desc := "(II)V" } : Jvm.MethodName) jdk_42_method_155_code (2 : Nat) (Option.none : Option Jvm.ClassFile.FieldType)).before a0 Z = true := hw _ (List.mem_of_getElem? (i := 70) rfl)
theorem w_71 {a0 : Array Value} {Z : State} (hw : ∀ d ∈ tables_1, d.before a0 Z = true) : (Jvm.Cond.fieldLink "java/lang/String" (1053 : Nat) "jdk/internal/util/Preconditions" "SIOOBE_FORMATTER" "Ljava/util/function/BiFunction;").before a0 Z = true := hw _ (List.mem_of_getElem? (i := 71) rfl)
theorem w_72 {a0 : Array Value} {Z : State} (hw : ∀ d ∈ tables_1, d.before a0 Z = true) : (Jvm.Cond.initialized "jdk/internal/util/Preconditions").before a0 Z = true := hw _ (List.mem_of_getElem? (i := 72) rfl)
theorem w_73 {a0 : Array Value} {Z : State} (hw : ∀ d ∈ tables_1, d.before a0 Z = true) : (Jvm.Cond.methodLink "java/lang/String" (1059 : Nat) ({ cls := "jdk/internal/util/Preconditions", name := "checkIndex", desc := "(IILjava/util/function/BiFunction;)I" } : Jvm.MethodName)).before a0 Z = true := hw _ (List.mem_of_getElem? (i := 73) rfl)
theorem w_74 {a0 : Array Value} {Z : State} (hw : ∀ d ∈ tables_1, d.before a0 Z = true) : (Jvm.Cond.static ({ cls := "jdk/internal/util/Preconditions", name := "checkIndex", desc := "(IILjava/util/function/BiFunction;)I" } : Jvm.MethodName)).before a0 Z = true := hw _ (List.mem_of_getElem? (i := 74) rfl)
theorem w_75 {a0 : Array Value} {Z : State} (hw : ∀ d ∈ tables_1, d.before a0 Z = true) : (Jvm.Cond.code ({ cls := "jdk/internal/util/Preconditions", name := "checkIndex", desc := "(IILjava/util/function/BiFunction;)I" } : Jvm.MethodName) jdk_41_method_11_code (3 : Nat) (Option.some Jvm.ClassFile.FieldType.int)).before a0 Z = true := hw _ (List.mem_of_getElem? (i := 75) rfl)
theorem w_76 {a0 : Array Value} {Z : State} (hw : ∀ d ∈ tables_1, d.before a0 Z = true) : (Jvm.Cond.constantLong "com/example/tuned_odds/tunedodds/index/FingerprintSet" (40 : Nat) (1099511628211 : Int64)).before a0 Z = true := hw _ (List.mem_of_getElem? (i := 76) rfl)
theorem w_77 {a0 : Array Value} {Z : State} (hw : ∀ d ∈ tables_1, d.before a0 Z = true) : (Jvm.Cond.constantLong "com/example/tuned_odds/tunedodds/index/FingerprintSet" (42 : Nat) (-4658895280553007687 : Int64)).before a0 Z = true := hw _ (List.mem_of_getElem? (i := 77) rfl)
theorem w_78 {a0 : Array Value} {Z : State} (hw : ∀ d ∈ tables_1, d.before a0 Z = true) : (Jvm.Cond.constantLong "com/example/tuned_odds/tunedodds/index/FingerprintSet" (44 : Nat) (-7723592293110705685 : Int64)).before a0 Z = true := hw _ (List.mem_of_getElem? (i := 78) rfl)
theorem w_79 {a0 : Array Value} {Z : State} (hw : ∀ d ∈ tables_1, d.before a0 Z = true) : (Jvm.Cond.methodLink "com/example/tuned_odds/tunedodds/index/FingerprintSet" (17 : Nat) ({ cls := "com/example/tuned_odds/tunedodds/index/FingerprintSet", name := "find", desc := "([JJ)I" } : Jvm.MethodName)).before a0 Z = true := hw _ (List.mem_of_getElem? (i := 79) rfl)
theorem w_80 {a0 : Array Value} {Z : State} (hw : ∀ d ∈ tables_1, d.before a0 Z = true) : (Jvm.Cond.static ({ cls := "com/example/tuned_odds/tunedodds/index/FingerprintSet", name := "find", desc := "([JJ)I" } : Jvm.MethodName)).before a0 Z = true := hw _ (List.mem_of_getElem? (i := 80) rfl)
theorem w_81 {a0 : Array Value} {Z : State} (hw : ∀ d ∈ tables_1, d.before a0 Z = true) : (Jvm.Cond.code ({ cls := "com/example/tuned_odds/tunedodds/index/FingerprintSet", name := "find", desc := "([JJ)I" } : Jvm.MethodName) prog_23_method_4_code (5 : Nat) (Option.some Jvm.ClassFile.FieldType.int)).before a0 Z = true := hw _ (List.mem_of_getElem? (i := 81) rfl)
theorem w_82 {a0 : Array Value} {Z : State} (hw : ∀ d ∈ tables_1, d.before a0 Z = true) : (Jvm.Cond.fieldLink "com/example/tuned_odds/tunedodds/index/FingerprintSet" (21 : Nat) "com/example/tuned_odds/tunedodds/index/FingerprintSet" "size" "I").before a0 Z = true := hw _ (List.mem_of_getElem? (i := 82) rfl)
theorem w_83 {a0 : Array Value} {Z : State} (hw : ∀ d ∈ tables_1, d.before a0 Z = true) : (Jvm.Cond.lays "com/example/tuned_odds/tunedodds/index/FingerprintSet" "com/example/tuned_odds/tunedodds/index/FingerprintSet" "size" "I").before a0 Z = true := hw _ (List.mem_of_getElem? (i := 83) rfl)
theorem w_84 {a0 : Array Value} {Z : State} (hw : ∀ d ∈ tables_1, d.before a0 Z = true) : (Jvm.Cond.methodLink "com/example/tuned_odds/tunedodds/index/FingerprintSetAddPinLaw" (23 : Nat) ({ cls := "java/lang/String", name := "equals", desc := "(Ljava/lang/Object;)Z" } : Jvm.MethodName)).before a0 Z = true := hw _ (List.mem_of_getElem? (i := 84) rfl)
theorem w_85 {a0 : Array Value} {Z : State} (hw : ∀ d ∈ tables_1, d.before a0 Z = true) : (Jvm.Cond.declares ({ cls := "java/lang/String", name := "equals", desc := "(Ljava/lang/Object;)Z" } : Jvm.MethodName)).before a0 Z = true := hw _ (List.mem_of_getElem? (i := 85) rfl)
theorem w_86 {a0 : Array Value} {Z : State} (hw : ∀ d ∈ tables_1, d.before a0 Z = true) : (Jvm.Cond.instanceMethod ({ cls := "java/lang/String", name := "equals", desc := "(Ljava/lang/Object;)Z" } : Jvm.MethodName)).before a0 Z = true := hw _ (List.mem_of_getElem? (i := 86) rfl)
theorem w_87 {a0 : Array Value} {Z : State} (hw : ∀ d ∈ tables_1, d.before a0 Z = true) : (Jvm.Cond.selects "java/lang/String" ({ cls := "java/lang/String", name := "equals", desc := "(Ljava/lang/Object;)Z" } : Jvm.MethodName) ({ cls := "java/lang/String", name := "equals", desc := "(Ljava/lang/Object;)Z" } : Jvm.MethodName)).before a0 Z = true := hw _ (List.mem_of_getElem? (i := 87) rfl)
theorem w_88 {a0 : Array Value} {Z : State} (hw : ∀ d ∈ tables_1, d.before a0 Z = true) : (Jvm.Cond.code ({ cls := "java/lang/String", name := "equals", desc := "(Ljava/lang/Object;)Z" } : Jvm.MethodName) jdk_42_method_66_code (3 : Nat) (Option.some Jvm.ClassFile.FieldType.boolean)).before a0 Z = true := hw _ (List.mem_of_getElem? (i := 88) rfl)
theorem w_89 {a0 : Array Value} {Z : State} (hw : ∀ d ∈ tables_1, d.before a0 Z = true) : (Jvm.Cond.methodLink "java/lang/String" (541 : Nat) ({ cls := "java/lang/StringLatin1", name := "equals", desc := "([B[B)Z" } : Jvm.MethodName)).before a0 Z = true := hw _ (List.mem_of_getElem? (i := 89) rfl)
theorem w_90 {a0 : Array Value} {Z : State} (hw : ∀ d ∈ tables_1, d.before a0 Z = true) : (Jvm.Cond.static ({ cls := "java/lang/StringLatin1", name := "equals", desc := "([B[B)Z" } : Jvm.MethodName)).before a0 Z = true := hw _ (List.mem_of_getElem? (i := 90) rfl)
theorem w_91 {a0 : Array Value} {Z : State} (hw : ∀ d ∈ tables_1, d.before a0 Z = true) : (Jvm.Cond.code ({ cls := "java/lang/StringLatin1", name := "equals", desc := "([B[B)Z" } : Jvm.MethodName) jdk_43_method_13_code (3 : Nat) (Option.some Jvm.ClassFile.FieldType.boolean)).before a0 Z = true := hw _ (List.mem_of_getElem? (i := 91) rfl)
theorem w_92 {a0 : Array Value} {Z : State} (hw : ∀ d ∈ tables_1, d.before a0 Z = true) : (Jvm.Cond.classLink "com/example/tuned_odds/tunedodds/index/FingerprintSetAddPinLaw" (8 : Nat) "java/lang/String").before a0 Z = true := hw _ (List.mem_of_getElem? (i := 92) rfl)
theorem w_93 {a0 : Array Value} {Z : State} (hw : ∀ d ∈ tables_1, d.before a0 Z = true) : (Jvm.Cond.arrayClass Jvm.ClassFile.FieldType.char).before a0 Z = true := hw _ (List.mem_of_getElem? (i := 93) rfl)
theorem w_94 {a0 : Array Value} {Z : State} (hw : ∀ d ∈ tables_1, d.before a0 Z = true) : (Jvm.Cond.methodLink "com/example/tuned_odds/tunedodds/index/FingerprintSetAddPinLaw" (13 : Nat) ({ cls := "java/lang/String", name := "<init>", desc := "([C)V" } : Jvm.MethodName)).before a0 Z = true := hw _ (List.mem_of_getElem? (i := 94) rfl)
theorem w_95 {a0 : Array Value} {Z : State} (hw : ∀ d ∈ tables_1, d.before a0 Z = true) : (Jvm.Cond.instanceMethod ({ cls := "java/lang/String", name := "<init>", desc := "([C)V" } : Jvm.MethodName)).before a0 Z = true := hw _ (List.mem_of_getElem? (i := 95) rfl)
theorem w_96 {a0 : Array Value} {Z : State} (hw : ∀ d ∈ tables_1, d.before a0 Z = true) : (Jvm.Cond.code ({ cls := "java/lang/String", name := "<init>", desc := "([C)V" } : Jvm.MethodName) jdk_42_method_3_code (2 : Nat) (Option.none : Option Jvm.ClassFile.FieldType)).before a0 Z = true := hw _ (List.mem_of_getElem? (i := 96) rfl)
theorem w_97 {a0 : Array Value} {Z : State} (hw : ∀ d ∈ tables_1, d.before a0 Z = true) : (Jvm.Cond.methodLink "java/lang/String" (27 : Nat) ({ cls := "java/lang/String", name := "<init>", desc := "([CIILjava/lang/Void;)V" } : Jvm.MethodName)).before a0 Z = true := hw _ (List.mem_of_getElem? (i := 97) rfl)
theorem w_98 {a0 : Array Value} {Z : State} (hw : ∀ d ∈ tables_1, d.before a0 Z = true) : (Jvm.Cond.instanceMethod ({ cls := "java/lang/String", name := "<init>", desc := "([CIILjava/lang/Void;)V" } : Jvm.MethodName)).before a0 Z = true := hw _ (List.mem_of_getElem? (i := 98) rfl)
theorem w_99 {a0 : Array Value} {Z : State} (hw : ∀ d ∈ tables_1, d.before a0 Z = true) : (Jvm.Cond.code ({ cls := "java/lang/String", name := "<init>", desc := "([CIILjava/lang/Void;)V" } : Jvm.MethodName) jdk_42_method_149_code (6 : Nat) (Option.none : Option Jvm.ClassFile.FieldType)).before a0 Z = true := hw _ (List.mem_of_getElem? (i := 99) rfl)
theorem w_100 {a0 : Array Value} {Z : State} (hw : ∀ d ∈ tables_1, d.before a0 Z = true) : (Jvm.Cond.methodLink "java/lang/String" (177 : Nat) ({ cls := "java/lang/StringUTF16", name := "compress", desc := "([CII)[B" } : Jvm.MethodName)).before a0 Z = true := hw _ (List.mem_of_getElem? (i := 100) rfl)
theorem w_101 {a0 : Array Value} {Z : State} (hw : ∀ d ∈ tables_1, d.before a0 Z = true) : (Jvm.Cond.static ({ cls := "java/lang/StringUTF16", name := "compress", desc := "([CII)[B" } : Jvm.MethodName)).before a0 Z = true := hw _ (List.mem_of_getElem? (i := 101) rfl)
theorem w_102 {a0 : Array Value} {Z : State} (hw : ∀ d ∈ tables_1, d.before a0 Z = true) : (Jvm.Cond.initialized "java/lang/StringUTF16").before a0 Z = true := hw _ (List.mem_of_getElem? (i := 102) rfl)
theorem w_103 {a0 : Array Value} {Z : State} (hw : ∀ d ∈ tables_1, d.before a0 Z = true) : (Jvm.Cond.code ({ cls := "java/lang/StringUTF16", name := "compress", desc := "([CII)[B" } : Jvm.MethodName) jdk_52_method_16_code (6 : Nat) (Option.some (Jvm.ClassFile.FieldType.array Jvm.ClassFile.FieldType.byte))).before a0 Z = true := hw _ (List.mem_of_getElem? (i := 103) rfl)
theorem w_104 {a0 : Array Value} {Z : State} (hw : ∀ d ∈ tables_1, d.before a0 Z = true) : (Jvm.Cond.methodLink "java/lang/StringUTF16" (115 : Nat) ({ cls := "java/lang/StringUTF16", name := "compress", desc := "([CI[BII)I" } : Jvm.MethodName)).before a0 Z = true := hw _ (List.mem_of_getElem? (i := 104) rfl)
theorem w_105 {a0 : Array Value} {Z : State} (hw : ∀ d ∈ tables_1, d.before a0 Z = true) : (Jvm.Cond.static ({ cls := "java/lang/StringUTF16", name := "compress", desc := "([CI[BII)I" } : Jvm.MethodName)).before a0 Z = true := hw _ (List.mem_of_getElem? (i := 105) rfl)
theorem w_106 {a0 : Array Value} {Z : State} (hw : ∀ d ∈ tables_1, d.before a0 Z = true) : (Jvm.Cond.code ({ cls := "java/lang/StringUTF16", name := "compress", desc := "([CI[BII)I" } : Jvm.MethodName) jdk_52_method_21_code (7 : Nat) (Option.some Jvm.ClassFile.FieldType.int)).before a0 Z = true := hw _ (List.mem_of_getElem? (i := 106) rfl)
theorem w_107 {a0 : Array Value} {Z : State} (hw : ∀ d ∈ tables_1, d.before a0 Z = true) : (Jvm.Cond.methodLink "java/lang/String" (47 : Nat) ({ cls := "java/lang/StringUTF16", name := "coderFromArrayLen", desc := "([BI)B" } : Jvm.MethodName)).before a0 Z = true := hw _ (List.mem_of_getElem? (i := 107) rfl)
theorem w_108 {a0 : Array Value} {Z : State} (hw : ∀ d ∈ tables_1, d.before a0 Z = true) : (Jvm.Cond.static ({ cls := "java/lang/StringUTF16", name := "coderFromArrayLen", desc := "([BI)B" } : Jvm.MethodName)).before a0 Z = true := hw _ (List.mem_of_getElem? (i := 108) rfl)
theorem w_109 {a0 : Array Value} {Z : State} (hw : ∀ d ∈ tables_1, d.before a0 Z = true) : (Jvm.Cond.code ({ cls := "java/lang/StringUTF16", name := "coderFromArrayLen", desc := "([BI)B" } : Jvm.MethodName) jdk_52_method_15_code (2 : Nat) (Option.some Jvm.ClassFile.FieldType.byte)).before a0 Z = true := hw _ (List.mem_of_getElem? (i := 109) rfl)
theorem w_110 {a0 : Array Value} {Z : State} (hw : ∀ d ∈ tables_1, d.before a0 Z = true) : (Jvm.Cond.methodLink "java/lang/String" (1021 : Nat) ({ cls := "java/lang/StringUTF16", name := "toBytes", desc := "(C)[B" } : Jvm.MethodName)).before a0 Z = true := hw _ (List.mem_of_getElem? (i := 110) rfl)
theorem w_111 {a0 : Array Value} {Z : State} (hw : ∀ d ∈ tables_1, d.before a0 Z = true) : (Jvm.Cond.static ({ cls := "java/lang/StringUTF16", name := "toBytes", desc := "(C)[B" } : Jvm.MethodName)).before a0 Z = true := hw _ (List.mem_of_getElem? (i := 111) rfl)
theorem w_112 {a0 : Array Value} {Z : State} (hw : ∀ d ∈ tables_1, d.before a0 Z = true) : (Jvm.Cond.code ({ cls := "java/lang/StringUTF16", name := "toBytes", desc := "(C)[B" } : Jvm.MethodName) jdk_52_method_24_code (2 : Nat) (Option.some (Jvm.ClassFile.FieldType.array Jvm.ClassFile.FieldType.byte))).before a0 Z = true := hw _ (List.mem_of_getElem? (i := 112) rfl)
theorem w_113 {a0 : Array Value} {Z : State} (hw : ∀ d ∈ tables_1, d.before a0 Z = true) : (Jvm.Cond.methodLink "java/lang/StringUTF16" (111 : Nat) ({ cls := "java/lang/StringUTF16", name := "putChar", desc := "([BII)V" } : Jvm.MethodName)).before a0 Z = true := hw _ (List.mem_of_getElem? (i := 113) rfl)
theorem w_114 {a0 : Array Value} {Z : State} (hw : ∀ d ∈ tables_1, d.before a0 Z = true) : (Jvm.Cond.static ({ cls := "java/lang/StringUTF16", name := "putChar", desc := "([BII)V" } : Jvm.MethodName)).before a0 Z = true := hw _ (List.mem_of_getElem? (i := 114) rfl)
theorem w_115 {a0 : Array Value} {Z : State} (hw : ∀ d ∈ tables_1, d.before a0 Z = true) : (Jvm.Cond.code ({ cls := "java/lang/StringUTF16", name := "putChar", desc := "([BII)V" } : Jvm.MethodName) jdk_52_method_4_code (3 : Nat) (Option.none : Option Jvm.ClassFile.FieldType)).before a0 Z = true := hw _ (List.mem_of_getElem? (i := 115) rfl)
theorem w_116 {a0 : Array Value} {Z : State} (hw : ∀ d ∈ tables_1, d.before a0 Z = true) : (Jvm.Cond.fieldLink "java/lang/StringUTF16" (44 : Nat) "java/lang/StringUTF16" "$assertionsDisabled" "Z").before a0 Z = true := hw _ (List.mem_of_getElem? (i := 116) rfl)
theorem w_117 {a0 : Array Value} {Z : State} (hw : ∀ d ∈ tables_1, d.before a0 Z = true) : (Jvm.Cond.fieldLink "java/lang/StringUTF16" (59 : Nat) "java/lang/StringUTF16" "HI_BYTE_SHIFT" "I").before a0 Z = true := hw _ (List.mem_of_getElem? (i := 117) rfl)
theorem w_118 {a0 : Array Value} {Z : State} (hw : ∀ d ∈ tables_1, d.before a0 Z = true) : (Jvm.Cond.fieldLink "java/lang/StringUTF16" (63 : Nat) "java/lang/StringUTF16" "LO_BYTE_SHIFT" "I").before a0 Z = true := hw _ (List.mem_of_getElem? (i := 118) rfl)
theorem w_119 {a0 : Array Value} {Z : State} (hw : ∀ d ∈ tables_1, d.before a0 Z = true) : (Jvm.Cond.stringLink "java/lang/String" (7 : Nat) "").before a0 Z = true := hw _ (List.mem_of_getElem? (i := 119) rfl)
theorem w_122 {a0 : Array Value} {Z : State} (hw : ∀ d ∈ tables_1, d.before a0 Z = true) : (Jvm.Cond.methodLink "java/lang/String" (498 : Nat) ({ cls := "java/lang/StringUTF16", name := "charAt", desc := "([BI)C" } : Jvm.MethodName)).before a0 Z = true := hw _ (List.mem_of_getElem? (i := 122) rfl)
theorem w_123 {a0 : Array Value} {Z : State} (hw : ∀ d ∈ tables_1, d.before a0 Z = true) : (Jvm.Cond.static ({ cls := "java/lang/StringUTF16", name := "charAt", desc := "([BI)C" } : Jvm.MethodName)).before a0 Z = true := hw _ (List.mem_of_getElem? (i := 123) rfl)
theorem w_124 {a0 : Array Value} {Z : State} (hw : ∀ d ∈ tables_1, d.before a0 Z = true) : (Jvm.Cond.code ({ cls := "java/lang/StringUTF16", name := "charAt", desc := "([BI)C" } : Jvm.MethodName) jdk_52_method_83_code (2 : Nat) (Option.some Jvm.ClassFile.FieldType.char)).before a0 Z = true := hw _ (List.mem_of_getElem? (i := 124) rfl)
theorem w_125 {a0 : Array Value} {Z : State} (hw : ∀ d ∈ tables_1, d.before a0 Z = true) : (Jvm.Cond.methodLink "java/lang/StringUTF16" (67 : Nat) ({ cls := "java/lang/StringUTF16", name := "checkIndex", desc := "(I[B)V" } : Jvm.MethodName)).before a0 Z = true := hw _ (List.mem_of_getElem? (i := 125) rfl)
theorem w_126 {a0 : Array Value} {Z : State} (hw : ∀ d ∈ tables_1, d.before a0 Z = true) : (Jvm.Cond.static ({ cls := "java/lang/StringUTF16", name := "checkIndex", desc := "(I[B)V" } : Jvm.MethodName)).before a0 Z = true := hw _ (List.mem_of_getElem? (i := 126) rfl)
theorem w_127 {a0 : Array Value} {Z : State} (hw : ∀ d ∈ tables_1, d.before a0 Z = true) : (Jvm.Cond.code ({ cls := "java/lang/StringUTF16", name := "checkIndex", desc := "(I[B)V" } : Jvm.MethodName) jdk_52_method_91_code (2 : Nat) (Option.none : Option Jvm.ClassFile.FieldType)).before a0 Z = true := hw _ (List.mem_of_getElem? (i := 127) rfl)
theorem w_128 {a0 : Array Value} {Z : State} (hw : ∀ d ∈ tables_1, d.before a0 Z = true) : (Jvm.Cond.methodLink "java/lang/StringUTF16" (48 : Nat) ({ cls := "java/lang/StringUTF16", name := "length", desc := "([B)I" } : Jvm.MethodName)).before a0 Z = true := hw _ (List.mem_of_getElem? (i := 128) rfl)
theorem w_129 {a0 : Array Value} {Z : State} (hw : ∀ d ∈ tables_1, d.before a0 Z = true) : (Jvm.Cond.static ({ cls := "java/lang/StringUTF16", name := "length", desc := "([B)I" } : Jvm.MethodName)).before a0 Z = true := hw _ (List.mem_of_getElem? (i := 129) rfl)
theorem w_130 {a0 : Array Value} {Z : State} (hw : ∀ d ∈ tables_1, d.before a0 Z = true) : (Jvm.Cond.code ({ cls := "java/lang/StringUTF16", name := "length", desc := "([B)I" } : Jvm.MethodName) jdk_52_method_6_code (1 : Nat) (Option.some Jvm.ClassFile.FieldType.int)).before a0 Z = true := hw _ (List.mem_of_getElem? (i := 130) rfl)
theorem w_131 {a0 : Array Value} {Z : State} (hw : ∀ d ∈ tables_1, d.before a0 Z = true) : (Jvm.Cond.methodLink "java/lang/StringUTF16" (414 : Nat) ({ cls := "java/lang/String", name := "checkIndex", desc := "(II)V" } : Jvm.MethodName)).before a0 Z = true := hw _ (List.mem_of_getElem? (i := 131) rfl)
theorem w_132 {a0 : Array Value} {Z : State} (hw : ∀ d ∈ tables_1, d.before a0 Z = true) : (Jvm.Cond.methodLink "java/lang/StringUTF16" (71 : Nat) ({ cls := "java/lang/StringUTF16", name := "getChar", desc := "([BI)C" } : Jvm.MethodName)).before a0 Z = true := hw _ (List.mem_of_getElem? (i := 132) rfl)
theorem w_133 {a0 : Array Value} {Z : State} (hw : ∀ d ∈ tables_1, d.before a0 Z = true) : (Jvm.Cond.static ({ cls := "java/lang/StringUTF16", name := "getChar", desc := "([BI)C" } : Jvm.MethodName)).before a0 Z = true := hw _ (List.mem_of_getElem? (i := 133) rfl)
theorem w_134 {a0 : Array Value} {Z : State} (hw : ∀ d ∈ tables_1, d.before a0 Z = true) : (Jvm.Cond.code ({ cls := "java/lang/StringUTF16", name := "getChar", desc := "([BI)C" } : Jvm.MethodName) jdk_52_method_5_code (2 : Nat) (Option.some Jvm.ClassFile.FieldType.char)).before a0 Z = true := hw _ (List.mem_of_getElem? (i := 134) rfl)
theorem w_135 {a0 : Array Value} {Z : State} (hw : ∀ d ∈ tables_1, d.before a0 Z = true) : (Jvm.Cond.methodLink "java/lang/StringUTF16" (119 : Nat) ({ cls := "java/lang/StringUTF16", name := "toBytes", desc := "([CII)[B" } : Jvm.MethodName)).before a0 Z = true := hw _ (List.mem_of_getElem? (i := 135) rfl)
theorem w_136 {a0 : Array Value} {Z : State} (hw : ∀ d ∈ tables_1, d.before a0 Z = true) : (Jvm.Cond.static ({ cls := "java/lang/StringUTF16", name := "toBytes", desc := "([CII)[B" } : Jvm.MethodName)).before a0 Z = true := hw _ (List.mem_of_getElem? (i := 136) rfl)
theorem w_137 {a0 : Array Value} {Z : State} (hw : ∀ d ∈ tables_1, d.before a0 Z = true) : (Jvm.Cond.code ({ cls := "java/lang/StringUTF16", name := "toBytes", desc := "([CII)[B" } : Jvm.MethodName) jdk_52_method_14_code (5 : Nat) (Option.some (Jvm.ClassFile.FieldType.array Jvm.ClassFile.FieldType.byte))).before a0 Z = true := hw _ (List.mem_of_getElem? (i := 137) rfl)
theorem w_138 {a0 : Array Value} {Z : State} (hw : ∀ d ∈ tables_1, d.before a0 Z = true) : (Jvm.Cond.methodLink "java/lang/StringUTF16" (107 : Nat) ({ cls := "java/lang/StringUTF16", name := "newBytesFor", desc := "(I)[B" } : Jvm.MethodName)).before a0 Z = true := hw _ (List.mem_of_getElem? (i := 138) rfl)
theorem w_139 {a0 : Array Value} {Z : State} (hw : ∀ d ∈ tables_1, d.before a0 Z = true) : (Jvm.Cond.static ({ cls := "java/lang/StringUTF16", name := "newBytesFor", desc := "(I)[B" } : Jvm.MethodName)).before a0 Z = true := hw _ (List.mem_of_getElem? (i := 139) rfl)
theorem w_140 {a0 : Array Value} {Z : State} (hw : ∀ d ∈ tables_1, d.before a0 Z = true) : (Jvm.Cond.code ({ cls := "java/lang/StringUTF16", name := "newBytesFor", desc := "(I)[B" } : Jvm.MethodName) jdk_52_method_2_code (1 : Nat) (Option.some (Jvm.ClassFile.FieldType.array Jvm.ClassFile.FieldType.byte))).before a0 Z = true := hw _ (List.mem_of_getElem? (i := 140) rfl)
theorem w_141 {a0 : Array Value} {Z : State} (hw : ∀ d ∈ tables_1, d.before a0 Z = true) : (Jvm.Cond.methodLink "java/lang/StringUTF16" (11 : Nat) ({ cls := "java/lang/StringUTF16", name := "newBytesLength", desc := "(I)I" } : Jvm.MethodName)).before a0 Z = true := hw _ (List.mem_of_getElem? (i := 141) rfl)
theorem w_142 {a0 : Array Value} {Z : State} (hw : ∀ d ∈ tables_1, d.before a0 Z = true) : (Jvm.Cond.static ({ cls := "java/lang/StringUTF16", name := "newBytesLength", desc := "(I)I" } : Jvm.MethodName)).before a0 Z = true := hw _ (List.mem_of_getElem? (i := 142) rfl)
theorem w_143 {a0 : Array Value} {Z : State} (hw : ∀ d ∈ tables_1, d.before a0 Z = true) : (Jvm.Cond.code ({ cls := "java/lang/StringUTF16", name := "newBytesLength", desc := "(I)I" } : Jvm.MethodName) jdk_52_method_3_code (1 : Nat) (Option.some Jvm.ClassFile.FieldType.int)).before a0 Z = true := hw _ (List.mem_of_getElem? (i := 143) rfl)
theorem w_144 {a0 : Array Value} {Z : State} (hw : ∀ d ∈ tables_1, d.before a0 Z = true) : (Jvm.Cond.constant "java/lang/StringUTF16" (20 : Nat) (1073741823 : Int32)).before a0 Z = true := hw _ (List.mem_of_getElem? (i := 144) rfl)
theorem own_wS {a0 : Array Value} {Z : State} (hw : ∀ d ∈ tables_1, d.before a0 Z = true) : ∀ a ∈ Bundle.stringAtoms, a.before a0 Z = true := fun a ha => hw a ((by decide +kernel : ∀ a ∈ Bundle.stringAtoms, a ∈ tables_1) a ha)
theorem own_eq_int {args : Array Value} {s : State} {t : Term} {k : Int32} (h : (Jvm.Cond.eq t (Jvm.Term.int k)).value args s none s [] = some true) : t.eval args s none [] s = some (.int k) := by
  simp only [Cond.value, Term.int_eval] at h
  cases ht : t.eval args s none [] s with
  | none => simp [ht] at h
  | some v =>
    cases v <;> simp [ht] at h
    subst h; rfl
theorem own_len_start {args : Array Value} {s : State} {t : Term} {a : Addr} {c : Cell} {ty : FieldType} {k : Int32} (ev : t.eval args s none [] s = some (.ref a)) (A : Arr s s.heap a c ty) (h : (Jvm.Cond.eq (Jvm.Term.length t) (Jvm.Term.int k)).value args s none s [] = some true) : c.slots.size < 2 ^ 31 ∧ c.slots.size.toInt32 = k := by
  have q := own_eq_int h
  have e := A.fin (Vm.Alike.refl _)
  simp only [Term.eval, ev, Option.bind_eq_bind, Option.bind_some, e] at q
  split at q
  · rename_i hh
    exact ⟨hh, by simpa using q⟩
  · cases q
theorem own_elem_start {args : Array Value} {s : State} {t : Term} {a : Addr} {c : Cell} {ty : FieldType} {i : Int32} {v : Value} (ev : t.eval args s none [] s = some (.ref a)) (A : Arr s s.heap a c ty) (h : (Jvm.Term.elem t (Jvm.Term.int i)).eval args s none [] s = some v) : c.slots[i.toNatClampNeg]? = some v := by
  obtain ⟨a', j, c', e1, e2, e3, -, e5⟩ := Term.elem_spec h
  cases ev.symm.trans e1
  cases (A.fin (Vm.Alike.refl _)).symm.trans e3
  have e2' : (Jvm.Term.int i).eval args s none [] s = some (.int i) := Term.int_eval _
  cases e2'.symm.trans e2
  exact e5
theorem own_field_start {args : Array Value} {s : State} {t : Term} {a : Addr} {C n d : String} {v : Value} (ev : t.eval args s none [] s = some (.ref a)) (h : (Jvm.Term.field t C n d).eval args s none [] s = some v) : Fld s s.heap a C n d v := Fld.start (by simpa [Term.eval, ev] using h)
theorem own_ref_start {args : Array Value} {s : State} {a b : Term} {y : Value} (h : (Jvm.Cond.eq a b).value args s none s [] = some true) (hb : b.eval args s none [] s = some y) (hy : y.isRef = true) : a.eval args s none [] s = some y := Cond.eq_refs (by simp only [Cond.holds, h]; rfl) hb hy
theorem own_fits_ref {C : String} {v : Value} (h : v.isRef = true) : fits (.object C) v = true := by cases v <;> simp [Value.isRef] at h <;> rfl
theorem own_cat_ref {v : Value} (h : v.isRef = true) : v.category = 1 := by cases v <;> simp [Value.isRef] at h <;> rfl
theorem own_ins_keep {Z : State} {h h' : Heap} {a : Addr} {C : String} {ws : List Addr} (F : Ins Z h a C true) (K : Keep h h' ws) : Ins Z h' a C true := by
  obtain ⟨cell, cT, h1, h2, h3⟩ := F
  obtain ⟨c', q1, q2, q3, -⟩ := K.2.2 a cell h1
  exact ⟨c', cT, q1, h2, by rw [q2, q3]; exact h3⟩
def EL : List (String × Nat) := [("java/lang/String", 7)]
theorem hEL {a0 : Array Value} {Z : State} (hw : ∀ d ∈ tables_1, d.before a0 Z = true) : EW Z a0 EL := (EW.cons (w_119 hw) (by decide) EW.nil)
theorem own_ELsub : ∀ q ∈ EL, q ∈ consts_1 := by decide
def Gl (Z : State) (zc : Int32) (fm : Value) : Prop := (Sta Z Z.heap "java/lang/String" "COMPACT_STRINGS" "Z" (.int zc)) ∧ (¬ zc = 0) ∧ (Sta Z Z.heap "jdk/internal/util/Preconditions" "SIOOBE_FORMATTER" "Ljava/util/function/BiFunction;" fm) ∧ (fm.isRef = true) ∧ (Sta Z Z.heap "java/lang/StringUTF16" "$assertionsDisabled" "Z" (.int (1 : Int32))) ∧ (Sta Z Z.heap "java/lang/StringUTF16" "HI_BYTE_SHIFT" "I" (.int (0 : Int32))) ∧ (Sta Z Z.heap "java/lang/StringUTF16" "LO_BYTE_SHIFT" "I" (.int (8 : Int32)))
set_option maxRecDepth 65536 in
set_option maxHeartbeats 40000000 in
theorem own_cmp5 (l : Launch) (Z : State) (a0 : Array Value) (hw : ∀ d ∈ tables_1, d.before a0 Z = true) {zc : Int32} {fm : Value}  (G : Gl Z zc fm) (n0 : Nat) (h0 : Heap) (O0 : Old Z n0 h0) (b : Nat) (d : Nat) (kb : ClassId) (kd : ClassId) (z : Int32) (cs : List Int32) (vs : List Value) (hne : b ≠ d) (hz : z = Int32.ofNat cs.length) (hn : cs.length < 2147483648) (hv : vs.length = cs.length) (gw0 : n0 ≤ d) (q0 : Arv Z h0 b kb .char z (cs.map Value.int) (.int 0)) (q1 : Arv Z h0 d kd .byte z vs (.int (0 : Int32))) :
    MetF l [] Z n0 (⟨"java/lang/StringUTF16", "compress", "([CI[BII)I"⟩ : MethodName) jdk_52_method_21_code 7 (Option.some FieldType.int) ({ frames := 0, cells := 0, slots := 0, locals := 0 } : Room) #[(.ref b), (.int (0 : Int32)), (.ref d), (.int (0 : Int32)), (.int z)] h0 [d] (fun r h' => ∃ w, r = some w ∧ w = (.int (Int32.ofNat (own_fst cs))) ∧ (Arv Z h' d kd .byte z ((cs.take (own_fst cs)).map own_lo ++ vs.drop (own_fst cs)) (.int (0 : Int32)))) := by
  refine metF (plainFor_of_name pn_0) O0 (Ls := #[.val (.ref b), .val (.int (0 : Int32)), .val (.ref d), .val (.int (0 : Int32)), .val (.int z), .unset, .unset]) (fun m => by first | (simp [entryFrame, mkF, argsToLocals, Value.category]; done) | rfl) ?_
  intro p e s m below meth c T0 X0
  have K0_h0 := Keep.refl h0 [d]
  have n0le := X0.n0le
  have ltq0 := own_n q0.lt
  have ltq1 := own_n q1.lt
  obtain ⟨G_cs, G_zc, G_fm, isref_fm, G_assertionsDisabled, G_HI_BYTE_SHIFT, G_LO_BYTE_SHIFT⟩ := id G
  have hfl := own_fst_le cs
  have hlt0 := hn
  have loop : ∀ (n i : Nat) (T : State) (h : Heap) (L : List Loc) (s6 : Slot), n = own_fst cs - i → i ≤ own_fst cs → One s6 → WP p l e ({ frames := 0, cells := 0, slots := 0, locals := 0 } : Room) s m #[(.ref b), (.int (0 : Int32)), (.ref d), (.int (0 : Int32)), (.int z)] below meth c Z "java/lang/StringUTF16" "compress" jdk_52_method_21_code 7 (Option.some FieldType.int) n0 (fun _ => True) (fun _ _ => True) T h L 0 0 → Keep h0 h [d] → Arv Z h b kb .char z (cs.map Value.int) (.int 0) → Arv Z h d kd .byte z ((cs.take i).map own_lo ++ vs.drop i) (.int (0 : Int32)) → Run p.tables e below (PF s below n0 h0 [d] (fun r h' => ∃ w, r = some w ∧ w = (.int (Int32.ofNat (own_fst cs))) ∧ (Arv Z h' d kd .byte z ((cs.take (own_fst cs)).map own_lo ++ vs.drop (own_fst cs)) (.int (0 : Int32)))) ({ frames := 0, cells := 0, slots := 0, locals := 0 } : Room).cells ({ frames := 0, cells := 0, slots := 0, locals := 0 } : Room).slots) T (mkF m 3 #[.val (.ref b), .val (.int (Int32.ofNat i)), .val (.ref d), .val (.int (Int32.ofNat i)), .val (.int z), .val (.int (Int32.ofNat i)), s6] []) := by
    intro n
    induction n with
    | zero =>
      intro i T h L s6 hni hij h6 X K Vb Vd
      have hi : i = own_fst cs := by omega
      subst hi
      have lb := own_n Vb.lt
      have ld := own_n Vd.lt
      have lh0 := K.1
      have lb0 := own_n q0.lt
      have ld0 := own_n q1.lt
      have nle := X.n0le
      by_cases hc1 : own_fst cs < cs.length
      · have hlt := own_lt hc1 hn
        rw [← hz] at hlt
        refine k_iload X d_jdk_52_21_3 rfl (pc' := 5) rfl ?_
        refine k_iload X d_jdk_52_21_5 rfl (pc' := 7) rfl ?_
        refine k_icmpNo X d_jdk_52_21_7 (tlt hlt).2.1 (pc' := 10) rfl ?_
        refine k_aloadN X d_jdk_52_21_10 rfl rfl (pc' := 11) rfl ?_
        refine k_iloadN X d_jdk_52_21_11 rfl (pc' := 12) rfl ?_
        refine k_caload X d_jdk_52_21_12 Vb (own_nn (by omega)) hlt (v := (.int (cs.getD (own_fst cs) 0))) (own_getc' cs (by omega)) (pc' := 13) rfl ?_
        refine k_istore X d_jdk_52_21_13 (Ls' := #[.val (.ref b), .val (.int (Int32.ofNat (own_fst cs))), .val (.ref d), .val (.int (Int32.ofNat (own_fst cs))), .val (.int z), .val (.int (Int32.ofNat (own_fst cs))), .val (.int (cs.getD (own_fst cs) 0))]) (own_store h6 ⟨_, rfl⟩) (pc' := 15) rfl ?_
        refine k_iload X d_jdk_52_21_15 rfl (pc' := 17) rfl ?_
        refine k_sipush X d_jdk_52_21_17 (w := (255 : Int32)) rfl (pc' := 20) rfl ?_
        refine k_icmpNo X d_jdk_52_21_20 (tlt (own_fst_hi cs hc1)).2.2.2 (pc' := 23) rfl ?_
        refine k_iload X d_jdk_52_21_23 rfl (pc' := 25) rfl ?_
        exact k_retFI X d_jdk_52_21_25 rfl K ⟨_, rfl, rfl, Vd⟩ (by decide) (by decide)
      · have he : own_fst cs = cs.length := by omega
        have hnl : ¬ (Int32.ofNat (own_fst cs) < z) := by rw [he, ← hz]; exact Int32.lt_irrefl
        refine k_iload X d_jdk_52_21_3 rfl (pc' := 5) rfl ?_
        refine k_iload X d_jdk_52_21_5 rfl (pc' := 7) rfl ?_
        refine k_icmpYes X d_jdk_52_21_7 (flt hnl).2.1 (pc' := 44) (by decide) (by decide) ?_
        refine k_iload X d_jdk_52_21_44 rfl (pc' := 46) rfl ?_
        exact k_retFI X d_jdk_52_21_46 rfl K ⟨_, rfl, by rw [he, ← hz], Vd⟩ (by decide) (by decide)
    | succ n ih =>
      intro i T h L s6 hni hij h6 X K Vb Vd
      have hi : i < own_fst cs := by omega
      have hlt := own_lt (show i < cs.length by omega) hn
      rw [← hz] at hlt
      have hle := own_fst_lo cs i hi
      have lb := own_n Vb.lt
      have ld := own_n Vd.lt
      have lh0 := K.1
      have lb0 := own_n q0.lt
      have ld0 := own_n q1.lt
      have nle := X.n0le
      refine k_iload X d_jdk_52_21_3 rfl (pc' := 5) rfl ?_
      refine k_iload X d_jdk_52_21_5 rfl (pc' := 7) rfl ?_
      refine k_icmpNo X d_jdk_52_21_7 (tlt hlt).2.1 (pc' := 10) rfl ?_
      refine k_aloadN X d_jdk_52_21_10 rfl rfl (pc' := 11) rfl ?_
      refine k_iloadN X d_jdk_52_21_11 rfl (pc' := 12) rfl ?_
      refine k_caload X d_jdk_52_21_12 Vb (own_nn (by omega)) hlt (v := (.int (cs.getD i 0))) (own_getc' cs (by omega)) (pc' := 13) rfl ?_
      refine k_istore X d_jdk_52_21_13 (Ls' := #[.val (.ref b), .val (.int (Int32.ofNat i)), .val (.ref d), .val (.int (Int32.ofNat i)), .val (.int z), .val (.int (Int32.ofNat i)), .val (.int (cs.getD i 0))]) (own_store h6 ⟨_, rfl⟩) (pc' := 15) rfl ?_
      refine k_iload X d_jdk_52_21_15 rfl (pc' := 17) rfl ?_
      refine k_sipush X d_jdk_52_21_17 (w := (255 : Int32)) rfl (pc' := 20) rfl ?_
      refine k_icmpYes X d_jdk_52_21_20 (flt hle).2.2.2 (pc' := 26) (by decide) (by decide) ?_
      refine k_aloadN X d_jdk_52_21_26 rfl rfl (pc' := 27) rfl ?_
      refine k_iloadN X d_jdk_52_21_27 rfl (pc' := 28) rfl ?_
      refine k_iload X d_jdk_52_21_28 rfl (pc' := 30) rfl ?_
      refine k_i2b X d_jdk_52_21_30 (w := ((cs.getD i 0).toInt8.toInt32)) rfl (pc' := 31) rfl ?_
      have ge3 : n0 ≤ d := by omega
      refine k_bastore X (w := ((cs.getD i 0).toInt8.toInt32)) (i) d_jdk_52_21_31 Vd (own_nn (by omega)) hlt (own_clamp (by omega)) (by simp; omega) (own_i2b _) (vs' := ((cs.take (i + 1)).map own_lo ++ vs.drop (i + 1))) (own_turn cs vs i (by omega) hv) trivial ge3 (pc' := 32) rfl fun T2 h2 L2 X2 K2 V2 => ?_
      have sz_h2 := K2.1
      have K0_h2 : Keep h0 h2 [d] := K.trans K2 (allS (Or.inl (List.mem_of_getElem? (i := 0) rfl)) all0)
      refine k_iinc X2 d_jdk_52_21_32 rfl (w := (Int32.ofNat (i + 1))) (own_succ i) (Ls' := #[.val (.ref b), .val (.int (Int32.ofNat (i + 1))), .val (.ref d), .val (.int (Int32.ofNat i)), .val (.int z), .val (.int (Int32.ofNat i)), .val (.int (cs.getD i 0))]) rfl (pc' := 35) rfl ?_
      refine k_iinc X2 d_jdk_52_21_35 rfl (w := (Int32.ofNat (i + 1))) (own_succ i) (Ls' := #[.val (.ref b), .val (.int (Int32.ofNat (i + 1))), .val (.ref d), .val (.int (Int32.ofNat (i + 1))), .val (.int z), .val (.int (Int32.ofNat i)), .val (.int (cs.getD i 0))]) rfl (pc' := 38) rfl ?_
      refine k_iinc X2 d_jdk_52_21_38 rfl (w := (Int32.ofNat (i + 1))) (own_succ i) (Ls' := #[.val (.ref b), .val (.int (Int32.ofNat (i + 1))), .val (.ref d), .val (.int (Int32.ofNat (i + 1))), .val (.int z), .val (.int (Int32.ofNat (i + 1))), .val (.int (cs.getD i 0))]) rfl (pc' := 41) rfl ?_
      refine k_goto X2 d_jdk_52_21_41 (pc' := 3) (by decide) (by decide) ?_
      have ne4 : (b : Nat) ≠ d := own_ne (by omega)
      have c5 := (Vb.keep K2 (ninS ne4 nin0))
      exact ih (i + 1) _ _ _ _ (by omega) (by omega) (One.val rfl) X2 K0_h2 c5 V2
  refine k_iconst X0 d_jdk_52_21_0 (w := (0 : Int32)) rfl (pc' := 1) rfl ?_
  refine k_istore X0 d_jdk_52_21_1 (Ls' := #[.val (.ref b), .val (.int (0 : Int32)), .val (.ref d), .val (.int (0 : Int32)), .val (.int z), .val (.int (0 : Int32)), .unset]) rfl (pc' := 3) rfl ?_
  exact loop _ 0 _ _ _ _ rfl (by omega) One.u X0 K0_h0 q0 (by simpa using q1)
set_option maxRecDepth 65536 in
set_option maxHeartbeats 40000000 in
theorem own_cmp3L (l : Launch) (Z : State) (a0 : Array Value) (hw : ∀ d ∈ tables_1, d.before a0 Z = true) {zc : Int32} {fm : Value}  (G : Gl Z zc fm) (n0 : Nat) (h0 : Heap) (O0 : Old Z n0 h0) (b : Nat) (kb : ClassId) (z : Int32) (cs : List Int32) (hz : z = Int32.ofNat cs.length) (hn : cs.length ≤ 2) (hall : ∀ c ∈ cs, ¬ 255 < c)  (q0 : Arv Z h0 b kb .char z (cs.map Value.int) (.int 0)) :
    MetF l [] Z n0 (⟨"java/lang/StringUTF16", "compress", "([CII)[B"⟩ : MethodName) jdk_52_method_16_code 6 (Option.some (FieldType.array FieldType.byte)) ({ frames := 1, cells := 1, slots := 2, locals := 18 } : Room) #[(.ref b), (.int (0 : Int32)), (.int z)] h0 [] (fun r h' => ∃ w, r = some w ∧ ∃ (t : Nat), ∃ (kt : ClassId), w = (.ref t) ∧ (Arv Z h' t kt .byte z (own_lat cs) (.int (0 : Int32))) ∧ (h0.size ≤ t)) := by
  refine metF (plainFor_of_name pn_0) O0 (Ls := #[.val (.ref b), .val (.int (0 : Int32)), .val (.int z), .unset, .unset, .unset]) (fun m => by first | (simp [entryFrame, mkF, argsToLocals, Value.category]; done) | rfl) ?_
  intro p e s m below meth c T0 X0
  have K0_h0 := Keep.refl h0 []
  have n0le := X0.n0le
  have ltq0 := own_n q0.lt
  obtain ⟨G_cs, G_zc, G_fm, isref_fm, G_assertionsDisabled, G_HI_BYTE_SHIFT, G_LO_BYTE_SHIFT⟩ := id G
  have hf := own_fst_all cs hall
  have hnz : ¬ z < 0 := by rw [hz]; exact own_nn (by omega)
  have hcl : z.toNatClampNeg = cs.length := by rw [hz]; exact own_clamp (by omega)
  refine k_iloadN X0 d_jdk_52_16_0 rfl (pc' := 1) rfl ?_
  refine k_newP X0 d_jdk_52_16_1 (w_14 hw) hnz (cap := 2) (by omega) (by decide) (by decide) (by decide) (pc' := 3) rfl fun T6 h6 b6 k6 g6 X6 K6 V6 S6 lt6 ge6 => ?_
  have sz_h6 := K6.1
  have K0_h6 : Keep h0 h6 [] := K0_h0.trans K6 all0
  have Vp : Arv Z h6 b6 k6 .byte z (List.replicate cs.length (.int (0 : Int32))) (.int (0 : Int32)) := Arv.pad V6 (fun i => by simpa using pad_rep [] (.int (0 : Int32)) cs.length i)
  refine k_astoreN X6 d_jdk_52_16_3 rfl (Ls' := #[.val (.ref b), .val (.int (0 : Int32)), .val (.int z), .val (.ref b6), .unset, .unset]) rfl (pc' := 4) rfl ?_
  refine k_aloadN X6 d_jdk_52_16_4 rfl rfl (pc' := 5) rfl ?_
  refine k_iloadN X6 d_jdk_52_16_5 rfl (pc' := 6) rfl ?_
  refine k_aloadN X6 d_jdk_52_16_6 rfl rfl (pc' := 7) rfl ?_
  refine k_iconst X6 d_jdk_52_16_7 (w := (0 : Int32)) rfl (pc' := 8) rfl ?_
  refine k_iloadN X6 d_jdk_52_16_8 rfl (pc' := 9) rfl ?_
  have c7 := (q0.keep K6 nin0)
  have ge8 : n0 ≤ b6 := by omega
  refine k_callSVF X6 (y := (⟨"java/lang/StringUTF16", "compress", "([CI[BII)I"⟩ : MethodName)) d_jdk_52_16_9 (w_104 hw) (w_105 hw) (w_102 hw) (w_106 hw) (by decide) (argsL := [(.ref b), (.int (0 : Int32)), (.ref b6), (.int (0 : Int32)), (.int z)]) (rest := []) (own_cmp5 l Z a0 hw G n0 h6 X6.old b b6 kb k6 z cs (List.replicate cs.length (.int (0 : Int32))) (by omega) hz (by omega) (by simp) ge8 c7 Vp) rfl pd_0 rfl rfl (by decide) (W := 0) (Nat.le_of_eq rfl) (by decide) (by decide) (by decide) (allS ⟨trivial, ge8⟩ all0) (pc' := 12) rfl ?_
  rintro _ T9 h9 L9 X9 K9 ⟨rfl, q9_0⟩
  have sz_h9 := K9.1
  have od11 : h0.size ≤ b6 := by omega
  have K0_h9 : Keep h0 h9 [] := K0_h6.trans K9 (allS (Or.inr od11) all0)
  have lt9_0 := own_n q9_0.lt
  refine k_istore X9 d_jdk_52_16_12 (Ls' := #[.val (.ref b), .val (.int (0 : Int32)), .val (.int z), .val (.ref b6), .val (.int (Int32.ofNat (own_fst cs))), .unset]) rfl (pc' := 14) rfl ?_
  refine k_iload X9 d_jdk_52_16_14 rfl (pc' := 16) rfl ?_
  refine k_iloadN X9 d_jdk_52_16_16 rfl (pc' := 17) rfl ?_
  have hz2 : Int32.ofNat (own_fst cs) = z := by rw [hf, ← hz]
  refine k_icmpYes X9 d_jdk_52_16_17 (teq hz2).1 (pc' := 57) (by decide) (by decide) ?_
  refine k_aloadN X9 d_jdk_52_16_57 rfl rfl (pc' := 58) rfl ?_
  have Vl : Arv Z h9 b6 k6 .byte z (own_lat cs) (.int (0 : Int32)) := by simpa [hf, own_lat] using q9_0
  exact k_retFA X9 d_jdk_52_16_58 rfl rfl rfl rfl K0_h9 ⟨_, rfl, _, _, rfl, Vl, by omega⟩ (by decide) (by decide)
set_option maxRecDepth 65536 in
set_option maxHeartbeats 40000000 in
theorem own_codL (l : Launch) (Z : State) (a0 : Array Value) (hw : ∀ d ∈ tables_1, d.before a0 Z = true) {zc : Int32} {fm : Value}  (G : Gl Z zc fm) (n0 : Nat) (h0 : Heap) (O0 : Old Z n0 h0) (d : Nat) (k : ClassId) (z : Int32) (bs : List Value) (dv : Value)  (q0 : Arv Z h0 d k .byte z bs dv) :
    MetF l [] Z n0 (⟨"java/lang/StringUTF16", "coderFromArrayLen", "([BI)B"⟩ : MethodName) jdk_52_method_15_code 2 (Option.some FieldType.byte) ({ frames := 0, cells := 0, slots := 0, locals := 0 } : Room) #[(.ref d), (.int z)] h0 [] (fun r h' => ∃ w, r = some w ∧ w = (.int (0 : Int32)) ∧ True) := by
  refine metF (plainFor_of_name pn_0) O0 (Ls := #[.val (.ref d), .val (.int z)]) (fun m => by first | (simp [entryFrame, mkF, argsToLocals, Value.category]; done) | rfl) ?_
  intro p e s m below meth c T0 X0
  have K0_h0 := Keep.refl h0 []
  have n0le := X0.n0le
  have ltq0 := own_n q0.lt
  obtain ⟨G_cs, G_zc, G_fm, isref_fm, G_assertionsDisabled, G_HI_BYTE_SHIFT, G_LO_BYTE_SHIFT⟩ := id G
  refine k_iloadN X0 d_jdk_52_15_0 rfl (pc' := 1) rfl ?_
  refine k_aloadN X0 d_jdk_52_15_1 rfl rfl (pc' := 2) rfl ?_
  refine k_arlen X0 d_jdk_52_15_2 q0 (pc' := 3) rfl ?_
  refine k_isub X0 d_jdk_52_15_3 (w := (0 : Int32)) (Int32.sub_self z) (pc' := 4) rfl ?_
  refine k_bipush X0 d_jdk_52_15_4 (w := (31 : Int32)) rfl (pc' := 6) rfl ?_
  refine k_iushr X0 d_jdk_52_15_6 (w := (0 : Int32)) (by decide) (pc' := 7) rfl ?_
  refine k_i2b X0 d_jdk_52_15_7 (w := (0 : Int32)) (by decide) (pc' := 8) rfl ?_
  exact k_retFN X0 (w := (0 : Int32)) d_jdk_52_15_8 (t := .byte) rfl (by simp) rfl K0_h0 ⟨_, rfl, rfl, trivial⟩ (by decide) (by decide)
set_option maxRecDepth 65536 in
set_option maxHeartbeats 40000000 in
theorem own_init4L (l : Launch) (Z : State) (a0 : Array Value) (hw : ∀ d ∈ tables_1, d.before a0 Z = true) {zc : Int32} {fm : Value}  (G : Gl Z zc fm) (n0 : Nat) (h0 : Heap) (O0 : Old Z n0 h0) (a : Nat) (b : Nat) (kb : ClassId) (z : Int32) (cs : List Int32) (hz : z = Int32.ofNat cs.length) (h1 : 0 < cs.length) (hn : cs.length ≤ 2) (hall : ∀ c ∈ cs, ¬ 255 < c) (gw0 : n0 ≤ a) (q0 : Exa Z h0 a "java/lang/String") (q1 : Fld Z h0 a "java/lang/String" "value" "[B" .null) (q2 : Fld Z h0 a "java/lang/String" "coder" "B" (.int (0 : Int32))) (q3 : Arv Z h0 b kb .char z (cs.map Value.int) (.int 0)) :
    MetF l [] Z n0 (⟨"java/lang/String", "<init>", "([CIILjava/lang/Void;)V"⟩ : MethodName) jdk_42_method_149_code 6 (Option.none : Option FieldType) ({ frames := 2, cells := 1, slots := 2, locals := 35 } : Room) #[(.ref a), (.ref b), (.int (0 : Int32)), (.int z), .null] h0 [a] (fun r h' => r = none ∧ ∃ (t : Nat), ∃ (kt : ClassId), (Exa Z h' a "java/lang/String") ∧ (Fld Z h' a "java/lang/String" "coder" "B" (.int (0 : Int32))) ∧ (Fld Z h' a "java/lang/String" "value" "[B" (.ref t)) ∧ (Arv Z h' t kt .byte z (own_lat cs) (.int (0 : Int32))) ∧ (h0.size ≤ t)) := by
  refine metF (plainFor_of_name pn_1) O0 (Ls := #[.val (.ref a), .val (.ref b), .val (.int (0 : Int32)), .val (.int z), .val .null, .unset]) (fun m => by first | (simp [entryFrame, mkF, argsToLocals, Value.category]; done) | rfl) ?_
  intro p e s m below meth c T0 X0
  have K0_h0 := Keep.refl h0 [a]
  have n0le := X0.n0le
  have ltq0 := own_n q0.lt
  have ltq1 := own_n q1.lt
  have ltq2 := own_n q2.lt
  have ltq3 := own_n q3.lt
  obtain ⟨G_cs, G_zc, G_fm, isref_fm, G_assertionsDisabled, G_HI_BYTE_SHIFT, G_LO_BYTE_SHIFT⟩ := id G
  have hnz0 : ¬ z = 0 := by rw [hz]; exact own_nz h1 (by omega)
  refine k_aloadN X0 d_jdk_42_149_0 rfl rfl (pc' := 1) rfl ?_
  refine k_initO X0 d_jdk_42_149_1 (w_19 hw) (w_20 hw) (w_21 hw) rfl (by decide) (W := 0) (Nat.le_of_eq rfl) (by decide) (pc' := 4) rfl fun T12 X13 => ?_
  refine k_iloadN X13 d_jdk_42_149_4 rfl (pc' := 5) rfl ?_
  refine k_ifYes X13 d_jdk_42_149_5 ((if0 _ _).trans (feq hnz0).2) (pc' := 27) (by decide) (by decide) ?_
  refine k_getS X13 d_jdk_42_149_27 (host := "") (Or.inl (w_4 hw)) Via.refl (G_cs.ext X13.old.2) (pc' := 30) rfl fun T14 X15 => ?_
  refine k_ifNo X15 d_jdk_42_149_30 ((if0 _ _).trans (feq G_zc).1) (pc' := 33) rfl ?_
  refine k_aloadN X15 d_jdk_42_149_33 rfl rfl (pc' := 34) rfl ?_
  refine k_iloadN X15 d_jdk_42_149_34 rfl (pc' := 35) rfl ?_
  refine k_iloadN X15 d_jdk_42_149_35 rfl (pc' := 36) rfl ?_
  refine k_callSVF X15 (y := (⟨"java/lang/StringUTF16", "compress", "([CII)[B"⟩ : MethodName)) d_jdk_42_149_36 (w_100 hw) (w_101 hw) (w_102 hw) (w_103 hw) (by decide) (argsL := [(.ref b), (.int (0 : Int32)), (.int z)]) (rest := []) (own_cmp3L l Z a0 hw G n0 h0 X15.old b kb z cs hz (by omega) hall q3) rfl pd_1 rfl rfl (by decide) (W := 0) (Nat.le_of_eq rfl) (by decide) (by decide) (by decide) all0 (pc' := 39) rfl ?_
  rintro _ T18 h18 L18 X18 K18 ⟨t_16, kt_17, rfl, q18_0, q18_1⟩
  have sz_h18 := K18.1
  have K0_h18 : Keep h0 h18 [a] := K0_h0.trans K18 all0
  have lt18_0 := own_n q18_0.lt
  refine k_astore X18 d_jdk_42_149_39 rfl (Ls' := #[.val (.ref a), .val (.ref b), .val (.int (0 : Int32)), .val (.int z), .val .null, .val (.ref t_16)]) rfl (pc' := 41) rfl ?_
  refine k_aloadN X18 d_jdk_42_149_41 rfl rfl (pc' := 42) rfl ?_
  refine k_aload X18 d_jdk_42_149_42 rfl rfl (pc' := 44) rfl ?_
  refine k_iloadN X18 d_jdk_42_149_44 rfl (pc' := 45) rfl ?_
  refine k_callSVF X18 (y := (⟨"java/lang/StringUTF16", "coderFromArrayLen", "([BI)B"⟩ : MethodName)) d_jdk_42_149_45 (w_107 hw) (w_108 hw) (w_102 hw) (w_109 hw) (by decide) (argsL := [(.ref t_16), (.int z)]) (rest := [(.ref a)]) (own_codL l Z a0 hw G n0 h18 X18.old t_16 kt_17 z (own_lat cs) (.int (0 : Int32)) q18_0) rfl pd_2 rfl rfl (by decide) (W := 1) (Nat.le_of_eq rfl) (by decide) (by decide) (by decide) all0 (pc' := 48) rfl ?_
  rintro _ T20 h20 L20 X20 K20 ⟨rfl, -⟩
  have sz_h20 := K20.1
  have K0_h20 : Keep h0 h20 [a] := K0_h18.trans K20 all0
  have c22 := ((q2.keep K18 nin0).keep K20 nin0)
  have c23 := ((q0.keep K18).keep K20)
  have ge25 : n0 ≤ a := by omega
  refine k_putF X20 d_jdk_42_149_48 (host := "") (Or.inl (w_24 hw)) Via.refl c22 c23 (Or.inr ⟨(w_25 hw), rfl, X20.hnm⟩) (w_10 hw) (ty := .byte) (by decide) rfl rfl trivial ge25 (pc' := 51) rfl fun T24 h24 L24 X24 W24 K24 => ?_
  have sz_h24 := K24.1
  have K0_h24 : Keep h0 h24 [a] := K0_h20.trans K24 (allS (Or.inl (List.mem_of_getElem? (i := 0) rfl)) all0)
  have F24 := c22.same W24
  refine k_aloadN X24 d_jdk_42_149_51 rfl rfl (pc' := 52) rfl ?_
  refine k_aload X24 d_jdk_42_149_52 rfl rfl (pc' := 54) rfl ?_
  have c26 := (((q1.keep K18 nin0).keep K20 nin0).other W24 (Or.inr (slot_ne (Or.inr (w_23 hw)) (Or.inr (w_25 hw)) (by decide) (t := (.array .byte)) (t' := .byte) (by decide) (by decide))))
  have c27 := (c23.keep K24)
  refine k_putF X24 d_jdk_42_149_54 (host := "") (Or.inl (w_22 hw)) Via.refl c26 c27 (Or.inr ⟨(w_23 hw), rfl, X24.hnm⟩) (w_10 hw) (ty := (.array .byte)) (by decide) rfl rfl trivial ge25 (pc' := 57) rfl fun T28 h28 L28 X28 W28 K28 => ?_
  have sz_h28 := K28.1
  have K0_h28 : Keep h0 h28 [a] := K0_h24.trans K28 (allS (Or.inl (List.mem_of_getElem? (i := 0) rfl)) all0)
  have F28 := c26.same W28
  have c29 := (c27.keep K28)
  have c30 := (F24.other W28 (Or.inr (slot_ne (Or.inr (w_25 hw)) (Or.inr (w_23 hw)) (by decide) (t := .byte) (t' := (.array .byte)) (by decide) (by decide))))
  have ne31 : (t_16 : Nat) ≠ a := own_ne (by omega)
  have c32 := (((q18_0.keep K20 nin0).keep K24 (ninS ne31 nin0)).keep K28 (ninS ne31 nin0))
  exact k_retFV X28 d_jdk_42_149_57 rfl K0_h28 ⟨rfl, _, _, c29, c30, F28, c32, by omega⟩ (by decide) (by decide)
set_option maxRecDepth 65536 in
set_option maxHeartbeats 40000000 in
theorem own_putC (l : Launch) (Z : State) (a0 : Array Value) (hw : ∀ d ∈ tables_1, d.before a0 Z = true) {zc : Int32} {fm : Value}  (G : Gl Z zc fm) (n0 : Nat) (h0 : Heap) (O0 : Old Z n0 h0) (d : Nat) (kd : ClassId) (zz : Int32) (vs : List Value) (i : Nat) (c0 : Int32) (hi : 2 * i + 1 < vs.length) (hzz : zz = Int32.ofNat vs.length) (hb0 : vs.length < 2147483648) (gw0 : n0 ≤ d) (q0 : Arv Z h0 d kd .byte zz vs (.int (0 : Int32))) :
    MetF l [] Z n0 (⟨"java/lang/StringUTF16", "putChar", "([BII)V"⟩ : MethodName) jdk_52_method_4_code 3 (Option.none : Option FieldType) ({ frames := 0, cells := 0, slots := 0, locals := 0 } : Room) #[(.ref d), (.int (Int32.ofNat i)), (.int c0)] h0 [d] (fun r h' => r = none ∧ (Arv Z h' d kd .byte zz ((vs.set (2 * i) (own_lo c0)).set (2 * i + 1) (own_hi c0)) (.int (0 : Int32)))) := by
  refine metF (plainFor_of_name pn_0) O0 (Ls := #[.val (.ref d), .val (.int (Int32.ofNat i)), .val (.int c0)]) (fun m => by first | (simp [entryFrame, mkF, argsToLocals, Value.category]; done) | rfl) ?_
  intro p e s m below meth c T0 X0
  have K0_h0 := Keep.refl h0 [d]
  have n0le := X0.n0le
  have ltq0 := own_n q0.lt
  obtain ⟨G_cs, G_zc, G_fm, isref_fm, G_assertionsDisabled, G_HI_BYTE_SHIFT, G_LO_BYTE_SHIFT⟩ := id G
  have l1 := own_lt (show 2 * i < vs.length by omega) hb0
  have l2 := own_lt hi hb0
  rw [← hzz] at l1 l2
  refine k_getS X0 d_jdk_52_4_0 (host := "") (Or.inl (w_116 hw)) Via.refl (G_assertionsDisabled.ext X0.old.2) (pc' := 3) rfl fun T33 X34 => ?_
  refine k_ifYes X34 d_jdk_52_4_3 (by decide) (pc' := 28) (by decide) (by decide) ?_
  refine k_iloadN X34 d_jdk_52_4_28 rfl (pc' := 29) rfl ?_
  refine k_iconst X34 d_jdk_52_4_29 (w := (1 : Int32)) rfl (pc' := 30) rfl ?_
  refine k_ishl X34 d_jdk_52_4_30 (w := (Int32.ofNat (2 * i))) (own_shl1 (by omega)) (pc' := 31) rfl ?_
  refine k_istoreN X34 d_jdk_52_4_31 (Ls' := #[.val (.ref d), .val (.int (Int32.ofNat (2 * i))), .val (.int c0)]) rfl (pc' := 32) rfl ?_
  refine k_aloadN X34 d_jdk_52_4_32 rfl rfl (pc' := 33) rfl ?_
  refine k_iloadN X34 d_jdk_52_4_33 rfl (pc' := 34) rfl ?_
  refine k_iinc X34 d_jdk_52_4_34 rfl (w := (Int32.ofNat (2 * i + 1))) (own_succ (2 * i)) (Ls' := #[.val (.ref d), .val (.int (Int32.ofNat (2 * i + 1))), .val (.int c0)]) rfl (pc' := 37) rfl ?_
  refine k_iloadN X34 d_jdk_52_4_37 rfl (pc' := 38) rfl ?_
  refine k_getS X34 d_jdk_52_4_38 (host := "") (Or.inl (w_117 hw)) Via.refl (G_HI_BYTE_SHIFT.ext X34.old.2) (pc' := 41) rfl fun T35 X36 => ?_
  refine k_ishr X36 d_jdk_52_4_41 (w := c0) (own_shr0 c0) (pc' := 42) rfl ?_
  refine k_i2b X36 d_jdk_52_4_42 (w := (c0.toInt8.toInt32)) rfl (pc' := 43) rfl ?_
  have ge38 : n0 ≤ d := by omega
  refine k_bastore X36 (w := (c0.toInt8.toInt32)) (2 * i) d_jdk_52_4_43 q0 (own_nn (by omega)) l1 (own_clamp (by omega)) (by omega) (own_i2b _) (vs' := (vs.set (2 * i) (own_lo c0))) rfl trivial ge38 (pc' := 44) rfl fun T37 h37 L37 X37 K37 V37 => ?_
  have sz_h37 := K37.1
  have K0_h37 : Keep h0 h37 [d] := K0_h0.trans K37 (allS (Or.inl (List.mem_of_getElem? (i := 0) rfl)) all0)
  refine k_aloadN X37 d_jdk_52_4_44 rfl rfl (pc' := 45) rfl ?_
  refine k_iloadN X37 d_jdk_52_4_45 rfl (pc' := 46) rfl ?_
  refine k_iloadN X37 d_jdk_52_4_46 rfl (pc' := 47) rfl ?_
  refine k_getS X37 d_jdk_52_4_47 (host := "") (Or.inl (w_118 hw)) Via.refl (G_LO_BYTE_SHIFT.ext X37.old.2) (pc' := 50) rfl fun T39 X40 => ?_
  refine k_ishr X40 d_jdk_52_4_50 (w := (c0 >>> ((8 : Int32) &&& 31))) rfl (pc' := 51) rfl ?_
  refine k_i2b X40 d_jdk_52_4_51 (w := ((c0 >>> ((8 : Int32) &&& 31)).toInt8.toInt32)) rfl (pc' := 52) rfl ?_
  refine k_bastore X40 (w := ((c0 >>> ((8 : Int32) &&& 31)).toInt8.toInt32)) (2 * i + 1) d_jdk_52_4_52 V37 (own_nn (by omega)) l2 (own_clamp (by omega)) (by simp; omega) (own_i2b _) (vs' := ((vs.set (2 * i) (own_lo c0)).set (2 * i + 1) (own_hi c0))) rfl trivial ge38 (pc' := 53) rfl fun T41 h41 L41 X41 K41 V41 => ?_
  have sz_h41 := K41.1
  have K0_h41 : Keep h0 h41 [d] := K0_h37.trans K41 (allS (Or.inl (List.mem_of_getElem? (i := 0) rfl)) all0)
  exact k_retFV X41 d_jdk_52_4_53 rfl K0_h41 ⟨rfl, V41⟩ (by decide) (by decide)
set_option maxRecDepth 65536 in
set_option maxHeartbeats 40000000 in
theorem own_getC (l : Launch) (Z : State) (a0 : Array Value) (hw : ∀ d ∈ tables_1, d.before a0 Z = true) {zc : Int32} {fm : Value}  (G : Gl Z zc fm) (n0 : Nat) (h0 : Heap) (O0 : Old Z n0 h0) (d : Nat) (kd : ClassId) (zz : Int32) (cs : List Int32) (j : Nat) (jv : Int32) (hjv : jv = Int32.ofNat j) (hj : j < cs.length) (hzz : zz = Int32.ofNat (2 * cs.length)) (hb0 : 2 * cs.length < 2147483648) (hr : ¬ cs.getD j 0 < 0 ∧ ¬ 65535 < cs.getD j 0)  (q0 : Arv Z h0 d kd .byte zz (own_u16 cs) (.int (0 : Int32))) :
    MetF l [] Z n0 (⟨"java/lang/StringUTF16", "getChar", "([BI)C"⟩ : MethodName) jdk_52_method_5_code 2 (Option.some FieldType.char) ({ frames := 0, cells := 0, slots := 0, locals := 0 } : Room) #[(.ref d), (.int jv)] h0 [] (fun r h' => ∃ w, r = some w ∧ w = (.int (cs.getD j 0)) ∧ True) := by
  subst hjv
  refine metF (plainFor_of_name pn_0) O0 (Ls := #[.val (.ref d), .val (.int (Int32.ofNat j))]) (fun m => by first | (simp [entryFrame, mkF, argsToLocals, Value.category]; done) | rfl) ?_
  intro p e s m below meth c T0 X0
  have K0_h0 := Keep.refl h0 []
  have n0le := X0.n0le
  have ltq0 := own_n q0.lt
  obtain ⟨G_cs, G_zc, G_fm, isref_fm, G_assertionsDisabled, G_HI_BYTE_SHIFT, G_LO_BYTE_SHIFT⟩ := id G
  have l1 := own_lt (show 2 * j < 2 * cs.length by omega) hb0
  have l2 := own_lt (show 2 * j + 1 < 2 * cs.length by omega) hb0
  rw [← hzz] at l1 l2
  refine k_getS X0 d_jdk_52_5_0 (host := "") (Or.inl (w_116 hw)) Via.refl (G_assertionsDisabled.ext X0.old.2) (pc' := 3) rfl fun T42 X43 => ?_
  refine k_ifYes X43 d_jdk_52_5_3 (by decide) (pc' := 28) (by decide) (by decide) ?_
  refine k_iloadN X43 d_jdk_52_5_28 rfl (pc' := 29) rfl ?_
  refine k_iconst X43 d_jdk_52_5_29 (w := (1 : Int32)) rfl (pc' := 30) rfl ?_
  refine k_ishl X43 d_jdk_52_5_30 (w := (Int32.ofNat (2 * j))) (own_shl1 (by omega)) (pc' := 31) rfl ?_
  refine k_istoreN X43 d_jdk_52_5_31 (Ls' := #[.val (.ref d), .val (.int (Int32.ofNat (2 * j)))]) rfl (pc' := 32) rfl ?_
  refine k_aloadN X43 d_jdk_52_5_32 rfl rfl (pc' := 33) rfl ?_
  refine k_iloadN X43 d_jdk_52_5_33 rfl (pc' := 34) rfl ?_
  refine k_iinc X43 d_jdk_52_5_34 rfl (w := (Int32.ofNat (2 * j + 1))) (own_succ (2 * j)) (Ls' := #[.val (.ref d), .val (.int (Int32.ofNat (2 * j + 1)))]) rfl (pc' := 37) rfl ?_
  refine k_baload X43 d_jdk_52_5_37 q0 (own_nn (by omega)) l1 (v := (.int ((cs.getD j 0).toInt8.toInt32))) (by rw [own_clamp (by omega)]; exact own_u16lo cs j _ hj) (pc' := 38) rfl ?_
  refine k_sipush X43 d_jdk_52_5_38 (w := (255 : Int32)) rfl (pc' := 41) rfl ?_
  refine k_iand X43 d_jdk_52_5_41 (w := (((cs.getD j 0).toInt8.toInt32) &&& (255 : Int32))) rfl (pc' := 42) rfl ?_
  refine k_getS X43 d_jdk_52_5_42 (host := "") (Or.inl (w_117 hw)) Via.refl (G_HI_BYTE_SHIFT.ext X43.old.2) (pc' := 45) rfl fun T44 X45 => ?_
  refine k_ishl X45 d_jdk_52_5_45 (w := ((cs.getD j 0).toInt8.toInt32 &&& (255 : Int32))) (own_shl0 _) (pc' := 46) rfl ?_
  refine k_aloadN X45 d_jdk_52_5_46 rfl rfl (pc' := 47) rfl ?_
  refine k_iloadN X45 d_jdk_52_5_47 rfl (pc' := 48) rfl ?_
  refine k_baload X45 d_jdk_52_5_48 q0 (own_nn (by omega)) l2 (v := (.int ((cs.getD j 0 >>> ((8 : Int32) &&& 31)).toInt8.toInt32))) (by rw [own_clamp (by omega)]; exact own_u16hi cs j _ hj) (pc' := 49) rfl ?_
  refine k_sipush X45 d_jdk_52_5_49 (w := (255 : Int32)) rfl (pc' := 52) rfl ?_
  refine k_iand X45 d_jdk_52_5_52 (w := (((cs.getD j 0 >>> ((8 : Int32) &&& 31)).toInt8.toInt32) &&& (255 : Int32))) rfl (pc' := 53) rfl ?_
  refine k_getS X45 d_jdk_52_5_53 (host := "") (Or.inl (w_118 hw)) Via.refl (G_LO_BYTE_SHIFT.ext X45.old.2) (pc' := 56) rfl fun T46 X47 => ?_
  refine k_ishl X47 d_jdk_52_5_56 (w := ((((cs.getD j 0 >>> ((8 : Int32) &&& 31)).toInt8.toInt32) &&& (255 : Int32)) <<< ((8 : Int32) &&& 31))) rfl (pc' := 57) rfl ?_
  refine k_ior X47 d_jdk_52_5_57 (w := (((cs.getD j 0).toInt8.toInt32 &&& (255 : Int32)) ||| ((((cs.getD j 0 >>> ((8 : Int32) &&& 31)).toInt8.toInt32) &&& (255 : Int32)) <<< ((8 : Int32) &&& 31)))) rfl (pc' := 58) rfl ?_
  refine k_i2c X47 d_jdk_52_5_58 (w := (cs.getD j 0)) (own_join hr.1 hr.2) (pc' := 59) rfl ?_
  exact k_retFN X47 (w := (cs.getD j 0)) d_jdk_52_5_59 (t := .char) rfl (by simp) (own_i2c_id hr.1 hr.2) K0_h0 ⟨_, rfl, rfl, trivial⟩ (by decide) (by decide)
set_option maxRecDepth 65536 in
set_option maxHeartbeats 40000000 in
theorem own_nbl (l : Launch) (Z : State) (a0 : Array Value) (hw : ∀ d ∈ tables_1, d.before a0 Z = true) {zc : Int32} {fm : Value}  (G : Gl Z zc fm) (n0 : Nat) (h0 : Heap) (O0 : Old Z n0 h0) (n : Nat) (zv : Int32) (hzv : zv = Int32.ofNat n) (hn : n < 1073741823)   :
    MetF l [] Z n0 (⟨"java/lang/StringUTF16", "newBytesLength", "(I)I"⟩ : MethodName) jdk_52_method_3_code 1 (Option.some FieldType.int) ({ frames := 0, cells := 0, slots := 0, locals := 0 } : Room) #[(.int zv)] h0 [] (fun r h' => ∃ w, r = some w ∧ w = (.int (Int32.ofNat (2 * n))) ∧ True) := by
  subst hzv
  refine metF (plainFor_of_name pn_0) O0 (Ls := #[.val (.int (Int32.ofNat n))]) (fun m => by first | (simp [entryFrame, mkF, argsToLocals, Value.category]; done) | rfl) ?_
  intro p e s m below meth c T0 X0
  have K0_h0 := Keep.refl h0 []
  have n0le := X0.n0le
  obtain ⟨G_cs, G_zc, G_fm, isref_fm, G_assertionsDisabled, G_HI_BYTE_SHIFT, G_LO_BYTE_SHIFT⟩ := id G
  have h1 : Int32.ofNat n < (1073741823 : Int32) := own_lt hn (by decide)
  refine k_iloadN X0 d_jdk_52_3_0 rfl (pc' := 1) rfl ?_
  refine k_ifYes X0 d_jdk_52_3_1 ((if0 _ _).trans (flt (own_nn (by omega))).2.1) (pc' := 12) (by decide) (by decide) ?_
  refine k_iloadN X0 d_jdk_52_3_12 rfl (pc' := 13) rfl ?_
  refine k_ldcI X0 d_jdk_52_3_13 (w_144 hw) (pc' := 15) rfl ?_
  refine k_icmpYes X0 d_jdk_52_3_15 (tlt h1).1 (pc' := 55) (by decide) (by decide) ?_
  refine k_iloadN X0 d_jdk_52_3_55 rfl (pc' := 56) rfl ?_
  refine k_iconst X0 d_jdk_52_3_56 (w := (1 : Int32)) rfl (pc' := 57) rfl ?_
  refine k_ishl X0 d_jdk_52_3_57 (w := (Int32.ofNat (2 * n))) (own_shl1 (by omega)) (pc' := 58) rfl ?_
  exact k_retFI X0 d_jdk_52_3_58 rfl K0_h0 ⟨_, rfl, rfl, trivial⟩ (by decide) (by decide)
set_option maxRecDepth 65536 in
set_option maxHeartbeats 40000000 in
theorem own_nbf (l : Launch) (Z : State) (a0 : Array Value) (hw : ∀ d ∈ tables_1, d.before a0 Z = true) {zc : Int32} {fm : Value}  (G : Gl Z zc fm) (n0 : Nat) (h0 : Heap) (O0 : Old Z n0 h0) (n : Nat) (zv : Int32) (hzv : zv = Int32.ofNat n) (hn : n ≤ 2)   :
    MetF l [] Z n0 (⟨"java/lang/StringUTF16", "newBytesFor", "(I)[B"⟩ : MethodName) jdk_52_method_2_code 1 (Option.some (FieldType.array FieldType.byte)) ({ frames := 1, cells := 1, slots := 4, locals := 12 } : Room) #[(.int zv)] h0 [] (fun r h' => ∃ w, r = some w ∧ ∃ (t : Nat), ∃ (kt : ClassId), w = (.ref t) ∧ (Arv Z h' t kt .byte (Int32.ofNat (2 * n)) (List.replicate (2 * n) (.int (0 : Int32))) (.int (0 : Int32))) ∧ (h0.size ≤ t)) := by
  refine metF (plainFor_of_name pn_0) O0 (Ls := #[.val (.int zv)]) (fun m => by first | (simp [entryFrame, mkF, argsToLocals, Value.category]; done) | rfl) ?_
  intro p e s m below meth c T0 X0
  have K0_h0 := Keep.refl h0 []
  have n0le := X0.n0le
  obtain ⟨G_cs, G_zc, G_fm, isref_fm, G_assertionsDisabled, G_HI_BYTE_SHIFT, G_LO_BYTE_SHIFT⟩ := id G
  refine k_iloadN X0 d_jdk_52_2_0 rfl (pc' := 1) rfl ?_
  refine k_callSVF X0 (y := (⟨"java/lang/StringUTF16", "newBytesLength", "(I)I"⟩ : MethodName)) d_jdk_52_2_1 (w_141 hw) (w_142 hw) (w_102 hw) (w_143 hw) (by decide) (argsL := [(.int zv)]) (rest := []) (own_nbl l Z a0 hw G n0 h0 X0.old n zv hzv (by omega) ) rfl pd_3 rfl rfl (by decide) (W := 0) (Nat.le_of_eq rfl) (by decide) (by decide) (by decide) all0 (pc' := 4) rfl ?_
  rintro _ T48 h48 L48 X48 K48 ⟨rfl, -⟩
  have sz_h48 := K48.1
  have K0_h48 : Keep h0 h48 [] := K0_h0.trans K48 all0
  refine k_newP X48 d_jdk_52_2_4 (w_14 hw) (own_nn (by omega)) (cap := 4) (by rw [own_clamp (by omega)]; omega) (by decide) (by decide) (by decide) (pc' := 6) rfl fun T50 h50 b50 k50 g50 X50 K50 V50 S50 lt50 ge50 => ?_
  have sz_h50 := K50.1
  have K0_h50 : Keep h0 h50 [] := K0_h48.trans K50 all0
  have Vp : Arv Z h50 b50 k50 .byte (Int32.ofNat (2 * n)) (List.replicate (2 * n) (.int (0 : Int32))) (.int (0 : Int32)) := Arv.pad V50 (fun i => by simpa using pad_rep [] (.int (0 : Int32)) (2 * n) i)
  exact k_retFA X50 d_jdk_52_2_6 rfl rfl rfl rfl K0_h50 ⟨_, rfl, _, _, rfl, Vp, by omega⟩ (by decide) (by decide)
set_option maxRecDepth 65536 in
set_option maxHeartbeats 40000000 in
theorem own_toB (l : Launch) (Z : State) (a0 : Array Value) (hw : ∀ d ∈ tables_1, d.before a0 Z = true) {zc : Int32} {fm : Value}  (G : Gl Z zc fm) (n0 : Nat) (h0 : Heap) (O0 : Old Z n0 h0) (b : Nat) (kb : ClassId) (z : Int32) (cs : List Int32) (hz : z = Int32.ofNat cs.length) (hn : cs.length ≤ 2)  (q0 : Arv Z h0 b kb .char z (cs.map Value.int) (.int 0)) :
    MetF l [] Z n0 (⟨"java/lang/StringUTF16", "toBytes", "([CII)[B"⟩ : MethodName) jdk_52_method_14_code 5 (Option.some (FieldType.array FieldType.byte)) ({ frames := 2, cells := 1, slots := 4, locals := 24 } : Room) #[(.ref b), (.int (0 : Int32)), (.int z)] h0 [] (fun r h' => ∃ w, r = some w ∧ ∃ (t : Nat), ∃ (kt : ClassId), w = (.ref t) ∧ (Arv Z h' t kt .byte (Int32.ofNat (2 * cs.length)) (own_u16 cs) (.int (0 : Int32))) ∧ (h0.size ≤ t)) := by
  refine metF (plainFor_of_name pn_0) O0 (Ls := #[.val (.ref b), .val (.int (0 : Int32)), .val (.int z), .unset, .unset]) (fun m => by first | (simp [entryFrame, mkF, argsToLocals, Value.category]; done) | rfl) ?_
  intro p e s m below meth c T0 X0
  have K0_h0 := Keep.refl h0 []
  have n0le := X0.n0le
  have ltq0 := own_n q0.lt
  obtain ⟨G_cs, G_zc, G_fm, isref_fm, G_assertionsDisabled, G_HI_BYTE_SHIFT, G_LO_BYTE_SHIFT⟩ := id G
  refine k_iloadN X0 d_jdk_52_14_0 rfl (pc' := 1) rfl ?_
  refine k_callSVF X0 (y := (⟨"java/lang/StringUTF16", "newBytesFor", "(I)[B"⟩ : MethodName)) d_jdk_52_14_1 (w_138 hw) (w_139 hw) (w_102 hw) (w_140 hw) (by decide) (argsL := [(.int z)]) (rest := []) (own_nbf l Z a0 hw G n0 h0 X0.old (cs.length) z hz hn ) rfl pd_4 rfl rfl (by decide) (W := 0) (Nat.le_of_eq rfl) (by decide) (by decide) (by decide) all0 (pc' := 4) rfl ?_
  rintro _ T53 h53 L53 X53 K53 ⟨t_51, kt_52, rfl, q53_0, q53_1⟩
  have sz_h53 := K53.1
  have K0_h53 : Keep h0 h53 [] := K0_h0.trans K53 all0
  have lt53_0 := own_n q53_0.lt
  refine k_astoreN X53 d_jdk_52_14_4 rfl (Ls' := #[.val (.ref b), .val (.int (0 : Int32)), .val (.int z), .val (.ref t_51), .unset]) rfl (pc' := 5) rfl ?_
  refine k_iconst X53 d_jdk_52_14_5 (w := (0 : Int32)) rfl (pc' := 6) rfl ?_
  refine k_istore X53 d_jdk_52_14_6 (Ls' := #[.val (.ref b), .val (.int (0 : Int32)), .val (.int z), .val (.ref t_51), .val (.int (0 : Int32))]) rfl (pc' := 8) rfl ?_
  have loop : ∀ (n i : Nat) (T : State) (h : Heap) (L : List Loc) (cl sl : Nat), n = cs.length - i → i ≤ cs.length → cl = 1 → sl = 4 → WP p l e ({ frames := 2, cells := 1, slots := 4, locals := 24 } : Room) s m #[(.ref b), (.int (0 : Int32)), (.int z)] below meth c Z "java/lang/StringUTF16" "toBytes" jdk_52_method_14_code 5 (Option.some (FieldType.array FieldType.byte)) n0 (fun _ => True) (fun _ _ => True) T h L cl sl → Keep h0 h [] → Arv Z h b kb .char z (cs.map Value.int) (.int 0) → Arv Z h t_51 kt_52 .byte (Int32.ofNat (2 * cs.length)) (own_u16 (cs.take i) ++ List.replicate (2 * (cs.length - i)) (.int (0 : Int32))) (.int (0 : Int32)) → Run p.tables e below (PF s below n0 h0 [] (fun r h' => ∃ w, r = some w ∧ ∃ (t : Nat), ∃ (kt : ClassId), w = (.ref t) ∧ (Arv Z h' t kt .byte (Int32.ofNat (2 * cs.length)) (own_u16 cs) (.int (0 : Int32))) ∧ (h0.size ≤ t)) ({ frames := 2, cells := 1, slots := 4, locals := 24 } : Room).cells ({ frames := 2, cells := 1, slots := 4, locals := 24 } : Room).slots) T (mkF m 8 #[.val (.ref b), .val (.int (Int32.ofNat i)), .val (.int z), .val (.ref t_51), .val (.int (Int32.ofNat i))] []) := by
    intro n
    induction n with
    | zero =>
      intro i T h L cl sl hni hij hcl hsl X K Vb Vd
      subst hcl hsl
      have hi : i = cs.length := by omega
      subst hi
      have hnl : ¬ (Int32.ofNat cs.length < z) := by rw [← hz]; exact Int32.lt_irrefl
      have lb := own_n Vb.lt
      have ld := own_n Vd.lt
      have lh0 := K.1
      have lb0 := own_n q0.lt
      have nle := X.n0le
      refine k_iload X d_jdk_52_14_8 rfl (pc' := 10) rfl ?_
      refine k_iloadN X d_jdk_52_14_10 rfl (pc' := 11) rfl ?_
      refine k_icmpYes X d_jdk_52_14_11 (flt hnl).2.1 (pc' := 32) (by decide) (by decide) ?_
      refine k_aloadN X d_jdk_52_14_32 rfl rfl (pc' := 33) rfl ?_
      have Ve : Arv Z h t_51 kt_52 .byte (Int32.ofNat (2 * cs.length)) (own_u16 cs) (.int (0 : Int32)) := by simpa using Vd
      exact k_retFA X d_jdk_52_14_33 rfl rfl rfl rfl K ⟨_, rfl, _, _, rfl, Ve, by omega⟩ (by decide) (by decide)
    | succ n ih =>
      intro i T h L cl sl hni hij hcl hsl X K Vb Vd
      subst hcl hsl
      have hi : i < cs.length := by omega
      have hlt := own_lt hi (by omega)
      rw [← hz] at hlt
      have lb := own_n Vb.lt
      have ld := own_n Vd.lt
      have lh0 := K.1
      have lb0 := own_n q0.lt
      have nle := X.n0le
      refine k_iload X d_jdk_52_14_8 rfl (pc' := 10) rfl ?_
      refine k_iloadN X d_jdk_52_14_10 rfl (pc' := 11) rfl ?_
      refine k_icmpNo X d_jdk_52_14_11 (tlt hlt).2.1 (pc' := 14) rfl ?_
      refine k_aloadN X d_jdk_52_14_14 rfl rfl (pc' := 15) rfl ?_
      refine k_iload X d_jdk_52_14_15 rfl (pc' := 17) rfl ?_
      refine k_aloadN X d_jdk_52_14_17 rfl rfl (pc' := 18) rfl ?_
      refine k_iloadN X d_jdk_52_14_18 rfl (pc' := 19) rfl ?_
      refine k_caload X d_jdk_52_14_19 Vb (own_nn (by omega)) hlt (v := (.int (cs.getD i 0))) (own_getc' cs (by omega)) (pc' := 20) rfl ?_
      have ge55 : n0 ≤ t_51 := by omega
      refine k_callSNF X (y := (⟨"java/lang/StringUTF16", "putChar", "([BII)V"⟩ : MethodName)) d_jdk_52_14_20 (w_113 hw) (w_114 hw) (w_102 hw) (w_115 hw) (by decide) (argsL := [(.ref t_51), (.int (Int32.ofNat i)), (.int (cs.getD i 0))]) (rest := []) (own_putC l Z a0 hw G n0 h X.old t_51 kt_52 (Int32.ofNat (2 * cs.length)) (own_u16 (cs.take i) ++ List.replicate (2 * (cs.length - i)) (.int (0 : Int32))) i (cs.getD i 0) (by rw [own_u16l cs i hij]; omega) (by rw [own_u16l cs i hij]) (by rw [own_u16l cs i hij]; omega) ge55 Vd) rfl pd_5 rfl rfl (by decide) (W := 0) (Nat.le_of_eq rfl) (by decide) (by decide) (by decide) (allS ⟨trivial, ge55⟩ all0) (pc' := 23) rfl ?_
      rintro T56 h56 L56 X56 K56 q56_0
      have sz_h56 := K56.1
      have od57 : h0.size ≤ t_51 := by omega
      have K0_h56 : Keep h0 h56 [] := K.trans K56 (allS (Or.inr od57) all0)
      have lt56_0 := own_n q56_0.lt
      refine k_iinc X56 d_jdk_52_14_23 rfl (w := (Int32.ofNat (i + 1))) (own_succ i) (Ls' := #[.val (.ref b), .val (.int (Int32.ofNat (i + 1))), .val (.int z), .val (.ref t_51), .val (.int (Int32.ofNat i))]) rfl (pc' := 26) rfl ?_
      refine k_iinc X56 d_jdk_52_14_26 rfl (w := (Int32.ofNat (i + 1))) (own_succ i) (Ls' := #[.val (.ref b), .val (.int (Int32.ofNat (i + 1))), .val (.int z), .val (.ref t_51), .val (.int (Int32.ofNat (i + 1)))]) rfl (pc' := 29) rfl ?_
      refine k_goto X56 d_jdk_52_14_29 (pc' := 8) (by decide) (by decide) ?_
      have ne58 : (b : Nat) ≠ t_51 := own_ne (by omega)
      have c59 := (Vb.keep K56 (ninS ne58 nin0))
      rw [own_u16turn cs i hi] at q56_0
      exact ih (i + 1) _ _ _ _ _ (by omega) (by omega) rfl rfl X56 K0_h56 c59 q56_0
  have c60 := (q0.keep K53 nin0)
  exact loop _ 0 _ _ _ _ _ rfl (by omega) rfl rfl X53 K0_h53 c60 (by simpa [own_u16] using q53_0)
set_option maxRecDepth 65536 in
set_option maxHeartbeats 40000000 in
theorem own_cmp3U (l : Launch) (Z : State) (a0 : Array Value) (hw : ∀ d ∈ tables_1, d.before a0 Z = true) {zc : Int32} {fm : Value}  (G : Gl Z zc fm) (n0 : Nat) (h0 : Heap) (O0 : Old Z n0 h0) (b : Nat) (kb : ClassId) (z : Int32) (cs : List Int32) (hz : z = Int32.ofNat cs.length) (hn : cs.length ≤ 2) (hj : own_fst cs < cs.length)  (q0 : Arv Z h0 b kb .char z (cs.map Value.int) (.int 0)) :
    MetF l [] Z n0 (⟨"java/lang/StringUTF16", "compress", "([CII)[B"⟩ : MethodName) jdk_52_method_16_code 6 (Option.some (FieldType.array FieldType.byte)) ({ frames := 3, cells := 2, slots := 6, locals := 40 } : Room) #[(.ref b), (.int (0 : Int32)), (.int z)] h0 [] (fun r h' => ∃ w, r = some w ∧ ∃ (t : Nat), ∃ (kt : ClassId), w = (.ref t) ∧ (Arv Z h' t kt .byte (Int32.ofNat (2 * cs.length)) (own_u16 cs) (.int (0 : Int32))) ∧ (h0.size ≤ t)) := by
  refine metF (plainFor_of_name pn_0) O0 (Ls := #[.val (.ref b), .val (.int (0 : Int32)), .val (.int z), .unset, .unset, .unset]) (fun m => by first | (simp [entryFrame, mkF, argsToLocals, Value.category]; done) | rfl) ?_
  intro p e s m below meth c T0 X0
  have K0_h0 := Keep.refl h0 []
  have n0le := X0.n0le
  have ltq0 := own_n q0.lt
  obtain ⟨G_cs, G_zc, G_fm, isref_fm, G_assertionsDisabled, G_HI_BYTE_SHIFT, G_LO_BYTE_SHIFT⟩ := id G
  have hnz : ¬ z < 0 := by rw [hz]; exact own_nn (by omega)
  have hcl : z.toNatClampNeg = cs.length := by rw [hz]; exact own_clamp (by omega)
  have hrg := own_rng q0 hz (by omega) (own_fst cs) hj
  refine k_iloadN X0 d_jdk_52_16_0 rfl (pc' := 1) rfl ?_
  refine k_newP X0 d_jdk_52_16_1 (w_14 hw) hnz (cap := 2) (by omega) (by decide) (by decide) (by decide) (pc' := 3) rfl fun T61 h61 b61 k61 g61 X61 K61 V61 S61 lt61 ge61 => ?_
  have sz_h61 := K61.1
  have K0_h61 : Keep h0 h61 [] := K0_h0.trans K61 all0
  have Vp : Arv Z h61 b61 k61 .byte z (List.replicate cs.length (.int (0 : Int32))) (.int (0 : Int32)) := Arv.pad V61 (fun i => by simpa using pad_rep [] (.int (0 : Int32)) cs.length i)
  refine k_astoreN X61 d_jdk_52_16_3 rfl (Ls' := #[.val (.ref b), .val (.int (0 : Int32)), .val (.int z), .val (.ref b61), .unset, .unset]) rfl (pc' := 4) rfl ?_
  refine k_aloadN X61 d_jdk_52_16_4 rfl rfl (pc' := 5) rfl ?_
  refine k_iloadN X61 d_jdk_52_16_5 rfl (pc' := 6) rfl ?_
  refine k_aloadN X61 d_jdk_52_16_6 rfl rfl (pc' := 7) rfl ?_
  refine k_iconst X61 d_jdk_52_16_7 (w := (0 : Int32)) rfl (pc' := 8) rfl ?_
  refine k_iloadN X61 d_jdk_52_16_8 rfl (pc' := 9) rfl ?_
  have c62 := (q0.keep K61 nin0)
  have ge63 : n0 ≤ b61 := by omega
  refine k_callSVF X61 (y := (⟨"java/lang/StringUTF16", "compress", "([CI[BII)I"⟩ : MethodName)) d_jdk_52_16_9 (w_104 hw) (w_105 hw) (w_102 hw) (w_106 hw) (by decide) (argsL := [(.ref b), (.int (0 : Int32)), (.ref b61), (.int (0 : Int32)), (.int z)]) (rest := []) (own_cmp5 l Z a0 hw G n0 h61 X61.old b b61 kb k61 z cs (List.replicate cs.length (.int (0 : Int32))) (by omega) hz (by omega) (by simp) ge63 c62 Vp) rfl pd_0 rfl rfl (by decide) (W := 0) (Nat.le_of_eq rfl) (by decide) (by decide) (by decide) (allS ⟨trivial, ge63⟩ all0) (pc' := 12) rfl ?_
  rintro _ T64 h64 L64 X64 K64 ⟨rfl, q64_0⟩
  have sz_h64 := K64.1
  have od66 : h0.size ≤ b61 := by omega
  have K0_h64 : Keep h0 h64 [] := K0_h61.trans K64 (allS (Or.inr od66) all0)
  have lt64_0 := own_n q64_0.lt
  refine k_istore X64 d_jdk_52_16_12 (Ls' := #[.val (.ref b), .val (.int (0 : Int32)), .val (.int z), .val (.ref b61), .val (.int (Int32.ofNat (own_fst cs))), .unset]) rfl (pc' := 14) rfl ?_
  refine k_iload X64 d_jdk_52_16_14 rfl (pc' := 16) rfl ?_
  refine k_iloadN X64 d_jdk_52_16_16 rfl (pc' := 17) rfl ?_
  have hz2 : ¬ (Int32.ofNat (own_fst cs) = z) := by rw [hz]; intro q; have := own_lt hj (by omega); rw [q] at this; exact Int32.lt_irrefl this
  refine k_icmpNo X64 d_jdk_52_16_17 (feq hz2).1 (pc' := 20) rfl ?_
  refine k_aloadN X64 d_jdk_52_16_20 rfl rfl (pc' := 21) rfl ?_
  refine k_iloadN X64 d_jdk_52_16_21 rfl (pc' := 22) rfl ?_
  refine k_iloadN X64 d_jdk_52_16_22 rfl (pc' := 23) rfl ?_
  have ne67 : (b : Nat) ≠ b61 := own_ne (by omega)
  have c68 := (c62.keep K64 (ninS ne67 nin0))
  refine k_callSVF X64 (y := (⟨"java/lang/StringUTF16", "toBytes", "([CII)[B"⟩ : MethodName)) d_jdk_52_16_23 (w_135 hw) (w_136 hw) (w_102 hw) (w_137 hw) (by decide) (argsL := [(.ref b), (.int (0 : Int32)), (.int z)]) (rest := []) (own_toB l Z a0 hw G n0 h64 X64.old b kb z cs hz hn c68) rfl pd_1 rfl rfl (by decide) (W := 0) (Nat.le_of_eq rfl) (by decide) (by decide) (by decide) all0 (pc' := 26) rfl ?_
  rintro _ T71 h71 L71 X71 K71 ⟨t_69, kt_70, rfl, q71_0, q71_1⟩
  have sz_h71 := K71.1
  have K0_h71 : Keep h0 h71 [] := K0_h64.trans K71 all0
  have lt71_0 := own_n q71_0.lt
  refine k_astore X71 d_jdk_52_16_26 rfl (Ls' := #[.val (.ref b), .val (.int (0 : Int32)), .val (.int z), .val (.ref b61), .val (.int (Int32.ofNat (own_fst cs))), .val (.ref t_69)]) rfl (pc' := 28) rfl ?_
  refine k_aload X71 d_jdk_52_16_28 rfl rfl (pc' := 30) rfl ?_
  refine k_iload X71 d_jdk_52_16_30 rfl (pc' := 32) rfl ?_
  refine k_callSVF X71 (y := (⟨"java/lang/StringUTF16", "getChar", "([BI)C"⟩ : MethodName)) d_jdk_52_16_32 (w_132 hw) (w_133 hw) (w_102 hw) (w_134 hw) (by decide) (argsL := [(.ref t_69), (.int (Int32.ofNat (own_fst cs)))]) (rest := []) (own_getC l Z a0 hw G n0 h71 X71.old t_69 kt_70 (Int32.ofNat (2 * cs.length)) cs (own_fst cs) (Int32.ofNat (own_fst cs)) rfl hj rfl (by omega) hrg q71_0) rfl pd_6 rfl rfl (by decide) (W := 0) (Nat.le_of_eq rfl) (by decide) (by decide) (by decide) all0 (pc' := 35) rfl ?_
  rintro _ T73 h73 L73 X73 K73 ⟨rfl, -⟩
  have sz_h73 := K73.1
  have K0_h73 : Keep h0 h73 [] := K0_h71.trans K73 all0
  refine k_sipush X73 d_jdk_52_16_35 (w := (255 : Int32)) rfl (pc' := 38) rfl ?_
  refine k_icmpYes X73 d_jdk_52_16_38 (tlt (own_fst_hi cs hj)).2.2.1 (pc' := 54) (by decide) (by decide) ?_
  refine k_aload X73 d_jdk_52_16_54 rfl rfl (pc' := 56) rfl ?_
  have c75 := (q71_0.keep K73 nin0)
  exact k_retFA X73 d_jdk_52_16_56 rfl rfl rfl rfl K0_h73 ⟨_, rfl, _, _, rfl, c75, by omega⟩ (by decide) (by decide)
set_option maxRecDepth 65536 in
set_option maxHeartbeats 40000000 in
theorem own_codU (l : Launch) (Z : State) (a0 : Array Value) (hw : ∀ d ∈ tables_1, d.before a0 Z = true) {zc : Int32} {fm : Value}  (G : Gl Z zc fm) (n0 : Nat) (h0 : Heap) (O0 : Old Z n0 h0) (d : Nat) (k : ClassId) (z : Int32) (cs : List Int32) (bs : List Value) (dv : Value) (hz : z = Int32.ofNat cs.length) (h1 : 0 < cs.length) (hn : cs.length < 1073741824)  (q0 : Arv Z h0 d k .byte (Int32.ofNat (2 * cs.length)) bs dv) :
    MetF l [] Z n0 (⟨"java/lang/StringUTF16", "coderFromArrayLen", "([BI)B"⟩ : MethodName) jdk_52_method_15_code 2 (Option.some FieldType.byte) ({ frames := 0, cells := 0, slots := 0, locals := 0 } : Room) #[(.ref d), (.int z)] h0 [] (fun r h' => ∃ w, r = some w ∧ w = (.int (1 : Int32)) ∧ True) := by
  subst hz
  refine metF (plainFor_of_name pn_0) O0 (Ls := #[.val (.ref d), .val (.int (Int32.ofNat cs.length))]) (fun m => by first | (simp [entryFrame, mkF, argsToLocals, Value.category]; done) | rfl) ?_
  intro p e s m below meth c T0 X0
  have K0_h0 := Keep.refl h0 []
  have n0le := X0.n0le
  have ltq0 := own_n q0.lt
  obtain ⟨G_cs, G_zc, G_fm, isref_fm, G_assertionsDisabled, G_HI_BYTE_SHIFT, G_LO_BYTE_SHIFT⟩ := id G
  refine k_iloadN X0 d_jdk_52_15_0 rfl (pc' := 1) rfl ?_
  refine k_aloadN X0 d_jdk_52_15_1 rfl rfl (pc' := 2) rfl ?_
  refine k_arlen X0 d_jdk_52_15_2 q0 (pc' := 3) rfl ?_
  refine k_isub X0 d_jdk_52_15_3 (w := ((Int32.ofNat cs.length) - (Int32.ofNat (2 * cs.length)))) rfl (pc' := 4) rfl ?_
  refine k_bipush X0 d_jdk_52_15_4 (w := (31 : Int32)) rfl (pc' := 6) rfl ?_
  refine k_iushr X0 d_jdk_52_15_6 (w := (1 : Int32)) (own_neg31 h1 hn) (pc' := 7) rfl ?_
  refine k_i2b X0 d_jdk_52_15_7 (w := (1 : Int32)) (by decide) (pc' := 8) rfl ?_
  exact k_retFN X0 (w := (1 : Int32)) d_jdk_52_15_8 (t := .byte) rfl (by simp) rfl K0_h0 ⟨_, rfl, rfl, trivial⟩ (by decide) (by decide)
set_option maxRecDepth 65536 in
set_option maxHeartbeats 40000000 in
theorem own_init4U (l : Launch) (Z : State) (a0 : Array Value) (hw : ∀ d ∈ tables_1, d.before a0 Z = true) {zc : Int32} {fm : Value}  (G : Gl Z zc fm) (n0 : Nat) (h0 : Heap) (O0 : Old Z n0 h0) (a : Nat) (b : Nat) (kb : ClassId) (z : Int32) (cs : List Int32) (hz : z = Int32.ofNat cs.length) (h1 : 0 < cs.length) (hn : cs.length ≤ 2) (hj : own_fst cs < cs.length) (gw0 : n0 ≤ a) (q0 : Exa Z h0 a "java/lang/String") (q1 : Fld Z h0 a "java/lang/String" "value" "[B" .null) (q2 : Fld Z h0 a "java/lang/String" "coder" "B" (.int (0 : Int32))) (q3 : Arv Z h0 b kb .char z (cs.map Value.int) (.int 0)) :
    MetF l [] Z n0 (⟨"java/lang/String", "<init>", "([CIILjava/lang/Void;)V"⟩ : MethodName) jdk_42_method_149_code 6 (Option.none : Option FieldType) ({ frames := 4, cells := 2, slots := 6, locals := 57 } : Room) #[(.ref a), (.ref b), (.int (0 : Int32)), (.int z), .null] h0 [a] (fun r h' => r = none ∧ ∃ (t : Nat), ∃ (kt : ClassId), (Exa Z h' a "java/lang/String") ∧ (Fld Z h' a "java/lang/String" "coder" "B" (.int (1 : Int32))) ∧ (Fld Z h' a "java/lang/String" "value" "[B" (.ref t)) ∧ (Arv Z h' t kt .byte (Int32.ofNat (2 * cs.length)) (own_u16 cs) (.int (0 : Int32))) ∧ (h0.size ≤ t)) := by
  refine metF (plainFor_of_name pn_1) O0 (Ls := #[.val (.ref a), .val (.ref b), .val (.int (0 : Int32)), .val (.int z), .val .null, .unset]) (fun m => by first | (simp [entryFrame, mkF, argsToLocals, Value.category]; done) | rfl) ?_
  intro p e s m below meth c T0 X0
  have K0_h0 := Keep.refl h0 [a]
  have n0le := X0.n0le
  have ltq0 := own_n q0.lt
  have ltq1 := own_n q1.lt
  have ltq2 := own_n q2.lt
  have ltq3 := own_n q3.lt
  obtain ⟨G_cs, G_zc, G_fm, isref_fm, G_assertionsDisabled, G_HI_BYTE_SHIFT, G_LO_BYTE_SHIFT⟩ := id G
  have hnz0 : ¬ z = 0 := by rw [hz]; exact own_nz h1 (by omega)
  refine k_aloadN X0 d_jdk_42_149_0 rfl rfl (pc' := 1) rfl ?_
  refine k_initO X0 d_jdk_42_149_1 (w_19 hw) (w_20 hw) (w_21 hw) rfl (by decide) (W := 0) (Nat.le_of_eq rfl) (by decide) (pc' := 4) rfl fun T76 X77 => ?_
  refine k_iloadN X77 d_jdk_42_149_4 rfl (pc' := 5) rfl ?_
  refine k_ifYes X77 d_jdk_42_149_5 ((if0 _ _).trans (feq hnz0).2) (pc' := 27) (by decide) (by decide) ?_
  refine k_getS X77 d_jdk_42_149_27 (host := "") (Or.inl (w_4 hw)) Via.refl (G_cs.ext X77.old.2) (pc' := 30) rfl fun T78 X79 => ?_
  refine k_ifNo X79 d_jdk_42_149_30 ((if0 _ _).trans (feq G_zc).1) (pc' := 33) rfl ?_
  refine k_aloadN X79 d_jdk_42_149_33 rfl rfl (pc' := 34) rfl ?_
  refine k_iloadN X79 d_jdk_42_149_34 rfl (pc' := 35) rfl ?_
  refine k_iloadN X79 d_jdk_42_149_35 rfl (pc' := 36) rfl ?_
  refine k_callSVF X79 (y := (⟨"java/lang/StringUTF16", "compress", "([CII)[B"⟩ : MethodName)) d_jdk_42_149_36 (w_100 hw) (w_101 hw) (w_102 hw) (w_103 hw) (by decide) (argsL := [(.ref b), (.int (0 : Int32)), (.int z)]) (rest := []) (own_cmp3U l Z a0 hw G n0 h0 X79.old b kb z cs hz (by omega) hj q3) rfl pd_1 rfl rfl (by decide) (W := 0) (Nat.le_of_eq rfl) (by decide) (by decide) (by decide) all0 (pc' := 39) rfl ?_
  rintro _ T82 h82 L82 X82 K82 ⟨t_80, kt_81, rfl, q82_0, q82_1⟩
  have sz_h82 := K82.1
  have K0_h82 : Keep h0 h82 [a] := K0_h0.trans K82 all0
  have lt82_0 := own_n q82_0.lt
  refine k_astore X82 d_jdk_42_149_39 rfl (Ls' := #[.val (.ref a), .val (.ref b), .val (.int (0 : Int32)), .val (.int z), .val .null, .val (.ref t_80)]) rfl (pc' := 41) rfl ?_
  refine k_aloadN X82 d_jdk_42_149_41 rfl rfl (pc' := 42) rfl ?_
  refine k_aload X82 d_jdk_42_149_42 rfl rfl (pc' := 44) rfl ?_
  refine k_iloadN X82 d_jdk_42_149_44 rfl (pc' := 45) rfl ?_
  refine k_callSVF X82 (y := (⟨"java/lang/StringUTF16", "coderFromArrayLen", "([BI)B"⟩ : MethodName)) d_jdk_42_149_45 (w_107 hw) (w_108 hw) (w_102 hw) (w_109 hw) (by decide) (argsL := [(.ref t_80), (.int z)]) (rest := [(.ref a)]) (own_codU l Z a0 hw G n0 h82 X82.old t_80 kt_81 z cs (own_u16 cs) (.int (0 : Int32)) hz h1 (by omega) q82_0) rfl pd_2 rfl rfl (by decide) (W := 1) (Nat.le_of_eq rfl) (by decide) (by decide) (by decide) all0 (pc' := 48) rfl ?_
  rintro _ T84 h84 L84 X84 K84 ⟨rfl, -⟩
  have sz_h84 := K84.1
  have K0_h84 : Keep h0 h84 [a] := K0_h82.trans K84 all0
  have c86 := ((q2.keep K82 nin0).keep K84 nin0)
  have c87 := ((q0.keep K82).keep K84)
  have ge89 : n0 ≤ a := by omega
  refine k_putF X84 d_jdk_42_149_48 (host := "") (Or.inl (w_24 hw)) Via.refl c86 c87 (Or.inr ⟨(w_25 hw), rfl, X84.hnm⟩) (w_10 hw) (ty := .byte) (by decide) rfl rfl trivial ge89 (pc' := 51) rfl fun T88 h88 L88 X88 W88 K88 => ?_
  have sz_h88 := K88.1
  have K0_h88 : Keep h0 h88 [a] := K0_h84.trans K88 (allS (Or.inl (List.mem_of_getElem? (i := 0) rfl)) all0)
  have F88 := c86.same W88
  refine k_aloadN X88 d_jdk_42_149_51 rfl rfl (pc' := 52) rfl ?_
  refine k_aload X88 d_jdk_42_149_52 rfl rfl (pc' := 54) rfl ?_
  have c90 := (((q1.keep K82 nin0).keep K84 nin0).other W88 (Or.inr (slot_ne (Or.inr (w_23 hw)) (Or.inr (w_25 hw)) (by decide) (t := (.array .byte)) (t' := .byte) (by decide) (by decide))))
  have c91 := (c87.keep K88)
  refine k_putF X88 d_jdk_42_149_54 (host := "") (Or.inl (w_22 hw)) Via.refl c90 c91 (Or.inr ⟨(w_23 hw), rfl, X88.hnm⟩) (w_10 hw) (ty := (.array .byte)) (by decide) rfl rfl trivial ge89 (pc' := 57) rfl fun T92 h92 L92 X92 W92 K92 => ?_
  have sz_h92 := K92.1
  have K0_h92 : Keep h0 h92 [a] := K0_h88.trans K92 (allS (Or.inl (List.mem_of_getElem? (i := 0) rfl)) all0)
  have F92 := c90.same W92
  have c93 := (c91.keep K92)
  have c94 := (F88.other W92 (Or.inr (slot_ne (Or.inr (w_25 hw)) (Or.inr (w_23 hw)) (by decide) (t := .byte) (t' := (.array .byte)) (by decide) (by decide))))
  have ne95 : (t_80 : Nat) ≠ a := own_ne (by omega)
  have c96 := (((q82_0.keep K84 nin0).keep K88 (ninS ne95 nin0)).keep K92 (ninS ne95 nin0))
  exact k_retFV X92 d_jdk_42_149_57 rfl K0_h92 ⟨rfl, _, _, c93, c94, F92, c96, by omega⟩ (by decide) (by decide)
set_option maxRecDepth 65536 in
set_option maxHeartbeats 40000000 in
theorem own_initU (l : Launch) (Z : State) (a0 : Array Value) (hw : ∀ d ∈ tables_1, d.before a0 Z = true) {zc : Int32} {fm : Value}  (G : Gl Z zc fm) (n0 : Nat) (h0 : Heap) (O0 : Old Z n0 h0) (a : Nat) (b : Nat) (kb : ClassId) (z : Int32) (vs : List Value) (cs : List Int32) (hvs : vs = cs.map Value.int) (hz : z = Int32.ofNat cs.length) (h1 : 0 < cs.length) (hn : cs.length ≤ 2) (hj : own_fst cs < cs.length) (gw0 : n0 ≤ a) (q0 : Exa Z h0 a "java/lang/String") (q1 : Fld Z h0 a "java/lang/String" "value" "[B" .null) (q2 : Fld Z h0 a "java/lang/String" "coder" "B" (.int (0 : Int32))) (q3 : Arv Z h0 b kb .char z vs (.int (0 : Int32))) :
    MetF l [] Z n0 (⟨"java/lang/String", "<init>", "([C)V"⟩ : MethodName) jdk_42_method_3_code 2 (Option.none : Option FieldType) ({ frames := 5, cells := 2, slots := 6, locals := 74 } : Room) #[(.ref a), (.ref b)] h0 [a] (fun r h' => r = none ∧ ∃ (t : Nat), ∃ (kt : ClassId), (Exa Z h' a "java/lang/String") ∧ (Fld Z h' a "java/lang/String" "coder" "B" (.int (1 : Int32))) ∧ (Fld Z h' a "java/lang/String" "value" "[B" (.ref t)) ∧ (Arv Z h' t kt .byte (Int32.ofNat (2 * cs.length)) (own_u16 cs) (.int (0 : Int32))) ∧ (h0.size ≤ t)) := by
  subst hvs
  refine metF (plainFor_of_name pn_1) O0 (Ls := #[.val (.ref a), .val (.ref b)]) (fun m => by first | (simp [entryFrame, mkF, argsToLocals, Value.category]; done) | rfl) ?_
  intro p e s m below meth c T0 X0
  have K0_h0 := Keep.refl h0 [a]
  have n0le := X0.n0le
  have ltq0 := own_n q0.lt
  have ltq1 := own_n q1.lt
  have ltq2 := own_n q2.lt
  have ltq3 := own_n q3.lt
  obtain ⟨G_cs, G_zc, G_fm, isref_fm, G_assertionsDisabled, G_HI_BYTE_SHIFT, G_LO_BYTE_SHIFT⟩ := id G
  refine k_aloadN X0 d_jdk_42_3_0 rfl rfl (pc' := 1) rfl ?_
  refine k_aloadN X0 d_jdk_42_3_1 rfl rfl (pc' := 2) rfl ?_
  refine k_iconst X0 d_jdk_42_3_2 (w := (0 : Int32)) rfl (pc' := 3) rfl ?_
  refine k_aloadN X0 d_jdk_42_3_3 rfl rfl (pc' := 4) rfl ?_
  refine k_arlen X0 d_jdk_42_3_4 q3 (pc' := 5) rfl ?_
  refine k_aconstNull X0 d_jdk_42_3_5 (pc' := 6) rfl ?_
  have ge97 : n0 ≤ a := by omega
  refine k_callPNF X0 (y := (⟨"java/lang/String", "<init>", "([CIILjava/lang/Void;)V"⟩ : MethodName)) d_jdk_42_3_6 (w_97 hw) (w_98 hw) (w_2 hw) (w_99 hw) (by decide) rfl rfl (argsL := [(.ref b), (.int (0 : Int32)), (.int z), .null]) (rest := []) (own_init4U l Z a0 hw G n0 h0 X0.old a b kb z cs hz h1 hn hj ge97 q0 q1 q2 q3) rfl pd_7 rfl rfl (by decide) (W := 0) (Nat.le_of_eq rfl) (by decide) (by decide) (by decide) (allS ⟨trivial, ge97⟩ all0) (pc' := 9) rfl ?_
  rintro T100 h100 L100 X100 K100 ⟨t_98, kt_99, q100_0, q100_1, q100_2, q100_3, q100_4⟩
  have sz_h100 := K100.1
  have K0_h100 : Keep h0 h100 [a] := K0_h0.trans K100 (allS (Or.inl (List.mem_of_getElem? (i := 0) rfl)) all0)
  have lt100_0 := own_n q100_0.lt
  have lt100_1 := own_n q100_1.lt
  have lt100_2 := own_n q100_2.lt
  have lt100_3 := own_n q100_3.lt
  exact k_retFV X100 d_jdk_42_3_9 rfl K0_h100 ⟨rfl, _, _, q100_0, q100_1, q100_2, q100_3, by omega⟩ (by decide) (by decide)
set_option maxRecDepth 65536 in
set_option maxHeartbeats 40000000 in
theorem own_initL (l : Launch) (Z : State) (a0 : Array Value) (hw : ∀ d ∈ tables_1, d.before a0 Z = true) {zc : Int32} {fm : Value}  (G : Gl Z zc fm) (n0 : Nat) (h0 : Heap) (O0 : Old Z n0 h0) (a : Nat) (b : Nat) (kb : ClassId) (z : Int32) (vs : List Value) (cs : List Int32) (hvs : vs = cs.map Value.int) (hz : z = Int32.ofNat cs.length) (h1 : 0 < cs.length) (hn : cs.length ≤ 2) (hall : ∀ c ∈ cs, ¬ 255 < c) (gw0 : n0 ≤ a) (q0 : Exa Z h0 a "java/lang/String") (q1 : Fld Z h0 a "java/lang/String" "value" "[B" .null) (q2 : Fld Z h0 a "java/lang/String" "coder" "B" (.int (0 : Int32))) (q3 : Arv Z h0 b kb .char z vs (.int (0 : Int32))) :
    MetF l [] Z n0 (⟨"java/lang/String", "<init>", "([C)V"⟩ : MethodName) jdk_42_method_3_code 2 (Option.none : Option FieldType) ({ frames := 5, cells := 2, slots := 6, locals := 74 } : Room) #[(.ref a), (.ref b)] h0 [a] (fun r h' => r = none ∧ ∃ (t : Nat), ∃ (kt : ClassId), (Exa Z h' a "java/lang/String") ∧ (Fld Z h' a "java/lang/String" "coder" "B" (.int (0 : Int32))) ∧ (Fld Z h' a "java/lang/String" "value" "[B" (.ref t)) ∧ (Arv Z h' t kt .byte z (own_lat cs) (.int (0 : Int32))) ∧ (h0.size ≤ t)) := by
  subst hvs
  refine metF (plainFor_of_name pn_1) O0 (Ls := #[.val (.ref a), .val (.ref b)]) (fun m => by first | (simp [entryFrame, mkF, argsToLocals, Value.category]; done) | rfl) ?_
  intro p e s m below meth c T0 X0
  have K0_h0 := Keep.refl h0 [a]
  have n0le := X0.n0le
  have ltq0 := own_n q0.lt
  have ltq1 := own_n q1.lt
  have ltq2 := own_n q2.lt
  have ltq3 := own_n q3.lt
  obtain ⟨G_cs, G_zc, G_fm, isref_fm, G_assertionsDisabled, G_HI_BYTE_SHIFT, G_LO_BYTE_SHIFT⟩ := id G
  refine k_aloadN X0 d_jdk_42_3_0 rfl rfl (pc' := 1) rfl ?_
  refine k_aloadN X0 d_jdk_42_3_1 rfl rfl (pc' := 2) rfl ?_
  refine k_iconst X0 d_jdk_42_3_2 (w := (0 : Int32)) rfl (pc' := 3) rfl ?_
  refine k_aloadN X0 d_jdk_42_3_3 rfl rfl (pc' := 4) rfl ?_
  refine k_arlen X0 d_jdk_42_3_4 q3 (pc' := 5) rfl ?_
  refine k_aconstNull X0 d_jdk_42_3_5 (pc' := 6) rfl ?_
  have ge101 : n0 ≤ a := by omega
  refine k_callPNF X0 (y := (⟨"java/lang/String", "<init>", "([CIILjava/lang/Void;)V"⟩ : MethodName)) d_jdk_42_3_6 (w_97 hw) (w_98 hw) (w_2 hw) (w_99 hw) (by decide) rfl rfl (argsL := [(.ref b), (.int (0 : Int32)), (.int z), .null]) (rest := []) (own_init4L l Z a0 hw G n0 h0 X0.old a b kb z cs hz h1 hn hall ge101 q0 q1 q2 q3) rfl pd_7 rfl rfl (by decide) (W := 0) (Nat.le_of_eq rfl) (by decide) (by decide) (by decide) (allS ⟨trivial, ge101⟩ all0) (pc' := 9) rfl ?_
  rintro T104 h104 L104 X104 K104 ⟨t_102, kt_103, q104_0, q104_1, q104_2, q104_3, q104_4⟩
  have sz_h104 := K104.1
  have K0_h104 : Keep h0 h104 [a] := K0_h0.trans K104 (allS (Or.inl (List.mem_of_getElem? (i := 0) rfl)) all0)
  have lt104_0 := own_n q104_0.lt
  have lt104_1 := own_n q104_1.lt
  have lt104_2 := own_n q104_2.lt
  have lt104_3 := own_n q104_3.lt
  exact k_retFV X104 d_jdk_42_3_9 rfl K0_h104 ⟨rfl, _, _, q104_0, q104_1, q104_2, q104_3, by omega⟩ (by decide) (by decide)
set_option maxRecDepth 65536 in
set_option maxHeartbeats 40000000 in
theorem own_initS (l : Launch) (Z : State) (a0 : Array Value) (hw : ∀ d ∈ tables_1, d.before a0 Z = true) {zc : Int32} {fm : Value}  (G : Gl Z zc fm) (n0 : Nat) (h0 : Heap) (O0 : Old Z n0 h0) (a : Nat) (b : Nat) (kb : ClassId) (z : Int32) (vs : List Value) (cs : List Int32) (hvs : vs = cs.map Value.int) (hz : z = Int32.ofNat cs.length) (h1 : 0 < cs.length) (hn : cs.length ≤ 2) (gw0 : n0 ≤ a) (q0 : Exa Z h0 a "java/lang/String") (q1 : Fld Z h0 a "java/lang/String" "value" "[B" .null) (q2 : Fld Z h0 a "java/lang/String" "coder" "B" (.int (0 : Int32))) (q3 : Arv Z h0 b kb .char z vs (.int (0 : Int32))) :
    MetF l [] Z n0 (⟨"java/lang/String", "<init>", "([C)V"⟩ : MethodName) jdk_42_method_3_code 2 (Option.none : Option FieldType) ({ frames := 5, cells := 2, slots := 6, locals := 74 } : Room) #[(.ref a), (.ref b)] h0 [a] (fun r h' => r = none ∧ ∃ (t : Nat), ∃ (kt : ClassId), ∃ (cd : Int32), ∃ (zz : Int32), ∃ (bs : List Value), (Exa Z h' a "java/lang/String") ∧ (Fld Z h' a "java/lang/String" "coder" "B" (.int cd)) ∧ (Fld Z h' a "java/lang/String" "value" "[B" (.ref t)) ∧ (Arv Z h' t kt .byte zz bs (.int (0 : Int32))) ∧ (h0.size ≤ t) ∧ (own_cod cs cd zz bs)) := by
  by_cases hf : own_fst cs = cs.length
  · refine (own_initL l Z a0 hw G n0 h0 O0 a b kb z vs cs hvs hz h1 hn (own_all_of_fst hf) gw0 q0 q1 q2 q3).mono ?_
    rintro r h' ⟨rfl, t, kt, r1, r2, r3, r4, r5⟩
    exact ⟨rfl, t, kt, _, _, _, r1, r2, r3, r4, r5, Or.inl ⟨hf, rfl, hz, rfl⟩⟩
  · have hj : own_fst cs < cs.length := by have := own_fst_le cs; omega
    refine (own_initU l Z a0 hw G n0 h0 O0 a b kb z vs cs hvs hz h1 hn hj gw0 q0 q1 q2 q3).mono ?_
    rintro r h' ⟨rfl, t, kt, r1, r2, r3, r4, r5⟩
    exact ⟨rfl, t, kt, _, _, _, r1, r2, r3, r4, r5, Or.inr ⟨hj, rfl, rfl, rfl⟩⟩
set_option maxRecDepth 65536 in
set_option maxHeartbeats 40000000 in
theorem own_init4E (l : Launch) (Z : State) (a0 : Array Value) (hw : ∀ d ∈ tables_1, d.before a0 Z = true) {zc : Int32} {fm : Value}  (G : Gl Z zc fm) (n0 : Nat) (h0 : Heap) (O0 : Old Z n0 h0) (a : Nat) (b : Nat) (gw0 : n0 ≤ a) (q0 : Exa Z h0 a "java/lang/String") (q1 : Fld Z h0 a "java/lang/String" "value" "[B" .null) (q2 : Fld Z h0 a "java/lang/String" "coder" "B" (.int (0 : Int32))) :
    MetH l [] Z EL n0 (⟨"java/lang/String", "<init>", "([CIILjava/lang/Void;)V"⟩ : MethodName) jdk_42_method_149_code 6 (Option.none : Option FieldType) ({ frames := 1, cells := 4, slots := 8, locals := 12 } : Room) #[(.ref a), (.ref b), (.int (0 : Int32)), (.int (0 : Int32)), .null] h0 [a] (fun r v' h' => r = none ∧ ∃ (t : Nat), ∃ (kt : ClassId), (Exa Z h' a "java/lang/String") ∧ (Fld Z h' a "java/lang/String" "coder" "B" (.int (0 : Int32))) ∧ (Fld Z h' a "java/lang/String" "value" "[B" (.ref t)) ∧ (Arv Z h' t kt .byte (0 : Int32) [] (.int (0 : Int32)))) := by
  refine metH (hEL hw) (plainFor_of_name pn_1) O0 (Ls := #[.val (.ref a), .val (.ref b), .val (.int (0 : Int32)), .val (.int (0 : Int32)), .val .null, .unset]) (fun m => by first | (simp [entryFrame, mkF, argsToLocals, Value.category]; done) | rfl) ?_
  intro p e s m below meth c T0 v0 X0 hSf
  have K0_h0 := Keep.refl h0 [a]
  have n0le := X0.n0le
  have ltq0 := own_n q0.lt
  have ltq1 := own_n q1.lt
  have ltq2 := own_n q2.lt
  have sf_0 := hSf a (List.mem_of_getElem? (i := 0) rfl)
  obtain ⟨G_cs, G_zc, G_fm, isref_fm, G_assertionsDisabled, G_HI_BYTE_SHIFT, G_LO_BYTE_SHIFT⟩ := id G
  refine k_aloadN X0 d_jdk_42_149_0 rfl rfl (pc' := 1) rfl ?_
  refine k_initO X0 d_jdk_42_149_1 (w_19 hw) (w_20 hw) (w_21 hw) rfl (by decide) (W := 0) (Nat.le_of_eq rfl) (by decide) (pc' := 4) rfl fun T105 X106 => ?_
  refine k_iloadN X106 d_jdk_42_149_4 rfl (pc' := 5) rfl ?_
  refine k_ifNo X106 d_jdk_42_149_5 (by decide) (pc' := 8) rfl ?_
  refine k_aloadN X106 d_jdk_42_149_8 rfl rfl (pc' := 9) rfl ?_
  refine k_ldcR X106 d_jdk_42_149_9 (w_119 hw) (own_wS hw) (List.mem_of_getElem? (i := 0) rfl) (vs := []) (z := (0 : Int32)) (by decide) (by decide) rfl (n := 0) (by decide) (by decide) (by decide) (by decide) (pc' := 11) rfl fun s107 bb107 kb107 v107 T107 h107 X107 K107 C107 E107 Fc107 Fv107 V107 nq107 => ?_
  have sz_h107 := K107.1
  have K0_h107 : Keep h0 h107 [a] := K0_h0.trans K107 all0
  have lt107 := own_n E107.lt
  have ltb107 := own_n V107.lt
  have c108 := (C107.safe (own_n (by omega)) sf_0)
  have na := nq107 a c108
  have na1 := own_ni na.1
  have na2 := own_ni na.2
  refine k_getF X107 d_jdk_42_149_11 (host := "") (Or.inl (w_22 hw)) Via.refl Fv107 (pc' := 14) rfl fun T109 X110 => ?_
  have c111 := (q1.keep K107 nin0)
  have c112 := (q0.keep K107)
  have ge114 : n0 ≤ a := by omega
  refine k_putF X110 d_jdk_42_149_14 (host := "") (Or.inl (w_22 hw)) Via.refl c111 c112 (Or.inr ⟨(w_23 hw), rfl, X110.hnm⟩) (w_10 hw) (ty := (.array .byte)) (by decide) rfl rfl c108 ge114 (pc' := 17) rfl fun T113 h113 L113 X113 W113 K113 => ?_
  have sz_h113 := K113.1
  have K0_h113 : Keep h0 h113 [a] := K0_h107.trans K113 (allS (Or.inl (List.mem_of_getElem? (i := 0) rfl)) all0)
  have F113 := c111.same W113
  refine k_aloadN X113 d_jdk_42_149_17 rfl rfl (pc' := 18) rfl ?_
  refine k_ldcR X113 d_jdk_42_149_18 (w_119 hw) (own_wS hw) (List.mem_of_getElem? (i := 0) rfl) (vs := []) (z := (0 : Int32)) (by decide) (by decide) rfl (n := 0) (by decide) (by decide) (by decide) (by decide) (pc' := 20) rfl fun s115 bb115 kb115 v115 T115 h115 X115 K115 C115 E115 Fc115 Fv115 V115 nq115 => ?_
  have sz_h115 := K115.1
  have K0_h115 : Keep h0 h115 [a] := K0_h113.trans K115 all0
  have lt115 := own_n E115.lt
  have ltb115 := own_n V115.lt
  have c116 := (C115.safe (own_n (by omega)) (X110.sf K113 (allS ⟨c108, ge114⟩ all0) c108))
  have nb := nq115 a c116
  have nb1 := own_ni nb.1
  have nb2 := own_ni nb.2
  refine k_getF X115 d_jdk_42_149_20 (host := "") (Or.inl (w_24 hw)) Via.refl Fc115 (pc' := 23) rfl fun T117 X118 => ?_
  have c119 := (((q2.keep K107 nin0).other W113 (Or.inr (slot_ne (Or.inr (w_25 hw)) (Or.inr (w_23 hw)) (by decide) (t := .byte) (t' := (.array .byte)) (by decide) (by decide)))).keep K115 nin0)
  have c120 := ((c112.keep K113).keep K115)
  refine k_putF X118 d_jdk_42_149_23 (host := "") (Or.inl (w_24 hw)) Via.refl c119 c120 (Or.inr ⟨(w_25 hw), rfl, X118.hnm⟩) (w_10 hw) (ty := .byte) (by decide) rfl rfl c116 ge114 (pc' := 26) rfl fun T121 h121 L121 X121 W121 K121 => ?_
  have sz_h121 := K121.1
  have K0_h121 : Keep h0 h121 [a] := K0_h115.trans K121 (allS (Or.inl (List.mem_of_getElem? (i := 0) rfl)) all0)
  have F121 := c119.same W121
  have c122 := (c120.keep K121)
  have c123 := ((F113.keep K115 nin0).other W121 (Or.inr (slot_ne (Or.inr (w_23 hw)) (Or.inr (w_25 hw)) (by decide) (t := (.array .byte)) (t' := .byte) (by decide) (by decide))))
  have ne124 : (bb107 : Nat) ≠ a := own_ne (by omega)
  have c125 := (((V107.keep K113 (ninS ne124 nin0)).keep K115 nin0).keep K121 (ninS ne124 nin0))
  exact k_retHV X121 d_jdk_42_149_26 rfl K0_h121 (fun v' C' => ⟨rfl, _, _, c122, F121, c123, c125⟩) (by decide) (by decide)
set_option maxRecDepth 65536 in
set_option maxHeartbeats 40000000 in
theorem own_initE (l : Launch) (Z : State) (a0 : Array Value) (hw : ∀ d ∈ tables_1, d.before a0 Z = true) {zc : Int32} {fm : Value}  (G : Gl Z zc fm) (n0 : Nat) (h0 : Heap) (O0 : Old Z n0 h0) (a : Nat) (b : Nat) (kb : ClassId) (vs : List Value) (dv : Value) (gw0 : n0 ≤ a) (q0 : Exa Z h0 a "java/lang/String") (q1 : Fld Z h0 a "java/lang/String" "value" "[B" .null) (q2 : Fld Z h0 a "java/lang/String" "coder" "B" (.int (0 : Int32))) (q3 : Arv Z h0 b kb .char (0 : Int32) vs dv) :
    MetH l [] Z EL n0 (⟨"java/lang/String", "<init>", "([C)V"⟩ : MethodName) jdk_42_method_3_code 2 (Option.none : Option FieldType) ({ frames := 2, cells := 4, slots := 8, locals := 29 } : Room) #[(.ref a), (.ref b)] h0 [a] (fun r v' h' => r = none ∧ ∃ (t : Nat), ∃ (kt : ClassId), (Exa Z h' a "java/lang/String") ∧ (Fld Z h' a "java/lang/String" "coder" "B" (.int (0 : Int32))) ∧ (Fld Z h' a "java/lang/String" "value" "[B" (.ref t)) ∧ (Arv Z h' t kt .byte (0 : Int32) [] (.int (0 : Int32)))) := by
  refine metH (hEL hw) (plainFor_of_name pn_1) O0 (Ls := #[.val (.ref a), .val (.ref b)]) (fun m => by first | (simp [entryFrame, mkF, argsToLocals, Value.category]; done) | rfl) ?_
  intro p e s m below meth c T0 v0 X0 hSf
  have K0_h0 := Keep.refl h0 [a]
  have n0le := X0.n0le
  have ltq0 := own_n q0.lt
  have ltq1 := own_n q1.lt
  have ltq2 := own_n q2.lt
  have ltq3 := own_n q3.lt
  have sf_0 := hSf a (List.mem_of_getElem? (i := 0) rfl)
  obtain ⟨G_cs, G_zc, G_fm, isref_fm, G_assertionsDisabled, G_HI_BYTE_SHIFT, G_LO_BYTE_SHIFT⟩ := id G
  refine k_aloadN X0 d_jdk_42_3_0 rfl rfl (pc' := 1) rfl ?_
  refine k_aloadN X0 d_jdk_42_3_1 rfl rfl (pc' := 2) rfl ?_
  refine k_iconst X0 d_jdk_42_3_2 (w := (0 : Int32)) rfl (pc' := 3) rfl ?_
  refine k_aloadN X0 d_jdk_42_3_3 rfl rfl (pc' := 4) rfl ?_
  refine k_arlen X0 d_jdk_42_3_4 q3 (pc' := 5) rfl ?_
  refine k_aconstNull X0 d_jdk_42_3_5 (pc' := 6) rfl ?_
  have ge126 : n0 ≤ a := by omega
  refine k_callPNH X0 (y := (⟨"java/lang/String", "<init>", "([CIILjava/lang/Void;)V"⟩ : MethodName)) d_jdk_42_3_6 (w_97 hw) (w_98 hw) (w_2 hw) (w_99 hw) (by decide) rfl rfl (argsL := [(.ref b), (.int (0 : Int32)), (.int (0 : Int32)), .null]) (rest := []) (own_init4E l Z a0 hw G n0 h0 X0.old a b ge126 q0 q1 q2) rfl pd_7 rfl rfl (by decide) (W := 0) (Nat.le_of_eq rfl) (by decide) (by decide) (by decide) (allS ⟨⟨own_n (by omega), sf_0⟩, ge126⟩ all0) (pc' := 9) rfl ?_
  rintro v129 T129 h129 L129 X129 K129 C129 ⟨t_127, kt_128, q129_0, q129_1, q129_2, q129_3⟩
  have sz_h129 := K129.1
  have K0_h129 : Keep h0 h129 [a] := K0_h0.trans K129 (allS (Or.inl (List.mem_of_getElem? (i := 0) rfl)) all0)
  have lt129_0 := own_n q129_0.lt
  have lt129_1 := own_n q129_1.lt
  have lt129_2 := own_n q129_2.lt
  have lt129_3 := own_n q129_3.lt
  exact k_retHV X129 d_jdk_42_3_9 rfl K0_h129 (fun v' C' => ⟨rfl, _, _, q129_0, q129_1, q129_2, q129_3⟩) (by decide) (by decide)
set_option maxRecDepth 65536 in
set_option maxHeartbeats 40000000 in
theorem own_coder (l : Launch) (Z : State) (a0 : Array Value) (hw : ∀ d ∈ tables_1, d.before a0 Z = true) {zc : Int32} {fm : Value}  (G : Gl Z zc fm) (n0 : Nat) (h0 : Heap) (O0 : Old Z n0 h0) (a : Nat) (cd : Int32) (hcd : cd = 0 ∨ cd = 1)  (q0 : Fld Z h0 a "java/lang/String" "coder" "B" (.int cd)) :
    MetF l [] Z n0 (⟨"java/lang/String", "coder", "()B"⟩ : MethodName) jdk_42_method_152_code 1 (Option.some FieldType.byte) ({ frames := 0, cells := 0, slots := 0, locals := 0 } : Room) #[(.ref a)] h0 [] (fun r h' => ∃ w, r = some w ∧ w = (.int cd) ∧ True) := by
  refine metF (plainFor_of_name pn_1) O0 (Ls := #[.val (.ref a)]) (fun m => by first | (simp [entryFrame, mkF, argsToLocals, Value.category]; done) | rfl) ?_
  intro p e s m below meth c T0 X0
  have K0_h0 := Keep.refl h0 []
  have n0le := X0.n0le
  have ltq0 := own_n q0.lt
  obtain ⟨G_cs, G_zc, G_fm, isref_fm, G_assertionsDisabled, G_HI_BYTE_SHIFT, G_LO_BYTE_SHIFT⟩ := id G
  refine k_getS X0 d_jdk_42_152_0 (host := "") (Or.inl (w_4 hw)) Via.refl (G_cs.ext X0.old.2) (pc' := 3) rfl fun T130 X131 => ?_
  refine k_ifNo X131 d_jdk_42_152_3 ((if0 _ _).trans (feq G_zc).1) (pc' := 6) rfl ?_
  refine k_aloadN X131 d_jdk_42_152_6 rfl rfl (pc' := 7) rfl ?_
  refine k_getF X131 d_jdk_42_152_7 (host := "") (Or.inl (w_24 hw)) Via.refl q0 (pc' := 10) rfl fun T132 X133 => ?_
  refine k_goto X133 d_jdk_42_152_10 (pc' := 14) (by decide) (by decide) ?_
  exact k_retFN X133 (w := cd) d_jdk_42_152_14 (t := .byte) rfl (by simp) (own_nar01 hcd) K0_h0 ⟨_, rfl, rfl, trivial⟩ (by decide) (by decide)
set_option maxRecDepth 65536 in
set_option maxHeartbeats 40000000 in
theorem own_isLat0 (l : Launch) (Z : State) (a0 : Array Value) (hw : ∀ d ∈ tables_1, d.before a0 Z = true) {zc : Int32} {fm : Value}  (G : Gl Z zc fm) (n0 : Nat) (h0 : Heap) (O0 : Old Z n0 h0) (a : Nat)  (q0 : Fld Z h0 a "java/lang/String" "coder" "B" (.int (0 : Int32))) :
    MetF l [] Z n0 (⟨"java/lang/String", "isLatin1", "()Z"⟩ : MethodName) jdk_42_method_154_code 1 (Option.some FieldType.boolean) ({ frames := 0, cells := 0, slots := 0, locals := 0 } : Room) #[(.ref a)] h0 [] (fun r h' => ∃ w, r = some w ∧ w = (.int (1 : Int32)) ∧ True) := by
  refine metF (plainFor_of_name pn_1) O0 (Ls := #[.val (.ref a)]) (fun m => by first | (simp [entryFrame, mkF, argsToLocals, Value.category]; done) | rfl) ?_
  intro p e s m below meth c T0 X0
  have K0_h0 := Keep.refl h0 []
  have n0le := X0.n0le
  have ltq0 := own_n q0.lt
  obtain ⟨G_cs, G_zc, G_fm, isref_fm, G_assertionsDisabled, G_HI_BYTE_SHIFT, G_LO_BYTE_SHIFT⟩ := id G
  refine k_getS X0 d_jdk_42_154_0 (host := "") (Or.inl (w_4 hw)) Via.refl (G_cs.ext X0.old.2) (pc' := 3) rfl fun T134 X135 => ?_
  refine k_ifNo X135 d_jdk_42_154_3 ((if0 _ _).trans (feq G_zc).1) (pc' := 6) rfl ?_
  refine k_aloadN X135 d_jdk_42_154_6 rfl rfl (pc' := 7) rfl ?_
  refine k_getF X135 d_jdk_42_154_7 (host := "") (Or.inl (w_24 hw)) Via.refl q0 (pc' := 10) rfl fun T136 X137 => ?_
  refine k_ifNo X137 d_jdk_42_154_10 (by decide) (pc' := 13) rfl ?_
  refine k_iconst X137 d_jdk_42_154_13 (w := (1 : Int32)) rfl (pc' := 14) rfl ?_
  refine k_goto X137 d_jdk_42_154_14 (pc' := 18) (by decide) (by decide) ?_
  exact k_retFN X137 (w := (1 : Int32)) d_jdk_42_154_18 (t := .boolean) rfl (by simp) rfl K0_h0 ⟨_, rfl, rfl, trivial⟩ (by decide) (by decide)
set_option maxRecDepth 65536 in
set_option maxHeartbeats 40000000 in
theorem own_isLat1 (l : Launch) (Z : State) (a0 : Array Value) (hw : ∀ d ∈ tables_1, d.before a0 Z = true) {zc : Int32} {fm : Value}  (G : Gl Z zc fm) (n0 : Nat) (h0 : Heap) (O0 : Old Z n0 h0) (a : Nat)  (q0 : Fld Z h0 a "java/lang/String" "coder" "B" (.int (1 : Int32))) :
    MetF l [] Z n0 (⟨"java/lang/String", "isLatin1", "()Z"⟩ : MethodName) jdk_42_method_154_code 1 (Option.some FieldType.boolean) ({ frames := 0, cells := 0, slots := 0, locals := 0 } : Room) #[(.ref a)] h0 [] (fun r h' => ∃ w, r = some w ∧ w = (.int (0 : Int32)) ∧ True) := by
  refine metF (plainFor_of_name pn_1) O0 (Ls := #[.val (.ref a)]) (fun m => by first | (simp [entryFrame, mkF, argsToLocals, Value.category]; done) | rfl) ?_
  intro p e s m below meth c T0 X0
  have K0_h0 := Keep.refl h0 []
  have n0le := X0.n0le
  have ltq0 := own_n q0.lt
  obtain ⟨G_cs, G_zc, G_fm, isref_fm, G_assertionsDisabled, G_HI_BYTE_SHIFT, G_LO_BYTE_SHIFT⟩ := id G
  refine k_getS X0 d_jdk_42_154_0 (host := "") (Or.inl (w_4 hw)) Via.refl (G_cs.ext X0.old.2) (pc' := 3) rfl fun T138 X139 => ?_
  refine k_ifNo X139 d_jdk_42_154_3 ((if0 _ _).trans (feq G_zc).1) (pc' := 6) rfl ?_
  refine k_aloadN X139 d_jdk_42_154_6 rfl rfl (pc' := 7) rfl ?_
  refine k_getF X139 d_jdk_42_154_7 (host := "") (Or.inl (w_24 hw)) Via.refl q0 (pc' := 10) rfl fun T140 X141 => ?_
  refine k_ifYes X141 d_jdk_42_154_10 (by decide) (pc' := 17) (by decide) (by decide) ?_
  refine k_iconst X141 d_jdk_42_154_17 (w := (0 : Int32)) rfl (pc' := 18) rfl ?_
  exact k_retFN X141 (w := (0 : Int32)) d_jdk_42_154_18 (t := .boolean) rfl (by simp) rfl K0_h0 ⟨_, rfl, rfl, trivial⟩ (by decide) (by decide)
set_option maxRecDepth 65536 in
set_option maxHeartbeats 40000000 in
theorem own_len (l : Launch) (Z : State) (a0 : Array Value) (hw : ∀ d ∈ tables_1, d.before a0 Z = true) {zc : Int32} {fm : Value}  (G : Gl Z zc fm) (n0 : Nat) (h0 : Heap) (O0 : Old Z n0 h0) (a : Nat) (t : Nat) (kt : ClassId) (cd : Int32) (zz : Int32) (bs : List Value) (cs : List Int32) (hn : cs.length < 1073741824)  (q0 : Exa Z h0 a "java/lang/String") (q1 : Fld Z h0 a "java/lang/String" "value" "[B" (.ref t)) (q2 : Fld Z h0 a "java/lang/String" "coder" "B" (.int cd)) (q3 : Arv Z h0 t kt .byte zz bs (.int (0 : Int32))) (q4 : own_cod cs cd zz bs) :
    MetF l [] Z n0 (⟨"java/lang/String", "length", "()I"⟩ : MethodName) jdk_42_method_54_code 1 (Option.some FieldType.int) ({ frames := 1, cells := 0, slots := 0, locals := 13 } : Room) #[(.ref a)] h0 [] (fun r h' => ∃ w, r = some w ∧ w = (.int (Int32.ofNat cs.length)) ∧ True) := by
  refine metF (plainFor_of_name pn_1) O0 (Ls := #[.val (.ref a)]) (fun m => by first | (simp [entryFrame, mkF, argsToLocals, Value.category]; done) | rfl) ?_
  intro p e s m below meth c T0 X0
  have K0_h0 := Keep.refl h0 []
  have n0le := X0.n0le
  have ltq0 := own_n q0.lt
  have ltq1 := own_n q1.lt
  have ltq2 := own_n q2.lt
  have ltq3 := own_n q3.lt
  obtain ⟨G_cs, G_zc, G_fm, isref_fm, G_assertionsDisabled, G_HI_BYTE_SHIFT, G_LO_BYTE_SHIFT⟩ := id G
  refine k_aloadN X0 d_jdk_42_54_0 rfl rfl (pc' := 1) rfl ?_
  refine k_getF X0 d_jdk_42_54_1 (host := "") (Or.inl (w_22 hw)) Via.refl q1 (pc' := 4) rfl fun T142 X143 => ?_
  refine k_arlen X143 d_jdk_42_54_4 q3 (pc' := 5) rfl ?_
  refine k_aloadN X143 d_jdk_42_54_5 rfl rfl (pc' := 6) rfl ?_
  refine k_callVVF X143 (y := (⟨"java/lang/String", "coder", "()B"⟩ : MethodName)) d_jdk_42_54_6 (w_50 hw) (w_51 hw) (w_53 hw) (w_52 hw) (w_2 hw) (w_54 hw) (by decide) (notFace_of_selects (args := #[]) (mvT X143.hZ (w_53 hw))) q0 (argsL := []) (rest := [(.int zz)]) (own_coder l Z a0 hw G n0 h0 X143.old a cd (own_cod_cd q4) q2) rfl pd_8 rfl rfl (by decide) (W := 1) (Nat.le_of_eq rfl) (by decide) (by decide) (by decide) all0 (pc' := 9) rfl ?_
  rintro _ T144 h144 L144 X144 K144 ⟨rfl, -⟩
  have sz_h144 := K144.1
  have K0_h144 : Keep h0 h144 [] := K0_h0.trans K144 all0
  refine k_ishr X144 d_jdk_42_54_9 (w := (Int32.ofNat cs.length)) (own_cod_len q4 hn) (pc' := 10) rfl ?_
  exact k_retFI X144 d_jdk_42_54_10 rfl K0_h144 ⟨_, rfl, rfl, trivial⟩ (by decide) (by decide)
set_option maxRecDepth 65536 in
set_option maxHeartbeats 40000000 in
theorem own_pci (l : Launch) (Z : State) (a0 : Array Value) (hw : ∀ d ∈ tables_1, d.before a0 Z = true) {zc : Int32} {fm : Value}  (G : Gl Z zc fm) (n0 : Nat) (h0 : Heap) (O0 : Old Z n0 h0) (i : Int32) (n : Int32) (f : Value) (hf : f.isRef = true) (hi0 : ¬ i < 0) (hi1 : i < n)   :
    MetF l [] Z n0 (⟨"jdk/internal/util/Preconditions", "checkIndex", "(IILjava/util/function/BiFunction;)I"⟩ : MethodName) jdk_41_method_11_code 3 (Option.some FieldType.int) ({ frames := 0, cells := 0, slots := 0, locals := 0 } : Room) #[(.int i), (.int n), f] h0 [] (fun r h' => ∃ w, r = some w ∧ w = (.int i) ∧ True) := by
  rcases ref_cases hf with rfl | ⟨z, rfl⟩
  · refine metF (plainFor_of_name pn_2) O0 (Ls := #[.val (.int i), .val (.int n), .val .null]) (fun m => by first | (simp [entryFrame, mkF, argsToLocals, Value.category]; done) | rfl) ?_
    intro p e s m below meth c T0 X0
    have K0_h0 := Keep.refl h0 []
    have n0le := X0.n0le
    obtain ⟨G_cs, G_zc, G_fm, isref_fm, G_assertionsDisabled, G_HI_BYTE_SHIFT, G_LO_BYTE_SHIFT⟩ := id G
    refine k_iloadN X0 d_jdk_41_11_0 rfl (pc' := 1) rfl ?_
    refine k_ifNo X0 d_jdk_41_11_1 ((if0 _ _).trans (flt hi0).1) (pc' := 4) rfl ?_
    refine k_iloadN X0 d_jdk_41_11_4 rfl (pc' := 5) rfl ?_
    refine k_iloadN X0 d_jdk_41_11_5 rfl (pc' := 6) rfl ?_
    refine k_icmpYes X0 d_jdk_41_11_6 (tlt hi1).1 (pc' := 16) (by decide) (by decide) ?_
    refine k_iloadN X0 d_jdk_41_11_16 rfl (pc' := 17) rfl ?_
    exact k_retFI X0 d_jdk_41_11_17 rfl K0_h0 ⟨_, rfl, rfl, trivial⟩ (by decide) (by decide)
  · refine metF (plainFor_of_name pn_2) O0 (Ls := #[.val (.int i), .val (.int n), .val (.ref z)]) (fun m => by first | (simp [entryFrame, mkF, argsToLocals, Value.category]; done) | rfl) ?_
    intro p e s m below meth c T0 X0
    have K0_h0 := Keep.refl h0 []
    have n0le := X0.n0le
    obtain ⟨G_cs, G_zc, G_fm, isref_fm, G_assertionsDisabled, G_HI_BYTE_SHIFT, G_LO_BYTE_SHIFT⟩ := id G
    refine k_iloadN X0 d_jdk_41_11_0 rfl (pc' := 1) rfl ?_
    refine k_ifNo X0 d_jdk_41_11_1 ((if0 _ _).trans (flt hi0).1) (pc' := 4) rfl ?_
    refine k_iloadN X0 d_jdk_41_11_4 rfl (pc' := 5) rfl ?_
    refine k_iloadN X0 d_jdk_41_11_5 rfl (pc' := 6) rfl ?_
    refine k_icmpYes X0 d_jdk_41_11_6 (tlt hi1).1 (pc' := 16) (by decide) (by decide) ?_
    refine k_iloadN X0 d_jdk_41_11_16 rfl (pc' := 17) rfl ?_
    exact k_retFI X0 d_jdk_41_11_17 rfl K0_h0 ⟨_, rfl, rfl, trivial⟩ (by decide) (by decide)
set_option maxRecDepth 65536 in
set_option maxHeartbeats 40000000 in
theorem own_sci (l : Launch) (Z : State) (a0 : Array Value) (hw : ∀ d ∈ tables_1, d.before a0 Z = true) {zc : Int32} {fm : Value}  (G : Gl Z zc fm) (n0 : Nat) (h0 : Heap) (O0 : Old Z n0 h0) (i : Int32) (n : Int32) (hi0 : ¬ i < 0) (hi1 : i < n)   :
    MetF l [] Z n0 (⟨"java/lang/String", "checkIndex", "(II)V"⟩ : MethodName) jdk_42_method_155_code 2 (Option.none : Option FieldType) ({ frames := 1, cells := 0, slots := 0, locals := 14 } : Room) #[(.int i), (.int n)] h0 [] (fun r h' => r = none ∧ True) := by
  refine metF (plainFor_of_name pn_1) O0 (Ls := #[.val (.int i), .val (.int n)]) (fun m => by first | (simp [entryFrame, mkF, argsToLocals, Value.category]; done) | rfl) ?_
  intro p e s m below meth c T0 X0
  have K0_h0 := Keep.refl h0 []
  have n0le := X0.n0le
  obtain ⟨G_cs, G_zc, G_fm, isref_fm, G_assertionsDisabled, G_HI_BYTE_SHIFT, G_LO_BYTE_SHIFT⟩ := id G
  refine k_iloadN X0 d_jdk_42_155_0 rfl (pc' := 1) rfl ?_
  refine k_iloadN X0 d_jdk_42_155_1 rfl (pc' := 2) rfl ?_
  refine k_getS X0 d_jdk_42_155_2 (host := "") (Or.inl (w_71 hw)) Via.refl (G_fm.ext X0.old.2) (pc' := 5) rfl fun T146 X147 => ?_
  refine k_callSVF X147 (y := (⟨"jdk/internal/util/Preconditions", "checkIndex", "(IILjava/util/function/BiFunction;)I"⟩ : MethodName)) d_jdk_42_155_5 (w_73 hw) (w_74 hw) (w_72 hw) (w_75 hw) (by decide) (argsL := [(.int i), (.int n), fm]) (rest := []) (own_pci l Z a0 hw G n0 h0 X147.old i n fm isref_fm hi0 hi1 ) rfl pd_9 rfl rfl (by decide) (W := 0) (Nat.le_of_eq rfl) (by decide) (by decide) (by decide) all0 (pc' := 8) rfl ?_
  rintro _ T148 h148 L148 X148 K148 ⟨rfl, -⟩
  have sz_h148 := K148.1
  have K0_h148 : Keep h0 h148 [] := K0_h0.trans K148 all0
  refine k_pop X148 d_jdk_42_155_8 rfl (pc' := 9) rfl ?_
  exact k_retFV X148 d_jdk_42_155_9 rfl K0_h148 ⟨rfl, trivial⟩ (by decide) (by decide)
set_option maxRecDepth 65536 in
set_option maxHeartbeats 40000000 in
theorem own_lcharAt (l : Launch) (Z : State) (a0 : Array Value) (hw : ∀ d ∈ tables_1, d.before a0 Z = true) {zc : Int32} {fm : Value}  (G : Gl Z zc fm) (n0 : Nat) (h0 : Heap) (O0 : Old Z n0 h0) (d : Nat) (kd : ClassId) (zz : Int32) (cs : List Int32) (i : Nat) (iv : Int32) (hiv : iv = Int32.ofNat i) (hi : i < cs.length) (hzz : zz = Int32.ofNat cs.length) (hb0 : cs.length < 2147483648) (hr : ¬ cs.getD i 0 < 0 ∧ ¬ 255 < cs.getD i 0)  (q0 : Arv Z h0 d kd .byte zz (own_lat cs) (.int (0 : Int32))) :
    MetF l [] Z n0 (⟨"java/lang/StringLatin1", "charAt", "([BI)C"⟩ : MethodName) jdk_43_method_2_code 2 (Option.some FieldType.char) ({ frames := 2, cells := 0, slots := 0, locals := 27 } : Room) #[(.ref d), (.int iv)] h0 [] (fun r h' => ∃ w, r = some w ∧ w = (.int (cs.getD i 0)) ∧ True) := by
  subst hiv
  refine metF (plainFor_of_name pn_3) O0 (Ls := #[.val (.ref d), .val (.int (Int32.ofNat i))]) (fun m => by first | (simp [entryFrame, mkF, argsToLocals, Value.category]; done) | rfl) ?_
  intro p e s m below meth c T0 X0
  have K0_h0 := Keep.refl h0 []
  have n0le := X0.n0le
  have ltq0 := own_n q0.lt
  obtain ⟨G_cs, G_zc, G_fm, isref_fm, G_assertionsDisabled, G_HI_BYTE_SHIFT, G_LO_BYTE_SHIFT⟩ := id G
  have l1 := own_lt hi hb0
  rw [← hzz] at l1
  refine k_iloadN X0 d_jdk_43_2_0 rfl (pc' := 1) rfl ?_
  refine k_aloadN X0 d_jdk_43_2_1 rfl rfl (pc' := 2) rfl ?_
  refine k_arlen X0 d_jdk_43_2_2 q0 (pc' := 3) rfl ?_
  refine k_callSNF X0 (y := (⟨"java/lang/String", "checkIndex", "(II)V"⟩ : MethodName)) d_jdk_43_2_3 (w_68 hw) (w_69 hw) (w_2 hw) (w_70 hw) (by decide) (argsL := [(.int (Int32.ofNat i)), (.int zz)]) (rest := []) (own_sci l Z a0 hw G n0 h0 X0.old (Int32.ofNat i) zz (own_nn (by omega)) l1 ) rfl pd_10 rfl rfl (by decide) (W := 0) (Nat.le_of_eq rfl) (by decide) (by decide) (by decide) all0 (pc' := 6) rfl ?_
  rintro T150 h150 L150 X150 K150 -
  have sz_h150 := K150.1
  have K0_h150 : Keep h0 h150 [] := K0_h0.trans K150 all0
  refine k_aloadN X150 d_jdk_43_2_6 rfl rfl (pc' := 7) rfl ?_
  refine k_iloadN X150 d_jdk_43_2_7 rfl (pc' := 8) rfl ?_
  have c151 := (q0.keep K150 nin0)
  refine k_baload X150 d_jdk_43_2_8 c151 (own_nn (by omega)) l1 (v := (.int ((cs.getD i 0).toInt8.toInt32))) (own_latget cs hi (by omega)) (pc' := 9) rfl ?_
  refine k_sipush X150 d_jdk_43_2_9 (w := (255 : Int32)) rfl (pc' := 12) rfl ?_
  refine k_iand X150 d_jdk_43_2_12 (w := (((cs.getD i 0).toInt8.toInt32) &&& (255 : Int32))) rfl (pc' := 13) rfl ?_
  refine k_i2c X150 d_jdk_43_2_13 (w := (cs.getD i 0)) (own_back8 hr.1 hr.2) (pc' := 14) rfl ?_
  exact k_retFN X150 (w := (cs.getD i 0)) d_jdk_43_2_14 (t := .char) rfl (by simp) (own_i2c_id hr.1 (own_255 hr.2)) K0_h150 ⟨_, rfl, rfl, trivial⟩ (by decide) (by decide)
set_option maxRecDepth 65536 in
set_option maxHeartbeats 40000000 in
theorem own_ulen (l : Launch) (Z : State) (a0 : Array Value) (hw : ∀ d ∈ tables_1, d.before a0 Z = true) {zc : Int32} {fm : Value}  (G : Gl Z zc fm) (n0 : Nat) (h0 : Heap) (O0 : Old Z n0 h0) (d : Nat) (kd : ClassId) (n : Nat) (bs : List Value) (dv : Value) (hn : n < 1073741824)  (q0 : Arv Z h0 d kd .byte (Int32.ofNat (2 * n)) bs dv) :
    MetF l [] Z n0 (⟨"java/lang/StringUTF16", "length", "([B)I"⟩ : MethodName) jdk_52_method_6_code 1 (Option.some FieldType.int) ({ frames := 0, cells := 0, slots := 0, locals := 0 } : Room) #[(.ref d)] h0 [] (fun r h' => ∃ w, r = some w ∧ w = (.int (Int32.ofNat n)) ∧ True) := by
  refine metF (plainFor_of_name pn_0) O0 (Ls := #[.val (.ref d)]) (fun m => by first | (simp [entryFrame, mkF, argsToLocals, Value.category]; done) | rfl) ?_
  intro p e s m below meth c T0 X0
  have K0_h0 := Keep.refl h0 []
  have n0le := X0.n0le
  have ltq0 := own_n q0.lt
  obtain ⟨G_cs, G_zc, G_fm, isref_fm, G_assertionsDisabled, G_HI_BYTE_SHIFT, G_LO_BYTE_SHIFT⟩ := id G
  refine k_aloadN X0 d_jdk_52_6_0 rfl rfl (pc' := 1) rfl ?_
  refine k_arlen X0 d_jdk_52_6_1 q0 (pc' := 2) rfl ?_
  refine k_iconst X0 d_jdk_52_6_2 (w := (1 : Int32)) rfl (pc' := 3) rfl ?_
  refine k_ishr X0 d_jdk_52_6_3 (w := (Int32.ofNat n)) (own_shr1 hn) (pc' := 4) rfl ?_
  exact k_retFI X0 d_jdk_52_6_4 rfl K0_h0 ⟨_, rfl, rfl, trivial⟩ (by decide) (by decide)
set_option maxRecDepth 65536 in
set_option maxHeartbeats 40000000 in
theorem own_uci (l : Launch) (Z : State) (a0 : Array Value) (hw : ∀ d ∈ tables_1, d.before a0 Z = true) {zc : Int32} {fm : Value}  (G : Gl Z zc fm) (n0 : Nat) (h0 : Heap) (O0 : Old Z n0 h0) (iv : Int32) (d : Nat) (kd : ClassId) (n : Nat) (bs : List Value) (dv : Value) (hn : n < 1073741824) (hi0 : ¬ iv < 0) (hi1 : iv < Int32.ofNat n)  (q0 : Arv Z h0 d kd .byte (Int32.ofNat (2 * n)) bs dv) :
    MetF l [] Z n0 (⟨"java/lang/StringUTF16", "checkIndex", "(I[B)V"⟩ : MethodName) jdk_52_method_91_code 2 (Option.none : Option FieldType) ({ frames := 2, cells := 0, slots := 0, locals := 27 } : Room) #[(.int iv), (.ref d)] h0 [] (fun r h' => r = none ∧ True) := by
  refine metF (plainFor_of_name pn_0) O0 (Ls := #[.val (.int iv), .val (.ref d)]) (fun m => by first | (simp [entryFrame, mkF, argsToLocals, Value.category]; done) | rfl) ?_
  intro p e s m below meth c T0 X0
  have K0_h0 := Keep.refl h0 []
  have n0le := X0.n0le
  have ltq0 := own_n q0.lt
  obtain ⟨G_cs, G_zc, G_fm, isref_fm, G_assertionsDisabled, G_HI_BYTE_SHIFT, G_LO_BYTE_SHIFT⟩ := id G
  refine k_iloadN X0 d_jdk_52_91_0 rfl (pc' := 1) rfl ?_
  refine k_aloadN X0 d_jdk_52_91_1 rfl rfl (pc' := 2) rfl ?_
  refine k_callSVF X0 (y := (⟨"java/lang/StringUTF16", "length", "([B)I"⟩ : MethodName)) d_jdk_52_91_2 (w_128 hw) (w_129 hw) (w_102 hw) (w_130 hw) (by decide) (argsL := [(.ref d)]) (rest := [(.int iv)]) (own_ulen l Z a0 hw G n0 h0 X0.old d kd n bs dv hn q0) rfl pd_11 rfl rfl (by decide) (W := 1) (Nat.le_of_eq rfl) (by decide) (by decide) (by decide) all0 (pc' := 5) rfl ?_
  rintro _ T152 h152 L152 X152 K152 ⟨rfl, -⟩
  have sz_h152 := K152.1
  have K0_h152 : Keep h0 h152 [] := K0_h0.trans K152 all0
  refine k_callSNF X152 (y := (⟨"java/lang/String", "checkIndex", "(II)V"⟩ : MethodName)) d_jdk_52_91_5 (w_131 hw) (w_69 hw) (w_2 hw) (w_70 hw) (by decide) (argsL := [(.int iv), (.int (Int32.ofNat n))]) (rest := []) (own_sci l Z a0 hw G n0 h152 X152.old iv (Int32.ofNat n) hi0 hi1 ) rfl pd_10 rfl rfl (by decide) (W := 0) (Nat.le_of_eq rfl) (by decide) (by decide) (by decide) all0 (pc' := 8) rfl ?_
  rintro T154 h154 L154 X154 K154 -
  have sz_h154 := K154.1
  have K0_h154 : Keep h0 h154 [] := K0_h152.trans K154 all0
  exact k_retFV X154 d_jdk_52_91_8 rfl K0_h154 ⟨rfl, trivial⟩ (by decide) (by decide)
set_option maxRecDepth 65536 in
set_option maxHeartbeats 40000000 in
theorem own_ucharAt (l : Launch) (Z : State) (a0 : Array Value) (hw : ∀ d ∈ tables_1, d.before a0 Z = true) {zc : Int32} {fm : Value}  (G : Gl Z zc fm) (n0 : Nat) (h0 : Heap) (O0 : Old Z n0 h0) (d : Nat) (kd : ClassId) (cs : List Int32) (i : Nat) (iv : Int32) (hiv : iv = Int32.ofNat i) (hi : i < cs.length) (hb0 : 2 * cs.length < 2147483648) (hr : ¬ cs.getD i 0 < 0 ∧ ¬ 65535 < cs.getD i 0)  (q0 : Arv Z h0 d kd .byte (Int32.ofNat (2 * cs.length)) (own_u16 cs) (.int (0 : Int32))) :
    MetF l [] Z n0 (⟨"java/lang/StringUTF16", "charAt", "([BI)C"⟩ : MethodName) jdk_52_method_83_code 2 (Option.some FieldType.char) ({ frames := 3, cells := 0, slots := 0, locals := 40 } : Room) #[(.ref d), (.int iv)] h0 [] (fun r h' => ∃ w, r = some w ∧ w = (.int (cs.getD i 0)) ∧ True) := by
  subst hiv
  refine metF (plainFor_of_name pn_0) O0 (Ls := #[.val (.ref d), .val (.int (Int32.ofNat i))]) (fun m => by first | (simp [entryFrame, mkF, argsToLocals, Value.category]; done) | rfl) ?_
  intro p e s m below meth c T0 X0
  have K0_h0 := Keep.refl h0 []
  have n0le := X0.n0le
  have ltq0 := own_n q0.lt
  obtain ⟨G_cs, G_zc, G_fm, isref_fm, G_assertionsDisabled, G_HI_BYTE_SHIFT, G_LO_BYTE_SHIFT⟩ := id G
  have l1 := own_lt hi (by omega)
  refine k_iloadN X0 d_jdk_52_83_0 rfl (pc' := 1) rfl ?_
  refine k_aloadN X0 d_jdk_52_83_1 rfl rfl (pc' := 2) rfl ?_
  refine k_callSNF X0 (y := (⟨"java/lang/StringUTF16", "checkIndex", "(I[B)V"⟩ : MethodName)) d_jdk_52_83_2 (w_125 hw) (w_126 hw) (w_102 hw) (w_127 hw) (by decide) (argsL := [(.int (Int32.ofNat i)), (.ref d)]) (rest := []) (own_uci l Z a0 hw G n0 h0 X0.old (Int32.ofNat i) d kd (cs.length) (own_u16 cs) (.int (0 : Int32)) (by omega) (own_nn (by omega)) l1 q0) rfl pd_12 rfl rfl (by decide) (W := 0) (Nat.le_of_eq rfl) (by decide) (by decide) (by decide) all0 (pc' := 5) rfl ?_
  rintro T155 h155 L155 X155 K155 -
  have sz_h155 := K155.1
  have K0_h155 : Keep h0 h155 [] := K0_h0.trans K155 all0
  refine k_aloadN X155 d_jdk_52_83_5 rfl rfl (pc' := 6) rfl ?_
  refine k_iloadN X155 d_jdk_52_83_6 rfl (pc' := 7) rfl ?_
  have c156 := (q0.keep K155 nin0)
  refine k_callSVF X155 (y := (⟨"java/lang/StringUTF16", "getChar", "([BI)C"⟩ : MethodName)) d_jdk_52_83_7 (w_132 hw) (w_133 hw) (w_102 hw) (w_134 hw) (by decide) (argsL := [(.ref d), (.int (Int32.ofNat i))]) (rest := []) (own_getC l Z a0 hw G n0 h155 X155.old d kd (Int32.ofNat (2 * cs.length)) cs i (Int32.ofNat i) rfl hi rfl hb0 hr c156) rfl pd_6 rfl rfl (by decide) (W := 0) (Nat.le_of_eq rfl) (by decide) (by decide) (by decide) all0 (pc' := 10) rfl ?_
  rintro _ T157 h157 L157 X157 K157 ⟨rfl, -⟩
  have sz_h157 := K157.1
  have K0_h157 : Keep h0 h157 [] := K0_h155.trans K157 all0
  exact k_retFN X157 (w := (cs.getD i 0)) d_jdk_52_83_10 (t := .char) rfl (by simp) (own_i2c_id hr.1 hr.2) K0_h157 ⟨_, rfl, rfl, trivial⟩ (by decide) (by decide)
set_option maxRecDepth 65536 in
set_option maxHeartbeats 40000000 in
theorem own_charAt (l : Launch) (Z : State) (a0 : Array Value) (hw : ∀ d ∈ tables_1, d.before a0 Z = true) {zc : Int32} {fm : Value}  (G : Gl Z zc fm) (n0 : Nat) (h0 : Heap) (O0 : Old Z n0 h0) (a : Nat) (t : Nat) (kt : ClassId) (cd : Int32) (zz : Int32) (bs : List Value) (cs : List Int32) (i : Nat) (iv : Int32) (hiv : iv = Int32.ofNat i) (hi : i < cs.length) (hn : cs.length < 1073741823) (hr : ¬ cs.getD i 0 < 0 ∧ ¬ 65535 < cs.getD i 0)  (q0 : Exa Z h0 a "java/lang/String") (q1 : Fld Z h0 a "java/lang/String" "value" "[B" (.ref t)) (q2 : Fld Z h0 a "java/lang/String" "coder" "B" (.int cd)) (q3 : Arv Z h0 t kt .byte zz bs (.int (0 : Int32))) (q4 : own_cod cs cd zz bs) :
    MetF l [] Z n0 (⟨"java/lang/String", "charAt", "(I)C"⟩ : MethodName) jdk_42_method_56_code 2 (Option.some FieldType.char) ({ frames := 4, cells := 0, slots := 0, locals := 53 } : Room) #[(.ref a), (.int iv)] h0 [] (fun r h' => ∃ w, r = some w ∧ w = (.int (cs.getD i 0)) ∧ True) := by
  subst hiv
  rcases q4 with ⟨hf, rfl, rfl, rfl⟩ | ⟨hf, rfl, rfl, rfl⟩
  · refine metF (plainFor_of_name pn_1) O0 (Ls := #[.val (.ref a), .val (.int (Int32.ofNat i))]) (fun m => by first | (simp [entryFrame, mkF, argsToLocals, Value.category]; done) | rfl) ?_
    intro p e s m below meth c T0 X0
    have K0_h0 := Keep.refl h0 []
    have n0le := X0.n0le
    have ltq0 := own_n q0.lt
    have ltq1 := own_n q1.lt
    have ltq2 := own_n q2.lt
    have ltq3 := own_n q3.lt
    obtain ⟨G_cs, G_zc, G_fm, isref_fm, G_assertionsDisabled, G_HI_BYTE_SHIFT, G_LO_BYTE_SHIFT⟩ := id G
    have hr2 : ¬ cs.getD i 0 < 0 ∧ ¬ 255 < cs.getD i 0 := ⟨hr.1, own_lat_rng hf hi⟩
    refine k_aloadN X0 d_jdk_42_56_0 rfl rfl (pc' := 1) rfl ?_
    refine k_callVVF X0 (y := (⟨"java/lang/String", "isLatin1", "()Z"⟩ : MethodName)) d_jdk_42_56_1 (w_60 hw) (w_61 hw) (w_63 hw) (w_62 hw) (w_2 hw) (w_64 hw) (by decide) (notFace_of_selects (args := #[]) (mvT X0.hZ (w_63 hw))) q0 (argsL := []) (rest := []) (own_isLat0 l Z a0 hw G n0 h0 X0.old a q2) rfl pd_13 rfl rfl (by decide) (W := 0) (Nat.le_of_eq rfl) (by decide) (by decide) (by decide) all0 (pc' := 4) rfl ?_
    rintro _ T159 h159 L159 X159 K159 ⟨rfl, -⟩
    have sz_h159 := K159.1
    have K0_h159 : Keep h0 h159 [] := K0_h0.trans K159 all0
    refine k_ifNo X159 d_jdk_42_56_4 (by decide) (pc' := 7) rfl ?_
    refine k_aloadN X159 d_jdk_42_56_7 rfl rfl (pc' := 8) rfl ?_
    have c161 := (q1.keep K159 nin0)
    refine k_getF X159 d_jdk_42_56_8 (host := "") (Or.inl (w_22 hw)) Via.refl c161 (pc' := 11) rfl fun T162 X163 => ?_
    refine k_iloadN X163 d_jdk_42_56_11 rfl (pc' := 12) rfl ?_
    have c164 := (q3.keep K159 nin0)
    refine k_callSVF X163 (y := (⟨"java/lang/StringLatin1", "charAt", "([BI)C"⟩ : MethodName)) d_jdk_42_56_12 (w_65 hw) (w_66 hw) (w_7 hw) (w_67 hw) (by decide) (argsL := [(.ref t), (.int (Int32.ofNat i))]) (rest := []) (own_lcharAt l Z a0 hw G n0 h159 X163.old t kt (Int32.ofNat cs.length) cs i (Int32.ofNat i) rfl hi rfl (by omega) hr2 c164) rfl pd_6 rfl rfl (by decide) (W := 0) (Nat.le_of_eq rfl) (by decide) (by decide) (by decide) all0 (pc' := 15) rfl ?_
    rintro _ T165 h165 L165 X165 K165 ⟨rfl, -⟩
    have sz_h165 := K165.1
    have K0_h165 : Keep h0 h165 [] := K0_h159.trans K165 all0
    exact k_retFN X165 (w := (cs.getD i 0)) d_jdk_42_56_15 (t := .char) rfl (by simp) (own_i2c_id hr.1 hr.2) K0_h165 ⟨_, rfl, rfl, trivial⟩ (by decide) (by decide)
  · refine metF (plainFor_of_name pn_1) O0 (Ls := #[.val (.ref a), .val (.int (Int32.ofNat i))]) (fun m => by first | (simp [entryFrame, mkF, argsToLocals, Value.category]; done) | rfl) ?_
    intro p e s m below meth c T0 X0
    have K0_h0 := Keep.refl h0 []
    have n0le := X0.n0le
    have ltq0 := own_n q0.lt
    have ltq1 := own_n q1.lt
    have ltq2 := own_n q2.lt
    have ltq3 := own_n q3.lt
    obtain ⟨G_cs, G_zc, G_fm, isref_fm, G_assertionsDisabled, G_HI_BYTE_SHIFT, G_LO_BYTE_SHIFT⟩ := id G
    refine k_aloadN X0 d_jdk_42_56_0 rfl rfl (pc' := 1) rfl ?_
    refine k_callVVF X0 (y := (⟨"java/lang/String", "isLatin1", "()Z"⟩ : MethodName)) d_jdk_42_56_1 (w_60 hw) (w_61 hw) (w_63 hw) (w_62 hw) (w_2 hw) (w_64 hw) (by decide) (notFace_of_selects (args := #[]) (mvT X0.hZ (w_63 hw))) q0 (argsL := []) (rest := []) (own_isLat1 l Z a0 hw G n0 h0 X0.old a q2) rfl pd_13 rfl rfl (by decide) (W := 0) (Nat.le_of_eq rfl) (by decide) (by decide) (by decide) all0 (pc' := 4) rfl ?_
    rintro _ T167 h167 L167 X167 K167 ⟨rfl, -⟩
    have sz_h167 := K167.1
    have K0_h167 : Keep h0 h167 [] := K0_h0.trans K167 all0
    refine k_ifYes X167 d_jdk_42_56_4 (by decide) (pc' := 16) (by decide) (by decide) ?_
    refine k_aloadN X167 d_jdk_42_56_16 rfl rfl (pc' := 17) rfl ?_
    have c169 := (q1.keep K167 nin0)
    refine k_getF X167 d_jdk_42_56_17 (host := "") (Or.inl (w_22 hw)) Via.refl c169 (pc' := 20) rfl fun T170 X171 => ?_
    refine k_iloadN X171 d_jdk_42_56_20 rfl (pc' := 21) rfl ?_
    have c172 := (q3.keep K167 nin0)
    refine k_callSVF X171 (y := (⟨"java/lang/StringUTF16", "charAt", "([BI)C"⟩ : MethodName)) d_jdk_42_56_21 (w_122 hw) (w_123 hw) (w_102 hw) (w_124 hw) (by decide) (argsL := [(.ref t), (.int (Int32.ofNat i))]) (rest := []) (own_ucharAt l Z a0 hw G n0 h167 X171.old t kt cs i (Int32.ofNat i) rfl hi (by omega) hr c172) rfl pd_6 rfl rfl (by decide) (W := 0) (Nat.le_of_eq rfl) (by decide) (by decide) (by decide) all0 (pc' := 24) rfl ?_
    rintro _ T173 h173 L173 X173 K173 ⟨rfl, -⟩
    have sz_h173 := K173.1
    have K0_h173 : Keep h0 h173 [] := K0_h167.trans K173 all0
    exact k_retFN X173 (w := (cs.getD i 0)) d_jdk_42_56_24 (t := .char) rfl (by simp) (own_i2c_id hr.1 hr.2) K0_h173 ⟨_, rfl, rfl, trivial⟩ (by decide) (by decide)
set_option maxRecDepth 65536 in
set_option maxHeartbeats 40000000 in
theorem own_beq (l : Launch) (Z : State) (a0 : Array Value) (hw : ∀ d ∈ tables_1, d.before a0 Z = true) {zc : Int32} {fm : Value}  (G : Gl Z zc fm) (n0 : Nat) (h0 : Heap) (O0 : Old Z n0 h0) (d : Nat) (g : Nat) (kd : ClassId) (kg : ClassId) (zd : Int32) (zg : Int32) (is : List Int32) (js : List Int32) (hzd : zd = Int32.ofNat is.length) (hzg : zg = Int32.ofNat js.length) (hn1 : is.length < 2147483648) (hn2 : js.length < 2147483648)  (q0 : Arv Z h0 d kd .byte zd (is.map Value.int) (.int (0 : Int32))) (q1 : Arv Z h0 g kg .byte zg (js.map Value.int) (.int (0 : Int32))) :
    MetF l [] Z n0 (⟨"java/lang/StringLatin1", "equals", "([B[B)Z"⟩ : MethodName) jdk_43_method_13_code 3 (Option.some FieldType.boolean) ({ frames := 0, cells := 0, slots := 0, locals := 0 } : Room) #[(.ref d), (.ref g)] h0 [] (fun r h' => ∃ w, r = some w ∧ w = (.int (own_eqv is js)) ∧ True) := by
  refine metF (plainFor_of_name pn_3) O0 (Ls := #[.val (.ref d), .val (.ref g), .unset]) (fun m => by first | (simp [entryFrame, mkF, argsToLocals, Value.category]; done) | rfl) ?_
  intro p e s m below meth c T0 X0
  have K0_h0 := Keep.refl h0 []
  have n0le := X0.n0le
  have ltq0 := own_n q0.lt
  have ltq1 := own_n q1.lt
  obtain ⟨G_cs, G_zc, G_fm, isref_fm, G_assertionsDisabled, G_HI_BYTE_SHIFT, G_LO_BYTE_SHIFT⟩ := id G
  have loop : ∀ (n i : Nat) (T : State) (L : List Loc), n = is.length - i → i ≤ is.length → is.length = js.length → (∀ j, j < i → is.getD j 0 = js.getD j 0) → WP p l e ({ frames := 0, cells := 0, slots := 0, locals := 0 } : Room) s m #[(.ref d), (.ref g)] below meth c Z "java/lang/StringLatin1" "equals" jdk_43_method_13_code 3 (Option.some FieldType.boolean) n0 (fun _ => True) (fun _ _ => True) T h0 L 0 0 → Run p.tables e below (PF s below n0 h0 [] (fun r h' => ∃ w, r = some w ∧ w = (.int (own_eqv is js)) ∧ True) ({ frames := 0, cells := 0, slots := 0, locals := 0 } : Room).cells ({ frames := 0, cells := 0, slots := 0, locals := 0 } : Room).slots) T (mkF m 9 #[.val (.ref d), .val (.ref g), .val (.int (Int32.ofNat i))] []) := by
    intro n
    induction n with
    | zero =>
      intro i T L hni hij hll hal X
      have hi : i = is.length := by omega
      subst hi
      have hnl : ¬ (Int32.ofNat is.length < zd) := by rw [← hzd]; exact Int32.lt_irrefl
      have he : own_eqv is js = 1 := if_pos (own_ext is js hll hal)
      refine k_iloadN X d_jdk_43_13_9 rfl (pc' := 10) rfl ?_
      refine k_aloadN X d_jdk_43_13_10 rfl rfl (pc' := 11) rfl ?_
      refine k_arlen X d_jdk_43_13_11 q0 (pc' := 12) rfl ?_
      refine k_icmpYes X d_jdk_43_13_12 (flt hnl).2.1 (pc' := 32) (by decide) (by decide) ?_
      refine k_iconst X d_jdk_43_13_32 (w := (1 : Int32)) rfl (pc' := 33) rfl ?_
      exact k_retFN X (w := (1 : Int32)) d_jdk_43_13_33 (t := .boolean) rfl (by simp) rfl K0_h0 ⟨_, rfl, by rw [he], trivial⟩ (by decide) (by decide)
    | succ n ih =>
      intro i T L hni hij hll hal X
      have hi : i < is.length := by omega
      have hlt := own_lt hi hn1
      rw [← hzd] at hlt
      have hlt2 := own_lt (show i < js.length by omega) hn2
      rw [← hzg] at hlt2
      refine k_iloadN X d_jdk_43_13_9 rfl (pc' := 10) rfl ?_
      refine k_aloadN X d_jdk_43_13_10 rfl rfl (pc' := 11) rfl ?_
      refine k_arlen X d_jdk_43_13_11 q0 (pc' := 12) rfl ?_
      refine k_icmpNo X d_jdk_43_13_12 (tlt hlt).2.1 (pc' := 15) rfl ?_
      refine k_aloadN X d_jdk_43_13_15 rfl rfl (pc' := 16) rfl ?_
      refine k_iloadN X d_jdk_43_13_16 rfl (pc' := 17) rfl ?_
      refine k_baload X d_jdk_43_13_17 q0 (own_nn (by omega)) hlt (v := (.int (is.getD i 0))) (own_getc' is (by omega)) (pc' := 18) rfl ?_
      refine k_aloadN X d_jdk_43_13_18 rfl rfl (pc' := 19) rfl ?_
      refine k_iloadN X d_jdk_43_13_19 rfl (pc' := 20) rfl ?_
      refine k_baload X d_jdk_43_13_20 q1 (own_nn (by omega)) hlt2 (v := (.int (js.getD i 0))) (own_getc' js (by omega)) (pc' := 21) rfl ?_
      by_cases hc175 : is.getD i 0 = js.getD i 0
      · refine k_icmpYes X d_jdk_43_13_21 (teq hc175).1 (pc' := 26) (by decide) (by decide) ?_
        refine k_iinc X d_jdk_43_13_26 rfl (w := (Int32.ofNat (i + 1))) (own_succ i) (Ls' := #[.val (.ref d), .val (.ref g), .val (.int (Int32.ofNat (i + 1)))]) rfl (pc' := 29) rfl ?_
        refine k_goto X d_jdk_43_13_29 (pc' := 9) (by decide) (by decide) ?_
        exact ih (i + 1) _ _ (by omega) (by omega) hll (fun j hj => by rcases Nat.lt_succ_iff_lt_or_eq.mp hj with q | q; exact hal j q; subst q; exact hc175) X
      · have he : own_eqv is js = 0 := if_neg fun q => hc175 (by rw [q])
        refine k_icmpNo X d_jdk_43_13_21 (feq hc175).1 (pc' := 24) rfl ?_
        refine k_iconst X d_jdk_43_13_24 (w := (0 : Int32)) rfl (pc' := 25) rfl ?_
        exact k_retFN X (w := (0 : Int32)) d_jdk_43_13_25 (t := .boolean) rfl (by simp) rfl K0_h0 ⟨_, rfl, by rw [he], trivial⟩ (by decide) (by decide)
  refine k_aloadN X0 d_jdk_43_13_0 rfl rfl (pc' := 1) rfl ?_
  refine k_arlen X0 d_jdk_43_13_1 q0 (pc' := 2) rfl ?_
  refine k_aloadN X0 d_jdk_43_13_2 rfl rfl (pc' := 3) rfl ?_
  refine k_arlen X0 d_jdk_43_13_3 q1 (pc' := 4) rfl ?_
  by_cases hc176 : is.length = js.length
  · have hz : zd = zg := by rw [hzd, hzg, hc176]
    refine k_icmpNo X0 d_jdk_43_13_4 (teq hz).2 (pc' := 7) rfl ?_
    refine k_iconst X0 d_jdk_43_13_7 (w := (0 : Int32)) rfl (pc' := 8) rfl ?_
    refine k_istoreN X0 d_jdk_43_13_8 (Ls' := #[.val (.ref d), .val (.ref g), .val (.int (0 : Int32))]) rfl (pc' := 9) rfl ?_
    exact loop _ 0 _ _ rfl (by omega) hc176 (fun j hj => by omega) X0
  · have hz : ¬ (zd = zg) := fun q => hc176 (by have := congrArg Int32.toNatClampNeg (hzd.symm.trans (q.trans hzg)); rwa [own_clamp hn1, own_clamp hn2] at this)
    have he : own_eqv is js = 0 := if_neg fun q => hc176 (by rw [q])
    refine k_icmpYes X0 d_jdk_43_13_4 (feq hz).2 (pc' := 34) (by decide) (by decide) ?_
    refine k_iconst X0 d_jdk_43_13_34 (w := (0 : Int32)) rfl (pc' := 35) rfl ?_
    exact k_retFN X0 (w := (0 : Int32)) d_jdk_43_13_35 (t := .boolean) rfl (by simp) rfl K0_h0 ⟨_, rfl, by rw [he], trivial⟩ (by decide) (by decide)
set_option maxRecDepth 65536 in
set_option maxHeartbeats 40000000 in
theorem own_eq (l : Launch) (Z : State) (a0 : Array Value) (hw : ∀ d ∈ tables_1, d.before a0 Z = true) {zc : Int32} {fm : Value}  (G : Gl Z zc fm) (n0 : Nat) (h0 : Heap) (O0 : Old Z n0 h0) (a : Nat) (b : Nat) (t : Nat) (kt : ClassId) (cd : Int32) (zz : Int32) (bs : List Value) (cs : List Int32) (t2 : Nat) (kt2 : ClassId) (cd2 : Int32) (zz2 : Int32) (bs2 : List Value) (cs2 : List Int32) (hn : cs.length < 536870912) (hn2 : cs2.length < 536870912) (hr : own_chs cs) (hr2 : own_chs cs2)  (q0 : Exa Z h0 a "java/lang/String") (q1 : Fld Z h0 a "java/lang/String" "value" "[B" (.ref t)) (q2 : Fld Z h0 a "java/lang/String" "coder" "B" (.int cd)) (q3 : Arv Z h0 t kt .byte zz bs (.int (0 : Int32))) (q4 : own_cod cs cd zz bs) (q5 : Exa Z h0 b "java/lang/String") (q6 : Fld Z h0 b "java/lang/String" "value" "[B" (.ref t2)) (q7 : Fld Z h0 b "java/lang/String" "coder" "B" (.int cd2)) (q8 : Arv Z h0 t2 kt2 .byte zz2 bs2 (.int (0 : Int32))) (q9 : own_cod cs2 cd2 zz2 bs2) :
    MetF l [] Z n0 (⟨"java/lang/String", "equals", "(Ljava/lang/Object;)Z"⟩ : MethodName) jdk_42_method_66_code 3 (Option.some FieldType.boolean) ({ frames := 1, cells := 0, slots := 0, locals := 14 } : Room) #[(.ref a), (.ref b)] h0 [] (fun r h' => ∃ w, r = some w ∧ w = (.int (own_eqv cs cs2)) ∧ True) := by
  refine metF (plainFor_of_name pn_1) O0 (Ls := #[.val (.ref a), .val (.ref b), .unset]) (fun m => by first | (simp [entryFrame, mkF, argsToLocals, Value.category]; done) | rfl) ?_
  intro p e s m below meth c T0 X0
  have K0_h0 := Keep.refl h0 []
  have n0le := X0.n0le
  have ltq0 := own_n q0.lt
  have ltq1 := own_n q1.lt
  have ltq2 := own_n q2.lt
  have ltq3 := own_n q3.lt
  have ltq5 := own_n q5.lt
  have ltq6 := own_n q6.lt
  have ltq7 := own_n q7.lt
  have ltq8 := own_n q8.lt
  obtain ⟨G_cs, G_zc, G_fm, isref_fm, G_assertionsDisabled, G_HI_BYTE_SHIFT, G_LO_BYTE_SHIFT⟩ := id G
  obtain ⟨is, ei, ezi, eli⟩ := own_cod_ints q4
  obtain ⟨js, ej, ezj, elj⟩ := own_cod_ints q9
  by_cases hc177 : a = b
  · subst hc177
    have ht : t = t2 := by rcases Nat.decEq t t2 with q | q; exact absurd rfl (Fld.ne q1 q6 fun r => q (Value.ref.inj r)); exact q
    subst ht
    have hc : cd = cd2 := by rcases (inferInstance : Decidable (cd = cd2)) with q | q; exact absurd rfl (Fld.ne q2 q7 fun r => q (Value.int.inj r)); exact q
    subst hc
    have he := own_same_txt q3 q8 q4 q9 hr hr2 hn hn2
    refine k_aloadN X0 d_jdk_42_66_0 rfl rfl (pc' := 1) rfl ?_
    refine k_aloadN X0 d_jdk_42_66_1 rfl rfl (pc' := 2) rfl ?_
    refine k_acmp X0 true d_jdk_42_66_2 rfl rfl (decide_eq_true rfl) (by decide) (pc' := 5) (by decide) ?_
    refine k_iconst X0 d_jdk_42_66_5 (w := (1 : Int32)) rfl (pc' := 6) rfl ?_
    exact k_retFN X0 (w := (1 : Int32)) d_jdk_42_66_6 (t := .boolean) rfl (by simp) rfl K0_h0 ⟨_, rfl, by rw [he], trivial⟩ (by decide) (by decide)
  · refine k_aloadN X0 d_jdk_42_66_0 rfl rfl (pc' := 1) rfl ?_
    refine k_aloadN X0 d_jdk_42_66_1 rfl rfl (pc' := 2) rfl ?_
    refine k_acmp X0 false d_jdk_42_66_2 rfl rfl (decide_eq_false fun q => hc177 (Value.ref.inj q)) (by decide) (pc' := 7) (by decide) ?_
    refine k_aloadN X0 d_jdk_42_66_7 rfl rfl (pc' := 8) rfl ?_
    refine k_instY X0 d_jdk_42_66_8 (w_9 hw) (Ins.self q5) (pc' := 11) rfl fun T178 X179 => ?_
    refine k_ifNo X179 d_jdk_42_66_11 (by decide) (pc' := 14) rfl ?_
    refine k_aloadN X179 d_jdk_42_66_14 rfl rfl (pc' := 15) rfl ?_
    refine k_castY X179 d_jdk_42_66_15 (w_9 hw) (Ins.self q5) (pc' := 18) rfl fun T180 X181 => ?_
    refine k_astoreN X181 d_jdk_42_66_18 rfl (Ls' := #[.val (.ref a), .val (.ref b), .val (.ref b)]) rfl (pc' := 19) rfl ?_
    refine k_getS X181 d_jdk_42_66_19 (host := "") (Or.inl (w_4 hw)) Via.refl (G_cs.ext X181.old.2) (pc' := 22) rfl fun T182 X183 => ?_
    refine k_ifNo X183 d_jdk_42_66_22 ((if0 _ _).trans (feq G_zc).1) (pc' := 25) rfl ?_
    refine k_aloadN X183 d_jdk_42_66_25 rfl rfl (pc' := 26) rfl ?_
    refine k_getF X183 d_jdk_42_66_26 (host := "") (Or.inl (w_24 hw)) Via.refl q2 (pc' := 29) rfl fun T184 X185 => ?_
    refine k_aloadN X185 d_jdk_42_66_29 rfl rfl (pc' := 30) rfl ?_
    refine k_getF X185 d_jdk_42_66_30 (host := "") (Or.inl (w_24 hw)) Via.refl q7 (pc' := 33) rfl fun T186 X187 => ?_
    by_cases hc188 : cd = cd2
    · subst hc188
      have he := own_cod_eq q4 q9 hr hr2 ei ej
      subst ei ej
      refine k_icmpNo X187 d_jdk_42_66_33 (teq rfl).2 (pc' := 36) rfl ?_
      refine k_aloadN X187 d_jdk_42_66_36 rfl rfl (pc' := 37) rfl ?_
      refine k_getF X187 d_jdk_42_66_37 (host := "") (Or.inl (w_22 hw)) Via.refl q1 (pc' := 40) rfl fun T189 X190 => ?_
      refine k_aloadN X190 d_jdk_42_66_40 rfl rfl (pc' := 41) rfl ?_
      refine k_getF X190 d_jdk_42_66_41 (host := "") (Or.inl (w_22 hw)) Via.refl q6 (pc' := 44) rfl fun T191 X192 => ?_
      refine k_callSVF X192 (y := (⟨"java/lang/StringLatin1", "equals", "([B[B)Z"⟩ : MethodName)) d_jdk_42_66_44 (w_89 hw) (w_90 hw) (w_7 hw) (w_91 hw) (by decide) (argsL := [(.ref t), (.ref t2)]) (rest := []) (own_beq l Z a0 hw G n0 h0 X192.old t t2 kt kt2 zz zz2 is js ezi ezj (by omega) (by omega) q3 q8) rfl pd_14 rfl rfl (by decide) (W := 0) (Nat.le_of_eq rfl) (by decide) (by decide) (by decide) all0 (pc' := 47) rfl ?_
      rintro _ T193 h193 L193 X193 K193 ⟨rfl, -⟩
      have sz_h193 := K193.1
      have K0_h193 : Keep h0 h193 [] := K0_h0.trans K193 all0
      by_cases hc195 : own_eqv is js = (0 : Int32)
      · refine k_ifYes X193 d_jdk_42_66_47 ((if0 _ _).trans (teq hc195).1) (pc' := 54) (by decide) (by decide) ?_
        refine k_iconst X193 d_jdk_42_66_54 (w := (0 : Int32)) rfl (pc' := 55) rfl ?_
        exact k_retFN X193 (w := (0 : Int32)) d_jdk_42_66_55 (t := .boolean) rfl (by simp) rfl K0_h193 ⟨_, rfl, by rw [← he, hc195], trivial⟩ (by decide) (by decide)
      · have h1 : own_eqv is js = 1 := by rcases own_eqv01 is js with q | q; exact absurd q hc195; exact q
        refine k_ifNo X193 d_jdk_42_66_47 ((if0 _ _).trans (feq hc195).1) (pc' := 50) rfl ?_
        refine k_iconst X193 d_jdk_42_66_50 (w := (1 : Int32)) rfl (pc' := 51) rfl ?_
        refine k_goto X193 d_jdk_42_66_51 (pc' := 55) (by decide) (by decide) ?_
        exact k_retFN X193 (w := (1 : Int32)) d_jdk_42_66_55 (t := .boolean) rfl (by simp) rfl K0_h193 ⟨_, rfl, by rw [← he, h1], trivial⟩ (by decide) (by decide)
    · have he := own_cod_ne q4 q9 hc188
      refine k_icmpYes X187 d_jdk_42_66_33 (feq hc188).2 (pc' := 54) (by decide) (by decide) ?_
      refine k_iconst X187 d_jdk_42_66_54 (w := (0 : Int32)) rfl (pc' := 55) rfl ?_
      exact k_retFN X187 (w := (0 : Int32)) d_jdk_42_66_55 (t := .boolean) rfl (by simp) rfl K0_h0 ⟨_, rfl, by rw [he], trivial⟩ (by decide) (by decide)
set_option maxRecDepth 65536 in
set_option maxHeartbeats 40000000 in
theorem own_initBB0 (l : Launch) (Z : State) (a0 : Array Value) (hw : ∀ d ∈ tables_1, d.before a0 Z = true) {zc : Int32} {fm : Value}  (G : Gl Z zc fm) (n0 : Nat) (h0 : Heap) (O0 : Old Z n0 h0) (a : Nat) (t : Nat) (gw0 : n0 ≤ a) (q0 : Exa Z h0 a "java/lang/String") (q1 : Fld Z h0 a "java/lang/String" "value" "[B" .null) (q2 : Fld Z h0 a "java/lang/String" "coder" "B" (.int (0 : Int32))) :
    MetF l [] Z n0 (⟨"java/lang/String", "<init>", "([BB)V"⟩ : MethodName) jdk_42_method_151_code 3 (Option.none : Option FieldType) ({ frames := 1, cells := 0, slots := 0, locals := 12 } : Room) #[(.ref a), (.ref t), (.int (0 : Int32))] h0 [a] (fun r h' => r = none ∧ (Exa Z h' a "java/lang/String") ∧ (Fld Z h' a "java/lang/String" "value" "[B" (.ref t)) ∧ (Fld Z h' a "java/lang/String" "coder" "B" (.int (0 : Int32)))) := by
  refine metF (plainFor_of_name pn_1) O0 (Ls := #[.val (.ref a), .val (.ref t), .val (.int (0 : Int32))]) (fun m => by first | (simp [entryFrame, mkF, argsToLocals, Value.category]; done) | rfl) ?_
  intro p e s m below meth c T0 X0
  have K0_h0 := Keep.refl h0 [a]
  have n0le := X0.n0le
  have ltq0 := own_n q0.lt
  have ltq1 := own_n q1.lt
  have ltq2 := own_n q2.lt
  obtain ⟨G_cs, G_zc, G_fm, isref_fm, G_assertionsDisabled, G_HI_BYTE_SHIFT, G_LO_BYTE_SHIFT⟩ := id G
  refine k_aloadN X0 d_jdk_42_151_0 rfl rfl (pc' := 1) rfl ?_
  refine k_initO X0 d_jdk_42_151_1 (w_19 hw) (w_20 hw) (w_21 hw) rfl (by decide) (W := 0) (Nat.le_of_eq rfl) (by decide) (pc' := 4) rfl fun T196 X197 => ?_
  refine k_aloadN X197 d_jdk_42_151_4 rfl rfl (pc' := 5) rfl ?_
  refine k_aloadN X197 d_jdk_42_151_5 rfl rfl (pc' := 6) rfl ?_
  have ge199 : n0 ≤ a := by omega
  refine k_putF X197 d_jdk_42_151_6 (host := "") (Or.inl (w_22 hw)) Via.refl q1 q0 (Or.inr ⟨(w_23 hw), rfl, X197.hnm⟩) (w_10 hw) (ty := (.array .byte)) (by decide) rfl rfl trivial ge199 (pc' := 9) rfl fun T198 h198 L198 X198 W198 K198 => ?_
  have sz_h198 := K198.1
  have K0_h198 : Keep h0 h198 [a] := K0_h0.trans K198 (allS (Or.inl (List.mem_of_getElem? (i := 0) rfl)) all0)
  have F198 := q1.same W198
  refine k_aloadN X198 d_jdk_42_151_9 rfl rfl (pc' := 10) rfl ?_
  refine k_iloadN X198 d_jdk_42_151_10 rfl (pc' := 11) rfl ?_
  have c200 := (q2.other W198 (Or.inr (slot_ne (Or.inr (w_25 hw)) (Or.inr (w_23 hw)) (by decide) (t := .byte) (t' := (.array .byte)) (by decide) (by decide))))
  have c201 := (q0.keep K198)
  refine k_putF X198 d_jdk_42_151_11 (host := "") (Or.inl (w_24 hw)) Via.refl c200 c201 (Or.inr ⟨(w_25 hw), rfl, X198.hnm⟩) (w_10 hw) (ty := .byte) (by decide) rfl rfl trivial ge199 (pc' := 14) rfl fun T202 h202 L202 X202 W202 K202 => ?_
  have sz_h202 := K202.1
  have K0_h202 : Keep h0 h202 [a] := K0_h198.trans K202 (allS (Or.inl (List.mem_of_getElem? (i := 0) rfl)) all0)
  have F202 := c200.same W202
  have c203 := (c201.keep K202)
  have c204 := (F198.other W202 (Or.inr (slot_ne (Or.inr (w_23 hw)) (Or.inr (w_25 hw)) (by decide) (t := (.array .byte)) (t' := .byte) (by decide) (by decide))))
  exact k_retFV X202 d_jdk_42_151_14 rfl K0_h202 ⟨rfl, c203, c204, F202⟩ (by decide) (by decide)
set_option maxRecDepth 65536 in
set_option maxHeartbeats 40000000 in
theorem own_initBB1 (l : Launch) (Z : State) (a0 : Array Value) (hw : ∀ d ∈ tables_1, d.before a0 Z = true) {zc : Int32} {fm : Value}  (G : Gl Z zc fm) (n0 : Nat) (h0 : Heap) (O0 : Old Z n0 h0) (a : Nat) (t : Nat) (gw0 : n0 ≤ a) (q0 : Exa Z h0 a "java/lang/String") (q1 : Fld Z h0 a "java/lang/String" "value" "[B" .null) (q2 : Fld Z h0 a "java/lang/String" "coder" "B" (.int (0 : Int32))) :
    MetF l [] Z n0 (⟨"java/lang/String", "<init>", "([BB)V"⟩ : MethodName) jdk_42_method_151_code 3 (Option.none : Option FieldType) ({ frames := 1, cells := 0, slots := 0, locals := 12 } : Room) #[(.ref a), (.ref t), (.int (1 : Int32))] h0 [a] (fun r h' => r = none ∧ (Exa Z h' a "java/lang/String") ∧ (Fld Z h' a "java/lang/String" "value" "[B" (.ref t)) ∧ (Fld Z h' a "java/lang/String" "coder" "B" (.int (1 : Int32)))) := by
  refine metF (plainFor_of_name pn_1) O0 (Ls := #[.val (.ref a), .val (.ref t), .val (.int (1 : Int32))]) (fun m => by first | (simp [entryFrame, mkF, argsToLocals, Value.category]; done) | rfl) ?_
  intro p e s m below meth c T0 X0
  have K0_h0 := Keep.refl h0 [a]
  have n0le := X0.n0le
  have ltq0 := own_n q0.lt
  have ltq1 := own_n q1.lt
  have ltq2 := own_n q2.lt
  obtain ⟨G_cs, G_zc, G_fm, isref_fm, G_assertionsDisabled, G_HI_BYTE_SHIFT, G_LO_BYTE_SHIFT⟩ := id G
  refine k_aloadN X0 d_jdk_42_151_0 rfl rfl (pc' := 1) rfl ?_
  refine k_initO X0 d_jdk_42_151_1 (w_19 hw) (w_20 hw) (w_21 hw) rfl (by decide) (W := 0) (Nat.le_of_eq rfl) (by decide) (pc' := 4) rfl fun T205 X206 => ?_
  refine k_aloadN X206 d_jdk_42_151_4 rfl rfl (pc' := 5) rfl ?_
  refine k_aloadN X206 d_jdk_42_151_5 rfl rfl (pc' := 6) rfl ?_
  have ge208 : n0 ≤ a := by omega
  refine k_putF X206 d_jdk_42_151_6 (host := "") (Or.inl (w_22 hw)) Via.refl q1 q0 (Or.inr ⟨(w_23 hw), rfl, X206.hnm⟩) (w_10 hw) (ty := (.array .byte)) (by decide) rfl rfl trivial ge208 (pc' := 9) rfl fun T207 h207 L207 X207 W207 K207 => ?_
  have sz_h207 := K207.1
  have K0_h207 : Keep h0 h207 [a] := K0_h0.trans K207 (allS (Or.inl (List.mem_of_getElem? (i := 0) rfl)) all0)
  have F207 := q1.same W207
  refine k_aloadN X207 d_jdk_42_151_9 rfl rfl (pc' := 10) rfl ?_
  refine k_iloadN X207 d_jdk_42_151_10 rfl (pc' := 11) rfl ?_
  have c209 := (q2.other W207 (Or.inr (slot_ne (Or.inr (w_25 hw)) (Or.inr (w_23 hw)) (by decide) (t := .byte) (t' := (.array .byte)) (by decide) (by decide))))
  have c210 := (q0.keep K207)
  refine k_putF X207 d_jdk_42_151_11 (host := "") (Or.inl (w_24 hw)) Via.refl c209 c210 (Or.inr ⟨(w_25 hw), rfl, X207.hnm⟩) (w_10 hw) (ty := .byte) (by decide) rfl rfl trivial ge208 (pc' := 14) rfl fun T211 h211 L211 X211 W211 K211 => ?_
  have sz_h211 := K211.1
  have K0_h211 : Keep h0 h211 [a] := K0_h207.trans K211 (allS (Or.inl (List.mem_of_getElem? (i := 0) rfl)) all0)
  have F211 := c209.same W211
  have c212 := (c210.keep K211)
  have c213 := (F207.other W211 (Or.inr (slot_ne (Or.inr (w_23 hw)) (Or.inr (w_25 hw)) (by decide) (t := (.array .byte)) (t' := .byte) (by decide) (by decide))))
  exact k_retFV X211 d_jdk_42_151_14 rfl K0_h211 ⟨rfl, c212, c213, F211⟩ (by decide) (by decide)
set_option maxRecDepth 65536 in
set_option maxHeartbeats 40000000 in
theorem own_canE1 (l : Launch) (Z : State) (a0 : Array Value) (hw : ∀ d ∈ tables_1, d.before a0 Z = true) {zc : Int32} {fm : Value}  (G : Gl Z zc fm) (n0 : Nat) (h0 : Heap) (O0 : Old Z n0 h0) (c0 : Int32) (hc : ¬ 255 < c0)   :
    MetF l [] Z n0 (⟨"java/lang/StringLatin1", "canEncode", "(C)Z"⟩ : MethodName) jdk_43_method_3_code 1 (Option.some FieldType.boolean) ({ frames := 0, cells := 0, slots := 0, locals := 0 } : Room) #[(.int c0)] h0 [] (fun r h' => ∃ w, r = some w ∧ w = (.int (1 : Int32)) ∧ True) := by
  refine metF (plainFor_of_name pn_3) O0 (Ls := #[.val (.int c0)]) (fun m => by first | (simp [entryFrame, mkF, argsToLocals, Value.category]; done) | rfl) ?_
  intro p e s m below meth c T0 X0
  have K0_h0 := Keep.refl h0 []
  have n0le := X0.n0le
  obtain ⟨G_cs, G_zc, G_fm, isref_fm, G_assertionsDisabled, G_HI_BYTE_SHIFT, G_LO_BYTE_SHIFT⟩ := id G
  refine k_iloadN X0 d_jdk_43_3_0 rfl (pc' := 1) rfl ?_
  refine k_sipush X0 d_jdk_43_3_1 (w := (255 : Int32)) rfl (pc' := 4) rfl ?_
  refine k_icmpNo X0 d_jdk_43_3_4 (flt hc).2.2.1 (pc' := 7) rfl ?_
  refine k_iconst X0 d_jdk_43_3_7 (w := (1 : Int32)) rfl (pc' := 8) rfl ?_
  refine k_goto X0 d_jdk_43_3_8 (pc' := 12) (by decide) (by decide) ?_
  exact k_retFN X0 (w := (1 : Int32)) d_jdk_43_3_12 (t := .boolean) rfl (by simp) rfl K0_h0 ⟨_, rfl, rfl, trivial⟩ (by decide) (by decide)
set_option maxRecDepth 65536 in
set_option maxHeartbeats 40000000 in
theorem own_canE0 (l : Launch) (Z : State) (a0 : Array Value) (hw : ∀ d ∈ tables_1, d.before a0 Z = true) {zc : Int32} {fm : Value}  (G : Gl Z zc fm) (n0 : Nat) (h0 : Heap) (O0 : Old Z n0 h0) (c0 : Int32) (hcU : 255 < c0)   :
    MetF l [] Z n0 (⟨"java/lang/StringLatin1", "canEncode", "(C)Z"⟩ : MethodName) jdk_43_method_3_code 1 (Option.some FieldType.boolean) ({ frames := 0, cells := 0, slots := 0, locals := 0 } : Room) #[(.int c0)] h0 [] (fun r h' => ∃ w, r = some w ∧ w = (.int (0 : Int32)) ∧ True) := by
  refine metF (plainFor_of_name pn_3) O0 (Ls := #[.val (.int c0)]) (fun m => by first | (simp [entryFrame, mkF, argsToLocals, Value.category]; done) | rfl) ?_
  intro p e s m below meth c T0 X0
  have K0_h0 := Keep.refl h0 []
  have n0le := X0.n0le
  obtain ⟨G_cs, G_zc, G_fm, isref_fm, G_assertionsDisabled, G_HI_BYTE_SHIFT, G_LO_BYTE_SHIFT⟩ := id G
  refine k_iloadN X0 d_jdk_43_3_0 rfl (pc' := 1) rfl ?_
  refine k_sipush X0 d_jdk_43_3_1 (w := (255 : Int32)) rfl (pc' := 4) rfl ?_
  refine k_icmpYes X0 d_jdk_43_3_4 (tlt hcU).2.2.1 (pc' := 11) (by decide) (by decide) ?_
  refine k_iconst X0 d_jdk_43_3_11 (w := (0 : Int32)) rfl (pc' := 12) rfl ?_
  exact k_retFN X0 (w := (0 : Int32)) d_jdk_43_3_12 (t := .boolean) rfl (by simp) rfl K0_h0 ⟨_, rfl, rfl, trivial⟩ (by decide) (by decide)
set_option maxRecDepth 65536 in
set_option maxHeartbeats 40000000 in
theorem own_toBL (l : Launch) (Z : State) (a0 : Array Value) (hw : ∀ d ∈ tables_1, d.before a0 Z = true) {zc : Int32} {fm : Value}  (G : Gl Z zc fm) (n0 : Nat) (h0 : Heap) (O0 : Old Z n0 h0) (c0 : Int32)   :
    MetF l [] Z n0 (⟨"java/lang/StringLatin1", "toBytes", "(C)[B"⟩ : MethodName) jdk_43_method_46_code 1 (Option.some (FieldType.array FieldType.byte)) ({ frames := 0, cells := 1, slots := 1, locals := 0 } : Room) #[(.int c0)] h0 [] (fun r h' => ∃ w, r = some w ∧ ∃ (t : Nat), ∃ (kt : ClassId), w = (.ref t) ∧ (Arv Z h' t kt .byte (1 : Int32) (own_lat [c0]) (.int (0 : Int32))) ∧ (h0.size ≤ t)) := by
  refine metF (plainFor_of_name pn_3) O0 (Ls := #[.val (.int c0)]) (fun m => by first | (simp [entryFrame, mkF, argsToLocals, Value.category]; done) | rfl) ?_
  intro p e s m below meth c T0 X0
  have K0_h0 := Keep.refl h0 []
  have n0le := X0.n0le
  obtain ⟨G_cs, G_zc, G_fm, isref_fm, G_assertionsDisabled, G_HI_BYTE_SHIFT, G_LO_BYTE_SHIFT⟩ := id G
  refine k_iconst X0 d_jdk_43_46_0 (w := (1 : Int32)) rfl (pc' := 1) rfl ?_
  refine k_newP X0 d_jdk_43_46_1 (w_14 hw) (by decide) (cap := 1) (by decide) (by decide) (by decide) (by decide) (pc' := 3) rfl fun T214 h214 b214 k214 g214 X214 K214 V214 S214 lt214 ge214 => ?_
  have sz_h214 := K214.1
  have K0_h214 : Keep h0 h214 [] := K0_h0.trans K214 all0
  have V214' : Arv Z h214 b214 k214 .byte (1 : Int32) [(.int (0 : Int32))] (.int (0 : Int32)) := Arv.pad V214 (pad_rep [] (.int (0 : Int32)) 1)
  refine k_dup X214 d_jdk_43_46_3 rfl (pc' := 4) rfl ?_
  refine k_iconst X214 d_jdk_43_46_4 (w := (0 : Int32)) rfl (pc' := 5) rfl ?_
  refine k_iloadN X214 d_jdk_43_46_5 rfl (pc' := 6) rfl ?_
  refine k_i2b X214 d_jdk_43_46_6 (w := (c0.toInt8.toInt32)) rfl (pc' := 7) rfl ?_
  have ge216 : n0 ≤ b214 := by omega
  refine k_bastore X214 (w := (c0.toInt8.toInt32)) (0) d_jdk_43_46_7 V214' (by decide) (by decide) rfl (by decide) (own_i2b _) (vs' := (own_lat [c0])) rfl trivial ge216 (pc' := 8) rfl fun T215 h215 L215 X215 K215 V215 => ?_
  have sz_h215 := K215.1
  have od217 : h0.size ≤ b214 := by omega
  have K0_h215 : Keep h0 h215 [] := K0_h214.trans K215 (allS (Or.inr od217) all0)
  exact k_retFA X215 d_jdk_43_46_8 rfl rfl rfl rfl K0_h215 ⟨_, rfl, _, _, rfl, V215, by omega⟩ (by decide) (by decide)
set_option maxRecDepth 65536 in
set_option maxHeartbeats 40000000 in
theorem own_toBU (l : Launch) (Z : State) (a0 : Array Value) (hw : ∀ d ∈ tables_1, d.before a0 Z = true) {zc : Int32} {fm : Value}  (G : Gl Z zc fm) (n0 : Nat) (h0 : Heap) (O0 : Old Z n0 h0) (c0 : Int32)   :
    MetF l [] Z n0 (⟨"java/lang/StringUTF16", "toBytes", "(C)[B"⟩ : MethodName) jdk_52_method_24_code 2 (Option.some (FieldType.array FieldType.byte)) ({ frames := 1, cells := 1, slots := 2, locals := 14 } : Room) #[(.int c0)] h0 [] (fun r h' => ∃ w, r = some w ∧ ∃ (t : Nat), ∃ (kt : ClassId), w = (.ref t) ∧ (Arv Z h' t kt .byte (2 : Int32) (own_u16 [c0]) (.int (0 : Int32))) ∧ (h0.size ≤ t)) := by
  refine metF (plainFor_of_name pn_0) O0 (Ls := #[.val (.int c0), .unset]) (fun m => by first | (simp [entryFrame, mkF, argsToLocals, Value.category]; done) | rfl) ?_
  intro p e s m below meth c T0 X0
  have K0_h0 := Keep.refl h0 []
  have n0le := X0.n0le
  obtain ⟨G_cs, G_zc, G_fm, isref_fm, G_assertionsDisabled, G_HI_BYTE_SHIFT, G_LO_BYTE_SHIFT⟩ := id G
  refine k_iconst X0 d_jdk_52_24_0 (w := (2 : Int32)) rfl (pc' := 1) rfl ?_
  refine k_newP X0 d_jdk_52_24_1 (w_14 hw) (by decide) (cap := 2) (by decide) (by decide) (by decide) (by decide) (pc' := 3) rfl fun T218 h218 b218 k218 g218 X218 K218 V218 S218 lt218 ge218 => ?_
  have sz_h218 := K218.1
  have K0_h218 : Keep h0 h218 [] := K0_h0.trans K218 all0
  have V218' : Arv Z h218 b218 k218 .byte (2 : Int32) [(.int (0 : Int32)), (.int (0 : Int32))] (.int (0 : Int32)) := Arv.pad V218 (pad_rep [] (.int (0 : Int32)) 2)
  refine k_astoreN X218 d_jdk_52_24_3 rfl (Ls' := #[.val (.int c0), .val (.ref b218)]) rfl (pc' := 4) rfl ?_
  refine k_aloadN X218 d_jdk_52_24_4 rfl rfl (pc' := 5) rfl ?_
  refine k_iconst X218 d_jdk_52_24_5 (w := (0 : Int32)) rfl (pc' := 6) rfl ?_
  refine k_iloadN X218 d_jdk_52_24_6 rfl (pc' := 7) rfl ?_
  have ge219 : n0 ≤ b218 := by omega
  refine k_callSNF X218 (y := (⟨"java/lang/StringUTF16", "putChar", "([BII)V"⟩ : MethodName)) d_jdk_52_24_7 (w_113 hw) (w_114 hw) (w_102 hw) (w_115 hw) (by decide) (argsL := [(.ref b218), (.int (Int32.ofNat 0)), (.int c0)]) (rest := []) (own_putC l Z a0 hw G n0 h218 X218.old b218 k218 (2 : Int32) [(.int (0 : Int32)), (.int (0 : Int32))] 0 c0 (by decide) rfl (by decide) ge219 V218') rfl pd_5 rfl rfl (by decide) (W := 0) (Nat.le_of_eq rfl) (by decide) (by decide) (by decide) (allS ⟨trivial, ge219⟩ all0) (pc' := 10) rfl ?_
  rintro T220 h220 L220 X220 K220 q220_0
  have sz_h220 := K220.1
  have od221 : h0.size ≤ b218 := by omega
  have K0_h220 : Keep h0 h220 [] := K0_h218.trans K220 (allS (Or.inr od221) all0)
  have lt220_0 := own_n q220_0.lt
  refine k_aloadN X220 d_jdk_52_24_10 rfl rfl (pc' := 11) rfl ?_
  exact k_retFA X220 d_jdk_52_24_11 rfl rfl rfl rfl K0_h220 ⟨_, rfl, _, _, rfl, q220_0, by omega⟩ (by decide) (by decide)
set_option maxRecDepth 65536 in
set_option maxHeartbeats 40000000 in
theorem own_vocL (l : Launch) (Z : State) (a0 : Array Value) (hw : ∀ d ∈ tables_1, d.before a0 Z = true) {zc : Int32} {fm : Value}  (G : Gl Z zc fm) (n0 : Nat) (h0 : Heap) (O0 : Old Z n0 h0) (c0 : Int32) (hc : ¬ 255 < c0)   :
    MetF l [] Z n0 (⟨"java/lang/String", "valueOf", "(C)Ljava/lang/String;"⟩ : MethodName) jdk_42_method_139_code 1 (Option.some (FieldType.object "java/lang/String")) ({ frames := 2, cells := 2, slots := 5, locals := 27 } : Room) #[(.int c0)] h0 [] (fun r h' => ∃ w, r = some w ∧ ∃ (r : Nat), ∃ (t : Nat), ∃ (kt : ClassId), w = (.ref r) ∧ (Exa Z h' r "java/lang/String") ∧ (Fld Z h' r "java/lang/String" "value" "[B" (.ref t)) ∧ (Fld Z h' r "java/lang/String" "coder" "B" (.int (0 : Int32))) ∧ (Arv Z h' t kt .byte (1 : Int32) (own_lat [c0]) (.int (0 : Int32))) ∧ (h0.size ≤ r) ∧ (h0.size ≤ t)) := by
  refine metF (plainFor_of_name pn_1) O0 (Ls := #[.val (.int c0)]) (fun m => by first | (simp [entryFrame, mkF, argsToLocals, Value.category]; done) | rfl) ?_
  intro p e s m below meth c T0 X0
  have K0_h0 := Keep.refl h0 []
  have n0le := X0.n0le
  obtain ⟨G_cs, G_zc, G_fm, isref_fm, G_assertionsDisabled, G_HI_BYTE_SHIFT, G_LO_BYTE_SHIFT⟩ := id G
  refine k_getS X0 d_jdk_42_139_0 (host := "") (Or.inl (w_4 hw)) Via.refl (G_cs.ext X0.old.2) (pc' := 3) rfl fun T222 X223 => ?_
  refine k_ifNo X223 d_jdk_42_139_3 ((if0 _ _).trans (feq G_zc).1) (pc' := 6) rfl ?_
  refine k_iloadN X223 d_jdk_42_139_6 rfl (pc' := 7) rfl ?_
  refine k_callSVF X223 (y := (⟨"java/lang/StringLatin1", "canEncode", "(C)Z"⟩ : MethodName)) d_jdk_42_139_7 (w_5 hw) (w_6 hw) (w_7 hw) (w_8 hw) (by decide) (argsL := [(.int c0)]) (rest := []) (own_canE1 l Z a0 hw G n0 h0 X223.old c0 hc ) rfl pd_15 rfl rfl (by decide) (W := 0) (Nat.le_of_eq rfl) (by decide) (by decide) (by decide) all0 (pc' := 10) rfl ?_
  rintro _ T224 h224 L224 X224 K224 ⟨rfl, -⟩
  have sz_h224 := K224.1
  have K0_h224 : Keep h0 h224 [] := K0_h0.trans K224 all0
  refine k_ifNo X224 d_jdk_42_139_10 (by decide) (pc' := 13) rfl ?_
  refine k_newO X224 d_jdk_42_139_13 (w_9 hw) (w_10 hw) (w_2 hw) (by decide) (by decide) (pc' := 16) rfl fun T226 h226 b226 g226 X226 K226 E226 D226 S226 lt226 ge226 => ?_
  have sz_h226 := K226.1
  have K0_h226 : Keep h0 h226 [] := K0_h224.trans K226 all0
  have Fn226_value : Fld Z h226 b226 "java/lang/String" "value" "[B" .null := D226 (Or.inr (w_23 hw)) (ty := (.array .byte)) (by decide)
  have Fn226_coder : Fld Z h226 b226 "java/lang/String" "coder" "B" (.int (0 : Int32)) := D226 (Or.inr (w_25 hw)) (ty := .byte) (by decide)
  refine k_dup X226 d_jdk_42_139_16 rfl (pc' := 17) rfl ?_
  refine k_iloadN X226 d_jdk_42_139_17 rfl (pc' := 18) rfl ?_
  refine k_callSVF X226 (y := (⟨"java/lang/StringLatin1", "toBytes", "(C)[B"⟩ : MethodName)) d_jdk_42_139_18 (w_11 hw) (w_12 hw) (w_7 hw) (w_13 hw) (by decide) (argsL := [(.int c0)]) (rest := [(.ref b226), (.ref b226)]) (own_toBL l Z a0 hw G n0 h226 X226.old c0 ) rfl pd_16 rfl rfl (by decide) (W := 2) (Nat.le_of_eq rfl) (by decide) (by decide) (by decide) all0 (pc' := 21) rfl ?_
  rintro _ T229 h229 L229 X229 K229 ⟨t_227, kt_228, rfl, q229_0, q229_1⟩
  have sz_h229 := K229.1
  have K0_h229 : Keep h0 h229 [] := K0_h226.trans K229 all0
  have lt229_0 := own_n q229_0.lt
  refine k_iconst X229 d_jdk_42_139_21 (w := (0 : Int32)) rfl (pc' := 22) rfl ?_
  have c231 := (E226.keep K229)
  have c232 := (Fn226_value.keep K229 nin0)
  have c233 := (Fn226_coder.keep K229 nin0)
  have ge234 : n0 ≤ b226 := by omega
  refine k_callPNF X229 (y := (⟨"java/lang/String", "<init>", "([BB)V"⟩ : MethodName)) d_jdk_42_139_22 (w_15 hw) (w_16 hw) (w_2 hw) (w_18 hw) (by decide) rfl rfl (argsL := [(.ref t_227), (.int (0 : Int32))]) (rest := [(.ref b226)]) (own_initBB0 l Z a0 hw G n0 h229 X229.old b226 t_227 ge234 c231 c232 c233) rfl pd_17 rfl rfl (by decide) (W := 1) (Nat.le_of_eq rfl) (by decide) (by decide) (by decide) (allS ⟨trivial, ge234⟩ all0) (pc' := 25) rfl ?_
  rintro T235 h235 L235 X235 K235 ⟨q235_0, q235_1, q235_2⟩
  have sz_h235 := K235.1
  have od236 : h0.size ≤ b226 := by omega
  have K0_h235 : Keep h0 h235 [] := K0_h229.trans K235 (allS (Or.inr od236) all0)
  have lt235_0 := own_n q235_0.lt
  have lt235_1 := own_n q235_1.lt
  have lt235_2 := own_n q235_2.lt
  have ne237 : (t_227 : Nat) ≠ b226 := own_ne (by omega)
  have c238 := (q229_0.keep K235 (ninS ne237 nin0))
  exact k_retFA X235 d_jdk_42_139_25 rfl rfl rfl rfl K0_h235 ⟨_, rfl, _, _, _, rfl, q235_0, q235_1, q235_2, c238, by omega, by omega⟩ (by decide) (by decide)
set_option maxRecDepth 65536 in
set_option maxHeartbeats 40000000 in
theorem own_vocU (l : Launch) (Z : State) (a0 : Array Value) (hw : ∀ d ∈ tables_1, d.before a0 Z = true) {zc : Int32} {fm : Value}  (G : Gl Z zc fm) (n0 : Nat) (h0 : Heap) (O0 : Old Z n0 h0) (c0 : Int32) (hcU : 255 < c0)   :
    MetF l [] Z n0 (⟨"java/lang/String", "valueOf", "(C)Ljava/lang/String;"⟩ : MethodName) jdk_42_method_139_code 1 (Option.some (FieldType.object "java/lang/String")) ({ frames := 2, cells := 2, slots := 6, locals := 29 } : Room) #[(.int c0)] h0 [] (fun r h' => ∃ w, r = some w ∧ ∃ (r : Nat), ∃ (t : Nat), ∃ (kt : ClassId), w = (.ref r) ∧ (Exa Z h' r "java/lang/String") ∧ (Fld Z h' r "java/lang/String" "value" "[B" (.ref t)) ∧ (Fld Z h' r "java/lang/String" "coder" "B" (.int (1 : Int32))) ∧ (Arv Z h' t kt .byte (2 : Int32) (own_u16 [c0]) (.int (0 : Int32))) ∧ (h0.size ≤ r) ∧ (h0.size ≤ t)) := by
  refine metF (plainFor_of_name pn_1) O0 (Ls := #[.val (.int c0)]) (fun m => by first | (simp [entryFrame, mkF, argsToLocals, Value.category]; done) | rfl) ?_
  intro p e s m below meth c T0 X0
  have K0_h0 := Keep.refl h0 []
  have n0le := X0.n0le
  obtain ⟨G_cs, G_zc, G_fm, isref_fm, G_assertionsDisabled, G_HI_BYTE_SHIFT, G_LO_BYTE_SHIFT⟩ := id G
  refine k_getS X0 d_jdk_42_139_0 (host := "") (Or.inl (w_4 hw)) Via.refl (G_cs.ext X0.old.2) (pc' := 3) rfl fun T239 X240 => ?_
  refine k_ifNo X240 d_jdk_42_139_3 ((if0 _ _).trans (feq G_zc).1) (pc' := 6) rfl ?_
  refine k_iloadN X240 d_jdk_42_139_6 rfl (pc' := 7) rfl ?_
  refine k_callSVF X240 (y := (⟨"java/lang/StringLatin1", "canEncode", "(C)Z"⟩ : MethodName)) d_jdk_42_139_7 (w_5 hw) (w_6 hw) (w_7 hw) (w_8 hw) (by decide) (argsL := [(.int c0)]) (rest := []) (own_canE0 l Z a0 hw G n0 h0 X240.old c0 hcU ) rfl pd_15 rfl rfl (by decide) (W := 0) (Nat.le_of_eq rfl) (by decide) (by decide) (by decide) all0 (pc' := 10) rfl ?_
  rintro _ T241 h241 L241 X241 K241 ⟨rfl, -⟩
  have sz_h241 := K241.1
  have K0_h241 : Keep h0 h241 [] := K0_h0.trans K241 all0
  refine k_ifYes X241 d_jdk_42_139_10 (by decide) (pc' := 26) (by decide) (by decide) ?_
  refine k_newO X241 d_jdk_42_139_26 (w_9 hw) (w_10 hw) (w_2 hw) (by decide) (by decide) (pc' := 29) rfl fun T243 h243 b243 g243 X243 K243 E243 D243 S243 lt243 ge243 => ?_
  have sz_h243 := K243.1
  have K0_h243 : Keep h0 h243 [] := K0_h241.trans K243 all0
  have Fn243_value : Fld Z h243 b243 "java/lang/String" "value" "[B" .null := D243 (Or.inr (w_23 hw)) (ty := (.array .byte)) (by decide)
  have Fn243_coder : Fld Z h243 b243 "java/lang/String" "coder" "B" (.int (0 : Int32)) := D243 (Or.inr (w_25 hw)) (ty := .byte) (by decide)
  refine k_dup X243 d_jdk_42_139_29 rfl (pc' := 30) rfl ?_
  refine k_iloadN X243 d_jdk_42_139_30 rfl (pc' := 31) rfl ?_
  refine k_callSVF X243 (y := (⟨"java/lang/StringUTF16", "toBytes", "(C)[B"⟩ : MethodName)) d_jdk_42_139_31 (w_110 hw) (w_111 hw) (w_102 hw) (w_112 hw) (by decide) (argsL := [(.int c0)]) (rest := [(.ref b243), (.ref b243)]) (own_toBU l Z a0 hw G n0 h243 X243.old c0 ) rfl pd_16 rfl rfl (by decide) (W := 2) (Nat.le_of_eq rfl) (by decide) (by decide) (by decide) all0 (pc' := 34) rfl ?_
  rintro _ T246 h246 L246 X246 K246 ⟨t_244, kt_245, rfl, q246_0, q246_1⟩
  have sz_h246 := K246.1
  have K0_h246 : Keep h0 h246 [] := K0_h243.trans K246 all0
  have lt246_0 := own_n q246_0.lt
  refine k_iconst X246 d_jdk_42_139_34 (w := (1 : Int32)) rfl (pc' := 35) rfl ?_
  have c248 := (E243.keep K246)
  have c249 := (Fn243_value.keep K246 nin0)
  have c250 := (Fn243_coder.keep K246 nin0)
  have ge251 : n0 ≤ b243 := by omega
  refine k_callPNF X246 (y := (⟨"java/lang/String", "<init>", "([BB)V"⟩ : MethodName)) d_jdk_42_139_35 (w_15 hw) (w_16 hw) (w_2 hw) (w_18 hw) (by decide) rfl rfl (argsL := [(.ref t_244), (.int (1 : Int32))]) (rest := [(.ref b243)]) (own_initBB1 l Z a0 hw G n0 h246 X246.old b243 t_244 ge251 c248 c249 c250) rfl pd_17 rfl rfl (by decide) (W := 1) (Nat.le_of_eq rfl) (by decide) (by decide) (by decide) (allS ⟨trivial, ge251⟩ all0) (pc' := 38) rfl ?_
  rintro T252 h252 L252 X252 K252 ⟨q252_0, q252_1, q252_2⟩
  have sz_h252 := K252.1
  have od253 : h0.size ≤ b243 := by omega
  have K0_h252 : Keep h0 h252 [] := K0_h246.trans K252 (allS (Or.inr od253) all0)
  have lt252_0 := own_n q252_0.lt
  have lt252_1 := own_n q252_1.lt
  have lt252_2 := own_n q252_2.lt
  have ne254 : (t_244 : Nat) ≠ b243 := own_ne (by omega)
  have c255 := (q246_0.keep K252 (ninS ne254 nin0))
  exact k_retFA X252 d_jdk_42_139_38 rfl rfl rfl rfl K0_h252 ⟨_, rfl, _, _, _, rfl, q252_0, q252_1, q252_2, c255, by omega, by omega⟩ (by decide) (by decide)
set_option maxRecDepth 65536 in
set_option maxHeartbeats 40000000 in
theorem own_vocS (l : Launch) (Z : State) (a0 : Array Value) (hw : ∀ d ∈ tables_1, d.before a0 Z = true) {zc : Int32} {fm : Value}  (G : Gl Z zc fm) (n0 : Nat) (h0 : Heap) (O0 : Old Z n0 h0) (c0 : Int32)   :
    MetF l [] Z n0 (⟨"java/lang/String", "valueOf", "(C)Ljava/lang/String;"⟩ : MethodName) jdk_42_method_139_code 1 (Option.some (FieldType.object "java/lang/String")) ({ frames := 2, cells := 2, slots := 6, locals := 29 } : Room) #[(.int c0)] h0 [] (fun r h' => ∃ w, r = some w ∧ ∃ (r : Nat), ∃ (t : Nat), ∃ (kt : ClassId), ∃ (cd : Int32), ∃ (zz : Int32), ∃ (bs : List Value), w = (.ref r) ∧ (Exa Z h' r "java/lang/String") ∧ (Fld Z h' r "java/lang/String" "value" "[B" (.ref t)) ∧ (Fld Z h' r "java/lang/String" "coder" "B" (.int cd)) ∧ (Arv Z h' t kt .byte zz bs (.int (0 : Int32))) ∧ (h0.size ≤ r) ∧ (h0.size ≤ t) ∧ (own_cod [c0] cd zz bs)) := by
  refine metF (plainFor_of_name pn_1) O0 (Ls := #[.val (.int c0)]) (fun m => by first | (simp [entryFrame, mkF, argsToLocals, Value.category]; done) | rfl) ?_
  intro p e s m below meth c T0 X0
  have K0_h0 := Keep.refl h0 []
  have n0le := X0.n0le
  obtain ⟨G_cs, G_zc, G_fm, isref_fm, G_assertionsDisabled, G_HI_BYTE_SHIFT, G_LO_BYTE_SHIFT⟩ := id G
  refine k_getS X0 d_jdk_42_139_0 (host := "") (Or.inl (w_4 hw)) Via.refl (G_cs.ext X0.old.2) (pc' := 3) rfl fun T256 X257 => ?_
  refine k_ifNo X257 d_jdk_42_139_3 ((if0 _ _).trans (feq G_zc).1) (pc' := 6) rfl ?_
  refine k_iloadN X257 d_jdk_42_139_6 rfl (pc' := 7) rfl ?_
  by_cases hc258 : 255 < c0
  · refine k_callSVF X257 (y := (⟨"java/lang/StringLatin1", "canEncode", "(C)Z"⟩ : MethodName)) d_jdk_42_139_7 (w_5 hw) (w_6 hw) (w_7 hw) (w_8 hw) (by decide) (argsL := [(.int c0)]) (rest := []) (own_canE0 l Z a0 hw G n0 h0 X257.old c0 hc258 ) rfl pd_15 rfl rfl (by decide) (W := 0) (Nat.le_of_eq rfl) (by decide) (by decide) (by decide) all0 (pc' := 10) rfl ?_
    rintro _ T259 h259 L259 X259 K259 ⟨rfl, -⟩
    have sz_h259 := K259.1
    have K0_h259 : Keep h0 h259 [] := K0_h0.trans K259 all0
    refine k_ifYes X259 d_jdk_42_139_10 (by decide) (pc' := 26) (by decide) (by decide) ?_
    refine k_newO X259 d_jdk_42_139_26 (w_9 hw) (w_10 hw) (w_2 hw) (by decide) (by decide) (pc' := 29) rfl fun T261 h261 b261 g261 X261 K261 E261 D261 S261 lt261 ge261 => ?_
    have sz_h261 := K261.1
    have K0_h261 : Keep h0 h261 [] := K0_h259.trans K261 all0
    have Fn261_value : Fld Z h261 b261 "java/lang/String" "value" "[B" .null := D261 (Or.inr (w_23 hw)) (ty := (.array .byte)) (by decide)
    have Fn261_coder : Fld Z h261 b261 "java/lang/String" "coder" "B" (.int (0 : Int32)) := D261 (Or.inr (w_25 hw)) (ty := .byte) (by decide)
    refine k_dup X261 d_jdk_42_139_29 rfl (pc' := 30) rfl ?_
    refine k_iloadN X261 d_jdk_42_139_30 rfl (pc' := 31) rfl ?_
    refine k_callSVF X261 (y := (⟨"java/lang/StringUTF16", "toBytes", "(C)[B"⟩ : MethodName)) d_jdk_42_139_31 (w_110 hw) (w_111 hw) (w_102 hw) (w_112 hw) (by decide) (argsL := [(.int c0)]) (rest := [(.ref b261), (.ref b261)]) (own_toBU l Z a0 hw G n0 h261 X261.old c0 ) rfl pd_16 rfl rfl (by decide) (W := 2) (Nat.le_of_eq rfl) (by decide) (by decide) (by decide) all0 (pc' := 34) rfl ?_
    rintro _ T264 h264 L264 X264 K264 ⟨t_262, kt_263, rfl, q264_0, q264_1⟩
    have sz_h264 := K264.1
    have K0_h264 : Keep h0 h264 [] := K0_h261.trans K264 all0
    have lt264_0 := own_n q264_0.lt
    refine k_iconst X264 d_jdk_42_139_34 (w := (1 : Int32)) rfl (pc' := 35) rfl ?_
    have c266 := (E261.keep K264)
    have c267 := (Fn261_value.keep K264 nin0)
    have c268 := (Fn261_coder.keep K264 nin0)
    have ge269 : n0 ≤ b261 := by omega
    refine k_callPNF X264 (y := (⟨"java/lang/String", "<init>", "([BB)V"⟩ : MethodName)) d_jdk_42_139_35 (w_15 hw) (w_16 hw) (w_2 hw) (w_18 hw) (by decide) rfl rfl (argsL := [(.ref t_262), (.int (1 : Int32))]) (rest := [(.ref b261)]) (own_initBB1 l Z a0 hw G n0 h264 X264.old b261 t_262 ge269 c266 c267 c268) rfl pd_17 rfl rfl (by decide) (W := 1) (Nat.le_of_eq rfl) (by decide) (by decide) (by decide) (allS ⟨trivial, ge269⟩ all0) (pc' := 38) rfl ?_
    rintro T270 h270 L270 X270 K270 ⟨q270_0, q270_1, q270_2⟩
    have sz_h270 := K270.1
    have od271 : h0.size ≤ b261 := by omega
    have K0_h270 : Keep h0 h270 [] := K0_h264.trans K270 (allS (Or.inr od271) all0)
    have lt270_0 := own_n q270_0.lt
    have lt270_1 := own_n q270_1.lt
    have lt270_2 := own_n q270_2.lt
    have ne272 : (t_262 : Nat) ≠ b261 := own_ne (by omega)
    have c273 := (q264_0.keep K270 (ninS ne272 nin0))
    exact k_retFA X270 d_jdk_42_139_38 rfl rfl rfl rfl K0_h270 ⟨_, rfl, _, _, _, _, _, _, rfl, q270_0, q270_1, q270_2, c273, by omega, by omega, own_cod1U hc258⟩ (by decide) (by decide)
  · refine k_callSVF X257 (y := (⟨"java/lang/StringLatin1", "canEncode", "(C)Z"⟩ : MethodName)) d_jdk_42_139_7 (w_5 hw) (w_6 hw) (w_7 hw) (w_8 hw) (by decide) (argsL := [(.int c0)]) (rest := []) (own_canE1 l Z a0 hw G n0 h0 X257.old c0 hc258 ) rfl pd_15 rfl rfl (by decide) (W := 0) (Nat.le_of_eq rfl) (by decide) (by decide) (by decide) all0 (pc' := 10) rfl ?_
    rintro _ T274 h274 L274 X274 K274 ⟨rfl, -⟩
    have sz_h274 := K274.1
    have K0_h274 : Keep h0 h274 [] := K0_h0.trans K274 all0
    refine k_ifNo X274 d_jdk_42_139_10 (by decide) (pc' := 13) rfl ?_
    refine k_newO X274 d_jdk_42_139_13 (w_9 hw) (w_10 hw) (w_2 hw) (by decide) (by decide) (pc' := 16) rfl fun T276 h276 b276 g276 X276 K276 E276 D276 S276 lt276 ge276 => ?_
    have sz_h276 := K276.1
    have K0_h276 : Keep h0 h276 [] := K0_h274.trans K276 all0
    have Fn276_value : Fld Z h276 b276 "java/lang/String" "value" "[B" .null := D276 (Or.inr (w_23 hw)) (ty := (.array .byte)) (by decide)
    have Fn276_coder : Fld Z h276 b276 "java/lang/String" "coder" "B" (.int (0 : Int32)) := D276 (Or.inr (w_25 hw)) (ty := .byte) (by decide)
    refine k_dup X276 d_jdk_42_139_16 rfl (pc' := 17) rfl ?_
    refine k_iloadN X276 d_jdk_42_139_17 rfl (pc' := 18) rfl ?_
    refine k_callSVF X276 (y := (⟨"java/lang/StringLatin1", "toBytes", "(C)[B"⟩ : MethodName)) d_jdk_42_139_18 (w_11 hw) (w_12 hw) (w_7 hw) (w_13 hw) (by decide) (argsL := [(.int c0)]) (rest := [(.ref b276), (.ref b276)]) (own_toBL l Z a0 hw G n0 h276 X276.old c0 ) rfl pd_16 rfl rfl (by decide) (W := 2) (Nat.le_of_eq rfl) (by decide) (by decide) (by decide) all0 (pc' := 21) rfl ?_
    rintro _ T279 h279 L279 X279 K279 ⟨t_277, kt_278, rfl, q279_0, q279_1⟩
    have sz_h279 := K279.1
    have K0_h279 : Keep h0 h279 [] := K0_h276.trans K279 all0
    have lt279_0 := own_n q279_0.lt
    refine k_iconst X279 d_jdk_42_139_21 (w := (0 : Int32)) rfl (pc' := 22) rfl ?_
    have c281 := (E276.keep K279)
    have c282 := (Fn276_value.keep K279 nin0)
    have c283 := (Fn276_coder.keep K279 nin0)
    have ge284 : n0 ≤ b276 := by omega
    refine k_callPNF X279 (y := (⟨"java/lang/String", "<init>", "([BB)V"⟩ : MethodName)) d_jdk_42_139_22 (w_15 hw) (w_16 hw) (w_2 hw) (w_18 hw) (by decide) rfl rfl (argsL := [(.ref t_277), (.int (0 : Int32))]) (rest := [(.ref b276)]) (own_initBB0 l Z a0 hw G n0 h279 X279.old b276 t_277 ge284 c281 c282 c283) rfl pd_17 rfl rfl (by decide) (W := 1) (Nat.le_of_eq rfl) (by decide) (by decide) (by decide) (allS ⟨trivial, ge284⟩ all0) (pc' := 25) rfl ?_
    rintro T285 h285 L285 X285 K285 ⟨q285_0, q285_1, q285_2⟩
    have sz_h285 := K285.1
    have od286 : h0.size ≤ b276 := by omega
    have K0_h285 : Keep h0 h285 [] := K0_h279.trans K285 (allS (Or.inr od286) all0)
    have lt285_0 := own_n q285_0.lt
    have lt285_1 := own_n q285_1.lt
    have lt285_2 := own_n q285_2.lt
    have ne287 : (t_277 : Nat) ≠ b276 := own_ne (by omega)
    have c288 := (q279_0.keep K285 (ninS ne287 nin0))
    exact k_retFA X285 d_jdk_42_139_25 rfl rfl rfl rfl K0_h285 ⟨_, rfl, _, _, _, _, _, _, rfl, q285_0, q285_1, q285_2, c288, by omega, by omega, own_cod1L hc258⟩ (by decide) (by decide)
set_option maxRecDepth 65536 in
set_option maxHeartbeats 40000000 in
theorem own_fpc (l : Launch) (Z : State) (a0 : Array Value) (hw : ∀ d ∈ tables_1, d.before a0 Z = true) {zc : Int32} {fm : Value}  (G : Gl Z zc fm) (n0 : Nat) (h0 : Heap) (O0 : Old Z n0 h0) (a : Nat) (t : Nat) (kt : ClassId) (cd : Int32) (zz : Int32) (bs : List Value) (cs : List Int32) (hn : cs.length ≤ 2) (hr : own_chs cs)  (q0 : Exa Z h0 a "java/lang/String") (q1 : Fld Z h0 a "java/lang/String" "value" "[B" (.ref t)) (q2 : Fld Z h0 a "java/lang/String" "coder" "B" (.int cd)) (q3 : Arv Z h0 t kt .byte zz bs (.int (0 : Int32))) (q4 : own_cod cs cd zz bs) :
    MetF l [] Z n0 (⟨"com/example/tuned_odds/tunedodds/index/FingerprintSet", "fingerprint", "(Ljava/lang/String;)J"⟩ : MethodName) prog_23_method_5_code 4 (Option.some FieldType.long) ({ frames := 5, cells := 0, slots := 0, locals := 68 } : Room) #[(.ref a)] h0 [] (fun r h' => ∃ w, r = some w ∧ w = (.long (own_fp cs)) ∧ True) := by
  refine metF (plainFor_of_name pn_4) O0 (Ls := #[.val (.ref a), .unset, .unset, .unset]) (fun m => by first | (simp [entryFrame, mkF, argsToLocals, Value.category]; done) | rfl) ?_
  intro p e s m below meth c T0 X0
  have K0_h0 := Keep.refl h0 []
  have n0le := X0.n0le
  have ltq0 := own_n q0.lt
  have ltq1 := own_n q1.lt
  have ltq2 := own_n q2.lt
  have ltq3 := own_n q3.lt
  obtain ⟨G_cs, G_zc, G_fm, isref_fm, G_assertionsDisabled, G_HI_BYTE_SHIFT, G_LO_BYTE_SHIFT⟩ := id G
  have loop : ∀ (k i : Nat) (T : State) (h : Heap) (L : List Loc), k = cs.length - i → i ≤ cs.length → WP p l e ({ frames := 5, cells := 0, slots := 0, locals := 68 } : Room) s m #[(.ref a)] below meth c Z "com/example/tuned_odds/tunedodds/index/FingerprintSet" "fingerprint" prog_23_method_5_code 4 (Option.some FieldType.long) n0 (fun _ => True) (fun _ _ => True) T h L 0 0 → Keep h0 h [] → Exa Z h a "java/lang/String" → Fld Z h a "java/lang/String" "value" "[B" (.ref t) → Fld Z h a "java/lang/String" "coder" "B" (.int cd) → Arv Z h t kt .byte zz bs (.int (0 : Int32)) → Run p.tables e below (PF s below n0 h0 [] (fun r h' => ∃ w, r = some w ∧ w = (.long (own_fp cs)) ∧ True) ({ frames := 5, cells := 0, slots := 0, locals := 68 } : Room).cells ({ frames := 5, cells := 0, slots := 0, locals := 68 } : Room).slots) T (mkF m 6 #[.val (.ref a), .val (.long (own_fnv (-3750763034362895579 : Int64) (cs.take i))), .second, .val (.int (Int32.ofNat i))] []) := by
    intro k
    induction k with
    | zero =>
      intro i T h L hki hij X K f0 f1 f2 f3
      have hi : i = cs.length := by omega
      subst hi
      have nle := X.n0le
      have lh0 := K.1
      have lf0 := own_n f0.lt
      have lf3 := own_n f3.lt
      refine k_iloadN X d_prog_23_5_6 rfl (pc' := 7) rfl ?_
      refine k_aloadN X d_prog_23_5_7 rfl rfl (pc' := 8) rfl ?_
      refine k_callVVF X (y := (⟨"java/lang/String", "length", "()I"⟩ : MethodName)) d_prog_23_5_8 (w_45 hw) (w_46 hw) (w_48 hw) (w_47 hw) (w_2 hw) (w_49 hw) (by decide) (notFace_of_selects (args := #[]) (mvT X.hZ (w_48 hw))) f0 (argsL := []) (rest := [(.int (Int32.ofNat cs.length))]) (own_len l Z a0 hw G n0 h X.old a t kt cd zz bs cs (by omega) f0 f1 f2 f3 q4) rfl pd_18 rfl rfl (by decide) (W := 1) (Nat.le_of_eq rfl) (by decide) (by decide) (by decide) all0 (pc' := 11) rfl ?_
      rintro _ T289 h289 L289 X289 K289 ⟨rfl, -⟩
      have sz_h289 := K289.1
      have K0_h289 : Keep h0 h289 [] := K.trans K289 all0
      refine k_icmpYes X289 d_prog_23_5_11 (flt Int32.lt_irrefl).2.1 (pc' := 33) (by decide) (by decide) ?_
      rw [List.take_length]
      refine k_lloadN X289 d_prog_23_5_33 rfl (pc' := 34) rfl ?_
      refine k_lloadN X289 d_prog_23_5_34 rfl (pc' := 35) rfl ?_
      refine k_bipush X289 d_prog_23_5_35 (w := (30 : Int32)) rfl (pc' := 37) rfl ?_
      refine k_lushr X289 d_prog_23_5_37 (w := (((own_fnv (-3750763034362895579 : Int64) cs).toUInt64 >>> ((30 : Int32) &&& 0x3f).toInt64.toUInt64).toInt64)) rfl (pc' := 38) rfl ?_
      refine k_lxor X289 d_prog_23_5_38 (w := ((own_fnv (-3750763034362895579 : Int64) cs) ^^^ (((own_fnv (-3750763034362895579 : Int64) cs).toUInt64 >>> ((30 : Int32) &&& 0x3f).toInt64.toUInt64).toInt64))) rfl (pc' := 39) rfl ?_
      refine k_ldc2 X289 d_prog_23_5_39 (w_77 hw) (pc' := 42) rfl ?_
      refine k_lmul X289 d_prog_23_5_42 (w := (own_m1 (own_fnv (-3750763034362895579 : Int64) cs))) rfl (pc' := 43) rfl ?_
      refine k_lstoreN X289 d_prog_23_5_43 (Ls' := #[.val (.ref a), .val (.long (own_m1 (own_fnv (-3750763034362895579 : Int64) cs))), .second, .val (.int (Int32.ofNat cs.length))]) rfl (pc' := 44) rfl ?_
      refine k_lloadN X289 d_prog_23_5_44 rfl (pc' := 45) rfl ?_
      refine k_lloadN X289 d_prog_23_5_45 rfl (pc' := 46) rfl ?_
      refine k_bipush X289 d_prog_23_5_46 (w := (27 : Int32)) rfl (pc' := 48) rfl ?_
      refine k_lushr X289 d_prog_23_5_48 (w := (((own_m1 (own_fnv (-3750763034362895579 : Int64) cs)).toUInt64 >>> ((27 : Int32) &&& 0x3f).toInt64.toUInt64).toInt64)) rfl (pc' := 49) rfl ?_
      refine k_lxor X289 d_prog_23_5_49 (w := ((own_m1 (own_fnv (-3750763034362895579 : Int64) cs)) ^^^ (((own_m1 (own_fnv (-3750763034362895579 : Int64) cs)).toUInt64 >>> ((27 : Int32) &&& 0x3f).toInt64.toUInt64).toInt64))) rfl (pc' := 50) rfl ?_
      refine k_ldc2 X289 d_prog_23_5_50 (w_78 hw) (pc' := 53) rfl ?_
      refine k_lmul X289 d_prog_23_5_53 (w := (own_m2 (own_m1 (own_fnv (-3750763034362895579 : Int64) cs)))) rfl (pc' := 54) rfl ?_
      refine k_lstoreN X289 d_prog_23_5_54 (Ls' := #[.val (.ref a), .val (.long (own_m2 (own_m1 (own_fnv (-3750763034362895579 : Int64) cs)))), .second, .val (.int (Int32.ofNat cs.length))]) rfl (pc' := 55) rfl ?_
      refine k_lloadN X289 d_prog_23_5_55 rfl (pc' := 56) rfl ?_
      refine k_lloadN X289 d_prog_23_5_56 rfl (pc' := 57) rfl ?_
      refine k_bipush X289 d_prog_23_5_57 (w := (31 : Int32)) rfl (pc' := 59) rfl ?_
      refine k_lushr X289 d_prog_23_5_59 (w := (((own_m2 (own_m1 (own_fnv (-3750763034362895579 : Int64) cs))).toUInt64 >>> ((31 : Int32) &&& 0x3f).toInt64.toUInt64).toInt64)) rfl (pc' := 60) rfl ?_
      refine k_lxor X289 d_prog_23_5_60 (w := (own_mix (own_fnv (-3750763034362895579 : Int64) cs))) rfl (pc' := 61) rfl ?_
      refine k_lstoreN X289 d_prog_23_5_61 (Ls' := #[.val (.ref a), .val (.long (own_mix (own_fnv (-3750763034362895579 : Int64) cs))), .second, .val (.int (Int32.ofNat cs.length))]) rfl (pc' := 62) rfl ?_
      refine k_lloadN X289 d_prog_23_5_62 rfl (pc' := 63) rfl ?_
      refine k_lconst X289 d_prog_23_5_63 (w := (0 : Int64)) rfl (pc' := 64) rfl ?_
      refine k_lcmp X289 d_prog_23_5_64 (w := (own_lc (own_mix (own_fnv (-3750763034362895579 : Int64) cs)) (0 : Int64))) rfl (pc' := 65) rfl ?_
      by_cases hc291 : own_mix (own_fnv (-3750763034362895579 : Int64) cs) = (0 : Int64)
      · have he : own_fp cs = 1 := if_pos hc291
        refine k_ifNo X289 d_prog_23_5_65 ((if0 _ _).trans (teq (own_lc_eq hc291)).2) (pc' := 68) rfl ?_
        refine k_lconst X289 d_prog_23_5_68 (w := (1 : Int64)) rfl (pc' := 69) rfl ?_
        refine k_goto X289 d_prog_23_5_69 (pc' := 73) (by decide) (by decide) ?_
        exact k_retFJ X289 d_prog_23_5_73 rfl K0_h289 ⟨_, rfl, by rw [he], trivial⟩ (by decide) (by decide)
      · have he : own_fp cs = own_mix (own_fnv (-3750763034362895579 : Int64) cs) := if_neg hc291
        refine k_ifYes X289 d_prog_23_5_65 ((if0 _ _).trans (feq (own_lc_ne hc291)).2) (pc' := 72) (by decide) (by decide) ?_
        refine k_lloadN X289 d_prog_23_5_72 rfl (pc' := 73) rfl ?_
        exact k_retFJ X289 d_prog_23_5_73 rfl K0_h289 ⟨_, rfl, by rw [he], trivial⟩ (by decide) (by decide)
    | succ k ih =>
      intro i T h L hki hij X K f0 f1 f2 f3
      have hi : i < cs.length := by omega
      have hlt := own_lt hi (show cs.length < 2147483648 by omega)
      have nle := X.n0le
      have lh0 := K.1
      have lf0 := own_n f0.lt
      have lf3 := own_n f3.lt
      refine k_iloadN X d_prog_23_5_6 rfl (pc' := 7) rfl ?_
      refine k_aloadN X d_prog_23_5_7 rfl rfl (pc' := 8) rfl ?_
      refine k_callVVF X (y := (⟨"java/lang/String", "length", "()I"⟩ : MethodName)) d_prog_23_5_8 (w_45 hw) (w_46 hw) (w_48 hw) (w_47 hw) (w_2 hw) (w_49 hw) (by decide) (notFace_of_selects (args := #[]) (mvT X.hZ (w_48 hw))) f0 (argsL := []) (rest := [(.int (Int32.ofNat i))]) (own_len l Z a0 hw G n0 h X.old a t kt cd zz bs cs (by omega) f0 f1 f2 f3 q4) rfl pd_18 rfl rfl (by decide) (W := 1) (Nat.le_of_eq rfl) (by decide) (by decide) (by decide) all0 (pc' := 11) rfl ?_
      rintro _ T292 h292 L292 X292 K292 ⟨rfl, -⟩
      have sz_h292 := K292.1
      have K0_h292 : Keep h0 h292 [] := K.trans K292 all0
      refine k_icmpNo X292 d_prog_23_5_11 (tlt hlt).2.1 (pc' := 14) rfl ?_
      refine k_lloadN X292 d_prog_23_5_14 rfl (pc' := 15) rfl ?_
      refine k_aloadN X292 d_prog_23_5_15 rfl rfl (pc' := 16) rfl ?_
      refine k_iloadN X292 d_prog_23_5_16 rfl (pc' := 17) rfl ?_
      have c294 := (f0.keep K292)
      have c295 := (f1.keep K292 nin0)
      have c296 := (f2.keep K292 nin0)
      have c297 := (f3.keep K292 nin0)
      refine k_callVVF X292 (y := (⟨"java/lang/String", "charAt", "(I)C"⟩ : MethodName)) d_prog_23_5_17 (w_55 hw) (w_56 hw) (w_58 hw) (w_57 hw) (w_2 hw) (w_59 hw) (by decide) (notFace_of_selects (args := #[]) (mvT X292.hZ (w_58 hw))) c294 (argsL := [(.int (Int32.ofNat i))]) (rest := [(.long (own_fnv (-3750763034362895579 : Int64) (cs.take i)))]) (own_charAt l Z a0 hw G n0 h292 X292.old a t kt cd zz bs cs i (Int32.ofNat i) rfl hi (by omega) (own_chs_at hr hi) c294 c295 c296 c297 q4) rfl pd_19 rfl rfl (by decide) (W := 2) (Nat.le_of_eq rfl) (by decide) (by decide) (by decide) all0 (pc' := 20) rfl ?_
      rintro _ T298 h298 L298 X298 K298 ⟨rfl, -⟩
      have sz_h298 := K298.1
      have K0_h298 : Keep h0 h298 [] := K0_h292.trans K298 all0
      refine k_i2l X298 d_prog_23_5_20 (w := ((cs.getD i 0).toInt64)) rfl (pc' := 21) rfl ?_
      refine k_lxor X298 d_prog_23_5_21 (w := ((own_fnv (-3750763034362895579 : Int64) (cs.take i)) ^^^ ((cs.getD i 0).toInt64))) rfl (pc' := 22) rfl ?_
      refine k_ldc2 X298 d_prog_23_5_22 (w_76 hw) (pc' := 25) rfl ?_
      refine k_lmul X298 d_prog_23_5_25 (w := (own_fnv (-3750763034362895579 : Int64) (cs.take (i + 1)))) (own_fnv_turn _ cs i hi) (pc' := 26) rfl ?_
      refine k_lstoreN X298 d_prog_23_5_26 (Ls' := #[.val (.ref a), .val (.long (own_fnv (-3750763034362895579 : Int64) (cs.take (i + 1)))), .second, .val (.int (Int32.ofNat i))]) rfl (pc' := 27) rfl ?_
      refine k_iinc X298 d_prog_23_5_27 rfl (w := (Int32.ofNat (i + 1))) (own_succ i) (Ls' := #[.val (.ref a), .val (.long (own_fnv (-3750763034362895579 : Int64) (cs.take (i + 1)))), .second, .val (.int (Int32.ofNat (i + 1)))]) rfl (pc' := 30) rfl ?_
      refine k_goto X298 d_prog_23_5_30 (pc' := 6) (by decide) (by decide) ?_
      have c300 := (c294.keep K298)
      have c301 := (c295.keep K298 nin0)
      have c302 := (c296.keep K298 nin0)
      have c303 := (c297.keep K298 nin0)
      exact ih (i + 1) _ _ _ (by omega) (by omega) X298 K0_h298 c300 c301 c302 c303
  refine k_ldc2 X0 d_prog_23_5_0 (w_44 hw) (pc' := 3) rfl ?_
  refine k_lstoreN X0 d_prog_23_5_3 (Ls' := #[.val (.ref a), .val (.long (-3750763034362895579 : Int64)), .second, .unset]) rfl (pc' := 4) rfl ?_
  refine k_iconst X0 d_prog_23_5_4 (w := (0 : Int32)) rfl (pc' := 5) rfl ?_
  refine k_istoreN X0 d_prog_23_5_5 (Ls' := #[.val (.ref a), .val (.long (-3750763034362895579 : Int64)), .second, .val (.int (0 : Int32))]) rfl (pc' := 6) rfl ?_
  exact loop _ 0 _ _ _ rfl (by omega) X0 K0_h0 q0 q1 q2 q3
set_option maxRecDepth 65536 in
set_option maxHeartbeats 40000000 in
theorem own_find (l : Launch) (Z : State) (a0 : Array Value) (hw : ∀ d ∈ tables_1, d.before a0 Z = true) {zc : Int32} {fm : Value}  (G : Gl Z zc fm) (n0 : Nat) (h0 : Heap) (O0 : Old Z n0 h0) (t : Nat) (kt : ClassId) (f : Int64) (L0 : List Int64) (hF : own_free L0)  (q0 : Arv Z h0 t kt .long (1024 : Int32) (L0.map Value.long) (.long (0 : Int64))) :
    MetF l [] Z n0 (⟨"com/example/tuned_odds/tunedodds/index/FingerprintSet", "find", "([JJ)I"⟩ : MethodName) prog_23_method_4_code 5 (Option.some FieldType.int) ({ frames := 0, cells := 0, slots := 0, locals := 0 } : Room) #[(.ref t), (.long f)] h0 [] (fun r h' => ∃ w, r = some w ∧ w = (.int (Int32.ofNat (own_slot L0 f))) ∧ True) := by
  refine metF (plainFor_of_name pn_4) O0 (Ls := #[.val (.ref t), .val (.long f), .second, .unset, .unset]) (fun m => by first | (simp [entryFrame, mkF, argsToLocals, Value.category]; done) | rfl) ?_
  intro p e s m below meth c T0 X0
  have K0_h0 := Keep.refl h0 []
  have n0le := X0.n0le
  have ltq0 := own_n q0.lt
  obtain ⟨G_cs, G_zc, G_fm, isref_fm, G_assertionsDisabled, G_HI_BYTE_SHIFT, G_LO_BYTE_SHIFT⟩ := id G
  have loop : ∀ (k i : Nat) (T : State) (L : List Loc), i < 1024 → own_slot L0 f = own_go L0 f (k + 1) i → (∃ j, j ≤ k ∧ L0.getD ((i + j) % 1024) 0 = 0) → WP p l e ({ frames := 0, cells := 0, slots := 0, locals := 0 } : Room) s m #[(.ref t), (.long f)] below meth c Z "com/example/tuned_odds/tunedodds/index/FingerprintSet" "find" prog_23_method_4_code 5 (Option.some FieldType.int) n0 (fun _ => True) (fun _ _ => True) T h0 L 0 0 → Run p.tables e below (PF s below n0 h0 [] (fun r h' => ∃ w, r = some w ∧ w = (.int (Int32.ofNat (own_slot L0 f))) ∧ True) ({ frames := 0, cells := 0, slots := 0, locals := 0 } : Room).cells ({ frames := 0, cells := 0, slots := 0, locals := 0 } : Room).slots) T (mkF m 11 #[.val (.ref t), .val (.long f), .second, .val (.int (1023 : Int32)), .val (.int (Int32.ofNat i))] []) := by
    intro k
    induction k with
    | zero =>
      intro i T L hi hs hx X
      have hlt : Int32.ofNat i < (1024 : Int32) := own_lt hi (by decide)
      refine k_aloadN X d_prog_23_4_11 rfl rfl (pc' := 12) rfl ?_
      refine k_iload X d_prog_23_4_12 rfl (pc' := 14) rfl ?_
      refine k_laload X d_prog_23_4_14 q0 (own_nn (by omega)) hlt (v := (.long (L0.getD i 0))) (own_getl' L0 (by omega)) (pc' := 15) rfl ?_
      refine k_lconst X d_prog_23_4_15 (w := (0 : Int64)) rfl (pc' := 16) rfl ?_
      refine k_lcmp X d_prog_23_4_16 (w := (own_lc (L0.getD i 0) (0 : Int64))) rfl (pc' := 17) rfl ?_
      by_cases hc304 : (L0.getD i 0) = (0 : Int64)
      · have he : own_go L0 f (0 + 1) i = i := if_pos (Or.inl hc304)
        refine k_ifYes X d_prog_23_4_17 ((if0 _ _).trans (teq (own_lc_eq hc304)).1) (pc' := 40) (by decide) (by decide) ?_
        refine k_iload X d_prog_23_4_40 rfl (pc' := 42) rfl ?_
        exact k_retFI X d_prog_23_4_42 rfl K0_h0 ⟨_, rfl, by rw [hs, he], trivial⟩ (by decide) (by decide)
      · refine k_ifNo X d_prog_23_4_17 ((if0 _ _).trans (feq (own_lc_ne hc304)).1) (pc' := 20) rfl ?_
        refine k_aloadN X d_prog_23_4_20 rfl rfl (pc' := 21) rfl ?_
        refine k_iload X d_prog_23_4_21 rfl (pc' := 23) rfl ?_
        refine k_laload X d_prog_23_4_23 q0 (own_nn (by omega)) hlt (v := (.long (L0.getD i 0))) (own_getl' L0 (by omega)) (pc' := 24) rfl ?_
        refine k_lloadN X d_prog_23_4_24 rfl (pc' := 25) rfl ?_
        refine k_lcmp X d_prog_23_4_25 (w := (own_lc (L0.getD i 0) f)) rfl (pc' := 26) rfl ?_
        by_cases hc305 : (L0.getD i 0) = f
        · have he : own_go L0 f (0 + 1) i = i := if_pos (Or.inr hc305)
          refine k_ifYes X d_prog_23_4_26 ((if0 _ _).trans (teq (own_lc_eq hc305)).1) (pc' := 40) (by decide) (by decide) ?_
          refine k_iload X d_prog_23_4_40 rfl (pc' := 42) rfl ?_
          exact k_retFI X d_prog_23_4_42 rfl K0_h0 ⟨_, rfl, by rw [hs, he], trivial⟩ (by decide) (by decide)
        · obtain ⟨j, hj, hz⟩ := hx
          obtain rfl : j = 0 := by omega
          rw [Nat.add_zero, Nat.mod_eq_of_lt hi] at hz
          exact absurd hz hc304
    | succ k ih =>
      intro i T L hi hs hx X
      have hlt : Int32.ofNat i < (1024 : Int32) := own_lt hi (by decide)
      refine k_aloadN X d_prog_23_4_11 rfl rfl (pc' := 12) rfl ?_
      refine k_iload X d_prog_23_4_12 rfl (pc' := 14) rfl ?_
      refine k_laload X d_prog_23_4_14 q0 (own_nn (by omega)) hlt (v := (.long (L0.getD i 0))) (own_getl' L0 (by omega)) (pc' := 15) rfl ?_
      refine k_lconst X d_prog_23_4_15 (w := (0 : Int64)) rfl (pc' := 16) rfl ?_
      refine k_lcmp X d_prog_23_4_16 (w := (own_lc (L0.getD i 0) (0 : Int64))) rfl (pc' := 17) rfl ?_
      by_cases hc306 : (L0.getD i 0) = (0 : Int64)
      · have he : own_go L0 f ((k + 1) + 1) i = i := if_pos (Or.inl hc306)
        refine k_ifYes X d_prog_23_4_17 ((if0 _ _).trans (teq (own_lc_eq hc306)).1) (pc' := 40) (by decide) (by decide) ?_
        refine k_iload X d_prog_23_4_40 rfl (pc' := 42) rfl ?_
        exact k_retFI X d_prog_23_4_42 rfl K0_h0 ⟨_, rfl, by rw [hs, he], trivial⟩ (by decide) (by decide)
      · refine k_ifNo X d_prog_23_4_17 ((if0 _ _).trans (feq (own_lc_ne hc306)).1) (pc' := 20) rfl ?_
        refine k_aloadN X d_prog_23_4_20 rfl rfl (pc' := 21) rfl ?_
        refine k_iload X d_prog_23_4_21 rfl (pc' := 23) rfl ?_
        refine k_laload X d_prog_23_4_23 q0 (own_nn (by omega)) hlt (v := (.long (L0.getD i 0))) (own_getl' L0 (by omega)) (pc' := 24) rfl ?_
        refine k_lloadN X d_prog_23_4_24 rfl (pc' := 25) rfl ?_
        refine k_lcmp X d_prog_23_4_25 (w := (own_lc (L0.getD i 0) f)) rfl (pc' := 26) rfl ?_
        by_cases hc307 : (L0.getD i 0) = f
        · have he : own_go L0 f ((k + 1) + 1) i = i := if_pos (Or.inr hc307)
          refine k_ifYes X d_prog_23_4_26 ((if0 _ _).trans (teq (own_lc_eq hc307)).1) (pc' := 40) (by decide) (by decide) ?_
          refine k_iload X d_prog_23_4_40 rfl (pc' := 42) rfl ?_
          exact k_retFI X d_prog_23_4_42 rfl K0_h0 ⟨_, rfl, by rw [hs, he], trivial⟩ (by decide) (by decide)
        · refine k_ifNo X d_prog_23_4_26 ((if0 _ _).trans (feq (own_lc_ne hc307)).1) (pc' := 29) rfl ?_
          refine k_iload X d_prog_23_4_29 rfl (pc' := 31) rfl ?_
          refine k_iconst X d_prog_23_4_31 (w := (1 : Int32)) rfl (pc' := 32) rfl ?_
          refine k_iadd X d_prog_23_4_32 (w := ((Int32.ofNat i) + (1 : Int32))) rfl (pc' := 33) rfl ?_
          refine k_iloadN X d_prog_23_4_33 rfl (pc' := 34) rfl ?_
          refine k_iand X d_prog_23_4_34 (w := (Int32.ofNat ((i + 1) % 1024))) (own_nx i hi) (pc' := 35) rfl ?_
          refine k_istore X d_prog_23_4_35 (Ls' := #[.val (.ref t), .val (.long f), .second, .val (.int (1023 : Int32)), .val (.int (Int32.ofNat ((i + 1) % 1024)))]) rfl (pc' := 37) rfl ?_
          refine k_goto X d_prog_23_4_37 (pc' := 11) (by decide) (by decide) ?_
          have hs2 : own_slot L0 f = own_go L0 f (k + 1) ((i + 1) % 1024) := by rw [hs]; exact if_neg (fun q => q.elim hc306 hc307)
          exact ih _ _ _ (Nat.mod_lt _ (by decide)) hs2 (by obtain ⟨j, hj, hz⟩ := hx; match j with | 0 => rw [Nat.add_zero, Nat.mod_eq_of_lt hi] at hz; exact absurd hz hc306 | j + 1 => exact ⟨j, by omega, by rw [Nat.mod_add_mod, Nat.add_assoc, Nat.add_comm 1 j]; exact hz⟩) X
  refine k_aloadN X0 d_prog_23_4_0 rfl rfl (pc' := 1) rfl ?_
  refine k_arlen X0 d_prog_23_4_1 q0 (pc' := 2) rfl ?_
  refine k_iconst X0 d_prog_23_4_2 (w := (1 : Int32)) rfl (pc' := 3) rfl ?_
  refine k_isub X0 d_prog_23_4_3 (w := (1023 : Int32)) (by decide) (pc' := 4) rfl ?_
  refine k_istoreN X0 d_prog_23_4_4 (Ls' := #[.val (.ref t), .val (.long f), .second, .val (.int (1023 : Int32)), .unset]) rfl (pc' := 5) rfl ?_
  refine k_lloadN X0 d_prog_23_4_5 rfl (pc' := 6) rfl ?_
  refine k_l2i X0 d_prog_23_4_6 (w := (f.toInt32)) rfl (pc' := 7) rfl ?_
  refine k_iloadN X0 d_prog_23_4_7 rfl (pc' := 8) rfl ?_
  refine k_iand X0 d_prog_23_4_8 (w := (Int32.ofNat (own_st f))) (own_st_eq f) (pc' := 9) rfl ?_
  refine k_istore X0 d_prog_23_4_9 (Ls' := #[.val (.ref t), .val (.long f), .second, .val (.int (1023 : Int32)), .val (.int (Int32.ofNat (own_st f)))]) rfl (pc' := 11) rfl ?_
  exact loop 3 _ _ _ (own_st_lt f) rfl (hF _ (own_st_lt f)) X0
set_option maxRecDepth 65536 in
set_option maxHeartbeats 40000000 in
theorem own_fsI (l : Launch) (Z : State) (a0 : Array Value) (hw : ∀ d ∈ tables_1, d.before a0 Z = true) {zc : Int32} {fm : Value}  (G : Gl Z zc fm) (n0 : Nat) (h0 : Heap) (O0 : Old Z n0 h0) (o : Nat) (gw0 : n0 ≤ o) (q0 : Exa Z h0 o "com/example/tuned_odds/tunedodds/index/FingerprintSet") (q1 : Fld Z h0 o "com/example/tuned_odds/tunedodds/index/FingerprintSet" "slots" "[J" .null) (q2 : Fld Z h0 o "com/example/tuned_odds/tunedodds/index/FingerprintSet" "size" "I" (.int (0 : Int32))) :
    MetF l [] Z n0 (⟨"com/example/tuned_odds/tunedodds/index/FingerprintSet", "<init>", "()V"⟩ : MethodName) prog_23_method_1_code 1 (Option.none : Option FieldType) ({ frames := 1, cells := 1, slots := 1024, locals := 12 } : Room) #[(.ref o)] h0 [o] (fun r h' => r = none ∧ ∃ (t : Nat), ∃ (kt : ClassId), (Exa Z h' o "com/example/tuned_odds/tunedodds/index/FingerprintSet") ∧ (Fld Z h' o "com/example/tuned_odds/tunedodds/index/FingerprintSet" "slots" "[J" (.ref t)) ∧ (Fld Z h' o "com/example/tuned_odds/tunedodds/index/FingerprintSet" "size" "I" (.int (0 : Int32))) ∧ (Arv Z h' t kt .long (1024 : Int32) ((List.replicate 1024 (0 : Int64)).map Value.long) (.long (0 : Int64))) ∧ (h0.size ≤ t)) := by
  refine metF (plainFor_of_name pn_4) O0 (Ls := #[.val (.ref o)]) (fun m => by first | (simp [entryFrame, mkF, argsToLocals, Value.category]; done) | rfl) ?_
  intro p e s m below meth c T0 X0
  have K0_h0 := Keep.refl h0 [o]
  have n0le := X0.n0le
  have ltq0 := own_n q0.lt
  have ltq1 := own_n q1.lt
  have ltq2 := own_n q2.lt
  obtain ⟨G_cs, G_zc, G_fm, isref_fm, G_assertionsDisabled, G_HI_BYTE_SHIFT, G_LO_BYTE_SHIFT⟩ := id G
  refine k_aloadN X0 d_prog_23_1_0 rfl rfl (pc' := 1) rfl ?_
  refine k_initO X0 d_prog_23_1_1 (w_32 hw) (w_20 hw) (w_21 hw) rfl (by decide) (W := 0) (Nat.le_of_eq rfl) (by decide) (pc' := 4) rfl fun T308 X309 => ?_
  refine k_aloadN X309 d_prog_23_1_4 rfl rfl (pc' := 5) rfl ?_
  refine k_sipush X309 d_prog_23_1_5 (w := (1024 : Int32)) rfl (pc' := 8) rfl ?_
  refine k_newP X309 d_prog_23_1_8 (w_33 hw) (by decide) (cap := 1024) (by decide) (by decide) (by decide) (by decide) (pc' := 10) rfl fun T310 h310 b310 k310 g310 X310 K310 V310 S310 lt310 ge310 => ?_
  have sz_h310 := K310.1
  have K0_h310 : Keep h0 h310 [o] := K0_h0.trans K310 all0
  have Vq : Arv Z h310 b310 k310 .long (1024 : Int32) ((List.replicate 1024 (0 : Int64)).map Value.long) (.long (0 : Int64)) := Arv.pad V310 (own_padl 1024)
  have c311 := (q1.keep K310 nin0)
  have c312 := (q0.keep K310)
  have ge314 : n0 ≤ o := by omega
  refine k_putF X310 d_prog_23_1_10 (host := "") (Or.inl (w_34 hw)) Via.refl c311 c312 (Or.inl (w_35 hw)) (w_27 hw) (ty := (.array .long)) (by decide) rfl rfl trivial ge314 (pc' := 13) rfl fun T313 h313 L313 X313 W313 K313 => ?_
  have sz_h313 := K313.1
  have K0_h313 : Keep h0 h313 [o] := K0_h310.trans K313 (allS (Or.inl (List.mem_of_getElem? (i := 0) rfl)) all0)
  have F313 := c311.same W313
  have c315 := (c312.keep K313)
  have c316 := ((q2.keep K310 nin0).other W313 (Or.inr (slot_ne (Or.inl (w_83 hw)) (Or.inl (w_35 hw)) (by decide) (t := .int) (t' := (.array .long)) (by decide) (by decide))))
  have ne317 : (b310 : Nat) ≠ o := own_ne (by omega)
  have c318 := (Vq.keep K313 (ninS ne317 nin0))
  exact k_retFV X313 d_prog_23_1_13 rfl K0_h313 ⟨rfl, _, _, c315, F313, c316, c318, by omega⟩ (by decide) (by decide)
set_option maxRecDepth 65536 in
set_option maxHeartbeats 40000000 in
theorem own_add0 (l : Launch) (Z : State) (a0 : Array Value) (hw : ∀ d ∈ tables_1, d.before a0 Z = true) {zc : Int32} {fm : Value}  (G : Gl Z zc fm) (n0 : Nat) (h0 : Heap) (O0 : Old Z n0 h0) (o : Nat) (x : Nat) (t : Nat) (kt : ClassId) (L0 : List Int64) (sv : Int32) (t7 : Nat) (kt7 : ClassId) (cd7 : Int32) (zz7 : Int32) (bs7 : List Value) (cs7 : List Int32) (hn : cs7.length ≤ 2) (hr : own_chs cs7) (hT : own_T 3 L0) (hl : L0.length = 1024) (hhit : own_hit L0 (own_fp cs7))  (q0 : Exa Z h0 o "com/example/tuned_odds/tunedodds/index/FingerprintSet") (q1 : Fld Z h0 o "com/example/tuned_odds/tunedodds/index/FingerprintSet" "slots" "[J" (.ref t)) (q2 : Fld Z h0 o "com/example/tuned_odds/tunedodds/index/FingerprintSet" "size" "I" (.int sv)) (q3 : Arv Z h0 t kt .long (1024 : Int32) (L0.map Value.long) (.long (0 : Int64))) (q4 : Exa Z h0 x "java/lang/String") (q5 : Fld Z h0 x "java/lang/String" "value" "[B" (.ref t7)) (q6 : Fld Z h0 x "java/lang/String" "coder" "B" (.int cd7)) (q7 : Arv Z h0 t7 kt7 .byte zz7 bs7 (.int (0 : Int32))) (q8 : own_cod cs7 cd7 zz7 bs7) :
    MetF l [] Z n0 (⟨"com/example/tuned_odds/tunedodds/index/FingerprintSet", "add", "(Ljava/lang/String;)Z"⟩ : MethodName) prog_23_method_2_code 5 (Option.some FieldType.boolean) ({ frames := 6, cells := 0, slots := 0, locals := 83 } : Room) #[(.ref o), (.ref x)] h0 [] (fun r h' => ∃ w, r = some w ∧ w = (.int (0 : Int32)) ∧ True) := by
  refine metF (plainFor_of_name pn_4) O0 (Ls := #[.val (.ref o), .val (.ref x), .unset, .unset, .unset]) (fun m => by first | (simp [entryFrame, mkF, argsToLocals, Value.category]; done) | rfl) ?_
  intro p e s m below meth c T0 X0
  have K0_h0 := Keep.refl h0 []
  have n0le := X0.n0le
  have ltq0 := own_n q0.lt
  have ltq1 := own_n q1.lt
  have ltq2 := own_n q2.lt
  have ltq3 := own_n q3.lt
  have ltq4 := own_n q4.lt
  have ltq5 := own_n q5.lt
  have ltq6 := own_n q6.lt
  have ltq7 := own_n q7.lt
  obtain ⟨G_cs, G_zc, G_fm, isref_fm, G_assertionsDisabled, G_HI_BYTE_SHIFT, G_LO_BYTE_SHIFT⟩ := id G
  have hF := own_Tfree hT
  have hslt := own_slot_lt L0 (own_fp cs7)
  have hlt : Int32.ofNat (own_slot L0 (own_fp cs7)) < (1024 : Int32) := own_lt hslt (by decide)
  refine k_aloadN X0 d_prog_23_2_0 rfl rfl (pc' := 1) rfl ?_
  refine k_callSVF X0 (y := (⟨"com/example/tuned_odds/tunedodds/index/FingerprintSet", "fingerprint", "(Ljava/lang/String;)J"⟩ : MethodName)) d_prog_23_2_1 (w_41 hw) (w_42 hw) (w_28 hw) (w_43 hw) (by decide) (argsL := [(.ref x)]) (rest := []) (own_fpc l Z a0 hw G n0 h0 X0.old x t7 kt7 cd7 zz7 bs7 cs7 hn hr q4 q5 q6 q7 q8) rfl pd_20 rfl rfl (by decide) (W := 0) (Nat.le_of_eq rfl) (by decide) (by decide) (by decide) all0 (pc' := 4) rfl ?_
  rintro _ T319 h319 L319 X319 K319 ⟨rfl, -⟩
  have sz_h319 := K319.1
  have K0_h319 : Keep h0 h319 [] := K0_h0.trans K319 all0
  refine k_lstoreN X319 d_prog_23_2_4 (Ls' := #[.val (.ref o), .val (.ref x), .val (.long (own_fp cs7)), .second, .unset]) rfl (pc' := 5) rfl ?_
  refine k_aloadN X319 d_prog_23_2_5 rfl rfl (pc' := 6) rfl ?_
  have c321 := (q1.keep K319 nin0)
  refine k_getF X319 d_prog_23_2_6 (host := "") (Or.inl (w_34 hw)) Via.refl c321 (pc' := 9) rfl fun T322 X323 => ?_
  refine k_lloadN X323 d_prog_23_2_9 rfl (pc' := 10) rfl ?_
  have c324 := (q3.keep K319 nin0)
  refine k_callSVF X323 (y := (⟨"com/example/tuned_odds/tunedodds/index/FingerprintSet", "find", "([JJ)I"⟩ : MethodName)) d_prog_23_2_10 (w_79 hw) (w_80 hw) (w_28 hw) (w_81 hw) (by decide) (argsL := [(.ref t), (.long (own_fp cs7))]) (rest := []) (own_find l Z a0 hw G n0 h319 X323.old t kt (own_fp cs7) L0 hF c324) rfl pd_21 rfl rfl (by decide) (W := 0) (Nat.le_of_eq rfl) (by decide) (by decide) (by decide) all0 (pc' := 13) rfl ?_
  rintro _ T325 h325 L325 X325 K325 ⟨rfl, -⟩
  have sz_h325 := K325.1
  have K0_h325 : Keep h0 h325 [] := K0_h319.trans K325 all0
  refine k_istore X325 d_prog_23_2_13 (Ls' := #[.val (.ref o), .val (.ref x), .val (.long (own_fp cs7)), .second, .val (.int (Int32.ofNat (own_slot L0 (own_fp cs7))))]) rfl (pc' := 15) rfl ?_
  refine k_aloadN X325 d_prog_23_2_15 rfl rfl (pc' := 16) rfl ?_
  have c327 := (c321.keep K325 nin0)
  refine k_getF X325 d_prog_23_2_16 (host := "") (Or.inl (w_34 hw)) Via.refl c327 (pc' := 19) rfl fun T328 X329 => ?_
  refine k_iload X329 d_prog_23_2_19 rfl (pc' := 21) rfl ?_
  have c330 := (c324.keep K325 nin0)
  refine k_laload X329 d_prog_23_2_21 c330 (own_nn (by omega)) hlt (v := (.long (L0.getD (own_slot L0 (own_fp cs7)) 0))) (own_getl' L0 (by omega)) (pc' := 22) rfl ?_
  refine k_lloadN X329 d_prog_23_2_22 rfl (pc' := 23) rfl ?_
  refine k_lcmp X329 d_prog_23_2_23 (w := (own_lc (L0.getD (own_slot L0 (own_fp cs7)) 0) (own_fp cs7))) rfl (pc' := 24) rfl ?_
  refine k_ifNo X329 d_prog_23_2_24 ((if0 _ _).trans (teq (own_lc_eq hhit)).2) (pc' := 27) rfl ?_
  refine k_iconst X329 d_prog_23_2_27 (w := (0 : Int32)) rfl (pc' := 28) rfl ?_
  exact k_retFN X329 (w := (0 : Int32)) d_prog_23_2_28 (t := .boolean) rfl (by simp) rfl K0_h325 ⟨_, rfl, rfl, trivial⟩ (by decide) (by decide)
set_option maxRecDepth 65536 in
set_option maxHeartbeats 40000000 in
theorem own_add1 (l : Launch) (Z : State) (a0 : Array Value) (hw : ∀ d ∈ tables_1, d.before a0 Z = true) {zc : Int32} {fm : Value}  (G : Gl Z zc fm) (n0 : Nat) (h0 : Heap) (O0 : Old Z n0 h0) (o : Nat) (x : Nat) (t : Nat) (kt : ClassId) (L0 : List Int64) (sv : Int32) (t7 : Nat) (kt7 : ClassId) (cd7 : Int32) (zz7 : Int32) (bs7 : List Value) (cs7 : List Int32) (hn : cs7.length ≤ 2) (hr : own_chs cs7) (hT : own_T 3 L0) (hl : L0.length = 1024) (sz : Nat) (hsv : sv = Int32.ofNat sz) (hsz : sz ≤ 3) (hmiss : ¬ own_hit L0 (own_fp cs7)) (hfar : o < t ∨ t < o) (gw0 : n0 ≤ o) (gw1 : n0 ≤ t) (q0 : Exa Z h0 o "com/example/tuned_odds/tunedodds/index/FingerprintSet") (q1 : Fld Z h0 o "com/example/tuned_odds/tunedodds/index/FingerprintSet" "slots" "[J" (.ref t)) (q2 : Fld Z h0 o "com/example/tuned_odds/tunedodds/index/FingerprintSet" "size" "I" (.int sv)) (q3 : Arv Z h0 t kt .long (1024 : Int32) (L0.map Value.long) (.long (0 : Int64))) (q4 : Exa Z h0 x "java/lang/String") (q5 : Fld Z h0 x "java/lang/String" "value" "[B" (.ref t7)) (q6 : Fld Z h0 x "java/lang/String" "coder" "B" (.int cd7)) (q7 : Arv Z h0 t7 kt7 .byte zz7 bs7 (.int (0 : Int32))) (q8 : own_cod cs7 cd7 zz7 bs7) :
    MetF l [] Z n0 (⟨"com/example/tuned_odds/tunedodds/index/FingerprintSet", "add", "(Ljava/lang/String;)Z"⟩ : MethodName) prog_23_method_2_code 5 (Option.some FieldType.boolean) ({ frames := 6, cells := 0, slots := 0, locals := 83 } : Room) #[(.ref o), (.ref x)] h0 [o, t] (fun r h' => ∃ w, r = some w ∧ w = (.int (1 : Int32)) ∧ (Exa Z h' o "com/example/tuned_odds/tunedodds/index/FingerprintSet") ∧ (Fld Z h' o "com/example/tuned_odds/tunedodds/index/FingerprintSet" "slots" "[J" (.ref t)) ∧ (Fld Z h' o "com/example/tuned_odds/tunedodds/index/FingerprintSet" "size" "I" (.int (Int32.ofNat (sz + 1)))) ∧ (Arv Z h' t kt .long (1024 : Int32) ((L0.set (own_slot L0 (own_fp cs7)) (own_fp cs7)).map Value.long) (.long (0 : Int64)))) := by
  refine metF (plainFor_of_name pn_4) O0 (Ls := #[.val (.ref o), .val (.ref x), .unset, .unset, .unset]) (fun m => by first | (simp [entryFrame, mkF, argsToLocals, Value.category]; done) | rfl) ?_
  intro p e s m below meth c T0 X0
  have K0_h0 := Keep.refl h0 [o, t]
  have n0le := X0.n0le
  have ltq0 := own_n q0.lt
  have ltq1 := own_n q1.lt
  have ltq2 := own_n q2.lt
  have ltq3 := own_n q3.lt
  have ltq4 := own_n q4.lt
  have ltq5 := own_n q5.lt
  have ltq6 := own_n q6.lt
  have ltq7 := own_n q7.lt
  obtain ⟨G_cs, G_zc, G_fm, isref_fm, G_assertionsDisabled, G_HI_BYTE_SHIFT, G_LO_BYTE_SHIFT⟩ := id G
  have hF := own_Tfree hT
  have hslt := own_slot_lt L0 (own_fp cs7)
  have hlt : Int32.ofNat (own_slot L0 (own_fp cs7)) < (1024 : Int32) := own_lt hslt (by decide)
  refine k_aloadN X0 d_prog_23_2_0 rfl rfl (pc' := 1) rfl ?_
  refine k_callSVF X0 (y := (⟨"com/example/tuned_odds/tunedodds/index/FingerprintSet", "fingerprint", "(Ljava/lang/String;)J"⟩ : MethodName)) d_prog_23_2_1 (w_41 hw) (w_42 hw) (w_28 hw) (w_43 hw) (by decide) (argsL := [(.ref x)]) (rest := []) (own_fpc l Z a0 hw G n0 h0 X0.old x t7 kt7 cd7 zz7 bs7 cs7 hn hr q4 q5 q6 q7 q8) rfl pd_20 rfl rfl (by decide) (W := 0) (Nat.le_of_eq rfl) (by decide) (by decide) (by decide) all0 (pc' := 4) rfl ?_
  rintro _ T331 h331 L331 X331 K331 ⟨rfl, -⟩
  have sz_h331 := K331.1
  have K0_h331 : Keep h0 h331 [o, t] := K0_h0.trans K331 all0
  refine k_lstoreN X331 d_prog_23_2_4 (Ls' := #[.val (.ref o), .val (.ref x), .val (.long (own_fp cs7)), .second, .unset]) rfl (pc' := 5) rfl ?_
  refine k_aloadN X331 d_prog_23_2_5 rfl rfl (pc' := 6) rfl ?_
  have c333 := (q1.keep K331 nin0)
  refine k_getF X331 d_prog_23_2_6 (host := "") (Or.inl (w_34 hw)) Via.refl c333 (pc' := 9) rfl fun T334 X335 => ?_
  refine k_lloadN X335 d_prog_23_2_9 rfl (pc' := 10) rfl ?_
  have c336 := (q3.keep K331 nin0)
  refine k_callSVF X335 (y := (⟨"com/example/tuned_odds/tunedodds/index/FingerprintSet", "find", "([JJ)I"⟩ : MethodName)) d_prog_23_2_10 (w_79 hw) (w_80 hw) (w_28 hw) (w_81 hw) (by decide) (argsL := [(.ref t), (.long (own_fp cs7))]) (rest := []) (own_find l Z a0 hw G n0 h331 X335.old t kt (own_fp cs7) L0 hF c336) rfl pd_21 rfl rfl (by decide) (W := 0) (Nat.le_of_eq rfl) (by decide) (by decide) (by decide) all0 (pc' := 13) rfl ?_
  rintro _ T337 h337 L337 X337 K337 ⟨rfl, -⟩
  have sz_h337 := K337.1
  have K0_h337 : Keep h0 h337 [o, t] := K0_h331.trans K337 all0
  refine k_istore X337 d_prog_23_2_13 (Ls' := #[.val (.ref o), .val (.ref x), .val (.long (own_fp cs7)), .second, .val (.int (Int32.ofNat (own_slot L0 (own_fp cs7))))]) rfl (pc' := 15) rfl ?_
  refine k_aloadN X337 d_prog_23_2_15 rfl rfl (pc' := 16) rfl ?_
  have c339 := (c333.keep K337 nin0)
  refine k_getF X337 d_prog_23_2_16 (host := "") (Or.inl (w_34 hw)) Via.refl c339 (pc' := 19) rfl fun T340 X341 => ?_
  refine k_iload X341 d_prog_23_2_19 rfl (pc' := 21) rfl ?_
  have c342 := (c336.keep K337 nin0)
  refine k_laload X341 d_prog_23_2_21 c342 (own_nn (by omega)) hlt (v := (.long (L0.getD (own_slot L0 (own_fp cs7)) 0))) (own_getl' L0 (by omega)) (pc' := 22) rfl ?_
  refine k_lloadN X341 d_prog_23_2_22 rfl (pc' := 23) rfl ?_
  refine k_lcmp X341 d_prog_23_2_23 (w := (own_lc (L0.getD (own_slot L0 (own_fp cs7)) 0) (own_fp cs7))) rfl (pc' := 24) rfl ?_
  refine k_ifYes X341 d_prog_23_2_24 ((if0 _ _).trans (feq (own_lc_ne hmiss)).2) (pc' := 29) (by decide) (by decide) ?_
  refine k_aloadN X341 d_prog_23_2_29 rfl rfl (pc' := 30) rfl ?_
  refine k_getF X341 d_prog_23_2_30 (host := "") (Or.inl (w_34 hw)) Via.refl c339 (pc' := 33) rfl fun T343 X344 => ?_
  refine k_iload X344 d_prog_23_2_33 rfl (pc' := 35) rfl ?_
  refine k_lloadN X344 d_prog_23_2_35 rfl (pc' := 36) rfl ?_
  have ge346 : n0 ≤ t := by omega
  refine k_lastore X344 ((own_slot L0 (own_fp cs7))) d_prog_23_2_36 c342 (own_nn (by omega)) hlt (own_clamp (by omega)) (by rw [List.length_map, hl]; exact hslt) (vs' := ((L0.set (own_slot L0 (own_fp cs7)) (own_fp cs7)).map Value.long)) (own_lset _ _ _) trivial ge346 (pc' := 37) rfl fun T345 h345 L345 X345 K345 V345 => ?_
  have sz_h345 := K345.1
  have K0_h345 : Keep h0 h345 [o, t] := K0_h337.trans K345 (allS (Or.inl (List.mem_of_getElem? (i := 1) rfl)) all0)
  refine k_aloadN X345 d_prog_23_2_37 rfl rfl (pc' := 38) rfl ?_
  refine k_dup X345 d_prog_23_2_38 rfl (pc' := 39) rfl ?_
  have ne347 : (o : Nat) ≠ t := own_ne (by omega)
  have c348 := (((q2.keep K331 nin0).keep K337 nin0).keep K345 (ninS ne347 nin0))
  refine k_getF X345 d_prog_23_2_39 (host := "") (Or.inl (w_82 hw)) Via.refl c348 (pc' := 42) rfl fun T349 X350 => ?_
  refine k_iconst X350 d_prog_23_2_42 (w := (1 : Int32)) rfl (pc' := 43) rfl ?_
  refine k_iadd X350 d_prog_23_2_43 (w := (Int32.ofNat (sz + 1))) (by rw [hsv]; exact own_succ sz) (pc' := 44) rfl ?_
  have c351 := (((q0.keep K331).keep K337).keep K345)
  have ge353 : n0 ≤ o := by omega
  refine k_putF X350 d_prog_23_2_44 (host := "") (Or.inl (w_82 hw)) Via.refl c348 c351 (Or.inl (w_83 hw)) (w_27 hw) (ty := .int) (by decide) rfl rfl trivial ge353 (pc' := 47) rfl fun T352 h352 L352 X352 W352 K352 => ?_
  have sz_h352 := K352.1
  have K0_h352 : Keep h0 h352 [o, t] := K0_h345.trans K352 (allS (Or.inl (List.mem_of_getElem? (i := 0) rfl)) all0)
  have F352 := c348.same W352
  refine k_aloadN X352 d_prog_23_2_47 rfl rfl (pc' := 48) rfl ?_
  refine k_getF X352 d_prog_23_2_48 (host := "") (Or.inl (w_82 hw)) Via.refl F352 (pc' := 51) rfl fun T354 X355 => ?_
  refine k_aloadN X355 d_prog_23_2_51 rfl rfl (pc' := 52) rfl ?_
  have c356 := ((c339.keep K345 (ninS ne347 nin0)).other W352 (Or.inr (slot_ne (Or.inl (w_35 hw)) (Or.inl (w_83 hw)) (by decide) (t := (.array .long)) (t' := .int) (by decide) (by decide))))
  refine k_getF X355 d_prog_23_2_52 (host := "") (Or.inl (w_34 hw)) Via.refl c356 (pc' := 55) rfl fun T357 X358 => ?_
  have ne359 : (t : Nat) ≠ o := own_ne (by omega)
  have c360 := (V345.keep K352 (ninS ne359 nin0))
  refine k_arlen X358 d_prog_23_2_55 c360 (pc' := 56) rfl ?_
  refine k_iconst X358 d_prog_23_2_56 (w := (3 : Int32)) rfl (pc' := 57) rfl ?_
  refine k_idiv X358 d_prog_23_2_57 (by decide) (w := (341 : Int32)) (by decide) (pc' := 58) rfl ?_
  refine k_iconst X358 d_prog_23_2_58 (w := (2 : Int32)) rfl (pc' := 59) rfl ?_
  refine k_imul X358 d_prog_23_2_59 (w := (682 : Int32)) (by decide) (pc' := 60) rfl ?_
  refine k_icmpYes X358 d_prog_23_2_60 (flt (own_nlt (show sz + 1 ≤ 682 by omega) (by decide))).2.2.2 (pc' := 67) (by decide) (by decide) ?_
  refine k_iconst X358 d_prog_23_2_67 (w := (1 : Int32)) rfl (pc' := 68) rfl ?_
  have c361 := (c351.keep K352)
  exact k_retFN X358 (w := (1 : Int32)) d_prog_23_2_68 (t := .boolean) rfl (by simp) rfl K0_h352 ⟨_, rfl, rfl, c361, c356, F352, c360⟩ (by decide) (by decide)
set_option maxRecDepth 65536 in
set_option maxHeartbeats 40000000 in
theorem own_law (l : Launch) (Z : State) (a0 : Array Value) (hw : ∀ d ∈ tables_1, d.before a0 Z = true) {zc : Int32} {fm : Value} (G : Gl Z zc fm) (n0 : Nat) (h0 : Heap) (O0 : Old Z n0 h0) (p0 : Int32) (p1 : Int32) (p2 : Int32) (p3 : Int32) :
    MetH l tables_1 Z EL n0 (⟨"com/example/tuned_odds/tunedodds/index/FingerprintSetAddPinLaw", "law", "(IIII)Z"⟩ : MethodName) code 20 (some .boolean) room_1 #[(.int p0), (.int p1), (.int p2), (.int p3)] h0 [] (fun r v' h' => ∃ w, r = some w ∧ w = .int (1 : Int32) ∧ True) := by
  refine metH (hEL hw) (plainFor_of_name pn_5) O0 (Ls := #[.val (.int p0), .val (.int p1), .val (.int p2), .val (.int p3), .unset, .unset, .unset, .unset, .unset, .unset, .unset, .unset, .unset, .unset, .unset, .unset, .unset, .unset, .unset, .unset]) (fun m => by first | (simp [entryFrame, mkF, argsToLocals, Value.category]; done) | rfl) ?_
  intro p e s m below meth c T0 v0 X0 hSf
  have K0_h0 := Keep.refl h0 []
  have n0le := X0.n0le
  obtain ⟨G_cs, G_zc, G_fm, isref_fm, G_assertionsDisabled, G_HI_BYTE_SHIFT, G_LO_BYTE_SHIFT⟩ := id G
  have tail : ∀ (T : State) (h : Heap) (L : List Loc) (v : Vm) (s0 s2 u : Nat) (kk ca cb : Int32) (us : List Int32) (t1 : Nat) (k1 : ClassId) (cd1 zz1 : Int32) (bs1 : List Value) (t2 : Nat) (k2 : ClassId) (cd2 zz2 : Int32) (bs2 : List Value) (t3 : Nat) (k3 : ClassId) (cd3 zz3 : Int32) (bs3 : List Value), (¬ ca < 0 ∧ ¬ 65535 < ca) → (¬ cb < 0 ∧ ¬ 65535 < cb) → own_chs us → us.length ≤ 2 → own_cod [ca] cd1 zz1 bs1 → own_cod [cb] cd2 zz2 bs2 → own_cod us cd3 zz3 bs3 → WP p l e room_1 (s.setVm v) m #[(.int p0), (.int p1), (.int p2), (.int p3)] below meth c Z "com/example/tuned_odds/tunedodds/index/FingerprintSetAddPinLaw" "law" code 20 (some .boolean) n0 (InvH Z a0 EL s v) (Safe Z EL v) T h L 20 120 → Keep h0 h [] → Exa Z h s0 "java/lang/String" → Fld Z h s0 "java/lang/String" "value" "[B" (.ref t1) → Fld Z h s0 "java/lang/String" "coder" "B" (.int cd1) → Arv Z h t1 k1 .byte zz1 bs1 (.int (0 : Int32)) → Exa Z h s2 "java/lang/String" → Fld Z h s2 "java/lang/String" "value" "[B" (.ref t2) → Fld Z h s2 "java/lang/String" "coder" "B" (.int cd2) → Arv Z h t2 k2 .byte zz2 bs2 (.int (0 : Int32)) → Exa Z h u "java/lang/String" → Fld Z h u "java/lang/String" "value" "[B" (.ref t3) → Fld Z h u "java/lang/String" "coder" "B" (.int cd3) → Arv Z h t3 k3 .byte zz3 bs3 (.int (0 : Int32)) → Run p.tables e below (PH Z EL s below n0 h0 [] (fun r v' h' => ∃ w, r = some w ∧ w = .int (1 : Int32) ∧ True) room_1.cells room_1.slots) T (mkF m 88 #[.val (.int p0), .val (.int p1), .val (.int p2), .val (.int p3), .val (.int ca), .val (.int cb), .val (.ref s0), .val (.ref s2), .val (.int kk), .val (.ref u), .unset, .unset, .unset, .unset, .unset, .unset, .unset, .unset, .unset, .unset] []) := by
    intro T h L v s0 s2 u kk ca cb us t1 k1 cd1 zz1 bs1 t2 k2 cd2 zz2 bs2 t3 k3 cd3 zz3 bs3 rca rcb hus hul hcod1 hcod2 hcod3 X K f0 f1 f2 f3 f4 f5 f6 f7 f8 f9 f10 f11
    have nle := X.n0le
    have lh0 := K.1
    have lf0 := own_n f0.lt
    have lf3 := own_n f3.lt
    have lf4 := own_n f4.lt
    have lf7 := own_n f7.lt
    have lf8 := own_n f8.lt
    have lf11 := own_n f11.lt
    have ka : own_chs [ca] := (own_cS rca own_c0)
    have kb : own_chs [cb] := (own_cS rcb own_c0)
    have nfa := own_fp_nz [ca]
    have nfb := own_fp_nz [cb]
    have nfu := own_fp_nz us
    have m0 := own_no0 nfa
    have T0 := own_T0
    have F0 := own_Tfree (own_Tup (n := 3) T0 (by decide))
    refine k_newO X at_88 (w_26 hw) (w_27 hw) (w_28 hw) (by decide) (by decide) (pc' := 91) rfl fun T362 h362 b362 g362 X362 K362 E362 D362 S362 lt362 ge362 => ?_
    have sz_h362 := K362.1
    have K0_h362 : Keep h0 h362 [] := K.trans K362 all0
    have Fn362_slots : Fld Z h362 b362 "com/example/tuned_odds/tunedodds/index/FingerprintSet" "slots" "[J" .null := D362 (Or.inl (w_35 hw)) (ty := (.array .long)) (by decide)
    have Fn362_size : Fld Z h362 b362 "com/example/tuned_odds/tunedodds/index/FingerprintSet" "size" "I" (.int (0 : Int32)) := D362 (Or.inl (w_83 hw)) (ty := .int) (by decide)
    refine k_dup X362 at_91 rfl (pc' := 92) rfl ?_
    have ge363 : n0 ≤ b362 := by omega
    refine k_callPNF X362 (y := (⟨"com/example/tuned_odds/tunedodds/index/FingerprintSet", "<init>", "()V"⟩ : MethodName)) at_92 (w_29 hw) (w_30 hw) (w_28 hw) (w_31 hw) (by decide) rfl rfl (argsL := []) (rest := [(.ref b362)]) (own_fsI l Z a0 hw G n0 h362 X362.old b362 ge363 E362 Fn362_slots Fn362_size) rfl pd_22 rfl rfl (by decide) (W := 1) (Nat.le_of_eq rfl) (by decide) (by decide) (by decide) (allS ⟨S362, ge363⟩ all0) (pc' := 95) rfl ?_
    rintro T366 h366 L366 X366 K366 ⟨t_364, kt_365, q366_0, q366_1, q366_2, q366_3, q366_4⟩
    have sz_h366 := K366.1
    have od367 : h0.size ≤ b362 := by omega
    have K0_h366 : Keep h0 h366 [] := K0_h362.trans K366 (allS (Or.inr od367) all0)
    have lt366_0 := own_n q366_0.lt
    have lt366_1 := own_n q366_1.lt
    have lt366_2 := own_n q366_2.lt
    have lt366_3 := own_n q366_3.lt
    have sn366_4 := X362.sf K366 (allS ⟨S362, ge363⟩ all0) (X362.sfN q366_4)
    refine k_astore X366 at_95 rfl (Ls' := #[.val (.int p0), .val (.int p1), .val (.int p2), .val (.int p3), .val (.int ca), .val (.int cb), .val (.ref s0), .val (.ref s2), .val (.int kk), .val (.ref u), .val (.ref b362), .unset, .unset, .unset, .unset, .unset, .unset, .unset, .unset, .unset]) rfl (pc' := 97) rfl ?_
    refine k_aload X366 at_97 rfl rfl (pc' := 99) rfl ?_
    refine k_aload X366 at_99 rfl rfl (pc' := 101) rfl ?_
    have c368 := ((f0.keep K362).keep K366)
    have ne369 : (s0 : Nat) ≠ b362 := own_ne (by omega)
    have c370 := ((f1.keep K362 nin0).keep K366 (ninS ne369 nin0))
    have c371 := ((f2.keep K362 nin0).keep K366 (ninS ne369 nin0))
    have ne372 : (t1 : Nat) ≠ b362 := own_ne (by omega)
    have c373 := ((f3.keep K362 nin0).keep K366 (ninS ne372 nin0))
    have ge374 : n0 ≤ t_364 := by omega
    have c375 := (X362.sf K366 (allS ⟨S362, ge363⟩ all0) S362)
    refine k_callVVF X366 (y := (⟨"com/example/tuned_odds/tunedodds/index/FingerprintSet", "add", "(Ljava/lang/String;)Z"⟩ : MethodName)) at_101 (w_36 hw) (w_37 hw) (w_39 hw) (w_38 hw) (w_28 hw) (w_40 hw) (by decide) (notFace_of_selects (args := #[]) (mvT X366.hZ (w_39 hw))) q366_0 (argsL := [(.ref s0)]) (rest := []) (own_add1 l Z a0 hw G n0 h366 X366.old b362 s0 t_364 kt_365 (List.replicate 1024 (0 : Int64)) (0 : Int32) t1 k1 cd1 zz1 bs1 [ca] (by simp) ka (own_Tup (n := 3) T0 (by decide)) (own_Tup (n := 3) T0 (by decide)).1 0 rfl (by decide) m0 (by omega) ge363 ge374 q366_0 q366_1 q366_2 q366_3 c368 c370 c371 c373 hcod1) rfl pd_23 rfl rfl (by decide) (W := 0) (Nat.le_of_eq rfl) (by decide) (by decide) (by decide) (allS ⟨c375, ge363⟩ (allS ⟨sn366_4, ge374⟩ all0)) (pc' := 104) rfl ?_
    rintro _ T376 h376 L376 X376 K376 ⟨rfl, q376_0, q376_1, q376_2, q376_3⟩
    have sz_h376 := K376.1
    have od378 : h0.size ≤ t_364 := by omega
    have K0_h376 : Keep h0 h376 [] := K0_h366.trans K376 (allS (Or.inr od367) (allS (Or.inr od378) all0))
    have lt376_0 := own_n q376_0.lt
    have lt376_1 := own_n q376_1.lt
    have lt376_2 := own_n q376_2.lt
    have lt376_3 := own_n q376_3.lt
    refine k_istore X376 at_104 (Ls' := #[.val (.int p0), .val (.int p1), .val (.int p2), .val (.int p3), .val (.int ca), .val (.int cb), .val (.ref s0), .val (.ref s2), .val (.int kk), .val (.ref u), .val (.ref b362), .val (.int (1 : Int32)), .unset, .unset, .unset, .unset, .unset, .unset, .unset, .unset]) rfl (pc' := 106) rfl ?_
    refine k_aload X376 at_106 rfl rfl (pc' := 108) rfl ?_
    refine k_aload X376 at_108 rfl rfl (pc' := 110) rfl ?_
    have T1 : own_T 1 ((List.replicate 1024 (0 : Int64)).set (own_slot (List.replicate 1024 (0 : Int64)) (own_fp [ca])) (own_fp [ca])) := own_Tset T0 _ _
    have F1 := own_Tfree (own_Tup (n := 3) T1 (by decide))
    have a1 : own_hit ((List.replicate 1024 (0 : Int64)).set (own_slot (List.replicate 1024 (0 : Int64)) (own_fp [ca])) (own_fp [ca])) (own_fp [ca]) := own_hit_put T0.1 F0 m0
    by_cases hc379 : ca = cb
    · have hab := hc379
      have b2 : own_hit ((List.replicate 1024 (0 : Int64)).set (own_slot (List.replicate 1024 (0 : Int64)) (own_fp [ca])) (own_fp [ca])) (own_fp [cb]) := by rw [← hab]; exact a1
      have c380 := (((f4.keep K362).keep K366).keep K376)
      have ne381 : (s2 : Nat) ≠ b362 := own_ne (by omega)
      have ne382 : (s2 : Nat) ≠ t_364 := own_ne (by omega)
      have c383 := (((f5.keep K362 nin0).keep K366 (ninS ne381 nin0)).keep K376 (ninS ne381 (ninS ne382 nin0)))
      have c384 := (((f6.keep K362 nin0).keep K366 (ninS ne381 nin0)).keep K376 (ninS ne381 (ninS ne382 nin0)))
      have ne385 : (t2 : Nat) ≠ b362 := own_ne (by omega)
      have ne386 : (t2 : Nat) ≠ t_364 := own_ne (by omega)
      have c387 := (((f7.keep K362 nin0).keep K366 (ninS ne385 nin0)).keep K376 (ninS ne385 (ninS ne386 nin0)))
      refine k_callVVF X376 (y := (⟨"com/example/tuned_odds/tunedodds/index/FingerprintSet", "add", "(Ljava/lang/String;)Z"⟩ : MethodName)) at_110 (w_36 hw) (w_37 hw) (w_39 hw) (w_38 hw) (w_28 hw) (w_40 hw) (by decide) (notFace_of_selects (args := #[]) (mvT X376.hZ (w_39 hw))) q376_0 (argsL := [(.ref s2)]) (rest := []) (own_add0 l Z a0 hw G n0 h376 X376.old b362 s2 t_364 kt_365 ((List.replicate 1024 (0 : Int64)).set (own_slot (List.replicate 1024 (0 : Int64)) (own_fp [ca])) (own_fp [ca])) (Int32.ofNat (0 + 1)) t2 k2 cd2 zz2 bs2 [cb] (by simp) kb (own_Tup (n := 3) T1 (by decide)) (own_Tup (n := 3) T1 (by decide)).1 b2 q376_0 q376_1 q376_2 q376_3 c380 c383 c384 c387 hcod2) rfl pd_23 rfl rfl (by decide) (W := 0) (Nat.le_of_eq rfl) (by decide) (by decide) (by decide) all0 (pc' := 113) rfl ?_
      rintro _ T388 h388 L388 X388 K388 ⟨rfl, -⟩
      have sz_h388 := K388.1
      have K0_h388 : Keep h0 h388 [] := K0_h376.trans K388 all0
      have F2 := own_Tfree (own_Tup (n := 3) T1 (by decide))
      refine k_istore X388 at_113 (Ls' := #[.val (.int p0), .val (.int p1), .val (.int p2), .val (.int p3), .val (.int ca), .val (.int cb), .val (.ref s0), .val (.ref s2), .val (.int kk), .val (.ref u), .val (.ref b362), .val (.int (1 : Int32)), .val (.int (0 : Int32)), .unset, .unset, .unset, .unset, .unset, .unset, .unset]) rfl (pc' := 115) rfl ?_
      refine k_aload X388 at_115 rfl rfl (pc' := 117) rfl ?_
      refine k_aload X388 at_117 rfl rfl (pc' := 119) rfl ?_
      by_cases hc390 : own_hit ((List.replicate 1024 (0 : Int64)).set (own_slot (List.replicate 1024 (0 : Int64)) (own_fp [ca])) (own_fp [ca])) (own_fp us)
      · have c391 := (q376_0.keep K388)
        have c392 := (q376_1.keep K388 nin0)
        have c393 := (q376_2.keep K388 nin0)
        have c394 := (q376_3.keep K388 nin0)
        have c395 := ((((f8.keep K362).keep K366).keep K376).keep K388)
        have ne396 : (u : Nat) ≠ b362 := own_ne (by omega)
        have ne397 : (u : Nat) ≠ t_364 := own_ne (by omega)
        have c398 := ((((f9.keep K362 nin0).keep K366 (ninS ne396 nin0)).keep K376 (ninS ne396 (ninS ne397 nin0))).keep K388 nin0)
        have c399 := ((((f10.keep K362 nin0).keep K366 (ninS ne396 nin0)).keep K376 (ninS ne396 (ninS ne397 nin0))).keep K388 nin0)
        have ne400 : (t3 : Nat) ≠ b362 := own_ne (by omega)
        have ne401 : (t3 : Nat) ≠ t_364 := own_ne (by omega)
        have c402 := ((((f11.keep K362 nin0).keep K366 (ninS ne400 nin0)).keep K376 (ninS ne400 (ninS ne401 nin0))).keep K388 nin0)
        refine k_callVVF X388 (y := (⟨"com/example/tuned_odds/tunedodds/index/FingerprintSet", "add", "(Ljava/lang/String;)Z"⟩ : MethodName)) at_119 (w_36 hw) (w_37 hw) (w_39 hw) (w_38 hw) (w_28 hw) (w_40 hw) (by decide) (notFace_of_selects (args := #[]) (mvT X388.hZ (w_39 hw))) c391 (argsL := [(.ref u)]) (rest := []) (own_add0 l Z a0 hw G n0 h388 X388.old b362 u t_364 kt_365 ((List.replicate 1024 (0 : Int64)).set (own_slot (List.replicate 1024 (0 : Int64)) (own_fp [ca])) (own_fp [ca])) (Int32.ofNat (0 + 1)) t3 k3 cd3 zz3 bs3 us hul hus (own_Tup (n := 3) T1 (by decide)) (own_Tup (n := 3) T1 (by decide)).1 hc390 c391 c392 c393 c394 c395 c398 c399 c402 hcod3) rfl pd_23 rfl rfl (by decide) (W := 0) (Nat.le_of_eq rfl) (by decide) (by decide) (by decide) all0 (pc' := 122) rfl ?_
        rintro _ T403 h403 L403 X403 K403 ⟨rfl, -⟩
        have sz_h403 := K403.1
        have K0_h403 : Keep h0 h403 [] := K0_h388.trans K403 all0
        refine k_istore X403 at_122 (Ls' := #[.val (.int p0), .val (.int p1), .val (.int p2), .val (.int p3), .val (.int ca), .val (.int cb), .val (.ref s0), .val (.ref s2), .val (.int kk), .val (.ref u), .val (.ref b362), .val (.int (1 : Int32)), .val (.int (0 : Int32)), .val (.int (0 : Int32)), .unset, .unset, .unset, .unset, .unset, .unset]) rfl (pc' := 124) rfl ?_
        refine k_aload X403 at_124 rfl rfl (pc' := 126) rfl ?_
        refine k_aload X403 at_126 rfl rfl (pc' := 128) rfl ?_
        have c405 := (c391.keep K403)
        have c406 := (c392.keep K403 nin0)
        have c407 := (c393.keep K403 nin0)
        have c408 := (c394.keep K403 nin0)
        have c409 := (c395.keep K403)
        have c410 := (c398.keep K403 nin0)
        have c411 := (c399.keep K403 nin0)
        have c412 := (c402.keep K403 nin0)
        refine k_callVVF X403 (y := (⟨"com/example/tuned_odds/tunedodds/index/FingerprintSet", "add", "(Ljava/lang/String;)Z"⟩ : MethodName)) at_128 (w_36 hw) (w_37 hw) (w_39 hw) (w_38 hw) (w_28 hw) (w_40 hw) (by decide) (notFace_of_selects (args := #[]) (mvT X403.hZ (w_39 hw))) c405 (argsL := [(.ref u)]) (rest := []) (own_add0 l Z a0 hw G n0 h403 X403.old b362 u t_364 kt_365 ((List.replicate 1024 (0 : Int64)).set (own_slot (List.replicate 1024 (0 : Int64)) (own_fp [ca])) (own_fp [ca])) (Int32.ofNat (0 + 1)) t3 k3 cd3 zz3 bs3 us hul hus (own_Tup (n := 3) T1 (by decide)) (own_Tup (n := 3) T1 (by decide)).1 hc390 c405 c406 c407 c408 c409 c410 c411 c412 hcod3) rfl pd_23 rfl rfl (by decide) (W := 0) (Nat.le_of_eq rfl) (by decide) (by decide) (by decide) all0 (pc' := 131) rfl ?_
        rintro _ T413 h413 L413 X413 K413 ⟨rfl, -⟩
        have sz_h413 := K413.1
        have K0_h413 : Keep h0 h413 [] := K0_h403.trans K413 all0
        refine k_istore X413 at_131 (Ls' := #[.val (.int p0), .val (.int p1), .val (.int p2), .val (.int p3), .val (.int ca), .val (.int cb), .val (.ref s0), .val (.ref s2), .val (.int kk), .val (.ref u), .val (.ref b362), .val (.int (1 : Int32)), .val (.int (0 : Int32)), .val (.int (0 : Int32)), .val (.int (0 : Int32)), .unset, .unset, .unset, .unset, .unset]) rfl (pc' := 133) rfl ?_
        refine k_aload X413 at_133 rfl rfl (pc' := 135) rfl ?_
        refine k_aload X413 at_135 rfl rfl (pc' := 137) rfl ?_
        have c415 := (c405.keep K413)
        have c416 := (c406.keep K413 nin0)
        have c417 := (c407.keep K413 nin0)
        have c418 := (c408.keep K413 nin0)
        have c419 := ((((c368.keep K376).keep K388).keep K403).keep K413)
        have ne420 : (s0 : Nat) ≠ t_364 := own_ne (by omega)
        have c421 := ((((c370.keep K376 (ninS ne369 (ninS ne420 nin0))).keep K388 nin0).keep K403 nin0).keep K413 nin0)
        have c422 := ((((c371.keep K376 (ninS ne369 (ninS ne420 nin0))).keep K388 nin0).keep K403 nin0).keep K413 nin0)
        have ne423 : (t1 : Nat) ≠ t_364 := own_ne (by omega)
        have c424 := ((((c373.keep K376 (ninS ne372 (ninS ne423 nin0))).keep K388 nin0).keep K403 nin0).keep K413 nin0)
        refine k_callVVF X413 (y := (⟨"com/example/tuned_odds/tunedodds/index/FingerprintSet", "add", "(Ljava/lang/String;)Z"⟩ : MethodName)) at_137 (w_36 hw) (w_37 hw) (w_39 hw) (w_38 hw) (w_28 hw) (w_40 hw) (by decide) (notFace_of_selects (args := #[]) (mvT X413.hZ (w_39 hw))) c415 (argsL := [(.ref s0)]) (rest := []) (own_add0 l Z a0 hw G n0 h413 X413.old b362 s0 t_364 kt_365 ((List.replicate 1024 (0 : Int64)).set (own_slot (List.replicate 1024 (0 : Int64)) (own_fp [ca])) (own_fp [ca])) (Int32.ofNat (0 + 1)) t1 k1 cd1 zz1 bs1 [ca] (by simp) ka (own_Tup (n := 3) T1 (by decide)) (own_Tup (n := 3) T1 (by decide)).1 a1 c415 c416 c417 c418 c419 c421 c422 c424 hcod1) rfl pd_23 rfl rfl (by decide) (W := 0) (Nat.le_of_eq rfl) (by decide) (by decide) (by decide) all0 (pc' := 140) rfl ?_
        rintro _ T425 h425 L425 X425 K425 ⟨rfl, -⟩
        have sz_h425 := K425.1
        have K0_h425 : Keep h0 h425 [] := K0_h413.trans K425 all0
        refine k_istore X425 at_140 (Ls' := #[.val (.int p0), .val (.int p1), .val (.int p2), .val (.int p3), .val (.int ca), .val (.int cb), .val (.ref s0), .val (.ref s2), .val (.int kk), .val (.ref u), .val (.ref b362), .val (.int (1 : Int32)), .val (.int (0 : Int32)), .val (.int (0 : Int32)), .val (.int (0 : Int32)), .val (.int (0 : Int32)), .unset, .unset, .unset, .unset]) rfl (pc' := 142) rfl ?_
        refine k_aload X425 at_142 rfl rfl (pc' := 144) rfl ?_
        refine k_aload X425 at_144 rfl rfl (pc' := 146) rfl ?_
        have c427 := (c415.keep K425)
        have c428 := (c416.keep K425 nin0)
        have c429 := (c417.keep K425 nin0)
        have c430 := (c418.keep K425 nin0)
        have c431 := ((((c380.keep K388).keep K403).keep K413).keep K425)
        have c432 := ((((c383.keep K388 nin0).keep K403 nin0).keep K413 nin0).keep K425 nin0)
        have c433 := ((((c384.keep K388 nin0).keep K403 nin0).keep K413 nin0).keep K425 nin0)
        have c434 := ((((c387.keep K388 nin0).keep K403 nin0).keep K413 nin0).keep K425 nin0)
        refine k_callVVF X425 (y := (⟨"com/example/tuned_odds/tunedodds/index/FingerprintSet", "add", "(Ljava/lang/String;)Z"⟩ : MethodName)) at_146 (w_36 hw) (w_37 hw) (w_39 hw) (w_38 hw) (w_28 hw) (w_40 hw) (by decide) (notFace_of_selects (args := #[]) (mvT X425.hZ (w_39 hw))) c427 (argsL := [(.ref s2)]) (rest := []) (own_add0 l Z a0 hw G n0 h425 X425.old b362 s2 t_364 kt_365 ((List.replicate 1024 (0 : Int64)).set (own_slot (List.replicate 1024 (0 : Int64)) (own_fp [ca])) (own_fp [ca])) (Int32.ofNat (0 + 1)) t2 k2 cd2 zz2 bs2 [cb] (by simp) kb (own_Tup (n := 3) T1 (by decide)) (own_Tup (n := 3) T1 (by decide)).1 b2 c427 c428 c429 c430 c431 c432 c433 c434 hcod2) rfl pd_23 rfl rfl (by decide) (W := 0) (Nat.le_of_eq rfl) (by decide) (by decide) (by decide) all0 (pc' := 149) rfl ?_
        rintro _ T435 h435 L435 X435 K435 ⟨rfl, -⟩
        have sz_h435 := K435.1
        have K0_h435 : Keep h0 h435 [] := K0_h425.trans K435 all0
        refine k_istore X435 at_149 (Ls' := #[.val (.int p0), .val (.int p1), .val (.int p2), .val (.int p3), .val (.int ca), .val (.int cb), .val (.ref s0), .val (.ref s2), .val (.int kk), .val (.ref u), .val (.ref b362), .val (.int (1 : Int32)), .val (.int (0 : Int32)), .val (.int (0 : Int32)), .val (.int (0 : Int32)), .val (.int (0 : Int32)), .val (.int (0 : Int32)), .unset, .unset, .unset]) rfl (pc' := 151) rfl ?_
        refine k_newO X435 at_151 (w_26 hw) (w_27 hw) (w_28 hw) (by decide) (by decide) (pc' := 154) rfl fun T437 h437 b437 g437 X437 K437 E437 D437 S437 lt437 ge437 => ?_
        have sz_h437 := K437.1
        have K0_h437 : Keep h0 h437 [] := K0_h435.trans K437 all0
        have Fn437_slots : Fld Z h437 b437 "com/example/tuned_odds/tunedodds/index/FingerprintSet" "slots" "[J" .null := D437 (Or.inl (w_35 hw)) (ty := (.array .long)) (by decide)
        have Fn437_size : Fld Z h437 b437 "com/example/tuned_odds/tunedodds/index/FingerprintSet" "size" "I" (.int (0 : Int32)) := D437 (Or.inl (w_83 hw)) (ty := .int) (by decide)
        refine k_dup X437 at_154 rfl (pc' := 155) rfl ?_
        have ge438 : n0 ≤ b437 := by omega
        refine k_callPNF X437 (y := (⟨"com/example/tuned_odds/tunedodds/index/FingerprintSet", "<init>", "()V"⟩ : MethodName)) at_155 (w_29 hw) (w_30 hw) (w_28 hw) (w_31 hw) (by decide) rfl rfl (argsL := []) (rest := [(.ref b437)]) (own_fsI l Z a0 hw G n0 h437 X437.old b437 ge438 E437 Fn437_slots Fn437_size) rfl pd_22 rfl rfl (by decide) (W := 1) (Nat.le_of_eq rfl) (by decide) (by decide) (by decide) (allS ⟨S437, ge438⟩ all0) (pc' := 158) rfl ?_
        rintro T441 h441 L441 X441 K441 ⟨t_439, kt_440, q441_0, q441_1, q441_2, q441_3, q441_4⟩
        have sz_h441 := K441.1
        have od442 : h0.size ≤ b437 := by omega
        have K0_h441 : Keep h0 h441 [] := K0_h437.trans K441 (allS (Or.inr od442) all0)
        have lt441_0 := own_n q441_0.lt
        have lt441_1 := own_n q441_1.lt
        have lt441_2 := own_n q441_2.lt
        have lt441_3 := own_n q441_3.lt
        have sn441_4 := X437.sf K441 (allS ⟨S437, ge438⟩ all0) (X437.sfN q441_4)
        refine k_astore X441 at_158 rfl (Ls' := #[.val (.int p0), .val (.int p1), .val (.int p2), .val (.int p3), .val (.int ca), .val (.int cb), .val (.ref s0), .val (.ref s2), .val (.int kk), .val (.ref u), .val (.ref b362), .val (.int (1 : Int32)), .val (.int (0 : Int32)), .val (.int (0 : Int32)), .val (.int (0 : Int32)), .val (.int (0 : Int32)), .val (.int (0 : Int32)), .val (.ref b437), .unset, .unset]) rfl (pc' := 160) rfl ?_
        refine k_aload X441 at_160 rfl rfl (pc' := 162) rfl ?_
        refine k_aload X441 at_162 rfl rfl (pc' := 164) rfl ?_
        have m7 := own_no0 nfu
        have c443 := (((((c409.keep K413).keep K425).keep K435).keep K437).keep K441)
        have ne444 : (u : Nat) ≠ b437 := own_ne (by omega)
        have c445 := (((((c410.keep K413 nin0).keep K425 nin0).keep K435 nin0).keep K437 nin0).keep K441 (ninS ne444 nin0))
        have c446 := (((((c411.keep K413 nin0).keep K425 nin0).keep K435 nin0).keep K437 nin0).keep K441 (ninS ne444 nin0))
        have ne447 : (t3 : Nat) ≠ b437 := own_ne (by omega)
        have c448 := (((((c412.keep K413 nin0).keep K425 nin0).keep K435 nin0).keep K437 nin0).keep K441 (ninS ne447 nin0))
        have ge449 : n0 ≤ t_439 := by omega
        have c450 := (X437.sf K441 (allS ⟨S437, ge438⟩ all0) S437)
        refine k_callVVF X441 (y := (⟨"com/example/tuned_odds/tunedodds/index/FingerprintSet", "add", "(Ljava/lang/String;)Z"⟩ : MethodName)) at_164 (w_36 hw) (w_37 hw) (w_39 hw) (w_38 hw) (w_28 hw) (w_40 hw) (by decide) (notFace_of_selects (args := #[]) (mvT X441.hZ (w_39 hw))) q441_0 (argsL := [(.ref u)]) (rest := []) (own_add1 l Z a0 hw G n0 h441 X441.old b437 u t_439 kt_440 (List.replicate 1024 (0 : Int64)) (0 : Int32) t3 k3 cd3 zz3 bs3 us hul hus (own_Tup (n := 3) T0 (by decide)) (T0.1) 0 rfl (by decide) m7 (by omega) ge438 ge449 q441_0 q441_1 q441_2 q441_3 c443 c445 c446 c448 hcod3) rfl pd_23 rfl rfl (by decide) (W := 0) (Nat.le_of_eq rfl) (by decide) (by decide) (by decide) (allS ⟨c450, ge438⟩ (allS ⟨sn441_4, ge449⟩ all0)) (pc' := 167) rfl ?_
        rintro _ T451 h451 L451 X451 K451 ⟨rfl, q451_0, q451_1, q451_2, q451_3⟩
        have sz_h451 := K451.1
        have od453 : h0.size ≤ t_439 := by omega
        have K0_h451 : Keep h0 h451 [] := K0_h441.trans K451 (allS (Or.inr od442) (allS (Or.inr od453) all0))
        have lt451_0 := own_n q451_0.lt
        have lt451_1 := own_n q451_1.lt
        have lt451_2 := own_n q451_2.lt
        have lt451_3 := own_n q451_3.lt
        refine k_istore X451 at_167 (Ls' := #[.val (.int p0), .val (.int p1), .val (.int p2), .val (.int p3), .val (.int ca), .val (.int cb), .val (.ref s0), .val (.ref s2), .val (.int kk), .val (.ref u), .val (.ref b362), .val (.int (1 : Int32)), .val (.int (0 : Int32)), .val (.int (0 : Int32)), .val (.int (0 : Int32)), .val (.int (0 : Int32)), .val (.int (0 : Int32)), .val (.ref b437), .val (.int (1 : Int32)), .unset]) rfl (pc' := 169) rfl ?_
        refine k_aload X451 at_169 rfl rfl (pc' := 171) rfl ?_
        refine k_aload X451 at_171 rfl rfl (pc' := 173) rfl ?_
        have c454 := (c443.keep K451)
        have ne455 : (u : Nat) ≠ t_439 := own_ne (by omega)
        have c456 := (c445.keep K451 (ninS ne444 (ninS ne455 nin0)))
        have c457 := (c446.keep K451 (ninS ne444 (ninS ne455 nin0)))
        have ne458 : (t3 : Nat) ≠ t_439 := own_ne (by omega)
        have c459 := (c448.keep K451 (ninS ne447 (ninS ne458 nin0)))
        have c460 := (((((c419.keep K425).keep K435).keep K437).keep K441).keep K451)
        have ne461 : (s0 : Nat) ≠ b437 := own_ne (by omega)
        have ne462 : (s0 : Nat) ≠ t_439 := own_ne (by omega)
        have c463 := (((((c421.keep K425 nin0).keep K435 nin0).keep K437 nin0).keep K441 (ninS ne461 nin0)).keep K451 (ninS ne461 (ninS ne462 nin0)))
        have c464 := (((((c422.keep K425 nin0).keep K435 nin0).keep K437 nin0).keep K441 (ninS ne461 nin0)).keep K451 (ninS ne461 (ninS ne462 nin0)))
        have ne465 : (t1 : Nat) ≠ b437 := own_ne (by omega)
        have ne466 : (t1 : Nat) ≠ t_439 := own_ne (by omega)
        have c467 := (((((c424.keep K425 nin0).keep K435 nin0).keep K437 nin0).keep K441 (ninS ne465 nin0)).keep K451 (ninS ne465 (ninS ne466 nin0)))
        refine k_callVVF X451 (y := (⟨"java/lang/String", "equals", "(Ljava/lang/Object;)Z"⟩ : MethodName)) at_173 (w_84 hw) (w_85 hw) (w_87 hw) (w_86 hw) (w_2 hw) (w_88 hw) (by decide) (notFace_of_selects (args := #[]) (mvT X451.hZ (w_87 hw))) c454 (argsL := [(.ref s0)]) (rest := []) (own_eq l Z a0 hw G n0 h451 X451.old u s0 t3 k3 cd3 zz3 bs3 us t1 k1 cd1 zz1 bs1 [ca] (by omega) (by simp) hus ka c454 c456 c457 c459 hcod3 c460 c463 c464 c467 hcod1) rfl pd_24 rfl rfl (by decide) (W := 0) (Nat.le_of_eq rfl) (by decide) (by decide) (by decide) all0 (pc' := 176) rfl ?_
        rintro _ T468 h468 L468 X468 K468 ⟨rfl, -⟩
        have sz_h468 := K468.1
        have K0_h468 : Keep h0 h468 [] := K0_h451.trans K468 all0
        by_cases hc470 : us = [ca]
        · have hk : own_fp us = own_fp [ca] := by rw [hc470]
          refine k_ifYes X468 at_176 ((if0 _ _).trans (feq (own_eqv_eq hc470)).2) (pc' := 189) (by decide) (by decide) ?_
          refine k_iconst X468 at_189 (w := (1 : Int32)) rfl (pc' := 190) rfl ?_
          refine k_goto X468 at_190 (pc' := 194) (by decide) (by decide) ?_
          refine k_istore X468 at_194 (Ls' := #[.val (.int p0), .val (.int p1), .val (.int p2), .val (.int p3), .val (.int ca), .val (.int cb), .val (.ref s0), .val (.ref s2), .val (.int kk), .val (.ref u), .val (.ref b362), .val (.int (1 : Int32)), .val (.int (0 : Int32)), .val (.int (0 : Int32)), .val (.int (0 : Int32)), .val (.int (0 : Int32)), .val (.int (0 : Int32)), .val (.ref b437), .val (.int (1 : Int32)), .val (.int (1 : Int32))]) rfl (pc' := 196) rfl ?_
          refine k_iload X468 at_196 rfl (pc' := 198) rfl ?_
          refine k_ifNo X468 at_198 (by decide) (pc' := 201) rfl ?_
          refine k_iload X468 at_201 rfl (pc' := 203) rfl ?_
          refine k_iload X468 at_203 rfl (pc' := 205) rfl ?_
          refine k_iload X468 at_205 rfl (pc' := 207) rfl ?_
          refine k_icmpYes X468 at_207 (teq hab).1 (pc' := 214) (by decide) (by decide) ?_
          refine k_iconst X468 at_214 (w := (0 : Int32)) rfl (pc' := 215) rfl ?_
          refine k_icmpNo X468 at_215 (by decide) (pc' := 218) rfl ?_
          refine k_iload X468 at_218 rfl (pc' := 220) rfl ?_
          refine k_ifNo X468 at_220 (by decide) (pc' := 223) rfl ?_
          refine k_iload X468 at_223 rfl (pc' := 225) rfl ?_
          refine k_ifNo X468 at_225 (by decide) (pc' := 228) rfl ?_
          refine k_iload X468 at_228 rfl (pc' := 230) rfl ?_
          refine k_ifNo X468 at_230 (by decide) (pc' := 233) rfl ?_
          refine k_iload X468 at_233 rfl (pc' := 235) rfl ?_
          refine k_ifNo X468 at_235 (by decide) (pc' := 238) rfl ?_
          refine k_iload X468 at_238 rfl (pc' := 240) rfl ?_
          refine k_ifNo X468 at_240 (by decide) (pc' := 243) rfl ?_
          refine k_iload X468 at_243 rfl (pc' := 245) rfl ?_
          refine k_ifNo X468 at_245 (by decide) (pc' := 248) rfl ?_
          refine k_iconst X468 at_248 (w := (1 : Int32)) rfl (pc' := 249) rfl ?_
          refine k_goto X468 at_249 (pc' := 253) (by decide) (by decide) ?_
          exact k_retHN X468 (w := (1 : Int32)) at_253 (t := .boolean) rfl (by simp) rfl K0_h468 (fun v' C' => ⟨_, rfl, rfl, trivial⟩) (by decide) (by decide)
        · refine k_ifNo X468 at_176 ((if0 _ _).trans (teq (own_eqv_ne hc470)).2) (pc' := 179) rfl ?_
          refine k_aload X468 at_179 rfl rfl (pc' := 181) rfl ?_
          refine k_aload X468 at_181 rfl rfl (pc' := 183) rfl ?_
          have c471 := (c454.keep K468)
          have c472 := (c456.keep K468 nin0)
          have c473 := (c457.keep K468 nin0)
          have c474 := (c459.keep K468 nin0)
          have c475 := (((((c431.keep K435).keep K437).keep K441).keep K451).keep K468)
          have ne476 : (s2 : Nat) ≠ b437 := own_ne (by omega)
          have ne477 : (s2 : Nat) ≠ t_439 := own_ne (by omega)
          have c478 := (((((c432.keep K435 nin0).keep K437 nin0).keep K441 (ninS ne476 nin0)).keep K451 (ninS ne476 (ninS ne477 nin0))).keep K468 nin0)
          have c479 := (((((c433.keep K435 nin0).keep K437 nin0).keep K441 (ninS ne476 nin0)).keep K451 (ninS ne476 (ninS ne477 nin0))).keep K468 nin0)
          have ne480 : (t2 : Nat) ≠ b437 := own_ne (by omega)
          have ne481 : (t2 : Nat) ≠ t_439 := own_ne (by omega)
          have c482 := (((((c434.keep K435 nin0).keep K437 nin0).keep K441 (ninS ne480 nin0)).keep K451 (ninS ne480 (ninS ne481 nin0))).keep K468 nin0)
          refine k_callVVF X468 (y := (⟨"java/lang/String", "equals", "(Ljava/lang/Object;)Z"⟩ : MethodName)) at_183 (w_84 hw) (w_85 hw) (w_87 hw) (w_86 hw) (w_2 hw) (w_88 hw) (by decide) (notFace_of_selects (args := #[]) (mvT X468.hZ (w_87 hw))) c471 (argsL := [(.ref s2)]) (rest := []) (own_eq l Z a0 hw G n0 h468 X468.old u s2 t3 k3 cd3 zz3 bs3 us t2 k2 cd2 zz2 bs2 [cb] (by omega) (by simp) hus kb c471 c472 c473 c474 hcod3 c475 c478 c479 c482 hcod2) rfl pd_24 rfl rfl (by decide) (W := 0) (Nat.le_of_eq rfl) (by decide) (by decide) (by decide) all0 (pc' := 186) rfl ?_
          rintro _ T483 h483 L483 X483 K483 ⟨rfl, -⟩
          have sz_h483 := K483.1
          have K0_h483 : Keep h0 h483 [] := K0_h468.trans K483 all0
          by_cases hc485 : us = [cb]
          · have hk : own_fp us = own_fp [cb] := by rw [hc485]
            refine k_ifNo X483 at_186 ((if0 _ _).trans (feq (own_eqv_eq hc485)).1) (pc' := 189) rfl ?_
            refine k_iconst X483 at_189 (w := (1 : Int32)) rfl (pc' := 190) rfl ?_
            refine k_goto X483 at_190 (pc' := 194) (by decide) (by decide) ?_
            refine k_istore X483 at_194 (Ls' := #[.val (.int p0), .val (.int p1), .val (.int p2), .val (.int p3), .val (.int ca), .val (.int cb), .val (.ref s0), .val (.ref s2), .val (.int kk), .val (.ref u), .val (.ref b362), .val (.int (1 : Int32)), .val (.int (0 : Int32)), .val (.int (0 : Int32)), .val (.int (0 : Int32)), .val (.int (0 : Int32)), .val (.int (0 : Int32)), .val (.ref b437), .val (.int (1 : Int32)), .val (.int (1 : Int32))]) rfl (pc' := 196) rfl ?_
            refine k_iload X483 at_196 rfl (pc' := 198) rfl ?_
            refine k_ifNo X483 at_198 (by decide) (pc' := 201) rfl ?_
            refine k_iload X483 at_201 rfl (pc' := 203) rfl ?_
            refine k_iload X483 at_203 rfl (pc' := 205) rfl ?_
            refine k_iload X483 at_205 rfl (pc' := 207) rfl ?_
            refine k_icmpYes X483 at_207 (teq hab).1 (pc' := 214) (by decide) (by decide) ?_
            refine k_iconst X483 at_214 (w := (0 : Int32)) rfl (pc' := 215) rfl ?_
            refine k_icmpNo X483 at_215 (by decide) (pc' := 218) rfl ?_
            refine k_iload X483 at_218 rfl (pc' := 220) rfl ?_
            refine k_ifNo X483 at_220 (by decide) (pc' := 223) rfl ?_
            refine k_iload X483 at_223 rfl (pc' := 225) rfl ?_
            refine k_ifNo X483 at_225 (by decide) (pc' := 228) rfl ?_
            refine k_iload X483 at_228 rfl (pc' := 230) rfl ?_
            refine k_ifNo X483 at_230 (by decide) (pc' := 233) rfl ?_
            refine k_iload X483 at_233 rfl (pc' := 235) rfl ?_
            refine k_ifNo X483 at_235 (by decide) (pc' := 238) rfl ?_
            refine k_iload X483 at_238 rfl (pc' := 240) rfl ?_
            refine k_ifNo X483 at_240 (by decide) (pc' := 243) rfl ?_
            refine k_iload X483 at_243 rfl (pc' := 245) rfl ?_
            refine k_ifNo X483 at_245 (by decide) (pc' := 248) rfl ?_
            refine k_iconst X483 at_248 (w := (1 : Int32)) rfl (pc' := 249) rfl ?_
            refine k_goto X483 at_249 (pc' := 253) (by decide) (by decide) ?_
            exact k_retHN X483 (w := (1 : Int32)) at_253 (t := .boolean) rfl (by simp) rfl K0_h483 (fun v' C' => ⟨_, rfl, rfl, trivial⟩) (by decide) (by decide)
          · refine k_ifYes X483 at_186 ((if0 _ _).trans (teq (own_eqv_ne hc485)).1) (pc' := 193) (by decide) (by decide) ?_
            refine k_iconst X483 at_193 (w := (0 : Int32)) rfl (pc' := 194) rfl ?_
            refine k_istore X483 at_194 (Ls' := #[.val (.int p0), .val (.int p1), .val (.int p2), .val (.int p3), .val (.int ca), .val (.int cb), .val (.ref s0), .val (.ref s2), .val (.int kk), .val (.ref u), .val (.ref b362), .val (.int (1 : Int32)), .val (.int (0 : Int32)), .val (.int (0 : Int32)), .val (.int (0 : Int32)), .val (.int (0 : Int32)), .val (.int (0 : Int32)), .val (.ref b437), .val (.int (1 : Int32)), .val (.int (0 : Int32))]) rfl (pc' := 196) rfl ?_
            refine k_iload X483 at_196 rfl (pc' := 198) rfl ?_
            refine k_ifNo X483 at_198 (by decide) (pc' := 201) rfl ?_
            refine k_iload X483 at_201 rfl (pc' := 203) rfl ?_
            refine k_iload X483 at_203 rfl (pc' := 205) rfl ?_
            refine k_iload X483 at_205 rfl (pc' := 207) rfl ?_
            refine k_icmpYes X483 at_207 (teq hab).1 (pc' := 214) (by decide) (by decide) ?_
            refine k_iconst X483 at_214 (w := (0 : Int32)) rfl (pc' := 215) rfl ?_
            refine k_icmpNo X483 at_215 (by decide) (pc' := 218) rfl ?_
            refine k_iload X483 at_218 rfl (pc' := 220) rfl ?_
            refine k_ifYes X483 at_220 (by decide) (pc' := 228) (by decide) (by decide) ?_
            refine k_iload X483 at_228 rfl (pc' := 230) rfl ?_
            refine k_ifNo X483 at_230 (by decide) (pc' := 233) rfl ?_
            refine k_iload X483 at_233 rfl (pc' := 235) rfl ?_
            refine k_ifNo X483 at_235 (by decide) (pc' := 238) rfl ?_
            refine k_iload X483 at_238 rfl (pc' := 240) rfl ?_
            refine k_ifNo X483 at_240 (by decide) (pc' := 243) rfl ?_
            refine k_iload X483 at_243 rfl (pc' := 245) rfl ?_
            refine k_ifNo X483 at_245 (by decide) (pc' := 248) rfl ?_
            refine k_iconst X483 at_248 (w := (1 : Int32)) rfl (pc' := 249) rfl ?_
            refine k_goto X483 at_249 (pc' := 253) (by decide) (by decide) ?_
            exact k_retHN X483 (w := (1 : Int32)) at_253 (t := .boolean) rfl (by simp) rfl K0_h483 (fun v' C' => ⟨_, rfl, rfl, trivial⟩) (by decide) (by decide)
      · have mu := hc390
        have c486 := (q376_0.keep K388)
        have c487 := (q376_1.keep K388 nin0)
        have c488 := (q376_2.keep K388 nin0)
        have c489 := (q376_3.keep K388 nin0)
        have c490 := ((((f8.keep K362).keep K366).keep K376).keep K388)
        have ne491 : (u : Nat) ≠ b362 := own_ne (by omega)
        have ne492 : (u : Nat) ≠ t_364 := own_ne (by omega)
        have c493 := ((((f9.keep K362 nin0).keep K366 (ninS ne491 nin0)).keep K376 (ninS ne491 (ninS ne492 nin0))).keep K388 nin0)
        have c494 := ((((f10.keep K362 nin0).keep K366 (ninS ne491 nin0)).keep K376 (ninS ne491 (ninS ne492 nin0))).keep K388 nin0)
        have ne495 : (t3 : Nat) ≠ b362 := own_ne (by omega)
        have ne496 : (t3 : Nat) ≠ t_364 := own_ne (by omega)
        have c497 := ((((f11.keep K362 nin0).keep K366 (ninS ne495 nin0)).keep K376 (ninS ne495 (ninS ne496 nin0))).keep K388 nin0)
        have c498 := (X376.sf K388 all0 (X366.sf K376 (allS ⟨c375, ge363⟩ (allS ⟨sn366_4, ge374⟩ all0)) sn366_4))
        have c499 := (X376.sf K388 all0 (X366.sf K376 (allS ⟨c375, ge363⟩ (allS ⟨sn366_4, ge374⟩ all0)) c375))
        refine k_callVVF X388 (y := (⟨"com/example/tuned_odds/tunedodds/index/FingerprintSet", "add", "(Ljava/lang/String;)Z"⟩ : MethodName)) at_119 (w_36 hw) (w_37 hw) (w_39 hw) (w_38 hw) (w_28 hw) (w_40 hw) (by decide) (notFace_of_selects (args := #[]) (mvT X388.hZ (w_39 hw))) c486 (argsL := [(.ref u)]) (rest := []) (own_add1 l Z a0 hw G n0 h388 X388.old b362 u t_364 kt_365 ((List.replicate 1024 (0 : Int64)).set (own_slot (List.replicate 1024 (0 : Int64)) (own_fp [ca])) (own_fp [ca])) (Int32.ofNat (0 + 1)) t3 k3 cd3 zz3 bs3 us hul hus (own_Tup (n := 3) T1 (by decide)) (own_Tup (n := 3) T1 (by decide)).1 1 rfl (by decide) mu (by omega) ge363 ge374 c486 c487 c488 c489 c490 c493 c494 c497 hcod3) rfl pd_23 rfl rfl (by decide) (W := 0) (Nat.le_of_eq rfl) (by decide) (by decide) (by decide) (allS ⟨c499, ge363⟩ (allS ⟨c498, ge374⟩ all0)) (pc' := 122) rfl ?_
        rintro _ T500 h500 L500 X500 K500 ⟨rfl, q500_0, q500_1, q500_2, q500_3⟩
        have sz_h500 := K500.1
        have K0_h500 : Keep h0 h500 [] := K0_h388.trans K500 (allS (Or.inr od367) (allS (Or.inr od378) all0))
        have lt500_0 := own_n q500_0.lt
        have lt500_1 := own_n q500_1.lt
        have lt500_2 := own_n q500_2.lt
        have lt500_3 := own_n q500_3.lt
        have T3 : own_T 2 (((List.replicate 1024 (0 : Int64)).set (own_slot (List.replicate 1024 (0 : Int64)) (own_fp [ca])) (own_fp [ca])).set (own_slot ((List.replicate 1024 (0 : Int64)).set (own_slot (List.replicate 1024 (0 : Int64)) (own_fp [ca])) (own_fp [ca])) (own_fp us)) (own_fp us)) := own_Tset T1 _ _
        have z3 := own_miss0 F2 mu
        have a3 : own_hit (((List.replicate 1024 (0 : Int64)).set (own_slot (List.replicate 1024 (0 : Int64)) (own_fp [ca])) (own_fp [ca])).set (own_slot ((List.replicate 1024 (0 : Int64)).set (own_slot (List.replicate 1024 (0 : Int64)) (own_fp [ca])) (own_fp [ca])) (own_fp us)) (own_fp us)) (own_fp [ca]) := own_hit_keep nfa a1 z3 _
        have b3 : own_hit (((List.replicate 1024 (0 : Int64)).set (own_slot (List.replicate 1024 (0 : Int64)) (own_fp [ca])) (own_fp [ca])).set (own_slot ((List.replicate 1024 (0 : Int64)).set (own_slot (List.replicate 1024 (0 : Int64)) (own_fp [ca])) (own_fp [ca])) (own_fp us)) (own_fp us)) (own_fp [cb]) := own_hit_keep nfb b2 z3 _
        have u3 : own_hit (((List.replicate 1024 (0 : Int64)).set (own_slot (List.replicate 1024 (0 : Int64)) (own_fp [ca])) (own_fp [ca])).set (own_slot ((List.replicate 1024 (0 : Int64)).set (own_slot (List.replicate 1024 (0 : Int64)) (own_fp [ca])) (own_fp [ca])) (own_fp us)) (own_fp us)) (own_fp us) := own_hit_put T1.1 F2 mu
        refine k_istore X500 at_122 (Ls' := #[.val (.int p0), .val (.int p1), .val (.int p2), .val (.int p3), .val (.int ca), .val (.int cb), .val (.ref s0), .val (.ref s2), .val (.int kk), .val (.ref u), .val (.ref b362), .val (.int (1 : Int32)), .val (.int (0 : Int32)), .val (.int (1 : Int32)), .unset, .unset, .unset, .unset, .unset, .unset]) rfl (pc' := 124) rfl ?_
        refine k_aload X500 at_124 rfl rfl (pc' := 126) rfl ?_
        refine k_aload X500 at_126 rfl rfl (pc' := 128) rfl ?_
        have c502 := (c490.keep K500)
        have c503 := (c493.keep K500 (ninS ne491 (ninS ne492 nin0)))
        have c504 := (c494.keep K500 (ninS ne491 (ninS ne492 nin0)))
        have c505 := (c497.keep K500 (ninS ne495 (ninS ne496 nin0)))
        refine k_callVVF X500 (y := (⟨"com/example/tuned_odds/tunedodds/index/FingerprintSet", "add", "(Ljava/lang/String;)Z"⟩ : MethodName)) at_128 (w_36 hw) (w_37 hw) (w_39 hw) (w_38 hw) (w_28 hw) (w_40 hw) (by decide) (notFace_of_selects (args := #[]) (mvT X500.hZ (w_39 hw))) q500_0 (argsL := [(.ref u)]) (rest := []) (own_add0 l Z a0 hw G n0 h500 X500.old b362 u t_364 kt_365 (((List.replicate 1024 (0 : Int64)).set (own_slot (List.replicate 1024 (0 : Int64)) (own_fp [ca])) (own_fp [ca])).set (own_slot ((List.replicate 1024 (0 : Int64)).set (own_slot (List.replicate 1024 (0 : Int64)) (own_fp [ca])) (own_fp [ca])) (own_fp us)) (own_fp us)) (Int32.ofNat (1 + 1)) t3 k3 cd3 zz3 bs3 us hul hus (own_Tup (n := 3) T3 (by decide)) (own_Tup (n := 3) T3 (by decide)).1 u3 q500_0 q500_1 q500_2 q500_3 c502 c503 c504 c505 hcod3) rfl pd_23 rfl rfl (by decide) (W := 0) (Nat.le_of_eq rfl) (by decide) (by decide) (by decide) all0 (pc' := 131) rfl ?_
        rintro _ T506 h506 L506 X506 K506 ⟨rfl, -⟩
        have sz_h506 := K506.1
        have K0_h506 : Keep h0 h506 [] := K0_h500.trans K506 all0
        refine k_istore X506 at_131 (Ls' := #[.val (.int p0), .val (.int p1), .val (.int p2), .val (.int p3), .val (.int ca), .val (.int cb), .val (.ref s0), .val (.ref s2), .val (.int kk), .val (.ref u), .val (.ref b362), .val (.int (1 : Int32)), .val (.int (0 : Int32)), .val (.int (1 : Int32)), .val (.int (0 : Int32)), .unset, .unset, .unset, .unset, .unset]) rfl (pc' := 133) rfl ?_
        refine k_aload X506 at_133 rfl rfl (pc' := 135) rfl ?_
        refine k_aload X506 at_135 rfl rfl (pc' := 137) rfl ?_
        have c508 := (q500_0.keep K506)
        have c509 := (q500_1.keep K506 nin0)
        have c510 := (q500_2.keep K506 nin0)
        have c511 := (q500_3.keep K506 nin0)
        have c512 := ((((c368.keep K376).keep K388).keep K500).keep K506)
        have ne513 : (s0 : Nat) ≠ t_364 := own_ne (by omega)
        have c514 := ((((c370.keep K376 (ninS ne369 (ninS ne513 nin0))).keep K388 nin0).keep K500 (ninS ne369 (ninS ne513 nin0))).keep K506 nin0)
        have c515 := ((((c371.keep K376 (ninS ne369 (ninS ne513 nin0))).keep K388 nin0).keep K500 (ninS ne369 (ninS ne513 nin0))).keep K506 nin0)
        have ne516 : (t1 : Nat) ≠ t_364 := own_ne (by omega)
        have c517 := ((((c373.keep K376 (ninS ne372 (ninS ne516 nin0))).keep K388 nin0).keep K500 (ninS ne372 (ninS ne516 nin0))).keep K506 nin0)
        refine k_callVVF X506 (y := (⟨"com/example/tuned_odds/tunedodds/index/FingerprintSet", "add", "(Ljava/lang/String;)Z"⟩ : MethodName)) at_137 (w_36 hw) (w_37 hw) (w_39 hw) (w_38 hw) (w_28 hw) (w_40 hw) (by decide) (notFace_of_selects (args := #[]) (mvT X506.hZ (w_39 hw))) c508 (argsL := [(.ref s0)]) (rest := []) (own_add0 l Z a0 hw G n0 h506 X506.old b362 s0 t_364 kt_365 (((List.replicate 1024 (0 : Int64)).set (own_slot (List.replicate 1024 (0 : Int64)) (own_fp [ca])) (own_fp [ca])).set (own_slot ((List.replicate 1024 (0 : Int64)).set (own_slot (List.replicate 1024 (0 : Int64)) (own_fp [ca])) (own_fp [ca])) (own_fp us)) (own_fp us)) (Int32.ofNat (1 + 1)) t1 k1 cd1 zz1 bs1 [ca] (by simp) ka (own_Tup (n := 3) T3 (by decide)) (own_Tup (n := 3) T3 (by decide)).1 a3 c508 c509 c510 c511 c512 c514 c515 c517 hcod1) rfl pd_23 rfl rfl (by decide) (W := 0) (Nat.le_of_eq rfl) (by decide) (by decide) (by decide) all0 (pc' := 140) rfl ?_
        rintro _ T518 h518 L518 X518 K518 ⟨rfl, -⟩
        have sz_h518 := K518.1
        have K0_h518 : Keep h0 h518 [] := K0_h506.trans K518 all0
        refine k_istore X518 at_140 (Ls' := #[.val (.int p0), .val (.int p1), .val (.int p2), .val (.int p3), .val (.int ca), .val (.int cb), .val (.ref s0), .val (.ref s2), .val (.int kk), .val (.ref u), .val (.ref b362), .val (.int (1 : Int32)), .val (.int (0 : Int32)), .val (.int (1 : Int32)), .val (.int (0 : Int32)), .val (.int (0 : Int32)), .unset, .unset, .unset, .unset]) rfl (pc' := 142) rfl ?_
        refine k_aload X518 at_142 rfl rfl (pc' := 144) rfl ?_
        refine k_aload X518 at_144 rfl rfl (pc' := 146) rfl ?_
        have c520 := (c508.keep K518)
        have c521 := (c509.keep K518 nin0)
        have c522 := (c510.keep K518 nin0)
        have c523 := (c511.keep K518 nin0)
        have c524 := ((((c380.keep K388).keep K500).keep K506).keep K518)
        have c525 := ((((c383.keep K388 nin0).keep K500 (ninS ne381 (ninS ne382 nin0))).keep K506 nin0).keep K518 nin0)
        have c526 := ((((c384.keep K388 nin0).keep K500 (ninS ne381 (ninS ne382 nin0))).keep K506 nin0).keep K518 nin0)
        have c527 := ((((c387.keep K388 nin0).keep K500 (ninS ne385 (ninS ne386 nin0))).keep K506 nin0).keep K518 nin0)
        refine k_callVVF X518 (y := (⟨"com/example/tuned_odds/tunedodds/index/FingerprintSet", "add", "(Ljava/lang/String;)Z"⟩ : MethodName)) at_146 (w_36 hw) (w_37 hw) (w_39 hw) (w_38 hw) (w_28 hw) (w_40 hw) (by decide) (notFace_of_selects (args := #[]) (mvT X518.hZ (w_39 hw))) c520 (argsL := [(.ref s2)]) (rest := []) (own_add0 l Z a0 hw G n0 h518 X518.old b362 s2 t_364 kt_365 (((List.replicate 1024 (0 : Int64)).set (own_slot (List.replicate 1024 (0 : Int64)) (own_fp [ca])) (own_fp [ca])).set (own_slot ((List.replicate 1024 (0 : Int64)).set (own_slot (List.replicate 1024 (0 : Int64)) (own_fp [ca])) (own_fp [ca])) (own_fp us)) (own_fp us)) (Int32.ofNat (1 + 1)) t2 k2 cd2 zz2 bs2 [cb] (by simp) kb (own_Tup (n := 3) T3 (by decide)) (own_Tup (n := 3) T3 (by decide)).1 b3 c520 c521 c522 c523 c524 c525 c526 c527 hcod2) rfl pd_23 rfl rfl (by decide) (W := 0) (Nat.le_of_eq rfl) (by decide) (by decide) (by decide) all0 (pc' := 149) rfl ?_
        rintro _ T528 h528 L528 X528 K528 ⟨rfl, -⟩
        have sz_h528 := K528.1
        have K0_h528 : Keep h0 h528 [] := K0_h518.trans K528 all0
        refine k_istore X528 at_149 (Ls' := #[.val (.int p0), .val (.int p1), .val (.int p2), .val (.int p3), .val (.int ca), .val (.int cb), .val (.ref s0), .val (.ref s2), .val (.int kk), .val (.ref u), .val (.ref b362), .val (.int (1 : Int32)), .val (.int (0 : Int32)), .val (.int (1 : Int32)), .val (.int (0 : Int32)), .val (.int (0 : Int32)), .val (.int (0 : Int32)), .unset, .unset, .unset]) rfl (pc' := 151) rfl ?_
        refine k_newO X528 at_151 (w_26 hw) (w_27 hw) (w_28 hw) (by decide) (by decide) (pc' := 154) rfl fun T530 h530 b530 g530 X530 K530 E530 D530 S530 lt530 ge530 => ?_
        have sz_h530 := K530.1
        have K0_h530 : Keep h0 h530 [] := K0_h528.trans K530 all0
        have Fn530_slots : Fld Z h530 b530 "com/example/tuned_odds/tunedodds/index/FingerprintSet" "slots" "[J" .null := D530 (Or.inl (w_35 hw)) (ty := (.array .long)) (by decide)
        have Fn530_size : Fld Z h530 b530 "com/example/tuned_odds/tunedodds/index/FingerprintSet" "size" "I" (.int (0 : Int32)) := D530 (Or.inl (w_83 hw)) (ty := .int) (by decide)
        refine k_dup X530 at_154 rfl (pc' := 155) rfl ?_
        have ge531 : n0 ≤ b530 := by omega
        refine k_callPNF X530 (y := (⟨"com/example/tuned_odds/tunedodds/index/FingerprintSet", "<init>", "()V"⟩ : MethodName)) at_155 (w_29 hw) (w_30 hw) (w_28 hw) (w_31 hw) (by decide) rfl rfl (argsL := []) (rest := [(.ref b530)]) (own_fsI l Z a0 hw G n0 h530 X530.old b530 ge531 E530 Fn530_slots Fn530_size) rfl pd_22 rfl rfl (by decide) (W := 1) (Nat.le_of_eq rfl) (by decide) (by decide) (by decide) (allS ⟨S530, ge531⟩ all0) (pc' := 158) rfl ?_
        rintro T534 h534 L534 X534 K534 ⟨t_532, kt_533, q534_0, q534_1, q534_2, q534_3, q534_4⟩
        have sz_h534 := K534.1
        have od535 : h0.size ≤ b530 := by omega
        have K0_h534 : Keep h0 h534 [] := K0_h530.trans K534 (allS (Or.inr od535) all0)
        have lt534_0 := own_n q534_0.lt
        have lt534_1 := own_n q534_1.lt
        have lt534_2 := own_n q534_2.lt
        have lt534_3 := own_n q534_3.lt
        have sn534_4 := X530.sf K534 (allS ⟨S530, ge531⟩ all0) (X530.sfN q534_4)
        refine k_astore X534 at_158 rfl (Ls' := #[.val (.int p0), .val (.int p1), .val (.int p2), .val (.int p3), .val (.int ca), .val (.int cb), .val (.ref s0), .val (.ref s2), .val (.int kk), .val (.ref u), .val (.ref b362), .val (.int (1 : Int32)), .val (.int (0 : Int32)), .val (.int (1 : Int32)), .val (.int (0 : Int32)), .val (.int (0 : Int32)), .val (.int (0 : Int32)), .val (.ref b530), .unset, .unset]) rfl (pc' := 160) rfl ?_
        refine k_aload X534 at_160 rfl rfl (pc' := 162) rfl ?_
        refine k_aload X534 at_162 rfl rfl (pc' := 164) rfl ?_
        have m7 := own_no0 nfu
        have c536 := (((((c502.keep K506).keep K518).keep K528).keep K530).keep K534)
        have ne537 : (u : Nat) ≠ b530 := own_ne (by omega)
        have c538 := (((((c503.keep K506 nin0).keep K518 nin0).keep K528 nin0).keep K530 nin0).keep K534 (ninS ne537 nin0))
        have c539 := (((((c504.keep K506 nin0).keep K518 nin0).keep K528 nin0).keep K530 nin0).keep K534 (ninS ne537 nin0))
        have ne540 : (t3 : Nat) ≠ b530 := own_ne (by omega)
        have c541 := (((((c505.keep K506 nin0).keep K518 nin0).keep K528 nin0).keep K530 nin0).keep K534 (ninS ne540 nin0))
        have ge542 : n0 ≤ t_532 := by omega
        have c543 := (X530.sf K534 (allS ⟨S530, ge531⟩ all0) S530)
        refine k_callVVF X534 (y := (⟨"com/example/tuned_odds/tunedodds/index/FingerprintSet", "add", "(Ljava/lang/String;)Z"⟩ : MethodName)) at_164 (w_36 hw) (w_37 hw) (w_39 hw) (w_38 hw) (w_28 hw) (w_40 hw) (by decide) (notFace_of_selects (args := #[]) (mvT X534.hZ (w_39 hw))) q534_0 (argsL := [(.ref u)]) (rest := []) (own_add1 l Z a0 hw G n0 h534 X534.old b530 u t_532 kt_533 (List.replicate 1024 (0 : Int64)) (0 : Int32) t3 k3 cd3 zz3 bs3 us hul hus (own_Tup (n := 3) T0 (by decide)) (T0.1) 0 rfl (by decide) m7 (by omega) ge531 ge542 q534_0 q534_1 q534_2 q534_3 c536 c538 c539 c541 hcod3) rfl pd_23 rfl rfl (by decide) (W := 0) (Nat.le_of_eq rfl) (by decide) (by decide) (by decide) (allS ⟨c543, ge531⟩ (allS ⟨sn534_4, ge542⟩ all0)) (pc' := 167) rfl ?_
        rintro _ T544 h544 L544 X544 K544 ⟨rfl, q544_0, q544_1, q544_2, q544_3⟩
        have sz_h544 := K544.1
        have od546 : h0.size ≤ t_532 := by omega
        have K0_h544 : Keep h0 h544 [] := K0_h534.trans K544 (allS (Or.inr od535) (allS (Or.inr od546) all0))
        have lt544_0 := own_n q544_0.lt
        have lt544_1 := own_n q544_1.lt
        have lt544_2 := own_n q544_2.lt
        have lt544_3 := own_n q544_3.lt
        refine k_istore X544 at_167 (Ls' := #[.val (.int p0), .val (.int p1), .val (.int p2), .val (.int p3), .val (.int ca), .val (.int cb), .val (.ref s0), .val (.ref s2), .val (.int kk), .val (.ref u), .val (.ref b362), .val (.int (1 : Int32)), .val (.int (0 : Int32)), .val (.int (1 : Int32)), .val (.int (0 : Int32)), .val (.int (0 : Int32)), .val (.int (0 : Int32)), .val (.ref b530), .val (.int (1 : Int32)), .unset]) rfl (pc' := 169) rfl ?_
        refine k_aload X544 at_169 rfl rfl (pc' := 171) rfl ?_
        refine k_aload X544 at_171 rfl rfl (pc' := 173) rfl ?_
        have c547 := (c536.keep K544)
        have ne548 : (u : Nat) ≠ t_532 := own_ne (by omega)
        have c549 := (c538.keep K544 (ninS ne537 (ninS ne548 nin0)))
        have c550 := (c539.keep K544 (ninS ne537 (ninS ne548 nin0)))
        have ne551 : (t3 : Nat) ≠ t_532 := own_ne (by omega)
        have c552 := (c541.keep K544 (ninS ne540 (ninS ne551 nin0)))
        have c553 := (((((c512.keep K518).keep K528).keep K530).keep K534).keep K544)
        have ne554 : (s0 : Nat) ≠ b530 := own_ne (by omega)
        have ne555 : (s0 : Nat) ≠ t_532 := own_ne (by omega)
        have c556 := (((((c514.keep K518 nin0).keep K528 nin0).keep K530 nin0).keep K534 (ninS ne554 nin0)).keep K544 (ninS ne554 (ninS ne555 nin0)))
        have c557 := (((((c515.keep K518 nin0).keep K528 nin0).keep K530 nin0).keep K534 (ninS ne554 nin0)).keep K544 (ninS ne554 (ninS ne555 nin0)))
        have ne558 : (t1 : Nat) ≠ b530 := own_ne (by omega)
        have ne559 : (t1 : Nat) ≠ t_532 := own_ne (by omega)
        have c560 := (((((c517.keep K518 nin0).keep K528 nin0).keep K530 nin0).keep K534 (ninS ne558 nin0)).keep K544 (ninS ne558 (ninS ne559 nin0)))
        refine k_callVVF X544 (y := (⟨"java/lang/String", "equals", "(Ljava/lang/Object;)Z"⟩ : MethodName)) at_173 (w_84 hw) (w_85 hw) (w_87 hw) (w_86 hw) (w_2 hw) (w_88 hw) (by decide) (notFace_of_selects (args := #[]) (mvT X544.hZ (w_87 hw))) c547 (argsL := [(.ref s0)]) (rest := []) (own_eq l Z a0 hw G n0 h544 X544.old u s0 t3 k3 cd3 zz3 bs3 us t1 k1 cd1 zz1 bs1 [ca] (by omega) (by simp) hus ka c547 c549 c550 c552 hcod3 c553 c556 c557 c560 hcod1) rfl pd_24 rfl rfl (by decide) (W := 0) (Nat.le_of_eq rfl) (by decide) (by decide) (by decide) all0 (pc' := 176) rfl ?_
        rintro _ T561 h561 L561 X561 K561 ⟨rfl, -⟩
        have sz_h561 := K561.1
        have K0_h561 : Keep h0 h561 [] := K0_h544.trans K561 all0
        by_cases hc563 : us = [ca]
        · have hk : own_fp us = own_fp [ca] := by rw [hc563]
          exact absurd (by rw [hk]; exact a1) mu
        · refine k_ifNo X561 at_176 ((if0 _ _).trans (teq (own_eqv_ne hc563)).2) (pc' := 179) rfl ?_
          refine k_aload X561 at_179 rfl rfl (pc' := 181) rfl ?_
          refine k_aload X561 at_181 rfl rfl (pc' := 183) rfl ?_
          have c564 := (c547.keep K561)
          have c565 := (c549.keep K561 nin0)
          have c566 := (c550.keep K561 nin0)
          have c567 := (c552.keep K561 nin0)
          have c568 := (((((c524.keep K528).keep K530).keep K534).keep K544).keep K561)
          have ne569 : (s2 : Nat) ≠ b530 := own_ne (by omega)
          have ne570 : (s2 : Nat) ≠ t_532 := own_ne (by omega)
          have c571 := (((((c525.keep K528 nin0).keep K530 nin0).keep K534 (ninS ne569 nin0)).keep K544 (ninS ne569 (ninS ne570 nin0))).keep K561 nin0)
          have c572 := (((((c526.keep K528 nin0).keep K530 nin0).keep K534 (ninS ne569 nin0)).keep K544 (ninS ne569 (ninS ne570 nin0))).keep K561 nin0)
          have ne573 : (t2 : Nat) ≠ b530 := own_ne (by omega)
          have ne574 : (t2 : Nat) ≠ t_532 := own_ne (by omega)
          have c575 := (((((c527.keep K528 nin0).keep K530 nin0).keep K534 (ninS ne573 nin0)).keep K544 (ninS ne573 (ninS ne574 nin0))).keep K561 nin0)
          refine k_callVVF X561 (y := (⟨"java/lang/String", "equals", "(Ljava/lang/Object;)Z"⟩ : MethodName)) at_183 (w_84 hw) (w_85 hw) (w_87 hw) (w_86 hw) (w_2 hw) (w_88 hw) (by decide) (notFace_of_selects (args := #[]) (mvT X561.hZ (w_87 hw))) c564 (argsL := [(.ref s2)]) (rest := []) (own_eq l Z a0 hw G n0 h561 X561.old u s2 t3 k3 cd3 zz3 bs3 us t2 k2 cd2 zz2 bs2 [cb] (by omega) (by simp) hus kb c564 c565 c566 c567 hcod3 c568 c571 c572 c575 hcod2) rfl pd_24 rfl rfl (by decide) (W := 0) (Nat.le_of_eq rfl) (by decide) (by decide) (by decide) all0 (pc' := 186) rfl ?_
          rintro _ T576 h576 L576 X576 K576 ⟨rfl, -⟩
          have sz_h576 := K576.1
          have K0_h576 : Keep h0 h576 [] := K0_h561.trans K576 all0
          by_cases hc578 : us = [cb]
          · have hk : own_fp us = own_fp [cb] := by rw [hc578]
            exact absurd (by rw [hk]; exact b2) mu
          · refine k_ifYes X576 at_186 ((if0 _ _).trans (teq (own_eqv_ne hc578)).1) (pc' := 193) (by decide) (by decide) ?_
            refine k_iconst X576 at_193 (w := (0 : Int32)) rfl (pc' := 194) rfl ?_
            refine k_istore X576 at_194 (Ls' := #[.val (.int p0), .val (.int p1), .val (.int p2), .val (.int p3), .val (.int ca), .val (.int cb), .val (.ref s0), .val (.ref s2), .val (.int kk), .val (.ref u), .val (.ref b362), .val (.int (1 : Int32)), .val (.int (0 : Int32)), .val (.int (1 : Int32)), .val (.int (0 : Int32)), .val (.int (0 : Int32)), .val (.int (0 : Int32)), .val (.ref b530), .val (.int (1 : Int32)), .val (.int (0 : Int32))]) rfl (pc' := 196) rfl ?_
            refine k_iload X576 at_196 rfl (pc' := 198) rfl ?_
            refine k_ifNo X576 at_198 (by decide) (pc' := 201) rfl ?_
            refine k_iload X576 at_201 rfl (pc' := 203) rfl ?_
            refine k_iload X576 at_203 rfl (pc' := 205) rfl ?_
            refine k_iload X576 at_205 rfl (pc' := 207) rfl ?_
            refine k_icmpYes X576 at_207 (teq hab).1 (pc' := 214) (by decide) (by decide) ?_
            refine k_iconst X576 at_214 (w := (0 : Int32)) rfl (pc' := 215) rfl ?_
            refine k_icmpNo X576 at_215 (by decide) (pc' := 218) rfl ?_
            refine k_iload X576 at_218 rfl (pc' := 220) rfl ?_
            refine k_ifYes X576 at_220 (by decide) (pc' := 228) (by decide) (by decide) ?_
            refine k_iload X576 at_228 rfl (pc' := 230) rfl ?_
            refine k_ifNo X576 at_230 (by decide) (pc' := 233) rfl ?_
            refine k_iload X576 at_233 rfl (pc' := 235) rfl ?_
            refine k_ifNo X576 at_235 (by decide) (pc' := 238) rfl ?_
            refine k_iload X576 at_238 rfl (pc' := 240) rfl ?_
            refine k_ifNo X576 at_240 (by decide) (pc' := 243) rfl ?_
            refine k_iload X576 at_243 rfl (pc' := 245) rfl ?_
            refine k_ifNo X576 at_245 (by decide) (pc' := 248) rfl ?_
            refine k_iconst X576 at_248 (w := (1 : Int32)) rfl (pc' := 249) rfl ?_
            refine k_goto X576 at_249 (pc' := 253) (by decide) (by decide) ?_
            exact k_retHN X576 (w := (1 : Int32)) at_253 (t := .boolean) rfl (by simp) rfl K0_h576 (fun v' C' => ⟨_, rfl, rfl, trivial⟩) (by decide) (by decide)
    · have hab := hc379
      have m2 := own_no1 nfb (fun q => hab (own_fp_inj rca.1 rcb.1 q)) (own_slot (List.replicate 1024 (0 : Int64)) (own_fp [ca]))
      have c579 := (((f4.keep K362).keep K366).keep K376)
      have ne580 : (s2 : Nat) ≠ b362 := own_ne (by omega)
      have ne581 : (s2 : Nat) ≠ t_364 := own_ne (by omega)
      have c582 := (((f5.keep K362 nin0).keep K366 (ninS ne580 nin0)).keep K376 (ninS ne580 (ninS ne581 nin0)))
      have c583 := (((f6.keep K362 nin0).keep K366 (ninS ne580 nin0)).keep K376 (ninS ne580 (ninS ne581 nin0)))
      have ne584 : (t2 : Nat) ≠ b362 := own_ne (by omega)
      have ne585 : (t2 : Nat) ≠ t_364 := own_ne (by omega)
      have c586 := (((f7.keep K362 nin0).keep K366 (ninS ne584 nin0)).keep K376 (ninS ne584 (ninS ne585 nin0)))
      have c587 := (X366.sf K376 (allS ⟨c375, ge363⟩ (allS ⟨sn366_4, ge374⟩ all0)) sn366_4)
      have c588 := (X366.sf K376 (allS ⟨c375, ge363⟩ (allS ⟨sn366_4, ge374⟩ all0)) c375)
      refine k_callVVF X376 (y := (⟨"com/example/tuned_odds/tunedodds/index/FingerprintSet", "add", "(Ljava/lang/String;)Z"⟩ : MethodName)) at_110 (w_36 hw) (w_37 hw) (w_39 hw) (w_38 hw) (w_28 hw) (w_40 hw) (by decide) (notFace_of_selects (args := #[]) (mvT X376.hZ (w_39 hw))) q376_0 (argsL := [(.ref s2)]) (rest := []) (own_add1 l Z a0 hw G n0 h376 X376.old b362 s2 t_364 kt_365 ((List.replicate 1024 (0 : Int64)).set (own_slot (List.replicate 1024 (0 : Int64)) (own_fp [ca])) (own_fp [ca])) (Int32.ofNat (0 + 1)) t2 k2 cd2 zz2 bs2 [cb] (by simp) kb (own_Tup (n := 3) T1 (by decide)) (own_Tup (n := 3) T1 (by decide)).1 1 rfl (by decide) m2 (by omega) ge363 ge374 q376_0 q376_1 q376_2 q376_3 c579 c582 c583 c586 hcod2) rfl pd_23 rfl rfl (by decide) (W := 0) (Nat.le_of_eq rfl) (by decide) (by decide) (by decide) (allS ⟨c588, ge363⟩ (allS ⟨c587, ge374⟩ all0)) (pc' := 113) rfl ?_
      rintro _ T589 h589 L589 X589 K589 ⟨rfl, q589_0, q589_1, q589_2, q589_3⟩
      have sz_h589 := K589.1
      have K0_h589 : Keep h0 h589 [] := K0_h376.trans K589 (allS (Or.inr od367) (allS (Or.inr od378) all0))
      have lt589_0 := own_n q589_0.lt
      have lt589_1 := own_n q589_1.lt
      have lt589_2 := own_n q589_2.lt
      have lt589_3 := own_n q589_3.lt
      have T2 : own_T 2 (((List.replicate 1024 (0 : Int64)).set (own_slot (List.replicate 1024 (0 : Int64)) (own_fp [ca])) (own_fp [ca])).set (own_slot ((List.replicate 1024 (0 : Int64)).set (own_slot (List.replicate 1024 (0 : Int64)) (own_fp [ca])) (own_fp [ca])) (own_fp [cb])) (own_fp [cb])) := own_Tset T1 _ _
      have z2 := own_miss0 F1 m2
      have a2 : own_hit (((List.replicate 1024 (0 : Int64)).set (own_slot (List.replicate 1024 (0 : Int64)) (own_fp [ca])) (own_fp [ca])).set (own_slot ((List.replicate 1024 (0 : Int64)).set (own_slot (List.replicate 1024 (0 : Int64)) (own_fp [ca])) (own_fp [ca])) (own_fp [cb])) (own_fp [cb])) (own_fp [ca]) := own_hit_keep nfa a1 z2 _
      have b2 : own_hit (((List.replicate 1024 (0 : Int64)).set (own_slot (List.replicate 1024 (0 : Int64)) (own_fp [ca])) (own_fp [ca])).set (own_slot ((List.replicate 1024 (0 : Int64)).set (own_slot (List.replicate 1024 (0 : Int64)) (own_fp [ca])) (own_fp [ca])) (own_fp [cb])) (own_fp [cb])) (own_fp [cb]) := own_hit_put T1.1 F1 m2
      have F2 := own_Tfree (own_Tup (n := 3) T2 (by decide))
      refine k_istore X589 at_113 (Ls' := #[.val (.int p0), .val (.int p1), .val (.int p2), .val (.int p3), .val (.int ca), .val (.int cb), .val (.ref s0), .val (.ref s2), .val (.int kk), .val (.ref u), .val (.ref b362), .val (.int (1 : Int32)), .val (.int (1 : Int32)), .unset, .unset, .unset, .unset, .unset, .unset, .unset]) rfl (pc' := 115) rfl ?_
      refine k_aload X589 at_115 rfl rfl (pc' := 117) rfl ?_
      refine k_aload X589 at_117 rfl rfl (pc' := 119) rfl ?_
      by_cases hc591 : own_hit (((List.replicate 1024 (0 : Int64)).set (own_slot (List.replicate 1024 (0 : Int64)) (own_fp [ca])) (own_fp [ca])).set (own_slot ((List.replicate 1024 (0 : Int64)).set (own_slot (List.replicate 1024 (0 : Int64)) (own_fp [ca])) (own_fp [ca])) (own_fp [cb])) (own_fp [cb])) (own_fp us)
      · have c592 := ((((f8.keep K362).keep K366).keep K376).keep K589)
        have ne593 : (u : Nat) ≠ b362 := own_ne (by omega)
        have ne594 : (u : Nat) ≠ t_364 := own_ne (by omega)
        have c595 := ((((f9.keep K362 nin0).keep K366 (ninS ne593 nin0)).keep K376 (ninS ne593 (ninS ne594 nin0))).keep K589 (ninS ne593 (ninS ne594 nin0)))
        have c596 := ((((f10.keep K362 nin0).keep K366 (ninS ne593 nin0)).keep K376 (ninS ne593 (ninS ne594 nin0))).keep K589 (ninS ne593 (ninS ne594 nin0)))
        have ne597 : (t3 : Nat) ≠ b362 := own_ne (by omega)
        have ne598 : (t3 : Nat) ≠ t_364 := own_ne (by omega)
        have c599 := ((((f11.keep K362 nin0).keep K366 (ninS ne597 nin0)).keep K376 (ninS ne597 (ninS ne598 nin0))).keep K589 (ninS ne597 (ninS ne598 nin0)))
        refine k_callVVF X589 (y := (⟨"com/example/tuned_odds/tunedodds/index/FingerprintSet", "add", "(Ljava/lang/String;)Z"⟩ : MethodName)) at_119 (w_36 hw) (w_37 hw) (w_39 hw) (w_38 hw) (w_28 hw) (w_40 hw) (by decide) (notFace_of_selects (args := #[]) (mvT X589.hZ (w_39 hw))) q589_0 (argsL := [(.ref u)]) (rest := []) (own_add0 l Z a0 hw G n0 h589 X589.old b362 u t_364 kt_365 (((List.replicate 1024 (0 : Int64)).set (own_slot (List.replicate 1024 (0 : Int64)) (own_fp [ca])) (own_fp [ca])).set (own_slot ((List.replicate 1024 (0 : Int64)).set (own_slot (List.replicate 1024 (0 : Int64)) (own_fp [ca])) (own_fp [ca])) (own_fp [cb])) (own_fp [cb])) (Int32.ofNat (1 + 1)) t3 k3 cd3 zz3 bs3 us hul hus (own_Tup (n := 3) T2 (by decide)) (own_Tup (n := 3) T2 (by decide)).1 hc591 q589_0 q589_1 q589_2 q589_3 c592 c595 c596 c599 hcod3) rfl pd_23 rfl rfl (by decide) (W := 0) (Nat.le_of_eq rfl) (by decide) (by decide) (by decide) all0 (pc' := 122) rfl ?_
        rintro _ T600 h600 L600 X600 K600 ⟨rfl, -⟩
        have sz_h600 := K600.1
        have K0_h600 : Keep h0 h600 [] := K0_h589.trans K600 all0
        refine k_istore X600 at_122 (Ls' := #[.val (.int p0), .val (.int p1), .val (.int p2), .val (.int p3), .val (.int ca), .val (.int cb), .val (.ref s0), .val (.ref s2), .val (.int kk), .val (.ref u), .val (.ref b362), .val (.int (1 : Int32)), .val (.int (1 : Int32)), .val (.int (0 : Int32)), .unset, .unset, .unset, .unset, .unset, .unset]) rfl (pc' := 124) rfl ?_
        refine k_aload X600 at_124 rfl rfl (pc' := 126) rfl ?_
        refine k_aload X600 at_126 rfl rfl (pc' := 128) rfl ?_
        have c602 := (q589_0.keep K600)
        have c603 := (q589_1.keep K600 nin0)
        have c604 := (q589_2.keep K600 nin0)
        have c605 := (q589_3.keep K600 nin0)
        have c606 := (c592.keep K600)
        have c607 := (c595.keep K600 nin0)
        have c608 := (c596.keep K600 nin0)
        have c609 := (c599.keep K600 nin0)
        refine k_callVVF X600 (y := (⟨"com/example/tuned_odds/tunedodds/index/FingerprintSet", "add", "(Ljava/lang/String;)Z"⟩ : MethodName)) at_128 (w_36 hw) (w_37 hw) (w_39 hw) (w_38 hw) (w_28 hw) (w_40 hw) (by decide) (notFace_of_selects (args := #[]) (mvT X600.hZ (w_39 hw))) c602 (argsL := [(.ref u)]) (rest := []) (own_add0 l Z a0 hw G n0 h600 X600.old b362 u t_364 kt_365 (((List.replicate 1024 (0 : Int64)).set (own_slot (List.replicate 1024 (0 : Int64)) (own_fp [ca])) (own_fp [ca])).set (own_slot ((List.replicate 1024 (0 : Int64)).set (own_slot (List.replicate 1024 (0 : Int64)) (own_fp [ca])) (own_fp [ca])) (own_fp [cb])) (own_fp [cb])) (Int32.ofNat (1 + 1)) t3 k3 cd3 zz3 bs3 us hul hus (own_Tup (n := 3) T2 (by decide)) (own_Tup (n := 3) T2 (by decide)).1 hc591 c602 c603 c604 c605 c606 c607 c608 c609 hcod3) rfl pd_23 rfl rfl (by decide) (W := 0) (Nat.le_of_eq rfl) (by decide) (by decide) (by decide) all0 (pc' := 131) rfl ?_
        rintro _ T610 h610 L610 X610 K610 ⟨rfl, -⟩
        have sz_h610 := K610.1
        have K0_h610 : Keep h0 h610 [] := K0_h600.trans K610 all0
        refine k_istore X610 at_131 (Ls' := #[.val (.int p0), .val (.int p1), .val (.int p2), .val (.int p3), .val (.int ca), .val (.int cb), .val (.ref s0), .val (.ref s2), .val (.int kk), .val (.ref u), .val (.ref b362), .val (.int (1 : Int32)), .val (.int (1 : Int32)), .val (.int (0 : Int32)), .val (.int (0 : Int32)), .unset, .unset, .unset, .unset, .unset]) rfl (pc' := 133) rfl ?_
        refine k_aload X610 at_133 rfl rfl (pc' := 135) rfl ?_
        refine k_aload X610 at_135 rfl rfl (pc' := 137) rfl ?_
        have c612 := (c602.keep K610)
        have c613 := (c603.keep K610 nin0)
        have c614 := (c604.keep K610 nin0)
        have c615 := (c605.keep K610 nin0)
        have c616 := ((((c368.keep K376).keep K589).keep K600).keep K610)
        have ne617 : (s0 : Nat) ≠ t_364 := own_ne (by omega)
        have c618 := ((((c370.keep K376 (ninS ne369 (ninS ne617 nin0))).keep K589 (ninS ne369 (ninS ne617 nin0))).keep K600 nin0).keep K610 nin0)
        have c619 := ((((c371.keep K376 (ninS ne369 (ninS ne617 nin0))).keep K589 (ninS ne369 (ninS ne617 nin0))).keep K600 nin0).keep K610 nin0)
        have ne620 : (t1 : Nat) ≠ t_364 := own_ne (by omega)
        have c621 := ((((c373.keep K376 (ninS ne372 (ninS ne620 nin0))).keep K589 (ninS ne372 (ninS ne620 nin0))).keep K600 nin0).keep K610 nin0)
        refine k_callVVF X610 (y := (⟨"com/example/tuned_odds/tunedodds/index/FingerprintSet", "add", "(Ljava/lang/String;)Z"⟩ : MethodName)) at_137 (w_36 hw) (w_37 hw) (w_39 hw) (w_38 hw) (w_28 hw) (w_40 hw) (by decide) (notFace_of_selects (args := #[]) (mvT X610.hZ (w_39 hw))) c612 (argsL := [(.ref s0)]) (rest := []) (own_add0 l Z a0 hw G n0 h610 X610.old b362 s0 t_364 kt_365 (((List.replicate 1024 (0 : Int64)).set (own_slot (List.replicate 1024 (0 : Int64)) (own_fp [ca])) (own_fp [ca])).set (own_slot ((List.replicate 1024 (0 : Int64)).set (own_slot (List.replicate 1024 (0 : Int64)) (own_fp [ca])) (own_fp [ca])) (own_fp [cb])) (own_fp [cb])) (Int32.ofNat (1 + 1)) t1 k1 cd1 zz1 bs1 [ca] (by simp) ka (own_Tup (n := 3) T2 (by decide)) (own_Tup (n := 3) T2 (by decide)).1 a2 c612 c613 c614 c615 c616 c618 c619 c621 hcod1) rfl pd_23 rfl rfl (by decide) (W := 0) (Nat.le_of_eq rfl) (by decide) (by decide) (by decide) all0 (pc' := 140) rfl ?_
        rintro _ T622 h622 L622 X622 K622 ⟨rfl, -⟩
        have sz_h622 := K622.1
        have K0_h622 : Keep h0 h622 [] := K0_h610.trans K622 all0
        refine k_istore X622 at_140 (Ls' := #[.val (.int p0), .val (.int p1), .val (.int p2), .val (.int p3), .val (.int ca), .val (.int cb), .val (.ref s0), .val (.ref s2), .val (.int kk), .val (.ref u), .val (.ref b362), .val (.int (1 : Int32)), .val (.int (1 : Int32)), .val (.int (0 : Int32)), .val (.int (0 : Int32)), .val (.int (0 : Int32)), .unset, .unset, .unset, .unset]) rfl (pc' := 142) rfl ?_
        refine k_aload X622 at_142 rfl rfl (pc' := 144) rfl ?_
        refine k_aload X622 at_144 rfl rfl (pc' := 146) rfl ?_
        have c624 := (c612.keep K622)
        have c625 := (c613.keep K622 nin0)
        have c626 := (c614.keep K622 nin0)
        have c627 := (c615.keep K622 nin0)
        have c628 := ((((c579.keep K589).keep K600).keep K610).keep K622)
        have c629 := ((((c582.keep K589 (ninS ne580 (ninS ne581 nin0))).keep K600 nin0).keep K610 nin0).keep K622 nin0)
        have c630 := ((((c583.keep K589 (ninS ne580 (ninS ne581 nin0))).keep K600 nin0).keep K610 nin0).keep K622 nin0)
        have c631 := ((((c586.keep K589 (ninS ne584 (ninS ne585 nin0))).keep K600 nin0).keep K610 nin0).keep K622 nin0)
        refine k_callVVF X622 (y := (⟨"com/example/tuned_odds/tunedodds/index/FingerprintSet", "add", "(Ljava/lang/String;)Z"⟩ : MethodName)) at_146 (w_36 hw) (w_37 hw) (w_39 hw) (w_38 hw) (w_28 hw) (w_40 hw) (by decide) (notFace_of_selects (args := #[]) (mvT X622.hZ (w_39 hw))) c624 (argsL := [(.ref s2)]) (rest := []) (own_add0 l Z a0 hw G n0 h622 X622.old b362 s2 t_364 kt_365 (((List.replicate 1024 (0 : Int64)).set (own_slot (List.replicate 1024 (0 : Int64)) (own_fp [ca])) (own_fp [ca])).set (own_slot ((List.replicate 1024 (0 : Int64)).set (own_slot (List.replicate 1024 (0 : Int64)) (own_fp [ca])) (own_fp [ca])) (own_fp [cb])) (own_fp [cb])) (Int32.ofNat (1 + 1)) t2 k2 cd2 zz2 bs2 [cb] (by simp) kb (own_Tup (n := 3) T2 (by decide)) (own_Tup (n := 3) T2 (by decide)).1 b2 c624 c625 c626 c627 c628 c629 c630 c631 hcod2) rfl pd_23 rfl rfl (by decide) (W := 0) (Nat.le_of_eq rfl) (by decide) (by decide) (by decide) all0 (pc' := 149) rfl ?_
        rintro _ T632 h632 L632 X632 K632 ⟨rfl, -⟩
        have sz_h632 := K632.1
        have K0_h632 : Keep h0 h632 [] := K0_h622.trans K632 all0
        refine k_istore X632 at_149 (Ls' := #[.val (.int p0), .val (.int p1), .val (.int p2), .val (.int p3), .val (.int ca), .val (.int cb), .val (.ref s0), .val (.ref s2), .val (.int kk), .val (.ref u), .val (.ref b362), .val (.int (1 : Int32)), .val (.int (1 : Int32)), .val (.int (0 : Int32)), .val (.int (0 : Int32)), .val (.int (0 : Int32)), .val (.int (0 : Int32)), .unset, .unset, .unset]) rfl (pc' := 151) rfl ?_
        refine k_newO X632 at_151 (w_26 hw) (w_27 hw) (w_28 hw) (by decide) (by decide) (pc' := 154) rfl fun T634 h634 b634 g634 X634 K634 E634 D634 S634 lt634 ge634 => ?_
        have sz_h634 := K634.1
        have K0_h634 : Keep h0 h634 [] := K0_h632.trans K634 all0
        have Fn634_slots : Fld Z h634 b634 "com/example/tuned_odds/tunedodds/index/FingerprintSet" "slots" "[J" .null := D634 (Or.inl (w_35 hw)) (ty := (.array .long)) (by decide)
        have Fn634_size : Fld Z h634 b634 "com/example/tuned_odds/tunedodds/index/FingerprintSet" "size" "I" (.int (0 : Int32)) := D634 (Or.inl (w_83 hw)) (ty := .int) (by decide)
        refine k_dup X634 at_154 rfl (pc' := 155) rfl ?_
        have ge635 : n0 ≤ b634 := by omega
        refine k_callPNF X634 (y := (⟨"com/example/tuned_odds/tunedodds/index/FingerprintSet", "<init>", "()V"⟩ : MethodName)) at_155 (w_29 hw) (w_30 hw) (w_28 hw) (w_31 hw) (by decide) rfl rfl (argsL := []) (rest := [(.ref b634)]) (own_fsI l Z a0 hw G n0 h634 X634.old b634 ge635 E634 Fn634_slots Fn634_size) rfl pd_22 rfl rfl (by decide) (W := 1) (Nat.le_of_eq rfl) (by decide) (by decide) (by decide) (allS ⟨S634, ge635⟩ all0) (pc' := 158) rfl ?_
        rintro T638 h638 L638 X638 K638 ⟨t_636, kt_637, q638_0, q638_1, q638_2, q638_3, q638_4⟩
        have sz_h638 := K638.1
        have od639 : h0.size ≤ b634 := by omega
        have K0_h638 : Keep h0 h638 [] := K0_h634.trans K638 (allS (Or.inr od639) all0)
        have lt638_0 := own_n q638_0.lt
        have lt638_1 := own_n q638_1.lt
        have lt638_2 := own_n q638_2.lt
        have lt638_3 := own_n q638_3.lt
        have sn638_4 := X634.sf K638 (allS ⟨S634, ge635⟩ all0) (X634.sfN q638_4)
        refine k_astore X638 at_158 rfl (Ls' := #[.val (.int p0), .val (.int p1), .val (.int p2), .val (.int p3), .val (.int ca), .val (.int cb), .val (.ref s0), .val (.ref s2), .val (.int kk), .val (.ref u), .val (.ref b362), .val (.int (1 : Int32)), .val (.int (1 : Int32)), .val (.int (0 : Int32)), .val (.int (0 : Int32)), .val (.int (0 : Int32)), .val (.int (0 : Int32)), .val (.ref b634), .unset, .unset]) rfl (pc' := 160) rfl ?_
        refine k_aload X638 at_160 rfl rfl (pc' := 162) rfl ?_
        refine k_aload X638 at_162 rfl rfl (pc' := 164) rfl ?_
        have m7 := own_no0 nfu
        have c640 := (((((c606.keep K610).keep K622).keep K632).keep K634).keep K638)
        have ne641 : (u : Nat) ≠ b634 := own_ne (by omega)
        have c642 := (((((c607.keep K610 nin0).keep K622 nin0).keep K632 nin0).keep K634 nin0).keep K638 (ninS ne641 nin0))
        have c643 := (((((c608.keep K610 nin0).keep K622 nin0).keep K632 nin0).keep K634 nin0).keep K638 (ninS ne641 nin0))
        have ne644 : (t3 : Nat) ≠ b634 := own_ne (by omega)
        have c645 := (((((c609.keep K610 nin0).keep K622 nin0).keep K632 nin0).keep K634 nin0).keep K638 (ninS ne644 nin0))
        have ge646 : n0 ≤ t_636 := by omega
        have c647 := (X634.sf K638 (allS ⟨S634, ge635⟩ all0) S634)
        refine k_callVVF X638 (y := (⟨"com/example/tuned_odds/tunedodds/index/FingerprintSet", "add", "(Ljava/lang/String;)Z"⟩ : MethodName)) at_164 (w_36 hw) (w_37 hw) (w_39 hw) (w_38 hw) (w_28 hw) (w_40 hw) (by decide) (notFace_of_selects (args := #[]) (mvT X638.hZ (w_39 hw))) q638_0 (argsL := [(.ref u)]) (rest := []) (own_add1 l Z a0 hw G n0 h638 X638.old b634 u t_636 kt_637 (List.replicate 1024 (0 : Int64)) (0 : Int32) t3 k3 cd3 zz3 bs3 us hul hus (own_Tup (n := 3) T0 (by decide)) (T0.1) 0 rfl (by decide) m7 (by omega) ge635 ge646 q638_0 q638_1 q638_2 q638_3 c640 c642 c643 c645 hcod3) rfl pd_23 rfl rfl (by decide) (W := 0) (Nat.le_of_eq rfl) (by decide) (by decide) (by decide) (allS ⟨c647, ge635⟩ (allS ⟨sn638_4, ge646⟩ all0)) (pc' := 167) rfl ?_
        rintro _ T648 h648 L648 X648 K648 ⟨rfl, q648_0, q648_1, q648_2, q648_3⟩
        have sz_h648 := K648.1
        have od650 : h0.size ≤ t_636 := by omega
        have K0_h648 : Keep h0 h648 [] := K0_h638.trans K648 (allS (Or.inr od639) (allS (Or.inr od650) all0))
        have lt648_0 := own_n q648_0.lt
        have lt648_1 := own_n q648_1.lt
        have lt648_2 := own_n q648_2.lt
        have lt648_3 := own_n q648_3.lt
        refine k_istore X648 at_167 (Ls' := #[.val (.int p0), .val (.int p1), .val (.int p2), .val (.int p3), .val (.int ca), .val (.int cb), .val (.ref s0), .val (.ref s2), .val (.int kk), .val (.ref u), .val (.ref b362), .val (.int (1 : Int32)), .val (.int (1 : Int32)), .val (.int (0 : Int32)), .val (.int (0 : Int32)), .val (.int (0 : Int32)), .val (.int (0 : Int32)), .val (.ref b634), .val (.int (1 : Int32)), .unset]) rfl (pc' := 169) rfl ?_
        refine k_aload X648 at_169 rfl rfl (pc' := 171) rfl ?_
        refine k_aload X648 at_171 rfl rfl (pc' := 173) rfl ?_
        have c651 := (c640.keep K648)
        have ne652 : (u : Nat) ≠ t_636 := own_ne (by omega)
        have c653 := (c642.keep K648 (ninS ne641 (ninS ne652 nin0)))
        have c654 := (c643.keep K648 (ninS ne641 (ninS ne652 nin0)))
        have ne655 : (t3 : Nat) ≠ t_636 := own_ne (by omega)
        have c656 := (c645.keep K648 (ninS ne644 (ninS ne655 nin0)))
        have c657 := (((((c616.keep K622).keep K632).keep K634).keep K638).keep K648)
        have ne658 : (s0 : Nat) ≠ b634 := own_ne (by omega)
        have ne659 : (s0 : Nat) ≠ t_636 := own_ne (by omega)
        have c660 := (((((c618.keep K622 nin0).keep K632 nin0).keep K634 nin0).keep K638 (ninS ne658 nin0)).keep K648 (ninS ne658 (ninS ne659 nin0)))
        have c661 := (((((c619.keep K622 nin0).keep K632 nin0).keep K634 nin0).keep K638 (ninS ne658 nin0)).keep K648 (ninS ne658 (ninS ne659 nin0)))
        have ne662 : (t1 : Nat) ≠ b634 := own_ne (by omega)
        have ne663 : (t1 : Nat) ≠ t_636 := own_ne (by omega)
        have c664 := (((((c621.keep K622 nin0).keep K632 nin0).keep K634 nin0).keep K638 (ninS ne662 nin0)).keep K648 (ninS ne662 (ninS ne663 nin0)))
        refine k_callVVF X648 (y := (⟨"java/lang/String", "equals", "(Ljava/lang/Object;)Z"⟩ : MethodName)) at_173 (w_84 hw) (w_85 hw) (w_87 hw) (w_86 hw) (w_2 hw) (w_88 hw) (by decide) (notFace_of_selects (args := #[]) (mvT X648.hZ (w_87 hw))) c651 (argsL := [(.ref s0)]) (rest := []) (own_eq l Z a0 hw G n0 h648 X648.old u s0 t3 k3 cd3 zz3 bs3 us t1 k1 cd1 zz1 bs1 [ca] (by omega) (by simp) hus ka c651 c653 c654 c656 hcod3 c657 c660 c661 c664 hcod1) rfl pd_24 rfl rfl (by decide) (W := 0) (Nat.le_of_eq rfl) (by decide) (by decide) (by decide) all0 (pc' := 176) rfl ?_
        rintro _ T665 h665 L665 X665 K665 ⟨rfl, -⟩
        have sz_h665 := K665.1
        have K0_h665 : Keep h0 h665 [] := K0_h648.trans K665 all0
        by_cases hc667 : us = [ca]
        · have hk : own_fp us = own_fp [ca] := by rw [hc667]
          refine k_ifYes X665 at_176 ((if0 _ _).trans (feq (own_eqv_eq hc667)).2) (pc' := 189) (by decide) (by decide) ?_
          refine k_iconst X665 at_189 (w := (1 : Int32)) rfl (pc' := 190) rfl ?_
          refine k_goto X665 at_190 (pc' := 194) (by decide) (by decide) ?_
          refine k_istore X665 at_194 (Ls' := #[.val (.int p0), .val (.int p1), .val (.int p2), .val (.int p3), .val (.int ca), .val (.int cb), .val (.ref s0), .val (.ref s2), .val (.int kk), .val (.ref u), .val (.ref b362), .val (.int (1 : Int32)), .val (.int (1 : Int32)), .val (.int (0 : Int32)), .val (.int (0 : Int32)), .val (.int (0 : Int32)), .val (.int (0 : Int32)), .val (.ref b634), .val (.int (1 : Int32)), .val (.int (1 : Int32))]) rfl (pc' := 196) rfl ?_
          refine k_iload X665 at_196 rfl (pc' := 198) rfl ?_
          refine k_ifNo X665 at_198 (by decide) (pc' := 201) rfl ?_
          refine k_iload X665 at_201 rfl (pc' := 203) rfl ?_
          refine k_iload X665 at_203 rfl (pc' := 205) rfl ?_
          refine k_iload X665 at_205 rfl (pc' := 207) rfl ?_
          refine k_icmpNo X665 at_207 (feq hab).1 (pc' := 210) rfl ?_
          refine k_iconst X665 at_210 (w := (1 : Int32)) rfl (pc' := 211) rfl ?_
          refine k_goto X665 at_211 (pc' := 215) (by decide) (by decide) ?_
          refine k_icmpNo X665 at_215 (by decide) (pc' := 218) rfl ?_
          refine k_iload X665 at_218 rfl (pc' := 220) rfl ?_
          refine k_ifNo X665 at_220 (by decide) (pc' := 223) rfl ?_
          refine k_iload X665 at_223 rfl (pc' := 225) rfl ?_
          refine k_ifNo X665 at_225 (by decide) (pc' := 228) rfl ?_
          refine k_iload X665 at_228 rfl (pc' := 230) rfl ?_
          refine k_ifNo X665 at_230 (by decide) (pc' := 233) rfl ?_
          refine k_iload X665 at_233 rfl (pc' := 235) rfl ?_
          refine k_ifNo X665 at_235 (by decide) (pc' := 238) rfl ?_
          refine k_iload X665 at_238 rfl (pc' := 240) rfl ?_
          refine k_ifNo X665 at_240 (by decide) (pc' := 243) rfl ?_
          refine k_iload X665 at_243 rfl (pc' := 245) rfl ?_
          refine k_ifNo X665 at_245 (by decide) (pc' := 248) rfl ?_
          refine k_iconst X665 at_248 (w := (1 : Int32)) rfl (pc' := 249) rfl ?_
          refine k_goto X665 at_249 (pc' := 253) (by decide) (by decide) ?_
          exact k_retHN X665 (w := (1 : Int32)) at_253 (t := .boolean) rfl (by simp) rfl K0_h665 (fun v' C' => ⟨_, rfl, rfl, trivial⟩) (by decide) (by decide)
        · refine k_ifNo X665 at_176 ((if0 _ _).trans (teq (own_eqv_ne hc667)).2) (pc' := 179) rfl ?_
          refine k_aload X665 at_179 rfl rfl (pc' := 181) rfl ?_
          refine k_aload X665 at_181 rfl rfl (pc' := 183) rfl ?_
          have c668 := (c651.keep K665)
          have c669 := (c653.keep K665 nin0)
          have c670 := (c654.keep K665 nin0)
          have c671 := (c656.keep K665 nin0)
          have c672 := (((((c628.keep K632).keep K634).keep K638).keep K648).keep K665)
          have ne673 : (s2 : Nat) ≠ b634 := own_ne (by omega)
          have ne674 : (s2 : Nat) ≠ t_636 := own_ne (by omega)
          have c675 := (((((c629.keep K632 nin0).keep K634 nin0).keep K638 (ninS ne673 nin0)).keep K648 (ninS ne673 (ninS ne674 nin0))).keep K665 nin0)
          have c676 := (((((c630.keep K632 nin0).keep K634 nin0).keep K638 (ninS ne673 nin0)).keep K648 (ninS ne673 (ninS ne674 nin0))).keep K665 nin0)
          have ne677 : (t2 : Nat) ≠ b634 := own_ne (by omega)
          have ne678 : (t2 : Nat) ≠ t_636 := own_ne (by omega)
          have c679 := (((((c631.keep K632 nin0).keep K634 nin0).keep K638 (ninS ne677 nin0)).keep K648 (ninS ne677 (ninS ne678 nin0))).keep K665 nin0)
          refine k_callVVF X665 (y := (⟨"java/lang/String", "equals", "(Ljava/lang/Object;)Z"⟩ : MethodName)) at_183 (w_84 hw) (w_85 hw) (w_87 hw) (w_86 hw) (w_2 hw) (w_88 hw) (by decide) (notFace_of_selects (args := #[]) (mvT X665.hZ (w_87 hw))) c668 (argsL := [(.ref s2)]) (rest := []) (own_eq l Z a0 hw G n0 h665 X665.old u s2 t3 k3 cd3 zz3 bs3 us t2 k2 cd2 zz2 bs2 [cb] (by omega) (by simp) hus kb c668 c669 c670 c671 hcod3 c672 c675 c676 c679 hcod2) rfl pd_24 rfl rfl (by decide) (W := 0) (Nat.le_of_eq rfl) (by decide) (by decide) (by decide) all0 (pc' := 186) rfl ?_
          rintro _ T680 h680 L680 X680 K680 ⟨rfl, -⟩
          have sz_h680 := K680.1
          have K0_h680 : Keep h0 h680 [] := K0_h665.trans K680 all0
          by_cases hc682 : us = [cb]
          · have hk : own_fp us = own_fp [cb] := by rw [hc682]
            refine k_ifNo X680 at_186 ((if0 _ _).trans (feq (own_eqv_eq hc682)).1) (pc' := 189) rfl ?_
            refine k_iconst X680 at_189 (w := (1 : Int32)) rfl (pc' := 190) rfl ?_
            refine k_goto X680 at_190 (pc' := 194) (by decide) (by decide) ?_
            refine k_istore X680 at_194 (Ls' := #[.val (.int p0), .val (.int p1), .val (.int p2), .val (.int p3), .val (.int ca), .val (.int cb), .val (.ref s0), .val (.ref s2), .val (.int kk), .val (.ref u), .val (.ref b362), .val (.int (1 : Int32)), .val (.int (1 : Int32)), .val (.int (0 : Int32)), .val (.int (0 : Int32)), .val (.int (0 : Int32)), .val (.int (0 : Int32)), .val (.ref b634), .val (.int (1 : Int32)), .val (.int (1 : Int32))]) rfl (pc' := 196) rfl ?_
            refine k_iload X680 at_196 rfl (pc' := 198) rfl ?_
            refine k_ifNo X680 at_198 (by decide) (pc' := 201) rfl ?_
            refine k_iload X680 at_201 rfl (pc' := 203) rfl ?_
            refine k_iload X680 at_203 rfl (pc' := 205) rfl ?_
            refine k_iload X680 at_205 rfl (pc' := 207) rfl ?_
            refine k_icmpNo X680 at_207 (feq hab).1 (pc' := 210) rfl ?_
            refine k_iconst X680 at_210 (w := (1 : Int32)) rfl (pc' := 211) rfl ?_
            refine k_goto X680 at_211 (pc' := 215) (by decide) (by decide) ?_
            refine k_icmpNo X680 at_215 (by decide) (pc' := 218) rfl ?_
            refine k_iload X680 at_218 rfl (pc' := 220) rfl ?_
            refine k_ifNo X680 at_220 (by decide) (pc' := 223) rfl ?_
            refine k_iload X680 at_223 rfl (pc' := 225) rfl ?_
            refine k_ifNo X680 at_225 (by decide) (pc' := 228) rfl ?_
            refine k_iload X680 at_228 rfl (pc' := 230) rfl ?_
            refine k_ifNo X680 at_230 (by decide) (pc' := 233) rfl ?_
            refine k_iload X680 at_233 rfl (pc' := 235) rfl ?_
            refine k_ifNo X680 at_235 (by decide) (pc' := 238) rfl ?_
            refine k_iload X680 at_238 rfl (pc' := 240) rfl ?_
            refine k_ifNo X680 at_240 (by decide) (pc' := 243) rfl ?_
            refine k_iload X680 at_243 rfl (pc' := 245) rfl ?_
            refine k_ifNo X680 at_245 (by decide) (pc' := 248) rfl ?_
            refine k_iconst X680 at_248 (w := (1 : Int32)) rfl (pc' := 249) rfl ?_
            refine k_goto X680 at_249 (pc' := 253) (by decide) (by decide) ?_
            exact k_retHN X680 (w := (1 : Int32)) at_253 (t := .boolean) rfl (by simp) rfl K0_h680 (fun v' C' => ⟨_, rfl, rfl, trivial⟩) (by decide) (by decide)
          · refine k_ifYes X680 at_186 ((if0 _ _).trans (teq (own_eqv_ne hc682)).1) (pc' := 193) (by decide) (by decide) ?_
            refine k_iconst X680 at_193 (w := (0 : Int32)) rfl (pc' := 194) rfl ?_
            refine k_istore X680 at_194 (Ls' := #[.val (.int p0), .val (.int p1), .val (.int p2), .val (.int p3), .val (.int ca), .val (.int cb), .val (.ref s0), .val (.ref s2), .val (.int kk), .val (.ref u), .val (.ref b362), .val (.int (1 : Int32)), .val (.int (1 : Int32)), .val (.int (0 : Int32)), .val (.int (0 : Int32)), .val (.int (0 : Int32)), .val (.int (0 : Int32)), .val (.ref b634), .val (.int (1 : Int32)), .val (.int (0 : Int32))]) rfl (pc' := 196) rfl ?_
            refine k_iload X680 at_196 rfl (pc' := 198) rfl ?_
            refine k_ifNo X680 at_198 (by decide) (pc' := 201) rfl ?_
            refine k_iload X680 at_201 rfl (pc' := 203) rfl ?_
            refine k_iload X680 at_203 rfl (pc' := 205) rfl ?_
            refine k_iload X680 at_205 rfl (pc' := 207) rfl ?_
            refine k_icmpNo X680 at_207 (feq hab).1 (pc' := 210) rfl ?_
            refine k_iconst X680 at_210 (w := (1 : Int32)) rfl (pc' := 211) rfl ?_
            refine k_goto X680 at_211 (pc' := 215) (by decide) (by decide) ?_
            refine k_icmpNo X680 at_215 (by decide) (pc' := 218) rfl ?_
            refine k_iload X680 at_218 rfl (pc' := 220) rfl ?_
            refine k_ifYes X680 at_220 (by decide) (pc' := 228) (by decide) (by decide) ?_
            refine k_iload X680 at_228 rfl (pc' := 230) rfl ?_
            refine k_ifNo X680 at_230 (by decide) (pc' := 233) rfl ?_
            refine k_iload X680 at_233 rfl (pc' := 235) rfl ?_
            refine k_ifNo X680 at_235 (by decide) (pc' := 238) rfl ?_
            refine k_iload X680 at_238 rfl (pc' := 240) rfl ?_
            refine k_ifNo X680 at_240 (by decide) (pc' := 243) rfl ?_
            refine k_iload X680 at_243 rfl (pc' := 245) rfl ?_
            refine k_ifNo X680 at_245 (by decide) (pc' := 248) rfl ?_
            refine k_iconst X680 at_248 (w := (1 : Int32)) rfl (pc' := 249) rfl ?_
            refine k_goto X680 at_249 (pc' := 253) (by decide) (by decide) ?_
            exact k_retHN X680 (w := (1 : Int32)) at_253 (t := .boolean) rfl (by simp) rfl K0_h680 (fun v' C' => ⟨_, rfl, rfl, trivial⟩) (by decide) (by decide)
      · have mu := hc591
        have c683 := ((((f8.keep K362).keep K366).keep K376).keep K589)
        have ne684 : (u : Nat) ≠ b362 := own_ne (by omega)
        have ne685 : (u : Nat) ≠ t_364 := own_ne (by omega)
        have c686 := ((((f9.keep K362 nin0).keep K366 (ninS ne684 nin0)).keep K376 (ninS ne684 (ninS ne685 nin0))).keep K589 (ninS ne684 (ninS ne685 nin0)))
        have c687 := ((((f10.keep K362 nin0).keep K366 (ninS ne684 nin0)).keep K376 (ninS ne684 (ninS ne685 nin0))).keep K589 (ninS ne684 (ninS ne685 nin0)))
        have ne688 : (t3 : Nat) ≠ b362 := own_ne (by omega)
        have ne689 : (t3 : Nat) ≠ t_364 := own_ne (by omega)
        have c690 := ((((f11.keep K362 nin0).keep K366 (ninS ne688 nin0)).keep K376 (ninS ne688 (ninS ne689 nin0))).keep K589 (ninS ne688 (ninS ne689 nin0)))
        have c691 := (X376.sf K589 (allS ⟨c588, ge363⟩ (allS ⟨c587, ge374⟩ all0)) c587)
        have c692 := (X376.sf K589 (allS ⟨c588, ge363⟩ (allS ⟨c587, ge374⟩ all0)) c588)
        refine k_callVVF X589 (y := (⟨"com/example/tuned_odds/tunedodds/index/FingerprintSet", "add", "(Ljava/lang/String;)Z"⟩ : MethodName)) at_119 (w_36 hw) (w_37 hw) (w_39 hw) (w_38 hw) (w_28 hw) (w_40 hw) (by decide) (notFace_of_selects (args := #[]) (mvT X589.hZ (w_39 hw))) q589_0 (argsL := [(.ref u)]) (rest := []) (own_add1 l Z a0 hw G n0 h589 X589.old b362 u t_364 kt_365 (((List.replicate 1024 (0 : Int64)).set (own_slot (List.replicate 1024 (0 : Int64)) (own_fp [ca])) (own_fp [ca])).set (own_slot ((List.replicate 1024 (0 : Int64)).set (own_slot (List.replicate 1024 (0 : Int64)) (own_fp [ca])) (own_fp [ca])) (own_fp [cb])) (own_fp [cb])) (Int32.ofNat (1 + 1)) t3 k3 cd3 zz3 bs3 us hul hus (own_Tup (n := 3) T2 (by decide)) (own_Tup (n := 3) T2 (by decide)).1 2 rfl (by decide) mu (by omega) ge363 ge374 q589_0 q589_1 q589_2 q589_3 c683 c686 c687 c690 hcod3) rfl pd_23 rfl rfl (by decide) (W := 0) (Nat.le_of_eq rfl) (by decide) (by decide) (by decide) (allS ⟨c692, ge363⟩ (allS ⟨c691, ge374⟩ all0)) (pc' := 122) rfl ?_
        rintro _ T693 h693 L693 X693 K693 ⟨rfl, q693_0, q693_1, q693_2, q693_3⟩
        have sz_h693 := K693.1
        have K0_h693 : Keep h0 h693 [] := K0_h589.trans K693 (allS (Or.inr od367) (allS (Or.inr od378) all0))
        have lt693_0 := own_n q693_0.lt
        have lt693_1 := own_n q693_1.lt
        have lt693_2 := own_n q693_2.lt
        have lt693_3 := own_n q693_3.lt
        have T3 : own_T 3 ((((List.replicate 1024 (0 : Int64)).set (own_slot (List.replicate 1024 (0 : Int64)) (own_fp [ca])) (own_fp [ca])).set (own_slot ((List.replicate 1024 (0 : Int64)).set (own_slot (List.replicate 1024 (0 : Int64)) (own_fp [ca])) (own_fp [ca])) (own_fp [cb])) (own_fp [cb])).set (own_slot (((List.replicate 1024 (0 : Int64)).set (own_slot (List.replicate 1024 (0 : Int64)) (own_fp [ca])) (own_fp [ca])).set (own_slot ((List.replicate 1024 (0 : Int64)).set (own_slot (List.replicate 1024 (0 : Int64)) (own_fp [ca])) (own_fp [ca])) (own_fp [cb])) (own_fp [cb])) (own_fp us)) (own_fp us)) := own_Tset T2 _ _
        have z3 := own_miss0 F2 mu
        have a3 : own_hit ((((List.replicate 1024 (0 : Int64)).set (own_slot (List.replicate 1024 (0 : Int64)) (own_fp [ca])) (own_fp [ca])).set (own_slot ((List.replicate 1024 (0 : Int64)).set (own_slot (List.replicate 1024 (0 : Int64)) (own_fp [ca])) (own_fp [ca])) (own_fp [cb])) (own_fp [cb])).set (own_slot (((List.replicate 1024 (0 : Int64)).set (own_slot (List.replicate 1024 (0 : Int64)) (own_fp [ca])) (own_fp [ca])).set (own_slot ((List.replicate 1024 (0 : Int64)).set (own_slot (List.replicate 1024 (0 : Int64)) (own_fp [ca])) (own_fp [ca])) (own_fp [cb])) (own_fp [cb])) (own_fp us)) (own_fp us)) (own_fp [ca]) := own_hit_keep nfa a2 z3 _
        have b3 : own_hit ((((List.replicate 1024 (0 : Int64)).set (own_slot (List.replicate 1024 (0 : Int64)) (own_fp [ca])) (own_fp [ca])).set (own_slot ((List.replicate 1024 (0 : Int64)).set (own_slot (List.replicate 1024 (0 : Int64)) (own_fp [ca])) (own_fp [ca])) (own_fp [cb])) (own_fp [cb])).set (own_slot (((List.replicate 1024 (0 : Int64)).set (own_slot (List.replicate 1024 (0 : Int64)) (own_fp [ca])) (own_fp [ca])).set (own_slot ((List.replicate 1024 (0 : Int64)).set (own_slot (List.replicate 1024 (0 : Int64)) (own_fp [ca])) (own_fp [ca])) (own_fp [cb])) (own_fp [cb])) (own_fp us)) (own_fp us)) (own_fp [cb]) := own_hit_keep nfb b2 z3 _
        have u3 : own_hit ((((List.replicate 1024 (0 : Int64)).set (own_slot (List.replicate 1024 (0 : Int64)) (own_fp [ca])) (own_fp [ca])).set (own_slot ((List.replicate 1024 (0 : Int64)).set (own_slot (List.replicate 1024 (0 : Int64)) (own_fp [ca])) (own_fp [ca])) (own_fp [cb])) (own_fp [cb])).set (own_slot (((List.replicate 1024 (0 : Int64)).set (own_slot (List.replicate 1024 (0 : Int64)) (own_fp [ca])) (own_fp [ca])).set (own_slot ((List.replicate 1024 (0 : Int64)).set (own_slot (List.replicate 1024 (0 : Int64)) (own_fp [ca])) (own_fp [ca])) (own_fp [cb])) (own_fp [cb])) (own_fp us)) (own_fp us)) (own_fp us) := own_hit_put T2.1 F2 mu
        refine k_istore X693 at_122 (Ls' := #[.val (.int p0), .val (.int p1), .val (.int p2), .val (.int p3), .val (.int ca), .val (.int cb), .val (.ref s0), .val (.ref s2), .val (.int kk), .val (.ref u), .val (.ref b362), .val (.int (1 : Int32)), .val (.int (1 : Int32)), .val (.int (1 : Int32)), .unset, .unset, .unset, .unset, .unset, .unset]) rfl (pc' := 124) rfl ?_
        refine k_aload X693 at_124 rfl rfl (pc' := 126) rfl ?_
        refine k_aload X693 at_126 rfl rfl (pc' := 128) rfl ?_
        have c695 := (c683.keep K693)
        have c696 := (c686.keep K693 (ninS ne684 (ninS ne685 nin0)))
        have c697 := (c687.keep K693 (ninS ne684 (ninS ne685 nin0)))
        have c698 := (c690.keep K693 (ninS ne688 (ninS ne689 nin0)))
        refine k_callVVF X693 (y := (⟨"com/example/tuned_odds/tunedodds/index/FingerprintSet", "add", "(Ljava/lang/String;)Z"⟩ : MethodName)) at_128 (w_36 hw) (w_37 hw) (w_39 hw) (w_38 hw) (w_28 hw) (w_40 hw) (by decide) (notFace_of_selects (args := #[]) (mvT X693.hZ (w_39 hw))) q693_0 (argsL := [(.ref u)]) (rest := []) (own_add0 l Z a0 hw G n0 h693 X693.old b362 u t_364 kt_365 ((((List.replicate 1024 (0 : Int64)).set (own_slot (List.replicate 1024 (0 : Int64)) (own_fp [ca])) (own_fp [ca])).set (own_slot ((List.replicate 1024 (0 : Int64)).set (own_slot (List.replicate 1024 (0 : Int64)) (own_fp [ca])) (own_fp [ca])) (own_fp [cb])) (own_fp [cb])).set (own_slot (((List.replicate 1024 (0 : Int64)).set (own_slot (List.replicate 1024 (0 : Int64)) (own_fp [ca])) (own_fp [ca])).set (own_slot ((List.replicate 1024 (0 : Int64)).set (own_slot (List.replicate 1024 (0 : Int64)) (own_fp [ca])) (own_fp [ca])) (own_fp [cb])) (own_fp [cb])) (own_fp us)) (own_fp us)) (Int32.ofNat (2 + 1)) t3 k3 cd3 zz3 bs3 us hul hus (own_Tup (n := 3) T3 (by decide)) (own_Tup (n := 3) T3 (by decide)).1 u3 q693_0 q693_1 q693_2 q693_3 c695 c696 c697 c698 hcod3) rfl pd_23 rfl rfl (by decide) (W := 0) (Nat.le_of_eq rfl) (by decide) (by decide) (by decide) all0 (pc' := 131) rfl ?_
        rintro _ T699 h699 L699 X699 K699 ⟨rfl, -⟩
        have sz_h699 := K699.1
        have K0_h699 : Keep h0 h699 [] := K0_h693.trans K699 all0
        refine k_istore X699 at_131 (Ls' := #[.val (.int p0), .val (.int p1), .val (.int p2), .val (.int p3), .val (.int ca), .val (.int cb), .val (.ref s0), .val (.ref s2), .val (.int kk), .val (.ref u), .val (.ref b362), .val (.int (1 : Int32)), .val (.int (1 : Int32)), .val (.int (1 : Int32)), .val (.int (0 : Int32)), .unset, .unset, .unset, .unset, .unset]) rfl (pc' := 133) rfl ?_
        refine k_aload X699 at_133 rfl rfl (pc' := 135) rfl ?_
        refine k_aload X699 at_135 rfl rfl (pc' := 137) rfl ?_
        have c701 := (q693_0.keep K699)
        have c702 := (q693_1.keep K699 nin0)
        have c703 := (q693_2.keep K699 nin0)
        have c704 := (q693_3.keep K699 nin0)
        have c705 := ((((c368.keep K376).keep K589).keep K693).keep K699)
        have ne706 : (s0 : Nat) ≠ t_364 := own_ne (by omega)
        have c707 := ((((c370.keep K376 (ninS ne369 (ninS ne706 nin0))).keep K589 (ninS ne369 (ninS ne706 nin0))).keep K693 (ninS ne369 (ninS ne706 nin0))).keep K699 nin0)
        have c708 := ((((c371.keep K376 (ninS ne369 (ninS ne706 nin0))).keep K589 (ninS ne369 (ninS ne706 nin0))).keep K693 (ninS ne369 (ninS ne706 nin0))).keep K699 nin0)
        have ne709 : (t1 : Nat) ≠ t_364 := own_ne (by omega)
        have c710 := ((((c373.keep K376 (ninS ne372 (ninS ne709 nin0))).keep K589 (ninS ne372 (ninS ne709 nin0))).keep K693 (ninS ne372 (ninS ne709 nin0))).keep K699 nin0)
        refine k_callVVF X699 (y := (⟨"com/example/tuned_odds/tunedodds/index/FingerprintSet", "add", "(Ljava/lang/String;)Z"⟩ : MethodName)) at_137 (w_36 hw) (w_37 hw) (w_39 hw) (w_38 hw) (w_28 hw) (w_40 hw) (by decide) (notFace_of_selects (args := #[]) (mvT X699.hZ (w_39 hw))) c701 (argsL := [(.ref s0)]) (rest := []) (own_add0 l Z a0 hw G n0 h699 X699.old b362 s0 t_364 kt_365 ((((List.replicate 1024 (0 : Int64)).set (own_slot (List.replicate 1024 (0 : Int64)) (own_fp [ca])) (own_fp [ca])).set (own_slot ((List.replicate 1024 (0 : Int64)).set (own_slot (List.replicate 1024 (0 : Int64)) (own_fp [ca])) (own_fp [ca])) (own_fp [cb])) (own_fp [cb])).set (own_slot (((List.replicate 1024 (0 : Int64)).set (own_slot (List.replicate 1024 (0 : Int64)) (own_fp [ca])) (own_fp [ca])).set (own_slot ((List.replicate 1024 (0 : Int64)).set (own_slot (List.replicate 1024 (0 : Int64)) (own_fp [ca])) (own_fp [ca])) (own_fp [cb])) (own_fp [cb])) (own_fp us)) (own_fp us)) (Int32.ofNat (2 + 1)) t1 k1 cd1 zz1 bs1 [ca] (by simp) ka (own_Tup (n := 3) T3 (by decide)) (own_Tup (n := 3) T3 (by decide)).1 a3 c701 c702 c703 c704 c705 c707 c708 c710 hcod1) rfl pd_23 rfl rfl (by decide) (W := 0) (Nat.le_of_eq rfl) (by decide) (by decide) (by decide) all0 (pc' := 140) rfl ?_
        rintro _ T711 h711 L711 X711 K711 ⟨rfl, -⟩
        have sz_h711 := K711.1
        have K0_h711 : Keep h0 h711 [] := K0_h699.trans K711 all0
        refine k_istore X711 at_140 (Ls' := #[.val (.int p0), .val (.int p1), .val (.int p2), .val (.int p3), .val (.int ca), .val (.int cb), .val (.ref s0), .val (.ref s2), .val (.int kk), .val (.ref u), .val (.ref b362), .val (.int (1 : Int32)), .val (.int (1 : Int32)), .val (.int (1 : Int32)), .val (.int (0 : Int32)), .val (.int (0 : Int32)), .unset, .unset, .unset, .unset]) rfl (pc' := 142) rfl ?_
        refine k_aload X711 at_142 rfl rfl (pc' := 144) rfl ?_
        refine k_aload X711 at_144 rfl rfl (pc' := 146) rfl ?_
        have c713 := (c701.keep K711)
        have c714 := (c702.keep K711 nin0)
        have c715 := (c703.keep K711 nin0)
        have c716 := (c704.keep K711 nin0)
        have c717 := ((((c579.keep K589).keep K693).keep K699).keep K711)
        have c718 := ((((c582.keep K589 (ninS ne580 (ninS ne581 nin0))).keep K693 (ninS ne580 (ninS ne581 nin0))).keep K699 nin0).keep K711 nin0)
        have c719 := ((((c583.keep K589 (ninS ne580 (ninS ne581 nin0))).keep K693 (ninS ne580 (ninS ne581 nin0))).keep K699 nin0).keep K711 nin0)
        have c720 := ((((c586.keep K589 (ninS ne584 (ninS ne585 nin0))).keep K693 (ninS ne584 (ninS ne585 nin0))).keep K699 nin0).keep K711 nin0)
        refine k_callVVF X711 (y := (⟨"com/example/tuned_odds/tunedodds/index/FingerprintSet", "add", "(Ljava/lang/String;)Z"⟩ : MethodName)) at_146 (w_36 hw) (w_37 hw) (w_39 hw) (w_38 hw) (w_28 hw) (w_40 hw) (by decide) (notFace_of_selects (args := #[]) (mvT X711.hZ (w_39 hw))) c713 (argsL := [(.ref s2)]) (rest := []) (own_add0 l Z a0 hw G n0 h711 X711.old b362 s2 t_364 kt_365 ((((List.replicate 1024 (0 : Int64)).set (own_slot (List.replicate 1024 (0 : Int64)) (own_fp [ca])) (own_fp [ca])).set (own_slot ((List.replicate 1024 (0 : Int64)).set (own_slot (List.replicate 1024 (0 : Int64)) (own_fp [ca])) (own_fp [ca])) (own_fp [cb])) (own_fp [cb])).set (own_slot (((List.replicate 1024 (0 : Int64)).set (own_slot (List.replicate 1024 (0 : Int64)) (own_fp [ca])) (own_fp [ca])).set (own_slot ((List.replicate 1024 (0 : Int64)).set (own_slot (List.replicate 1024 (0 : Int64)) (own_fp [ca])) (own_fp [ca])) (own_fp [cb])) (own_fp [cb])) (own_fp us)) (own_fp us)) (Int32.ofNat (2 + 1)) t2 k2 cd2 zz2 bs2 [cb] (by simp) kb (own_Tup (n := 3) T3 (by decide)) (own_Tup (n := 3) T3 (by decide)).1 b3 c713 c714 c715 c716 c717 c718 c719 c720 hcod2) rfl pd_23 rfl rfl (by decide) (W := 0) (Nat.le_of_eq rfl) (by decide) (by decide) (by decide) all0 (pc' := 149) rfl ?_
        rintro _ T721 h721 L721 X721 K721 ⟨rfl, -⟩
        have sz_h721 := K721.1
        have K0_h721 : Keep h0 h721 [] := K0_h711.trans K721 all0
        refine k_istore X721 at_149 (Ls' := #[.val (.int p0), .val (.int p1), .val (.int p2), .val (.int p3), .val (.int ca), .val (.int cb), .val (.ref s0), .val (.ref s2), .val (.int kk), .val (.ref u), .val (.ref b362), .val (.int (1 : Int32)), .val (.int (1 : Int32)), .val (.int (1 : Int32)), .val (.int (0 : Int32)), .val (.int (0 : Int32)), .val (.int (0 : Int32)), .unset, .unset, .unset]) rfl (pc' := 151) rfl ?_
        refine k_newO X721 at_151 (w_26 hw) (w_27 hw) (w_28 hw) (by decide) (by decide) (pc' := 154) rfl fun T723 h723 b723 g723 X723 K723 E723 D723 S723 lt723 ge723 => ?_
        have sz_h723 := K723.1
        have K0_h723 : Keep h0 h723 [] := K0_h721.trans K723 all0
        have Fn723_slots : Fld Z h723 b723 "com/example/tuned_odds/tunedodds/index/FingerprintSet" "slots" "[J" .null := D723 (Or.inl (w_35 hw)) (ty := (.array .long)) (by decide)
        have Fn723_size : Fld Z h723 b723 "com/example/tuned_odds/tunedodds/index/FingerprintSet" "size" "I" (.int (0 : Int32)) := D723 (Or.inl (w_83 hw)) (ty := .int) (by decide)
        refine k_dup X723 at_154 rfl (pc' := 155) rfl ?_
        have ge724 : n0 ≤ b723 := by omega
        refine k_callPNF X723 (y := (⟨"com/example/tuned_odds/tunedodds/index/FingerprintSet", "<init>", "()V"⟩ : MethodName)) at_155 (w_29 hw) (w_30 hw) (w_28 hw) (w_31 hw) (by decide) rfl rfl (argsL := []) (rest := [(.ref b723)]) (own_fsI l Z a0 hw G n0 h723 X723.old b723 ge724 E723 Fn723_slots Fn723_size) rfl pd_22 rfl rfl (by decide) (W := 1) (Nat.le_of_eq rfl) (by decide) (by decide) (by decide) (allS ⟨S723, ge724⟩ all0) (pc' := 158) rfl ?_
        rintro T727 h727 L727 X727 K727 ⟨t_725, kt_726, q727_0, q727_1, q727_2, q727_3, q727_4⟩
        have sz_h727 := K727.1
        have od728 : h0.size ≤ b723 := by omega
        have K0_h727 : Keep h0 h727 [] := K0_h723.trans K727 (allS (Or.inr od728) all0)
        have lt727_0 := own_n q727_0.lt
        have lt727_1 := own_n q727_1.lt
        have lt727_2 := own_n q727_2.lt
        have lt727_3 := own_n q727_3.lt
        have sn727_4 := X723.sf K727 (allS ⟨S723, ge724⟩ all0) (X723.sfN q727_4)
        refine k_astore X727 at_158 rfl (Ls' := #[.val (.int p0), .val (.int p1), .val (.int p2), .val (.int p3), .val (.int ca), .val (.int cb), .val (.ref s0), .val (.ref s2), .val (.int kk), .val (.ref u), .val (.ref b362), .val (.int (1 : Int32)), .val (.int (1 : Int32)), .val (.int (1 : Int32)), .val (.int (0 : Int32)), .val (.int (0 : Int32)), .val (.int (0 : Int32)), .val (.ref b723), .unset, .unset]) rfl (pc' := 160) rfl ?_
        refine k_aload X727 at_160 rfl rfl (pc' := 162) rfl ?_
        refine k_aload X727 at_162 rfl rfl (pc' := 164) rfl ?_
        have m7 := own_no0 nfu
        have c729 := (((((c695.keep K699).keep K711).keep K721).keep K723).keep K727)
        have ne730 : (u : Nat) ≠ b723 := own_ne (by omega)
        have c731 := (((((c696.keep K699 nin0).keep K711 nin0).keep K721 nin0).keep K723 nin0).keep K727 (ninS ne730 nin0))
        have c732 := (((((c697.keep K699 nin0).keep K711 nin0).keep K721 nin0).keep K723 nin0).keep K727 (ninS ne730 nin0))
        have ne733 : (t3 : Nat) ≠ b723 := own_ne (by omega)
        have c734 := (((((c698.keep K699 nin0).keep K711 nin0).keep K721 nin0).keep K723 nin0).keep K727 (ninS ne733 nin0))
        have ge735 : n0 ≤ t_725 := by omega
        have c736 := (X723.sf K727 (allS ⟨S723, ge724⟩ all0) S723)
        refine k_callVVF X727 (y := (⟨"com/example/tuned_odds/tunedodds/index/FingerprintSet", "add", "(Ljava/lang/String;)Z"⟩ : MethodName)) at_164 (w_36 hw) (w_37 hw) (w_39 hw) (w_38 hw) (w_28 hw) (w_40 hw) (by decide) (notFace_of_selects (args := #[]) (mvT X727.hZ (w_39 hw))) q727_0 (argsL := [(.ref u)]) (rest := []) (own_add1 l Z a0 hw G n0 h727 X727.old b723 u t_725 kt_726 (List.replicate 1024 (0 : Int64)) (0 : Int32) t3 k3 cd3 zz3 bs3 us hul hus (own_Tup (n := 3) T0 (by decide)) (T0.1) 0 rfl (by decide) m7 (by omega) ge724 ge735 q727_0 q727_1 q727_2 q727_3 c729 c731 c732 c734 hcod3) rfl pd_23 rfl rfl (by decide) (W := 0) (Nat.le_of_eq rfl) (by decide) (by decide) (by decide) (allS ⟨c736, ge724⟩ (allS ⟨sn727_4, ge735⟩ all0)) (pc' := 167) rfl ?_
        rintro _ T737 h737 L737 X737 K737 ⟨rfl, q737_0, q737_1, q737_2, q737_3⟩
        have sz_h737 := K737.1
        have od739 : h0.size ≤ t_725 := by omega
        have K0_h737 : Keep h0 h737 [] := K0_h727.trans K737 (allS (Or.inr od728) (allS (Or.inr od739) all0))
        have lt737_0 := own_n q737_0.lt
        have lt737_1 := own_n q737_1.lt
        have lt737_2 := own_n q737_2.lt
        have lt737_3 := own_n q737_3.lt
        refine k_istore X737 at_167 (Ls' := #[.val (.int p0), .val (.int p1), .val (.int p2), .val (.int p3), .val (.int ca), .val (.int cb), .val (.ref s0), .val (.ref s2), .val (.int kk), .val (.ref u), .val (.ref b362), .val (.int (1 : Int32)), .val (.int (1 : Int32)), .val (.int (1 : Int32)), .val (.int (0 : Int32)), .val (.int (0 : Int32)), .val (.int (0 : Int32)), .val (.ref b723), .val (.int (1 : Int32)), .unset]) rfl (pc' := 169) rfl ?_
        refine k_aload X737 at_169 rfl rfl (pc' := 171) rfl ?_
        refine k_aload X737 at_171 rfl rfl (pc' := 173) rfl ?_
        have c740 := (c729.keep K737)
        have ne741 : (u : Nat) ≠ t_725 := own_ne (by omega)
        have c742 := (c731.keep K737 (ninS ne730 (ninS ne741 nin0)))
        have c743 := (c732.keep K737 (ninS ne730 (ninS ne741 nin0)))
        have ne744 : (t3 : Nat) ≠ t_725 := own_ne (by omega)
        have c745 := (c734.keep K737 (ninS ne733 (ninS ne744 nin0)))
        have c746 := (((((c705.keep K711).keep K721).keep K723).keep K727).keep K737)
        have ne747 : (s0 : Nat) ≠ b723 := own_ne (by omega)
        have ne748 : (s0 : Nat) ≠ t_725 := own_ne (by omega)
        have c749 := (((((c707.keep K711 nin0).keep K721 nin0).keep K723 nin0).keep K727 (ninS ne747 nin0)).keep K737 (ninS ne747 (ninS ne748 nin0)))
        have c750 := (((((c708.keep K711 nin0).keep K721 nin0).keep K723 nin0).keep K727 (ninS ne747 nin0)).keep K737 (ninS ne747 (ninS ne748 nin0)))
        have ne751 : (t1 : Nat) ≠ b723 := own_ne (by omega)
        have ne752 : (t1 : Nat) ≠ t_725 := own_ne (by omega)
        have c753 := (((((c710.keep K711 nin0).keep K721 nin0).keep K723 nin0).keep K727 (ninS ne751 nin0)).keep K737 (ninS ne751 (ninS ne752 nin0)))
        refine k_callVVF X737 (y := (⟨"java/lang/String", "equals", "(Ljava/lang/Object;)Z"⟩ : MethodName)) at_173 (w_84 hw) (w_85 hw) (w_87 hw) (w_86 hw) (w_2 hw) (w_88 hw) (by decide) (notFace_of_selects (args := #[]) (mvT X737.hZ (w_87 hw))) c740 (argsL := [(.ref s0)]) (rest := []) (own_eq l Z a0 hw G n0 h737 X737.old u s0 t3 k3 cd3 zz3 bs3 us t1 k1 cd1 zz1 bs1 [ca] (by omega) (by simp) hus ka c740 c742 c743 c745 hcod3 c746 c749 c750 c753 hcod1) rfl pd_24 rfl rfl (by decide) (W := 0) (Nat.le_of_eq rfl) (by decide) (by decide) (by decide) all0 (pc' := 176) rfl ?_
        rintro _ T754 h754 L754 X754 K754 ⟨rfl, -⟩
        have sz_h754 := K754.1
        have K0_h754 : Keep h0 h754 [] := K0_h737.trans K754 all0
        by_cases hc756 : us = [ca]
        · have hk : own_fp us = own_fp [ca] := by rw [hc756]
          exact absurd (by rw [hk]; exact a2) mu
        · refine k_ifNo X754 at_176 ((if0 _ _).trans (teq (own_eqv_ne hc756)).2) (pc' := 179) rfl ?_
          refine k_aload X754 at_179 rfl rfl (pc' := 181) rfl ?_
          refine k_aload X754 at_181 rfl rfl (pc' := 183) rfl ?_
          have c757 := (c740.keep K754)
          have c758 := (c742.keep K754 nin0)
          have c759 := (c743.keep K754 nin0)
          have c760 := (c745.keep K754 nin0)
          have c761 := (((((c717.keep K721).keep K723).keep K727).keep K737).keep K754)
          have ne762 : (s2 : Nat) ≠ b723 := own_ne (by omega)
          have ne763 : (s2 : Nat) ≠ t_725 := own_ne (by omega)
          have c764 := (((((c718.keep K721 nin0).keep K723 nin0).keep K727 (ninS ne762 nin0)).keep K737 (ninS ne762 (ninS ne763 nin0))).keep K754 nin0)
          have c765 := (((((c719.keep K721 nin0).keep K723 nin0).keep K727 (ninS ne762 nin0)).keep K737 (ninS ne762 (ninS ne763 nin0))).keep K754 nin0)
          have ne766 : (t2 : Nat) ≠ b723 := own_ne (by omega)
          have ne767 : (t2 : Nat) ≠ t_725 := own_ne (by omega)
          have c768 := (((((c720.keep K721 nin0).keep K723 nin0).keep K727 (ninS ne766 nin0)).keep K737 (ninS ne766 (ninS ne767 nin0))).keep K754 nin0)
          refine k_callVVF X754 (y := (⟨"java/lang/String", "equals", "(Ljava/lang/Object;)Z"⟩ : MethodName)) at_183 (w_84 hw) (w_85 hw) (w_87 hw) (w_86 hw) (w_2 hw) (w_88 hw) (by decide) (notFace_of_selects (args := #[]) (mvT X754.hZ (w_87 hw))) c757 (argsL := [(.ref s2)]) (rest := []) (own_eq l Z a0 hw G n0 h754 X754.old u s2 t3 k3 cd3 zz3 bs3 us t2 k2 cd2 zz2 bs2 [cb] (by omega) (by simp) hus kb c757 c758 c759 c760 hcod3 c761 c764 c765 c768 hcod2) rfl pd_24 rfl rfl (by decide) (W := 0) (Nat.le_of_eq rfl) (by decide) (by decide) (by decide) all0 (pc' := 186) rfl ?_
          rintro _ T769 h769 L769 X769 K769 ⟨rfl, -⟩
          have sz_h769 := K769.1
          have K0_h769 : Keep h0 h769 [] := K0_h754.trans K769 all0
          by_cases hc771 : us = [cb]
          · have hk : own_fp us = own_fp [cb] := by rw [hc771]
            exact absurd (by rw [hk]; exact b2) mu
          · refine k_ifYes X769 at_186 ((if0 _ _).trans (teq (own_eqv_ne hc771)).1) (pc' := 193) (by decide) (by decide) ?_
            refine k_iconst X769 at_193 (w := (0 : Int32)) rfl (pc' := 194) rfl ?_
            refine k_istore X769 at_194 (Ls' := #[.val (.int p0), .val (.int p1), .val (.int p2), .val (.int p3), .val (.int ca), .val (.int cb), .val (.ref s0), .val (.ref s2), .val (.int kk), .val (.ref u), .val (.ref b362), .val (.int (1 : Int32)), .val (.int (1 : Int32)), .val (.int (1 : Int32)), .val (.int (0 : Int32)), .val (.int (0 : Int32)), .val (.int (0 : Int32)), .val (.ref b723), .val (.int (1 : Int32)), .val (.int (0 : Int32))]) rfl (pc' := 196) rfl ?_
            refine k_iload X769 at_196 rfl (pc' := 198) rfl ?_
            refine k_ifNo X769 at_198 (by decide) (pc' := 201) rfl ?_
            refine k_iload X769 at_201 rfl (pc' := 203) rfl ?_
            refine k_iload X769 at_203 rfl (pc' := 205) rfl ?_
            refine k_iload X769 at_205 rfl (pc' := 207) rfl ?_
            refine k_icmpNo X769 at_207 (feq hab).1 (pc' := 210) rfl ?_
            refine k_iconst X769 at_210 (w := (1 : Int32)) rfl (pc' := 211) rfl ?_
            refine k_goto X769 at_211 (pc' := 215) (by decide) (by decide) ?_
            refine k_icmpNo X769 at_215 (by decide) (pc' := 218) rfl ?_
            refine k_iload X769 at_218 rfl (pc' := 220) rfl ?_
            refine k_ifYes X769 at_220 (by decide) (pc' := 228) (by decide) (by decide) ?_
            refine k_iload X769 at_228 rfl (pc' := 230) rfl ?_
            refine k_ifNo X769 at_230 (by decide) (pc' := 233) rfl ?_
            refine k_iload X769 at_233 rfl (pc' := 235) rfl ?_
            refine k_ifNo X769 at_235 (by decide) (pc' := 238) rfl ?_
            refine k_iload X769 at_238 rfl (pc' := 240) rfl ?_
            refine k_ifNo X769 at_240 (by decide) (pc' := 243) rfl ?_
            refine k_iload X769 at_243 rfl (pc' := 245) rfl ?_
            refine k_ifNo X769 at_245 (by decide) (pc' := 248) rfl ?_
            refine k_iconst X769 at_248 (w := (1 : Int32)) rfl (pc' := 249) rfl ?_
            refine k_goto X769 at_249 (pc' := 253) (by decide) (by decide) ?_
            exact k_retHN X769 (w := (1 : Int32)) at_253 (t := .boolean) rfl (by simp) rfl K0_h769 (fun v' C' => ⟨_, rfl, rfl, trivial⟩) (by decide) (by decide)
  obtain ⟨ca, hca⟩ : ∃ z, p0.toUInt32.toUInt16.toUInt32.toInt32 = z := ⟨_, rfl⟩
  have rca : ¬ ca < 0 ∧ ¬ 65535 < ca := hca ▸ own_i2c_rng _
  obtain ⟨cb, hcb⟩ : ∃ z, p1.toUInt32.toUInt16.toUInt32.toInt32 = z := ⟨_, rfl⟩
  have rcb : ¬ cb < 0 ∧ ¬ 65535 < cb := hcb ▸ own_i2c_rng _
  obtain ⟨ce, hce⟩ : ∃ z, p2.toUInt32.toUInt16.toUInt32.toInt32 = z := ⟨_, rfl⟩
  have rce : ¬ ce < 0 ∧ ¬ 65535 < ce := hce ▸ own_i2c_rng _
  obtain ⟨cf, hcf⟩ : ∃ z, ((p2.toUInt32 >>> ((16 : Int32) &&& 31).toUInt32).toInt32).toUInt32.toUInt16.toUInt32.toInt32 = z := ⟨_, rfl⟩
  have rcf : ¬ cf < 0 ∧ ¬ 65535 < cf := hcf ▸ own_i2c_rng _
  refine k_iloadN X0 at_0 rfl (pc' := 1) rfl ?_
  refine k_i2c X0 at_1 (w := ca) hca (pc' := 2) rfl ?_
  refine k_istore X0 at_2 (Ls' := #[.val (.int p0), .val (.int p1), .val (.int p2), .val (.int p3), .val (.int ca), .unset, .unset, .unset, .unset, .unset, .unset, .unset, .unset, .unset, .unset, .unset, .unset, .unset, .unset, .unset]) rfl (pc' := 4) rfl ?_
  refine k_iloadN X0 at_4 rfl (pc' := 5) rfl ?_
  refine k_i2c X0 at_5 (w := cb) hcb (pc' := 6) rfl ?_
  refine k_istore X0 at_6 (Ls' := #[.val (.int p0), .val (.int p1), .val (.int p2), .val (.int p3), .val (.int ca), .val (.int cb), .unset, .unset, .unset, .unset, .unset, .unset, .unset, .unset, .unset, .unset, .unset, .unset, .unset, .unset]) rfl (pc' := 8) rfl ?_
  refine k_iload X0 at_8 rfl (pc' := 10) rfl ?_
  refine k_callSVF X0 (y := (⟨"java/lang/String", "valueOf", "(C)Ljava/lang/String;"⟩ : MethodName)) at_10 (w_0 hw) (w_1 hw) (w_2 hw) (w_3 hw) (by decide) (argsL := [(.int ca)]) (rest := []) (own_vocS l Z a0 hw G n0 h0 X0.old ca ) rfl pd_25 rfl rfl (by decide) (W := 0) (Nat.le_of_eq rfl) (by decide) (by decide) (by decide) all0 (pc' := 13) rfl ?_
  rintro _ T778 h778 L778 X778 K778 ⟨r_772, t_773, kt_774, cd_775, zz_776, bs_777, rfl, q778_0, q778_1, q778_2, q778_3, q778_4, q778_5, q778_6⟩
  have sz_h778 := K778.1
  have K0_h778 : Keep h0 h778 [] := K0_h0.trans K778 all0
  have lt778_0 := own_n q778_0.lt
  have lt778_1 := own_n q778_1.lt
  have lt778_2 := own_n q778_2.lt
  have lt778_3 := own_n q778_3.lt
  have sn778_4 := X0.sf K778 all0 (X0.sfN q778_4)
  have sn778_5 := X0.sf K778 all0 (X0.sfN q778_5)
  refine k_astore X778 at_13 rfl (Ls' := #[.val (.int p0), .val (.int p1), .val (.int p2), .val (.int p3), .val (.int ca), .val (.int cb), .val (.ref r_772), .unset, .unset, .unset, .unset, .unset, .unset, .unset, .unset, .unset, .unset, .unset, .unset, .unset]) rfl (pc' := 15) rfl ?_
  refine k_iload X778 at_15 rfl (pc' := 17) rfl ?_
  refine k_callSVF X778 (y := (⟨"java/lang/String", "valueOf", "(C)Ljava/lang/String;"⟩ : MethodName)) at_17 (w_0 hw) (w_1 hw) (w_2 hw) (w_3 hw) (by decide) (argsL := [(.int cb)]) (rest := []) (own_vocS l Z a0 hw G n0 h778 X778.old cb ) rfl pd_25 rfl rfl (by decide) (W := 0) (Nat.le_of_eq rfl) (by decide) (by decide) (by decide) all0 (pc' := 20) rfl ?_
  rintro _ T786 h786 L786 X786 K786 ⟨r_780, t_781, kt_782, cd_783, zz_784, bs_785, rfl, q786_0, q786_1, q786_2, q786_3, q786_4, q786_5, q786_6⟩
  have sz_h786 := K786.1
  have K0_h786 : Keep h0 h786 [] := K0_h778.trans K786 all0
  have lt786_0 := own_n q786_0.lt
  have lt786_1 := own_n q786_1.lt
  have lt786_2 := own_n q786_2.lt
  have lt786_3 := own_n q786_3.lt
  have sn786_4 := X778.sf K786 all0 (X778.sfN q786_4)
  have sn786_5 := X778.sf K786 all0 (X778.sfN q786_5)
  refine k_astore X786 at_20 rfl (Ls' := #[.val (.int p0), .val (.int p1), .val (.int p2), .val (.int p3), .val (.int ca), .val (.int cb), .val (.ref r_772), .val (.ref r_780), .unset, .unset, .unset, .unset, .unset, .unset, .unset, .unset, .unset, .unset, .unset, .unset]) rfl (pc' := 22) rfl ?_
  refine k_iloadN X786 at_22 rfl (pc' := 23) rfl ?_
  refine k_iconst X786 at_23 (w := (3 : Int32)) rfl (pc' := 24) rfl ?_
  refine k_iand X786 at_24 (w := (p3 &&& (3 : Int32))) rfl (pc' := 25) rfl ?_
  refine k_istore X786 at_25 (Ls' := #[.val (.int p0), .val (.int p1), .val (.int p2), .val (.int p3), .val (.int ca), .val (.int cb), .val (.ref r_772), .val (.ref r_780), .val (.int (p3 &&& (3 : Int32))), .unset, .unset, .unset, .unset, .unset, .unset, .unset, .unset, .unset, .unset, .unset]) rfl (pc' := 27) rfl ?_
  refine k_iload X786 at_27 rfl (pc' := 29) rfl ?_
  by_cases hc788 : (p3 &&& (3 : Int32)) = (0 : Int32)
  · refine k_ifNo X786 at_29 ((if0 _ _).trans (teq hc788).2) (pc' := 32) rfl ?_
    refine k_newO X786 at_32 (w_92 hw) (w_10 hw) (w_2 hw) (by decide) (by decide) (pc' := 35) rfl fun T789 h789 b789 g789 X789 K789 E789 D789 S789 lt789 ge789 => ?_
    have sz_h789 := K789.1
    have K0_h789 : Keep h0 h789 [] := K0_h786.trans K789 all0
    have Fn789_value : Fld Z h789 b789 "java/lang/String" "value" "[B" .null := D789 (Or.inr (w_23 hw)) (ty := (.array .byte)) (by decide)
    have Fn789_coder : Fld Z h789 b789 "java/lang/String" "coder" "B" (.int (0 : Int32)) := D789 (Or.inr (w_25 hw)) (ty := .byte) (by decide)
    refine k_dup X789 at_35 rfl (pc' := 36) rfl ?_
    refine k_iconst X789 at_36 (w := (0 : Int32)) rfl (pc' := 37) rfl ?_
    refine k_newP X789 at_37 (w_93 hw) (by decide) (cap := 0) (by decide) (by decide) (by decide) (by decide) (pc' := 39) rfl fun T790 h790 b790 k790 g790 X790 K790 V790 S790 lt790 ge790 => ?_
    have sz_h790 := K790.1
    have K0_h790 : Keep h0 h790 [] := K0_h789.trans K790 all0
    have V790' : Arv Z h790 b790 k790 .char (0 : Int32) [] (.int (0 : Int32)) := Arv.pad V790 (pad_rep [] (.int (0 : Int32)) 0)
    have c791 := (E789.keep K790)
    have c792 := (Fn789_value.keep K790 nin0)
    have c793 := (Fn789_coder.keep K790 nin0)
    have ge794 : n0 ≤ b789 := by omega
    have c797 := (X789.sf K790 all0 S789)
    refine k_callPNH X790 (y := (⟨"java/lang/String", "<init>", "([C)V"⟩ : MethodName)) at_39 (w_94 hw) (w_95 hw) (w_2 hw) (w_96 hw) (by decide) rfl rfl (argsL := [(.ref b790)]) (rest := [(.ref b789)]) (own_initE l Z a0 hw G n0 h790 X790.old b789 b790 k790 [] (.int (0 : Int32)) ge794 c791 c792 c793 V790') rfl pd_26 rfl rfl (by decide) (W := 1) (Nat.le_of_eq rfl) (by decide) (by decide) (by decide) (allS ⟨⟨own_n (by omega), c797⟩, ge794⟩ all0) (pc' := 42) rfl ?_
    rintro v798 T798 h798 L798 X798 K798 C798 ⟨t_795, kt_796, q798_0, q798_1, q798_2, q798_3⟩
    have sz_h798 := K798.1
    have od799 : h0.size ≤ b789 := by omega
    have K0_h798 : Keep h0 h798 [] := K0_h790.trans K798 (allS (Or.inr od799) all0)
    have lt798_0 := own_n q798_0.lt
    have lt798_1 := own_n q798_1.lt
    have lt798_2 := own_n q798_2.lt
    have lt798_3 := own_n q798_3.lt
    refine k_astore X798 at_42 rfl (Ls' := #[.val (.int p0), .val (.int p1), .val (.int p2), .val (.int p3), .val (.int ca), .val (.int cb), .val (.ref r_772), .val (.ref r_780), .val (.int (p3 &&& (3 : Int32))), .val (.ref b789), .unset, .unset, .unset, .unset, .unset, .unset, .unset, .unset, .unset, .unset]) rfl (pc' := 44) rfl ?_
    refine k_goto X798 at_44 (pc' := 88) (by decide) (by decide) ?_
    have c800 := ((((q778_0.keep K786).keep K789).keep K790).keep K798)
    have ne801 : (r_772 : Nat) ≠ b789 := own_ne (by omega)
    have c802 := ((((q778_1.keep K786 nin0).keep K789 nin0).keep K790 nin0).keep K798 (ninS ne801 nin0))
    have c803 := ((((q778_2.keep K786 nin0).keep K789 nin0).keep K790 nin0).keep K798 (ninS ne801 nin0))
    have ne804 : (t_773 : Nat) ≠ b789 := own_ne (by omega)
    have c805 := ((((q778_3.keep K786 nin0).keep K789 nin0).keep K790 nin0).keep K798 (ninS ne804 nin0))
    have c806 := (((q786_0.keep K789).keep K790).keep K798)
    have ne807 : (r_780 : Nat) ≠ b789 := own_ne (by omega)
    have c808 := (((q786_1.keep K789 nin0).keep K790 nin0).keep K798 (ninS ne807 nin0))
    have c809 := (((q786_2.keep K789 nin0).keep K790 nin0).keep K798 (ninS ne807 nin0))
    have ne810 : (t_781 : Nat) ≠ b789 := own_ne (by omega)
    have c811 := (((q786_3.keep K789 nin0).keep K790 nin0).keep K798 (ninS ne810 nin0))
    exact tail _ _ _ _ _ _ _ _ _ _ [] _ _ _ _ _ _ _ _ _ _ _ _ _ _ _ rca rcb own_c0 (by simp) q778_6 q786_6 (Or.inl ⟨rfl, rfl, rfl, rfl⟩) (X798.up (by decide) (by decide)) K0_h798 c800 c802 c803 c805 c806 c808 c809 c811 q798_0 q798_2 q798_1 q798_3
  · refine k_ifYes X786 at_29 ((if0 _ _).trans (feq hc788).2) (pc' := 47) (by decide) (by decide) ?_
    refine k_iload X786 at_47 rfl (pc' := 49) rfl ?_
    refine k_iconst X786 at_49 (w := (1 : Int32)) rfl (pc' := 50) rfl ?_
    by_cases hc812 : (p3 &&& (3 : Int32)) = (1 : Int32)
    · refine k_icmpNo X786 at_50 (teq hc812).2 (pc' := 53) rfl ?_
      refine k_iloadN X786 at_53 rfl (pc' := 54) rfl ?_
      refine k_i2c X786 at_54 (w := ce) hce (pc' := 55) rfl ?_
      refine k_callSVF X786 (y := (⟨"java/lang/String", "valueOf", "(C)Ljava/lang/String;"⟩ : MethodName)) at_55 (w_0 hw) (w_1 hw) (w_2 hw) (w_3 hw) (by decide) (argsL := [(.int ce)]) (rest := []) (own_vocS l Z a0 hw G n0 h786 X786.old ce ) rfl pd_25 rfl rfl (by decide) (W := 0) (Nat.le_of_eq rfl) (by decide) (by decide) (by decide) all0 (pc' := 58) rfl ?_
      rintro _ T819 h819 L819 X819 K819 ⟨r_813, t_814, kt_815, cd_816, zz_817, bs_818, rfl, q819_0, q819_1, q819_2, q819_3, q819_4, q819_5, q819_6⟩
      have sz_h819 := K819.1
      have K0_h819 : Keep h0 h819 [] := K0_h786.trans K819 all0
      have lt819_0 := own_n q819_0.lt
      have lt819_1 := own_n q819_1.lt
      have lt819_2 := own_n q819_2.lt
      have lt819_3 := own_n q819_3.lt
      have sn819_4 := X786.sf K819 all0 (X786.sfN q819_4)
      have sn819_5 := X786.sf K819 all0 (X786.sfN q819_5)
      refine k_astore X819 at_58 rfl (Ls' := #[.val (.int p0), .val (.int p1), .val (.int p2), .val (.int p3), .val (.int ca), .val (.int cb), .val (.ref r_772), .val (.ref r_780), .val (.int (p3 &&& (3 : Int32))), .val (.ref r_813), .unset, .unset, .unset, .unset, .unset, .unset, .unset, .unset, .unset, .unset]) rfl (pc' := 60) rfl ?_
      refine k_goto X819 at_60 (pc' := 88) (by decide) (by decide) ?_
      have c821 := ((q778_0.keep K786).keep K819)
      have c822 := ((q778_1.keep K786 nin0).keep K819 nin0)
      have c823 := ((q778_2.keep K786 nin0).keep K819 nin0)
      have c824 := ((q778_3.keep K786 nin0).keep K819 nin0)
      have c825 := (q786_0.keep K819)
      have c826 := (q786_1.keep K819 nin0)
      have c827 := (q786_2.keep K819 nin0)
      have c828 := (q786_3.keep K819 nin0)
      exact tail _ _ _ _ _ _ _ _ _ _ [ce] _ _ _ _ _ _ _ _ _ _ _ _ _ _ _ rca rcb (own_cS rce own_c0) (by simp) q778_6 q786_6 q819_6 (X819.up (by decide) (by decide)) K0_h819 c821 c822 c823 c824 c825 c826 c827 c828 q819_0 q819_1 q819_2 q819_3
    · refine k_icmpYes X786 at_50 (feq hc812).2 (pc' := 63) (by decide) (by decide) ?_
      refine k_newO X786 at_63 (w_92 hw) (w_10 hw) (w_2 hw) (by decide) (by decide) (pc' := 66) rfl fun T829 h829 b829 g829 X829 K829 E829 D829 S829 lt829 ge829 => ?_
      have sz_h829 := K829.1
      have K0_h829 : Keep h0 h829 [] := K0_h786.trans K829 all0
      have Fn829_value : Fld Z h829 b829 "java/lang/String" "value" "[B" .null := D829 (Or.inr (w_23 hw)) (ty := (.array .byte)) (by decide)
      have Fn829_coder : Fld Z h829 b829 "java/lang/String" "coder" "B" (.int (0 : Int32)) := D829 (Or.inr (w_25 hw)) (ty := .byte) (by decide)
      refine k_dup X829 at_66 rfl (pc' := 67) rfl ?_
      refine k_iconst X829 at_67 (w := (2 : Int32)) rfl (pc' := 68) rfl ?_
      refine k_newP X829 at_68 (w_93 hw) (by decide) (cap := 2) (by decide) (by decide) (by decide) (by decide) (pc' := 70) rfl fun T830 h830 b830 k830 g830 X830 K830 V830 S830 lt830 ge830 => ?_
      have sz_h830 := K830.1
      have K0_h830 : Keep h0 h830 [] := K0_h829.trans K830 all0
      have V830' : Arv Z h830 b830 k830 .char (2 : Int32) [(.int (0 : Int32)), (.int (0 : Int32))] (.int (0 : Int32)) := Arv.pad V830 (pad_rep [] (.int (0 : Int32)) 2)
      refine k_dup X830 at_70 rfl (pc' := 71) rfl ?_
      refine k_iconst X830 at_71 (w := (0 : Int32)) rfl (pc' := 72) rfl ?_
      refine k_iloadN X830 at_72 rfl (pc' := 73) rfl ?_
      refine k_i2c X830 at_73 (w := ce) hce (pc' := 74) rfl ?_
      have ge832 : n0 ≤ b830 := by omega
      refine k_castore X830 (w := ce) 0 at_74 V830' (by decide) (by decide) rfl (Nat.le_of_ble_eq_true rfl) (own_i2c_id rce.1 rce.2) (vs' := [(.int ce), (.int (0 : Int32))]) rfl S830 ge832 (pc' := 75) rfl fun T831 h831 L831 X831 K831 V831 => ?_
      have sz_h831 := K831.1
      have od833 : h0.size ≤ b830 := by omega
      have K0_h831 : Keep h0 h831 [] := K0_h830.trans K831 (allS (Or.inr od833) all0)
      refine k_dup X831 at_75 rfl (pc' := 76) rfl ?_
      refine k_iconst X831 at_76 (w := (1 : Int32)) rfl (pc' := 77) rfl ?_
      refine k_iloadN X831 at_77 rfl (pc' := 78) rfl ?_
      refine k_bipush X831 at_78 (w := (16 : Int32)) rfl (pc' := 80) rfl ?_
      refine k_iushr X831 at_80 (w := ((p2.toUInt32 >>> ((16 : Int32) &&& 31).toUInt32).toInt32)) rfl (pc' := 81) rfl ?_
      refine k_i2c X831 at_81 (w := cf) hcf (pc' := 82) rfl ?_
      have c835 := (X830.sf K831 (allS ⟨S830, ge832⟩ all0) S830)
      refine k_castore X831 (w := cf) 1 at_82 V831 (by decide) (by decide) rfl (Nat.le_of_ble_eq_true rfl) (own_i2c_id rcf.1 rcf.2) (vs' := [(.int ce), (.int cf)]) rfl c835 ge832 (pc' := 83) rfl fun T834 h834 L834 X834 K834 V834 => ?_
      have sz_h834 := K834.1
      have K0_h834 : Keep h0 h834 [] := K0_h831.trans K834 (allS (Or.inr od833) all0)
      have c836 := (((E829.keep K830).keep K831).keep K834)
      have ne837 : (b829 : Nat) ≠ b830 := own_ne (by omega)
      have c838 := (((Fn829_value.keep K830 nin0).keep K831 (ninS ne837 nin0)).keep K834 (ninS ne837 nin0))
      have c839 := (((Fn829_coder.keep K830 nin0).keep K831 (ninS ne837 nin0)).keep K834 (ninS ne837 nin0))
      have ge840 : n0 ≤ b829 := by omega
      have c846 := (X831.sf K834 (allS ⟨c835, ge832⟩ all0) (X830.sf K831 (allS ⟨S830, ge832⟩ all0) (X829.sf K830 all0 S829)))
      refine k_callPNF X834 (y := (⟨"java/lang/String", "<init>", "([C)V"⟩ : MethodName)) at_83 (w_94 hw) (w_95 hw) (w_2 hw) (w_96 hw) (by decide) rfl rfl (argsL := [(.ref b830)]) (rest := [(.ref b829)]) (own_initS l Z a0 hw G n0 h834 X834.old b829 b830 k830 (2 : Int32) [(.int ce), (.int cf)] [ce, cf] rfl rfl (by simp) (by simp) ge840 c836 c838 c839 V834) rfl pd_26 rfl rfl (by decide) (W := 1) (Nat.le_of_eq rfl) (by decide) (by decide) (by decide) (allS ⟨c846, ge840⟩ all0) (pc' := 86) rfl ?_
      rintro T847 h847 L847 X847 K847 ⟨t_841, kt_842, cd_843, zz_844, bs_845, q847_0, q847_1, q847_2, q847_3, q847_4, q847_5⟩
      have sz_h847 := K847.1
      have od848 : h0.size ≤ b829 := by omega
      have K0_h847 : Keep h0 h847 [] := K0_h834.trans K847 (allS (Or.inr od848) all0)
      have lt847_0 := own_n q847_0.lt
      have lt847_1 := own_n q847_1.lt
      have lt847_2 := own_n q847_2.lt
      have lt847_3 := own_n q847_3.lt
      have sn847_4 := X834.sf K847 (allS ⟨c846, ge840⟩ all0) (X834.sfN q847_4)
      refine k_astore X847 at_86 rfl (Ls' := #[.val (.int p0), .val (.int p1), .val (.int p2), .val (.int p3), .val (.int ca), .val (.int cb), .val (.ref r_772), .val (.ref r_780), .val (.int (p3 &&& (3 : Int32))), .val (.ref b829), .unset, .unset, .unset, .unset, .unset, .unset, .unset, .unset, .unset, .unset]) rfl (pc' := 88) rfl ?_
      have c849 := ((((((q778_0.keep K786).keep K829).keep K830).keep K831).keep K834).keep K847)
      have ne850 : (r_772 : Nat) ≠ b830 := own_ne (by omega)
      have ne851 : (r_772 : Nat) ≠ b829 := own_ne (by omega)
      have c852 := ((((((q778_1.keep K786 nin0).keep K829 nin0).keep K830 nin0).keep K831 (ninS ne850 nin0)).keep K834 (ninS ne850 nin0)).keep K847 (ninS ne851 nin0))
      have c853 := ((((((q778_2.keep K786 nin0).keep K829 nin0).keep K830 nin0).keep K831 (ninS ne850 nin0)).keep K834 (ninS ne850 nin0)).keep K847 (ninS ne851 nin0))
      have ne854 : (t_773 : Nat) ≠ b830 := own_ne (by omega)
      have ne855 : (t_773 : Nat) ≠ b829 := own_ne (by omega)
      have c856 := ((((((q778_3.keep K786 nin0).keep K829 nin0).keep K830 nin0).keep K831 (ninS ne854 nin0)).keep K834 (ninS ne854 nin0)).keep K847 (ninS ne855 nin0))
      have c857 := (((((q786_0.keep K829).keep K830).keep K831).keep K834).keep K847)
      have ne858 : (r_780 : Nat) ≠ b830 := own_ne (by omega)
      have ne859 : (r_780 : Nat) ≠ b829 := own_ne (by omega)
      have c860 := (((((q786_1.keep K829 nin0).keep K830 nin0).keep K831 (ninS ne858 nin0)).keep K834 (ninS ne858 nin0)).keep K847 (ninS ne859 nin0))
      have c861 := (((((q786_2.keep K829 nin0).keep K830 nin0).keep K831 (ninS ne858 nin0)).keep K834 (ninS ne858 nin0)).keep K847 (ninS ne859 nin0))
      have ne862 : (t_781 : Nat) ≠ b830 := own_ne (by omega)
      have ne863 : (t_781 : Nat) ≠ b829 := own_ne (by omega)
      have c864 := (((((q786_3.keep K829 nin0).keep K830 nin0).keep K831 (ninS ne862 nin0)).keep K834 (ninS ne862 nin0)).keep K847 (ninS ne863 nin0))
      exact tail _ _ _ _ _ _ _ _ _ _ [ce, cf] _ _ _ _ _ _ _ _ _ _ _ _ _ _ _ rca rcb (own_cS rce (own_cS rcf own_c0)) (by simp) q778_6 q786_6 q847_5 (X847.up (by decide) (by decide)) K0_h847 c849 c852 c853 c856 c857 c860 c861 c864 q847_0 q847_2 q847_1 q847_3
set_option maxRecDepth 65536 in
set_option maxHeartbeats 40000000 in
theorem comes_1 {Post : Tables → Env → Array Value → State → Outcome → State → Prop} (hpost : ∀ tb e args s v u, (limb_1_1.after args s (.returned v) u = true ∧ limb_1_2.after args s (.returned v) u = true ∧ True) → ReturnedEndW s (.returned v) u (Jvm.fieldLocs frame_1_writes args s ++ Jvm.arrayLocs frame_1_arrays args s ++ Jvm.staticLocs frame_1_statics s) 40 5248 → Post tb e args s (.returned v) u) :
    ArmFor flags0 classFile x code maxLocals ret World_1 tables_1 room_1 Calls_1 rest_1 Pre_1 Post := by
  intro l hfl _ _ p e ha hc hk s m args below hf hA hF happ hP
  obtain ⟨hcalls, hrest, hpre⟩ := hP
  obtain ⟨-, -, -, hnamed, -, -, -, hat⟩ := (Spec.applies_iff hf).mp happ
  obtain ⟨hg, hn⟩ := and_e (Cond.before_iff.mp (show (Jvm.Cond.and given_1 narrow_1).before args s = true from hpre))
  obtain ⟨hcnt, g0⟩ := and_e hg
  obtain ⟨j0, g1⟩ := and_e g0
  obtain ⟨j1, g2⟩ := and_e g1
  obtain ⟨j2, g3⟩ := and_e g2
  obtain ⟨w0, w1, w2, w3, rfl⟩ : ∃ w0 w1 w2 w3 : Value, args = #[w0, w1, w2, w3] := by
    have hs : args.size = 4 := by simpa [Cond.value, given_1] using hcnt
    obtain ⟨L⟩ := args
    match L, hs with
    | [w0, w1, w2, w3], _ => exact ⟨w0, w1, w2, w3, rfl⟩
  have hw := fun d (hd : d ∈ tables_1) => atoms_spec (ws := Jvm.Cond.code x code maxLocals ret :: tables_1) hat d (List.mem_cons_of_mem _ hd)
  obtain ⟨hsets, hown0⟩ := atoms_of _ (rest_1_c_eq ▸ (show rest_1_c.before _ s = true from hrest))
  have hfit : Fit s := fun {y c} hc i hi => by
    obtain ⟨ha, rfl⟩ := Array.getElem?_eq_some_iff.mp hc
    have q := List.all_eq_true.mp ((Array.all_eq_true_iff_forall_mem.mp hF) _ (Array.getElem_mem ha)) i (List.mem_range.mpr hi)
    simpa [Array.getElem?_eq_getElem hi] using q
  obtain ⟨i0, e0⟩ := is_v j0
  obtain rfl : w0 = (.int i0) := Option.some.inj e0
  obtain ⟨i1, e1⟩ := is_v j1
  obtain rfl : w1 = (.int i1) := Option.some.inj e1
  obtain ⟨i2, e2⟩ := is_v j2
  obtain rfl : w2 = (.int i2) := Option.some.inj e2
  obtain ⟨i3, e3⟩ := is_v g3
  obtain rfl : w3 = (.int i3) := Option.some.inj e3
  obtain ⟨zc, ezc⟩ := is_v (Cond.before_iff.mp (hsets _ (List.mem_of_getElem? (i := 1) rfl)))
  have nzc := not_v (Cond.before_iff.mp (hsets _ (List.mem_of_getElem? (i := 2) rfl)))
  obtain ⟨fm, efm, rfm⟩ := isR_v (Cond.before_iff.mp (hsets _ (List.mem_of_getElem? (i := 8) rfl)))
  have G : Gl s zc fm := ⟨Sta.start ezc (Or.inl (hsets _ (List.mem_of_getElem? (i := 0) rfl))), gotF (Cond.eq_ints ezc (Term.int_eval (0))) nzc, Sta.start efm (Or.inl (hsets _ (List.mem_of_getElem? (i := 7) rfl))), rfm, Sta.start (own_eq_int (Cond.before_iff.mp (hsets _ (List.mem_of_getElem? (i := 12) rfl)))) (Or.inl (hsets _ (List.mem_of_getElem? (i := 11) rfl))), Sta.start (own_eq_int (Cond.before_iff.mp (hsets _ (List.mem_of_getElem? (i := 15) rfl)))) (Or.inl (hsets _ (List.mem_of_getElem? (i := 14) rfl))), Sta.start (own_eq_int (Cond.before_iff.mp (hsets _ (List.mem_of_getElem? (i := 18) rfl)))) (Or.inl (hsets _ (List.mem_of_getElem? (i := 17) rfl)))⟩
  have hh := hcalls.1
  have hcw : Jvm.Lit.compactW.before #[(.int i0), (.int i1), (.int i2), (.int i3)] s = true := hsets _ (List.mem_of_getElem? (i := 2) rfl)
  have hCH : CHv s EL s.vm s.heap := CHv.start (hEL hw) (fun q hq => hh q (own_ELsub q hq)) hcw (w_14 hw) (w_10 hw)
  obtain ⟨n, o, r1, r2, r3, _, L, rfl, ⟨⟨-, w, rfl, rfl, -⟩, N⟩, -, hq⟩ := own_law l s _ hw G s.heap.size s.heap (Old.start s) i0 i1 i2 i3 p e ha hc hk s m _ below hf ((Spec.applies_iff_loose hf).mp happ).1 ⟨rfl, State.Warmed39.refl s, rfl, hCH, fun _ q => nomatch q⟩ trivial
  exact ⟨n, _, r1, r2, r3, hpost _ _ _ _ _ _ ⟨Cond.after_iff.mpr rfl, Cond.after_iff.mpr (eq_i res_at (Term.int_eval (1)) rfl), trivial⟩ ⟨hq.1, hq.2.1, hq.2.2.1, (hq.2.2.2.sift fun y hy => Or.inr (N y hy)).mono (by decide) (by decide)⟩⟩
theorem main_1_1 : Claimed_1_1 := comes_1 fun _ _ _ _ _ _ h hF => ⟨h.1, hF⟩
theorem main_1_2 : Claimed_1_2 := comes_1 fun _ _ _ _ _ _ h hF => ⟨h.2.1, hF⟩
end OwnProof
end Jvm.Pilot.@@N@@
namespace Jvm.Pilot.@@N@@
open Jvm Jvm.ClassFile Sem Op Lib Jvm.Free Jvm.Stand Jvm.Pilot.@@N@@.Jvm.D
/-! MADE BY PROGRAM (witnessworld.py) out of the Statement's table words and the real class files: 22 classes; the members and pool entries that the words name. The judged class is class 1, her method 1. -/
namespace start1
open Jvm.ClassFile
def u (s : String) : CpInfo := .utf8 (stringToUtf16 s)
/-- a pool by its gaps: so many unusable entries, then the entry; so many at the end -/
def gap : Nat → List CpInfo → List CpInfo
  | 0, r => r
  | n + 1, r => .unusable :: gap n r
def poolList (es : List (Nat × CpInfo)) (last : Nat) : List CpInfo := es.foldr (fun e r => gap e.1 (e.2 :: r)) (gap last [])
def pool (es : List (Nat × CpInfo)) (last : Nat) : Array CpInfo := ⟨poolList es last⟩
def fileOf (pool : Array CpInfo) (this : Nat) (attrs : Array Attribute := #[]) (ms : Array MethodInfo := #[]) (fl : Nat := 33) (sup : Nat := 0) (ifs : Array Nat := #[]) (fds : Array FieldInfo := #[]) : ClassFile where
  minorVersion := 0
  majorVersion := 65
  constantPool := pool
  accessFlags := fl
  thisClass := this
  superClass := sup
  interfaces := ifs
  fields := fds
  methods := ms
  attributes := attrs
def plain (name : String) (sup : Option ClassId) : Class where
  name := name
  kind := .ordinary
  loader := none
  accessFlags := 33
  super := sup
  interfaces := #[]
  cf := none
  fields := #[]
  methods := #[]
  instanceTypes := #[]
  staticTypes := #[]
  resolved := #[]
  callSites := []
  init := .initialized
  statics := none
  mirror := none

def pool0 : Array CpInfo := pool [(5, u "<init>"), (0, u "()V"), (1, .class_ 10), (1, u "java/lang/Object")] 113

def k0c0 : Code := { maxStack := 0, maxLocals := 1, code := object_method_1_code, exceptionTable := #[], attributes := #[] }
def k0m0 : Method := { name := "<init>", desc := "()V", sig := { parameters := [], returnType := none }, accessFlags := 1, code := some k0c0 }
/-- java/lang/Object -/
def k0 : Class := { plain "java/lang/Object" none with
  accessFlags := 33
  interfaces := #[]
  cf := some (fileOf pool0 8 #[] #[{ accessFlags := 1, nameIndex := 5, descriptorIndex := 6, attributes := #[] }] 33 0 #[] #[])
  fields := #[]
  methods := #[k0m0]
  instanceTypes := #[]
  staticTypes := #[]
  resolved := Array.replicate 124 none
  statics := none }

def pool1 : Array CpInfo := pool [(2, .class_ 4), (0, .nameAndType 5 6), (0, u "java/lang/Object"), (0, u "<init>"), (0, u "()V"), (0, .methodref 8 9), (0, .class_ 10), (0, .nameAndType 11 12), (0, u "java/lang/String"), (0, u "valueOf"), (0, u "(C)Ljava/lang/String;"), (0, .methodref 8 14), (0, .nameAndType 5 15), (0, u "([C)V"), (0, .class_ 17), (0, u "com/example/tuned_odds/tunedodds/index/FingerprintSet"), (0, .methodref 16 3), (0, .methodref 16 20), (0, .nameAndType 21 22), (0, u "add"), (0, u "(Ljava/lang/String;)Z"), (0, .methodref 8 24), (0, .nameAndType 25 26), (0, u "equals"), (0, u "(Ljava/lang/Object;)Z"), (0, .class_ 28), (0, u "com/example/tuned_odds/tunedodds/index/FingerprintSetAddPinLaw"), (2, u "law"), (0, u "(IIII)Z")] 3

def k1m0 : Method := { name := "<init>", desc := "()V", sig := { parameters := [], returnType := none }, accessFlags := 1, code := none }
def k1c1 : Code := { maxStack := 7, maxLocals := 20, code := code, exceptionTable := #[], attributes := #[] }
def k1m1 : Method := { name := "law", desc := "(IIII)Z", sig := { parameters := [.int, .int, .int, .int], returnType := some .boolean }, accessFlags := 9, code := some k1c1 }
/-- com/example/tuned_odds/tunedodds/index/FingerprintSetAddPinLaw -/
def k1 : Class := { plain "com/example/tuned_odds/tunedodds/index/FingerprintSetAddPinLaw" (some 0) with
  accessFlags := 49
  interfaces := #[]
  cf := some (fileOf pool1 27 #[] #[{ accessFlags := 1, nameIndex := 5, descriptorIndex := 6, attributes := #[] }, { accessFlags := 9, nameIndex := 31, descriptorIndex := 32, attributes := #[] }] 49 2 #[] #[])
  fields := #[]
  methods := #[k1m0, k1m1]
  instanceTypes := #[]
  staticTypes := #[]
  resolved := Array.replicate 36 none
  statics := none }

def pool2 : Array CpInfo := pool [(1, .class_ 2), (0, u "java/io/Serializable"), (0, .class_ 4), (0, u "java/lang/Object")] 2

/-- java/io/Serializable -/
def k2 : Class := { plain "java/io/Serializable" (some 0) with
  accessFlags := 1537
  interfaces := #[]
  cf := some (fileOf pool2 1 #[] #[] 1537 3 #[] #[])
  fields := #[]
  methods := #[]
  instanceTypes := #[]
  staticTypes := #[]
  resolved := Array.replicate 7 none
  statics := none }

def pool3 : Array CpInfo := pool [(1, .class_ 2), (0, u "java/lang/Comparable"), (0, .class_ 4), (0, u "java/lang/Object")] 7

/-- java/lang/Comparable -/
def k3 : Class := { plain "java/lang/Comparable" (some 0) with
  accessFlags := 1537
  interfaces := #[]
  cf := some (fileOf pool3 1 #[] #[] 1537 3 #[] #[])
  fields := #[]
  methods := #[]
  instanceTypes := #[]
  staticTypes := #[]
  resolved := Array.replicate 12 none
  statics := none }

def pool4 : Array CpInfo := pool [(2, .class_ 4), (1, u "java/lang/CharSequence"), (42, .class_ 48), (0, u "java/lang/CharSequence$1CodePointIterator"), (10, .class_ 60), (0, u "java/lang/CharSequence$1CharIterator"), (5, .class_ 67), (0, u "java/lang/Object")] 63

/-- java/lang/CharSequence -/
def k4 : Class := { plain "java/lang/CharSequence" (some 0) with
  accessFlags := 1537
  interfaces := #[]
  cf := some (fileOf pool4 2 #[.nestMembers #[47, 59]] #[] 1537 66 #[] #[])
  fields := #[]
  methods := #[]
  instanceTypes := #[]
  staticTypes := #[]
  resolved := Array.replicate 131 none
  statics := none }

def pool5 : Array CpInfo := pool [(1, .class_ 2), (0, u "java/lang/constant/Constable"), (0, .class_ 4), (0, u "java/lang/Object")] 6

/-- java/lang/constant/Constable -/
def k5 : Class := { plain "java/lang/constant/Constable" (some 0) with
  accessFlags := 1537
  interfaces := #[]
  cf := some (fileOf pool5 1 #[] #[] 1537 3 #[] #[])
  fields := #[]
  methods := #[]
  instanceTypes := #[]
  staticTypes := #[]
  resolved := Array.replicate 11 none
  statics := none }

def pool6 : Array CpInfo := pool [(1, .class_ 2), (0, u "java/lang/constant/ConstantDesc"), (0, .class_ 4), (0, u "java/lang/Object")] 32

/-- java/lang/constant/ConstantDesc -/
def k6 : Class := { plain "java/lang/constant/ConstantDesc" (some 0) with
  accessFlags := 1537
  interfaces := #[]
  cf := some (fileOf pool6 1 #[] #[] 1537 3 #[] #[])
  fields := #[]
  methods := #[]
  instanceTypes := #[]
  staticTypes := #[]
  resolved := Array.replicate 37 none
  statics := none }

def pool7 : Array CpInfo := pool [(1, .methodref 2 3), (0, .class_ 4), (0, .nameAndType 5 6), (0, u "java/lang/Object"), (0, u "<init>"), (0, u "()V"), (0, .string 8), (0, u ""), (0, .fieldref 10 11), (0, .class_ 12), (0, .nameAndType 13 14), (0, u "java/lang/String"), (0, u "value"), (0, u "[B"), (0, .fieldref 10 16), (0, .nameAndType 17 18), (0, u "coder"), (0, u "B"), (2, u "hash"), (0, u "I"), (2, u "hashIsZero"), (0, u "Z"), (0, .methodref 10 28), (0, .nameAndType 5 29), (0, u "([CIILjava/lang/Void;)V"), (8, .fieldref 10 39), (0, .nameAndType 40 26), (0, u "COMPACT_STRINGS"), (1, .class_ 44), (1, u "java/lang/StringUTF16"), (0, u "compress"), (1, .methodref 42 48), (0, .nameAndType 49 50), (0, u "coderFromArrayLen"), (0, u "([BI)B"), (2, u "toBytes"), (53, .class_ 109), (1, u "java/lang/StringLatin1"), (32, u "()Z"), (34, .methodref 42 178), (0, .nameAndType 45 179), (0, u "([CII)[B"), (29, .methodref 10 210), (0, .nameAndType 5 211), (0, u "([BB)V"), (122, u "()I"), (0, .methodref 10 336), (0, .nameAndType 17 337), (0, u "()B"), (25, u "([BI)C"), (5, u "(C)Z"), (21, u "(II)V"), (35, u "(I)C"), (64, .methodref 10 493), (0, .nameAndType 494 142), (0, u "isLatin1"), (0, .methodref 107 496), (0, .nameAndType 497 363), (0, u "charAt"), (0, .methodref 42 496), (2, u "checkIndex"), (5, u "length"), (33, .methodref 107 542), (0, .nameAndType 543 544), (0, u "equals"), (0, u "([B[B)Z"), (28, u "(Ljava/lang/Object;)Z"), (1, .class_ 576), (0, u "java/lang/CharSequence"), (22, u "CASE_INSENSITIVE_ORDER"), (0, u "Ljava/util/Comparator;"), (181, u "valueOf"), (0, u "(C)Ljava/lang/String;"), (226, u "([C)V"), (4, .methodref 107 1016), (0, .nameAndType 1017 369), (0, u "canEncode"), (0, .methodref 107 1019), (0, .nameAndType 53 1020), (0, u "(C)[B"), (0, .methodref 42 1019), (31, .fieldref 1054 1055), (0, .class_ 1056), (0, .nameAndType 1057 1058), (0, u "jdk/internal/util/Preconditions"), (0, u "SIOOBE_FORMATTER"), (0, u "Ljava/util/function/BiFunction;"), (0, .methodref 1054 1060), (0, .nameAndType 501 1061), (0, u "(IILjava/util/function/BiFunction;)I"), (39, u "serialPersistentFields"), (0, u "[Ljava/io/ObjectStreamField;"), (0, .class_ 1104), (0, u "java/lang/String$CaseInsensitiveComparator"), (1, .class_ 1107), (0, u "java/io/Serializable"), (0, .class_ 1109), (0, u "java/lang/Comparable"), (0, .class_ 1111), (0, u "java/lang/constant/Constable"), (0, .class_ 1113), (0, u "java/lang/constant/ConstantDesc"), (2, u "serialVersionUID"), (0, u "J"), (3, u "REPL"), (0, u "C"), (2, u "LATIN1"), (1, u "UTF16")] 323

def k7m0 : Method := { name := "<init>", desc := "()V", sig := { parameters := [], returnType := none }, accessFlags := 1, code := none }
def k7c1 : Code := { maxStack := 5, maxLocals := 2, code := jdk_42_method_3_code, exceptionTable := #[], attributes := #[] }
def k7m1 : Method := { name := "<init>", desc := "([C)V", sig := { parameters := [(.array .char)], returnType := none }, accessFlags := 1, code := some k7c1 }
def k7c2 : Code := { maxStack := 2, maxLocals := 1, code := jdk_42_method_54_code, exceptionTable := #[], attributes := #[] }
def k7m2 : Method := { name := "length", desc := "()I", sig := { parameters := [], returnType := some .int }, accessFlags := 1, code := some k7c2 }
def k7c3 : Code := { maxStack := 2, maxLocals := 2, code := jdk_42_method_56_code, exceptionTable := #[], attributes := #[] }
def k7m3 : Method := { name := "charAt", desc := "(I)C", sig := { parameters := [.int], returnType := some .char }, accessFlags := 1, code := some k7c3 }
def k7c4 : Code := { maxStack := 2, maxLocals := 3, code := jdk_42_method_66_code, exceptionTable := #[], attributes := #[] }
def k7m4 : Method := { name := "equals", desc := "(Ljava/lang/Object;)Z", sig := { parameters := [(.object "java/lang/Object")], returnType := some .boolean }, accessFlags := 1, code := some k7c4 }
def k7c5 : Code := { maxStack := 4, maxLocals := 1, code := jdk_42_method_139_code, exceptionTable := #[], attributes := #[] }
def k7m5 : Method := { name := "valueOf", desc := "(C)Ljava/lang/String;", sig := { parameters := [.char], returnType := some (.object "java/lang/String") }, accessFlags := 9, code := some k7c5 }
def k7c6 : Code := { maxStack := 4, maxLocals := 6, code := jdk_42_method_149_code, exceptionTable := #[], attributes := #[] }
def k7m6 : Method := { name := "<init>", desc := "([CIILjava/lang/Void;)V", sig := { parameters := [(.array .char), .int, .int, (.object "java/lang/Void")], returnType := none }, accessFlags := 2, code := some k7c6 }
def k7c7 : Code := { maxStack := 2, maxLocals := 3, code := jdk_42_method_151_code, exceptionTable := #[], attributes := #[] }
def k7m7 : Method := { name := "<init>", desc := "([BB)V", sig := { parameters := [(.array .byte), .byte], returnType := none }, accessFlags := 0, code := some k7c7 }
def k7c8 : Code := { maxStack := 1, maxLocals := 1, code := jdk_42_method_152_code, exceptionTable := #[], attributes := #[] }
def k7m8 : Method := { name := "coder", desc := "()B", sig := { parameters := [], returnType := some .byte }, accessFlags := 0, code := some k7c8 }
def k7c9 : Code := { maxStack := 1, maxLocals := 1, code := jdk_42_method_154_code, exceptionTable := #[], attributes := #[] }
def k7m9 : Method := { name := "isLatin1", desc := "()Z", sig := { parameters := [], returnType := some .boolean }, accessFlags := 0, code := some k7c9 }
def k7c10 : Code := { maxStack := 3, maxLocals := 2, code := jdk_42_method_155_code, exceptionTable := #[], attributes := #[] }
def k7m10 : Method := { name := "checkIndex", desc := "(II)V", sig := { parameters := [.int, .int], returnType := none }, accessFlags := 8, code := some k7c10 }
/-- java/lang/String -/
def k7 : Class := { plain "java/lang/String" (some 0) with
  accessFlags := 49
  interfaces := #[2, 3, 4, 5, 6]
  cf := some (fileOf pool7 10 #[.nestMembers #[1103]] #[{ accessFlags := 1, nameIndex := 5, descriptorIndex := 6, attributes := #[] }, { accessFlags := 1, nameIndex := 5, descriptorIndex := 1010, attributes := #[] }, { accessFlags := 1, nameIndex := 507, descriptorIndex := 334, attributes := #[] }, { accessFlags := 1, nameIndex := 497, descriptorIndex := 427, attributes := #[] }, { accessFlags := 1, nameIndex := 543, descriptorIndex := 573, attributes := #[] }, { accessFlags := 9, nameIndex := 782, descriptorIndex := 783, attributes := #[] }, { accessFlags := 2, nameIndex := 5, descriptorIndex := 29, attributes := #[] }, { accessFlags := 0, nameIndex := 5, descriptorIndex := 211, attributes := #[] }, { accessFlags := 0, nameIndex := 17, descriptorIndex := 337, attributes := #[] }, { accessFlags := 0, nameIndex := 494, descriptorIndex := 142, attributes := #[] }, { accessFlags := 8, nameIndex := 501, descriptorIndex := 391, attributes := #[] }] 49 2 #[1106, 1108, 575, 1110, 1112] #[{ accessFlags := 18, nameIndex := 13, descriptorIndex := 14, attributes := #[] }, { accessFlags := 18, nameIndex := 17, descriptorIndex := 18, attributes := #[] }, { accessFlags := 2, nameIndex := 21, descriptorIndex := 22, attributes := #[] }, { accessFlags := 2, nameIndex := 25, descriptorIndex := 26, attributes := #[] }, { accessFlags := 26, nameIndex := 1116, descriptorIndex := 1117, attributes := #[] }, { accessFlags := 24, nameIndex := 40, descriptorIndex := 26, attributes := #[] }, { accessFlags := 26, nameIndex := 1101, descriptorIndex := 1102, attributes := #[] }, { accessFlags := 26, nameIndex := 1121, descriptorIndex := 1122, attributes := #[] }, { accessFlags := 25, nameIndex := 599, descriptorIndex := 600, attributes := #[] }, { accessFlags := 24, nameIndex := 1125, descriptorIndex := 18, attributes := #[] }, { accessFlags := 24, nameIndex := 1127, descriptorIndex := 18, attributes := #[] }])
  fields := #[{ name := "value", type := (.array .byte), accessFlags := 18, slot := 0, constantValue := 0 }, { name := "coder", type := .byte, accessFlags := 18, slot := 1, constantValue := 0 }, { name := "hash", type := .int, accessFlags := 2, slot := 2, constantValue := 0 }, { name := "hashIsZero", type := .boolean, accessFlags := 2, slot := 3, constantValue := 0 }, { name := "serialVersionUID", type := .long, accessFlags := 26, slot := 0, constantValue := 0 }, { name := "COMPACT_STRINGS", type := .boolean, accessFlags := 24, slot := 1, constantValue := 0 }, { name := "serialPersistentFields", type := (.array (.object "java/io/ObjectStreamField")), accessFlags := 26, slot := 2, constantValue := 0 }, { name := "REPL", type := .char, accessFlags := 26, slot := 3, constantValue := 0 }, { name := "CASE_INSENSITIVE_ORDER", type := (.object "java/util/Comparator"), accessFlags := 25, slot := 4, constantValue := 0 }, { name := "LATIN1", type := .byte, accessFlags := 24, slot := 5, constantValue := 0 }, { name := "UTF16", type := .byte, accessFlags := 24, slot := 6, constantValue := 0 }]
  methods := #[k7m0, k7m1, k7m2, k7m3, k7m4, k7m5, k7m6, k7m7, k7m8, k7m9, k7m10]
  instanceTypes := #[(.array .byte), .byte, .int, .boolean]
  staticTypes := #[.long, .boolean, (.array (.object "java/io/ObjectStreamField")), .char, (.object "java/util/Comparator"), .byte, .byte]
  resolved := Array.replicate 1451 none
  statics := some 0 }

def pool8 : Array CpInfo := pool [(1, .class_ 2), (0, u "java/lang/String"), (1, .class_ 6), (1, u "java/lang/Object"), (0, u "<init>"), (0, u "()V"), (0, .methodref 1 10), (0, .nameAndType 11 12), (0, u "checkIndex"), (0, u "(II)V"), (1, .class_ 16), (1, u "java/lang/StringLatin1"), (36, u "([BI)C"), (36, u "canEncode"), (14, u "(C)Z"), (15, u "$assertionsDisabled"), (0, u "Z"), (98, .class_ 223), (1, u "java/lang/StringLatin1$LinesSpliterator"), (28, u "charAt"), (28, u "equals"), (0, u "([B[B)Z"), (97, u "toBytes"), (1, u "(C)[B"), (7, .class_ 391), (0, u "java/lang/StringLatin1$CharsSpliterator")] 3

def k8m0 : Method := { name := "<init>", desc := "()V", sig := { parameters := [], returnType := none }, accessFlags := 0, code := none }
def k8c1 : Code := { maxStack := 2, maxLocals := 2, code := jdk_43_method_2_code, exceptionTable := #[], attributes := #[] }
def k8m1 : Method := { name := "charAt", desc := "([BI)C", sig := { parameters := [(.array .byte), .int], returnType := some .char }, accessFlags := 9, code := some k8c1 }
def k8c2 : Code := { maxStack := 2, maxLocals := 1, code := jdk_43_method_3_code, exceptionTable := #[], attributes := #[] }
def k8m2 : Method := { name := "canEncode", desc := "(C)Z", sig := { parameters := [.char], returnType := some .boolean }, accessFlags := 9, code := some k8c2 }
def k8c3 : Code := { maxStack := 3, maxLocals := 3, code := jdk_43_method_13_code, exceptionTable := #[], attributes := #[] }
def k8m3 : Method := { name := "equals", desc := "([B[B)Z", sig := { parameters := [(.array .byte), (.array .byte)], returnType := some .boolean }, accessFlags := 9, code := some k8c3 }
def k8c4 : Code := { maxStack := 4, maxLocals := 1, code := jdk_43_method_46_code, exceptionTable := #[], attributes := #[] }
def k8m4 : Method := { name := "toBytes", desc := "(C)[B", sig := { parameters := [.char], returnType := some (.array .byte) }, accessFlags := 9, code := some k8c4 }
/-- java/lang/StringLatin1 -/
def k8 : Class := { plain "java/lang/StringLatin1" (some 0) with
  accessFlags := 48
  interfaces := #[]
  cf := some (fileOf pool8 14 #[.nestMembers #[390, 221]] #[{ accessFlags := 0, nameIndex := 7, descriptorIndex := 8, attributes := #[] }, { accessFlags := 9, nameIndex := 252, descriptorIndex := 53, attributes := #[] }, { accessFlags := 9, nameIndex := 90, descriptorIndex := 105, attributes := #[] }, { accessFlags := 9, nameIndex := 281, descriptorIndex := 282, attributes := #[] }, { accessFlags := 9, nameIndex := 380, descriptorIndex := 382, attributes := #[] }] 48 4 #[] #[{ accessFlags := 4120, nameIndex := 121, descriptorIndex := 122, attributes := #[] }])
  fields := #[{ name := "$assertionsDisabled", type := .boolean, accessFlags := 4120, slot := 0, constantValue := 0 }]
  methods := #[k8m0, k8m1, k8m2, k8m3, k8m4]
  instanceTypes := #[]
  staticTypes := #[.boolean]
  resolved := Array.replicate 395 none
  statics := none }

def pool9 : Array CpInfo := pool [(1, .methodref 2 3), (0, .class_ 4), (0, .nameAndType 5 6), (0, u "java/lang/Object"), (0, u "<init>"), (0, u "()V"), (0, .fieldref 8 9), (0, .class_ 10), (0, .nameAndType 11 12), (0, u "com/example/tuned_odds/tunedodds/index/FingerprintSet"), (0, u "slots"), (0, u "[J"), (0, .methodref 8 14), (0, .nameAndType 15 16), (0, u "fingerprint"), (0, u "(Ljava/lang/String;)J"), (0, .methodref 8 18), (0, .nameAndType 19 20), (0, u "find"), (0, u "([JJ)I"), (0, .fieldref 8 22), (0, .nameAndType 23 24), (0, u "size"), (0, u "I"), (3, .long 14695981039346656037), (1, .methodref 31 32), (0, .class_ 33), (0, .nameAndType 34 35), (0, u "java/lang/String"), (0, u "length"), (0, u "()I"), (0, .methodref 31 37), (0, .nameAndType 38 39), (0, u "charAt"), (0, u "(I)C"), (0, .long 1099511628211), (1, .long 13787848793156543929), (1, .long 10723151780598845931), (3, u "add"), (0, u "(Ljava/lang/String;)Z")] 4

def k9c0 : Code := { maxStack := 2, maxLocals := 1, code := prog_23_method_1_code, exceptionTable := #[], attributes := #[] }
def k9m0 : Method := { name := "<init>", desc := "()V", sig := { parameters := [], returnType := none }, accessFlags := 0, code := some k9c0 }
def k9c1 : Code := { maxStack := 4, maxLocals := 5, code := prog_23_method_2_code, exceptionTable := #[], attributes := #[] }
def k9m1 : Method := { name := "add", desc := "(Ljava/lang/String;)Z", sig := { parameters := [(.object "java/lang/String")], returnType := some .boolean }, accessFlags := 0, code := some k9c1 }
def k9c2 : Code := { maxStack := 4, maxLocals := 5, code := prog_23_method_4_code, exceptionTable := #[], attributes := #[] }
def k9m2 : Method := { name := "find", desc := "([JJ)I", sig := { parameters := [(.array .long), .long], returnType := some .int }, accessFlags := 10, code := some k9c2 }
def k9c3 : Code := { maxStack := 5, maxLocals := 4, code := prog_23_method_5_code, exceptionTable := #[], attributes := #[] }
def k9m3 : Method := { name := "fingerprint", desc := "(Ljava/lang/String;)J", sig := { parameters := [(.object "java/lang/String")], returnType := some .long }, accessFlags := 10, code := some k9c3 }
/-- com/example/tuned_odds/tunedodds/index/FingerprintSet -/
def k9 : Class := { plain "com/example/tuned_odds/tunedodds/index/FingerprintSet" (some 0) with
  accessFlags := 32
  interfaces := #[]
  cf := some (fileOf pool9 8 #[] #[{ accessFlags := 0, nameIndex := 5, descriptorIndex := 6, attributes := #[] }, { accessFlags := 0, nameIndex := 48, descriptorIndex := 49, attributes := #[] }, { accessFlags := 10, nameIndex := 19, descriptorIndex := 20, attributes := #[] }, { accessFlags := 10, nameIndex := 15, descriptorIndex := 16, attributes := #[] }] 32 2 #[] #[{ accessFlags := 2, nameIndex := 11, descriptorIndex := 12, attributes := #[] }, { accessFlags := 2, nameIndex := 23, descriptorIndex := 24, attributes := #[] }])
  fields := #[{ name := "slots", type := (.array .long), accessFlags := 2, slot := 0, constantValue := 0 }, { name := "size", type := .int, accessFlags := 2, slot := 1, constantValue := 0 }]
  methods := #[k9m0, k9m1, k9m2, k9m3]
  instanceTypes := #[(.array .long), .int]
  staticTypes := #[]
  resolved := Array.replicate 54 none
  statics := none }

def pool10 : Array CpInfo := pool [(2, .class_ 4), (1, u "java/lang/Object"), (0, u "<init>"), (0, u "()V"), (17, .class_ 26), (1, u "jdk/internal/util/Preconditions"), (6, u "checkIndex"), (21, .class_ 56), (0, u "jdk/internal/util/Preconditions$4"), (57, .class_ 115), (0, u "jdk/internal/util/Preconditions$1"), (7, u "SIOOBE_FORMATTER"), (0, u "Ljava/util/function/BiFunction;"), (0, .class_ 126), (0, u "jdk/internal/util/Preconditions$2"), (3, u "AIOOBE_FORMATTER"), (0, .class_ 132), (0, u "jdk/internal/util/Preconditions$3"), (3, u "IOOBE_FORMATTER"), (41, u "(IILjava/util/function/BiFunction;)I")] 15

def k10m0 : Method := { name := "<init>", desc := "()V", sig := { parameters := [], returnType := none }, accessFlags := 1, code := none }
def k10c1 : Code := { maxStack := 3, maxLocals := 3, code := jdk_41_method_11_code, exceptionTable := #[], attributes := #[] }
def k10m1 : Method := { name := "checkIndex", desc := "(IILjava/util/function/BiFunction;)I", sig := { parameters := [.int, .int, (.object "java/util/function/BiFunction")], returnType := some .int }, accessFlags := 9, code := some k10c1 }
/-- jdk/internal/util/Preconditions -/
def k10 : Class := { plain "jdk/internal/util/Preconditions" (some 0) with
  accessFlags := 33
  interfaces := #[]
  cf := some (fileOf pool10 24 #[.nestMembers #[55, 131, 125, 114]] #[{ accessFlags := 1, nameIndex := 5, descriptorIndex := 6, attributes := #[] }, { accessFlags := 9, nameIndex := 33, descriptorIndex := 178, attributes := #[] }] 33 2 #[] #[{ accessFlags := 25, nameIndex := 123, descriptorIndex := 124, attributes := #[] }, { accessFlags := 25, nameIndex := 130, descriptorIndex := 124, attributes := #[] }, { accessFlags := 25, nameIndex := 136, descriptorIndex := 124, attributes := #[] }])
  fields := #[{ name := "SIOOBE_FORMATTER", type := (.object "java/util/function/BiFunction"), accessFlags := 25, slot := 0, constantValue := 0 }, { name := "AIOOBE_FORMATTER", type := (.object "java/util/function/BiFunction"), accessFlags := 25, slot := 1, constantValue := 0 }, { name := "IOOBE_FORMATTER", type := (.object "java/util/function/BiFunction"), accessFlags := 25, slot := 2, constantValue := 0 }]
  methods := #[k10m0, k10m1]
  instanceTypes := #[]
  staticTypes := #[(.object "java/util/function/BiFunction"), (.object "java/util/function/BiFunction"), (.object "java/util/function/BiFunction")]
  resolved := Array.replicate 194 none
  statics := some 1 }

def pool11 : Array CpInfo := pool [(3, .class_ 4), (0, u "java/lang/String"), (1, .class_ 8), (1, u "java/lang/Object"), (0, u "<init>"), (0, u "()V"), (0, .methodref 12 13), (0, .class_ 14), (0, .nameAndType 15 16), (0, u "java/lang/StringUTF16"), (0, u "newBytesLength"), (0, u "(I)I"), (3, .integer 1073741823), (23, .fieldref 12 45), (0, .nameAndType 46 47), (0, u "$assertionsDisabled"), (0, u "Z"), (0, .methodref 12 49), (0, .nameAndType 50 51), (0, u "length"), (0, u "([B)I"), (7, .fieldref 12 60), (0, .nameAndType 61 62), (0, u "HI_BYTE_SHIFT"), (0, u "I"), (0, .fieldref 12 64), (0, .nameAndType 65 62), (0, u "LO_BYTE_SHIFT"), (1, .methodref 12 68), (0, .nameAndType 69 70), (0, u "checkIndex"), (0, u "(I[B)V"), (0, .methodref 12 72), (0, .nameAndType 73 74), (0, u "getChar"), (0, u "([BI)C"), (32, .methodref 12 108), (0, .nameAndType 109 110), (0, u "newBytesFor"), (0, u "(I)[B"), (0, .methodref 12 112), (0, .nameAndType 113 114), (0, u "putChar"), (0, u "([BII)V"), (0, .methodref 12 116), (0, .nameAndType 117 118), (0, u "compress"), (0, u "([CI[BII)I"), (0, .methodref 12 120), (0, .nameAndType 121 122), (0, u "toBytes"), (0, u "([CII)[B"), (138, u "coderFromArrayLen"), (0, u "([BI)B"), (106, .class_ 371), (1, u "java/lang/StringUTF16$LinesSpliterator"), (20, u "charAt"), (21, .methodref 3 415), (0, .nameAndType 69 416), (0, u "(II)V"), (13, u "MAX_LENGTH"), (44, u "(C)[B"), (151, .class_ 628), (0, u "java/lang/StringUTF16$CodePointsSpliterator"), (0, .class_ 630), (0, u "java/lang/StringUTF16$CharsSpliterator")] 4

def k11m0 : Method := { name := "<init>", desc := "()V", sig := { parameters := [], returnType := none }, accessFlags := 0, code := none }
def k11c1 : Code := { maxStack := 1, maxLocals := 1, code := jdk_52_method_2_code, exceptionTable := #[], attributes := #[] }
def k11m1 : Method := { name := "newBytesFor", desc := "(I)[B", sig := { parameters := [.int], returnType := some (.array .byte) }, accessFlags := 9, code := some k11c1 }
def k11c2 : Code := { maxStack := 4, maxLocals := 1, code := jdk_52_method_3_code, exceptionTable := #[], attributes := #[] }
def k11m2 : Method := { name := "newBytesLength", desc := "(I)I", sig := { parameters := [.int], returnType := some .int }, accessFlags := 9, code := some k11c2 }
def k11c3 : Code := { maxStack := 4, maxLocals := 3, code := jdk_52_method_4_code, exceptionTable := #[], attributes := #[] }
def k11m3 : Method := { name := "putChar", desc := "([BII)V", sig := { parameters := [(.array .byte), .int, .int], returnType := none }, accessFlags := 8, code := some k11c3 }
def k11c4 : Code := { maxStack := 3, maxLocals := 2, code := jdk_52_method_5_code, exceptionTable := #[], attributes := #[] }
def k11m4 : Method := { name := "getChar", desc := "([BI)C", sig := { parameters := [(.array .byte), .int], returnType := some .char }, accessFlags := 8, code := some k11c4 }
def k11c5 : Code := { maxStack := 2, maxLocals := 1, code := jdk_52_method_6_code, exceptionTable := #[], attributes := #[] }
def k11m5 : Method := { name := "length", desc := "([B)I", sig := { parameters := [(.array .byte)], returnType := some .int }, accessFlags := 9, code := some k11c5 }
def k11c6 : Code := { maxStack := 4, maxLocals := 5, code := jdk_52_method_14_code, exceptionTable := #[], attributes := #[] }
def k11m6 : Method := { name := "toBytes", desc := "([CII)[B", sig := { parameters := [(.array .char), .int, .int], returnType := some (.array .byte) }, accessFlags := 9, code := some k11c6 }
def k11c7 : Code := { maxStack := 2, maxLocals := 2, code := jdk_52_method_15_code, exceptionTable := #[], attributes := #[] }
def k11m7 : Method := { name := "coderFromArrayLen", desc := "([BI)B", sig := { parameters := [(.array .byte), .int], returnType := some .byte }, accessFlags := 8, code := some k11c7 }
def k11c8 : Code := { maxStack := 5, maxLocals := 6, code := jdk_52_method_16_code, exceptionTable := #[], attributes := #[] }
def k11m8 : Method := { name := "compress", desc := "([CII)[B", sig := { parameters := [(.array .char), .int, .int], returnType := some (.array .byte) }, accessFlags := 9, code := some k11c8 }
def k11c9 : Code := { maxStack := 3, maxLocals := 7, code := jdk_52_method_21_code, exceptionTable := #[], attributes := #[] }
def k11m9 : Method := { name := "compress", desc := "([CI[BII)I", sig := { parameters := [(.array .char), .int, (.array .byte), .int, .int], returnType := some .int }, accessFlags := 9, code := some k11c9 }
def k11c10 : Code := { maxStack := 3, maxLocals := 2, code := jdk_52_method_24_code, exceptionTable := #[], attributes := #[] }
def k11m10 : Method := { name := "toBytes", desc := "(C)[B", sig := { parameters := [.char], returnType := some (.array .byte) }, accessFlags := 9, code := some k11c10 }
def k11c11 : Code := { maxStack := 2, maxLocals := 2, code := jdk_52_method_83_code, exceptionTable := #[], attributes := #[] }
def k11m11 : Method := { name := "charAt", desc := "([BI)C", sig := { parameters := [(.array .byte), .int], returnType := some .char }, accessFlags := 9, code := some k11c11 }
def k11c12 : Code := { maxStack := 2, maxLocals := 2, code := jdk_52_method_91_code, exceptionTable := #[], attributes := #[] }
def k11m12 : Method := { name := "checkIndex", desc := "(I[B)V", sig := { parameters := [.int, (.array .byte)], returnType := none }, accessFlags := 9, code := some k11c12 }
/-- java/lang/StringUTF16 -/
def k11 : Class := { plain "java/lang/StringUTF16" (some 0) with
  accessFlags := 48
  interfaces := #[]
  cf := some (fileOf pool11 12 #[.nestMembers #[627, 629, 369]] #[{ accessFlags := 0, nameIndex := 9, descriptorIndex := 10, attributes := #[] }, { accessFlags := 9, nameIndex := 109, descriptorIndex := 110, attributes := #[] }, { accessFlags := 9, nameIndex := 15, descriptorIndex := 16, attributes := #[] }, { accessFlags := 8, nameIndex := 113, descriptorIndex := 114, attributes := #[] }, { accessFlags := 8, nameIndex := 73, descriptorIndex := 74, attributes := #[] }, { accessFlags := 9, nameIndex := 50, descriptorIndex := 51, attributes := #[] }, { accessFlags := 9, nameIndex := 121, descriptorIndex := 122, attributes := #[] }, { accessFlags := 8, nameIndex := 261, descriptorIndex := 262, attributes := #[] }, { accessFlags := 9, nameIndex := 117, descriptorIndex := 122, attributes := #[] }, { accessFlags := 9, nameIndex := 117, descriptorIndex := 118, attributes := #[] }, { accessFlags := 9, nameIndex := 121, descriptorIndex := 475, attributes := #[] }, { accessFlags := 9, nameIndex := 392, descriptorIndex := 74, attributes := #[] }, { accessFlags := 9, nameIndex := 69, descriptorIndex := 70, attributes := #[] }] 48 6 #[] #[{ accessFlags := 26, nameIndex := 61, descriptorIndex := 62, attributes := #[] }, { accessFlags := 26, nameIndex := 65, descriptorIndex := 62, attributes := #[] }, { accessFlags := 24, nameIndex := 430, descriptorIndex := 62, attributes := #[] }, { accessFlags := 4120, nameIndex := 46, descriptorIndex := 47, attributes := #[] }])
  fields := #[{ name := "HI_BYTE_SHIFT", type := .int, accessFlags := 26, slot := 0, constantValue := 0 }, { name := "LO_BYTE_SHIFT", type := .int, accessFlags := 26, slot := 1, constantValue := 0 }, { name := "MAX_LENGTH", type := .int, accessFlags := 24, slot := 2, constantValue := 0 }, { name := "$assertionsDisabled", type := .boolean, accessFlags := 4120, slot := 3, constantValue := 0 }]
  methods := #[k11m0, k11m1, k11m2, k11m3, k11m4, k11m5, k11m6, k11m7, k11m8, k11m9, k11m10, k11m11, k11m12]
  instanceTypes := #[]
  staticTypes := #[.int, .int, .int, .boolean]
  resolved := Array.replicate 635 none
  statics := some 2 }

def pool12 : Array CpInfo := pool [(9, u "<init>"), (6, .class_ 18), (1, u "java/lang/Object"), (0, u "()V"), (1, .class_ 23), (1, u "jdk/internal/util/ArraysSupport"), (0, u "LOG2_ARRAY_LONG_INDEX_SCALE"), (0, u "I"), (2, u "U"), (0, u "Ljdk/internal/misc/Unsafe;"), (8, u "BIG_ENDIAN"), (0, u "Z"), (8, u "LOG2_BYTE_BIT_SIZE"), (4, u "LOG2_ARRAY_INT_INDEX_SCALE"), (54, u "JLA"), (0, u "Ljdk/internal/access/JavaLangAccess;"), (11, u "LOG2_ARRAY_BOOLEAN_INDEX_SCALE"), (9, u "LOG2_ARRAY_BYTE_INDEX_SCALE"), (5, u "LOG2_ARRAY_CHAR_INDEX_SCALE"), (5, u "LOG2_ARRAY_SHORT_INDEX_SCALE"), (18, u "LOG2_ARRAY_FLOAT_INDEX_SCALE"), (24, u "LOG2_ARRAY_DOUBLE_INDEX_SCALE"), (89, u "T_BOOLEAN"), (2, u "T_CHAR"), (1, u "T_FLOAT"), (1, u "T_DOUBLE"), (1, u "T_BYTE"), (1, u "T_SHORT"), (1, u "T_INT"), (1, u "T_LONG"), (1, u "SOFT_MAX_ARRAY_LENGTH")] 83

def k12m0 : Method := { name := "<init>", desc := "()V", sig := { parameters := [], returnType := none }, accessFlags := 2, code := none }
/-- jdk/internal/util/ArraysSupport -/
def k12 : Class := { plain "jdk/internal/util/ArraysSupport" (some 0) with
  accessFlags := 33
  interfaces := #[]
  cf := some (fileOf pool12 21 #[] #[{ accessFlags := 2, nameIndex := 9, descriptorIndex := 19, attributes := #[] }] 33 16 #[] #[{ accessFlags := 24, nameIndex := 28, descriptorIndex := 29, attributes := #[] }, { accessFlags := 26, nameIndex := 38, descriptorIndex := 39, attributes := #[] }, { accessFlags := 25, nameIndex := 121, descriptorIndex := 25, attributes := #[] }, { accessFlags := 25, nameIndex := 131, descriptorIndex := 25, attributes := #[] }, { accessFlags := 25, nameIndex := 137, descriptorIndex := 25, attributes := #[] }, { accessFlags := 25, nameIndex := 143, descriptorIndex := 25, attributes := #[] }, { accessFlags := 25, nameIndex := 53, descriptorIndex := 25, attributes := #[] }, { accessFlags := 25, nameIndex := 24, descriptorIndex := 25, attributes := #[] }, { accessFlags := 25, nameIndex := 162, descriptorIndex := 25, attributes := #[] }, { accessFlags := 25, nameIndex := 187, descriptorIndex := 25, attributes := #[] }, { accessFlags := 26, nameIndex := 48, descriptorIndex := 25, attributes := #[] }, { accessFlags := 25, nameIndex := 277, descriptorIndex := 25, attributes := #[] }, { accessFlags := 25, nameIndex := 280, descriptorIndex := 25, attributes := #[] }, { accessFlags := 25, nameIndex := 282, descriptorIndex := 25, attributes := #[] }, { accessFlags := 25, nameIndex := 284, descriptorIndex := 25, attributes := #[] }, { accessFlags := 25, nameIndex := 286, descriptorIndex := 25, attributes := #[] }, { accessFlags := 25, nameIndex := 288, descriptorIndex := 25, attributes := #[] }, { accessFlags := 25, nameIndex := 290, descriptorIndex := 25, attributes := #[] }, { accessFlags := 25, nameIndex := 292, descriptorIndex := 25, attributes := #[] }, { accessFlags := 26, nameIndex := 108, descriptorIndex := 109, attributes := #[] }, { accessFlags := 25, nameIndex := 294, descriptorIndex := 25, attributes := #[] }])
  fields := #[{ name := "U", type := (.object "jdk/internal/misc/Unsafe"), accessFlags := 24, slot := 0, constantValue := 0 }, { name := "BIG_ENDIAN", type := .boolean, accessFlags := 26, slot := 1, constantValue := 0 }, { name := "LOG2_ARRAY_BOOLEAN_INDEX_SCALE", type := .int, accessFlags := 25, slot := 2, constantValue := 0 }, { name := "LOG2_ARRAY_BYTE_INDEX_SCALE", type := .int, accessFlags := 25, slot := 3, constantValue := 0 }, { name := "LOG2_ARRAY_CHAR_INDEX_SCALE", type := .int, accessFlags := 25, slot := 4, constantValue := 0 }, { name := "LOG2_ARRAY_SHORT_INDEX_SCALE", type := .int, accessFlags := 25, slot := 5, constantValue := 0 }, { name := "LOG2_ARRAY_INT_INDEX_SCALE", type := .int, accessFlags := 25, slot := 6, constantValue := 0 }, { name := "LOG2_ARRAY_LONG_INDEX_SCALE", type := .int, accessFlags := 25, slot := 7, constantValue := 0 }, { name := "LOG2_ARRAY_FLOAT_INDEX_SCALE", type := .int, accessFlags := 25, slot := 8, constantValue := 0 }, { name := "LOG2_ARRAY_DOUBLE_INDEX_SCALE", type := .int, accessFlags := 25, slot := 9, constantValue := 0 }, { name := "LOG2_BYTE_BIT_SIZE", type := .int, accessFlags := 26, slot := 10, constantValue := 0 }, { name := "T_BOOLEAN", type := .int, accessFlags := 25, slot := 11, constantValue := 0 }, { name := "T_CHAR", type := .int, accessFlags := 25, slot := 12, constantValue := 0 }, { name := "T_FLOAT", type := .int, accessFlags := 25, slot := 13, constantValue := 0 }, { name := "T_DOUBLE", type := .int, accessFlags := 25, slot := 14, constantValue := 0 }, { name := "T_BYTE", type := .int, accessFlags := 25, slot := 15, constantValue := 0 }, { name := "T_SHORT", type := .int, accessFlags := 25, slot := 16, constantValue := 0 }, { name := "T_INT", type := .int, accessFlags := 25, slot := 17, constantValue := 0 }, { name := "T_LONG", type := .int, accessFlags := 25, slot := 18, constantValue := 0 }, { name := "JLA", type := (.object "jdk/internal/access/JavaLangAccess"), accessFlags := 26, slot := 19, constantValue := 0 }, { name := "SOFT_MAX_ARRAY_LENGTH", type := .int, accessFlags := 25, slot := 20, constantValue := 0 }]
  methods := #[k12m0]
  instanceTypes := #[]
  staticTypes := #[(.object "jdk/internal/misc/Unsafe"), .boolean, .int, .int, .int, .int, .int, .int, .int, .int, .int, .int, .int, .int, .int, .int, .int, .int, .int, (.object "jdk/internal/access/JavaLangAccess"), .int]
  resolved := Array.replicate 378 none
  statics := none }

def pool13 : Array CpInfo := pool [(1, u "java/lang/Cloneable"), (0, .class_ 1), (0, u "java/lang/Object"), (0, .class_ 3)] 3

/-- java/lang/Cloneable -/
def k13 : Class := { plain "java/lang/Cloneable" (some 0) with
  accessFlags := 1537
  interfaces := #[]
  cf := some (fileOf pool13 2 #[] #[] 1537 4 #[] #[])
  fields := #[]
  methods := #[]
  instanceTypes := #[]
  staticTypes := #[]
  resolved := Array.replicate 8 none
  statics := none }

/-- the primitive byte -/
def k14 : Class := { plain "byte" none with kind := .primitive 'B', accessFlags := 0x411 }
/-- [B -/
def k15 : Class := { plain "[B" (some 0) with kind := .array 14 .byte, interfaces := #[13, 2], accessFlags := 1041 }

/-- the primitive char -/
def k16 : Class := { plain "char" none with kind := .primitive 'C', accessFlags := 0x411 }
/-- [C -/
def k17 : Class := { plain "[C" (some 0) with kind := .array 16 .char, interfaces := #[13, 2], accessFlags := 1041 }

/-- the primitive int -/
def k18 : Class := { plain "int" none with kind := .primitive 'I', accessFlags := 0x411 }
/-- [I -/
def k19 : Class := { plain "[I" (some 0) with kind := .array 18 .int, interfaces := #[13, 2], accessFlags := 1041 }

/-- the primitive long -/
def k20 : Class := { plain "long" none with kind := .primitive 'J', accessFlags := 0x411 }
/-- [J -/
def k21 : Class := { plain "[J" (some 0) with kind := .array 20 .long, interfaces := #[13, 2], accessFlags := 1041 }

def heap : Heap := #[{ cls := 7, slots := #[.long 0, .int 1, .null, .int 0, .null, .int 0, .int 0], vm := .statics 7 },
  { cls := 10, slots := #[.null, .null, .null], vm := .statics 10 },
  { cls := 11, slots := #[.int 0, .int 8, .int 0, .int 1], vm := .statics 11 }]
def classes : Array Class := #[k0, k1, k2, k3, k4, k5, k6, k7, k8, k9, k10, k11, k12, k13, k14, k15, k16, k17, k18, k19, k20, k21]
def interned : List (Array UInt16 × Addr) := []
def slotsUsed : Nat := 14
def theMethod : MethodId := ⟨1, 1⟩
def args0 : Array Value := #[.int 5, .int 6, .int 7, .int 8]
def aboutOver (below : List Frame) : State where
  vm := { classes := classes, interned := interned.toArray }
  heap := heap
  slotsUsed := slotsUsed
  threads := #[{ frames := .invoking theMethod args0 :: below }]
def below0 : List Frame := [.native { method := ⟨0, 0⟩, args := #[] }]
def about1 : State := aboutOver below0
def p0 : Program := .bare "" "" ""
def e0 : Env := launch0.env 0 0 0
theorem w_frames : about1.frames = Frame.invoking theMethod args0 :: below0 := rfl
set_option maxRecDepth 65536 in
theorem w_args : argsFit about1.vm theMethod args0 = true := by decide +kernel
set_option maxRecDepth 65536 in
theorem w_heap : heapFits about1 = true := by decide +kernel
set_option maxRecDepth 65536 in
theorem w_runnable : about1.curStatus? = some .runnable := by decide +kernel
set_option maxRecDepth 65536 in
theorem w_alone : about1.alone = true := by decide +kernel
set_option maxRecDepth 65536 in
theorem w_named : about1.methodNamed? x = some theMethod := by decide +kernel
set_option maxRecDepth 65536 in
theorem w_hears : about1.hears theMethod below0 = true := by decide +kernel
set_option maxRecDepth 65536 in
theorem w_ripe : about1.ripe theMethod args0 below0 = true := by decide +kernel
theorem w_running : about1.status = .running := rfl
set_option maxRecDepth 65536 in
theorem w_room : about1.hasRoom e0.platform room_1 = true :=
  launch0.hasRoom_least _ room_1 (by decide +kernel) (by decide +kernel) (by decide +kernel) (by decide +kernel) (by decide +kernel) (by decide +kernel)
theorem allAtoms_all (ts : List Jvm.Cond) (a : Array Jvm.Value) (st : Jvm.State) : (allAtoms ts).before a st = ts.all (fun c => c.before a st) := by
  induction ts with
  | nil => rfl
  | cons c t ih =>
    show (Jvm.Cond.and c (allAtoms t)).before a st = _
    rw [Jvm.Cond.before_and, ih, List.all_cons]
def words1 : List Jvm.Cond := Jvm.Cond.code x code maxLocals ret :: tables_1
/-- a 'code' word, met by the world's own term for the bytes: nothing is compared byte by byte -/
theorem code_word {y : MethodName} {bytes : ByteArray} {mx : Nat} {rt : Option FieldType} {a : Array Value} {s : State} {m : MethodId} {meth : Method} {c : Code} (h1 : s.methodNamed? y = some m) (h2 : s.vm.method? m = some meth) (h3 : meth.code = some c) (h4 : c.code = bytes)
    (h5 : (c.maxLocals == mx && c.exceptionTable.isEmpty && decide (c.maxStack ≤ mostOperands) && decide (meth.sig.returnType = rt) && !meth.locks && decide (parseMethodDescriptor y.desc = some meth.sig)) = true) : (Jvm.Cond.code y bytes mx rt).before a s = true := by
  simp only [Bool.and_eq_true, beq_iff_eq, Bool.not_eq_true', decide_eq_true_eq] at h5
  obtain ⟨⟨⟨⟨⟨g1, g2⟩, g3⟩, g4⟩, g5⟩, g6⟩ := h5
  simp [Cond.before, Cond.holds, Cond.value, h1, h2, h3, h4, g1, g2, g3, g4, g5, g6]
def isCode : Jvm.Cond → Bool
  | .code _ _ _ _ => true
  | _ => false
theorem all_split {L : List Jvm.Cond} {P : Jvm.Cond → Bool} (h1 : L.all (fun c => isCode c || P c) = true) (h2 : ∀ c ∈ L.filter isCode, P c = true) : L.all P = true := by
  refine List.all_eq_true.mpr fun c hc => ?_
  have h := List.all_eq_true.mp h1 c hc
  rcases Bool.eq_false_or_eq_true (isCode c) with hi | hi
  · exact h2 c (List.mem_filter.mpr ⟨hc, hi⟩)
  · simpa [hi] using h
set_option maxRecDepth 65536 in
theorem w_c0 : (Jvm.Cond.code x code maxLocals ret).before args0 about1 = true := code_word (m := ⟨1, 1⟩) (meth := k1m1) (c := k1c1) (by decide +kernel) rfl rfl rfl (by decide +kernel)
set_option maxRecDepth 65536 in
theorem w_c1 : (Jvm.Cond.code ({ cls := "java/lang/String", name := "valueOf", desc := "(C)Ljava/lang/String;" } : Jvm.MethodName) jdk_42_method_139_code (1 : Nat) (Option.some (Jvm.ClassFile.FieldType.object "java/lang/String"))).before args0 about1 = true := code_word (m := ⟨7, 5⟩) (meth := k7m5) (c := k7c5) (by decide +kernel) rfl rfl rfl (by decide +kernel)
set_option maxRecDepth 65536 in
theorem w_c2 : (Jvm.Cond.code ({ cls := "java/lang/StringLatin1", name := "canEncode", desc := "(C)Z" } : Jvm.MethodName) jdk_43_method_3_code (1 : Nat) (Option.some Jvm.ClassFile.FieldType.boolean)).before args0 about1 = true := code_word (m := ⟨8, 2⟩) (meth := k8m2) (c := k8c2) (by decide +kernel) rfl rfl rfl (by decide +kernel)
set_option maxRecDepth 65536 in
theorem w_c3 : (Jvm.Cond.code ({ cls := "java/lang/StringLatin1", name := "toBytes", desc := "(C)[B" } : Jvm.MethodName) jdk_43_method_46_code (1 : Nat) (Option.some (Jvm.ClassFile.FieldType.array Jvm.ClassFile.FieldType.byte))).before args0 about1 = true := code_word (m := ⟨8, 4⟩) (meth := k8m4) (c := k8c4) (by decide +kernel) rfl rfl rfl (by decide +kernel)
set_option maxRecDepth 65536 in
theorem w_c4 : (Jvm.Cond.code ({ cls := "java/lang/String", name := "<init>", desc := "([BB)V" } : Jvm.MethodName) jdk_42_method_151_code (3 : Nat) (Option.none : Option Jvm.ClassFile.FieldType)).before args0 about1 = true := code_word (m := ⟨7, 7⟩) (meth := k7m7) (c := k7c7) (by decide +kernel) rfl rfl rfl (by decide +kernel)
set_option maxRecDepth 65536 in
theorem w_c5 : (Jvm.Cond.code ({ cls := "java/lang/Object", name := "<init>", desc := "()V" } : Jvm.MethodName) object_method_1_code (1 : Nat) (Option.none : Option Jvm.ClassFile.FieldType)).before args0 about1 = true := code_word (m := ⟨0, 0⟩) (meth := k0m0) (c := k0c0) (by decide +kernel) rfl rfl rfl (by decide +kernel)
set_option maxRecDepth 65536 in
theorem w_c6 : (Jvm.Cond.code ({ cls := "com/example/tuned_odds/tunedodds/index/FingerprintSet", name := "<init>", desc := "()V" } : Jvm.MethodName) prog_23_method_1_code (1 : Nat) (Option.none : Option Jvm.ClassFile.FieldType)).before args0 about1 = true := code_word (m := ⟨9, 0⟩) (meth := k9m0) (c := k9c0) (by decide +kernel) rfl rfl rfl (by decide +kernel)
set_option maxRecDepth 65536 in
theorem w_c7 : (Jvm.Cond.code ({ cls := "com/example/tuned_odds/tunedodds/index/FingerprintSet", name := "add", desc := "(Ljava/lang/String;)Z" } : Jvm.MethodName) prog_23_method_2_code (5 : Nat) (Option.some Jvm.ClassFile.FieldType.boolean)).before args0 about1 = true := code_word (m := ⟨9, 1⟩) (meth := k9m1) (c := k9c1) (by decide +kernel) rfl rfl rfl (by decide +kernel)
set_option maxRecDepth 65536 in
theorem w_c8 : (Jvm.Cond.code ({ cls := "com/example/tuned_odds/tunedodds/index/FingerprintSet", name := "fingerprint", desc := "(Ljava/lang/String;)J" } : Jvm.MethodName) prog_23_method_5_code (4 : Nat) (Option.some Jvm.ClassFile.FieldType.long)).before args0 about1 = true := code_word (m := ⟨9, 3⟩) (meth := k9m3) (c := k9c3) (by decide +kernel) rfl rfl rfl (by decide +kernel)
set_option maxRecDepth 65536 in
theorem w_c9 : (Jvm.Cond.code ({ cls := "java/lang/String", name := "length", desc := "()I" } : Jvm.MethodName) jdk_42_method_54_code (1 : Nat) (Option.some Jvm.ClassFile.FieldType.int)).before args0 about1 = true := code_word (m := ⟨7, 2⟩) (meth := k7m2) (c := k7c2) (by decide +kernel) rfl rfl rfl (by decide +kernel)
set_option maxRecDepth 65536 in
theorem w_c10 : (Jvm.Cond.code ({ cls := "java/lang/String", name := "coder", desc := "()B" } : Jvm.MethodName) jdk_42_method_152_code (1 : Nat) (Option.some Jvm.ClassFile.FieldType.byte)).before args0 about1 = true := code_word (m := ⟨7, 8⟩) (meth := k7m8) (c := k7c8) (by decide +kernel) rfl rfl rfl (by decide +kernel)
set_option maxRecDepth 65536 in
theorem w_c11 : (Jvm.Cond.code ({ cls := "java/lang/String", name := "charAt", desc := "(I)C" } : Jvm.MethodName) jdk_42_method_56_code (2 : Nat) (Option.some Jvm.ClassFile.FieldType.char)).before args0 about1 = true := code_word (m := ⟨7, 3⟩) (meth := k7m3) (c := k7c3) (by decide +kernel) rfl rfl rfl (by decide +kernel)
set_option maxRecDepth 65536 in
theorem w_c12 : (Jvm.Cond.code ({ cls := "java/lang/String", name := "isLatin1", desc := "()Z" } : Jvm.MethodName) jdk_42_method_154_code (1 : Nat) (Option.some Jvm.ClassFile.FieldType.boolean)).before args0 about1 = true := code_word (m := ⟨7, 9⟩) (meth := k7m9) (c := k7c9) (by decide +kernel) rfl rfl rfl (by decide +kernel)
set_option maxRecDepth 65536 in
theorem w_c13 : (Jvm.Cond.code ({ cls := "java/lang/StringLatin1", name := "charAt", desc := "([BI)C" } : Jvm.MethodName) jdk_43_method_2_code (2 : Nat) (Option.some Jvm.ClassFile.FieldType.char)).before args0 about1 = true := code_word (m := ⟨8, 1⟩) (meth := k8m1) (c := k8c1) (by decide +kernel) rfl rfl rfl (by decide +kernel)
set_option maxRecDepth 65536 in
theorem w_c14 : (Jvm.Cond.code ({ cls := "java/lang/String", name := "checkIndex", desc := "(II)V" } : Jvm.MethodName) jdk_42_method_155_code (2 : Nat) (Option.none : Option Jvm.ClassFile.FieldType)).before args0 about1 = true := code_word (m := ⟨7, 10⟩) (meth := k7m10) (c := k7c10) (by decide +kernel) rfl rfl rfl (by decide +kernel)
set_option maxRecDepth 65536 in
theorem w_c15 : (Jvm.Cond.code ({ cls := "jdk/internal/util/Preconditions", name := "checkIndex", desc := "(IILjava/util/function/BiFunction;)I" } : Jvm.MethodName) jdk_41_method_11_code (3 : Nat) (Option.some Jvm.ClassFile.FieldType.int)).before args0 about1 = true := code_word (m := ⟨10, 1⟩) (meth := k10m1) (c := k10c1) (by decide +kernel) rfl rfl rfl (by decide +kernel)
set_option maxRecDepth 65536 in
theorem w_c16 : (Jvm.Cond.code ({ cls := "com/example/tuned_odds/tunedodds/index/FingerprintSet", name := "find", desc := "([JJ)I" } : Jvm.MethodName) prog_23_method_4_code (5 : Nat) (Option.some Jvm.ClassFile.FieldType.int)).before args0 about1 = true := code_word (m := ⟨9, 2⟩) (meth := k9m2) (c := k9c2) (by decide +kernel) rfl rfl rfl (by decide +kernel)
set_option maxRecDepth 65536 in
theorem w_c17 : (Jvm.Cond.code ({ cls := "java/lang/String", name := "equals", desc := "(Ljava/lang/Object;)Z" } : Jvm.MethodName) jdk_42_method_66_code (3 : Nat) (Option.some Jvm.ClassFile.FieldType.boolean)).before args0 about1 = true := code_word (m := ⟨7, 4⟩) (meth := k7m4) (c := k7c4) (by decide +kernel) rfl rfl rfl (by decide +kernel)
set_option maxRecDepth 65536 in
theorem w_c18 : (Jvm.Cond.code ({ cls := "java/lang/StringLatin1", name := "equals", desc := "([B[B)Z" } : Jvm.MethodName) jdk_43_method_13_code (3 : Nat) (Option.some Jvm.ClassFile.FieldType.boolean)).before args0 about1 = true := code_word (m := ⟨8, 3⟩) (meth := k8m3) (c := k8c3) (by decide +kernel) rfl rfl rfl (by decide +kernel)
set_option maxRecDepth 65536 in
theorem w_c19 : (Jvm.Cond.code ({ cls := "java/lang/String", name := "<init>", desc := "([C)V" } : Jvm.MethodName) jdk_42_method_3_code (2 : Nat) (Option.none : Option Jvm.ClassFile.FieldType)).before args0 about1 = true := code_word (m := ⟨7, 1⟩) (meth := k7m1) (c := k7c1) (by decide +kernel) rfl rfl rfl (by decide +kernel)
set_option maxRecDepth 65536 in
theorem w_c20 : (Jvm.Cond.code ({ cls := "java/lang/String", name := "<init>", desc := "([CIILjava/lang/Void;)V" } : Jvm.MethodName) jdk_42_method_149_code (6 : Nat) (Option.none : Option Jvm.ClassFile.FieldType)).before args0 about1 = true := code_word (m := ⟨7, 6⟩) (meth := k7m6) (c := k7c6) (by decide +kernel) rfl rfl rfl (by decide +kernel)
set_option maxRecDepth 65536 in
theorem w_c21 : (Jvm.Cond.code ({ cls := "java/lang/StringUTF16", name := "compress", desc := "([CII)[B" } : Jvm.MethodName) jdk_52_method_16_code (6 : Nat) (Option.some (Jvm.ClassFile.FieldType.array Jvm.ClassFile.FieldType.byte))).before args0 about1 = true := code_word (m := ⟨11, 8⟩) (meth := k11m8) (c := k11c8) (by decide +kernel) rfl rfl rfl (by decide +kernel)
set_option maxRecDepth 65536 in
theorem w_c22 : (Jvm.Cond.code ({ cls := "java/lang/StringUTF16", name := "compress", desc := "([CI[BII)I" } : Jvm.MethodName) jdk_52_method_21_code (7 : Nat) (Option.some Jvm.ClassFile.FieldType.int)).before args0 about1 = true := code_word (m := ⟨11, 9⟩) (meth := k11m9) (c := k11c9) (by decide +kernel) rfl rfl rfl (by decide +kernel)
set_option maxRecDepth 65536 in
theorem w_c23 : (Jvm.Cond.code ({ cls := "java/lang/StringUTF16", name := "coderFromArrayLen", desc := "([BI)B" } : Jvm.MethodName) jdk_52_method_15_code (2 : Nat) (Option.some Jvm.ClassFile.FieldType.byte)).before args0 about1 = true := code_word (m := ⟨11, 7⟩) (meth := k11m7) (c := k11c7) (by decide +kernel) rfl rfl rfl (by decide +kernel)
set_option maxRecDepth 65536 in
theorem w_c24 : (Jvm.Cond.code ({ cls := "java/lang/StringUTF16", name := "toBytes", desc := "(C)[B" } : Jvm.MethodName) jdk_52_method_24_code (2 : Nat) (Option.some (Jvm.ClassFile.FieldType.array Jvm.ClassFile.FieldType.byte))).before args0 about1 = true := code_word (m := ⟨11, 10⟩) (meth := k11m10) (c := k11c10) (by decide +kernel) rfl rfl rfl (by decide +kernel)
set_option maxRecDepth 65536 in
theorem w_c25 : (Jvm.Cond.code ({ cls := "java/lang/StringUTF16", name := "putChar", desc := "([BII)V" } : Jvm.MethodName) jdk_52_method_4_code (3 : Nat) (Option.none : Option Jvm.ClassFile.FieldType)).before args0 about1 = true := code_word (m := ⟨11, 3⟩) (meth := k11m3) (c := k11c3) (by decide +kernel) rfl rfl rfl (by decide +kernel)
set_option maxRecDepth 65536 in
theorem w_c26 : (Jvm.Cond.code ({ cls := "java/lang/StringUTF16", name := "charAt", desc := "([BI)C" } : Jvm.MethodName) jdk_52_method_83_code (2 : Nat) (Option.some Jvm.ClassFile.FieldType.char)).before args0 about1 = true := code_word (m := ⟨11, 11⟩) (meth := k11m11) (c := k11c11) (by decide +kernel) rfl rfl rfl (by decide +kernel)
set_option maxRecDepth 65536 in
theorem w_c27 : (Jvm.Cond.code ({ cls := "java/lang/StringUTF16", name := "checkIndex", desc := "(I[B)V" } : Jvm.MethodName) jdk_52_method_91_code (2 : Nat) (Option.none : Option Jvm.ClassFile.FieldType)).before args0 about1 = true := code_word (m := ⟨11, 12⟩) (meth := k11m12) (c := k11c12) (by decide +kernel) rfl rfl rfl (by decide +kernel)
set_option maxRecDepth 65536 in
theorem w_c28 : (Jvm.Cond.code ({ cls := "java/lang/StringUTF16", name := "length", desc := "([B)I" } : Jvm.MethodName) jdk_52_method_6_code (1 : Nat) (Option.some Jvm.ClassFile.FieldType.int)).before args0 about1 = true := code_word (m := ⟨11, 5⟩) (meth := k11m5) (c := k11c5) (by decide +kernel) rfl rfl rfl (by decide +kernel)
set_option maxRecDepth 65536 in
theorem w_c29 : (Jvm.Cond.code ({ cls := "java/lang/StringUTF16", name := "getChar", desc := "([BI)C" } : Jvm.MethodName) jdk_52_method_5_code (2 : Nat) (Option.some Jvm.ClassFile.FieldType.char)).before args0 about1 = true := code_word (m := ⟨11, 4⟩) (meth := k11m4) (c := k11c4) (by decide +kernel) rfl rfl rfl (by decide +kernel)
set_option maxRecDepth 65536 in
theorem w_c30 : (Jvm.Cond.code ({ cls := "java/lang/StringUTF16", name := "toBytes", desc := "([CII)[B" } : Jvm.MethodName) jdk_52_method_14_code (5 : Nat) (Option.some (Jvm.ClassFile.FieldType.array Jvm.ClassFile.FieldType.byte))).before args0 about1 = true := code_word (m := ⟨11, 6⟩) (meth := k11m6) (c := k11c6) (by decide +kernel) rfl rfl rfl (by decide +kernel)
set_option maxRecDepth 65536 in
theorem w_c31 : (Jvm.Cond.code ({ cls := "java/lang/StringUTF16", name := "newBytesFor", desc := "(I)[B" } : Jvm.MethodName) jdk_52_method_2_code (1 : Nat) (Option.some (Jvm.ClassFile.FieldType.array Jvm.ClassFile.FieldType.byte))).before args0 about1 = true := code_word (m := ⟨11, 1⟩) (meth := k11m1) (c := k11c1) (by decide +kernel) rfl rfl rfl (by decide +kernel)
set_option maxRecDepth 65536 in
theorem w_c32 : (Jvm.Cond.code ({ cls := "java/lang/StringUTF16", name := "newBytesLength", desc := "(I)I" } : Jvm.MethodName) jdk_52_method_3_code (1 : Nat) (Option.some Jvm.ClassFile.FieldType.int)).before args0 about1 = true := code_word (m := ⟨11, 2⟩) (meth := k11m2) (c := k11c2) (by decide +kernel) rfl rfl rfl (by decide +kernel)
def codes1 : List Jvm.Cond := [Jvm.Cond.code x code maxLocals ret, Jvm.Cond.code ({ cls := "java/lang/String", name := "valueOf", desc := "(C)Ljava/lang/String;" } : Jvm.MethodName) jdk_42_method_139_code (1 : Nat) (Option.some (Jvm.ClassFile.FieldType.object "java/lang/String")), Jvm.Cond.code ({ cls := "java/lang/StringLatin1", name := "canEncode", desc := "(C)Z" } : Jvm.MethodName) jdk_43_method_3_code (1 : Nat) (Option.some Jvm.ClassFile.FieldType.boolean), Jvm.Cond.code ({ cls := "java/lang/StringLatin1", name := "toBytes", desc := "(C)[B" } : Jvm.MethodName) jdk_43_method_46_code (1 : Nat) (Option.some (Jvm.ClassFile.FieldType.array Jvm.ClassFile.FieldType.byte)), Jvm.Cond.code ({ cls := "java/lang/String", name := "<init>", desc := "([BB)V" } : Jvm.MethodName) jdk_42_method_151_code (3 : Nat) (Option.none : Option Jvm.ClassFile.FieldType), Jvm.Cond.code ({ cls := "java/lang/Object", name := "<init>", desc := "()V" } : Jvm.MethodName) object_method_1_code (1 : Nat) (Option.none : Option Jvm.ClassFile.FieldType), Jvm.Cond.code ({ cls := "com/example/tuned_odds/tunedodds/index/FingerprintSet", name := "<init>", desc := "()V" } : Jvm.MethodName) prog_23_method_1_code (1 : Nat) (Option.none : Option Jvm.ClassFile.FieldType), Jvm.Cond.code ({ cls := "com/example/tuned_odds/tunedodds/index/FingerprintSet", name := "add", desc := "(Ljava/lang/String;)Z" } : Jvm.MethodName) prog_23_method_2_code (5 : Nat) (Option.some Jvm.ClassFile.FieldType.boolean), Jvm.Cond.code ({ cls := "com/example/tuned_odds/tunedodds/index/FingerprintSet", name := "fingerprint", desc := "(Ljava/lang/String;)J" } : Jvm.MethodName) prog_23_method_5_code (4 : Nat) (Option.some Jvm.ClassFile.FieldType.long), Jvm.Cond.code ({ cls := "java/lang/String", name := "length", desc := "()I" } : Jvm.MethodName) jdk_42_method_54_code (1 : Nat) (Option.some Jvm.ClassFile.FieldType.int), Jvm.Cond.code ({ cls := "java/lang/String", name := "coder", desc := "()B" } : Jvm.MethodName) jdk_42_method_152_code (1 : Nat) (Option.some Jvm.ClassFile.FieldType.byte), Jvm.Cond.code ({ cls := "java/lang/String", name := "charAt", desc := "(I)C" } : Jvm.MethodName) jdk_42_method_56_code (2 : Nat) (Option.some Jvm.ClassFile.FieldType.char), Jvm.Cond.code ({ cls := "java/lang/String", name := "isLatin1", desc := "()Z" } : Jvm.MethodName) jdk_42_method_154_code (1 : Nat) (Option.some Jvm.ClassFile.FieldType.boolean), Jvm.Cond.code ({ cls := "java/lang/StringLatin1", name := "charAt", desc := "([BI)C" } : Jvm.MethodName) jdk_43_method_2_code (2 : Nat) (Option.some Jvm.ClassFile.FieldType.char), Jvm.Cond.code ({ cls := "java/lang/String", name := "checkIndex", desc := "(II)V" } : Jvm.MethodName) jdk_42_method_155_code (2 : Nat) (Option.none : Option Jvm.ClassFile.FieldType), Jvm.Cond.code ({ cls := "jdk/internal/util/Preconditions", name := "checkIndex", desc := "(IILjava/util/function/BiFunction;)I" } : Jvm.MethodName) jdk_41_method_11_code (3 : Nat) (Option.some Jvm.ClassFile.FieldType.int), Jvm.Cond.code ({ cls := "com/example/tuned_odds/tunedodds/index/FingerprintSet", name := "find", desc := "([JJ)I" } : Jvm.MethodName) prog_23_method_4_code (5 : Nat) (Option.some Jvm.ClassFile.FieldType.int), Jvm.Cond.code ({ cls := "java/lang/String", name := "equals", desc := "(Ljava/lang/Object;)Z" } : Jvm.MethodName) jdk_42_method_66_code (3 : Nat) (Option.some Jvm.ClassFile.FieldType.boolean), Jvm.Cond.code ({ cls := "java/lang/StringLatin1", name := "equals", desc := "([B[B)Z" } : Jvm.MethodName) jdk_43_method_13_code (3 : Nat) (Option.some Jvm.ClassFile.FieldType.boolean), Jvm.Cond.code ({ cls := "java/lang/String", name := "<init>", desc := "([C)V" } : Jvm.MethodName) jdk_42_method_3_code (2 : Nat) (Option.none : Option Jvm.ClassFile.FieldType), Jvm.Cond.code ({ cls := "java/lang/String", name := "<init>", desc := "([CIILjava/lang/Void;)V" } : Jvm.MethodName) jdk_42_method_149_code (6 : Nat) (Option.none : Option Jvm.ClassFile.FieldType), Jvm.Cond.code ({ cls := "java/lang/StringUTF16", name := "compress", desc := "([CII)[B" } : Jvm.MethodName) jdk_52_method_16_code (6 : Nat) (Option.some (Jvm.ClassFile.FieldType.array Jvm.ClassFile.FieldType.byte)), Jvm.Cond.code ({ cls := "java/lang/StringUTF16", name := "compress", desc := "([CI[BII)I" } : Jvm.MethodName) jdk_52_method_21_code (7 : Nat) (Option.some Jvm.ClassFile.FieldType.int), Jvm.Cond.code ({ cls := "java/lang/StringUTF16", name := "coderFromArrayLen", desc := "([BI)B" } : Jvm.MethodName) jdk_52_method_15_code (2 : Nat) (Option.some Jvm.ClassFile.FieldType.byte), Jvm.Cond.code ({ cls := "java/lang/StringUTF16", name := "toBytes", desc := "(C)[B" } : Jvm.MethodName) jdk_52_method_24_code (2 : Nat) (Option.some (Jvm.ClassFile.FieldType.array Jvm.ClassFile.FieldType.byte)), Jvm.Cond.code ({ cls := "java/lang/StringUTF16", name := "putChar", desc := "([BII)V" } : Jvm.MethodName) jdk_52_method_4_code (3 : Nat) (Option.none : Option Jvm.ClassFile.FieldType), Jvm.Cond.code ({ cls := "java/lang/StringUTF16", name := "charAt", desc := "([BI)C" } : Jvm.MethodName) jdk_52_method_83_code (2 : Nat) (Option.some Jvm.ClassFile.FieldType.char), Jvm.Cond.code ({ cls := "java/lang/StringUTF16", name := "checkIndex", desc := "(I[B)V" } : Jvm.MethodName) jdk_52_method_91_code (2 : Nat) (Option.none : Option Jvm.ClassFile.FieldType), Jvm.Cond.code ({ cls := "java/lang/StringUTF16", name := "length", desc := "([B)I" } : Jvm.MethodName) jdk_52_method_6_code (1 : Nat) (Option.some Jvm.ClassFile.FieldType.int), Jvm.Cond.code ({ cls := "java/lang/StringUTF16", name := "getChar", desc := "([BI)C" } : Jvm.MethodName) jdk_52_method_5_code (2 : Nat) (Option.some Jvm.ClassFile.FieldType.char), Jvm.Cond.code ({ cls := "java/lang/StringUTF16", name := "toBytes", desc := "([CII)[B" } : Jvm.MethodName) jdk_52_method_14_code (5 : Nat) (Option.some (Jvm.ClassFile.FieldType.array Jvm.ClassFile.FieldType.byte)), Jvm.Cond.code ({ cls := "java/lang/StringUTF16", name := "newBytesFor", desc := "(I)[B" } : Jvm.MethodName) jdk_52_method_2_code (1 : Nat) (Option.some (Jvm.ClassFile.FieldType.array Jvm.ClassFile.FieldType.byte)), Jvm.Cond.code ({ cls := "java/lang/StringUTF16", name := "newBytesLength", desc := "(I)I" } : Jvm.MethodName) jdk_52_method_3_code (1 : Nat) (Option.some Jvm.ClassFile.FieldType.int)]
set_option maxRecDepth 65536 in
theorem codes_eq : words1.filter isCode = codes1 := rfl
theorem w_codes : ∀ c ∈ words1.filter isCode, c.before args0 about1 = true := by
  rw [codes_eq]
  intro c hc
  simp only [codes1, List.mem_cons, List.not_mem_nil, or_false] at hc
  rcases hc with rfl | rfl | rfl | rfl | rfl | rfl | rfl | rfl | rfl | rfl | rfl | rfl | rfl | rfl | rfl | rfl | rfl | rfl | rfl | rfl | rfl | rfl | rfl | rfl | rfl | rfl | rfl | rfl | rfl | rfl | rfl | rfl | rfl
  · exact w_c0
  · exact w_c1
  · exact w_c2
  · exact w_c3
  · exact w_c4
  · exact w_c5
  · exact w_c6
  · exact w_c7
  · exact w_c8
  · exact w_c9
  · exact w_c10
  · exact w_c11
  · exact w_c12
  · exact w_c13
  · exact w_c14
  · exact w_c15
  · exact w_c16
  · exact w_c17
  · exact w_c18
  · exact w_c19
  · exact w_c20
  · exact w_c21
  · exact w_c22
  · exact w_c23
  · exact w_c24
  · exact w_c25
  · exact w_c26
  · exact w_c27
  · exact w_c28
  · exact w_c29
  · exact w_c30
  · exact w_c31
  · exact w_c32
set_option maxRecDepth 65536 in
theorem w_t1 : (words1.take 24).all (fun c => isCode c || c.before args0 about1) = true := by decide +kernel
set_option maxRecDepth 65536 in
theorem w_t2 : ((words1.drop 24).take 24).all (fun c => isCode c || c.before args0 about1) = true := by decide +kernel
set_option maxRecDepth 65536 in
theorem w_t3 : (((words1.drop 24).drop 24).take 24).all (fun c => isCode c || c.before args0 about1) = true := by decide +kernel
set_option maxRecDepth 65536 in
theorem w_t4 : ((((words1.drop 24).drop 24).drop 24).take 24).all (fun c => isCode c || c.before args0 about1) = true := by decide +kernel
set_option maxRecDepth 65536 in
theorem w_t5 : (((((words1.drop 24).drop 24).drop 24).drop 24).take 24).all (fun c => isCode c || c.before args0 about1) = true := by decide +kernel
set_option maxRecDepth 65536 in
theorem w_t6 : ((((((words1.drop 24).drop 24).drop 24).drop 24).drop 24).take 24).all (fun c => isCode c || c.before args0 about1) = true := by decide +kernel
set_option maxRecDepth 65536 in
theorem w_t7 : ((((((words1.drop 24).drop 24).drop 24).drop 24).drop 24).drop 24).all (fun c => isCode c || c.before args0 about1) = true := by decide +kernel
theorem w_tables : (allAtoms (Jvm.Cond.code x code maxLocals ret :: tables_1)).before args0 about1 = true := by
  rw [allAtoms_all]
  show words1.all (fun c => c.before args0 about1) = true
  refine all_split ?_ w_codes
  rw [← List.take_append_drop 24 words1, List.all_append, w_t1, ← List.take_append_drop 24 (words1.drop 24), List.all_append, w_t2, ← List.take_append_drop 24 ((words1.drop 24).drop 24), List.all_append, w_t3, ← List.take_append_drop 24 (((words1.drop 24).drop 24).drop 24), List.all_append, w_t4, ← List.take_append_drop 24 ((((words1.drop 24).drop 24).drop 24).drop 24), List.all_append, w_t5, ← List.take_append_drop 24 (((((words1.drop 24).drop 24).drop 24).drop 24).drop 24), List.all_append, w_t6, w_t7]
  rfl
set_option maxRecDepth 65536 in
theorem w_rest : rest_1_c.before args0 about1 = true := by decide +kernel
set_option maxRecDepth 65536 in
theorem w_case : (Jvm.Cond.and given_1 narrow_1).before args0 about1 = true := by decide +kernel
set_option maxRecDepth 65536 in
theorem w_consts : constsHeld consts_1 about1 := Jvm.Lit.constsHeldB_iff.mp (by decide +kernel)
theorem w_applies : (headSpec (Jvm.Cond.code x code maxLocals ret :: tables_1) room_1).applies x e0.platform about1 = true :=
  (Spec.applies_iff w_frames).mpr ⟨w_running, w_runnable, w_alone, w_named, w_hears, w_ripe, w_room, w_tables⟩
theorem atStart : AtStart classFile x code maxLocals ret World_1 tables_1 room_1 Calls_1 rest_1 Pre_1 launch0 p0 e0 about1 theMethod args0 below0 :=
  ⟨lists_1, trivial, launch0.admits_env _ _ _, launch0.least_env, fairChoices_fair.cas, fairChoices_fair.clock, w_frames, w_args, w_heap, w_applies, ⟨w_consts, trivial⟩, w_rest, w_case⟩
end start1
theorem witness_1 : WitnessClaimed_1 := ⟨start1.p0, start1.e0, start1.about1, start1.theMethod, start1.args0, start1.below0, start1.atStart⟩
end Jvm.Pilot.@@N@@
