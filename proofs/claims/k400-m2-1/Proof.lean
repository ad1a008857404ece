import JvmDerived
import JvmDerived.Pilot.@@N@@Statement
import JvmDerived.Pilot.@@N@@Code
set_option linter.unusedVariables false
set_option linter.unusedSimpArgs false
namespace Jvm.OwnWalk
open Sem ClassFile Op Lib Jvm.Stand Jvm.Free Jvm.LawKit Jvm.RoadKit
/-- from t the run comes to an end of which P holds -/
def Win (tb : Tables) (e : Env) (below : List Frame) (P : State → Outcome → Prop) (t : State) : Prop :=
  ∃ s₂ o, Steps tb e below t s₂ ∧ s₂.status = .running ∧ Ended s₂ below o ∧ P s₂ o
theorem Win.go {tb : Tables} {e : Env} {below : List Frame} {P : State → Outcome → Prop} {t t' : State} (st : ∀ z, Steps tb e below t' z → Steps tb e below t z) (w : Win tb e below P t') : Win tb e below P t := by
  obtain ⟨s2, o, h, r⟩ := w; exact ⟨s2, o, st _ h, r⟩
theorem Win.come {tb : Tables} {e : Env} {below : List Frame} {P : State → Outcome → Prop} {t t' : State} (st : Steps tb e below t t') (w : Win tb e below P t') : Win tb e below P t := by
  obtain ⟨s2, o, h, r⟩ := w; exact ⟨s2, o, st.trans h, r⟩
/-- the body has returned v with the heap h, L written -/
def PostQ (s : State) (Q : Option Value → Heap → List Loc → Prop) (C S : Nat) (u : State) (o : Outcome) : Prop := ∃ v L, o = .returned v ∧ Q v u.heap L ∧ FrameEnd s o u L C S
section Ret
variable {p : Program} {l : Launch} {e : Env} {R : Room} {s : State} {m : MethodId} {args : Array Value} {below : List Frame} {meth : Method} {c : Code} {T : State} {locs : List Loc} {cells slots : Nat} {h : Heap} {Q : Option Value → Heap → List Loc → Prop} {C S : Nat}
theorem retI' (X : Stand p l e R s m args below meth c T locs cells slots) (hx : p.tables.exec = Jvm.exec) {pc : Nat} {Ls : Array Slot} {z : Int32} {rest : List Value} (hret : meth.sig.returnType = some .int) (hd : decode c.code pc = .ok (.ireturn, 1)) {fs : List Frame}
    (hl : ∀ (f : JFrame) (acts : List Action), f.method = m → f.locked = none → f.entered = [] → (doReturn e (T.setTop f) acts (some (.int z))).1 = T.setFrames fs) : Steps p.tables e below (T.setTop (mkF m pc Ls (.int z :: rest))) (T.setFrames fs) := by
  have hm' : T.vm.method? m = some meth := X.method'
  have hn : narrow .int (.int z) = .int z := rfl
  show Steps p.tables e below (T.setTop { method := m, pc := pc, locals := Ls, stack := _ :: rest, locked := none }) _
  jvm_step X.here [X.here.top, hx, hd, hm', hret, hn]
  first | (intro acts; rw [hl _ acts rfl rfl rfl]) | rw [hl _ _ rfl rfl rfl]
  exact Steps.refl _
theorem retA' (X : Stand p l e R s m args below meth c T locs cells slots) (hx : p.tables.exec = Jvm.exec) {pc : Nat} {Ls : Array Slot} {w : Value} {t : FieldType} (hret : meth.sig.returnType = some t) (ht : t.isReference = true) (hv : w.isRef = true) (hd : decode c.code pc = .ok (.areturn, 1)) {fs : List Frame}
    (hl : ∀ (f : JFrame) (acts : List Action), f.method = m → f.locked = none → f.entered = [] → (doReturn e (T.setTop f) acts (some w)).1 = T.setFrames fs) : Steps p.tables e below (T.setTop (mkF m pc Ls [w])) (T.setFrames fs) := by
  have hm' : T.vm.method? m = some meth := X.method'
  show Steps p.tables e below (T.setTop { method := m, pc := pc, locals := Ls, stack := [w], locked := none }) _
  jvm_step X.here [X.here.top, hx, hd, hm', hret, hv, ht]
  first | (intro acts; rw [hl _ acts rfl rfl rfl]) | rw [hl _ _ rfl rfl rfl]
  exact Steps.refl _
theorem winI (X : Stand p l e R s m args below meth c T locs cells slots) (hx : p.tables.exec = Jvm.exec) (hlk : meth.locks = false) (eT : T.heap = h) {pc : Nat} {Ls : Array Slot} {z : Int32} {rest : List Value} (hret : meth.sig.returnType = some .int) (hd : decode c.code pc = .ok (.ireturn, 1))
    (hc : cells ≤ C) (hs : slots ≤ S) (hQ : Q (some (.int z)) h locs) : Win p.tables e below (PostQ s Q C S) (T.setTop (mkF m pc Ls (.int z :: rest))) := by
  subst eT
  obtain ⟨fs, hr, hrun, hended, hW, hsame⟩ := X.leave (v := some (.int z)) (fun h => by rw [hret] at h; cases h) hlk
  exact ⟨_, _, retI' X hx hret hd hr, hrun, hended, _, _, rfl, hQ, ⟨_, rfl⟩, hW, hsame.mono hc hs⟩
theorem winN (X : Stand p l e R s m args below meth c T locs cells slots) (hx : p.tables.exec = Jvm.exec) (hlk : meth.locks = false) (eT : T.heap = h) {pc : Nat} {Ls : Array Slot} {z z' : Int32} {rest : List Value} {t : FieldType} (hret : meth.sig.returnType = some t) (ht : t = .boolean ∨ t = .byte ∨ t = .char ∨ t = .short) (hd : decode c.code pc = .ok (.ireturn, 1))
    (hc : cells ≤ C) (hs : slots ≤ S) (hz : nar t z = z') (hQ : Q (some (.int z')) h locs) : Win p.tables e below (PostQ s Q C S) (T.setTop (mkF m pc Ls (.int z :: rest))) := by
  subst eT hz
  obtain ⟨fs, hr, hrun, hended, hW, hsame⟩ := X.leave (v := some (.int (nar t z))) (fun h => by rw [hret] at h; cases h) hlk
  exact ⟨_, _, retN X hx hret ht hd hr, hrun, hended, _, _, rfl, hQ, ⟨_, rfl⟩, hW, hsame.mono hc hs⟩
theorem winL (X : Stand p l e R s m args below meth c T locs cells slots) (hx : p.tables.exec = Jvm.exec) (hlk : meth.locks = false) (eT : T.heap = h) {pc : Nat} {Ls : Array Slot} {z : Int64} (hret : meth.sig.returnType = some .long) (hd : decode c.code pc = .ok (.lreturn, 1))
    (hc : cells ≤ C) (hs : slots ≤ S) (hQ : Q (some (.long z)) h locs) : Win p.tables e below (PostQ s Q C S) (T.setTop (mkF m pc Ls [.long z])) := by
  subst eT
  obtain ⟨fs, hr, hrun, hended, hW, hsame⟩ := X.leave (v := some (.long z)) (fun h => by rw [hret] at h; cases h) hlk
  exact ⟨_, _, X.lreturnOut hx hret hd hr, hrun, hended, _, _, rfl, hQ, ⟨_, rfl⟩, hW, hsame.mono hc hs⟩
theorem winA (X : Stand p l e R s m args below meth c T locs cells slots) (hx : p.tables.exec = Jvm.exec) (hlk : meth.locks = false) (eT : T.heap = h) {pc : Nat} {Ls : Array Slot} {w : Value} {t : FieldType} (hret : meth.sig.returnType = some t) (ht : t.isReference = true) (hv : w.isRef = true) (hd : decode c.code pc = .ok (.areturn, 1))
    (hc : cells ≤ C) (hs : slots ≤ S) (hQ : Q (some w) h locs) : Win p.tables e below (PostQ s Q C S) (T.setTop (mkF m pc Ls [w])) := by
  subst eT
  obtain ⟨fs, hr, hrun, hended, hW, hsame⟩ := X.leave (v := some w) (fun h => by rw [hret] at h; cases h) hlk
  exact ⟨_, _, retA' X hx hret ht hv hd hr, hrun, hended, _, _, rfl, hQ, ⟨_, rfl⟩, hW, hsame.mono hc hs⟩
theorem winV (X : Stand p l e R s m args below meth c T locs cells slots) (hx : p.tables.exec = Jvm.exec) (hlk : meth.locks = false) (eT : T.heap = h) {pc : Nat} {Ls : Array Slot} (hret : meth.sig.returnType = none) (hd : decode c.code pc = .ok (.return_, 1))
    (hc : cells ≤ C) (hs : slots ≤ S) (hQ : Q none h locs) : Win p.tables e below (PostQ s Q C S) (T.setTop (mkF m pc Ls [])) := by
  subst eT
  obtain ⟨fs, hr, hrun, hended, hW, hsame⟩ := X.leave (v := none) (fun _ => rfl) hlk
  exact ⟨_, _, X.returnOut hx hret hd hr, hrun, hended, _, _, rfl, hQ, ⟨_, rfl⟩, hW, hsame.mono hc hs⟩
def PostQW (s : State) (Q : Option Value → Heap → List Loc → Prop) (C S : Nat) (u : State) (o : Outcome) : Prop := ∃ v L, o = .returned v ∧ Q v u.heap L ∧ ReturnedEndW s o u L C S
theorem winNW {vm0 : Vm} {k0 : Nat} (hS : s.Since vm0 k0) (hk : k0 ≤ h.size) (X : Stand p l e R (s.setVm vm0) m args below meth c T locs cells slots) (hx : p.tables.exec = Jvm.exec) (hlk : meth.locks = false) (eT : T.heap = h) {pc : Nat} {Ls : Array Slot} {z z' : Int32} {rest : List Value} {t : FieldType} (hret : meth.sig.returnType = some t) (ht : t = .boolean ∨ t = .byte ∨ t = .char ∨ t = .short) (hd : decode c.code pc = .ok (.ireturn, 1))
    (hc : cells ≤ C) (hs : slots ≤ S) (hz : nar t z = z') (hQ : Q (some (.int z')) h locs) : Win p.tables e below (PostQW s Q C S) (T.setTop (mkF m pc Ls (.int z :: rest))) := by
  subst eT hz
  obtain ⟨fs, hr, hrun, hended, h1, h2, h3, h4⟩ := X.leaveW hS hk (v := some (.int (nar t z))) (fun h => by rw [hret] at h; cases h) hlk
  exact ⟨_, _, retN X hx hret ht hd hr, hrun, hended, _, _, rfl, hQ, ⟨_, rfl⟩, h2, h3, h4.mono hc hs⟩
end Ret
section Steps
variable {tb : Tables} [Ours tb] {e : Env} {below : List Frame} {P : State → Outcome → Prop} {T : State} {m : MethodId} {c : Code} {pc pc' : Nat} {ls : Array Slot} {st : List Value}
theorem s_iloadN {k : Fin 4} {v : Int32} (h : At T m c below) (hx : tb.exec = Jvm.exec) (hd : decode c.code pc = .ok (.iload_n k, 1)) (hp : pc + 1 = pc') (hl : ls[k.val]? = some (.val (.int v))) (w : Win tb e below P (T.setTop (mkF m pc' ls (.int v :: st)))) : Win tb e below P (T.setTop (mkF m pc ls st)) := by
  subst hp; exact Win.go (fun _ k => XS.iloadN h hx rfl hd hl k) w
theorem s_iload {k : Nat} {v : Int32} (h : At T m c below) (hx : tb.exec = Jvm.exec) (hd : decode c.code pc = .ok (.iload k, 2)) (hp : pc + 2 = pc') (hl : ls[k]? = some (.val (.int v))) (w : Win tb e below P (T.setTop (mkF m pc' ls (.int v :: st)))) : Win tb e below P (T.setTop (mkF m pc ls st)) := by
  subst hp; exact Win.go (fun _ k => XS.iload h hx rfl hd hl k) w
theorem s_lloadN {k : Fin 4} {v : Int64} (h : At T m c below) (hx : tb.exec = Jvm.exec) (hd : decode c.code pc = .ok (.lload_n k, 1)) (hp : pc + 1 = pc') (hl : ls[k.val]? = some (.val (.long v))) (w : Win tb e below P (T.setTop (mkF m pc' ls (.long v :: st)))) : Win tb e below P (T.setTop (mkF m pc ls st)) := by
  subst hp; exact Win.go (fun _ k => XS.lloadN h hx rfl hd hl k) w
theorem s_lload {k : Nat} {v : Int64} (h : At T m c below) (hx : tb.exec = Jvm.exec) (hd : decode c.code pc = .ok (.lload k, 2)) (hp : pc + 2 = pc') (hl : ls[k]? = some (.val (.long v))) (w : Win tb e below P (T.setTop (mkF m pc' ls (.long v :: st)))) : Win tb e below P (T.setTop (mkF m pc ls st)) := by
  subst hp; exact Win.go (fun _ k => XS.lload h hx rfl hd hl k) w
theorem s_aloadN {k : Fin 4} {v : Value} (h : At T m c below) (hx : tb.exec = Jvm.exec) (hd : decode c.code pc = .ok (.aload_n k, 1)) (hp : pc + 1 = pc') (hl : ls[k.val]? = some (.val v)) (hv : v.isRef = true) (w : Win tb e below P (T.setTop (mkF m pc' ls (v :: st)))) : Win tb e below P (T.setTop (mkF m pc ls st)) := by
  subst hp; exact Win.go (fun _ k => XS.aloadN h hx rfl hd hl hv k) w
theorem s_aload {k : Nat} {v : Value} (h : At T m c below) (hx : tb.exec = Jvm.exec) (hd : decode c.code pc = .ok (.aload k, 2)) (hp : pc + 2 = pc') (hl : ls[k]? = some (.val v)) (hv : v.isRef = true) (w : Win tb e below P (T.setTop (mkF m pc' ls (v :: st)))) : Win tb e below P (T.setTop (mkF m pc ls st)) := by
  subst hp; exact Win.go (fun _ k => XS.aload h hx rfl hd hl hv k) w
theorem s_iadd {x y : Int32} (h : At T m c below) (hx : tb.exec = Jvm.exec) (hd : decode c.code pc = .ok (.iadd, 1)) (hp : pc + 1 = pc') (w : Win tb e below P (T.setTop (mkF m pc' ls (.int (x + y) :: st)))) : Win tb e below P (T.setTop (mkF m pc ls (.int y :: .int x :: st))) := by
  subst hp; exact Win.go (fun _ k => XS.iadd h hx rfl hd rfl k) w
theorem s_isub {x y : Int32} (h : At T m c below) (hx : tb.exec = Jvm.exec) (hd : decode c.code pc = .ok (.isub, 1)) (hp : pc + 1 = pc') (w : Win tb e below P (T.setTop (mkF m pc' ls (.int (x - y) :: st)))) : Win tb e below P (T.setTop (mkF m pc ls (.int y :: .int x :: st))) := by
  subst hp; exact Win.go (fun _ k => XS.isub h hx rfl hd rfl k) w
theorem s_imul {x y : Int32} (h : At T m c below) (hx : tb.exec = Jvm.exec) (hd : decode c.code pc = .ok (.imul, 1)) (hp : pc + 1 = pc') (w : Win tb e below P (T.setTop (mkF m pc' ls (.int (x * y) :: st)))) : Win tb e below P (T.setTop (mkF m pc ls (.int y :: .int x :: st))) := by
  subst hp; exact Win.go (fun _ k => XS.imul h hx rfl hd rfl k) w
theorem s_iand {x y : Int32} (h : At T m c below) (hx : tb.exec = Jvm.exec) (hd : decode c.code pc = .ok (.iand, 1)) (hp : pc + 1 = pc') (w : Win tb e below P (T.setTop (mkF m pc' ls (.int (x &&& y) :: st)))) : Win tb e below P (T.setTop (mkF m pc ls (.int y :: .int x :: st))) := by
  subst hp; exact Win.go (fun _ k => XS.iand h hx rfl hd rfl k) w
theorem s_ior {x y : Int32} (h : At T m c below) (hx : tb.exec = Jvm.exec) (hd : decode c.code pc = .ok (.ior, 1)) (hp : pc + 1 = pc') (w : Win tb e below P (T.setTop (mkF m pc' ls (.int (x ||| y) :: st)))) : Win tb e below P (T.setTop (mkF m pc ls (.int y :: .int x :: st))) := by
  subst hp; exact Win.go (fun _ k => XS.ior h hx rfl hd rfl k) w
theorem s_ixor {x y : Int32} (h : At T m c below) (hx : tb.exec = Jvm.exec) (hd : decode c.code pc = .ok (.ixor, 1)) (hp : pc + 1 = pc') (w : Win tb e below P (T.setTop (mkF m pc' ls (.int (x ^^^ y) :: st)))) : Win tb e below P (T.setTop (mkF m pc ls (.int y :: .int x :: st))) := by
  subst hp; exact Win.go (fun _ k => XS.ixor h hx rfl hd rfl k) w
theorem s_ladd {x y : Int64} (h : At T m c below) (hx : tb.exec = Jvm.exec) (hd : decode c.code pc = .ok (.ladd, 1)) (hp : pc + 1 = pc') (w : Win tb e below P (T.setTop (mkF m pc' ls (.long (x + y) :: st)))) : Win tb e below P (T.setTop (mkF m pc ls (.long y :: .long x :: st))) := by
  subst hp; exact Win.go (fun _ k => XS.ladd h hx rfl hd rfl k) w
theorem s_lsub {x y : Int64} (h : At T m c below) (hx : tb.exec = Jvm.exec) (hd : decode c.code pc = .ok (.lsub, 1)) (hp : pc + 1 = pc') (w : Win tb e below P (T.setTop (mkF m pc' ls (.long (x - y) :: st)))) : Win tb e below P (T.setTop (mkF m pc ls (.long y :: .long x :: st))) := by
  subst hp; exact Win.go (fun _ k => XS.lsub h hx rfl hd rfl k) w
theorem s_lmul {x y : Int64} (h : At T m c below) (hx : tb.exec = Jvm.exec) (hd : decode c.code pc = .ok (.lmul, 1)) (hp : pc + 1 = pc') (w : Win tb e below P (T.setTop (mkF m pc' ls (.long (x * y) :: st)))) : Win tb e below P (T.setTop (mkF m pc ls (.long y :: .long x :: st))) := by
  subst hp; exact Win.go (fun _ k => XS.lmul h hx rfl hd rfl k) w
theorem s_land {x y : Int64} (h : At T m c below) (hx : tb.exec = Jvm.exec) (hd : decode c.code pc = .ok (.land, 1)) (hp : pc + 1 = pc') (w : Win tb e below P (T.setTop (mkF m pc' ls (.long (x &&& y) :: st)))) : Win tb e below P (T.setTop (mkF m pc ls (.long y :: .long x :: st))) := by
  subst hp; exact Win.go (fun _ k => XS.land h hx rfl hd rfl k) w
theorem s_lor {x y : Int64} (h : At T m c below) (hx : tb.exec = Jvm.exec) (hd : decode c.code pc = .ok (.lor, 1)) (hp : pc + 1 = pc') (w : Win tb e below P (T.setTop (mkF m pc' ls (.long (x ||| y) :: st)))) : Win tb e below P (T.setTop (mkF m pc ls (.long y :: .long x :: st))) := by
  subst hp; exact Win.go (fun _ k => XS.lor h hx rfl hd rfl k) w
theorem s_lxor {x y : Int64} (h : At T m c below) (hx : tb.exec = Jvm.exec) (hd : decode c.code pc = .ok (.lxor, 1)) (hp : pc + 1 = pc') (w : Win tb e below P (T.setTop (mkF m pc' ls (.long (x ^^^ y) :: st)))) : Win tb e below P (T.setTop (mkF m pc ls (.long y :: .long x :: st))) := by
  subst hp; exact Win.go (fun _ k => XS.lxor h hx rfl hd rfl k) w
theorem s_iconst {i : Int} {z : Int32} (h : At T m c below) (hx : tb.exec = Jvm.exec) (hd : decode c.code pc = .ok (.iconst i, 1)) (hp : pc + 1 = pc') (hz : Int32.ofInt i = z) (w : Win tb e below P (T.setTop (mkF m pc' ls (.int z :: st)))) : Win tb e below P (T.setTop (mkF m pc ls st)) := by
  subst hp hz; exact Win.go (fun _ k => XS.iconst h hx rfl hd k) w
theorem s_bipush {i : Int} {z : Int32} (h : At T m c below) (hx : tb.exec = Jvm.exec) (hd : decode c.code pc = .ok (.bipush i, 2)) (hp : pc + 2 = pc') (hz : (Int8.ofInt i).toInt32 = z) (w : Win tb e below P (T.setTop (mkF m pc' ls (.int z :: st)))) : Win tb e below P (T.setTop (mkF m pc ls st)) := by
  subst hp hz; exact Win.go (fun _ k => XS.bipush h hx rfl hd k) w
theorem s_sipush {i : Int} {z : Int32} (h : At T m c below) (hx : tb.exec = Jvm.exec) (hd : decode c.code pc = .ok (.sipush i, 3)) (hp : pc + 3 = pc') (hz : (Int16.ofInt i).toInt32 = z) (w : Win tb e below P (T.setTop (mkF m pc' ls (.int z :: st)))) : Win tb e below P (T.setTop (mkF m pc ls st)) := by
  subst hp hz; exact Win.go (fun _ k => XS.sipush h hx rfl hd k) w
theorem s_lconst {i : Fin 2} {z : Int64} (h : At T m c below) (hx : tb.exec = Jvm.exec) (hd : decode c.code pc = .ok (.lconst i, 1)) (hp : pc + 1 = pc') (hz : Int64.ofNat i = z) (w : Win tb e below P (T.setTop (mkF m pc' ls (.long z :: st)))) : Win tb e below P (T.setTop (mkF m pc ls st)) := by
  subst hp hz; exact Win.go (fun _ k => XS.lconst h hx rfl hd k) w
theorem s_goto {o : Int} (h : At T m c below) (hx : tb.exec = Jvm.exec) (hd : decode c.code pc = .ok (.goto o, 3)) (ho : 0 ≤ (pc : Int) + o) (hp : ((pc : Int) + o).toNat = pc') (w : Win tb e below P (T.setTop (mkF m pc' ls st))) : Win tb e below P (T.setTop (mkF m pc ls st)) := by
  exact Win.go (fun _ k => XS.goto h hx rfl rfl hd ho hp k) w
theorem s_icmpYes {cd : ClassFile.Cond} {o : Int} {x y : Int32} (h : At T m c below) (hx : tb.exec = Jvm.exec) (hd : decode c.code pc = .ok (.if_icmp cd o, 3)) (hc : if_icmp.holds cd x y = true) (ho : 0 ≤ (pc : Int) + o) (hp : ((pc : Int) + o).toNat = pc') (w : Win tb e below P (T.setTop (mkF m pc' ls st))) : Win tb e below P (T.setTop (mkF m pc ls (.int y :: .int x :: st))) := by
  exact Win.go (fun _ k => XS.icmpYes h hx rfl rfl hd rfl hc ho hp k) w
theorem s_icmpNo {cd : ClassFile.Cond} {o : Int} {x y : Int32} (h : At T m c below) (hx : tb.exec = Jvm.exec) (hd : decode c.code pc = .ok (.if_icmp cd o, 3)) (hp : pc + 3 = pc') (hc : if_icmp.holds cd x y = false) (w : Win tb e below P (T.setTop (mkF m pc' ls st))) : Win tb e below P (T.setTop (mkF m pc ls (.int y :: .int x :: st))) := by
  subst hp; exact Win.go (fun _ k => XS.icmpNo h hx rfl hd rfl hc k) w
theorem s_ifYes {cd : ClassFile.Cond} {o : Int} {x : Int32} (h : At T m c below) (hx : tb.exec = Jvm.exec) (hd : decode c.code pc = .ok (.ifCond cd o, 3)) (hc : ifCond.holds cd x = true) (ho : 0 ≤ (pc : Int) + o) (hp : ((pc : Int) + o).toNat = pc') (w : Win tb e below P (T.setTop (mkF m pc' ls st))) : Win tb e below P (T.setTop (mkF m pc ls (.int x :: st))) := by
  exact Win.go (fun _ k => XS.ifYes h hx rfl rfl hd rfl hc ho hp k) w
theorem s_ifNo {cd : ClassFile.Cond} {o : Int} {x : Int32} (h : At T m c below) (hx : tb.exec = Jvm.exec) (hd : decode c.code pc = .ok (.ifCond cd o, 3)) (hp : pc + 3 = pc') (hc : ifCond.holds cd x = false) (w : Win tb e below P (T.setTop (mkF m pc' ls st))) : Win tb e below P (T.setTop (mkF m pc ls (.int x :: st))) := by
  subst hp; exact Win.go (fun _ k => XS.ifNo h hx rfl hd rfl hc k) w
theorem s_lcmp {x y : Int64} (h : At T m c below) (hx : tb.exec = Jvm.exec) (hd : decode c.code pc = .ok (.lcmp, 1)) (hp : pc + 1 = pc') (w : Win tb e below P (T.setTop (mkF m pc' ls (.int (lcmpW x y) :: st)))) : Win tb e below P (T.setTop (mkF m pc ls (.long y :: .long x :: st))) := by
  subst hp; exact Win.go (fun _ k => XS.lcmp h hx rfl hd rfl k) w
theorem s_istore {k : Nat} {x : Int32} {l' : Array Slot} (h : At T m c below) (hx : tb.exec = Jvm.exec) (hd : decode c.code pc = .ok (.istore k, 2)) (hp : pc + 2 = pc') (hl : storeLocals ls k (.int x) = some l') (w : Win tb e below P (T.setTop (mkF m pc' l' st))) : Win tb e below P (T.setTop (mkF m pc ls (.int x :: st))) := by
  subst hp; exact Win.go (fun _ k => XS.istore h hx rfl hd rfl hl k) w
theorem s_istoreN {k : Fin 4} {x : Int32} {l' : Array Slot} (h : At T m c below) (hx : tb.exec = Jvm.exec) (hd : decode c.code pc = .ok (.istore_n k, 1)) (hp : pc + 1 = pc') (hl : storeLocals ls k.val (.int x) = some l') (w : Win tb e below P (T.setTop (mkF m pc' l' st))) : Win tb e below P (T.setTop (mkF m pc ls (.int x :: st))) := by
  subst hp; exact Win.go (fun _ k => XS.istoreN h hx rfl hd rfl hl k) w
theorem s_lstore {k : Nat} {x : Int64} {l' : Array Slot} (h : At T m c below) (hx : tb.exec = Jvm.exec) (hd : decode c.code pc = .ok (.lstore k, 2)) (hp : pc + 2 = pc') (hl : storeLocals ls k (.long x) = some l') (w : Win tb e below P (T.setTop (mkF m pc' l' st))) : Win tb e below P (T.setTop (mkF m pc ls (.long x :: st))) := by
  subst hp; exact Win.go (fun _ k => XS.lstore h hx rfl hd rfl hl k) w
theorem s_lstoreN {k : Fin 4} {x : Int64} {l' : Array Slot} (h : At T m c below) (hx : tb.exec = Jvm.exec) (hd : decode c.code pc = .ok (.lstore_n k, 1)) (hp : pc + 1 = pc') (hl : storeLocals ls k.val (.long x) = some l') (w : Win tb e below P (T.setTop (mkF m pc' l' st))) : Win tb e below P (T.setTop (mkF m pc ls (.long x :: st))) := by
  subst hp; exact Win.go (fun _ k => XS.lstoreN h hx rfl hd rfl hl k) w
theorem s_astore {k : Nat} {x : Value} {l' : Array Slot} (h : At T m c below) (hx : tb.exec = Jvm.exec) (hd : decode c.code pc = .ok (.astore k, 2)) (hp : pc + 2 = pc') (hv : x.isRef = true) (hl : storeLocals ls k x = some l') (w : Win tb e below P (T.setTop (mkF m pc' l' st))) : Win tb e below P (T.setTop (mkF m pc ls (x :: st))) := by
  subst hp; exact Win.go (fun _ k => XS.astore h hx rfl hd rfl hv hl k) w
theorem s_astoreN {k : Fin 4} {x : Value} {l' : Array Slot} (h : At T m c below) (hx : tb.exec = Jvm.exec) (hd : decode c.code pc = .ok (.astore_n k, 1)) (hp : pc + 1 = pc') (hv : x.isRef = true) (hl : storeLocals ls k.val x = some l') (w : Win tb e below P (T.setTop (mkF m pc' l' st))) : Win tb e below P (T.setTop (mkF m pc ls (x :: st))) := by
  subst hp; exact Win.go (fun _ k => XS.astoreN h hx rfl hd rfl hv hl k) w
theorem s_dup {x : Value} (h : At T m c below) (hx : tb.exec = Jvm.exec) (hd : decode c.code pc = .ok (.dup, 1)) (hp : pc + 1 = pc') (hc : x.category = 1) (w : Win tb e below P (T.setTop (mkF m pc' ls (x :: x :: st)))) : Win tb e below P (T.setTop (mkF m pc ls (x :: st))) := by
  subst hp; exact Win.go (fun _ k => XS.dup h hx rfl hd rfl hc k) w
end Steps
/-- an array of ints by its places: place j holds f j -/
def AF (Z : State) (h : Heap) (a : Addr) (ty : FieldType) (n : Nat) (f : Int → Int32) : Prop := ∃ cl : Cell, Arr Z h a cl ty ∧ cl.slots.size = n ∧ ∀ j : Int32, 0 ≤ j.toInt → j.toInt < n → cl.slots[j.toNatClampNeg]? = some (.int (f j.toInt))
section AFs
variable {Z : State} {h h' : Heap} {a b : Addr} {ty : FieldType} {n : Nat} {f : Int → Int32} {ws : List Addr} {sl : Nat} {v : Value}
theorem AF.lt (F : AF Z h a ty n f) : a < h.size := by obtain ⟨c, A, -⟩ := F; exact A.lt
theorem AF.ext (F : AF Z h a ty n f) (E : Ext h h') : AF Z h' a ty n f := by obtain ⟨c, A, r⟩ := F; exact ⟨c, A.ext E, r⟩
theorem AF.other (F : AF Z h b ty n f) (W : Wr h h' a sl v) (q : b ≠ a) : AF Z h' b ty n f := by obtain ⟨c, A, r⟩ := F; exact ⟨c, A.other W q, r⟩
theorem AF.keep (F : AF Z h a ty n f) (K : Keep h h' ws) (q : a ∉ ws) : AF Z h' a ty n f := by obtain ⟨c, A, r⟩ := F; exact ⟨c, ⟨K.2.1 a c A.1 q, A.2⟩, r⟩
theorem AF.inb {c : Cell} {j : Int32} (S : c.slots.size = n) (q : 0 ≤ j.toInt ∧ j.toInt < n) : ¬ (j < 0 ∨ c.slots.size ≤ j.toNatClampNeg) := by
  rw [S, Int32.lt_iff_toInt_lt]; have e0 : (0 : Int32).toInt = 0 := rfl
  simp only [Int32.toNatClampNeg]; omega
def updF (f : Int → Int32) (j : Int) (v : Int32) : Int → Int32 := fun i => if i = j then v else f i
theorem updF_hit (f : Int → Int32) (j : Int) (v : Int32) : updF f j v j = v := if_pos rfl
theorem updF_miss {f : Int → Int32} {i j : Int} {v : Int32} (q : i ≠ j) : updF f j v i = f i := if_neg q
theorem AF.set {cl : Cell} {j v : Int32} (A : Arr Z h a cl ty) (S : cl.slots.size = n) (G : ∀ j : Int32, 0 ≤ j.toInt → j.toInt < n → cl.slots[j.toNatClampNeg]? = some (.int (f j.toInt))) (W : Wr h h' a j.toNatClampNeg (.int v)) (q : 0 ≤ j.toInt ∧ j.toInt < n) : AF Z h' a ty n (updF f j.toInt v) := by
  have e0 : (0 : Int32).toInt = 0 := rfl
  refine ⟨_, A.same W, by rw [sz_set]; exact S, fun k h0 h1 => ?_⟩
  by_cases e : k = j
  · subst e; rw [get_hit (AF.inb S q) rfl, updF_hit]
  · rw [get_miss (by rw [Int32.lt_iff_toInt_lt]; omega) (by rw [Int32.lt_iff_toInt_lt]; omega) e, updF_miss (fun z => e (Int32.toInt_inj.mp z))]; exact G k h0 h1
theorem AF.zero {k : ClassId} {z : Int32} (F : Arv Z h a k ty z [] (.int 0)) (q : z.toNatClampNeg = n) : AF Z h a ty n (fun _ => 0) := by
  obtain ⟨c, A, -, S, -, H, -⟩ := F
  refine ⟨c, A, S.trans q, fun j h0 h1 => ?_⟩
  have e : j.toNatClampNeg = j.toInt.toNat := rfl
  exact H _ (by rw [S, q, e]; omega)
theorem AF.ex {k : ClassId} {z : Int32} {vs : List Value} {dv : Value} (F : Arv Z h a k .byte z vs dv) (q : z.toNatClampNeg = n) : ∃ f, AF Z h a .byte n f := by
  obtain ⟨c, A, -, S, -, H, G⟩ := F
  refine ⟨fun i => match c.slots[i.toNat]? with | some (.int x) => x | _ => 0, c, A, S.trans q, fun j h0 h1 => ?_⟩
  have e : j.toNatClampNeg = j.toInt.toNat := rfl
  have hj : j.toInt.toNat < c.slots.size := by rw [S, q]; omega
  have e1 := H _ hj
  have e2 := G _ hj
  show c.slots[j.toInt.toNat]? = some (.int (match c.slots[j.toInt.toNat]? with | some (.int x) => x | _ => 0))
  cases hv : vs.getD j.toInt.toNat dv <;> rw [hv] at e1 e2 <;> first | (rw [e1]; done) | (exact absurd e2 (by simp [fits]))
/-- a byte array of length z -/
def BA (Z : State) (h : Heap) (a : Addr) (z : Int32) : Prop := ∃ (k : ClassId) (vs : List Value), Arv Z h a k .byte z vs (.int 0)
variable {z : Int32}
theorem BA.lt (F : BA Z h a z) : a < h.size := by obtain ⟨_, _, A⟩ := F; exact A.lt
theorem BA.ext (F : BA Z h a z) (E : Ext h h') : BA Z h' a z := by obtain ⟨k, vs, A⟩ := F; exact ⟨k, vs, A.ext E⟩
theorem BA.other (F : BA Z h b z) (W : Wr h h' a sl v) (q : b ≠ a) : BA Z h' b z := by obtain ⟨k, vs, A⟩ := F; exact ⟨k, vs, A.other W q⟩
theorem BA.keep (F : BA Z h a z) (K : Keep h h' ws) (q : a ∉ ws) : BA Z h' a z := by obtain ⟨k, vs, A⟩ := F; exact ⟨k, vs, A.keep K q⟩
theorem cpBA {p : Program} {l : Launch} {e : Env} {R : Room} {s : State} {m : MethodId} {args : Array Value} {below : List Frame} {meth : Method} {c : Code} {T : State} {locs : List Loc} {cells slots : Nat}
    (X : Stand p l e R s m args below meth c T locs cells slots) (hx : p.tables.exec = Jvm.exec) (hZ : Z.Warmed39 s.vm) {a0 : Array Value} {own : String} {index : Nat} (hown : s.vm.findClass own = some m.cls)
    (w1 : (Cond.methodLink own index Jvm.Stand.acN).before a0 Z = true) (w2 : (Cond.native Jvm.Stand.acN).before a0 Z = true) (w3 : (Cond.static Jvm.Stand.acN).before a0 Z = true) (w4 : (Cond.initialized "java/lang/System").before a0 Z = true) (eT : T.heap = h)
    {z' sp dp nn : Int32} (A : BA Z h a z) (B : BA Z h b z') (h1 : 0 ≤ sp.toInt) (h2 : 0 ≤ dp.toInt) (h3 : 0 ≤ nn.toInt) (h4 : sp.toInt + nn.toInt ≤ z.toInt) (h5 : dp.toInt + nn.toInt ≤ z'.toInt) {n0 : Nat} (N : Fr n0 locs) (ge : n0 ≤ b)
    {g : JFrame} (hg : g.method = m) (hsize : g.locals.size = c.maxLocals) {rest : List Value} (hs : g.stack = .int nn :: .int dp :: .ref b :: .int sp :: .ref a :: rest) (hd : decode c.code g.pc = .ok (.invokestatic index, 3))
    (hf : 1 ≤ R.frames) {W : Nat} (hW : 2 * g.monitorRoom + (rest.map fun v => v.category).sum ≤ W) (hlo : W + (nativeFrameWords "java/lang/System" "arraycopy" 5 + 11) ≤ R.locals) :
    ∃ T' h' L, Stand p l e R s m args below meth c T' L cells slots ∧ T'.heap = h' ∧ Fr n0 L ∧ Keep h h' [b] ∧ BA Z h' b z' ∧
      ∀ target, Steps p.tables e below (T'.setTop { g with pc := g.pc + 3, stack := rest }) target → Steps p.tables e below (T.setTop g) target := by
  have e0 : (0 : Int32).toInt = 0 := rfl
  obtain ⟨k, vs, A⟩ := A
  obtain ⟨k', vd, B⟩ := B
  have B' := B.pad (pad_rep vd (.int 0) z'.toNatClampNeg)
  obtain ⟨T', h', L, X', e', N', K, B2, st⟩ := cpA X hx hZ hown w1 w2 w3 w4 eT A B' (Or.inl ⟨rfl, rfl⟩) (by rw [Int32.lt_iff_toInt_lt]; omega) (by rw [Int32.lt_iff_toInt_lt]; omega) (by rw [Int32.lt_iff_toInt_lt]; omega) (by simp only [Int32.toNatClampNeg]; omega) (by simp only [Int32.toNatClampNeg]; omega) rfl (by simp only [List.length_append, List.length_replicate, Int32.toNatClampNeg]; omega) N ge hg hsize hs hd hf hW hlo
  exact ⟨T', h', L, X', e', N', K, ⟨k', _, B2⟩, st⟩
end AFs
theorem own_selPriv {s : State} {args : Array Value} {y y' : MethodName} (hn : y.cls = y'.cls) (w : (Cond.selects y'.cls y' y').before args s = true) (hpriv : s.PrivateAt y) (hinst : (Cond.instanceMethod y).before args s = true) (hy : y.cls ≠ "java/lang/invoke/MethodHandle" ∧ y.cls ≠ "java/lang/invoke/VarHandle") : (Cond.selects y.cls y y).before args s = true := by
  obtain ⟨c, r, m, h1, -, h3, -, k, h5, h6⟩ := Cond.selects_spec w
  have h7 := findClass_of_methodNamed h3
  cases h1.symm.trans h7
  exact selects_self_of_private (by rw [hn]; exact h7) h5 h6 hpriv hinst hy
theorem own_lremEq (x y : Int64) : x - (x / y) * y = x % y := by
  refine Int64.toInt_inj.mp ?_
  have h1 := rng64 (x % y)
  have e : x.toInt - x.toInt.tdiv y.toInt * y.toInt = (x % y).toInt := by rw [Int64.toInt_mod, Int.tmod_def, Int.mul_comm]
  rw [Int64.toInt_sub, Int64.toInt_mul, Int64.toInt_div, Int.bmod_mul_bmod, Int.sub_bmod_bmod, e]
  exact Int.bmod_eq_of_le_mul_two (by omega) (by omega)
theorem lremM {p : Program} {l : Launch} {e : Env} {R : Room} {s : State} {m : MethodId} {args : Array Value} {below : List Frame} {meth : Method} {c : Code} {T : State} {locs : List Loc} {cells slots : Nat} {g : JFrame} {target : State} (X : Stand p l e R s m args below meth c T locs cells slots) (hx : p.tables.exec = Jvm.exec) (hg : g.method = m) {x y : Int64} {rest : List Value} (hd : decode c.code g.pc = .ok (.lrem, 1)) (hs : g.stack = .long y :: .long x :: rest) (hy : y ≠ 0)
    (hr : Steps p.tables e below (T.setTop { g with pc := g.pc + 1, stack := .long (x % y) :: rest }) target) : Steps p.tables e below (T.setTop g) target :=
  XS.lrem X.here hx hg hd hs hy (by rw [own_lremEq]; exact hr)
/-! comparisons by the numbers -/
theorem tltI {x y : Int32} (h : x.toInt < y.toInt) : if_icmp.holds .lt x y = true ∧ if_icmp.holds .ge x y = false ∧ if_icmp.holds .gt y x = true ∧ if_icmp.holds .le y x = false := tlt (Int32.lt_iff_toInt_lt.mpr h)
theorem fltI {x y : Int32} (h : ¬ x.toInt < y.toInt) : if_icmp.holds .lt x y = false ∧ if_icmp.holds .ge x y = true ∧ if_icmp.holds .gt y x = false ∧ if_icmp.holds .le y x = true := flt (fun q => h (Int32.lt_iff_toInt_lt.mp q))
theorem teqI {x y : Int32} (h : x.toInt = y.toInt) : if_icmp.holds .eq x y = true ∧ if_icmp.holds .ne x y = false := teq (Int32.toInt_inj.mp h)
theorem feqI {x y : Int32} (h : ¬ x.toInt = y.toInt) : if_icmp.holds .eq x y = false ∧ if_icmp.holds .ne x y = true := feq (fun q => h (congrArg _ q))
theorem tltZ {x y : Int32} (h : x.toInt < y.toInt) : (y = 0 → ifCond.holds .lt x = true ∧ ifCond.holds .ge x = false) ∧ (x = 0 → ifCond.holds .gt y = true ∧ ifCond.holds .le y = false) :=
  ⟨fun q => by subst q; exact ⟨(if0 _ _).trans (tltI h).1, (if0 _ _).trans (tltI h).2.1⟩, fun q => by subst q; exact ⟨(if0 _ _).trans (tltI h).2.2.1, (if0 _ _).trans (tltI h).2.2.2⟩⟩
theorem tltL {x y : Int64} (h : x.toInt < y.toInt) : ifCond.holds .lt (lcmpW x y) = true ∧ ifCond.holds .ge (lcmpW x y) = false ∧ ifCond.holds .gt (lcmpW y x) = true ∧ ifCond.holds .le (lcmpW y x) = false :=
  have h' := Int64.lt_iff_toInt_lt.mpr h
  ⟨(if0 _ _).trans (tlt ((lw_lt x y).mpr h')).1, (if0 _ _).trans (tlt ((lw_lt x y).mpr h')).2.1, (if0 _ _).trans (tlt ((lw_gt y x).mpr h')).2.2.1, (if0 _ _).trans (tlt ((lw_gt y x).mpr h')).2.2.2⟩
theorem fltL {x y : Int64} (h : ¬ x.toInt < y.toInt) : ifCond.holds .lt (lcmpW x y) = false ∧ ifCond.holds .ge (lcmpW x y) = true ∧ ifCond.holds .gt (lcmpW y x) = false ∧ ifCond.holds .le (lcmpW y x) = true :=
  have h1 : ¬ lcmpW x y < 0 := fun q => h (Int64.lt_iff_toInt_lt.mp ((lw_lt x y).mp q))
  have h2 : ¬ 0 < lcmpW y x := fun q => h (Int64.lt_iff_toInt_lt.mp ((lw_gt y x).mp q))
  ⟨(if0 _ _).trans (flt h1).1, (if0 _ _).trans (flt h1).2.1, (if0 _ _).trans (flt h2).2.2.1, (if0 _ _).trans (flt h2).2.2.2⟩
theorem teqL {x y : Int64} (h : x.toInt = y.toInt) : ifCond.holds .eq (lcmpW x y) = true ∧ ifCond.holds .ne (lcmpW x y) = false :=
  have h' := (lw_eq x y).mpr (Int64.toInt_inj.mp h)
  ⟨(if0 _ _).trans (teq h').1, (if0 _ _).trans (teq h').2⟩
theorem feqL {x y : Int64} (h : ¬ x.toInt = y.toInt) : ifCond.holds .eq (lcmpW x y) = false ∧ ifCond.holds .ne (lcmpW x y) = true :=
  have h' : ¬ lcmpW x y = 0 := fun q => h (congrArg _ ((lw_eq x y).mp q))
  ⟨(if0 _ _).trans (feq h').1, (if0 _ _).trans (feq h').2⟩
end Jvm.OwnWalk
namespace Jvm.Pilot.@@N@@
open Jvm Jvm.ClassFile Sem Op Lib Jvm.Free Jvm.Stand Jvm.LawKit Jvm.RoadKit Bundle Jvm.OwnWalk Jvm.Pilot.@@N@@.Jvm.D
def Gd (f : Int → Int32) (to j : Int) : Prop := (f j).toInt = 10 ∧ ((j + 1 < to ∧ (f (j + 1)).toInt = 10) ∨ (j + 2 < to ∧ (f (j + 1)).toInt = 13 ∧ (f (j + 2)).toInt = 10))
def En (f : Int → Int32) (fr to e : Int) : Prop := fr + 2 ≤ e ∧ e ≤ to ∧ (f (e - 1)).toInt = 10 ∧ ((f (e - 2)).toInt = 10 ∨ (fr + 3 ≤ e ∧ (f (e - 2)).toInt = 13 ∧ (f (e - 3)).toInt = 10))
def own_m (z : Int) : Nat := if z < 0 then 0 else (7 - z).toNat
theorem En_Gd {f : Int → Int32} {fr to e : Int} (h : En f fr to e) : (fr ≤ e - 2 ∧ (f (e - 2)).toInt = 10 ∧ (f (e - 1)).toInt = 10 ∧ Gd f to (e - 2)) ∨ (fr ≤ e - 3 ∧ (f (e - 2)).toInt = 13 ∧ Gd f to (e - 3)) := by
  obtain ⟨h1, h2, h3, h4 | ⟨h4, h5, h6⟩⟩ := h
  · exact Or.inl ⟨by omega, h4, h3, h4, Or.inl ⟨by omega, by rw [show e - 2 + 1 = e - 1 from by omega]; exact h3⟩⟩
  · exact Or.inr ⟨by omega, h5, h6, Or.inr ⟨by omega, by rw [show e - 3 + 1 = e - 2 from by omega]; exact h5, by rw [show e - 3 + 2 = e - 1 from by omega]; exact h3⟩⟩
theorem own_final {f : Int → Int32} {fr to z1 z2 : Int} (h0 : 0 ≤ fr) (h6 : to ≤ 6)
    (H1 : (z1 = -1 ∧ ∀ j, fr ≤ j → ¬ Gd f to j) ∨ (∃ j, fr ≤ j ∧ Gd f to j ∧ (∀ i, fr ≤ i → i < j → ¬ Gd f to i) ∧ (((f (j + 1)).toInt = 10 ∧ z1 = j + 2) ∨ (¬ (f (j + 1)).toInt = 10 ∧ z1 = j + 3))))
    (H2 : (z2 = 2 ∧ En f fr to 2) ∨ (z2 = 3 ∧ ¬ En f fr to 2 ∧ En f fr to 3) ∨ (z2 = 4 ∧ ¬ En f fr to 2 ∧ ¬ En f fr to 3 ∧ En f fr to 4) ∨ (z2 = 5 ∧ ¬ En f fr to 2 ∧ ¬ En f fr to 3 ∧ ¬ En f fr to 4 ∧ En f fr to 5) ∨ (z2 = 6 ∧ ¬ En f fr to 2 ∧ ¬ En f fr to 3 ∧ ¬ En f fr to 4 ∧ ¬ En f fr to 5 ∧ En f fr to 6) ∨ (z2 = -1 ∧ ¬ En f fr to 2 ∧ ¬ En f fr to 3 ∧ ¬ En f fr to 4 ∧ ¬ En f fr to 5 ∧ ¬ En f fr to 6)) : z1 = z2 := by
  have none : (z1 = -1 ∧ ∀ j, fr ≤ j → ¬ Gd f to j) → ∀ e, ¬ En f fr to e := fun h e he => by
    rcases En_Gd he with ⟨a, -, -, b⟩ | ⟨a, -, b⟩
    · exact h.2 _ a b
    · exact h.2 _ a b
  rcases H1 with H1 | ⟨j, j1, j2, j3, j4⟩
  · have N := none H1
    rcases H2 with ⟨h, e⟩ | ⟨h, -, e⟩ | ⟨h, -, -, e⟩ | ⟨h, -, -, -, e⟩ | ⟨h, -, -, -, -, e⟩ | ⟨h, -⟩
    · exact absurd e (N _)
    · exact absurd e (N _)
    · exact absurd e (N _)
    · exact absurd e (N _)
    · exact absurd e (N _)
    · rw [h, H1.1]
  · have yes : En f fr to z1 := by
      rcases j4 with ⟨a, rfl⟩ | ⟨a, rfl⟩
      · obtain ⟨b1, ⟨b2, b3⟩ | ⟨b2, b3, b4⟩⟩ := j2
        · exact ⟨by omega, by omega, by rw [show j + 2 - 1 = j + 1 from by omega]; exact b3, Or.inl (by rw [show j + 2 - 2 = j from by omega]; exact b1)⟩
        · omega
      · obtain ⟨b1, ⟨b2, b3⟩ | ⟨b2, b3, b4⟩⟩ := j2
        · exact absurd b3 a
        · exact ⟨by omega, by omega, by rw [show j + 3 - 1 = j + 2 from by omega]; exact b4, Or.inr ⟨by omega, by rw [show j + 3 - 2 = j + 1 from by omega]; exact b3, by rw [show j + 3 - 3 = j from by omega]; exact b1⟩⟩
    have least : ∀ e, e < z1 → ¬ En f fr to e := fun e he q => by
      have hj : ∀ i, fr ≤ i → Gd f to i → j ≤ i := fun i h1 h2 => by
        rcases (by omega : j ≤ i ∨ i < j) with a | a
        · exact a
        · exact absurd h2 (j3 i h1 a)
      rcases En_Gd q with ⟨a, b, c, d⟩ | ⟨a, b, c⟩
      · have := hj _ a d
        have e1 : e = j + 2 := by omega
        subst e1
        rw [show j + 2 - 1 = j + 1 from by omega] at c
        omega
      · have := hj _ a c
        omega
    have b1 : 2 ≤ z1 ∧ z1 ≤ 6 := ⟨by have := yes.1; omega, by have := yes.2.1; omega⟩
    have L2 := least 2; have L3 := least 3; have L4 := least 4; have L5 := least 5; have L6 := least 6
    have Y : z1 = 2 ∨ z1 = 3 ∨ z1 = 4 ∨ z1 = 5 ∨ z1 = 6 := by omega
    rcases Y with rfl | rfl | rfl | rfl | rfl <;> rcases H2 with ⟨h, e⟩ | ⟨h, e2, e⟩ | ⟨h, e2, e3, e⟩ | ⟨h, e2, e3, e4, e⟩ | ⟨h, e2, e3, e4, e5, e⟩ | ⟨h, e2, e3, e4, e5, e6⟩ <;> first | exact h.symm | (exact absurd yes (by assumption)) | (exfalso; first | exact L2 (by omega) e | exact L3 (by omega) e | exact L4 (by omega) e | exact L5 (by omega) e)
theorem d1_0 : decode method_3_code 0 = .ok (.lload_n 0, 1) := by decide +kernel
theorem d1_1 : decode method_3_code 1 = .ok (.bipush 10, 2) := by decide +kernel
theorem d1_3 : decode method_3_code 3 = .ok (.iload_n 2, 1) := by decide +kernel
theorem d1_4 : decode method_3_code 4 = .ok (.imul, 1) := by decide +kernel
theorem d1_5 : decode method_3_code 5 = .ok (.lushr, 1) := by decide +kernel
theorem d1_6 : decode method_3_code 6 = .ok (.ldc2_w 22, 3) := by decide +kernel
theorem d1_9 : decode method_3_code 9 = .ok (.land, 1) := by decide +kernel
theorem d1_10 : decode method_3_code 10 = .ok (.l2i, 1) := by decide +kernel
theorem d1_11 : decode method_3_code 11 = .ok (.istore_n 3, 1) := by decide +kernel
theorem d1_12 : decode method_3_code 12 = .ok (.lload_n 0, 1) := by decide +kernel
theorem d1_13 : decode method_3_code 13 = .ok (.bipush 10, 2) := by decide +kernel
theorem d1_15 : decode method_3_code 15 = .ok (.iload_n 2, 1) := by decide +kernel
theorem d1_16 : decode method_3_code 16 = .ok (.imul, 1) := by decide +kernel
theorem d1_17 : decode method_3_code 17 = .ok (.iconst 2, 1) := by decide +kernel
theorem d1_18 : decode method_3_code 18 = .ok (.iadd, 1) := by decide +kernel
theorem d1_19 : decode method_3_code 19 = .ok (.lushr, 1) := by decide +kernel
theorem d1_20 : decode method_3_code 20 = .ok (.ldc2_w 24, 3) := by decide +kernel
theorem d1_23 : decode method_3_code 23 = .ok (.land, 1) := by decide +kernel
theorem d1_24 : decode method_3_code 24 = .ok (.l2i, 1) := by decide +kernel
theorem d1_25 : decode method_3_code 25 = .ok (.istore 4, 2) := by decide +kernel
theorem d1_27 : decode method_3_code 27 = .ok (.iload_n 3, 1) := by decide +kernel
theorem d1_28 : decode method_3_code 28 = .ok (.ifCond .ne 6, 3) := by decide +kernel
theorem d1_31 : decode method_3_code 31 = .ok (.bipush 10, 2) := by decide +kernel
theorem d1_33 : decode method_3_code 33 = .ok (.ireturn, 1) := by decide +kernel
theorem d1_34 : decode method_3_code 34 = .ok (.iload_n 3, 1) := by decide +kernel
theorem d1_35 : decode method_3_code 35 = .ok (.iconst 1, 1) := by decide +kernel
theorem d1_36 : decode method_3_code 36 = .ok (.if_icmp .ne 6, 3) := by decide +kernel
theorem d1_39 : decode method_3_code 39 = .ok (.bipush 13, 2) := by decide +kernel
theorem d1_41 : decode method_3_code 41 = .ok (.ireturn, 1) := by decide +kernel
theorem d1_42 : decode method_3_code 42 = .ok (.iload 4, 2) := by decide +kernel
theorem d1_44 : decode method_3_code 44 = .ok (.i2b, 1) := by decide +kernel
theorem d1_45 : decode method_3_code 45 = .ok (.ireturn, 1) := by decide +kernel
theorem pn_1 : plainName "com/example/throttle/throttle/app/HttpRequestHeadEndPinLaw" = true := by first | (simp [plainName, overriddenIn]; done) | decide +kernel
theorem ef_1 (m : MethodId) (q0 : Int64) (p1 : Int32) : entryFrame m #[(.long q0), (.int p1)] 5 = mkF m 0 #[.val (.long q0), .second, .val (.int p1), .unset, .unset] [] := by first | (simp [entryFrame, mkF, argsToLocals, Value.category]; done) | rfl
def Q1 (Z : State) (q0 : Int64) (p1 : Int32) (h0 : Heap) (n0 : Nat) (v : Option Value) (h : Heap) (L : List Loc) : Prop := Fr n0 L ∧ h = h0 ∧ (∃ z : Int32, v = some (.int z) ∧ (True))
set_option maxRecDepth 65536 in
set_option maxHeartbeats 40000000 in
theorem rm1 (l : Launch) (Z : State) (a0 : Array Value) (hw : ∀ d ∈ tables_1, d.before a0 Z = true) (ws : List Jvm.Cond) (q0 : Int64) (p1 : Int32) (h0 : Heap) (n0 : Nat) (Zs : n0 ≤ h0.size) :
    MetFree l (⟨"com/example/throttle/throttle/app/HttpRequestHeadEndPinLaw", "cell", "(JI)B"⟩ : MethodName) (head1 (Jvm.Cond.code (⟨"com/example/throttle/throttle/app/HttpRequestHeadEndPinLaw", "cell", "(JI)B"⟩ : MethodName) method_3_code 5 (some .byte) :: ws) ({ frames := 0, cells := 0, slots := 0, locals := 0 } : Room)) (fun as' U => as' = #[(.long q0), (.int p1)] ∧ Z.Warmed39 U.vm ∧ U.heap = h0) (fun _ _ _ _ _ => True) (fun _ U o U' => ∃ v L, o = .returned v ∧ Q1 Z q0 p1 h0 n0 v U'.heap L ∧ FrameEnd U o U' L ({ frames := 0, cells := 0, slots := 0, locals := 0 } : Room).cells ({ frames := 0, cells := 0, slots := 0, locals := 0 } : Room).slots) := by
  refine MetFree.of_bodySF (plainFor_of_name pn_1) hisR ?_
  intro p e s m args below meth c s₁ Bd hml0 hP hK
  obtain ⟨rfl, hZ, hh⟩ := hP
  have hx := Bd.exec
  have hby := Bd.bytes
  have hml : c.maxLocals = 5 := hml0
  have hown : s.vm.findClass "com/example/throttle/throttle/app/HttpRequestHeadEndPinLaw" = some m.cls := findClass_of_methodNamed Bd.named
  have hnm := (name_of_methodNamed Bd.named Bd.method).1
  have hlk : meth.locks = false := Bd.notSynchronized
  have X0 : Stand p l e ({ frames := 0, cells := 0, slots := 0, locals := 0 } : Room) s m #[(.long q0), (.int p1)] below meth c s₁ [] 0 0 := Stand.of_body Bd
  have e0 : s₁.heap = h0 := by rw [← hh, Bd.state]; rfl
  have Nf := Fr.nil n0
  refine (?_ : Win p.tables e below (PostQ s (Q1 Z q0 p1 h0 n0) ({ frames := 0, cells := 0, slots := 0, locals := 0 } : Room).cells ({ frames := 0, cells := 0, slots := 0, locals := 0 } : Room).slots) (s₁.setTop (entryFrame m #[(.long q0), (.int p1)] 5)))
  rw [ef_1]
  show Win p.tables e below _ (s₁.setTop (mkF m 0 #[.val (.long q0), .second, .val (.int p1), .unset, .unset] []))
  refine s_lloadN (pc' := 1) X0.here hx (hb hby d1_0) rfl rfl ?_
  refine s_bipush (pc' := 3) (z := (10 : Int32)) X0.here hx (hb hby d1_1) rfl rfl ?_
  refine s_iloadN (pc' := 4) X0.here hx (hb hby d1_3) rfl rfl ?_
  refine s_imul (pc' := 5) X0.here hx (hb hby d1_4) rfl ?_
  refine Win.go (fun _ k => XT.lushr X0.here hx rfl (hb hby d1_5) rfl k) ?_
  show Win p.tables e below _ (s₁.setTop (mkF m 6 #[.val (.long q0), .second, .val (.int p1), .unset, .unset] [(.long (XT.ushrL q0 ((10 : Int32) * p1)))]))
  refine Win.go (fun _ k => X0.ldc2Long hx hown (mvT hZ (hw _ (List.mem_of_getElem? (i := 5) rfl))) (g := (mkF m 6 #[.val (.long q0), .second, .val (.int p1), .unset, .unset] [(.long (XT.ushrL q0 ((10 : Int32) * p1)))])) rfl (hb hby d1_6) _ k) ?_
  show Win p.tables e below _ (s₁.setTop (mkF m 9 #[.val (.long q0), .second, .val (.int p1), .unset, .unset] [(.long (3 : Int64)), (.long (XT.ushrL q0 ((10 : Int32) * p1)))]))
  refine s_land (pc' := 10) X0.here hx (hb hby d1_9) rfl ?_
  refine Win.go (fun _ k => XS.l2i X0.here hx rfl (hb hby d1_10) rfl k) ?_
  show Win p.tables e below _ (s₁.setTop (mkF m 11 #[.val (.long q0), .second, .val (.int p1), .unset, .unset] [(.int (((XT.ushrL q0 ((10 : Int32) * p1)) &&& (3 : Int64)).toInt32))]))
  refine s_istoreN (pc' := 12) (l' := #[.val (.long q0), .second, .val (.int p1), .val (.int (((XT.ushrL q0 ((10 : Int32) * p1)) &&& (3 : Int64)).toInt32)), .unset]) X0.here hx (hb hby d1_11) rfl rfl ?_
  refine s_lloadN (pc' := 13) X0.here hx (hb hby d1_12) rfl rfl ?_
  refine s_bipush (pc' := 15) (z := (10 : Int32)) X0.here hx (hb hby d1_13) rfl rfl ?_
  refine s_iloadN (pc' := 16) X0.here hx (hb hby d1_15) rfl rfl ?_
  refine s_imul (pc' := 17) X0.here hx (hb hby d1_16) rfl ?_
  refine s_iconst (pc' := 18) (z := (2 : Int32)) X0.here hx (hb hby d1_17) rfl rfl ?_
  refine s_iadd (pc' := 19) X0.here hx (hb hby d1_18) rfl ?_
  refine Win.go (fun _ k => XT.lushr X0.here hx rfl (hb hby d1_19) rfl k) ?_
  show Win p.tables e below _ (s₁.setTop (mkF m 20 #[.val (.long q0), .second, .val (.int p1), .val (.int (((XT.ushrL q0 ((10 : Int32) * p1)) &&& (3 : Int64)).toInt32)), .unset] [(.long (XT.ushrL q0 (((10 : Int32) * p1) + (2 : Int32))))]))
  refine Win.go (fun _ k => X0.ldc2Long hx hown (mvT hZ (hw _ (List.mem_of_getElem? (i := 6) rfl))) (g := (mkF m 20 #[.val (.long q0), .second, .val (.int p1), .val (.int (((XT.ushrL q0 ((10 : Int32) * p1)) &&& (3 : Int64)).toInt32)), .unset] [(.long (XT.ushrL q0 (((10 : Int32) * p1) + (2 : Int32))))])) rfl (hb hby d1_20) _ k) ?_
  show Win p.tables e below _ (s₁.setTop (mkF m 23 #[.val (.long q0), .second, .val (.int p1), .val (.int (((XT.ushrL q0 ((10 : Int32) * p1)) &&& (3 : Int64)).toInt32)), .unset] [(.long (255 : Int64)), (.long (XT.ushrL q0 (((10 : Int32) * p1) + (2 : Int32))))]))
  refine s_land (pc' := 24) X0.here hx (hb hby d1_23) rfl ?_
  refine Win.go (fun _ k => XS.l2i X0.here hx rfl (hb hby d1_24) rfl k) ?_
  show Win p.tables e below _ (s₁.setTop (mkF m 25 #[.val (.long q0), .second, .val (.int p1), .val (.int (((XT.ushrL q0 ((10 : Int32) * p1)) &&& (3 : Int64)).toInt32)), .unset] [(.int (((XT.ushrL q0 (((10 : Int32) * p1) + (2 : Int32))) &&& (255 : Int64)).toInt32))]))
  refine s_istore (pc' := 27) (l' := #[.val (.long q0), .second, .val (.int p1), .val (.int (((XT.ushrL q0 ((10 : Int32) * p1)) &&& (3 : Int64)).toInt32)), .val (.int (((XT.ushrL q0 (((10 : Int32) * p1) + (2 : Int32))) &&& (255 : Int64)).toInt32))]) X0.here hx (hb hby d1_25) rfl rfl ?_
  refine s_iloadN (pc' := 28) X0.here hx (hb hby d1_27) rfl rfl ?_
  by_cases hc28 : ((((XT.ushrL q0 ((10 : Int32) * p1)) &&& (3 : Int64)).toInt32)).toInt = (0 : Int)
  · skip
    refine s_ifNo (pc' := 31) X0.here hx (hb hby d1_28) rfl ((if0 _ _).trans (teqI (x := (((XT.ushrL q0 ((10 : Int32) * p1)) &&& (3 : Int64)).toInt32)) (y := (0 : Int32)) hc28).2) ?_
    refine s_bipush (pc' := 33) (z := (10 : Int32)) X0.here hx (hb hby d1_31) rfl rfl ?_
    refine winN X0 hx hlk e0 (t := .byte) Bd.returns (by simp) (hb hby d1_33) (by decide) (by decide) (z' := (10 : Int32)) rfl ?_
    exact ⟨Nf, rfl, _, rfl, trivial⟩
  · skip
    refine s_ifYes (pc' := 34) X0.here hx (hb hby d1_28) ((if0 _ _).trans (feqI (x := (((XT.ushrL q0 ((10 : Int32) * p1)) &&& (3 : Int64)).toInt32)) (y := (0 : Int32)) hc28).2) (by decide) (by decide) ?_
    refine s_iloadN (pc' := 35) X0.here hx (hb hby d1_34) rfl rfl ?_
    refine s_iconst (pc' := 36) (z := (1 : Int32)) X0.here hx (hb hby d1_35) rfl rfl ?_
    by_cases hc36 : ((((XT.ushrL q0 ((10 : Int32) * p1)) &&& (3 : Int64)).toInt32)).toInt = (1 : Int)
    · skip
      refine s_icmpNo (pc' := 39) X0.here hx (hb hby d1_36) rfl (teqI (x := (((XT.ushrL q0 ((10 : Int32) * p1)) &&& (3 : Int64)).toInt32)) (y := (1 : Int32)) hc36).2 ?_
      refine s_bipush (pc' := 41) (z := (13 : Int32)) X0.here hx (hb hby d1_39) rfl rfl ?_
      refine winN X0 hx hlk e0 (t := .byte) Bd.returns (by simp) (hb hby d1_41) (by decide) (by decide) (z' := (13 : Int32)) rfl ?_
      exact ⟨Nf, rfl, _, rfl, trivial⟩
    · skip
      refine s_icmpYes (pc' := 42) X0.here hx (hb hby d1_36) (feqI (x := (((XT.ushrL q0 ((10 : Int32) * p1)) &&& (3 : Int64)).toInt32)) (y := (1 : Int32)) hc36).2 (by decide) (by decide) ?_
      refine s_iload (pc' := 44) X0.here hx (hb hby d1_42) rfl rfl ?_
      refine Win.go (fun _ k => XS.i2b X0.here hx rfl (hb hby d1_44) rfl k) ?_
      show Win p.tables e below _ (s₁.setTop (mkF m 45 #[.val (.long q0), .second, .val (.int p1), .val (.int (((XT.ushrL q0 ((10 : Int32) * p1)) &&& (3 : Int64)).toInt32)), .val (.int (((XT.ushrL q0 (((10 : Int32) * p1) + (2 : Int32))) &&& (255 : Int64)).toInt32))] [(.int ((((XT.ushrL q0 (((10 : Int32) * p1) + (2 : Int32))) &&& (255 : Int64)).toInt32).toInt8.toInt32))]))
      refine winN X0 hx hlk e0 (t := .byte) Bd.returns (by simp) (hb hby d1_45) (by decide) (by decide) rfl ?_
      exact ⟨Nf, rfl, _, rfl, trivial⟩
theorem d3_0 : decode prog_43_method_16_code 0 = .ok (.iload_n 2, 1) := by decide +kernel
theorem d3_1 : decode prog_43_method_16_code 1 = .ok (.istore 4, 2) := by decide +kernel
theorem d3_3 : decode prog_43_method_16_code 3 = .ok (.iload 4, 2) := by decide +kernel
theorem d3_5 : decode prog_43_method_16_code 5 = .ok (.iload_n 3, 1) := by decide +kernel
theorem d3_6 : decode prog_43_method_16_code 6 = .ok (.if_icmp .ge 20, 3) := by decide +kernel
theorem d3_9 : decode prog_43_method_16_code 9 = .ok (.aload_n 0, 1) := by decide +kernel
theorem d3_10 : decode prog_43_method_16_code 10 = .ok (.iload 4, 2) := by decide +kernel
theorem d3_12 : decode prog_43_method_16_code 12 = .ok (.baload, 1) := by decide +kernel
theorem d3_13 : decode prog_43_method_16_code 13 = .ok (.iload_n 1, 1) := by decide +kernel
theorem d3_14 : decode prog_43_method_16_code 14 = .ok (.if_icmp .ne 6, 3) := by decide +kernel
theorem d3_17 : decode prog_43_method_16_code 17 = .ok (.iload 4, 2) := by decide +kernel
theorem d3_19 : decode prog_43_method_16_code 19 = .ok (.ireturn, 1) := by decide +kernel
theorem d3_20 : decode prog_43_method_16_code 20 = .ok (.iinc 4 1, 3) := by decide +kernel
theorem d3_23 : decode prog_43_method_16_code 23 = .ok (.goto (-20), 3) := by decide +kernel
theorem d3_26 : decode prog_43_method_16_code 26 = .ok (.iconst (-1), 1) := by decide +kernel
theorem d3_27 : decode prog_43_method_16_code 27 = .ok (.ireturn, 1) := by decide +kernel
theorem pn_3 : plainName "com/example/throttle/throttle/app/HttpRequest" = true := by first | (simp [plainName, overriddenIn]; done) | decide +kernel
theorem ef_3 (m : MethodId) (a : Addr) (p2 : Int32) (p3 : Int32) : entryFrame m #[(.ref a), (.int (10 : Int32)), (.int p2), (.int p3)] 5 = mkF m 0 #[.val (.ref a), .val (.int (10 : Int32)), .val (.int p2), .val (.int p3), .unset] [] := by first | (simp [entryFrame, mkF, argsToLocals, Value.category]; done) | rfl
def Q3 (Z : State) (a : Addr) (p2 : Int32) (p3 : Int32) (f : Int → Int32) (h0 : Heap) (n0 : Nat) (v : Option Value) (h : Heap) (L : List Loc) : Prop := Fr n0 L ∧ h = h0 ∧ (∃ z : Int32, v = some (.int z) ∧ ((z.toInt = -1 ∧ ∀ j : Int, p2.toInt ≤ j → j < p3.toInt → ¬ (f j).toInt = 10) ∨ (p2.toInt ≤ z.toInt ∧ z.toInt < p3.toInt ∧ (f z.toInt).toInt = 10 ∧ ∀ j : Int, p2.toInt ≤ j → j < z.toInt → ¬ (f j).toInt = 10)))
set_option maxRecDepth 65536 in
set_option maxHeartbeats 40000000 in
theorem rm3 (l : Launch) (Z : State) (a0 : Array Value) (hw : ∀ d ∈ tables_1, d.before a0 Z = true) (ws : List Jvm.Cond) (a : Addr) (p2 : Int32) (p3 : Int32) (f : Int → Int32) (h0 : Heap) (n0 : Nat) (Zs : n0 ≤ h0.size) (A_a : AF Z h0 a .byte 6 f) (hp : 0 ≤ p2.toInt ∧ p2.toInt ≤ 6 ∧ p3.toInt ≤ 6) :
    MetFree l (⟨"com/example/throttle/throttle/app/HttpRequest", "indexOf", "([BCII)I"⟩ : MethodName) (head1 (Jvm.Cond.code (⟨"com/example/throttle/throttle/app/HttpRequest", "indexOf", "([BCII)I"⟩ : MethodName) prog_43_method_16_code 5 (some .int) :: ws) ({ frames := 0, cells := 0, slots := 0, locals := 0 } : Room)) (fun as' U => as' = #[(.ref a), (.int (10 : Int32)), (.int p2), (.int p3)] ∧ Z.Warmed39 U.vm ∧ U.heap = h0) (fun _ _ _ _ _ => True) (fun _ U o U' => ∃ v L, o = .returned v ∧ Q3 Z a p2 p3 f h0 n0 v U'.heap L ∧ FrameEnd U o U' L ({ frames := 0, cells := 0, slots := 0, locals := 0 } : Room).cells ({ frames := 0, cells := 0, slots := 0, locals := 0 } : Room).slots) := by
  refine MetFree.of_bodySF (plainFor_of_name pn_3) hisR ?_
  intro p e s m args below meth c s₁ Bd hml0 hP hK
  obtain ⟨rfl, hZ, hh⟩ := hP
  have hx := Bd.exec
  have hby := Bd.bytes
  have hml : c.maxLocals = 5 := hml0
  have hown : s.vm.findClass "com/example/throttle/throttle/app/HttpRequest" = some m.cls := findClass_of_methodNamed Bd.named
  have hnm := (name_of_methodNamed Bd.named Bd.method).1
  have hlk : meth.locks = false := Bd.notSynchronized
  have X0 : Stand p l e ({ frames := 0, cells := 0, slots := 0, locals := 0 } : Room) s m #[(.ref a), (.int (10 : Int32)), (.int p2), (.int p3)] below meth c s₁ [] 0 0 := Stand.of_body Bd
  have e0 : s₁.heap = h0 := by rw [← hh, Bd.state]; rfl
  have Nf := Fr.nil n0
  refine (?_ : Win p.tables e below (PostQ s (Q3 Z a p2 p3 f h0 n0) ({ frames := 0, cells := 0, slots := 0, locals := 0 } : Room).cells ({ frames := 0, cells := 0, slots := 0, locals := 0 } : Room).slots) (s₁.setTop (entryFrame m #[(.ref a), (.int (10 : Int32)), (.int p2), (.int p3)] 5)))
  rw [ef_3]
  have lt_a : a < h0.size := A_a.lt
  show Win p.tables e below _ (s₁.setTop (mkF m 0 #[.val (.ref a), .val (.int (10 : Int32)), .val (.int p2), .val (.int p3), .unset] []))
  refine s_iloadN (pc' := 1) X0.here hx (hb hby d3_0) rfl rfl ?_
  refine s_istore (pc' := 3) (l' := #[.val (.ref a), .val (.int (10 : Int32)), .val (.int p2), .val (.int p3), .val (.int p2)]) X0.here hx (hb hby d3_1) rfl rfl ?_
  have LP3 : ∀ (fuel : Nat) (TL3 : State) (LL3 : List Loc), Stand p l e ({ frames := 0, cells := 0, slots := 0, locals := 0 } : Room) s m #[(.ref a), (.int (10 : Int32)), (.int p2), (.int p3)] below meth c TL3 LL3 0 0 → TL3.heap = h0 → Fr n0 LL3 → ∀ i : Int32, (p2.toInt ≤ i.toInt ∧ ∀ j : Int, p2.toInt ≤ j → j < i.toInt → ¬ (f j).toInt = 10) → ((p3.toInt - i.toInt).toNat) < fuel → Win p.tables e below (PostQ s (Q3 Z a p2 p3 f h0 n0) ({ frames := 0, cells := 0, slots := 0, locals := 0 } : Room).cells ({ frames := 0, cells := 0, slots := 0, locals := 0 } : Room).slots) (TL3.setTop (mkF m 3 #[.val (.ref a), .val (.int (10 : Int32)), .val (.int p2), .val (.int p3), .val (.int i)] [])) := by
    intro fuel
    induction fuel with
    | zero => intro _ _ _ _ _ _ _ hfu; exact absurd hfu (Nat.not_lt_zero _)
    | succ fuel ih3 =>
      intro TL3 LL3 XL3 eL3 Nf i hinv3 hfu3
      refine s_iload (pc' := 5) XL3.here hx (hb hby d3_3) rfl rfl ?_
      refine s_iloadN (pc' := 6) XL3.here hx (hb hby d3_5) rfl rfl ?_
      by_cases hc6_0 : (i).toInt < (p3).toInt
      · skip
        refine s_icmpNo (pc' := 9) XL3.here hx (hb hby d3_6) rfl (tltI (x := i) (y := p3) hc6_0).2.1 ?_
        obtain ⟨hi1, hi2⟩ := id hinv3
        refine s_aloadN (pc' := 10) XL3.here hx (hb hby d3_9) rfl rfl rfl ?_
        refine s_iload (pc' := 12) XL3.here hx (hb hby d3_10) rfl rfl ?_
        obtain ⟨cl_1, Ar_1, S_1, G_1⟩ := id A_a
        have hb_1 : 0 ≤ (i).toInt ∧ (i).toInt < 6 := by omega
        refine Win.go (fun _ k => XL3.baloadBytes hx (j := i) (v := (.int (f (i).toInt))) (by rw [eL3]; exact Ar_1.1) (State.isArrayOf_alike hZ.alike Ar_1.2.1) Ar_1.2.2 (AF.inb S_1 hb_1) (G_1 _ hb_1.1 hb_1.2) (g := (mkF m 12 #[.val (.ref a), .val (.int (10 : Int32)), .val (.int p2), .val (.int p3), .val (.int i)] [(.int i), (.ref a)])) rfl rfl (hb hby d3_12) _ k) ?_
        show Win p.tables e below _ (TL3.setTop (mkF m 13 #[.val (.ref a), .val (.int (10 : Int32)), .val (.int p2), .val (.int p3), .val (.int i)] [(.int (f (i).toInt))]))
        clear Ar_1 S_1 G_1 hb_1
        refine s_iloadN (pc' := 14) XL3.here hx (hb hby d3_13) rfl rfl ?_
        by_cases hc14_1 : ((f (i).toInt)).toInt = (10 : Int)
        · skip
          refine s_icmpNo (pc' := 17) XL3.here hx (hb hby d3_14) rfl (teqI (x := (f (i).toInt)) (y := (10 : Int32)) hc14_1).2 ?_
          refine s_iload (pc' := 19) XL3.here hx (hb hby d3_17) rfl rfl ?_
          refine winI XL3 hx hlk eL3 Bd.returns (hb hby d3_19) (by decide) (by decide) ?_
          refine ⟨Nf, rfl, _, rfl, ?_⟩
          exact Or.inr ⟨by omega, by omega, by assumption, hi2⟩
        · skip
          refine s_icmpYes (pc' := 20) XL3.here hx (hb hby d3_14) (feqI (x := (f (i).toInt)) (y := (10 : Int32)) hc14_1).2 (by decide) (by decide) ?_
          have ei := c_iadd i 1
          have er := rng32 (i + 1)
          have e1 : (1 : Int32).toInt = 1 := rfl
          refine Win.go (fun _ k => XS.iinc XL3.here hx rfl (hb hby d3_20) rfl (l' := #[.val (.ref a), .val (.int (10 : Int32)), .val (.int p2), .val (.int p3), .val (.int (i + (1 : Int32)))]) rfl k) ?_
          show Win p.tables e below _ (TL3.setTop (mkF m 23 #[.val (.ref a), .val (.int (10 : Int32)), .val (.int p2), .val (.int p3), .val (.int (i + (1 : Int32)))] []))
          refine s_goto (pc' := 3) XL3.here hx (hb hby d3_23) (by decide) (by decide) ?_
          exact ih3 _ _ XL3 eL3 Nf (i + (1 : Int32)) (by exact ⟨by omega, fun j h1 h2 => by rcases (by omega : j < i.toInt ∨ j = i.toInt) with q | rfl; exact hinv3.2 j h1 q; assumption⟩) (by omega)
      · skip
        refine s_icmpYes (pc' := 26) XL3.here hx (hb hby d3_6) (fltI (x := i) (y := p3) hc6_0).2.1 (by decide) (by decide) ?_
        refine s_iconst (pc' := 27) (z := (-1 : Int32)) XL3.here hx (hb hby d3_26) rfl rfl ?_
        refine winI XL3 hx hlk eL3 Bd.returns (hb hby d3_27) (by decide) (by decide) ?_
        refine ⟨Nf, rfl, _, rfl, ?_⟩
        exact Or.inl ⟨rfl, fun j h1 h2 => hinv3.2 j h1 (by omega)⟩
  exact LP3 (((p3.toInt - (p2).toInt).toNat) + 1) _ _ X0 e0 Nf p2 (by exact ⟨by omega, fun j h1 h2 => by omega⟩) (Nat.lt_succ_self _)
theorem d2_0 : decode prog_43_method_2_code 0 = .ok (.aload_n 0, 1) := by decide +kernel
theorem d2_1 : decode prog_43_method_2_code 1 = .ok (.bipush 10, 2) := by decide +kernel
theorem d2_3 : decode prog_43_method_2_code 3 = .ok (.iload_n 1, 1) := by decide +kernel
theorem d2_4 : decode prog_43_method_2_code 4 = .ok (.iload_n 2, 1) := by decide +kernel
theorem d2_5 : decode prog_43_method_2_code 5 = .ok (.invokestatic 60, 3) := by decide +kernel
theorem d2_8 : decode prog_43_method_2_code 8 = .ok (.istore_n 3, 1) := by decide +kernel
theorem d2_9 : decode prog_43_method_2_code 9 = .ok (.iload_n 3, 1) := by decide +kernel
theorem d2_10 : decode prog_43_method_2_code 10 = .ok (.ifCond .lt 69, 3) := by decide +kernel
theorem d2_13 : decode prog_43_method_2_code 13 = .ok (.iload_n 3, 1) := by decide +kernel
theorem d2_14 : decode prog_43_method_2_code 14 = .ok (.iconst 1, 1) := by decide +kernel
theorem d2_15 : decode prog_43_method_2_code 15 = .ok (.iadd, 1) := by decide +kernel
theorem d2_16 : decode prog_43_method_2_code 16 = .ok (.iload_n 2, 1) := by decide +kernel
theorem d2_17 : decode prog_43_method_2_code 17 = .ok (.if_icmp .ge 17, 3) := by decide +kernel
theorem d2_20 : decode prog_43_method_2_code 20 = .ok (.aload_n 0, 1) := by decide +kernel
theorem d2_21 : decode prog_43_method_2_code 21 = .ok (.iload_n 3, 1) := by decide +kernel
theorem d2_22 : decode prog_43_method_2_code 22 = .ok (.iconst 1, 1) := by decide +kernel
theorem d2_23 : decode prog_43_method_2_code 23 = .ok (.iadd, 1) := by decide +kernel
theorem d2_24 : decode prog_43_method_2_code 24 = .ok (.baload, 1) := by decide +kernel
theorem d2_25 : decode prog_43_method_2_code 25 = .ok (.bipush 10, 2) := by decide +kernel
theorem d2_27 : decode prog_43_method_2_code 27 = .ok (.if_icmp .ne 7, 3) := by decide +kernel
theorem d2_30 : decode prog_43_method_2_code 30 = .ok (.iload_n 3, 1) := by decide +kernel
theorem d2_31 : decode prog_43_method_2_code 31 = .ok (.iconst 2, 1) := by decide +kernel
theorem d2_32 : decode prog_43_method_2_code 32 = .ok (.iadd, 1) := by decide +kernel
theorem d2_33 : decode prog_43_method_2_code 33 = .ok (.ireturn, 1) := by decide +kernel
theorem d2_34 : decode prog_43_method_2_code 34 = .ok (.iload_n 3, 1) := by decide +kernel
theorem d2_35 : decode prog_43_method_2_code 35 = .ok (.iconst 2, 1) := by decide +kernel
theorem d2_36 : decode prog_43_method_2_code 36 = .ok (.iadd, 1) := by decide +kernel
theorem d2_37 : decode prog_43_method_2_code 37 = .ok (.iload_n 2, 1) := by decide +kernel
theorem d2_38 : decode prog_43_method_2_code 38 = .ok (.if_icmp .ge 27, 3) := by decide +kernel
theorem d2_41 : decode prog_43_method_2_code 41 = .ok (.aload_n 0, 1) := by decide +kernel
theorem d2_42 : decode prog_43_method_2_code 42 = .ok (.iload_n 3, 1) := by decide +kernel
theorem d2_43 : decode prog_43_method_2_code 43 = .ok (.iconst 1, 1) := by decide +kernel
theorem d2_44 : decode prog_43_method_2_code 44 = .ok (.iadd, 1) := by decide +kernel
theorem d2_45 : decode prog_43_method_2_code 45 = .ok (.baload, 1) := by decide +kernel
theorem d2_46 : decode prog_43_method_2_code 46 = .ok (.bipush 13, 2) := by decide +kernel
theorem d2_48 : decode prog_43_method_2_code 48 = .ok (.if_icmp .ne 17, 3) := by decide +kernel
theorem d2_51 : decode prog_43_method_2_code 51 = .ok (.aload_n 0, 1) := by decide +kernel
theorem d2_52 : decode prog_43_method_2_code 52 = .ok (.iload_n 3, 1) := by decide +kernel
theorem d2_53 : decode prog_43_method_2_code 53 = .ok (.iconst 2, 1) := by decide +kernel
theorem d2_54 : decode prog_43_method_2_code 54 = .ok (.iadd, 1) := by decide +kernel
theorem d2_55 : decode prog_43_method_2_code 55 = .ok (.baload, 1) := by decide +kernel
theorem d2_56 : decode prog_43_method_2_code 56 = .ok (.bipush 10, 2) := by decide +kernel
theorem d2_58 : decode prog_43_method_2_code 58 = .ok (.if_icmp .ne 7, 3) := by decide +kernel
theorem d2_61 : decode prog_43_method_2_code 61 = .ok (.iload_n 3, 1) := by decide +kernel
theorem d2_62 : decode prog_43_method_2_code 62 = .ok (.iconst 3, 1) := by decide +kernel
theorem d2_63 : decode prog_43_method_2_code 63 = .ok (.iadd, 1) := by decide +kernel
theorem d2_64 : decode prog_43_method_2_code 64 = .ok (.ireturn, 1) := by decide +kernel
theorem d2_65 : decode prog_43_method_2_code 65 = .ok (.aload_n 0, 1) := by decide +kernel
theorem d2_66 : decode prog_43_method_2_code 66 = .ok (.bipush 10, 2) := by decide +kernel
theorem d2_68 : decode prog_43_method_2_code 68 = .ok (.iload_n 3, 1) := by decide +kernel
theorem d2_69 : decode prog_43_method_2_code 69 = .ok (.iconst 1, 1) := by decide +kernel
theorem d2_70 : decode prog_43_method_2_code 70 = .ok (.iadd, 1) := by decide +kernel
theorem d2_71 : decode prog_43_method_2_code 71 = .ok (.iload_n 2, 1) := by decide +kernel
theorem d2_72 : decode prog_43_method_2_code 72 = .ok (.invokestatic 60, 3) := by decide +kernel
theorem d2_75 : decode prog_43_method_2_code 75 = .ok (.istore_n 3, 1) := by decide +kernel
theorem d2_76 : decode prog_43_method_2_code 76 = .ok (.goto (-67), 3) := by decide +kernel
theorem d2_79 : decode prog_43_method_2_code 79 = .ok (.iconst (-1), 1) := by decide +kernel
theorem d2_80 : decode prog_43_method_2_code 80 = .ok (.ireturn, 1) := by decide +kernel
theorem pd_0 : parseMethodDescriptor "([BCII)I" = some ⟨[(.array .byte), .char, .int, .int], some .int⟩ := by decide +kernel
theorem ef_2 (m : MethodId) (a : Addr) (p1 : Int32) (p2 : Int32) : entryFrame m #[(.ref a), (.int p1), (.int p2)] 4 = mkF m 0 #[.val (.ref a), .val (.int p1), .val (.int p2), .unset] [] := by first | (simp [entryFrame, mkF, argsToLocals, Value.category]; done) | rfl
def Q2 (Z : State) (a : Addr) (p1 : Int32) (p2 : Int32) (f : Int → Int32) (h0 : Heap) (n0 : Nat) (v : Option Value) (h : Heap) (L : List Loc) : Prop := Fr n0 L ∧ h = h0 ∧ (∃ z : Int32, v = some (.int z) ∧ ((z.toInt = -1 ∧ ∀ j : Int, p1.toInt ≤ j → ¬ Gd f p2.toInt j) ∨ (∃ j : Int, p1.toInt ≤ j ∧ Gd f p2.toInt j ∧ (∀ i : Int, p1.toInt ≤ i → i < j → ¬ Gd f p2.toInt i) ∧ (((f (j + 1)).toInt = 10 ∧ z.toInt = j + 2) ∨ (¬ (f (j + 1)).toInt = 10 ∧ z.toInt = j + 3)))))
set_option maxRecDepth 65536 in
set_option maxHeartbeats 40000000 in
theorem rm2 (l : Launch) (Z : State) (a0 : Array Value) (hw : ∀ d ∈ tables_1, d.before a0 Z = true) (ws : List Jvm.Cond) (a : Addr) (p1 : Int32) (p2 : Int32) (f : Int → Int32) (h0 : Heap) (n0 : Nat) (Zs : n0 ≤ h0.size) (A_a : AF Z h0 a .byte 6 f) (hp : 0 ≤ p1.toInt ∧ p1.toInt ≤ 6 ∧ p2.toInt ≤ 6) :
    MetFree l (⟨"com/example/throttle/throttle/app/HttpRequest", "headEnd", "([BII)I"⟩ : MethodName) (head1 (Jvm.Cond.code (⟨"com/example/throttle/throttle/app/HttpRequest", "headEnd", "([BII)I"⟩ : MethodName) prog_43_method_2_code 4 (some .int) :: ws) ({ frames := 1, cells := 0, slots := 0, locals := 16 } : Room)) (fun as' U => as' = #[(.ref a), (.int p1), (.int p2)] ∧ Z.Warmed39 U.vm ∧ U.heap = h0) (fun _ _ _ _ _ => True) (fun _ U o U' => ∃ v L, o = .returned v ∧ Q2 Z a p1 p2 f h0 n0 v U'.heap L ∧ FrameEnd U o U' L ({ frames := 1, cells := 0, slots := 0, locals := 16 } : Room).cells ({ frames := 1, cells := 0, slots := 0, locals := 16 } : Room).slots) := by
  refine MetFree.of_bodySF (plainFor_of_name pn_3) hisR ?_
  intro p e s m args below meth c s₁ Bd hml0 hP hK
  obtain ⟨rfl, hZ, hh⟩ := hP
  have hx := Bd.exec
  have hby := Bd.bytes
  have hml : c.maxLocals = 4 := hml0
  have hown : s.vm.findClass "com/example/throttle/throttle/app/HttpRequest" = some m.cls := findClass_of_methodNamed Bd.named
  have hnm := (name_of_methodNamed Bd.named Bd.method).1
  have hlk : meth.locks = false := Bd.notSynchronized
  have X0 : Stand p l e ({ frames := 1, cells := 0, slots := 0, locals := 16 } : Room) s m #[(.ref a), (.int p1), (.int p2)] below meth c s₁ [] 0 0 := Stand.of_body Bd
  have e0 : s₁.heap = h0 := by rw [← hh, Bd.state]; rfl
  have Nf := Fr.nil n0
  refine (?_ : Win p.tables e below (PostQ s (Q2 Z a p1 p2 f h0 n0) ({ frames := 1, cells := 0, slots := 0, locals := 16 } : Room).cells ({ frames := 1, cells := 0, slots := 0, locals := 16 } : Room).slots) (s₁.setTop (entryFrame m #[(.ref a), (.int p1), (.int p2)] 4)))
  rw [ef_2]
  have lt_a : a < h0.size := A_a.lt
  show Win p.tables e below _ (s₁.setTop (mkF m 0 #[.val (.ref a), .val (.int p1), .val (.int p2), .unset] []))
  refine s_aloadN (pc' := 1) X0.here hx (hb hby d2_0) rfl rfl rfl ?_
  refine s_bipush (pc' := 3) (z := (10 : Int32)) X0.here hx (hb hby d2_1) rfl rfl ?_
  refine s_iloadN (pc' := 4) X0.here hx (hb hby d2_3) rfl rfl ?_
  refine s_iloadN (pc' := 5) X0.here hx (hb hby d2_4) rfl rfl ?_
  obtain ⟨_, _, ⟨T_2, L_2, k_2, n_2⟩, -, X_2, ⟨Lc_2, hQ_2, l_2, y_2, z_2⟩, st_2⟩ := Jvm.LawKit.callS X0 hx (y := (⟨"com/example/throttle/throttle/app/HttpRequest", "indexOf", "([BCII)I"⟩ : MethodName)) hown (mvT hZ (hw _ (List.mem_of_getElem? (i := 11) rfl))) (mvT hZ (hw _ (List.mem_of_getElem? (i := 12) rfl))) (mvT hZ (hw _ (List.mem_of_getElem? (i := 9) rfl))) (mvT hZ (hw _ (List.mem_of_getElem? (i := 13) rfl))) (by decide) (backOf (W := 0) (rm3 l Z a0 hw [] a p1 p2 f h0 n0 Zs A_a (by omega)) hZ (hw _ (List.mem_of_getElem? (i := 13) rfl)) (hw _ (List.mem_of_getElem? (i := 9) rfl)) (by decide) (by decide)) (g := (mkF m 5 #[.val (.ref a), .val (.int p1), .val (.int p2), .unset] [(.int p2), (.int p1), (.int (10 : Int32)), (.ref a)])) rfl (by rw [hml]; rfl) (argsL := [(.ref a), (.int (10 : Int32)), (.int p1), (.int p2)]) (rest := []) (lenOf pd_0 rfl) rfl (by show 2 * 0 + _ ≤ _; exact Nat.le_of_eq rfl) (hb hby d2_5) (fun _ _ => ⟨rfl, e0, (by decide : 0 + 0 ≤ _), (by decide : 0 + 0 ≤ _)⟩)
  dsimp only [Pt.U, Pt.locs, Pt.cells, Pt.slots] at X_2 l_2 y_2 z_2 st_2 hQ_2
  subst l_2 y_2 z_2
  obtain ⟨Nq_2, e_2, r1, rfl, hr1⟩ := hQ_2
  replace Nf := Fr.app Nf Nq_2
  refine Win.go st_2 ?_
  clear st_2 Nq_2 X0 e0
  show Win p.tables e below _ (T_2.setTop (mkF m 8 #[.val (.ref a), .val (.int p1), .val (.int p2), .unset] [(.int r1)]))
  refine s_istoreN (pc' := 9) (l' := #[.val (.ref a), .val (.int p1), .val (.int p2), .val (.int r1)]) X_2.here hx (hb hby d2_8) rfl rfl ?_
  have LP9 : ∀ (fuel : Nat) (TL9 : State) (LL9 : List Loc), Stand p l e ({ frames := 1, cells := 0, slots := 0, locals := 16 } : Room) s m #[(.ref a), (.int p1), (.int p2)] below meth c TL9 LL9 0 0 → TL9.heap = h0 → Fr n0 LL9 → ∀ pz : Int32, ((pz.toInt = -1 ∧ ∀ j : Int, p1.toInt ≤ j → ¬ Gd f p2.toInt j) ∨ (p1.toInt ≤ pz.toInt ∧ pz.toInt < p2.toInt ∧ (f pz.toInt).toInt = 10 ∧ ∀ j : Int, p1.toInt ≤ j → j < pz.toInt → ¬ Gd f p2.toInt j)) → (own_m pz.toInt) < fuel → Win p.tables e below (PostQ s (Q2 Z a p1 p2 f h0 n0) ({ frames := 1, cells := 0, slots := 0, locals := 16 } : Room).cells ({ frames := 1, cells := 0, slots := 0, locals := 16 } : Room).slots) (TL9.setTop (mkF m 9 #[.val (.ref a), .val (.int p1), .val (.int p2), .val (.int pz)] [])) := by
    intro fuel
    induction fuel with
    | zero => intro _ _ _ _ _ _ _ hfu; exact absurd hfu (Nat.not_lt_zero _)
    | succ fuel ih9 =>
      intro TL9 LL9 XL9 eL9 Nf pz hinv9 hfu9
      refine s_iloadN (pc' := 10) XL9.here hx (hb hby d2_9) rfl rfl ?_
      by_cases hc10_0 : (pz).toInt < (0 : Int)
      · skip
        refine s_ifYes (pc' := 79) XL9.here hx (hb hby d2_10) ((if0 _ _).trans (tltI (x := pz) (y := (0 : Int32)) hc10_0).1) (by decide) (by decide) ?_
        refine s_iconst (pc' := 80) (z := (-1 : Int32)) XL9.here hx (hb hby d2_79) rfl rfl ?_
        refine winI XL9 hx hlk eL9 Bd.returns (hb hby d2_80) (by decide) (by decide) ?_
        refine ⟨Nf, rfl, _, rfl, Or.inl ⟨rfl, ?_⟩⟩
        rcases hinv9 with q | q
        · exact q.2
        · omega
      · skip
        refine s_ifNo (pc' := 13) XL9.here hx (hb hby d2_10) rfl ((if0 _ _).trans (fltI (x := pz) (y := (0 : Int32)) hc10_0).1) ?_
        obtain ⟨g1, g2, g3, g4⟩ : p1.toInt ≤ pz.toInt ∧ pz.toInt < p2.toInt ∧ (f pz.toInt).toInt = 10 ∧ ∀ j : Int, p1.toInt ≤ j → j < pz.toInt → ¬ Gd f p2.toInt j := by
          rcases hinv9 with q | q
          · omega
          · exact q
        have i1 : (pz + (1 : Int32)).toInt = pz.toInt + 1 := by have := c_iadd pz 1; have := rng32 (pz + 1); have : (1 : Int32).toInt = 1 := rfl; omega
        have i2 : (pz + (2 : Int32)).toInt = pz.toInt + 2 := by have := c_iadd pz 2; have := rng32 (pz + 2); have : (2 : Int32).toInt = 2 := rfl; omega
        have i3 : (pz + (3 : Int32)).toInt = pz.toInt + 3 := by have := c_iadd pz 3; have := rng32 (pz + 3); have : (3 : Int32).toInt = 3 := rfl; omega
        have J65 : (¬ Gd f p2.toInt pz.toInt) → Win p.tables e below (PostQ s (Q2 Z a p1 p2 f h0 n0) ({ frames := 1, cells := 0, slots := 0, locals := 16 } : Room).cells ({ frames := 1, cells := 0, slots := 0, locals := 16 } : Room).slots) (TL9.setTop (mkF m 65 #[.val (.ref a), .val (.int p1), .val (.int p2), .val (.int pz)] [])) := by
          intro  hJ65
          refine s_aloadN (pc' := 66) XL9.here hx (hb hby d2_65) rfl rfl rfl ?_
          refine s_bipush (pc' := 68) (z := (10 : Int32)) XL9.here hx (hb hby d2_66) rfl rfl ?_
          refine s_iloadN (pc' := 69) XL9.here hx (hb hby d2_68) rfl rfl ?_
          refine s_iconst (pc' := 70) (z := (1 : Int32)) XL9.here hx (hb hby d2_69) rfl rfl ?_
          refine s_iadd (pc' := 71) XL9.here hx (hb hby d2_70) rfl ?_
          refine s_iloadN (pc' := 72) XL9.here hx (hb hby d2_71) rfl rfl ?_
          obtain ⟨_, _, ⟨T_3, L_3, k_3, n_3⟩, -, X_3, ⟨Lc_3, hQ_3, l_3, y_3, z_3⟩, st_3⟩ := Jvm.LawKit.callS XL9 hx (y := (⟨"com/example/throttle/throttle/app/HttpRequest", "indexOf", "([BCII)I"⟩ : MethodName)) hown (mvT hZ (hw _ (List.mem_of_getElem? (i := 11) rfl))) (mvT hZ (hw _ (List.mem_of_getElem? (i := 12) rfl))) (mvT hZ (hw _ (List.mem_of_getElem? (i := 9) rfl))) (mvT hZ (hw _ (List.mem_of_getElem? (i := 13) rfl))) (by decide) (backOf (W := 0) (rm3 l Z a0 hw [] a (pz + (1 : Int32)) p2 f h0 n0 Zs A_a (by omega)) hZ (hw _ (List.mem_of_getElem? (i := 13) rfl)) (hw _ (List.mem_of_getElem? (i := 9) rfl)) (by decide) (by decide)) (g := (mkF m 72 #[.val (.ref a), .val (.int p1), .val (.int p2), .val (.int pz)] [(.int p2), (.int (pz + (1 : Int32))), (.int (10 : Int32)), (.ref a)])) rfl (by rw [hml]; rfl) (argsL := [(.ref a), (.int (10 : Int32)), (.int (pz + (1 : Int32))), (.int p2)]) (rest := []) (lenOf pd_0 rfl) rfl (by show 2 * 0 + _ ≤ _; exact Nat.le_of_eq rfl) (hb hby d2_72) (fun _ _ => ⟨rfl, eL9, (by decide : 0 + 0 ≤ _), (by decide : 0 + 0 ≤ _)⟩)
          dsimp only [Pt.U, Pt.locs, Pt.cells, Pt.slots] at X_3 l_3 y_3 z_3 st_3 hQ_3
          subst l_3 y_3 z_3
          obtain ⟨Nq_3, e_3, r2, rfl, hr2⟩ := hQ_3
          replace Nf := Fr.app Nf Nq_3
          refine Win.go st_3 ?_
          clear st_3 Nq_3 XL9 eL9
          show Win p.tables e below _ (T_3.setTop (mkF m 75 #[.val (.ref a), .val (.int p1), .val (.int p2), .val (.int pz)] [(.int r2)]))
          rw [i1] at hr2
          refine s_istoreN (pc' := 76) (l' := #[.val (.ref a), .val (.int p1), .val (.int p2), .val (.int r2)]) X_3.here hx (hb hby d2_75) rfl rfl ?_
          refine s_goto (pc' := 9) X_3.here hx (hb hby d2_76) (by decide) (by decide) ?_
          exact ih9 _ _ X_3 e_3 Nf r2 (by rcases hr2 with q | q; exact Or.inl ⟨q.1, fun j h1 h2 => by rcases (by omega : j < pz.toInt ∨ j = pz.toInt ∨ (pz.toInt + 1 ≤ j ∧ j < p2.toInt) ∨ p2.toInt ≤ j) with u | rfl | u | u; exact g4 j h1 u h2; exact hJ65 h2; exact q.2 j (by omega) u.2 h2.1; obtain ⟨-, ⟨v, -⟩ | ⟨v, -⟩⟩ := h2 <;> omega⟩; exact Or.inr ⟨by omega, q.2.1, q.2.2.1, fun j h1 h2 h3 => by rcases (by omega : j < pz.toInt ∨ j = pz.toInt ∨ pz.toInt + 1 ≤ j) with u | rfl | u; exact g4 j h1 u h3; exact hJ65 h3; exact q.2.2.2 j (by omega) h2 h3.1⟩) (by unfold own_m at *; split <;> split at hfu9 <;> omega)
        refine s_iloadN (pc' := 14) XL9.here hx (hb hby d2_13) rfl rfl ?_
        refine s_iconst (pc' := 15) (z := (1 : Int32)) XL9.here hx (hb hby d2_14) rfl rfl ?_
        refine s_iadd (pc' := 16) XL9.here hx (hb hby d2_15) rfl ?_
        refine s_iloadN (pc' := 17) XL9.here hx (hb hby d2_16) rfl rfl ?_
        by_cases hc17_2 : ((pz + (1 : Int32))).toInt < (p2).toInt
        · skip
          refine s_icmpNo (pc' := 20) XL9.here hx (hb hby d2_17) rfl (tltI (x := (pz + (1 : Int32))) (y := p2) hc17_2).2.1 ?_
          refine s_aloadN (pc' := 21) XL9.here hx (hb hby d2_20) rfl rfl rfl ?_
          refine s_iloadN (pc' := 22) XL9.here hx (hb hby d2_21) rfl rfl ?_
          refine s_iconst (pc' := 23) (z := (1 : Int32)) XL9.here hx (hb hby d2_22) rfl rfl ?_
          refine s_iadd (pc' := 24) XL9.here hx (hb hby d2_23) rfl ?_
          obtain ⟨cl_4, Ar_4, S_4, G_4⟩ := id A_a
          have hb_4 : 0 ≤ ((pz + (1 : Int32))).toInt ∧ ((pz + (1 : Int32))).toInt < 6 := by omega
          refine Win.go (fun _ k => XL9.baloadBytes hx (j := (pz + (1 : Int32))) (v := (.int (f ((pz + (1 : Int32))).toInt))) (by rw [eL9]; exact Ar_4.1) (State.isArrayOf_alike hZ.alike Ar_4.2.1) Ar_4.2.2 (AF.inb S_4 hb_4) (G_4 _ hb_4.1 hb_4.2) (g := (mkF m 24 #[.val (.ref a), .val (.int p1), .val (.int p2), .val (.int pz)] [(.int (pz + (1 : Int32))), (.ref a)])) rfl rfl (hb hby d2_24) _ k) ?_
          show Win p.tables e below _ (TL9.setTop (mkF m 25 #[.val (.ref a), .val (.int p1), .val (.int p2), .val (.int pz)] [(.int (f ((pz + (1 : Int32))).toInt))]))
          clear Ar_4 S_4 G_4 hb_4
          generalize hb1 : (f ((pz + (1 : Int32))).toInt) = b1
          show Win p.tables e below _ (TL9.setTop (mkF m 25 #[.val (.ref a), .val (.int p1), .val (.int p2), .val (.int pz)] [(.int b1)]))
          rw [i1] at hb1
          refine s_bipush (pc' := 27) (z := (10 : Int32)) XL9.here hx (hb hby d2_25) rfl rfl ?_
          by_cases hc27_3 : (b1).toInt = (10 : Int)
          · skip
            refine s_icmpNo (pc' := 30) XL9.here hx (hb hby d2_27) rfl (teqI (x := b1) (y := (10 : Int32)) hc27_3).2 ?_
            refine s_iloadN (pc' := 31) XL9.here hx (hb hby d2_30) rfl rfl ?_
            refine s_iconst (pc' := 32) (z := (2 : Int32)) XL9.here hx (hb hby d2_31) rfl rfl ?_
            refine s_iadd (pc' := 33) XL9.here hx (hb hby d2_32) rfl ?_
            refine winI XL9 hx hlk eL9 Bd.returns (hb hby d2_33) (by decide) (by decide) ?_
            refine ⟨Nf, rfl, _, rfl, Or.inr ⟨pz.toInt, g1, ⟨g3, Or.inl ⟨by omega, by rw [hb1]; omega⟩⟩, g4, Or.inl ⟨by rw [hb1]; omega, i2⟩⟩⟩
          · skip
            refine s_icmpYes (pc' := 34) XL9.here hx (hb hby d2_27) (feqI (x := b1) (y := (10 : Int32)) hc27_3).2 (by decide) (by decide) ?_
            refine s_iloadN (pc' := 35) XL9.here hx (hb hby d2_34) rfl rfl ?_
            refine s_iconst (pc' := 36) (z := (2 : Int32)) XL9.here hx (hb hby d2_35) rfl rfl ?_
            refine s_iadd (pc' := 37) XL9.here hx (hb hby d2_36) rfl ?_
            refine s_iloadN (pc' := 38) XL9.here hx (hb hby d2_37) rfl rfl ?_
            by_cases hc38_4 : ((pz + (2 : Int32))).toInt < (p2).toInt
            · skip
              refine s_icmpNo (pc' := 41) XL9.here hx (hb hby d2_38) rfl (tltI (x := (pz + (2 : Int32))) (y := p2) hc38_4).2.1 ?_
              refine s_aloadN (pc' := 42) XL9.here hx (hb hby d2_41) rfl rfl rfl ?_
              refine s_iloadN (pc' := 43) XL9.here hx (hb hby d2_42) rfl rfl ?_
              refine s_iconst (pc' := 44) (z := (1 : Int32)) XL9.here hx (hb hby d2_43) rfl rfl ?_
              refine s_iadd (pc' := 45) XL9.here hx (hb hby d2_44) rfl ?_
              obtain ⟨cl_5, Ar_5, S_5, G_5⟩ := id A_a
              have hb_5 : 0 ≤ ((pz + (1 : Int32))).toInt ∧ ((pz + (1 : Int32))).toInt < 6 := by omega
              refine Win.go (fun _ k => XL9.baloadBytes hx (j := (pz + (1 : Int32))) (v := (.int (f ((pz + (1 : Int32))).toInt))) (by rw [eL9]; exact Ar_5.1) (State.isArrayOf_alike hZ.alike Ar_5.2.1) Ar_5.2.2 (AF.inb S_5 hb_5) (G_5 _ hb_5.1 hb_5.2) (g := (mkF m 45 #[.val (.ref a), .val (.int p1), .val (.int p2), .val (.int pz)] [(.int (pz + (1 : Int32))), (.ref a)])) rfl rfl (hb hby d2_45) _ k) ?_
              show Win p.tables e below _ (TL9.setTop (mkF m 46 #[.val (.ref a), .val (.int p1), .val (.int p2), .val (.int pz)] [(.int (f ((pz + (1 : Int32))).toInt))]))
              clear Ar_5 S_5 G_5 hb_5
              generalize hb2 : (f ((pz + (1 : Int32))).toInt) = b2
              show Win p.tables e below _ (TL9.setTop (mkF m 46 #[.val (.ref a), .val (.int p1), .val (.int p2), .val (.int pz)] [(.int b2)]))
              rw [i1] at hb2
              refine s_bipush (pc' := 48) (z := (13 : Int32)) XL9.here hx (hb hby d2_46) rfl rfl ?_
              by_cases hc48_5 : (b2).toInt = (13 : Int)
              · skip
                refine s_icmpNo (pc' := 51) XL9.here hx (hb hby d2_48) rfl (teqI (x := b2) (y := (13 : Int32)) hc48_5).2 ?_
                refine s_aloadN (pc' := 52) XL9.here hx (hb hby d2_51) rfl rfl rfl ?_
                refine s_iloadN (pc' := 53) XL9.here hx (hb hby d2_52) rfl rfl ?_
                refine s_iconst (pc' := 54) (z := (2 : Int32)) XL9.here hx (hb hby d2_53) rfl rfl ?_
                refine s_iadd (pc' := 55) XL9.here hx (hb hby d2_54) rfl ?_
                obtain ⟨cl_6, Ar_6, S_6, G_6⟩ := id A_a
                have hb_6 : 0 ≤ ((pz + (2 : Int32))).toInt ∧ ((pz + (2 : Int32))).toInt < 6 := by omega
                refine Win.go (fun _ k => XL9.baloadBytes hx (j := (pz + (2 : Int32))) (v := (.int (f ((pz + (2 : Int32))).toInt))) (by rw [eL9]; exact Ar_6.1) (State.isArrayOf_alike hZ.alike Ar_6.2.1) Ar_6.2.2 (AF.inb S_6 hb_6) (G_6 _ hb_6.1 hb_6.2) (g := (mkF m 55 #[.val (.ref a), .val (.int p1), .val (.int p2), .val (.int pz)] [(.int (pz + (2 : Int32))), (.ref a)])) rfl rfl (hb hby d2_55) _ k) ?_
                show Win p.tables e below _ (TL9.setTop (mkF m 56 #[.val (.ref a), .val (.int p1), .val (.int p2), .val (.int pz)] [(.int (f ((pz + (2 : Int32))).toInt))]))
                clear Ar_6 S_6 G_6 hb_6
                generalize hb3 : (f ((pz + (2 : Int32))).toInt) = b3
                show Win p.tables e below _ (TL9.setTop (mkF m 56 #[.val (.ref a), .val (.int p1), .val (.int p2), .val (.int pz)] [(.int b3)]))
                rw [i2] at hb3
                refine s_bipush (pc' := 58) (z := (10 : Int32)) XL9.here hx (hb hby d2_56) rfl rfl ?_
                by_cases hc58_6 : (b3).toInt = (10 : Int)
                · skip
                  refine s_icmpNo (pc' := 61) XL9.here hx (hb hby d2_58) rfl (teqI (x := b3) (y := (10 : Int32)) hc58_6).2 ?_
                  refine s_iloadN (pc' := 62) XL9.here hx (hb hby d2_61) rfl rfl ?_
                  refine s_iconst (pc' := 63) (z := (3 : Int32)) XL9.here hx (hb hby d2_62) rfl rfl ?_
                  refine s_iadd (pc' := 64) XL9.here hx (hb hby d2_63) rfl ?_
                  refine winI XL9 hx hlk eL9 Bd.returns (hb hby d2_64) (by decide) (by decide) ?_
                  refine ⟨Nf, rfl, _, rfl, Or.inr ⟨pz.toInt, g1, ⟨g3, Or.inr ⟨by omega, by rw [hb2]; omega, by rw [hb3]; omega⟩⟩, g4, Or.inr ⟨by rw [hb2]; omega, i3⟩⟩⟩
                · skip
                  refine s_icmpYes (pc' := 65) XL9.here hx (hb hby d2_58) (feqI (x := b3) (y := (10 : Int32)) hc58_6).2 (by decide) (by decide) ?_
                  exact J65  (by intro hg; obtain ⟨-, ⟨u, v⟩ | ⟨u, v, w⟩⟩ := hg <;> first | omega | (rw [hb1] at v; omega) | (rw [hb2] at v; omega) | (rw [hb2] at v; rw [hb3] at w; omega) | (rw [hb3] at w; omega))
              · skip
                refine s_icmpYes (pc' := 65) XL9.here hx (hb hby d2_48) (feqI (x := b2) (y := (13 : Int32)) hc48_5).2 (by decide) (by decide) ?_
                exact J65  (by intro hg; obtain ⟨-, ⟨u, v⟩ | ⟨u, v, w⟩⟩ := hg <;> first | omega | (rw [hb1] at v; omega) | (rw [hb2] at v; omega) | (rw [hb2] at v; rw [hb3] at w; omega) | (rw [hb3] at w; omega))
            · skip
              refine s_icmpYes (pc' := 65) XL9.here hx (hb hby d2_38) (fltI (x := (pz + (2 : Int32))) (y := p2) hc38_4).2.1 (by decide) (by decide) ?_
              exact J65  (by intro hg; obtain ⟨-, ⟨u, v⟩ | ⟨u, v, w⟩⟩ := hg <;> first | omega | (rw [hb1] at v; omega) | (rw [hb2] at v; omega) | (rw [hb2] at v; rw [hb3] at w; omega) | (rw [hb3] at w; omega))
        · skip
          refine s_icmpYes (pc' := 34) XL9.here hx (hb hby d2_17) (fltI (x := (pz + (1 : Int32))) (y := p2) hc17_2).2.1 (by decide) (by decide) ?_
          refine s_iloadN (pc' := 35) XL9.here hx (hb hby d2_34) rfl rfl ?_
          refine s_iconst (pc' := 36) (z := (2 : Int32)) XL9.here hx (hb hby d2_35) rfl rfl ?_
          refine s_iadd (pc' := 37) XL9.here hx (hb hby d2_36) rfl ?_
          refine s_iloadN (pc' := 38) XL9.here hx (hb hby d2_37) rfl rfl ?_
          by_cases hc38_3 : ((pz + (2 : Int32))).toInt < (p2).toInt
          · skip
            refine s_icmpNo (pc' := 41) XL9.here hx (hb hby d2_38) rfl (tltI (x := (pz + (2 : Int32))) (y := p2) hc38_3).2.1 ?_
            refine s_aloadN (pc' := 42) XL9.here hx (hb hby d2_41) rfl rfl rfl ?_
            refine s_iloadN (pc' := 43) XL9.here hx (hb hby d2_42) rfl rfl ?_
            refine s_iconst (pc' := 44) (z := (1 : Int32)) XL9.here hx (hb hby d2_43) rfl rfl ?_
            refine s_iadd (pc' := 45) XL9.here hx (hb hby d2_44) rfl ?_
            obtain ⟨cl_7, Ar_7, S_7, G_7⟩ := id A_a
            have hb_7 : 0 ≤ ((pz + (1 : Int32))).toInt ∧ ((pz + (1 : Int32))).toInt < 6 := by omega
            refine Win.go (fun _ k => XL9.baloadBytes hx (j := (pz + (1 : Int32))) (v := (.int (f ((pz + (1 : Int32))).toInt))) (by rw [eL9]; exact Ar_7.1) (State.isArrayOf_alike hZ.alike Ar_7.2.1) Ar_7.2.2 (AF.inb S_7 hb_7) (G_7 _ hb_7.1 hb_7.2) (g := (mkF m 45 #[.val (.ref a), .val (.int p1), .val (.int p2), .val (.int pz)] [(.int (pz + (1 : Int32))), (.ref a)])) rfl rfl (hb hby d2_45) _ k) ?_
            show Win p.tables e below _ (TL9.setTop (mkF m 46 #[.val (.ref a), .val (.int p1), .val (.int p2), .val (.int pz)] [(.int (f ((pz + (1 : Int32))).toInt))]))
            clear Ar_7 S_7 G_7 hb_7
            generalize hb2 : (f ((pz + (1 : Int32))).toInt) = b2
            show Win p.tables e below _ (TL9.setTop (mkF m 46 #[.val (.ref a), .val (.int p1), .val (.int p2), .val (.int pz)] [(.int b2)]))
            rw [i1] at hb2
            refine s_bipush (pc' := 48) (z := (13 : Int32)) XL9.here hx (hb hby d2_46) rfl rfl ?_
            by_cases hc48_4 : (b2).toInt = (13 : Int)
            · skip
              refine s_icmpNo (pc' := 51) XL9.here hx (hb hby d2_48) rfl (teqI (x := b2) (y := (13 : Int32)) hc48_4).2 ?_
              refine s_aloadN (pc' := 52) XL9.here hx (hb hby d2_51) rfl rfl rfl ?_
              refine s_iloadN (pc' := 53) XL9.here hx (hb hby d2_52) rfl rfl ?_
              refine s_iconst (pc' := 54) (z := (2 : Int32)) XL9.here hx (hb hby d2_53) rfl rfl ?_
              refine s_iadd (pc' := 55) XL9.here hx (hb hby d2_54) rfl ?_
              obtain ⟨cl_8, Ar_8, S_8, G_8⟩ := id A_a
              have hb_8 : 0 ≤ ((pz + (2 : Int32))).toInt ∧ ((pz + (2 : Int32))).toInt < 6 := by omega
              refine Win.go (fun _ k => XL9.baloadBytes hx (j := (pz + (2 : Int32))) (v := (.int (f ((pz + (2 : Int32))).toInt))) (by rw [eL9]; exact Ar_8.1) (State.isArrayOf_alike hZ.alike Ar_8.2.1) Ar_8.2.2 (AF.inb S_8 hb_8) (G_8 _ hb_8.1 hb_8.2) (g := (mkF m 55 #[.val (.ref a), .val (.int p1), .val (.int p2), .val (.int pz)] [(.int (pz + (2 : Int32))), (.ref a)])) rfl rfl (hb hby d2_55) _ k) ?_
              show Win p.tables e below _ (TL9.setTop (mkF m 56 #[.val (.ref a), .val (.int p1), .val (.int p2), .val (.int pz)] [(.int (f ((pz + (2 : Int32))).toInt))]))
              clear Ar_8 S_8 G_8 hb_8
              generalize hb3 : (f ((pz + (2 : Int32))).toInt) = b3
              show Win p.tables e below _ (TL9.setTop (mkF m 56 #[.val (.ref a), .val (.int p1), .val (.int p2), .val (.int pz)] [(.int b3)]))
              rw [i2] at hb3
              refine s_bipush (pc' := 58) (z := (10 : Int32)) XL9.here hx (hb hby d2_56) rfl rfl ?_
              by_cases hc58_5 : (b3).toInt = (10 : Int)
              · skip
                refine s_icmpNo (pc' := 61) XL9.here hx (hb hby d2_58) rfl (teqI (x := b3) (y := (10 : Int32)) hc58_5).2 ?_
                refine s_iloadN (pc' := 62) XL9.here hx (hb hby d2_61) rfl rfl ?_
                refine s_iconst (pc' := 63) (z := (3 : Int32)) XL9.here hx (hb hby d2_62) rfl rfl ?_
                refine s_iadd (pc' := 64) XL9.here hx (hb hby d2_63) rfl ?_
                refine winI XL9 hx hlk eL9 Bd.returns (hb hby d2_64) (by decide) (by decide) ?_
                refine ⟨Nf, rfl, _, rfl, Or.inr ⟨pz.toInt, g1, ⟨g3, Or.inr ⟨by omega, by rw [hb2]; omega, by rw [hb3]; omega⟩⟩, g4, Or.inr ⟨by rw [hb2]; omega, i3⟩⟩⟩
              · skip
                refine s_icmpYes (pc' := 65) XL9.here hx (hb hby d2_58) (feqI (x := b3) (y := (10 : Int32)) hc58_5).2 (by decide) (by decide) ?_
                exact J65  (by intro hg; obtain ⟨-, ⟨u, v⟩ | ⟨u, v, w⟩⟩ := hg <;> first | omega | (rw [hb1] at v; omega) | (rw [hb2] at v; omega) | (rw [hb2] at v; rw [hb3] at w; omega) | (rw [hb3] at w; omega))
            · skip
              refine s_icmpYes (pc' := 65) XL9.here hx (hb hby d2_48) (feqI (x := b2) (y := (13 : Int32)) hc48_4).2 (by decide) (by decide) ?_
              exact J65  (by intro hg; obtain ⟨-, ⟨u, v⟩ | ⟨u, v, w⟩⟩ := hg <;> first | omega | (rw [hb1] at v; omega) | (rw [hb2] at v; omega) | (rw [hb2] at v; rw [hb3] at w; omega) | (rw [hb3] at w; omega))
          · skip
            refine s_icmpYes (pc' := 65) XL9.here hx (hb hby d2_38) (fltI (x := (pz + (2 : Int32))) (y := p2) hc38_3).2.1 (by decide) (by decide) ?_
            exact J65  (by intro hg; obtain ⟨-, ⟨u, v⟩ | ⟨u, v, w⟩⟩ := hg <;> first | omega | (rw [hb1] at v; omega) | (rw [hb2] at v; omega) | (rw [hb2] at v; rw [hb3] at w; omega) | (rw [hb3] at w; omega))
  exact LP9 ((own_m (r1).toInt) + 1) _ _ X_2 e_2 Nf r1 (by rcases hr1 with q | q; exact Or.inl ⟨q.1, fun j h1 h2 => by rcases (by omega : j < p2.toInt ∨ p2.toInt ≤ j) with u | u; exact q.2 j h1 u h2.1; obtain ⟨-, ⟨v, -⟩ | ⟨v, -⟩⟩ := h2 <;> omega⟩; exact Or.inr ⟨q.1, q.2.1, q.2.2.1, fun j h1 h2 h3 => q.2.2.2 j h1 h2 h3.1⟩) (Nat.lt_succ_self _)
theorem d5_0 : decode method_4_code 0 = .ok (.iload_n 3, 1) := by decide +kernel
theorem d5_1 : decode method_4_code 1 = .ok (.iload_n 2, 1) := by decide +kernel
theorem d5_2 : decode method_4_code 2 = .ok (.if_icmp .gt 10, 3) := by decide +kernel
theorem d5_5 : decode method_4_code 5 = .ok (.iload_n 3, 1) := by decide +kernel
theorem d5_6 : decode method_4_code 6 = .ok (.iload_n 1, 1) := by decide +kernel
theorem d5_7 : decode method_4_code 7 = .ok (.iconst 2, 1) := by decide +kernel
theorem d5_8 : decode method_4_code 8 = .ok (.iadd, 1) := by decide +kernel
theorem d5_9 : decode method_4_code 9 = .ok (.if_icmp .ge 5, 3) := by decide +kernel
theorem d5_12 : decode method_4_code 12 = .ok (.iconst 0, 1) := by decide +kernel
theorem d5_13 : decode method_4_code 13 = .ok (.ireturn, 1) := by decide +kernel
theorem d5_14 : decode method_4_code 14 = .ok (.aload_n 0, 1) := by decide +kernel
theorem d5_15 : decode method_4_code 15 = .ok (.iload_n 3, 1) := by decide +kernel
theorem d5_16 : decode method_4_code 16 = .ok (.iconst 1, 1) := by decide +kernel
theorem d5_17 : decode method_4_code 17 = .ok (.isub, 1) := by decide +kernel
theorem d5_18 : decode method_4_code 18 = .ok (.baload, 1) := by decide +kernel
theorem d5_19 : decode method_4_code 19 = .ok (.bipush 10, 2) := by decide +kernel
theorem d5_21 : decode method_4_code 21 = .ok (.if_icmp .eq 5, 3) := by decide +kernel
theorem d5_24 : decode method_4_code 24 = .ok (.iconst 0, 1) := by decide +kernel
theorem d5_25 : decode method_4_code 25 = .ok (.ireturn, 1) := by decide +kernel
theorem d5_26 : decode method_4_code 26 = .ok (.aload_n 0, 1) := by decide +kernel
theorem d5_27 : decode method_4_code 27 = .ok (.iload_n 3, 1) := by decide +kernel
theorem d5_28 : decode method_4_code 28 = .ok (.iconst 2, 1) := by decide +kernel
theorem d5_29 : decode method_4_code 29 = .ok (.isub, 1) := by decide +kernel
theorem d5_30 : decode method_4_code 30 = .ok (.baload, 1) := by decide +kernel
theorem d5_31 : decode method_4_code 31 = .ok (.bipush 10, 2) := by decide +kernel
theorem d5_33 : decode method_4_code 33 = .ok (.if_icmp .ne 5, 3) := by decide +kernel
theorem d5_36 : decode method_4_code 36 = .ok (.iconst 1, 1) := by decide +kernel
theorem d5_37 : decode method_4_code 37 = .ok (.ireturn, 1) := by decide +kernel
theorem d5_38 : decode method_4_code 38 = .ok (.iload_n 3, 1) := by decide +kernel
theorem d5_39 : decode method_4_code 39 = .ok (.iconst 3, 1) := by decide +kernel
theorem d5_40 : decode method_4_code 40 = .ok (.isub, 1) := by decide +kernel
theorem d5_41 : decode method_4_code 41 = .ok (.iload_n 1, 1) := by decide +kernel
theorem d5_42 : decode method_4_code 42 = .ok (.if_icmp .lt 27, 3) := by decide +kernel
theorem d5_69 : decode method_4_code 69 = .ok (.iconst 0, 1) := by decide +kernel
theorem d5_70 : decode method_4_code 70 = .ok (.ireturn, 1) := by decide +kernel
theorem ef_5_2 (m : MethodId) (a : Addr) (p1 : Int32) (p2 : Int32) : entryFrame m #[(.ref a), (.int p1), (.int p2), (.int (2 : Int32))] 4 = mkF m 0 #[.val (.ref a), .val (.int p1), .val (.int p2), .val (.int (2 : Int32))] [] := by first | (simp [entryFrame, mkF, argsToLocals, Value.category]; done) | rfl
def Q5_2 (Z : State) (a : Addr) (p1 : Int32) (p2 : Int32) (f : Int → Int32) (h0 : Heap) (n0 : Nat) (v : Option Value) (h : Heap) (L : List Loc) : Prop := Fr n0 L ∧ h = h0 ∧ (∃ z : Int32, v = some (.int z) ∧ ((z.toInt = 1 ∧ (En f p1.toInt p2.toInt 2)) ∨ (z.toInt = 0 ∧ ¬ (En f p1.toInt p2.toInt 2))))
set_option maxRecDepth 65536 in
set_option maxHeartbeats 40000000 in
theorem rm5_2 (l : Launch) (Z : State) (a0 : Array Value) (hw : ∀ d ∈ tables_1, d.before a0 Z = true) (ws : List Jvm.Cond) (a : Addr) (p1 : Int32) (p2 : Int32) (f : Int → Int32) (h0 : Heap) (n0 : Nat) (Zs : n0 ≤ h0.size) (A_a : AF Z h0 a .byte 6 f) (hp : 0 ≤ p1.toInt ∧ p1.toInt ≤ 6 ∧ p2.toInt ≤ 6) :
    MetFree l (⟨"com/example/throttle/throttle/app/HttpRequestHeadEndPinLaw", "endsHead", "([BIII)Z"⟩ : MethodName) (head1 (Jvm.Cond.code (⟨"com/example/throttle/throttle/app/HttpRequestHeadEndPinLaw", "endsHead", "([BIII)Z"⟩ : MethodName) method_4_code 4 (some .boolean) :: ws) ({ frames := 0, cells := 0, slots := 0, locals := 0 } : Room)) (fun as' U => as' = #[(.ref a), (.int p1), (.int p2), (.int (2 : Int32))] ∧ Z.Warmed39 U.vm ∧ U.heap = h0) (fun _ _ _ _ _ => True) (fun _ U o U' => ∃ v L, o = .returned v ∧ Q5_2 Z a p1 p2 f h0 n0 v U'.heap L ∧ FrameEnd U o U' L ({ frames := 0, cells := 0, slots := 0, locals := 0 } : Room).cells ({ frames := 0, cells := 0, slots := 0, locals := 0 } : Room).slots) := by
  refine MetFree.of_bodySF (plainFor_of_name pn_1) hisR ?_
  intro p e s m args below meth c s₁ Bd hml0 hP hK
  obtain ⟨rfl, hZ, hh⟩ := hP
  have hx := Bd.exec
  have hby := Bd.bytes
  have hml : c.maxLocals = 4 := hml0
  have hown : s.vm.findClass "com/example/throttle/throttle/app/HttpRequestHeadEndPinLaw" = some m.cls := findClass_of_methodNamed Bd.named
  have hnm := (name_of_methodNamed Bd.named Bd.method).1
  have hlk : meth.locks = false := Bd.notSynchronized
  have X0 : Stand p l e ({ frames := 0, cells := 0, slots := 0, locals := 0 } : Room) s m #[(.ref a), (.int p1), (.int p2), (.int (2 : Int32))] below meth c s₁ [] 0 0 := Stand.of_body Bd
  have e0 : s₁.heap = h0 := by rw [← hh, Bd.state]; rfl
  have Nf := Fr.nil n0
  refine (?_ : Win p.tables e below (PostQ s (Q5_2 Z a p1 p2 f h0 n0) ({ frames := 0, cells := 0, slots := 0, locals := 0 } : Room).cells ({ frames := 0, cells := 0, slots := 0, locals := 0 } : Room).slots) (s₁.setTop (entryFrame m #[(.ref a), (.int p1), (.int p2), (.int (2 : Int32))] 4)))
  rw [ef_5_2]
  have lt_a : a < h0.size := A_a.lt
  show Win p.tables e below _ (s₁.setTop (mkF m 0 #[.val (.ref a), .val (.int p1), .val (.int p2), .val (.int (2 : Int32))] []))
  have i2 : (p1 + (2 : Int32)).toInt = p1.toInt + 2 := by have := c_iadd p1 2; have := rng32 (p1 + 2); have : (2 : Int32).toInt = 2 := rfl; omega
  refine s_iloadN (pc' := 1) X0.here hx (hb hby d5_0) rfl rfl ?_
  refine s_iloadN (pc' := 2) X0.here hx (hb hby d5_1) rfl rfl ?_
  by_cases hc2 : (p2).toInt < (2 : Int)
  · skip
    refine s_icmpYes (pc' := 12) X0.here hx (hb hby d5_2) (tltI (x := p2) (y := (2 : Int32)) hc2).2.2.1 (by decide) (by decide) ?_
    refine s_iconst (pc' := 13) (z := (0 : Int32)) X0.here hx (hb hby d5_12) rfl rfl ?_
    refine winN X0 hx hlk e0 (t := .boolean) Bd.returns (by simp) (hb hby d5_13) (by decide) (by decide) (z' := (0 : Int32)) rfl ?_
    refine ⟨Nf, rfl, _, rfl, Or.inr ⟨rfl, ?_⟩⟩
    show ¬ (_ ∧ _ ∧ _ ∧ _)
    simp only [Int.reduceSub]
    omega
  · skip
    refine s_icmpNo (pc' := 5) X0.here hx (hb hby d5_2) rfl (fltI (x := p2) (y := (2 : Int32)) hc2).2.2.1 ?_
    refine s_iloadN (pc' := 6) X0.here hx (hb hby d5_5) rfl rfl ?_
    refine s_iloadN (pc' := 7) X0.here hx (hb hby d5_6) rfl rfl ?_
    refine s_iconst (pc' := 8) (z := (2 : Int32)) X0.here hx (hb hby d5_7) rfl rfl ?_
    refine s_iadd (pc' := 9) X0.here hx (hb hby d5_8) rfl ?_
    by_cases hc9 : (2 : Int) < ((p1 + (2 : Int32))).toInt
    · skip
      refine s_icmpNo (pc' := 12) X0.here hx (hb hby d5_9) rfl (tltI (x := (2 : Int32)) (y := (p1 + (2 : Int32))) hc9).2.1 ?_
      refine s_iconst (pc' := 13) (z := (0 : Int32)) X0.here hx (hb hby d5_12) rfl rfl ?_
      refine winN X0 hx hlk e0 (t := .boolean) Bd.returns (by simp) (hb hby d5_13) (by decide) (by decide) (z' := (0 : Int32)) rfl ?_
      refine ⟨Nf, rfl, _, rfl, Or.inr ⟨rfl, ?_⟩⟩
      show ¬ (_ ∧ _ ∧ _ ∧ _)
      simp only [Int.reduceSub]
      omega
    · skip
      refine s_icmpYes (pc' := 14) X0.here hx (hb hby d5_9) (fltI (x := (2 : Int32)) (y := (p1 + (2 : Int32))) hc9).2.1 (by decide) (by decide) ?_
      refine s_aloadN (pc' := 15) X0.here hx (hb hby d5_14) rfl rfl rfl ?_
      refine s_iloadN (pc' := 16) X0.here hx (hb hby d5_15) rfl rfl ?_
      refine s_iconst (pc' := 17) (z := (1 : Int32)) X0.here hx (hb hby d5_16) rfl rfl ?_
      refine Win.go (fun _ k => XS.isub X0.here hx rfl (hb hby d5_17) rfl k) ?_
      show Win p.tables e below _ (s₁.setTop (mkF m 18 #[.val (.ref a), .val (.int p1), .val (.int p2), .val (.int (2 : Int32))] [(.int (1 : Int32)), (.ref a)]))
      obtain ⟨cl_9, Ar_9, S_9, G_9⟩ := id A_a
      have hb_9 : 0 ≤ ((1 : Int32)).toInt ∧ ((1 : Int32)).toInt < 6 := by decide
      refine Win.go (fun _ k => X0.baloadBytes hx (j := (1 : Int32)) (v := (.int (f (1 : Int)))) (by rw [e0]; exact Ar_9.1) (State.isArrayOf_alike hZ.alike Ar_9.2.1) Ar_9.2.2 (AF.inb S_9 hb_9) (G_9 _ hb_9.1 hb_9.2) (g := (mkF m 18 #[.val (.ref a), .val (.int p1), .val (.int p2), .val (.int (2 : Int32))] [(.int (1 : Int32)), (.ref a)])) rfl rfl (hb hby d5_18) _ k) ?_
      show Win p.tables e below _ (s₁.setTop (mkF m 19 #[.val (.ref a), .val (.int p1), .val (.int p2), .val (.int (2 : Int32))] [(.int (f (1 : Int)))]))
      clear Ar_9 S_9 G_9 hb_9
      refine s_bipush (pc' := 21) (z := (10 : Int32)) X0.here hx (hb hby d5_19) rfl rfl ?_
      by_cases hc21 : ((f (1 : Int))).toInt = (10 : Int)
      · skip
        refine s_icmpYes (pc' := 26) X0.here hx (hb hby d5_21) (teqI (x := (f (1 : Int))) (y := (10 : Int32)) hc21).1 (by decide) (by decide) ?_
        refine s_aloadN (pc' := 27) X0.here hx (hb hby d5_26) rfl rfl rfl ?_
        refine s_iloadN (pc' := 28) X0.here hx (hb hby d5_27) rfl rfl ?_
        refine s_iconst (pc' := 29) (z := (2 : Int32)) X0.here hx (hb hby d5_28) rfl rfl ?_
        refine Win.go (fun _ k => XS.isub X0.here hx rfl (hb hby d5_29) rfl k) ?_
        show Win p.tables e below _ (s₁.setTop (mkF m 30 #[.val (.ref a), .val (.int p1), .val (.int p2), .val (.int (2 : Int32))] [(.int (0 : Int32)), (.ref a)]))
        obtain ⟨cl_10, Ar_10, S_10, G_10⟩ := id A_a
        have hb_10 : 0 ≤ ((0 : Int32)).toInt ∧ ((0 : Int32)).toInt < 6 := by decide
        refine Win.go (fun _ k => X0.baloadBytes hx (j := (0 : Int32)) (v := (.int (f (0 : Int)))) (by rw [e0]; exact Ar_10.1) (State.isArrayOf_alike hZ.alike Ar_10.2.1) Ar_10.2.2 (AF.inb S_10 hb_10) (G_10 _ hb_10.1 hb_10.2) (g := (mkF m 30 #[.val (.ref a), .val (.int p1), .val (.int p2), .val (.int (2 : Int32))] [(.int (0 : Int32)), (.ref a)])) rfl rfl (hb hby d5_30) _ k) ?_
        show Win p.tables e below _ (s₁.setTop (mkF m 31 #[.val (.ref a), .val (.int p1), .val (.int p2), .val (.int (2 : Int32))] [(.int (f (0 : Int)))]))
        clear Ar_10 S_10 G_10 hb_10
        refine s_bipush (pc' := 33) (z := (10 : Int32)) X0.here hx (hb hby d5_31) rfl rfl ?_
        by_cases hc33 : ((f (0 : Int))).toInt = (10 : Int)
        · skip
          refine s_icmpNo (pc' := 36) X0.here hx (hb hby d5_33) rfl (teqI (x := (f (0 : Int))) (y := (10 : Int32)) hc33).2 ?_
          refine s_iconst (pc' := 37) (z := (1 : Int32)) X0.here hx (hb hby d5_36) rfl rfl ?_
          refine winN X0 hx hlk e0 (t := .boolean) Bd.returns (by simp) (hb hby d5_37) (by decide) (by decide) (z' := (1 : Int32)) rfl ?_
          refine ⟨Nf, rfl, _, rfl, Or.inl ⟨rfl, ?_⟩⟩
          show _ ∧ _ ∧ _ ∧ _
          simp only [Int.reduceSub]
          omega
        · skip
          refine s_icmpYes (pc' := 38) X0.here hx (hb hby d5_33) (feqI (x := (f (0 : Int))) (y := (10 : Int32)) hc33).2 (by decide) (by decide) ?_
          refine s_iloadN (pc' := 39) X0.here hx (hb hby d5_38) rfl rfl ?_
          refine s_iconst (pc' := 40) (z := (3 : Int32)) X0.here hx (hb hby d5_39) rfl rfl ?_
          refine Win.go (fun _ k => XS.isub X0.here hx rfl (hb hby d5_40) rfl k) ?_
          show Win p.tables e below _ (s₁.setTop (mkF m 41 #[.val (.ref a), .val (.int p1), .val (.int p2), .val (.int (2 : Int32))] [(.int (-1 : Int32))]))
          refine s_iloadN (pc' := 42) X0.here hx (hb hby d5_41) rfl rfl ?_
          by_cases hc42 : (-1 : Int) < (p1).toInt
          · skip
            refine s_icmpYes (pc' := 69) X0.here hx (hb hby d5_42) (tltI (x := (-1 : Int32)) (y := p1) hc42).1 (by decide) (by decide) ?_
            refine s_iconst (pc' := 70) (z := (0 : Int32)) X0.here hx (hb hby d5_69) rfl rfl ?_
            refine winN X0 hx hlk e0 (t := .boolean) Bd.returns (by simp) (hb hby d5_70) (by decide) (by decide) (z' := (0 : Int32)) rfl ?_
            refine ⟨Nf, rfl, _, rfl, Or.inr ⟨rfl, ?_⟩⟩
            show ¬ (_ ∧ _ ∧ _ ∧ _)
            simp only [Int.reduceSub]
            omega
          · skip
            exfalso
            omega
      · skip
        refine s_icmpNo (pc' := 24) X0.here hx (hb hby d5_21) rfl (feqI (x := (f (1 : Int))) (y := (10 : Int32)) hc21).1 ?_
        refine s_iconst (pc' := 25) (z := (0 : Int32)) X0.here hx (hb hby d5_24) rfl rfl ?_
        refine winN X0 hx hlk e0 (t := .boolean) Bd.returns (by simp) (hb hby d5_25) (by decide) (by decide) (z' := (0 : Int32)) rfl ?_
        refine ⟨Nf, rfl, _, rfl, Or.inr ⟨rfl, ?_⟩⟩
        show ¬ (_ ∧ _ ∧ _ ∧ _)
        simp only [Int.reduceSub]
        omega
theorem d5_45 : decode method_4_code 45 = .ok (.aload_n 0, 1) := by decide +kernel
theorem d5_46 : decode method_4_code 46 = .ok (.iload_n 3, 1) := by decide +kernel
theorem d5_47 : decode method_4_code 47 = .ok (.iconst 2, 1) := by decide +kernel
theorem d5_48 : decode method_4_code 48 = .ok (.isub, 1) := by decide +kernel
theorem d5_49 : decode method_4_code 49 = .ok (.baload, 1) := by decide +kernel
theorem d5_50 : decode method_4_code 50 = .ok (.bipush 13, 2) := by decide +kernel
theorem d5_52 : decode method_4_code 52 = .ok (.if_icmp .ne 17, 3) := by decide +kernel
theorem d5_55 : decode method_4_code 55 = .ok (.aload_n 0, 1) := by decide +kernel
theorem d5_56 : decode method_4_code 56 = .ok (.iload_n 3, 1) := by decide +kernel
theorem d5_57 : decode method_4_code 57 = .ok (.iconst 3, 1) := by decide +kernel
theorem d5_58 : decode method_4_code 58 = .ok (.isub, 1) := by decide +kernel
theorem d5_59 : decode method_4_code 59 = .ok (.baload, 1) := by decide +kernel
theorem d5_60 : decode method_4_code 60 = .ok (.bipush 10, 2) := by decide +kernel
theorem d5_62 : decode method_4_code 62 = .ok (.if_icmp .ne 7, 3) := by decide +kernel
theorem d5_65 : decode method_4_code 65 = .ok (.iconst 1, 1) := by decide +kernel
theorem d5_66 : decode method_4_code 66 = .ok (.goto 4, 3) := by decide +kernel
theorem ef_5_3 (m : MethodId) (a : Addr) (p1 : Int32) (p2 : Int32) : entryFrame m #[(.ref a), (.int p1), (.int p2), (.int (3 : Int32))] 4 = mkF m 0 #[.val (.ref a), .val (.int p1), .val (.int p2), .val (.int (3 : Int32))] [] := by first | (simp [entryFrame, mkF, argsToLocals, Value.category]; done) | rfl
def Q5_3 (Z : State) (a : Addr) (p1 : Int32) (p2 : Int32) (f : Int → Int32) (h0 : Heap) (n0 : Nat) (v : Option Value) (h : Heap) (L : List Loc) : Prop := Fr n0 L ∧ h = h0 ∧ (∃ z : Int32, v = some (.int z) ∧ ((z.toInt = 1 ∧ (En f p1.toInt p2.toInt 3)) ∨ (z.toInt = 0 ∧ ¬ (En f p1.toInt p2.toInt 3))))
set_option maxRecDepth 65536 in
set_option maxHeartbeats 40000000 in
theorem rm5_3 (l : Launch) (Z : State) (a0 : Array Value) (hw : ∀ d ∈ tables_1, d.before a0 Z = true) (ws : List Jvm.Cond) (a : Addr) (p1 : Int32) (p2 : Int32) (f : Int → Int32) (h0 : Heap) (n0 : Nat) (Zs : n0 ≤ h0.size) (A_a : AF Z h0 a .byte 6 f) (hp : 0 ≤ p1.toInt ∧ p1.toInt ≤ 6 ∧ p2.toInt ≤ 6) :
    MetFree l (⟨"com/example/throttle/throttle/app/HttpRequestHeadEndPinLaw", "endsHead", "([BIII)Z"⟩ : MethodName) (head1 (Jvm.Cond.code (⟨"com/example/throttle/throttle/app/HttpRequestHeadEndPinLaw", "endsHead", "([BIII)Z"⟩ : MethodName) method_4_code 4 (some .boolean) :: ws) ({ frames := 0, cells := 0, slots := 0, locals := 0 } : Room)) (fun as' U => as' = #[(.ref a), (.int p1), (.int p2), (.int (3 : Int32))] ∧ Z.Warmed39 U.vm ∧ U.heap = h0) (fun _ _ _ _ _ => True) (fun _ U o U' => ∃ v L, o = .returned v ∧ Q5_3 Z a p1 p2 f h0 n0 v U'.heap L ∧ FrameEnd U o U' L ({ frames := 0, cells := 0, slots := 0, locals := 0 } : Room).cells ({ frames := 0, cells := 0, slots := 0, locals := 0 } : Room).slots) := by
  refine MetFree.of_bodySF (plainFor_of_name pn_1) hisR ?_
  intro p e s m args below meth c s₁ Bd hml0 hP hK
  obtain ⟨rfl, hZ, hh⟩ := hP
  have hx := Bd.exec
  have hby := Bd.bytes
  have hml : c.maxLocals = 4 := hml0
  have hown : s.vm.findClass "com/example/throttle/throttle/app/HttpRequestHeadEndPinLaw" = some m.cls := findClass_of_methodNamed Bd.named
  have hnm := (name_of_methodNamed Bd.named Bd.method).1
  have hlk : meth.locks = false := Bd.notSynchronized
  have X0 : Stand p l e ({ frames := 0, cells := 0, slots := 0, locals := 0 } : Room) s m #[(.ref a), (.int p1), (.int p2), (.int (3 : Int32))] below meth c s₁ [] 0 0 := Stand.of_body Bd
  have e0 : s₁.heap = h0 := by rw [← hh, Bd.state]; rfl
  have Nf := Fr.nil n0
  refine (?_ : Win p.tables e below (PostQ s (Q5_3 Z a p1 p2 f h0 n0) ({ frames := 0, cells := 0, slots := 0, locals := 0 } : Room).cells ({ frames := 0, cells := 0, slots := 0, locals := 0 } : Room).slots) (s₁.setTop (entryFrame m #[(.ref a), (.int p1), (.int p2), (.int (3 : Int32))] 4)))
  rw [ef_5_3]
  have lt_a : a < h0.size := A_a.lt
  show Win p.tables e below _ (s₁.setTop (mkF m 0 #[.val (.ref a), .val (.int p1), .val (.int p2), .val (.int (3 : Int32))] []))
  have i2 : (p1 + (2 : Int32)).toInt = p1.toInt + 2 := by have := c_iadd p1 2; have := rng32 (p1 + 2); have : (2 : Int32).toInt = 2 := rfl; omega
  refine s_iloadN (pc' := 1) X0.here hx (hb hby d5_0) rfl rfl ?_
  refine s_iloadN (pc' := 2) X0.here hx (hb hby d5_1) rfl rfl ?_
  by_cases hc2 : (p2).toInt < (3 : Int)
  · skip
    refine s_icmpYes (pc' := 12) X0.here hx (hb hby d5_2) (tltI (x := p2) (y := (3 : Int32)) hc2).2.2.1 (by decide) (by decide) ?_
    refine s_iconst (pc' := 13) (z := (0 : Int32)) X0.here hx (hb hby d5_12) rfl rfl ?_
    refine winN X0 hx hlk e0 (t := .boolean) Bd.returns (by simp) (hb hby d5_13) (by decide) (by decide) (z' := (0 : Int32)) rfl ?_
    refine ⟨Nf, rfl, _, rfl, Or.inr ⟨rfl, ?_⟩⟩
    show ¬ (_ ∧ _ ∧ _ ∧ _)
    simp only [Int.reduceSub]
    omega
  · skip
    refine s_icmpNo (pc' := 5) X0.here hx (hb hby d5_2) rfl (fltI (x := p2) (y := (3 : Int32)) hc2).2.2.1 ?_
    refine s_iloadN (pc' := 6) X0.here hx (hb hby d5_5) rfl rfl ?_
    refine s_iloadN (pc' := 7) X0.here hx (hb hby d5_6) rfl rfl ?_
    refine s_iconst (pc' := 8) (z := (2 : Int32)) X0.here hx (hb hby d5_7) rfl rfl ?_
    refine s_iadd (pc' := 9) X0.here hx (hb hby d5_8) rfl ?_
    by_cases hc9 : (3 : Int) < ((p1 + (2 : Int32))).toInt
    · skip
      refine s_icmpNo (pc' := 12) X0.here hx (hb hby d5_9) rfl (tltI (x := (3 : Int32)) (y := (p1 + (2 : Int32))) hc9).2.1 ?_
      refine s_iconst (pc' := 13) (z := (0 : Int32)) X0.here hx (hb hby d5_12) rfl rfl ?_
      refine winN X0 hx hlk e0 (t := .boolean) Bd.returns (by simp) (hb hby d5_13) (by decide) (by decide) (z' := (0 : Int32)) rfl ?_
      refine ⟨Nf, rfl, _, rfl, Or.inr ⟨rfl, ?_⟩⟩
      show ¬ (_ ∧ _ ∧ _ ∧ _)
      simp only [Int.reduceSub]
      omega
    · skip
      refine s_icmpYes (pc' := 14) X0.here hx (hb hby d5_9) (fltI (x := (3 : Int32)) (y := (p1 + (2 : Int32))) hc9).2.1 (by decide) (by decide) ?_
      refine s_aloadN (pc' := 15) X0.here hx (hb hby d5_14) rfl rfl rfl ?_
      refine s_iloadN (pc' := 16) X0.here hx (hb hby d5_15) rfl rfl ?_
      refine s_iconst (pc' := 17) (z := (1 : Int32)) X0.here hx (hb hby d5_16) rfl rfl ?_
      refine Win.go (fun _ k => XS.isub X0.here hx rfl (hb hby d5_17) rfl k) ?_
      show Win p.tables e below _ (s₁.setTop (mkF m 18 #[.val (.ref a), .val (.int p1), .val (.int p2), .val (.int (3 : Int32))] [(.int (2 : Int32)), (.ref a)]))
      obtain ⟨cl_11, Ar_11, S_11, G_11⟩ := id A_a
      have hb_11 : 0 ≤ ((2 : Int32)).toInt ∧ ((2 : Int32)).toInt < 6 := by decide
      refine Win.go (fun _ k => X0.baloadBytes hx (j := (2 : Int32)) (v := (.int (f (2 : Int)))) (by rw [e0]; exact Ar_11.1) (State.isArrayOf_alike hZ.alike Ar_11.2.1) Ar_11.2.2 (AF.inb S_11 hb_11) (G_11 _ hb_11.1 hb_11.2) (g := (mkF m 18 #[.val (.ref a), .val (.int p1), .val (.int p2), .val (.int (3 : Int32))] [(.int (2 : Int32)), (.ref a)])) rfl rfl (hb hby d5_18) _ k) ?_
      show Win p.tables e below _ (s₁.setTop (mkF m 19 #[.val (.ref a), .val (.int p1), .val (.int p2), .val (.int (3 : Int32))] [(.int (f (2 : Int)))]))
      clear Ar_11 S_11 G_11 hb_11
      refine s_bipush (pc' := 21) (z := (10 : Int32)) X0.here hx (hb hby d5_19) rfl rfl ?_
      by_cases hc21 : ((f (2 : Int))).toInt = (10 : Int)
      · skip
        refine s_icmpYes (pc' := 26) X0.here hx (hb hby d5_21) (teqI (x := (f (2 : Int))) (y := (10 : Int32)) hc21).1 (by decide) (by decide) ?_
        refine s_aloadN (pc' := 27) X0.here hx (hb hby d5_26) rfl rfl rfl ?_
        refine s_iloadN (pc' := 28) X0.here hx (hb hby d5_27) rfl rfl ?_
        refine s_iconst (pc' := 29) (z := (2 : Int32)) X0.here hx (hb hby d5_28) rfl rfl ?_
        refine Win.go (fun _ k => XS.isub X0.here hx rfl (hb hby d5_29) rfl k) ?_
        show Win p.tables e below _ (s₁.setTop (mkF m 30 #[.val (.ref a), .val (.int p1), .val (.int p2), .val (.int (3 : Int32))] [(.int (1 : Int32)), (.ref a)]))
        obtain ⟨cl_12, Ar_12, S_12, G_12⟩ := id A_a
        have hb_12 : 0 ≤ ((1 : Int32)).toInt ∧ ((1 : Int32)).toInt < 6 := by decide
        refine Win.go (fun _ k => X0.baloadBytes hx (j := (1 : Int32)) (v := (.int (f (1 : Int)))) (by rw [e0]; exact Ar_12.1) (State.isArrayOf_alike hZ.alike Ar_12.2.1) Ar_12.2.2 (AF.inb S_12 hb_12) (G_12 _ hb_12.1 hb_12.2) (g := (mkF m 30 #[.val (.ref a), .val (.int p1), .val (.int p2), .val (.int (3 : Int32))] [(.int (1 : Int32)), (.ref a)])) rfl rfl (hb hby d5_30) _ k) ?_
        show Win p.tables e below _ (s₁.setTop (mkF m 31 #[.val (.ref a), .val (.int p1), .val (.int p2), .val (.int (3 : Int32))] [(.int (f (1 : Int)))]))
        clear Ar_12 S_12 G_12 hb_12
        refine s_bipush (pc' := 33) (z := (10 : Int32)) X0.here hx (hb hby d5_31) rfl rfl ?_
        by_cases hc33 : ((f (1 : Int))).toInt = (10 : Int)
        · skip
          refine s_icmpNo (pc' := 36) X0.here hx (hb hby d5_33) rfl (teqI (x := (f (1 : Int))) (y := (10 : Int32)) hc33).2 ?_
          refine s_iconst (pc' := 37) (z := (1 : Int32)) X0.here hx (hb hby d5_36) rfl rfl ?_
          refine winN X0 hx hlk e0 (t := .boolean) Bd.returns (by simp) (hb hby d5_37) (by decide) (by decide) (z' := (1 : Int32)) rfl ?_
          refine ⟨Nf, rfl, _, rfl, Or.inl ⟨rfl, ?_⟩⟩
          show _ ∧ _ ∧ _ ∧ _
          simp only [Int.reduceSub]
          omega
        · skip
          refine s_icmpYes (pc' := 38) X0.here hx (hb hby d5_33) (feqI (x := (f (1 : Int))) (y := (10 : Int32)) hc33).2 (by decide) (by decide) ?_
          refine s_iloadN (pc' := 39) X0.here hx (hb hby d5_38) rfl rfl ?_
          refine s_iconst (pc' := 40) (z := (3 : Int32)) X0.here hx (hb hby d5_39) rfl rfl ?_
          refine Win.go (fun _ k => XS.isub X0.here hx rfl (hb hby d5_40) rfl k) ?_
          show Win p.tables e below _ (s₁.setTop (mkF m 41 #[.val (.ref a), .val (.int p1), .val (.int p2), .val (.int (3 : Int32))] [(.int (0 : Int32))]))
          refine s_iloadN (pc' := 42) X0.here hx (hb hby d5_41) rfl rfl ?_
          by_cases hc42 : (0 : Int) < (p1).toInt
          · skip
            refine s_icmpYes (pc' := 69) X0.here hx (hb hby d5_42) (tltI (x := (0 : Int32)) (y := p1) hc42).1 (by decide) (by decide) ?_
            refine s_iconst (pc' := 70) (z := (0 : Int32)) X0.here hx (hb hby d5_69) rfl rfl ?_
            refine winN X0 hx hlk e0 (t := .boolean) Bd.returns (by simp) (hb hby d5_70) (by decide) (by decide) (z' := (0 : Int32)) rfl ?_
            refine ⟨Nf, rfl, _, rfl, Or.inr ⟨rfl, ?_⟩⟩
            show ¬ (_ ∧ _ ∧ _ ∧ _)
            simp only [Int.reduceSub]
            omega
          · skip
            refine s_icmpNo (pc' := 45) X0.here hx (hb hby d5_42) rfl (fltI (x := (0 : Int32)) (y := p1) hc42).1 ?_
            refine s_aloadN (pc' := 46) X0.here hx (hb hby d5_45) rfl rfl rfl ?_
            refine s_iloadN (pc' := 47) X0.here hx (hb hby d5_46) rfl rfl ?_
            refine s_iconst (pc' := 48) (z := (2 : Int32)) X0.here hx (hb hby d5_47) rfl rfl ?_
            refine Win.go (fun _ k => XS.isub X0.here hx rfl (hb hby d5_48) rfl k) ?_
            show Win p.tables e below _ (s₁.setTop (mkF m 49 #[.val (.ref a), .val (.int p1), .val (.int p2), .val (.int (3 : Int32))] [(.int (1 : Int32)), (.ref a)]))
            obtain ⟨cl_13, Ar_13, S_13, G_13⟩ := id A_a
            have hb_13 : 0 ≤ ((1 : Int32)).toInt ∧ ((1 : Int32)).toInt < 6 := by decide
            refine Win.go (fun _ k => X0.baloadBytes hx (j := (1 : Int32)) (v := (.int (f (1 : Int)))) (by rw [e0]; exact Ar_13.1) (State.isArrayOf_alike hZ.alike Ar_13.2.1) Ar_13.2.2 (AF.inb S_13 hb_13) (G_13 _ hb_13.1 hb_13.2) (g := (mkF m 49 #[.val (.ref a), .val (.int p1), .val (.int p2), .val (.int (3 : Int32))] [(.int (1 : Int32)), (.ref a)])) rfl rfl (hb hby d5_49) _ k) ?_
            show Win p.tables e below _ (s₁.setTop (mkF m 50 #[.val (.ref a), .val (.int p1), .val (.int p2), .val (.int (3 : Int32))] [(.int (f (1 : Int)))]))
            clear Ar_13 S_13 G_13 hb_13
            refine s_bipush (pc' := 52) (z := (13 : Int32)) X0.here hx (hb hby d5_50) rfl rfl ?_
            by_cases hc52 : ((f (1 : Int))).toInt = (13 : Int)
            · skip
              refine s_icmpNo (pc' := 55) X0.here hx (hb hby d5_52) rfl (teqI (x := (f (1 : Int))) (y := (13 : Int32)) hc52).2 ?_
              refine s_aloadN (pc' := 56) X0.here hx (hb hby d5_55) rfl rfl rfl ?_
              refine s_iloadN (pc' := 57) X0.here hx (hb hby d5_56) rfl rfl ?_
              refine s_iconst (pc' := 58) (z := (3 : Int32)) X0.here hx (hb hby d5_57) rfl rfl ?_
              refine Win.go (fun _ k => XS.isub X0.here hx rfl (hb hby d5_58) rfl k) ?_
              show Win p.tables e below _ (s₁.setTop (mkF m 59 #[.val (.ref a), .val (.int p1), .val (.int p2), .val (.int (3 : Int32))] [(.int (0 : Int32)), (.ref a)]))
              obtain ⟨cl_14, Ar_14, S_14, G_14⟩ := id A_a
              have hb_14 : 0 ≤ ((0 : Int32)).toInt ∧ ((0 : Int32)).toInt < 6 := by decide
              refine Win.go (fun _ k => X0.baloadBytes hx (j := (0 : Int32)) (v := (.int (f (0 : Int)))) (by rw [e0]; exact Ar_14.1) (State.isArrayOf_alike hZ.alike Ar_14.2.1) Ar_14.2.2 (AF.inb S_14 hb_14) (G_14 _ hb_14.1 hb_14.2) (g := (mkF m 59 #[.val (.ref a), .val (.int p1), .val (.int p2), .val (.int (3 : Int32))] [(.int (0 : Int32)), (.ref a)])) rfl rfl (hb hby d5_59) _ k) ?_
              show Win p.tables e below _ (s₁.setTop (mkF m 60 #[.val (.ref a), .val (.int p1), .val (.int p2), .val (.int (3 : Int32))] [(.int (f (0 : Int)))]))
              clear Ar_14 S_14 G_14 hb_14
              refine s_bipush (pc' := 62) (z := (10 : Int32)) X0.here hx (hb hby d5_60) rfl rfl ?_
              by_cases hc62 : ((f (0 : Int))).toInt = (10 : Int)
              · skip
                refine s_icmpNo (pc' := 65) X0.here hx (hb hby d5_62) rfl (teqI (x := (f (0 : Int))) (y := (10 : Int32)) hc62).2 ?_
                refine s_iconst (pc' := 66) (z := (1 : Int32)) X0.here hx (hb hby d5_65) rfl rfl ?_
                refine s_goto (pc' := 70) X0.here hx (hb hby d5_66) (by decide) (by decide) ?_
                refine winN X0 hx hlk e0 (t := .boolean) Bd.returns (by simp) (hb hby d5_70) (by decide) (by decide) (z' := (1 : Int32)) rfl ?_
                refine ⟨Nf, rfl, _, rfl, Or.inl ⟨rfl, ?_⟩⟩
                show _ ∧ _ ∧ _ ∧ _
                simp only [Int.reduceSub]
                omega
              · skip
                refine s_icmpYes (pc' := 69) X0.here hx (hb hby d5_62) (feqI (x := (f (0 : Int))) (y := (10 : Int32)) hc62).2 (by decide) (by decide) ?_
                refine s_iconst (pc' := 70) (z := (0 : Int32)) X0.here hx (hb hby d5_69) rfl rfl ?_
                refine winN X0 hx hlk e0 (t := .boolean) Bd.returns (by simp) (hb hby d5_70) (by decide) (by decide) (z' := (0 : Int32)) rfl ?_
                refine ⟨Nf, rfl, _, rfl, Or.inr ⟨rfl, ?_⟩⟩
                show ¬ (_ ∧ _ ∧ _ ∧ _)
                simp only [Int.reduceSub]
                omega
            · skip
              refine s_icmpYes (pc' := 69) X0.here hx (hb hby d5_52) (feqI (x := (f (1 : Int))) (y := (13 : Int32)) hc52).2 (by decide) (by decide) ?_
              refine s_iconst (pc' := 70) (z := (0 : Int32)) X0.here hx (hb hby d5_69) rfl rfl ?_
              refine winN X0 hx hlk e0 (t := .boolean) Bd.returns (by simp) (hb hby d5_70) (by decide) (by decide) (z' := (0 : Int32)) rfl ?_
              refine ⟨Nf, rfl, _, rfl, Or.inr ⟨rfl, ?_⟩⟩
              show ¬ (_ ∧ _ ∧ _ ∧ _)
              simp only [Int.reduceSub]
              omega
      · skip
        refine s_icmpNo (pc' := 24) X0.here hx (hb hby d5_21) rfl (feqI (x := (f (2 : Int))) (y := (10 : Int32)) hc21).1 ?_
        refine s_iconst (pc' := 25) (z := (0 : Int32)) X0.here hx (hb hby d5_24) rfl rfl ?_
        refine winN X0 hx hlk e0 (t := .boolean) Bd.returns (by simp) (hb hby d5_25) (by decide) (by decide) (z' := (0 : Int32)) rfl ?_
        refine ⟨Nf, rfl, _, rfl, Or.inr ⟨rfl, ?_⟩⟩
        show ¬ (_ ∧ _ ∧ _ ∧ _)
        simp only [Int.reduceSub]
        omega
theorem ef_5_4 (m : MethodId) (a : Addr) (p1 : Int32) (p2 : Int32) : entryFrame m #[(.ref a), (.int p1), (.int p2), (.int (4 : Int32))] 4 = mkF m 0 #[.val (.ref a), .val (.int p1), .val (.int p2), .val (.int (4 : Int32))] [] := by first | (simp [entryFrame, mkF, argsToLocals, Value.category]; done) | rfl
def Q5_4 (Z : State) (a : Addr) (p1 : Int32) (p2 : Int32) (f : Int → Int32) (h0 : Heap) (n0 : Nat) (v : Option Value) (h : Heap) (L : List Loc) : Prop := Fr n0 L ∧ h = h0 ∧ (∃ z : Int32, v = some (.int z) ∧ ((z.toInt = 1 ∧ (En f p1.toInt p2.toInt 4)) ∨ (z.toInt = 0 ∧ ¬ (En f p1.toInt p2.toInt 4))))
set_option maxRecDepth 65536 in
set_option maxHeartbeats 40000000 in
theorem rm5_4 (l : Launch) (Z : State) (a0 : Array Value) (hw : ∀ d ∈ tables_1, d.before a0 Z = true) (ws : List Jvm.Cond) (a : Addr) (p1 : Int32) (p2 : Int32) (f : Int → Int32) (h0 : Heap) (n0 : Nat) (Zs : n0 ≤ h0.size) (A_a : AF Z h0 a .byte 6 f) (hp : 0 ≤ p1.toInt ∧ p1.toInt ≤ 6 ∧ p2.toInt ≤ 6) :
    MetFree l (⟨"com/example/throttle/throttle/app/HttpRequestHeadEndPinLaw", "endsHead", "([BIII)Z"⟩ : MethodName) (head1 (Jvm.Cond.code (⟨"com/example/throttle/throttle/app/HttpRequestHeadEndPinLaw", "endsHead", "([BIII)Z"⟩ : MethodName) method_4_code 4 (some .boolean) :: ws) ({ frames := 0, cells := 0, slots := 0, locals := 0 } : Room)) (fun as' U => as' = #[(.ref a), (.int p1), (.int p2), (.int (4 : Int32))] ∧ Z.Warmed39 U.vm ∧ U.heap = h0) (fun _ _ _ _ _ => True) (fun _ U o U' => ∃ v L, o = .returned v ∧ Q5_4 Z a p1 p2 f h0 n0 v U'.heap L ∧ FrameEnd U o U' L ({ frames := 0, cells := 0, slots := 0, locals := 0 } : Room).cells ({ frames := 0, cells := 0, slots := 0, locals := 0 } : Room).slots) := by
  refine MetFree.of_bodySF (plainFor_of_name pn_1) hisR ?_
  intro p e s m args below meth c s₁ Bd hml0 hP hK
  obtain ⟨rfl, hZ, hh⟩ := hP
  have hx := Bd.exec
  have hby := Bd.bytes
  have hml : c.maxLocals = 4 := hml0
  have hown : s.vm.findClass "com/example/throttle/throttle/app/HttpRequestHeadEndPinLaw" = some m.cls := findClass_of_methodNamed Bd.named
  have hnm := (name_of_methodNamed Bd.named Bd.method).1
  have hlk : meth.locks = false := Bd.notSynchronized
  have X0 : Stand p l e ({ frames := 0, cells := 0, slots := 0, locals := 0 } : Room) s m #[(.ref a), (.int p1), (.int p2), (.int (4 : Int32))] below meth c s₁ [] 0 0 := Stand.of_body Bd
  have e0 : s₁.heap = h0 := by rw [← hh, Bd.state]; rfl
  have Nf := Fr.nil n0
  refine (?_ : Win p.tables e below (PostQ s (Q5_4 Z a p1 p2 f h0 n0) ({ frames := 0, cells := 0, slots := 0, locals := 0 } : Room).cells ({ frames := 0, cells := 0, slots := 0, locals := 0 } : Room).slots) (s₁.setTop (entryFrame m #[(.ref a), (.int p1), (.int p2), (.int (4 : Int32))] 4)))
  rw [ef_5_4]
  have lt_a : a < h0.size := A_a.lt
  show Win p.tables e below _ (s₁.setTop (mkF m 0 #[.val (.ref a), .val (.int p1), .val (.int p2), .val (.int (4 : Int32))] []))
  have i2 : (p1 + (2 : Int32)).toInt = p1.toInt + 2 := by have := c_iadd p1 2; have := rng32 (p1 + 2); have : (2 : Int32).toInt = 2 := rfl; omega
  refine s_iloadN (pc' := 1) X0.here hx (hb hby d5_0) rfl rfl ?_
  refine s_iloadN (pc' := 2) X0.here hx (hb hby d5_1) rfl rfl ?_
  by_cases hc2 : (p2).toInt < (4 : Int)
  · skip
    refine s_icmpYes (pc' := 12) X0.here hx (hb hby d5_2) (tltI (x := p2) (y := (4 : Int32)) hc2).2.2.1 (by decide) (by decide) ?_
    refine s_iconst (pc' := 13) (z := (0 : Int32)) X0.here hx (hb hby d5_12) rfl rfl ?_
    refine winN X0 hx hlk e0 (t := .boolean) Bd.returns (by simp) (hb hby d5_13) (by decide) (by decide) (z' := (0 : Int32)) rfl ?_
    refine ⟨Nf, rfl, _, rfl, Or.inr ⟨rfl, ?_⟩⟩
    show ¬ (_ ∧ _ ∧ _ ∧ _)
    simp only [Int.reduceSub]
    omega
  · skip
    refine s_icmpNo (pc' := 5) X0.here hx (hb hby d5_2) rfl (fltI (x := p2) (y := (4 : Int32)) hc2).2.2.1 ?_
    refine s_iloadN (pc' := 6) X0.here hx (hb hby d5_5) rfl rfl ?_
    refine s_iloadN (pc' := 7) X0.here hx (hb hby d5_6) rfl rfl ?_
    refine s_iconst (pc' := 8) (z := (2 : Int32)) X0.here hx (hb hby d5_7) rfl rfl ?_
    refine s_iadd (pc' := 9) X0.here hx (hb hby d5_8) rfl ?_
    by_cases hc9 : (4 : Int) < ((p1 + (2 : Int32))).toInt
    · skip
      refine s_icmpNo (pc' := 12) X0.here hx (hb hby d5_9) rfl (tltI (x := (4 : Int32)) (y := (p1 + (2 : Int32))) hc9).2.1 ?_
      refine s_iconst (pc' := 13) (z := (0 : Int32)) X0.here hx (hb hby d5_12) rfl rfl ?_
      refine winN X0 hx hlk e0 (t := .boolean) Bd.returns (by simp) (hb hby d5_13) (by decide) (by decide) (z' := (0 : Int32)) rfl ?_
      refine ⟨Nf, rfl, _, rfl, Or.inr ⟨rfl, ?_⟩⟩
      show ¬ (_ ∧ _ ∧ _ ∧ _)
      simp only [Int.reduceSub]
      omega
    · skip
      refine s_icmpYes (pc' := 14) X0.here hx (hb hby d5_9) (fltI (x := (4 : Int32)) (y := (p1 + (2 : Int32))) hc9).2.1 (by decide) (by decide) ?_
      refine s_aloadN (pc' := 15) X0.here hx (hb hby d5_14) rfl rfl rfl ?_
      refine s_iloadN (pc' := 16) X0.here hx (hb hby d5_15) rfl rfl ?_
      refine s_iconst (pc' := 17) (z := (1 : Int32)) X0.here hx (hb hby d5_16) rfl rfl ?_
      refine Win.go (fun _ k => XS.isub X0.here hx rfl (hb hby d5_17) rfl k) ?_
      show Win p.tables e below _ (s₁.setTop (mkF m 18 #[.val (.ref a), .val (.int p1), .val (.int p2), .val (.int (4 : Int32))] [(.int (3 : Int32)), (.ref a)]))
      obtain ⟨cl_15, Ar_15, S_15, G_15⟩ := id A_a
      have hb_15 : 0 ≤ ((3 : Int32)).toInt ∧ ((3 : Int32)).toInt < 6 := by decide
      refine Win.go (fun _ k => X0.baloadBytes hx (j := (3 : Int32)) (v := (.int (f (3 : Int)))) (by rw [e0]; exact Ar_15.1) (State.isArrayOf_alike hZ.alike Ar_15.2.1) Ar_15.2.2 (AF.inb S_15 hb_15) (G_15 _ hb_15.1 hb_15.2) (g := (mkF m 18 #[.val (.ref a), .val (.int p1), .val (.int p2), .val (.int (4 : Int32))] [(.int (3 : Int32)), (.ref a)])) rfl rfl (hb hby d5_18) _ k) ?_
      show Win p.tables e below _ (s₁.setTop (mkF m 19 #[.val (.ref a), .val (.int p1), .val (.int p2), .val (.int (4 : Int32))] [(.int (f (3 : Int)))]))
      clear Ar_15 S_15 G_15 hb_15
      refine s_bipush (pc' := 21) (z := (10 : Int32)) X0.here hx (hb hby d5_19) rfl rfl ?_
      by_cases hc21 : ((f (3 : Int))).toInt = (10 : Int)
      · skip
        refine s_icmpYes (pc' := 26) X0.here hx (hb hby d5_21) (teqI (x := (f (3 : Int))) (y := (10 : Int32)) hc21).1 (by decide) (by decide) ?_
        refine s_aloadN (pc' := 27) X0.here hx (hb hby d5_26) rfl rfl rfl ?_
        refine s_iloadN (pc' := 28) X0.here hx (hb hby d5_27) rfl rfl ?_
        refine s_iconst (pc' := 29) (z := (2 : Int32)) X0.here hx (hb hby d5_28) rfl rfl ?_
        refine Win.go (fun _ k => XS.isub X0.here hx rfl (hb hby d5_29) rfl k) ?_
        show Win p.tables e below _ (s₁.setTop (mkF m 30 #[.val (.ref a), .val (.int p1), .val (.int p2), .val (.int (4 : Int32))] [(.int (2 : Int32)), (.ref a)]))
        obtain ⟨cl_16, Ar_16, S_16, G_16⟩ := id A_a
        have hb_16 : 0 ≤ ((2 : Int32)).toInt ∧ ((2 : Int32)).toInt < 6 := by decide
        refine Win.go (fun _ k => X0.baloadBytes hx (j := (2 : Int32)) (v := (.int (f (2 : Int)))) (by rw [e0]; exact Ar_16.1) (State.isArrayOf_alike hZ.alike Ar_16.2.1) Ar_16.2.2 (AF.inb S_16 hb_16) (G_16 _ hb_16.1 hb_16.2) (g := (mkF m 30 #[.val (.ref a), .val (.int p1), .val (.int p2), .val (.int (4 : Int32))] [(.int (2 : Int32)), (.ref a)])) rfl rfl (hb hby d5_30) _ k) ?_
        show Win p.tables e below _ (s₁.setTop (mkF m 31 #[.val (.ref a), .val (.int p1), .val (.int p2), .val (.int (4 : Int32))] [(.int (f (2 : Int)))]))
        clear Ar_16 S_16 G_16 hb_16
        refine s_bipush (pc' := 33) (z := (10 : Int32)) X0.here hx (hb hby d5_31) rfl rfl ?_
        by_cases hc33 : ((f (2 : Int))).toInt = (10 : Int)
        · skip
          refine s_icmpNo (pc' := 36) X0.here hx (hb hby d5_33) rfl (teqI (x := (f (2 : Int))) (y := (10 : Int32)) hc33).2 ?_
          refine s_iconst (pc' := 37) (z := (1 : Int32)) X0.here hx (hb hby d5_36) rfl rfl ?_
          refine winN X0 hx hlk e0 (t := .boolean) Bd.returns (by simp) (hb hby d5_37) (by decide) (by decide) (z' := (1 : Int32)) rfl ?_
          refine ⟨Nf, rfl, _, rfl, Or.inl ⟨rfl, ?_⟩⟩
          show _ ∧ _ ∧ _ ∧ _
          simp only [Int.reduceSub]
          omega
        · skip
          refine s_icmpYes (pc' := 38) X0.here hx (hb hby d5_33) (feqI (x := (f (2 : Int))) (y := (10 : Int32)) hc33).2 (by decide) (by decide) ?_
          refine s_iloadN (pc' := 39) X0.here hx (hb hby d5_38) rfl rfl ?_
          refine s_iconst (pc' := 40) (z := (3 : Int32)) X0.here hx (hb hby d5_39) rfl rfl ?_
          refine Win.go (fun _ k => XS.isub X0.here hx rfl (hb hby d5_40) rfl k) ?_
          show Win p.tables e below _ (s₁.setTop (mkF m 41 #[.val (.ref a), .val (.int p1), .val (.int p2), .val (.int (4 : Int32))] [(.int (1 : Int32))]))
          refine s_iloadN (pc' := 42) X0.here hx (hb hby d5_41) rfl rfl ?_
          by_cases hc42 : (1 : Int) < (p1).toInt
          · skip
            refine s_icmpYes (pc' := 69) X0.here hx (hb hby d5_42) (tltI (x := (1 : Int32)) (y := p1) hc42).1 (by decide) (by decide) ?_
            refine s_iconst (pc' := 70) (z := (0 : Int32)) X0.here hx (hb hby d5_69) rfl rfl ?_
            refine winN X0 hx hlk e0 (t := .boolean) Bd.returns (by simp) (hb hby d5_70) (by decide) (by decide) (z' := (0 : Int32)) rfl ?_
            refine ⟨Nf, rfl, _, rfl, Or.inr ⟨rfl, ?_⟩⟩
            show ¬ (_ ∧ _ ∧ _ ∧ _)
            simp only [Int.reduceSub]
            omega
          · skip
            refine s_icmpNo (pc' := 45) X0.here hx (hb hby d5_42) rfl (fltI (x := (1 : Int32)) (y := p1) hc42).1 ?_
            refine s_aloadN (pc' := 46) X0.here hx (hb hby d5_45) rfl rfl rfl ?_
            refine s_iloadN (pc' := 47) X0.here hx (hb hby d5_46) rfl rfl ?_
            refine s_iconst (pc' := 48) (z := (2 : Int32)) X0.here hx (hb hby d5_47) rfl rfl ?_
            refine Win.go (fun _ k => XS.isub X0.here hx rfl (hb hby d5_48) rfl k) ?_
            show Win p.tables e below _ (s₁.setTop (mkF m 49 #[.val (.ref a), .val (.int p1), .val (.int p2), .val (.int (4 : Int32))] [(.int (2 : Int32)), (.ref a)]))
            obtain ⟨cl_17, Ar_17, S_17, G_17⟩ := id A_a
            have hb_17 : 0 ≤ ((2 : Int32)).toInt ∧ ((2 : Int32)).toInt < 6 := by decide
            refine Win.go (fun _ k => X0.baloadBytes hx (j := (2 : Int32)) (v := (.int (f (2 : Int)))) (by rw [e0]; exact Ar_17.1) (State.isArrayOf_alike hZ.alike Ar_17.2.1) Ar_17.2.2 (AF.inb S_17 hb_17) (G_17 _ hb_17.1 hb_17.2) (g := (mkF m 49 #[.val (.ref a), .val (.int p1), .val (.int p2), .val (.int (4 : Int32))] [(.int (2 : Int32)), (.ref a)])) rfl rfl (hb hby d5_49) _ k) ?_
            show Win p.tables e below _ (s₁.setTop (mkF m 50 #[.val (.ref a), .val (.int p1), .val (.int p2), .val (.int (4 : Int32))] [(.int (f (2 : Int)))]))
            clear Ar_17 S_17 G_17 hb_17
            refine s_bipush (pc' := 52) (z := (13 : Int32)) X0.here hx (hb hby d5_50) rfl rfl ?_
            by_cases hc52 : ((f (2 : Int))).toInt = (13 : Int)
            · skip
              refine s_icmpNo (pc' := 55) X0.here hx (hb hby d5_52) rfl (teqI (x := (f (2 : Int))) (y := (13 : Int32)) hc52).2 ?_
              refine s_aloadN (pc' := 56) X0.here hx (hb hby d5_55) rfl rfl rfl ?_
              refine s_iloadN (pc' := 57) X0.here hx (hb hby d5_56) rfl rfl ?_
              refine s_iconst (pc' := 58) (z := (3 : Int32)) X0.here hx (hb hby d5_57) rfl rfl ?_
              refine Win.go (fun _ k => XS.isub X0.here hx rfl (hb hby d5_58) rfl k) ?_
              show Win p.tables e below _ (s₁.setTop (mkF m 59 #[.val (.ref a), .val (.int p1), .val (.int p2), .val (.int (4 : Int32))] [(.int (1 : Int32)), (.ref a)]))
              obtain ⟨cl_18, Ar_18, S_18, G_18⟩ := id A_a
              have hb_18 : 0 ≤ ((1 : Int32)).toInt ∧ ((1 : Int32)).toInt < 6 := by decide
              refine Win.go (fun _ k => X0.baloadBytes hx (j := (1 : Int32)) (v := (.int (f (1 : Int)))) (by rw [e0]; exact Ar_18.1) (State.isArrayOf_alike hZ.alike Ar_18.2.1) Ar_18.2.2 (AF.inb S_18 hb_18) (G_18 _ hb_18.1 hb_18.2) (g := (mkF m 59 #[.val (.ref a), .val (.int p1), .val (.int p2), .val (.int (4 : Int32))] [(.int (1 : Int32)), (.ref a)])) rfl rfl (hb hby d5_59) _ k) ?_
              show Win p.tables e below _ (s₁.setTop (mkF m 60 #[.val (.ref a), .val (.int p1), .val (.int p2), .val (.int (4 : Int32))] [(.int (f (1 : Int)))]))
              clear Ar_18 S_18 G_18 hb_18
              refine s_bipush (pc' := 62) (z := (10 : Int32)) X0.here hx (hb hby d5_60) rfl rfl ?_
              by_cases hc62 : ((f (1 : Int))).toInt = (10 : Int)
              · skip
                refine s_icmpNo (pc' := 65) X0.here hx (hb hby d5_62) rfl (teqI (x := (f (1 : Int))) (y := (10 : Int32)) hc62).2 ?_
                refine s_iconst (pc' := 66) (z := (1 : Int32)) X0.here hx (hb hby d5_65) rfl rfl ?_
                refine s_goto (pc' := 70) X0.here hx (hb hby d5_66) (by decide) (by decide) ?_
                refine winN X0 hx hlk e0 (t := .boolean) Bd.returns (by simp) (hb hby d5_70) (by decide) (by decide) (z' := (1 : Int32)) rfl ?_
                refine ⟨Nf, rfl, _, rfl, Or.inl ⟨rfl, ?_⟩⟩
                show _ ∧ _ ∧ _ ∧ _
                simp only [Int.reduceSub]
                omega
              · skip
                refine s_icmpYes (pc' := 69) X0.here hx (hb hby d5_62) (feqI (x := (f (1 : Int))) (y := (10 : Int32)) hc62).2 (by decide) (by decide) ?_
                refine s_iconst (pc' := 70) (z := (0 : Int32)) X0.here hx (hb hby d5_69) rfl rfl ?_
                refine winN X0 hx hlk e0 (t := .boolean) Bd.returns (by simp) (hb hby d5_70) (by decide) (by decide) (z' := (0 : Int32)) rfl ?_
                refine ⟨Nf, rfl, _, rfl, Or.inr ⟨rfl, ?_⟩⟩
                show ¬ (_ ∧ _ ∧ _ ∧ _)
                simp only [Int.reduceSub]
                omega
            · skip
              refine s_icmpYes (pc' := 69) X0.here hx (hb hby d5_52) (feqI (x := (f (2 : Int))) (y := (13 : Int32)) hc52).2 (by decide) (by decide) ?_
              refine s_iconst (pc' := 70) (z := (0 : Int32)) X0.here hx (hb hby d5_69) rfl rfl ?_
              refine winN X0 hx hlk e0 (t := .boolean) Bd.returns (by simp) (hb hby d5_70) (by decide) (by decide) (z' := (0 : Int32)) rfl ?_
              refine ⟨Nf, rfl, _, rfl, Or.inr ⟨rfl, ?_⟩⟩
              show ¬ (_ ∧ _ ∧ _ ∧ _)
              simp only [Int.reduceSub]
              omega
      · skip
        refine s_icmpNo (pc' := 24) X0.here hx (hb hby d5_21) rfl (feqI (x := (f (3 : Int))) (y := (10 : Int32)) hc21).1 ?_
        refine s_iconst (pc' := 25) (z := (0 : Int32)) X0.here hx (hb hby d5_24) rfl rfl ?_
        refine winN X0 hx hlk e0 (t := .boolean) Bd.returns (by simp) (hb hby d5_25) (by decide) (by decide) (z' := (0 : Int32)) rfl ?_
        refine ⟨Nf, rfl, _, rfl, Or.inr ⟨rfl, ?_⟩⟩
        show ¬ (_ ∧ _ ∧ _ ∧ _)
        simp only [Int.reduceSub]
        omega
theorem ef_5_5 (m : MethodId) (a : Addr) (p1 : Int32) (p2 : Int32) : entryFrame m #[(.ref a), (.int p1), (.int p2), (.int (5 : Int32))] 4 = mkF m 0 #[.val (.ref a), .val (.int p1), .val (.int p2), .val (.int (5 : Int32))] [] := by first | (simp [entryFrame, mkF, argsToLocals, Value.category]; done) | rfl
def Q5_5 (Z : State) (a : Addr) (p1 : Int32) (p2 : Int32) (f : Int → Int32) (h0 : Heap) (n0 : Nat) (v : Option Value) (h : Heap) (L : List Loc) : Prop := Fr n0 L ∧ h = h0 ∧ (∃ z : Int32, v = some (.int z) ∧ ((z.toInt = 1 ∧ (En f p1.toInt p2.toInt 5)) ∨ (z.toInt = 0 ∧ ¬ (En f p1.toInt p2.toInt 5))))
set_option maxRecDepth 65536 in
set_option maxHeartbeats 40000000 in
theorem rm5_5 (l : Launch) (Z : State) (a0 : Array Value) (hw : ∀ d ∈ tables_1, d.before a0 Z = true) (ws : List Jvm.Cond) (a : Addr) (p1 : Int32) (p2 : Int32) (f : Int → Int32) (h0 : Heap) (n0 : Nat) (Zs : n0 ≤ h0.size) (A_a : AF Z h0 a .byte 6 f) (hp : 0 ≤ p1.toInt ∧ p1.toInt ≤ 6 ∧ p2.toInt ≤ 6) :
    MetFree l (⟨"com/example/throttle/throttle/app/HttpRequestHeadEndPinLaw", "endsHead", "([BIII)Z"⟩ : MethodName) (head1 (Jvm.Cond.code (⟨"com/example/throttle/throttle/app/HttpRequestHeadEndPinLaw", "endsHead", "([BIII)Z"⟩ : MethodName) method_4_code 4 (some .boolean) :: ws) ({ frames := 0, cells := 0, slots := 0, locals := 0 } : Room)) (fun as' U => as' = #[(.ref a), (.int p1), (.int p2), (.int (5 : Int32))] ∧ Z.Warmed39 U.vm ∧ U.heap = h0) (fun _ _ _ _ _ => True) (fun _ U o U' => ∃ v L, o = .returned v ∧ Q5_5 Z a p1 p2 f h0 n0 v U'.heap L ∧ FrameEnd U o U' L ({ frames := 0, cells := 0, slots := 0, locals := 0 } : Room).cells ({ frames := 0, cells := 0, slots := 0, locals := 0 } : Room).slots) := by
  refine MetFree.of_bodySF (plainFor_of_name pn_1) hisR ?_
  intro p e s m args below meth c s₁ Bd hml0 hP hK
  obtain ⟨rfl, hZ, hh⟩ := hP
  have hx := Bd.exec
  have hby := Bd.bytes
  have hml : c.maxLocals = 4 := hml0
  have hown : s.vm.findClass "com/example/throttle/throttle/app/HttpRequestHeadEndPinLaw" = some m.cls := findClass_of_methodNamed Bd.named
  have hnm := (name_of_methodNamed Bd.named Bd.method).1
  have hlk : meth.locks = false := Bd.notSynchronized
  have X0 : Stand p l e ({ frames := 0, cells := 0, slots := 0, locals := 0 } : Room) s m #[(.ref a), (.int p1), (.int p2), (.int (5 : Int32))] below meth c s₁ [] 0 0 := Stand.of_body Bd
  have e0 : s₁.heap = h0 := by rw [← hh, Bd.state]; rfl
  have Nf := Fr.nil n0
  refine (?_ : Win p.tables e below (PostQ s (Q5_5 Z a p1 p2 f h0 n0) ({ frames := 0, cells := 0, slots := 0, locals := 0 } : Room).cells ({ frames := 0, cells := 0, slots := 0, locals := 0 } : Room).slots) (s₁.setTop (entryFrame m #[(.ref a), (.int p1), (.int p2), (.int (5 : Int32))] 4)))
  rw [ef_5_5]
  have lt_a : a < h0.size := A_a.lt
  show Win p.tables e below _ (s₁.setTop (mkF m 0 #[.val (.ref a), .val (.int p1), .val (.int p2), .val (.int (5 : Int32))] []))
  have i2 : (p1 + (2 : Int32)).toInt = p1.toInt + 2 := by have := c_iadd p1 2; have := rng32 (p1 + 2); have : (2 : Int32).toInt = 2 := rfl; omega
  refine s_iloadN (pc' := 1) X0.here hx (hb hby d5_0) rfl rfl ?_
  refine s_iloadN (pc' := 2) X0.here hx (hb hby d5_1) rfl rfl ?_
  by_cases hc2 : (p2).toInt < (5 : Int)
  · skip
    refine s_icmpYes (pc' := 12) X0.here hx (hb hby d5_2) (tltI (x := p2) (y := (5 : Int32)) hc2).2.2.1 (by decide) (by decide) ?_
    refine s_iconst (pc' := 13) (z := (0 : Int32)) X0.here hx (hb hby d5_12) rfl rfl ?_
    refine winN X0 hx hlk e0 (t := .boolean) Bd.returns (by simp) (hb hby d5_13) (by decide) (by decide) (z' := (0 : Int32)) rfl ?_
    refine ⟨Nf, rfl, _, rfl, Or.inr ⟨rfl, ?_⟩⟩
    show ¬ (_ ∧ _ ∧ _ ∧ _)
    simp only [Int.reduceSub]
    omega
  · skip
    refine s_icmpNo (pc' := 5) X0.here hx (hb hby d5_2) rfl (fltI (x := p2) (y := (5 : Int32)) hc2).2.2.1 ?_
    refine s_iloadN (pc' := 6) X0.here hx (hb hby d5_5) rfl rfl ?_
    refine s_iloadN (pc' := 7) X0.here hx (hb hby d5_6) rfl rfl ?_
    refine s_iconst (pc' := 8) (z := (2 : Int32)) X0.here hx (hb hby d5_7) rfl rfl ?_
    refine s_iadd (pc' := 9) X0.here hx (hb hby d5_8) rfl ?_
    by_cases hc9 : (5 : Int) < ((p1 + (2 : Int32))).toInt
    · skip
      refine s_icmpNo (pc' := 12) X0.here hx (hb hby d5_9) rfl (tltI (x := (5 : Int32)) (y := (p1 + (2 : Int32))) hc9).2.1 ?_
      refine s_iconst (pc' := 13) (z := (0 : Int32)) X0.here hx (hb hby d5_12) rfl rfl ?_
      refine winN X0 hx hlk e0 (t := .boolean) Bd.returns (by simp) (hb hby d5_13) (by decide) (by decide) (z' := (0 : Int32)) rfl ?_
      refine ⟨Nf, rfl, _, rfl, Or.inr ⟨rfl, ?_⟩⟩
      show ¬ (_ ∧ _ ∧ _ ∧ _)
      simp only [Int.reduceSub]
      omega
    · skip
      refine s_icmpYes (pc' := 14) X0.here hx (hb hby d5_9) (fltI (x := (5 : Int32)) (y := (p1 + (2 : Int32))) hc9).2.1 (by decide) (by decide) ?_
      refine s_aloadN (pc' := 15) X0.here hx (hb hby d5_14) rfl rfl rfl ?_
      refine s_iloadN (pc' := 16) X0.here hx (hb hby d5_15) rfl rfl ?_
      refine s_iconst (pc' := 17) (z := (1 : Int32)) X0.here hx (hb hby d5_16) rfl rfl ?_
      refine Win.go (fun _ k => XS.isub X0.here hx rfl (hb hby d5_17) rfl k) ?_
      show Win p.tables e below _ (s₁.setTop (mkF m 18 #[.val (.ref a), .val (.int p1), .val (.int p2), .val (.int (5 : Int32))] [(.int (4 : Int32)), (.ref a)]))
      obtain ⟨cl_19, Ar_19, S_19, G_19⟩ := id A_a
      have hb_19 : 0 ≤ ((4 : Int32)).toInt ∧ ((4 : Int32)).toInt < 6 := by decide
      refine Win.go (fun _ k => X0.baloadBytes hx (j := (4 : Int32)) (v := (.int (f (4 : Int)))) (by rw [e0]; exact Ar_19.1) (State.isArrayOf_alike hZ.alike Ar_19.2.1) Ar_19.2.2 (AF.inb S_19 hb_19) (G_19 _ hb_19.1 hb_19.2) (g := (mkF m 18 #[.val (.ref a), .val (.int p1), .val (.int p2), .val (.int (5 : Int32))] [(.int (4 : Int32)), (.ref a)])) rfl rfl (hb hby d5_18) _ k) ?_
      show Win p.tables e below _ (s₁.setTop (mkF m 19 #[.val (.ref a), .val (.int p1), .val (.int p2), .val (.int (5 : Int32))] [(.int (f (4 : Int)))]))
      clear Ar_19 S_19 G_19 hb_19
      refine s_bipush (pc' := 21) (z := (10 : Int32)) X0.here hx (hb hby d5_19) rfl rfl ?_
      by_cases hc21 : ((f (4 : Int))).toInt = (10 : Int)
      · skip
        refine s_icmpYes (pc' := 26) X0.here hx (hb hby d5_21) (teqI (x := (f (4 : Int))) (y := (10 : Int32)) hc21).1 (by decide) (by decide) ?_
        refine s_aloadN (pc' := 27) X0.here hx (hb hby d5_26) rfl rfl rfl ?_
        refine s_iloadN (pc' := 28) X0.here hx (hb hby d5_27) rfl rfl ?_
        refine s_iconst (pc' := 29) (z := (2 : Int32)) X0.here hx (hb hby d5_28) rfl rfl ?_
        refine Win.go (fun _ k => XS.isub X0.here hx rfl (hb hby d5_29) rfl k) ?_
        show Win p.tables e below _ (s₁.setTop (mkF m 30 #[.val (.ref a), .val (.int p1), .val (.int p2), .val (.int (5 : Int32))] [(.int (3 : Int32)), (.ref a)]))
        obtain ⟨cl_20, Ar_20, S_20, G_20⟩ := id A_a
        have hb_20 : 0 ≤ ((3 : Int32)).toInt ∧ ((3 : Int32)).toInt < 6 := by decide
        refine Win.go (fun _ k => X0.baloadBytes hx (j := (3 : Int32)) (v := (.int (f (3 : Int)))) (by rw [e0]; exact Ar_20.1) (State.isArrayOf_alike hZ.alike Ar_20.2.1) Ar_20.2.2 (AF.inb S_20 hb_20) (G_20 _ hb_20.1 hb_20.2) (g := (mkF m 30 #[.val (.ref a), .val (.int p1), .val (.int p2), .val (.int (5 : Int32))] [(.int (3 : Int32)), (.ref a)])) rfl rfl (hb hby d5_30) _ k) ?_
        show Win p.tables e below _ (s₁.setTop (mkF m 31 #[.val (.ref a), .val (.int p1), .val (.int p2), .val (.int (5 : Int32))] [(.int (f (3 : Int)))]))
        clear Ar_20 S_20 G_20 hb_20
        refine s_bipush (pc' := 33) (z := (10 : Int32)) X0.here hx (hb hby d5_31) rfl rfl ?_
        by_cases hc33 : ((f (3 : Int))).toInt = (10 : Int)
        · skip
          refine s_icmpNo (pc' := 36) X0.here hx (hb hby d5_33) rfl (teqI (x := (f (3 : Int))) (y := (10 : Int32)) hc33).2 ?_
          refine s_iconst (pc' := 37) (z := (1 : Int32)) X0.here hx (hb hby d5_36) rfl rfl ?_
          refine winN X0 hx hlk e0 (t := .boolean) Bd.returns (by simp) (hb hby d5_37) (by decide) (by decide) (z' := (1 : Int32)) rfl ?_
          refine ⟨Nf, rfl, _, rfl, Or.inl ⟨rfl, ?_⟩⟩
          show _ ∧ _ ∧ _ ∧ _
          simp only [Int.reduceSub]
          omega
        · skip
          refine s_icmpYes (pc' := 38) X0.here hx (hb hby d5_33) (feqI (x := (f (3 : Int))) (y := (10 : Int32)) hc33).2 (by decide) (by decide) ?_
          refine s_iloadN (pc' := 39) X0.here hx (hb hby d5_38) rfl rfl ?_
          refine s_iconst (pc' := 40) (z := (3 : Int32)) X0.here hx (hb hby d5_39) rfl rfl ?_
          refine Win.go (fun _ k => XS.isub X0.here hx rfl (hb hby d5_40) rfl k) ?_
          show Win p.tables e below _ (s₁.setTop (mkF m 41 #[.val (.ref a), .val (.int p1), .val (.int p2), .val (.int (5 : Int32))] [(.int (2 : Int32))]))
          refine s_iloadN (pc' := 42) X0.here hx (hb hby d5_41) rfl rfl ?_
          by_cases hc42 : (2 : Int) < (p1).toInt
          · skip
            refine s_icmpYes (pc' := 69) X0.here hx (hb hby d5_42) (tltI (x := (2 : Int32)) (y := p1) hc42).1 (by decide) (by decide) ?_
            refine s_iconst (pc' := 70) (z := (0 : Int32)) X0.here hx (hb hby d5_69) rfl rfl ?_
            refine winN X0 hx hlk e0 (t := .boolean) Bd.returns (by simp) (hb hby d5_70) (by decide) (by decide) (z' := (0 : Int32)) rfl ?_
            refine ⟨Nf, rfl, _, rfl, Or.inr ⟨rfl, ?_⟩⟩
            show ¬ (_ ∧ _ ∧ _ ∧ _)
            simp only [Int.reduceSub]
            omega
          · skip
            refine s_icmpNo (pc' := 45) X0.here hx (hb hby d5_42) rfl (fltI (x := (2 : Int32)) (y := p1) hc42).1 ?_
            refine s_aloadN (pc' := 46) X0.here hx (hb hby d5_45) rfl rfl rfl ?_
            refine s_iloadN (pc' := 47) X0.here hx (hb hby d5_46) rfl rfl ?_
            refine s_iconst (pc' := 48) (z := (2 : Int32)) X0.here hx (hb hby d5_47) rfl rfl ?_
            refine Win.go (fun _ k => XS.isub X0.here hx rfl (hb hby d5_48) rfl k) ?_
            show Win p.tables e below _ (s₁.setTop (mkF m 49 #[.val (.ref a), .val (.int p1), .val (.int p2), .val (.int (5 : Int32))] [(.int (3 : Int32)), (.ref a)]))
            obtain ⟨cl_21, Ar_21, S_21, G_21⟩ := id A_a
            have hb_21 : 0 ≤ ((3 : Int32)).toInt ∧ ((3 : Int32)).toInt < 6 := by decide
            refine Win.go (fun _ k => X0.baloadBytes hx (j := (3 : Int32)) (v := (.int (f (3 : Int)))) (by rw [e0]; exact Ar_21.1) (State.isArrayOf_alike hZ.alike Ar_21.2.1) Ar_21.2.2 (AF.inb S_21 hb_21) (G_21 _ hb_21.1 hb_21.2) (g := (mkF m 49 #[.val (.ref a), .val (.int p1), .val (.int p2), .val (.int (5 : Int32))] [(.int (3 : Int32)), (.ref a)])) rfl rfl (hb hby d5_49) _ k) ?_
            show Win p.tables e below _ (s₁.setTop (mkF m 50 #[.val (.ref a), .val (.int p1), .val (.int p2), .val (.int (5 : Int32))] [(.int (f (3 : Int)))]))
            clear Ar_21 S_21 G_21 hb_21
            refine s_bipush (pc' := 52) (z := (13 : Int32)) X0.here hx (hb hby d5_50) rfl rfl ?_
            by_cases hc52 : ((f (3 : Int))).toInt = (13 : Int)
            · skip
              refine s_icmpNo (pc' := 55) X0.here hx (hb hby d5_52) rfl (teqI (x := (f (3 : Int))) (y := (13 : Int32)) hc52).2 ?_
              refine s_aloadN (pc' := 56) X0.here hx (hb hby d5_55) rfl rfl rfl ?_
              refine s_iloadN (pc' := 57) X0.here hx (hb hby d5_56) rfl rfl ?_
              refine s_iconst (pc' := 58) (z := (3 : Int32)) X0.here hx (hb hby d5_57) rfl rfl ?_
              refine Win.go (fun _ k => XS.isub X0.here hx rfl (hb hby d5_58) rfl k) ?_
              show Win p.tables e below _ (s₁.setTop (mkF m 59 #[.val (.ref a), .val (.int p1), .val (.int p2), .val (.int (5 : Int32))] [(.int (2 : Int32)), (.ref a)]))
              obtain ⟨cl_22, Ar_22, S_22, G_22⟩ := id A_a
              have hb_22 : 0 ≤ ((2 : Int32)).toInt ∧ ((2 : Int32)).toInt < 6 := by decide
              refine Win.go (fun _ k => X0.baloadBytes hx (j := (2 : Int32)) (v := (.int (f (2 : Int)))) (by rw [e0]; exact Ar_22.1) (State.isArrayOf_alike hZ.alike Ar_22.2.1) Ar_22.2.2 (AF.inb S_22 hb_22) (G_22 _ hb_22.1 hb_22.2) (g := (mkF m 59 #[.val (.ref a), .val (.int p1), .val (.int p2), .val (.int (5 : Int32))] [(.int (2 : Int32)), (.ref a)])) rfl rfl (hb hby d5_59) _ k) ?_
              show Win p.tables e below _ (s₁.setTop (mkF m 60 #[.val (.ref a), .val (.int p1), .val (.int p2), .val (.int (5 : Int32))] [(.int (f (2 : Int)))]))
              clear Ar_22 S_22 G_22 hb_22
              refine s_bipush (pc' := 62) (z := (10 : Int32)) X0.here hx (hb hby d5_60) rfl rfl ?_
              by_cases hc62 : ((f (2 : Int))).toInt = (10 : Int)
              · skip
                refine s_icmpNo (pc' := 65) X0.here hx (hb hby d5_62) rfl (teqI (x := (f (2 : Int))) (y := (10 : Int32)) hc62).2 ?_
                refine s_iconst (pc' := 66) (z := (1 : Int32)) X0.here hx (hb hby d5_65) rfl rfl ?_
                refine s_goto (pc' := 70) X0.here hx (hb hby d5_66) (by decide) (by decide) ?_
                refine winN X0 hx hlk e0 (t := .boolean) Bd.returns (by simp) (hb hby d5_70) (by decide) (by decide) (z' := (1 : Int32)) rfl ?_
                refine ⟨Nf, rfl, _, rfl, Or.inl ⟨rfl, ?_⟩⟩
                show _ ∧ _ ∧ _ ∧ _
                simp only [Int.reduceSub]
                omega
              · skip
                refine s_icmpYes (pc' := 69) X0.here hx (hb hby d5_62) (feqI (x := (f (2 : Int))) (y := (10 : Int32)) hc62).2 (by decide) (by decide) ?_
                refine s_iconst (pc' := 70) (z := (0 : Int32)) X0.here hx (hb hby d5_69) rfl rfl ?_
                refine winN X0 hx hlk e0 (t := .boolean) Bd.returns (by simp) (hb hby d5_70) (by decide) (by decide) (z' := (0 : Int32)) rfl ?_
                refine ⟨Nf, rfl, _, rfl, Or.inr ⟨rfl, ?_⟩⟩
                show ¬ (_ ∧ _ ∧ _ ∧ _)
                simp only [Int.reduceSub]
                omega
            · skip
              refine s_icmpYes (pc' := 69) X0.here hx (hb hby d5_52) (feqI (x := (f (3 : Int))) (y := (13 : Int32)) hc52).2 (by decide) (by decide) ?_
              refine s_iconst (pc' := 70) (z := (0 : Int32)) X0.here hx (hb hby d5_69) rfl rfl ?_
              refine winN X0 hx hlk e0 (t := .boolean) Bd.returns (by simp) (hb hby d5_70) (by decide) (by decide) (z' := (0 : Int32)) rfl ?_
              refine ⟨Nf, rfl, _, rfl, Or.inr ⟨rfl, ?_⟩⟩
              show ¬ (_ ∧ _ ∧ _ ∧ _)
              simp only [Int.reduceSub]
              omega
      · skip
        refine s_icmpNo (pc' := 24) X0.here hx (hb hby d5_21) rfl (feqI (x := (f (4 : Int))) (y := (10 : Int32)) hc21).1 ?_
        refine s_iconst (pc' := 25) (z := (0 : Int32)) X0.here hx (hb hby d5_24) rfl rfl ?_
        refine winN X0 hx hlk e0 (t := .boolean) Bd.returns (by simp) (hb hby d5_25) (by decide) (by decide) (z' := (0 : Int32)) rfl ?_
        refine ⟨Nf, rfl, _, rfl, Or.inr ⟨rfl, ?_⟩⟩
        show ¬ (_ ∧ _ ∧ _ ∧ _)
        simp only [Int.reduceSub]
        omega
theorem ef_5_6 (m : MethodId) (a : Addr) (p1 : Int32) (p2 : Int32) : entryFrame m #[(.ref a), (.int p1), (.int p2), (.int (6 : Int32))] 4 = mkF m 0 #[.val (.ref a), .val (.int p1), .val (.int p2), .val (.int (6 : Int32))] [] := by first | (simp [entryFrame, mkF, argsToLocals, Value.category]; done) | rfl
def Q5_6 (Z : State) (a : Addr) (p1 : Int32) (p2 : Int32) (f : Int → Int32) (h0 : Heap) (n0 : Nat) (v : Option Value) (h : Heap) (L : List Loc) : Prop := Fr n0 L ∧ h = h0 ∧ (∃ z : Int32, v = some (.int z) ∧ ((z.toInt = 1 ∧ (En f p1.toInt p2.toInt 6)) ∨ (z.toInt = 0 ∧ ¬ (En f p1.toInt p2.toInt 6))))
set_option maxRecDepth 65536 in
set_option maxHeartbeats 40000000 in
theorem rm5_6 (l : Launch) (Z : State) (a0 : Array Value) (hw : ∀ d ∈ tables_1, d.before a0 Z = true) (ws : List Jvm.Cond) (a : Addr) (p1 : Int32) (p2 : Int32) (f : Int → Int32) (h0 : Heap) (n0 : Nat) (Zs : n0 ≤ h0.size) (A_a : AF Z h0 a .byte 6 f) (hp : 0 ≤ p1.toInt ∧ p1.toInt ≤ 6 ∧ p2.toInt ≤ 6) :
    MetFree l (⟨"com/example/throttle/throttle/app/HttpRequestHeadEndPinLaw", "endsHead", "([BIII)Z"⟩ : MethodName) (head1 (Jvm.Cond.code (⟨"com/example/throttle/throttle/app/HttpRequestHeadEndPinLaw", "endsHead", "([BIII)Z"⟩ : MethodName) method_4_code 4 (some .boolean) :: ws) ({ frames := 0, cells := 0, slots := 0, locals := 0 } : Room)) (fun as' U => as' = #[(.ref a), (.int p1), (.int p2), (.int (6 : Int32))] ∧ Z.Warmed39 U.vm ∧ U.heap = h0) (fun _ _ _ _ _ => True) (fun _ U o U' => ∃ v L, o = .returned v ∧ Q5_6 Z a p1 p2 f h0 n0 v U'.heap L ∧ FrameEnd U o U' L ({ frames := 0, cells := 0, slots := 0, locals := 0 } : Room).cells ({ frames := 0, cells := 0, slots := 0, locals := 0 } : Room).slots) := by
  refine MetFree.of_bodySF (plainFor_of_name pn_1) hisR ?_
  intro p e s m args below meth c s₁ Bd hml0 hP hK
  obtain ⟨rfl, hZ, hh⟩ := hP
  have hx := Bd.exec
  have hby := Bd.bytes
  have hml : c.maxLocals = 4 := hml0
  have hown : s.vm.findClass "com/example/throttle/throttle/app/HttpRequestHeadEndPinLaw" = some m.cls := findClass_of_methodNamed Bd.named
  have hnm := (name_of_methodNamed Bd.named Bd.method).1
  have hlk : meth.locks = false := Bd.notSynchronized
  have X0 : Stand p l e ({ frames := 0, cells := 0, slots := 0, locals := 0 } : Room) s m #[(.ref a), (.int p1), (.int p2), (.int (6 : Int32))] below meth c s₁ [] 0 0 := Stand.of_body Bd
  have e0 : s₁.heap = h0 := by rw [← hh, Bd.state]; rfl
  have Nf := Fr.nil n0
  refine (?_ : Win p.tables e below (PostQ s (Q5_6 Z a p1 p2 f h0 n0) ({ frames := 0, cells := 0, slots := 0, locals := 0 } : Room).cells ({ frames := 0, cells := 0, slots := 0, locals := 0 } : Room).slots) (s₁.setTop (entryFrame m #[(.ref a), (.int p1), (.int p2), (.int (6 : Int32))] 4)))
  rw [ef_5_6]
  have lt_a : a < h0.size := A_a.lt
  show Win p.tables e below _ (s₁.setTop (mkF m 0 #[.val (.ref a), .val (.int p1), .val (.int p2), .val (.int (6 : Int32))] []))
  have i2 : (p1 + (2 : Int32)).toInt = p1.toInt + 2 := by have := c_iadd p1 2; have := rng32 (p1 + 2); have : (2 : Int32).toInt = 2 := rfl; omega
  refine s_iloadN (pc' := 1) X0.here hx (hb hby d5_0) rfl rfl ?_
  refine s_iloadN (pc' := 2) X0.here hx (hb hby d5_1) rfl rfl ?_
  by_cases hc2 : (p2).toInt < (6 : Int)
  · skip
    refine s_icmpYes (pc' := 12) X0.here hx (hb hby d5_2) (tltI (x := p2) (y := (6 : Int32)) hc2).2.2.1 (by decide) (by decide) ?_
    refine s_iconst (pc' := 13) (z := (0 : Int32)) X0.here hx (hb hby d5_12) rfl rfl ?_
    refine winN X0 hx hlk e0 (t := .boolean) Bd.returns (by simp) (hb hby d5_13) (by decide) (by decide) (z' := (0 : Int32)) rfl ?_
    refine ⟨Nf, rfl, _, rfl, Or.inr ⟨rfl, ?_⟩⟩
    show ¬ (_ ∧ _ ∧ _ ∧ _)
    simp only [Int.reduceSub]
    omega
  · skip
    refine s_icmpNo (pc' := 5) X0.here hx (hb hby d5_2) rfl (fltI (x := p2) (y := (6 : Int32)) hc2).2.2.1 ?_
    refine s_iloadN (pc' := 6) X0.here hx (hb hby d5_5) rfl rfl ?_
    refine s_iloadN (pc' := 7) X0.here hx (hb hby d5_6) rfl rfl ?_
    refine s_iconst (pc' := 8) (z := (2 : Int32)) X0.here hx (hb hby d5_7) rfl rfl ?_
    refine s_iadd (pc' := 9) X0.here hx (hb hby d5_8) rfl ?_
    by_cases hc9 : (6 : Int) < ((p1 + (2 : Int32))).toInt
    · skip
      refine s_icmpNo (pc' := 12) X0.here hx (hb hby d5_9) rfl (tltI (x := (6 : Int32)) (y := (p1 + (2 : Int32))) hc9).2.1 ?_
      refine s_iconst (pc' := 13) (z := (0 : Int32)) X0.here hx (hb hby d5_12) rfl rfl ?_
      refine winN X0 hx hlk e0 (t := .boolean) Bd.returns (by simp) (hb hby d5_13) (by decide) (by decide) (z' := (0 : Int32)) rfl ?_
      refine ⟨Nf, rfl, _, rfl, Or.inr ⟨rfl, ?_⟩⟩
      show ¬ (_ ∧ _ ∧ _ ∧ _)
      simp only [Int.reduceSub]
      omega
    · skip
      refine s_icmpYes (pc' := 14) X0.here hx (hb hby d5_9) (fltI (x := (6 : Int32)) (y := (p1 + (2 : Int32))) hc9).2.1 (by decide) (by decide) ?_
      refine s_aloadN (pc' := 15) X0.here hx (hb hby d5_14) rfl rfl rfl ?_
      refine s_iloadN (pc' := 16) X0.here hx (hb hby d5_15) rfl rfl ?_
      refine s_iconst (pc' := 17) (z := (1 : Int32)) X0.here hx (hb hby d5_16) rfl rfl ?_
      refine Win.go (fun _ k => XS.isub X0.here hx rfl (hb hby d5_17) rfl k) ?_
      show Win p.tables e below _ (s₁.setTop (mkF m 18 #[.val (.ref a), .val (.int p1), .val (.int p2), .val (.int (6 : Int32))] [(.int (5 : Int32)), (.ref a)]))
      obtain ⟨cl_23, Ar_23, S_23, G_23⟩ := id A_a
      have hb_23 : 0 ≤ ((5 : Int32)).toInt ∧ ((5 : Int32)).toInt < 6 := by decide
      refine Win.go (fun _ k => X0.baloadBytes hx (j := (5 : Int32)) (v := (.int (f (5 : Int)))) (by rw [e0]; exact Ar_23.1) (State.isArrayOf_alike hZ.alike Ar_23.2.1) Ar_23.2.2 (AF.inb S_23 hb_23) (G_23 _ hb_23.1 hb_23.2) (g := (mkF m 18 #[.val (.ref a), .val (.int p1), .val (.int p2), .val (.int (6 : Int32))] [(.int (5 : Int32)), (.ref a)])) rfl rfl (hb hby d5_18) _ k) ?_
      show Win p.tables e below _ (s₁.setTop (mkF m 19 #[.val (.ref a), .val (.int p1), .val (.int p2), .val (.int (6 : Int32))] [(.int (f (5 : Int)))]))
      clear Ar_23 S_23 G_23 hb_23
      refine s_bipush (pc' := 21) (z := (10 : Int32)) X0.here hx (hb hby d5_19) rfl rfl ?_
      by_cases hc21 : ((f (5 : Int))).toInt = (10 : Int)
      · skip
        refine s_icmpYes (pc' := 26) X0.here hx (hb hby d5_21) (teqI (x := (f (5 : Int))) (y := (10 : Int32)) hc21).1 (by decide) (by decide) ?_
        refine s_aloadN (pc' := 27) X0.here hx (hb hby d5_26) rfl rfl rfl ?_
        refine s_iloadN (pc' := 28) X0.here hx (hb hby d5_27) rfl rfl ?_
        refine s_iconst (pc' := 29) (z := (2 : Int32)) X0.here hx (hb hby d5_28) rfl rfl ?_
        refine Win.go (fun _ k => XS.isub X0.here hx rfl (hb hby d5_29) rfl k) ?_
        show Win p.tables e below _ (s₁.setTop (mkF m 30 #[.val (.ref a), .val (.int p1), .val (.int p2), .val (.int (6 : Int32))] [(.int (4 : Int32)), (.ref a)]))
        obtain ⟨cl_24, Ar_24, S_24, G_24⟩ := id A_a
        have hb_24 : 0 ≤ ((4 : Int32)).toInt ∧ ((4 : Int32)).toInt < 6 := by decide
        refine Win.go (fun _ k => X0.baloadBytes hx (j := (4 : Int32)) (v := (.int (f (4 : Int)))) (by rw [e0]; exact Ar_24.1) (State.isArrayOf_alike hZ.alike Ar_24.2.1) Ar_24.2.2 (AF.inb S_24 hb_24) (G_24 _ hb_24.1 hb_24.2) (g := (mkF m 30 #[.val (.ref a), .val (.int p1), .val (.int p2), .val (.int (6 : Int32))] [(.int (4 : Int32)), (.ref a)])) rfl rfl (hb hby d5_30) _ k) ?_
        show Win p.tables e below _ (s₁.setTop (mkF m 31 #[.val (.ref a), .val (.int p1), .val (.int p2), .val (.int (6 : Int32))] [(.int (f (4 : Int)))]))
        clear Ar_24 S_24 G_24 hb_24
        refine s_bipush (pc' := 33) (z := (10 : Int32)) X0.here hx (hb hby d5_31) rfl rfl ?_
        by_cases hc33 : ((f (4 : Int))).toInt = (10 : Int)
        · skip
          refine s_icmpNo (pc' := 36) X0.here hx (hb hby d5_33) rfl (teqI (x := (f (4 : Int))) (y := (10 : Int32)) hc33).2 ?_
          refine s_iconst (pc' := 37) (z := (1 : Int32)) X0.here hx (hb hby d5_36) rfl rfl ?_
          refine winN X0 hx hlk e0 (t := .boolean) Bd.returns (by simp) (hb hby d5_37) (by decide) (by decide) (z' := (1 : Int32)) rfl ?_
          refine ⟨Nf, rfl, _, rfl, Or.inl ⟨rfl, ?_⟩⟩
          show _ ∧ _ ∧ _ ∧ _
          simp only [Int.reduceSub]
          omega
        · skip
          refine s_icmpYes (pc' := 38) X0.here hx (hb hby d5_33) (feqI (x := (f (4 : Int))) (y := (10 : Int32)) hc33).2 (by decide) (by decide) ?_
          refine s_iloadN (pc' := 39) X0.here hx (hb hby d5_38) rfl rfl ?_
          refine s_iconst (pc' := 40) (z := (3 : Int32)) X0.here hx (hb hby d5_39) rfl rfl ?_
          refine Win.go (fun _ k => XS.isub X0.here hx rfl (hb hby d5_40) rfl k) ?_
          show Win p.tables e below _ (s₁.setTop (mkF m 41 #[.val (.ref a), .val (.int p1), .val (.int p2), .val (.int (6 : Int32))] [(.int (3 : Int32))]))
          refine s_iloadN (pc' := 42) X0.here hx (hb hby d5_41) rfl rfl ?_
          by_cases hc42 : (3 : Int) < (p1).toInt
          · skip
            refine s_icmpYes (pc' := 69) X0.here hx (hb hby d5_42) (tltI (x := (3 : Int32)) (y := p1) hc42).1 (by decide) (by decide) ?_
            refine s_iconst (pc' := 70) (z := (0 : Int32)) X0.here hx (hb hby d5_69) rfl rfl ?_
            refine winN X0 hx hlk e0 (t := .boolean) Bd.returns (by simp) (hb hby d5_70) (by decide) (by decide) (z' := (0 : Int32)) rfl ?_
            refine ⟨Nf, rfl, _, rfl, Or.inr ⟨rfl, ?_⟩⟩
            show ¬ (_ ∧ _ ∧ _ ∧ _)
            simp only [Int.reduceSub]
            omega
          · skip
            refine s_icmpNo (pc' := 45) X0.here hx (hb hby d5_42) rfl (fltI (x := (3 : Int32)) (y := p1) hc42).1 ?_
            refine s_aloadN (pc' := 46) X0.here hx (hb hby d5_45) rfl rfl rfl ?_
            refine s_iloadN (pc' := 47) X0.here hx (hb hby d5_46) rfl rfl ?_
            refine s_iconst (pc' := 48) (z := (2 : Int32)) X0.here hx (hb hby d5_47) rfl rfl ?_
            refine Win.go (fun _ k => XS.isub X0.here hx rfl (hb hby d5_48) rfl k) ?_
            show Win p.tables e below _ (s₁.setTop (mkF m 49 #[.val (.ref a), .val (.int p1), .val (.int p2), .val (.int (6 : Int32))] [(.int (4 : Int32)), (.ref a)]))
            obtain ⟨cl_25, Ar_25, S_25, G_25⟩ := id A_a
            have hb_25 : 0 ≤ ((4 : Int32)).toInt ∧ ((4 : Int32)).toInt < 6 := by decide
            refine Win.go (fun _ k => X0.baloadBytes hx (j := (4 : Int32)) (v := (.int (f (4 : Int)))) (by rw [e0]; exact Ar_25.1) (State.isArrayOf_alike hZ.alike Ar_25.2.1) Ar_25.2.2 (AF.inb S_25 hb_25) (G_25 _ hb_25.1 hb_25.2) (g := (mkF m 49 #[.val (.ref a), .val (.int p1), .val (.int p2), .val (.int (6 : Int32))] [(.int (4 : Int32)), (.ref a)])) rfl rfl (hb hby d5_49) _ k) ?_
            show Win p.tables e below _ (s₁.setTop (mkF m 50 #[.val (.ref a), .val (.int p1), .val (.int p2), .val (.int (6 : Int32))] [(.int (f (4 : Int)))]))
            clear Ar_25 S_25 G_25 hb_25
            refine s_bipush (pc' := 52) (z := (13 : Int32)) X0.here hx (hb hby d5_50) rfl rfl ?_
            by_cases hc52 : ((f (4 : Int))).toInt = (13 : Int)
            · skip
              refine s_icmpNo (pc' := 55) X0.here hx (hb hby d5_52) rfl (teqI (x := (f (4 : Int))) (y := (13 : Int32)) hc52).2 ?_
              refine s_aloadN (pc' := 56) X0.here hx (hb hby d5_55) rfl rfl rfl ?_
              refine s_iloadN (pc' := 57) X0.here hx (hb hby d5_56) rfl rfl ?_
              refine s_iconst (pc' := 58) (z := (3 : Int32)) X0.here hx (hb hby d5_57) rfl rfl ?_
              refine Win.go (fun _ k => XS.isub X0.here hx rfl (hb hby d5_58) rfl k) ?_
              show Win p.tables e below _ (s₁.setTop (mkF m 59 #[.val (.ref a), .val (.int p1), .val (.int p2), .val (.int (6 : Int32))] [(.int (3 : Int32)), (.ref a)]))
              obtain ⟨cl_26, Ar_26, S_26, G_26⟩ := id A_a
              have hb_26 : 0 ≤ ((3 : Int32)).toInt ∧ ((3 : Int32)).toInt < 6 := by decide
              refine Win.go (fun _ k => X0.baloadBytes hx (j := (3 : Int32)) (v := (.int (f (3 : Int)))) (by rw [e0]; exact Ar_26.1) (State.isArrayOf_alike hZ.alike Ar_26.2.1) Ar_26.2.2 (AF.inb S_26 hb_26) (G_26 _ hb_26.1 hb_26.2) (g := (mkF m 59 #[.val (.ref a), .val (.int p1), .val (.int p2), .val (.int (6 : Int32))] [(.int (3 : Int32)), (.ref a)])) rfl rfl (hb hby d5_59) _ k) ?_
              show Win p.tables e below _ (s₁.setTop (mkF m 60 #[.val (.ref a), .val (.int p1), .val (.int p2), .val (.int (6 : Int32))] [(.int (f (3 : Int)))]))
              clear Ar_26 S_26 G_26 hb_26
              refine s_bipush (pc' := 62) (z := (10 : Int32)) X0.here hx (hb hby d5_60) rfl rfl ?_
              by_cases hc62 : ((f (3 : Int))).toInt = (10 : Int)
              · skip
                refine s_icmpNo (pc' := 65) X0.here hx (hb hby d5_62) rfl (teqI (x := (f (3 : Int))) (y := (10 : Int32)) hc62).2 ?_
                refine s_iconst (pc' := 66) (z := (1 : Int32)) X0.here hx (hb hby d5_65) rfl rfl ?_
                refine s_goto (pc' := 70) X0.here hx (hb hby d5_66) (by decide) (by decide) ?_
                refine winN X0 hx hlk e0 (t := .boolean) Bd.returns (by simp) (hb hby d5_70) (by decide) (by decide) (z' := (1 : Int32)) rfl ?_
                refine ⟨Nf, rfl, _, rfl, Or.inl ⟨rfl, ?_⟩⟩
                show _ ∧ _ ∧ _ ∧ _
                simp only [Int.reduceSub]
                omega
              · skip
                refine s_icmpYes (pc' := 69) X0.here hx (hb hby d5_62) (feqI (x := (f (3 : Int))) (y := (10 : Int32)) hc62).2 (by decide) (by decide) ?_
                refine s_iconst (pc' := 70) (z := (0 : Int32)) X0.here hx (hb hby d5_69) rfl rfl ?_
                refine winN X0 hx hlk e0 (t := .boolean) Bd.returns (by simp) (hb hby d5_70) (by decide) (by decide) (z' := (0 : Int32)) rfl ?_
                refine ⟨Nf, rfl, _, rfl, Or.inr ⟨rfl, ?_⟩⟩
                show ¬ (_ ∧ _ ∧ _ ∧ _)
                simp only [Int.reduceSub]
                omega
            · skip
              refine s_icmpYes (pc' := 69) X0.here hx (hb hby d5_52) (feqI (x := (f (4 : Int))) (y := (13 : Int32)) hc52).2 (by decide) (by decide) ?_
              refine s_iconst (pc' := 70) (z := (0 : Int32)) X0.here hx (hb hby d5_69) rfl rfl ?_
              refine winN X0 hx hlk e0 (t := .boolean) Bd.returns (by simp) (hb hby d5_70) (by decide) (by decide) (z' := (0 : Int32)) rfl ?_
              refine ⟨Nf, rfl, _, rfl, Or.inr ⟨rfl, ?_⟩⟩
              show ¬ (_ ∧ _ ∧ _ ∧ _)
              simp only [Int.reduceSub]
              omega
      · skip
        refine s_icmpNo (pc' := 24) X0.here hx (hb hby d5_21) rfl (feqI (x := (f (5 : Int))) (y := (10 : Int32)) hc21).1 ?_
        refine s_iconst (pc' := 25) (z := (0 : Int32)) X0.here hx (hb hby d5_24) rfl rfl ?_
        refine winN X0 hx hlk e0 (t := .boolean) Bd.returns (by simp) (hb hby d5_25) (by decide) (by decide) (z' := (0 : Int32)) rfl ?_
        refine ⟨Nf, rfl, _, rfl, Or.inr ⟨rfl, ?_⟩⟩
        show ¬ (_ ∧ _ ∧ _ ∧ _)
        simp only [Int.reduceSub]
        omega
theorem d4_0 : decode method_5_code 0 = .ok (.aload_n 0, 1) := by decide +kernel
theorem d4_1 : decode method_5_code 1 = .ok (.iload_n 1, 1) := by decide +kernel
theorem d4_2 : decode method_5_code 2 = .ok (.iload_n 2, 1) := by decide +kernel
theorem d4_3 : decode method_5_code 3 = .ok (.iconst 2, 1) := by decide +kernel
theorem d4_4 : decode method_5_code 4 = .ok (.invokestatic 26, 3) := by decide +kernel
theorem d4_7 : decode method_5_code 7 = .ok (.ifCond .eq 5, 3) := by decide +kernel
theorem d4_10 : decode method_5_code 10 = .ok (.iconst 2, 1) := by decide +kernel
theorem d4_11 : decode method_5_code 11 = .ok (.ireturn, 1) := by decide +kernel
theorem d4_12 : decode method_5_code 12 = .ok (.aload_n 0, 1) := by decide +kernel
theorem d4_13 : decode method_5_code 13 = .ok (.iload_n 1, 1) := by decide +kernel
theorem d4_14 : decode method_5_code 14 = .ok (.iload_n 2, 1) := by decide +kernel
theorem d4_15 : decode method_5_code 15 = .ok (.iconst 3, 1) := by decide +kernel
theorem d4_16 : decode method_5_code 16 = .ok (.invokestatic 26, 3) := by decide +kernel
theorem d4_19 : decode method_5_code 19 = .ok (.ifCond .eq 5, 3) := by decide +kernel
theorem d4_22 : decode method_5_code 22 = .ok (.iconst 3, 1) := by decide +kernel
theorem d4_23 : decode method_5_code 23 = .ok (.ireturn, 1) := by decide +kernel
theorem d4_24 : decode method_5_code 24 = .ok (.aload_n 0, 1) := by decide +kernel
theorem d4_25 : decode method_5_code 25 = .ok (.iload_n 1, 1) := by decide +kernel
theorem d4_26 : decode method_5_code 26 = .ok (.iload_n 2, 1) := by decide +kernel
theorem d4_27 : decode method_5_code 27 = .ok (.iconst 4, 1) := by decide +kernel
theorem d4_28 : decode method_5_code 28 = .ok (.invokestatic 26, 3) := by decide +kernel
theorem d4_31 : decode method_5_code 31 = .ok (.ifCond .eq 5, 3) := by decide +kernel
theorem d4_34 : decode method_5_code 34 = .ok (.iconst 4, 1) := by decide +kernel
theorem d4_35 : decode method_5_code 35 = .ok (.ireturn, 1) := by decide +kernel
theorem d4_36 : decode method_5_code 36 = .ok (.aload_n 0, 1) := by decide +kernel
theorem d4_37 : decode method_5_code 37 = .ok (.iload_n 1, 1) := by decide +kernel
theorem d4_38 : decode method_5_code 38 = .ok (.iload_n 2, 1) := by decide +kernel
theorem d4_39 : decode method_5_code 39 = .ok (.iconst 5, 1) := by decide +kernel
theorem d4_40 : decode method_5_code 40 = .ok (.invokestatic 26, 3) := by decide +kernel
theorem d4_43 : decode method_5_code 43 = .ok (.ifCond .eq 5, 3) := by decide +kernel
theorem d4_46 : decode method_5_code 46 = .ok (.iconst 5, 1) := by decide +kernel
theorem d4_47 : decode method_5_code 47 = .ok (.ireturn, 1) := by decide +kernel
theorem d4_48 : decode method_5_code 48 = .ok (.aload_n 0, 1) := by decide +kernel
theorem d4_49 : decode method_5_code 49 = .ok (.iload_n 1, 1) := by decide +kernel
theorem d4_50 : decode method_5_code 50 = .ok (.iload_n 2, 1) := by decide +kernel
theorem d4_51 : decode method_5_code 51 = .ok (.bipush 6, 2) := by decide +kernel
theorem d4_53 : decode method_5_code 53 = .ok (.invokestatic 26, 3) := by decide +kernel
theorem d4_56 : decode method_5_code 56 = .ok (.ifCond .eq 6, 3) := by decide +kernel
theorem d4_59 : decode method_5_code 59 = .ok (.bipush 6, 2) := by decide +kernel
theorem d4_61 : decode method_5_code 61 = .ok (.ireturn, 1) := by decide +kernel
theorem d4_62 : decode method_5_code 62 = .ok (.iconst (-1), 1) := by decide +kernel
theorem d4_63 : decode method_5_code 63 = .ok (.ireturn, 1) := by decide +kernel
theorem pd_1 : parseMethodDescriptor "([BIII)Z" = some ⟨[(.array .byte), .int, .int, .int], some .boolean⟩ := by decide +kernel
theorem ef_4 (m : MethodId) (a : Addr) (p1 : Int32) (p2 : Int32) : entryFrame m #[(.ref a), (.int p1), (.int p2)] 3 = mkF m 0 #[.val (.ref a), .val (.int p1), .val (.int p2)] [] := by first | (simp [entryFrame, mkF, argsToLocals, Value.category]; done) | rfl
def Q4 (Z : State) (a : Addr) (p1 : Int32) (p2 : Int32) (f : Int → Int32) (h0 : Heap) (n0 : Nat) (v : Option Value) (h : Heap) (L : List Loc) : Prop := Fr n0 L ∧ h = h0 ∧ (∃ z : Int32, v = some (.int z) ∧ ((z.toInt = 2 ∧ En f p1.toInt p2.toInt 2) ∨ (z.toInt = 3 ∧ ¬ En f p1.toInt p2.toInt 2 ∧ En f p1.toInt p2.toInt 3) ∨ (z.toInt = 4 ∧ ¬ En f p1.toInt p2.toInt 2 ∧ ¬ En f p1.toInt p2.toInt 3 ∧ En f p1.toInt p2.toInt 4) ∨ (z.toInt = 5 ∧ ¬ En f p1.toInt p2.toInt 2 ∧ ¬ En f p1.toInt p2.toInt 3 ∧ ¬ En f p1.toInt p2.toInt 4 ∧ En f p1.toInt p2.toInt 5) ∨ (z.toInt = 6 ∧ ¬ En f p1.toInt p2.toInt 2 ∧ ¬ En f p1.toInt p2.toInt 3 ∧ ¬ En f p1.toInt p2.toInt 4 ∧ ¬ En f p1.toInt p2.toInt 5 ∧ En f p1.toInt p2.toInt 6) ∨ (z.toInt = -1 ∧ ¬ En f p1.toInt p2.toInt 2 ∧ ¬ En f p1.toInt p2.toInt 3 ∧ ¬ En f p1.toInt p2.toInt 4 ∧ ¬ En f p1.toInt p2.toInt 5 ∧ ¬ En f p1.toInt p2.toInt 6)))
set_option maxRecDepth 65536 in
set_option maxHeartbeats 40000000 in
theorem rm4 (l : Launch) (Z : State) (a0 : Array Value) (hw : ∀ d ∈ tables_1, d.before a0 Z = true) (ws : List Jvm.Cond) (a : Addr) (p1 : Int32) (p2 : Int32) (f : Int → Int32) (h0 : Heap) (n0 : Nat) (Zs : n0 ≤ h0.size) (A_a : AF Z h0 a .byte 6 f) (hp : 0 ≤ p1.toInt ∧ p1.toInt ≤ 6 ∧ p2.toInt ≤ 6) :
    MetFree l (⟨"com/example/throttle/throttle/app/HttpRequestHeadEndPinLaw", "expected", "([BII)I"⟩ : MethodName) (head1 (Jvm.Cond.code (⟨"com/example/throttle/throttle/app/HttpRequestHeadEndPinLaw", "expected", "([BII)I"⟩ : MethodName) method_5_code 3 (some .int) :: ws) ({ frames := 1, cells := 0, slots := 0, locals := 15 } : Room)) (fun as' U => as' = #[(.ref a), (.int p1), (.int p2)] ∧ Z.Warmed39 U.vm ∧ U.heap = h0) (fun _ _ _ _ _ => True) (fun _ U o U' => ∃ v L, o = .returned v ∧ Q4 Z a p1 p2 f h0 n0 v U'.heap L ∧ FrameEnd U o U' L ({ frames := 1, cells := 0, slots := 0, locals := 15 } : Room).cells ({ frames := 1, cells := 0, slots := 0, locals := 15 } : Room).slots) := by
  refine MetFree.of_bodySF (plainFor_of_name pn_1) hisR ?_
  intro p e s m args below meth c s₁ Bd hml0 hP hK
  obtain ⟨rfl, hZ, hh⟩ := hP
  have hx := Bd.exec
  have hby := Bd.bytes
  have hml : c.maxLocals = 3 := hml0
  have hown : s.vm.findClass "com/example/throttle/throttle/app/HttpRequestHeadEndPinLaw" = some m.cls := findClass_of_methodNamed Bd.named
  have hnm := (name_of_methodNamed Bd.named Bd.method).1
  have hlk : meth.locks = false := Bd.notSynchronized
  have X0 : Stand p l e ({ frames := 1, cells := 0, slots := 0, locals := 15 } : Room) s m #[(.ref a), (.int p1), (.int p2)] below meth c s₁ [] 0 0 := Stand.of_body Bd
  have e0 : s₁.heap = h0 := by rw [← hh, Bd.state]; rfl
  have Nf := Fr.nil n0
  refine (?_ : Win p.tables e below (PostQ s (Q4 Z a p1 p2 f h0 n0) ({ frames := 1, cells := 0, slots := 0, locals := 15 } : Room).cells ({ frames := 1, cells := 0, slots := 0, locals := 15 } : Room).slots) (s₁.setTop (entryFrame m #[(.ref a), (.int p1), (.int p2)] 3)))
  rw [ef_4]
  have lt_a : a < h0.size := A_a.lt
  show Win p.tables e below _ (s₁.setTop (mkF m 0 #[.val (.ref a), .val (.int p1), .val (.int p2)] []))
  refine s_aloadN (pc' := 1) X0.here hx (hb hby d4_0) rfl rfl rfl ?_
  refine s_iloadN (pc' := 2) X0.here hx (hb hby d4_1) rfl rfl ?_
  refine s_iloadN (pc' := 3) X0.here hx (hb hby d4_2) rfl rfl ?_
  refine s_iconst (pc' := 4) (z := (2 : Int32)) X0.here hx (hb hby d4_3) rfl rfl ?_
  obtain ⟨_, _, ⟨T_27, L_27, k_27, n_27⟩, -, X_27, ⟨Lc_27, hQ_27, l_27, y_27, z_27⟩, st_27⟩ := Jvm.LawKit.callS X0 hx (y := (⟨"com/example/throttle/throttle/app/HttpRequestHeadEndPinLaw", "endsHead", "([BIII)Z"⟩ : MethodName)) hown (mvT hZ (hw _ (List.mem_of_getElem? (i := 17) rfl))) (mvT hZ (hw _ (List.mem_of_getElem? (i := 18) rfl))) (mvT hZ (hw _ (List.mem_of_getElem? (i := 3) rfl))) (mvT hZ (hw _ (List.mem_of_getElem? (i := 19) rfl))) (by decide) (backOf (W := 0) (rm5_2 l Z a0 hw [] a p1 p2 f h0 n0 Zs A_a hp) hZ (hw _ (List.mem_of_getElem? (i := 19) rfl)) (hw _ (List.mem_of_getElem? (i := 3) rfl)) (by decide) (by decide)) (g := (mkF m 4 #[.val (.ref a), .val (.int p1), .val (.int p2)] [(.int (2 : Int32)), (.int p2), (.int p1), (.ref a)])) rfl (by rw [hml]; rfl) (argsL := [(.ref a), (.int p1), (.int p2), (.int (2 : Int32))]) (rest := []) (lenOf pd_1 rfl) rfl (by show 2 * 0 + _ ≤ _; exact Nat.le_of_eq rfl) (hb hby d4_4) (fun _ _ => ⟨rfl, e0, (by decide : 0 + 0 ≤ _), (by decide : 0 + 0 ≤ _)⟩)
  dsimp only [Pt.U, Pt.locs, Pt.cells, Pt.slots] at X_27 l_27 y_27 z_27 st_27 hQ_27
  subst l_27 y_27 z_27
  obtain ⟨Nq_27, e_27, r2, rfl, hr2⟩ := hQ_27
  replace Nf := Fr.app Nf Nq_27
  refine Win.go st_27 ?_
  clear st_27 Nq_27 X0 e0
  show Win p.tables e below _ (T_27.setTop (mkF m 7 #[.val (.ref a), .val (.int p1), .val (.int p2)] [(.int r2)]))
  by_cases hc7 : (r2).toInt = (0 : Int)
  · skip
    refine s_ifYes (pc' := 12) X_27.here hx (hb hby d4_7) ((if0 _ _).trans (teqI (x := r2) (y := (0 : Int32)) hc7).1) (by decide) (by decide) ?_
    have n2 : ¬ En f p1.toInt p2.toInt 2 := by
      rcases hr2 with q | q
      · omega
      · exact q.2
    refine s_aloadN (pc' := 13) X_27.here hx (hb hby d4_12) rfl rfl rfl ?_
    refine s_iloadN (pc' := 14) X_27.here hx (hb hby d4_13) rfl rfl ?_
    refine s_iloadN (pc' := 15) X_27.here hx (hb hby d4_14) rfl rfl ?_
    refine s_iconst (pc' := 16) (z := (3 : Int32)) X_27.here hx (hb hby d4_15) rfl rfl ?_
    obtain ⟨_, _, ⟨T_28, L_28, k_28, n_28⟩, -, X_28, ⟨Lc_28, hQ_28, l_28, y_28, z_28⟩, st_28⟩ := Jvm.LawKit.callS X_27 hx (y := (⟨"com/example/throttle/throttle/app/HttpRequestHeadEndPinLaw", "endsHead", "([BIII)Z"⟩ : MethodName)) hown (mvT hZ (hw _ (List.mem_of_getElem? (i := 17) rfl))) (mvT hZ (hw _ (List.mem_of_getElem? (i := 18) rfl))) (mvT hZ (hw _ (List.mem_of_getElem? (i := 3) rfl))) (mvT hZ (hw _ (List.mem_of_getElem? (i := 19) rfl))) (by decide) (backOf (W := 0) (rm5_3 l Z a0 hw [] a p1 p2 f h0 n0 Zs A_a hp) hZ (hw _ (List.mem_of_getElem? (i := 19) rfl)) (hw _ (List.mem_of_getElem? (i := 3) rfl)) (by decide) (by decide)) (g := (mkF m 16 #[.val (.ref a), .val (.int p1), .val (.int p2)] [(.int (3 : Int32)), (.int p2), (.int p1), (.ref a)])) rfl (by rw [hml]; rfl) (argsL := [(.ref a), (.int p1), (.int p2), (.int (3 : Int32))]) (rest := []) (lenOf pd_1 rfl) rfl (by show 2 * 0 + _ ≤ _; exact Nat.le_of_eq rfl) (hb hby d4_16) (fun _ _ => ⟨rfl, e_27, (by decide : 0 + 0 ≤ _), (by decide : 0 + 0 ≤ _)⟩)
    dsimp only [Pt.U, Pt.locs, Pt.cells, Pt.slots] at X_28 l_28 y_28 z_28 st_28 hQ_28
    subst l_28 y_28 z_28
    obtain ⟨Nq_28, e_28, r3, rfl, hr3⟩ := hQ_28
    replace Nf := Fr.app Nf Nq_28
    refine Win.go st_28 ?_
    clear st_28 Nq_28 X_27 e_27
    show Win p.tables e below _ (T_28.setTop (mkF m 19 #[.val (.ref a), .val (.int p1), .val (.int p2)] [(.int r3)]))
    by_cases hc19 : (r3).toInt = (0 : Int)
    · skip
      refine s_ifYes (pc' := 24) X_28.here hx (hb hby d4_19) ((if0 _ _).trans (teqI (x := r3) (y := (0 : Int32)) hc19).1) (by decide) (by decide) ?_
      have n3 : ¬ En f p1.toInt p2.toInt 3 := by
        rcases hr3 with q | q
        · omega
        · exact q.2
      refine s_aloadN (pc' := 25) X_28.here hx (hb hby d4_24) rfl rfl rfl ?_
      refine s_iloadN (pc' := 26) X_28.here hx (hb hby d4_25) rfl rfl ?_
      refine s_iloadN (pc' := 27) X_28.here hx (hb hby d4_26) rfl rfl ?_
      refine s_iconst (pc' := 28) (z := (4 : Int32)) X_28.here hx (hb hby d4_27) rfl rfl ?_
      obtain ⟨_, _, ⟨T_29, L_29, k_29, n_29⟩, -, X_29, ⟨Lc_29, hQ_29, l_29, y_29, z_29⟩, st_29⟩ := Jvm.LawKit.callS X_28 hx (y := (⟨"com/example/throttle/throttle/app/HttpRequestHeadEndPinLaw", "endsHead", "([BIII)Z"⟩ : MethodName)) hown (mvT hZ (hw _ (List.mem_of_getElem? (i := 17) rfl))) (mvT hZ (hw _ (List.mem_of_getElem? (i := 18) rfl))) (mvT hZ (hw _ (List.mem_of_getElem? (i := 3) rfl))) (mvT hZ (hw _ (List.mem_of_getElem? (i := 19) rfl))) (by decide) (backOf (W := 0) (rm5_4 l Z a0 hw [] a p1 p2 f h0 n0 Zs A_a hp) hZ (hw _ (List.mem_of_getElem? (i := 19) rfl)) (hw _ (List.mem_of_getElem? (i := 3) rfl)) (by decide) (by decide)) (g := (mkF m 28 #[.val (.ref a), .val (.int p1), .val (.int p2)] [(.int (4 : Int32)), (.int p2), (.int p1), (.ref a)])) rfl (by rw [hml]; rfl) (argsL := [(.ref a), (.int p1), (.int p2), (.int (4 : Int32))]) (rest := []) (lenOf pd_1 rfl) rfl (by show 2 * 0 + _ ≤ _; exact Nat.le_of_eq rfl) (hb hby d4_28) (fun _ _ => ⟨rfl, e_28, (by decide : 0 + 0 ≤ _), (by decide : 0 + 0 ≤ _)⟩)
      dsimp only [Pt.U, Pt.locs, Pt.cells, Pt.slots] at X_29 l_29 y_29 z_29 st_29 hQ_29
      subst l_29 y_29 z_29
      obtain ⟨Nq_29, e_29, r4, rfl, hr4⟩ := hQ_29
      replace Nf := Fr.app Nf Nq_29
      refine Win.go st_29 ?_
      clear st_29 Nq_29 X_28 e_28
      show Win p.tables e below _ (T_29.setTop (mkF m 31 #[.val (.ref a), .val (.int p1), .val (.int p2)] [(.int r4)]))
      by_cases hc31 : (r4).toInt = (0 : Int)
      · skip
        refine s_ifYes (pc' := 36) X_29.here hx (hb hby d4_31) ((if0 _ _).trans (teqI (x := r4) (y := (0 : Int32)) hc31).1) (by decide) (by decide) ?_
        have n4 : ¬ En f p1.toInt p2.toInt 4 := by
          rcases hr4 with q | q
          · omega
          · exact q.2
        refine s_aloadN (pc' := 37) X_29.here hx (hb hby d4_36) rfl rfl rfl ?_
        refine s_iloadN (pc' := 38) X_29.here hx (hb hby d4_37) rfl rfl ?_
        refine s_iloadN (pc' := 39) X_29.here hx (hb hby d4_38) rfl rfl ?_
        refine s_iconst (pc' := 40) (z := (5 : Int32)) X_29.here hx (hb hby d4_39) rfl rfl ?_
        obtain ⟨_, _, ⟨T_30, L_30, k_30, n_30⟩, -, X_30, ⟨Lc_30, hQ_30, l_30, y_30, z_30⟩, st_30⟩ := Jvm.LawKit.callS X_29 hx (y := (⟨"com/example/throttle/throttle/app/HttpRequestHeadEndPinLaw", "endsHead", "([BIII)Z"⟩ : MethodName)) hown (mvT hZ (hw _ (List.mem_of_getElem? (i := 17) rfl))) (mvT hZ (hw _ (List.mem_of_getElem? (i := 18) rfl))) (mvT hZ (hw _ (List.mem_of_getElem? (i := 3) rfl))) (mvT hZ (hw _ (List.mem_of_getElem? (i := 19) rfl))) (by decide) (backOf (W := 0) (rm5_5 l Z a0 hw [] a p1 p2 f h0 n0 Zs A_a hp) hZ (hw _ (List.mem_of_getElem? (i := 19) rfl)) (hw _ (List.mem_of_getElem? (i := 3) rfl)) (by decide) (by decide)) (g := (mkF m 40 #[.val (.ref a), .val (.int p1), .val (.int p2)] [(.int (5 : Int32)), (.int p2), (.int p1), (.ref a)])) rfl (by rw [hml]; rfl) (argsL := [(.ref a), (.int p1), (.int p2), (.int (5 : Int32))]) (rest := []) (lenOf pd_1 rfl) rfl (by show 2 * 0 + _ ≤ _; exact Nat.le_of_eq rfl) (hb hby d4_40) (fun _ _ => ⟨rfl, e_29, (by decide : 0 + 0 ≤ _), (by decide : 0 + 0 ≤ _)⟩)
        dsimp only [Pt.U, Pt.locs, Pt.cells, Pt.slots] at X_30 l_30 y_30 z_30 st_30 hQ_30
        subst l_30 y_30 z_30
        obtain ⟨Nq_30, e_30, r5, rfl, hr5⟩ := hQ_30
        replace Nf := Fr.app Nf Nq_30
        refine Win.go st_30 ?_
        clear st_30 Nq_30 X_29 e_29
        show Win p.tables e below _ (T_30.setTop (mkF m 43 #[.val (.ref a), .val (.int p1), .val (.int p2)] [(.int r5)]))
        by_cases hc43 : (r5).toInt = (0 : Int)
        · skip
          refine s_ifYes (pc' := 48) X_30.here hx (hb hby d4_43) ((if0 _ _).trans (teqI (x := r5) (y := (0 : Int32)) hc43).1) (by decide) (by decide) ?_
          have n5 : ¬ En f p1.toInt p2.toInt 5 := by
            rcases hr5 with q | q
            · omega
            · exact q.2
          refine s_aloadN (pc' := 49) X_30.here hx (hb hby d4_48) rfl rfl rfl ?_
          refine s_iloadN (pc' := 50) X_30.here hx (hb hby d4_49) rfl rfl ?_
          refine s_iloadN (pc' := 51) X_30.here hx (hb hby d4_50) rfl rfl ?_
          refine s_bipush (pc' := 53) (z := (6 : Int32)) X_30.here hx (hb hby d4_51) rfl rfl ?_
          obtain ⟨_, _, ⟨T_31, L_31, k_31, n_31⟩, -, X_31, ⟨Lc_31, hQ_31, l_31, y_31, z_31⟩, st_31⟩ := Jvm.LawKit.callS X_30 hx (y := (⟨"com/example/throttle/throttle/app/HttpRequestHeadEndPinLaw", "endsHead", "([BIII)Z"⟩ : MethodName)) hown (mvT hZ (hw _ (List.mem_of_getElem? (i := 17) rfl))) (mvT hZ (hw _ (List.mem_of_getElem? (i := 18) rfl))) (mvT hZ (hw _ (List.mem_of_getElem? (i := 3) rfl))) (mvT hZ (hw _ (List.mem_of_getElem? (i := 19) rfl))) (by decide) (backOf (W := 0) (rm5_6 l Z a0 hw [] a p1 p2 f h0 n0 Zs A_a hp) hZ (hw _ (List.mem_of_getElem? (i := 19) rfl)) (hw _ (List.mem_of_getElem? (i := 3) rfl)) (by decide) (by decide)) (g := (mkF m 53 #[.val (.ref a), .val (.int p1), .val (.int p2)] [(.int (6 : Int32)), (.int p2), (.int p1), (.ref a)])) rfl (by rw [hml]; rfl) (argsL := [(.ref a), (.int p1), (.int p2), (.int (6 : Int32))]) (rest := []) (lenOf pd_1 rfl) rfl (by show 2 * 0 + _ ≤ _; exact Nat.le_of_eq rfl) (hb hby d4_53) (fun _ _ => ⟨rfl, e_30, (by decide : 0 + 0 ≤ _), (by decide : 0 + 0 ≤ _)⟩)
          dsimp only [Pt.U, Pt.locs, Pt.cells, Pt.slots] at X_31 l_31 y_31 z_31 st_31 hQ_31
          subst l_31 y_31 z_31
          obtain ⟨Nq_31, e_31, r6, rfl, hr6⟩ := hQ_31
          replace Nf := Fr.app Nf Nq_31
          refine Win.go st_31 ?_
          clear st_31 Nq_31 X_30 e_30
          show Win p.tables e below _ (T_31.setTop (mkF m 56 #[.val (.ref a), .val (.int p1), .val (.int p2)] [(.int r6)]))
          by_cases hc56 : (r6).toInt = (0 : Int)
          · skip
            refine s_ifYes (pc' := 62) X_31.here hx (hb hby d4_56) ((if0 _ _).trans (teqI (x := r6) (y := (0 : Int32)) hc56).1) (by decide) (by decide) ?_
            have n6 : ¬ En f p1.toInt p2.toInt 6 := by
              rcases hr6 with q | q
              · omega
              · exact q.2
            refine s_iconst (pc' := 63) (z := (-1 : Int32)) X_31.here hx (hb hby d4_62) rfl rfl ?_
            refine winI X_31 hx hlk e_31 Bd.returns (hb hby d4_63) (by decide) (by decide) ?_
            exact ⟨Nf, rfl, _, rfl, Or.inr (Or.inr (Or.inr (Or.inr (Or.inr (⟨rfl, n2, n3, n4, n5, n6⟩)))))⟩
          · skip
            refine s_ifNo (pc' := 59) X_31.here hx (hb hby d4_56) rfl ((if0 _ _).trans (feqI (x := r6) (y := (0 : Int32)) hc56).1) ?_
            have n6 : En f p1.toInt p2.toInt 6 := by
              rcases hr6 with q | q
              · exact q.2
              · omega
            refine s_bipush (pc' := 61) (z := (6 : Int32)) X_31.here hx (hb hby d4_59) rfl rfl ?_
            refine winI X_31 hx hlk e_31 Bd.returns (hb hby d4_61) (by decide) (by decide) ?_
            exact ⟨Nf, rfl, _, rfl, Or.inr (Or.inr (Or.inr (Or.inr (Or.inl ⟨rfl, n2, n3, n4, n5, n6⟩))))⟩
        · skip
          refine s_ifNo (pc' := 46) X_30.here hx (hb hby d4_43) rfl ((if0 _ _).trans (feqI (x := r5) (y := (0 : Int32)) hc43).1) ?_
          have n5 : En f p1.toInt p2.toInt 5 := by
            rcases hr5 with q | q
            · exact q.2
            · omega
          refine s_iconst (pc' := 47) (z := (5 : Int32)) X_30.here hx (hb hby d4_46) rfl rfl ?_
          refine winI X_30 hx hlk e_30 Bd.returns (hb hby d4_47) (by decide) (by decide) ?_
          exact ⟨Nf, rfl, _, rfl, Or.inr (Or.inr (Or.inr (Or.inl ⟨rfl, n2, n3, n4, n5⟩)))⟩
      · skip
        refine s_ifNo (pc' := 34) X_29.here hx (hb hby d4_31) rfl ((if0 _ _).trans (feqI (x := r4) (y := (0 : Int32)) hc31).1) ?_
        have n4 : En f p1.toInt p2.toInt 4 := by
          rcases hr4 with q | q
          · exact q.2
          · omega
        refine s_iconst (pc' := 35) (z := (4 : Int32)) X_29.here hx (hb hby d4_34) rfl rfl ?_
        refine winI X_29 hx hlk e_29 Bd.returns (hb hby d4_35) (by decide) (by decide) ?_
        exact ⟨Nf, rfl, _, rfl, Or.inr (Or.inr (Or.inl ⟨rfl, n2, n3, n4⟩))⟩
    · skip
      refine s_ifNo (pc' := 22) X_28.here hx (hb hby d4_19) rfl ((if0 _ _).trans (feqI (x := r3) (y := (0 : Int32)) hc19).1) ?_
      have n3 : En f p1.toInt p2.toInt 3 := by
        rcases hr3 with q | q
        · exact q.2
        · omega
      refine s_iconst (pc' := 23) (z := (3 : Int32)) X_28.here hx (hb hby d4_22) rfl rfl ?_
      refine winI X_28 hx hlk e_28 Bd.returns (hb hby d4_23) (by decide) (by decide) ?_
      exact ⟨Nf, rfl, _, rfl, Or.inr (Or.inl ⟨rfl, n2, n3⟩)⟩
  · skip
    refine s_ifNo (pc' := 10) X_27.here hx (hb hby d4_7) rfl ((if0 _ _).trans (feqI (x := r2) (y := (0 : Int32)) hc7).1) ?_
    have n2 : En f p1.toInt p2.toInt 2 := by
      rcases hr2 with q | q
      · exact q.2
      · omega
    refine s_iconst (pc' := 11) (z := (2 : Int32)) X_27.here hx (hb hby d4_10) rfl rfl ?_
    refine winI X_27 hx hlk e_27 Bd.returns (hb hby d4_11) (by decide) (by decide) ?_
    exact ⟨Nf, rfl, _, rfl, Or.inl ⟨rfl, n2⟩⟩
theorem pd_2 : parseMethodDescriptor "(JI)B" = some ⟨[.long, .int], some .byte⟩ := by decide +kernel
theorem pd_3 : parseMethodDescriptor "([BII)I" = some ⟨[(.array .byte), .int, .int], some .int⟩ := by decide +kernel
theorem ef_0 (m : MethodId) (q0 : Int64) (p1 : Int32) (p2 : Int32) : entryFrame m #[(.long q0), (.int p1), (.int p2)] maxLocals = mkF m 0 #[.val (.long q0), .second, .val (.int p1), .val (.int p2), .unset, .unset, .unset, .unset] [] := by first | (simp [entryFrame, mkF, argsToLocals, Value.category, maxLocals]; done) | rfl
def Q0 (Z : State) (q0 : Int64) (p1 : Int32) (p2 : Int32) (h0 : Heap) (n0 : Nat) (v : Option Value) (h : Heap) (L : List Loc) : Prop := Fr n0 L ∧ v = some (.int 1)
set_option maxRecDepth 65536 in
set_option maxHeartbeats 40000000 in
theorem rm0 (l : Launch) (Z : State) (a0 : Array Value) (hw : ∀ d ∈ tables_1, d.before a0 Z = true) (ws : List Jvm.Cond) (q0 : Int64) (p1 : Int32) (p2 : Int32) (h0 : Heap) (n0 : Nat) (Zs : n0 ≤ h0.size) :
    MetFree l x (head1 (Jvm.Cond.code x code maxLocals ret :: ws) room_1) (fun as' U => as' = #[(.long q0), (.int p1), (.int p2)] ∧ Z.Warmed39 U.vm ∧ U.heap = h0) (fun _ _ _ _ _ => True) (fun _ U o U' => ∃ v L, o = .returned v ∧ Q0 Z q0 p1 p2 h0 n0 v U'.heap L ∧ FrameEnd U o U' L room_1.cells room_1.slots) := by
  refine MetFree.of_bodySF (plainFor_of_name pn_1) hisR ?_
  intro p e s m args below meth c s₁ Bd hml0 hP hK
  obtain ⟨rfl, hZ, hh⟩ := hP
  have hx := Bd.exec
  have hby := Bd.bytes
  have hml : c.maxLocals = 8 := hml0
  have hown : s.vm.findClass "com/example/throttle/throttle/app/HttpRequestHeadEndPinLaw" = some m.cls := findClass_of_methodNamed Bd.named
  have hnm := (name_of_methodNamed Bd.named Bd.method).1
  have hlk : meth.locks = false := Bd.notSynchronized
  have X0 : Stand p l e room_1 s m #[(.long q0), (.int p1), (.int p2)] below meth c s₁ [] 0 0 := Stand.of_body Bd
  have e0 : s₁.heap = h0 := by rw [← hh, Bd.state]; rfl
  have Nf := Fr.nil n0
  refine (?_ : Win p.tables e below (PostQ s (Q0 Z q0 p1 p2 h0 n0) room_1.cells room_1.slots) (s₁.setTop (entryFrame m #[(.long q0), (.int p1), (.int p2)] maxLocals)))
  rw [ef_0]
  show Win p.tables e below _ (s₁.setTop (mkF m 0 #[.val (.long q0), .second, .val (.int p1), .val (.int p2), .unset, .unset, .unset, .unset] []))
  refine s_bipush (pc' := 2) (z := (6 : Int32)) X0.here hx (hb hby at_0) rfl rfl ?_
  obtain ⟨T_32, h_32, k_32, X_32, e_32, Ex_32, A_32, EA_32, st_32⟩ := newPE X0 hx hZ (hw _ (List.mem_of_getElem? (i := 0) rfl)) e0 (g := (mkF m 2 #[.val (.long q0), .second, .val (.int p1), .val (.int p2), .unset, .unset, .unset, .unset] [(.int (6 : Int32))])) rfl (hb hby at_2) rfl (by decide) (cap := 6) (by decide) (by decide) (by decide) (by decide) (ad := "[B") (by decide)
  obtain ⟨b_32, g_32⟩ : ∃ z, z = h0.size := ⟨_, rfl⟩
  have g_b_32 : n0 ≤ b_32 := Nat.le_trans Zs (Nat.le_of_eq g_32.symm)
  rw [← g_32] at A_32 EA_32 st_32
  replace Zs := Nat.le_trans Zs Ex_32.1
  have V_b_32 : Arv Z h_32 b_32 k_32 .byte (6 : Int32) [(.int (0 : Int32)), (.int (0 : Int32)), (.int (0 : Int32)), (.int (0 : Int32)), (.int (0 : Int32)), (.int (0 : Int32))] (.int (0 : Int32)) := (Arv.new A_32 (by decide)).pad (pad_rep [] (.int (0 : Int32)) 6)
  have lt_b_32 := V_b_32.lt
  have E_b_32 := EA_32
  refine Win.go st_32 ?_
  clear st_32 Ex_32 A_32 EA_32 g_32 X0 e0
  show Win p.tables e below _ (T_32.setTop (mkF m 4 #[.val (.long q0), .second, .val (.int p1), .val (.int p2), .unset, .unset, .unset, .unset] [(.ref b_32)]))
  refine s_astore (pc' := 6) (l' := #[.val (.long q0), .second, .val (.int p1), .val (.int p2), .val (.ref b_32), .unset, .unset, .unset]) X_32.here hx (hb hby at_4) rfl rfl rfl ?_
  refine s_aload (pc' := 8) X_32.here hx (hb hby at_6) rfl rfl rfl ?_
  refine s_iconst (pc' := 9) (z := (0 : Int32)) X_32.here hx (hb hby at_8) rfl rfl ?_
  refine s_lloadN (pc' := 10) X_32.here hx (hb hby at_9) rfl rfl ?_
  refine s_iconst (pc' := 11) (z := (0 : Int32)) X_32.here hx (hb hby at_10) rfl rfl ?_
  obtain ⟨_, _, ⟨T_33, L_33, k_33, n_33⟩, -, X_33, ⟨Lc_33, hQ_33, l_33, y_33, z_33⟩, st_33⟩ := Jvm.LawKit.callS X_32 hx (y := (⟨"com/example/throttle/throttle/app/HttpRequestHeadEndPinLaw", "cell", "(JI)B"⟩ : MethodName)) hown (mvT hZ (hw _ (List.mem_of_getElem? (i := 1) rfl))) (mvT hZ (hw _ (List.mem_of_getElem? (i := 2) rfl))) (mvT hZ (hw _ (List.mem_of_getElem? (i := 3) rfl))) (mvT hZ (hw _ (List.mem_of_getElem? (i := 4) rfl))) (by decide) (backOf (W := 2) (rm1 l Z a0 hw [] q0 (0 : Int32) h_32 n0 Zs ) hZ (hw _ (List.mem_of_getElem? (i := 4) rfl)) (hw _ (List.mem_of_getElem? (i := 3) rfl)) (by decide) (by decide)) (g := (mkF m 11 #[.val (.long q0), .second, .val (.int p1), .val (.int p2), .val (.ref b_32), .unset, .unset, .unset] [(.int (0 : Int32)), (.long q0), (.int (0 : Int32)), (.ref b_32)])) rfl (by rw [hml]; rfl) (argsL := [(.long q0), (.int (0 : Int32))]) (rest := [(.int (0 : Int32)), (.ref b_32)]) (lenOf pd_2 rfl) rfl (by show 2 * 0 + _ ≤ _; exact Nat.le_of_eq rfl) (hb hby at_11) (fun _ _ => ⟨rfl, e_32, (by decide : 1 + 0 ≤ _), (by decide : 6 + 0 ≤ _)⟩)
  dsimp only [Pt.U, Pt.locs, Pt.cells, Pt.slots] at X_33 l_33 y_33 z_33 st_33 hQ_33
  subst l_33 y_33 z_33
  obtain ⟨Nq_33, e_33, r_33, rfl, hr_33⟩ := hQ_33
  replace Nf := Fr.app Nf Nq_33
  refine Win.go st_33 ?_
  clear st_33 Nq_33 X_32 e_32
  show Win p.tables e below _ (T_33.setTop (mkF m 14 #[.val (.long q0), .second, .val (.int p1), .val (.int p2), .val (.ref b_32), .unset, .unset, .unset] [(.int r_33), (.int (0 : Int32)), (.ref b_32)]))
  obtain ⟨cl_34, Ar_34, q_34, S_34, N_34, H_34, G_34⟩ := V_b_32
  obtain ⟨T_34, h_34, X_34, e_34, W_34, st_34⟩ := stB X_33 hx hZ e_33 Ar_34 (j := (0 : Int32)) (inb_of S_34 ⟨by decide, by decide⟩) (g := (mkF m 14 #[.val (.long q0), .second, .val (.int p1), .val (.int p2), .val (.ref b_32), .unset, .unset, .unset] [(.int r_33), (.int (0 : Int32)), (.ref b_32)])) rfl rfl (hb hby at_14)
  have V_34 := Arv.set Ar_34 q_34 S_34 N_34 H_34 G_34 (fits_nar_byte _) W_34 0 rfl (Nat.le_of_ble_eq_true rfl)
  replace E_b_32 := E_b_32.wr W_34
  replace lt_b_32 := Nat.lt_of_lt_of_le lt_b_32 (Keep.of_wr W_34).1
  replace Zs := Nat.le_trans Zs (Keep.of_wr W_34).1
  replace V_b_32 : Arv Z h_34 b_32 k_32 .byte (6 : Int32) [(.int (nar .byte r_33)), (.int (0 : Int32)), (.int (0 : Int32)), (.int (0 : Int32)), (.int (0 : Int32)), (.int (0 : Int32))] (.int (0 : Int32)) := V_34
  replace Nf := Fr.snoc X_34 Nf g_b_32
  refine Win.go st_34 ?_
  clear st_34 W_34 V_34 Ar_34 q_34 S_34 N_34 H_34 G_34 X_33 e_33
  show Win p.tables e below _ (T_34.setTop (mkF m 15 #[.val (.long q0), .second, .val (.int p1), .val (.int p2), .val (.ref b_32), .unset, .unset, .unset] []))
  refine s_aload (pc' := 17) X_34.here hx (hb hby at_15) rfl rfl rfl ?_
  refine s_iconst (pc' := 18) (z := (1 : Int32)) X_34.here hx (hb hby at_17) rfl rfl ?_
  refine s_lloadN (pc' := 19) X_34.here hx (hb hby at_18) rfl rfl ?_
  refine s_iconst (pc' := 20) (z := (1 : Int32)) X_34.here hx (hb hby at_19) rfl rfl ?_
  obtain ⟨_, _, ⟨T_35, L_35, k_35, n_35⟩, -, X_35, ⟨Lc_35, hQ_35, l_35, y_35, z_35⟩, st_35⟩ := Jvm.LawKit.callS X_34 hx (y := (⟨"com/example/throttle/throttle/app/HttpRequestHeadEndPinLaw", "cell", "(JI)B"⟩ : MethodName)) hown (mvT hZ (hw _ (List.mem_of_getElem? (i := 1) rfl))) (mvT hZ (hw _ (List.mem_of_getElem? (i := 2) rfl))) (mvT hZ (hw _ (List.mem_of_getElem? (i := 3) rfl))) (mvT hZ (hw _ (List.mem_of_getElem? (i := 4) rfl))) (by decide) (backOf (W := 2) (rm1 l Z a0 hw [] q0 (1 : Int32) h_34 n0 Zs ) hZ (hw _ (List.mem_of_getElem? (i := 4) rfl)) (hw _ (List.mem_of_getElem? (i := 3) rfl)) (by decide) (by decide)) (g := (mkF m 20 #[.val (.long q0), .second, .val (.int p1), .val (.int p2), .val (.ref b_32), .unset, .unset, .unset] [(.int (1 : Int32)), (.long q0), (.int (1 : Int32)), (.ref b_32)])) rfl (by rw [hml]; rfl) (argsL := [(.long q0), (.int (1 : Int32))]) (rest := [(.int (1 : Int32)), (.ref b_32)]) (lenOf pd_2 rfl) rfl (by show 2 * 0 + _ ≤ _; exact Nat.le_of_eq rfl) (hb hby at_20) (fun _ _ => ⟨rfl, e_34, (by decide : 1 + 0 ≤ _), (by decide : 6 + 0 ≤ _)⟩)
  dsimp only [Pt.U, Pt.locs, Pt.cells, Pt.slots] at X_35 l_35 y_35 z_35 st_35 hQ_35
  subst l_35 y_35 z_35
  obtain ⟨Nq_35, e_35, r_35, rfl, hr_35⟩ := hQ_35
  replace Nf := Fr.app Nf Nq_35
  refine Win.go st_35 ?_
  clear st_35 Nq_35 X_34 e_34
  show Win p.tables e below _ (T_35.setTop (mkF m 23 #[.val (.long q0), .second, .val (.int p1), .val (.int p2), .val (.ref b_32), .unset, .unset, .unset] [(.int r_35), (.int (1 : Int32)), (.ref b_32)]))
  obtain ⟨cl_36, Ar_36, q_36, S_36, N_36, H_36, G_36⟩ := V_b_32
  obtain ⟨T_36, h_36, X_36, e_36, W_36, st_36⟩ := stB X_35 hx hZ e_35 Ar_36 (j := (1 : Int32)) (inb_of S_36 ⟨by decide, by decide⟩) (g := (mkF m 23 #[.val (.long q0), .second, .val (.int p1), .val (.int p2), .val (.ref b_32), .unset, .unset, .unset] [(.int r_35), (.int (1 : Int32)), (.ref b_32)])) rfl rfl (hb hby at_23)
  have V_36 := Arv.set Ar_36 q_36 S_36 N_36 H_36 G_36 (fits_nar_byte _) W_36 1 rfl (Nat.le_of_ble_eq_true rfl)
  replace E_b_32 := E_b_32.wr W_36
  replace lt_b_32 := Nat.lt_of_lt_of_le lt_b_32 (Keep.of_wr W_36).1
  replace Zs := Nat.le_trans Zs (Keep.of_wr W_36).1
  replace V_b_32 : Arv Z h_36 b_32 k_32 .byte (6 : Int32) [(.int (nar .byte r_33)), (.int (nar .byte r_35)), (.int (0 : Int32)), (.int (0 : Int32)), (.int (0 : Int32)), (.int (0 : Int32))] (.int (0 : Int32)) := V_36
  replace Nf := Fr.snoc X_36 Nf g_b_32
  refine Win.go st_36 ?_
  clear st_36 W_36 V_36 Ar_36 q_36 S_36 N_36 H_36 G_36 X_35 e_35
  show Win p.tables e below _ (T_36.setTop (mkF m 24 #[.val (.long q0), .second, .val (.int p1), .val (.int p2), .val (.ref b_32), .unset, .unset, .unset] []))
  refine s_aload (pc' := 26) X_36.here hx (hb hby at_24) rfl rfl rfl ?_
  refine s_iconst (pc' := 27) (z := (2 : Int32)) X_36.here hx (hb hby at_26) rfl rfl ?_
  refine s_lloadN (pc' := 28) X_36.here hx (hb hby at_27) rfl rfl ?_
  refine s_iconst (pc' := 29) (z := (2 : Int32)) X_36.here hx (hb hby at_28) rfl rfl ?_
  obtain ⟨_, _, ⟨T_37, L_37, k_37, n_37⟩, -, X_37, ⟨Lc_37, hQ_37, l_37, y_37, z_37⟩, st_37⟩ := Jvm.LawKit.callS X_36 hx (y := (⟨"com/example/throttle/throttle/app/HttpRequestHeadEndPinLaw", "cell", "(JI)B"⟩ : MethodName)) hown (mvT hZ (hw _ (List.mem_of_getElem? (i := 1) rfl))) (mvT hZ (hw _ (List.mem_of_getElem? (i := 2) rfl))) (mvT hZ (hw _ (List.mem_of_getElem? (i := 3) rfl))) (mvT hZ (hw _ (List.mem_of_getElem? (i := 4) rfl))) (by decide) (backOf (W := 2) (rm1 l Z a0 hw [] q0 (2 : Int32) h_36 n0 Zs ) hZ (hw _ (List.mem_of_getElem? (i := 4) rfl)) (hw _ (List.mem_of_getElem? (i := 3) rfl)) (by decide) (by decide)) (g := (mkF m 29 #[.val (.long q0), .second, .val (.int p1), .val (.int p2), .val (.ref b_32), .unset, .unset, .unset] [(.int (2 : Int32)), (.long q0), (.int (2 : Int32)), (.ref b_32)])) rfl (by rw [hml]; rfl) (argsL := [(.long q0), (.int (2 : Int32))]) (rest := [(.int (2 : Int32)), (.ref b_32)]) (lenOf pd_2 rfl) rfl (by show 2 * 0 + _ ≤ _; exact Nat.le_of_eq rfl) (hb hby at_29) (fun _ _ => ⟨rfl, e_36, (by decide : 1 + 0 ≤ _), (by decide : 6 + 0 ≤ _)⟩)
  dsimp only [Pt.U, Pt.locs, Pt.cells, Pt.slots] at X_37 l_37 y_37 z_37 st_37 hQ_37
  subst l_37 y_37 z_37
  obtain ⟨Nq_37, e_37, r_37, rfl, hr_37⟩ := hQ_37
  replace Nf := Fr.app Nf Nq_37
  refine Win.go st_37 ?_
  clear st_37 Nq_37 X_36 e_36
  show Win p.tables e below _ (T_37.setTop (mkF m 32 #[.val (.long q0), .second, .val (.int p1), .val (.int p2), .val (.ref b_32), .unset, .unset, .unset] [(.int r_37), (.int (2 : Int32)), (.ref b_32)]))
  obtain ⟨cl_38, Ar_38, q_38, S_38, N_38, H_38, G_38⟩ := V_b_32
  obtain ⟨T_38, h_38, X_38, e_38, W_38, st_38⟩ := stB X_37 hx hZ e_37 Ar_38 (j := (2 : Int32)) (inb_of S_38 ⟨by decide, by decide⟩) (g := (mkF m 32 #[.val (.long q0), .second, .val (.int p1), .val (.int p2), .val (.ref b_32), .unset, .unset, .unset] [(.int r_37), (.int (2 : Int32)), (.ref b_32)])) rfl rfl (hb hby at_32)
  have V_38 := Arv.set Ar_38 q_38 S_38 N_38 H_38 G_38 (fits_nar_byte _) W_38 2 rfl (Nat.le_of_ble_eq_true rfl)
  replace E_b_32 := E_b_32.wr W_38
  replace lt_b_32 := Nat.lt_of_lt_of_le lt_b_32 (Keep.of_wr W_38).1
  replace Zs := Nat.le_trans Zs (Keep.of_wr W_38).1
  replace V_b_32 : Arv Z h_38 b_32 k_32 .byte (6 : Int32) [(.int (nar .byte r_33)), (.int (nar .byte r_35)), (.int (nar .byte r_37)), (.int (0 : Int32)), (.int (0 : Int32)), (.int (0 : Int32))] (.int (0 : Int32)) := V_38
  replace Nf := Fr.snoc X_38 Nf g_b_32
  refine Win.go st_38 ?_
  clear st_38 W_38 V_38 Ar_38 q_38 S_38 N_38 H_38 G_38 X_37 e_37
  show Win p.tables e below _ (T_38.setTop (mkF m 33 #[.val (.long q0), .second, .val (.int p1), .val (.int p2), .val (.ref b_32), .unset, .unset, .unset] []))
  refine s_aload (pc' := 35) X_38.here hx (hb hby at_33) rfl rfl rfl ?_
  refine s_iconst (pc' := 36) (z := (3 : Int32)) X_38.here hx (hb hby at_35) rfl rfl ?_
  refine s_lloadN (pc' := 37) X_38.here hx (hb hby at_36) rfl rfl ?_
  refine s_iconst (pc' := 38) (z := (3 : Int32)) X_38.here hx (hb hby at_37) rfl rfl ?_
  obtain ⟨_, _, ⟨T_39, L_39, k_39, n_39⟩, -, X_39, ⟨Lc_39, hQ_39, l_39, y_39, z_39⟩, st_39⟩ := Jvm.LawKit.callS X_38 hx (y := (⟨"com/example/throttle/throttle/app/HttpRequestHeadEndPinLaw", "cell", "(JI)B"⟩ : MethodName)) hown (mvT hZ (hw _ (List.mem_of_getElem? (i := 1) rfl))) (mvT hZ (hw _ (List.mem_of_getElem? (i := 2) rfl))) (mvT hZ (hw _ (List.mem_of_getElem? (i := 3) rfl))) (mvT hZ (hw _ (List.mem_of_getElem? (i := 4) rfl))) (by decide) (backOf (W := 2) (rm1 l Z a0 hw [] q0 (3 : Int32) h_38 n0 Zs ) hZ (hw _ (List.mem_of_getElem? (i := 4) rfl)) (hw _ (List.mem_of_getElem? (i := 3) rfl)) (by decide) (by decide)) (g := (mkF m 38 #[.val (.long q0), .second, .val (.int p1), .val (.int p2), .val (.ref b_32), .unset, .unset, .unset] [(.int (3 : Int32)), (.long q0), (.int (3 : Int32)), (.ref b_32)])) rfl (by rw [hml]; rfl) (argsL := [(.long q0), (.int (3 : Int32))]) (rest := [(.int (3 : Int32)), (.ref b_32)]) (lenOf pd_2 rfl) rfl (by show 2 * 0 + _ ≤ _; exact Nat.le_of_eq rfl) (hb hby at_38) (fun _ _ => ⟨rfl, e_38, (by decide : 1 + 0 ≤ _), (by decide : 6 + 0 ≤ _)⟩)
  dsimp only [Pt.U, Pt.locs, Pt.cells, Pt.slots] at X_39 l_39 y_39 z_39 st_39 hQ_39
  subst l_39 y_39 z_39
  obtain ⟨Nq_39, e_39, r_39, rfl, hr_39⟩ := hQ_39
  replace Nf := Fr.app Nf Nq_39
  refine Win.go st_39 ?_
  clear st_39 Nq_39 X_38 e_38
  show Win p.tables e below _ (T_39.setTop (mkF m 41 #[.val (.long q0), .second, .val (.int p1), .val (.int p2), .val (.ref b_32), .unset, .unset, .unset] [(.int r_39), (.int (3 : Int32)), (.ref b_32)]))
  obtain ⟨cl_40, Ar_40, q_40, S_40, N_40, H_40, G_40⟩ := V_b_32
  obtain ⟨T_40, h_40, X_40, e_40, W_40, st_40⟩ := stB X_39 hx hZ e_39 Ar_40 (j := (3 : Int32)) (inb_of S_40 ⟨by decide, by decide⟩) (g := (mkF m 41 #[.val (.long q0), .second, .val (.int p1), .val (.int p2), .val (.ref b_32), .unset, .unset, .unset] [(.int r_39), (.int (3 : Int32)), (.ref b_32)])) rfl rfl (hb hby at_41)
  have V_40 := Arv.set Ar_40 q_40 S_40 N_40 H_40 G_40 (fits_nar_byte _) W_40 3 rfl (Nat.le_of_ble_eq_true rfl)
  replace E_b_32 := E_b_32.wr W_40
  replace lt_b_32 := Nat.lt_of_lt_of_le lt_b_32 (Keep.of_wr W_40).1
  replace Zs := Nat.le_trans Zs (Keep.of_wr W_40).1
  replace V_b_32 : Arv Z h_40 b_32 k_32 .byte (6 : Int32) [(.int (nar .byte r_33)), (.int (nar .byte r_35)), (.int (nar .byte r_37)), (.int (nar .byte r_39)), (.int (0 : Int32)), (.int (0 : Int32))] (.int (0 : Int32)) := V_40
  replace Nf := Fr.snoc X_40 Nf g_b_32
  refine Win.go st_40 ?_
  clear st_40 W_40 V_40 Ar_40 q_40 S_40 N_40 H_40 G_40 X_39 e_39
  show Win p.tables e below _ (T_40.setTop (mkF m 42 #[.val (.long q0), .second, .val (.int p1), .val (.int p2), .val (.ref b_32), .unset, .unset, .unset] []))
  refine s_aload (pc' := 44) X_40.here hx (hb hby at_42) rfl rfl rfl ?_
  refine s_iconst (pc' := 45) (z := (4 : Int32)) X_40.here hx (hb hby at_44) rfl rfl ?_
  refine s_lloadN (pc' := 46) X_40.here hx (hb hby at_45) rfl rfl ?_
  refine s_iconst (pc' := 47) (z := (4 : Int32)) X_40.here hx (hb hby at_46) rfl rfl ?_
  obtain ⟨_, _, ⟨T_41, L_41, k_41, n_41⟩, -, X_41, ⟨Lc_41, hQ_41, l_41, y_41, z_41⟩, st_41⟩ := Jvm.LawKit.callS X_40 hx (y := (⟨"com/example/throttle/throttle/app/HttpRequestHeadEndPinLaw", "cell", "(JI)B"⟩ : MethodName)) hown (mvT hZ (hw _ (List.mem_of_getElem? (i := 1) rfl))) (mvT hZ (hw _ (List.mem_of_getElem? (i := 2) rfl))) (mvT hZ (hw _ (List.mem_of_getElem? (i := 3) rfl))) (mvT hZ (hw _ (List.mem_of_getElem? (i := 4) rfl))) (by decide) (backOf (W := 2) (rm1 l Z a0 hw [] q0 (4 : Int32) h_40 n0 Zs ) hZ (hw _ (List.mem_of_getElem? (i := 4) rfl)) (hw _ (List.mem_of_getElem? (i := 3) rfl)) (by decide) (by decide)) (g := (mkF m 47 #[.val (.long q0), .second, .val (.int p1), .val (.int p2), .val (.ref b_32), .unset, .unset, .unset] [(.int (4 : Int32)), (.long q0), (.int (4 : Int32)), (.ref b_32)])) rfl (by rw [hml]; rfl) (argsL := [(.long q0), (.int (4 : Int32))]) (rest := [(.int (4 : Int32)), (.ref b_32)]) (lenOf pd_2 rfl) rfl (by show 2 * 0 + _ ≤ _; exact Nat.le_of_eq rfl) (hb hby at_47) (fun _ _ => ⟨rfl, e_40, (by decide : 1 + 0 ≤ _), (by decide : 6 + 0 ≤ _)⟩)
  dsimp only [Pt.U, Pt.locs, Pt.cells, Pt.slots] at X_41 l_41 y_41 z_41 st_41 hQ_41
  subst l_41 y_41 z_41
  obtain ⟨Nq_41, e_41, r_41, rfl, hr_41⟩ := hQ_41
  replace Nf := Fr.app Nf Nq_41
  refine Win.go st_41 ?_
  clear st_41 Nq_41 X_40 e_40
  show Win p.tables e below _ (T_41.setTop (mkF m 50 #[.val (.long q0), .second, .val (.int p1), .val (.int p2), .val (.ref b_32), .unset, .unset, .unset] [(.int r_41), (.int (4 : Int32)), (.ref b_32)]))
  obtain ⟨cl_42, Ar_42, q_42, S_42, N_42, H_42, G_42⟩ := V_b_32
  obtain ⟨T_42, h_42, X_42, e_42, W_42, st_42⟩ := stB X_41 hx hZ e_41 Ar_42 (j := (4 : Int32)) (inb_of S_42 ⟨by decide, by decide⟩) (g := (mkF m 50 #[.val (.long q0), .second, .val (.int p1), .val (.int p2), .val (.ref b_32), .unset, .unset, .unset] [(.int r_41), (.int (4 : Int32)), (.ref b_32)])) rfl rfl (hb hby at_50)
  have V_42 := Arv.set Ar_42 q_42 S_42 N_42 H_42 G_42 (fits_nar_byte _) W_42 4 rfl (Nat.le_of_ble_eq_true rfl)
  replace E_b_32 := E_b_32.wr W_42
  replace lt_b_32 := Nat.lt_of_lt_of_le lt_b_32 (Keep.of_wr W_42).1
  replace Zs := Nat.le_trans Zs (Keep.of_wr W_42).1
  replace V_b_32 : Arv Z h_42 b_32 k_32 .byte (6 : Int32) [(.int (nar .byte r_33)), (.int (nar .byte r_35)), (.int (nar .byte r_37)), (.int (nar .byte r_39)), (.int (nar .byte r_41)), (.int (0 : Int32))] (.int (0 : Int32)) := V_42
  replace Nf := Fr.snoc X_42 Nf g_b_32
  refine Win.go st_42 ?_
  clear st_42 W_42 V_42 Ar_42 q_42 S_42 N_42 H_42 G_42 X_41 e_41
  show Win p.tables e below _ (T_42.setTop (mkF m 51 #[.val (.long q0), .second, .val (.int p1), .val (.int p2), .val (.ref b_32), .unset, .unset, .unset] []))
  refine s_aload (pc' := 53) X_42.here hx (hb hby at_51) rfl rfl rfl ?_
  refine s_iconst (pc' := 54) (z := (5 : Int32)) X_42.here hx (hb hby at_53) rfl rfl ?_
  refine s_lloadN (pc' := 55) X_42.here hx (hb hby at_54) rfl rfl ?_
  refine s_iconst (pc' := 56) (z := (5 : Int32)) X_42.here hx (hb hby at_55) rfl rfl ?_
  obtain ⟨_, _, ⟨T_43, L_43, k_43, n_43⟩, -, X_43, ⟨Lc_43, hQ_43, l_43, y_43, z_43⟩, st_43⟩ := Jvm.LawKit.callS X_42 hx (y := (⟨"com/example/throttle/throttle/app/HttpRequestHeadEndPinLaw", "cell", "(JI)B"⟩ : MethodName)) hown (mvT hZ (hw _ (List.mem_of_getElem? (i := 1) rfl))) (mvT hZ (hw _ (List.mem_of_getElem? (i := 2) rfl))) (mvT hZ (hw _ (List.mem_of_getElem? (i := 3) rfl))) (mvT hZ (hw _ (List.mem_of_getElem? (i := 4) rfl))) (by decide) (backOf (W := 2) (rm1 l Z a0 hw [] q0 (5 : Int32) h_42 n0 Zs ) hZ (hw _ (List.mem_of_getElem? (i := 4) rfl)) (hw _ (List.mem_of_getElem? (i := 3) rfl)) (by decide) (by decide)) (g := (mkF m 56 #[.val (.long q0), .second, .val (.int p1), .val (.int p2), .val (.ref b_32), .unset, .unset, .unset] [(.int (5 : Int32)), (.long q0), (.int (5 : Int32)), (.ref b_32)])) rfl (by rw [hml]; rfl) (argsL := [(.long q0), (.int (5 : Int32))]) (rest := [(.int (5 : Int32)), (.ref b_32)]) (lenOf pd_2 rfl) rfl (by show 2 * 0 + _ ≤ _; exact Nat.le_of_eq rfl) (hb hby at_56) (fun _ _ => ⟨rfl, e_42, (by decide : 1 + 0 ≤ _), (by decide : 6 + 0 ≤ _)⟩)
  dsimp only [Pt.U, Pt.locs, Pt.cells, Pt.slots] at X_43 l_43 y_43 z_43 st_43 hQ_43
  subst l_43 y_43 z_43
  obtain ⟨Nq_43, e_43, r_43, rfl, hr_43⟩ := hQ_43
  replace Nf := Fr.app Nf Nq_43
  refine Win.go st_43 ?_
  clear st_43 Nq_43 X_42 e_42
  show Win p.tables e below _ (T_43.setTop (mkF m 59 #[.val (.long q0), .second, .val (.int p1), .val (.int p2), .val (.ref b_32), .unset, .unset, .unset] [(.int r_43), (.int (5 : Int32)), (.ref b_32)]))
  obtain ⟨cl_44, Ar_44, q_44, S_44, N_44, H_44, G_44⟩ := V_b_32
  obtain ⟨T_44, h_44, X_44, e_44, W_44, st_44⟩ := stB X_43 hx hZ e_43 Ar_44 (j := (5 : Int32)) (inb_of S_44 ⟨by decide, by decide⟩) (g := (mkF m 59 #[.val (.long q0), .second, .val (.int p1), .val (.int p2), .val (.ref b_32), .unset, .unset, .unset] [(.int r_43), (.int (5 : Int32)), (.ref b_32)])) rfl rfl (hb hby at_59)
  have V_44 := Arv.set Ar_44 q_44 S_44 N_44 H_44 G_44 (fits_nar_byte _) W_44 5 rfl (Nat.le_of_ble_eq_true rfl)
  replace E_b_32 := E_b_32.wr W_44
  replace lt_b_32 := Nat.lt_of_lt_of_le lt_b_32 (Keep.of_wr W_44).1
  replace Zs := Nat.le_trans Zs (Keep.of_wr W_44).1
  replace V_b_32 : Arv Z h_44 b_32 k_32 .byte (6 : Int32) [(.int (nar .byte r_33)), (.int (nar .byte r_35)), (.int (nar .byte r_37)), (.int (nar .byte r_39)), (.int (nar .byte r_41)), (.int (nar .byte r_43))] (.int (0 : Int32)) := V_44
  replace Nf := Fr.snoc X_44 Nf g_b_32
  refine Win.go st_44 ?_
  clear st_44 W_44 V_44 Ar_44 q_44 S_44 N_44 H_44 G_44 X_43 e_43
  show Win p.tables e below _ (T_44.setTop (mkF m 60 #[.val (.long q0), .second, .val (.int p1), .val (.int p2), .val (.ref b_32), .unset, .unset, .unset] []))
  obtain ⟨f, A_b_32⟩ := AF.ex (n := 6) V_b_32 (by decide)
  refine s_iloadN (pc' := 61) X_44.here hx (hb hby at_60) rfl rfl ?_
  refine s_bipush (pc' := 63) (z := (7 : Int32)) X_44.here hx (hb hby at_61) rfl rfl ?_
  refine s_iand (pc' := 64) X_44.here hx (hb hby at_63) rfl ?_
  refine s_bipush (pc' := 66) (z := (7 : Int32)) X_44.here hx (hb hby at_64) rfl rfl ?_
  refine Win.go (fun _ k => iremM X_44 hx rfl (hb hby at_66) rfl (by decide) k) ?_
  show Win p.tables e below _ (T_44.setTop (mkF m 67 #[.val (.long q0), .second, .val (.int p1), .val (.int p2), .val (.ref b_32), .unset, .unset, .unset] [(.int ((p2 &&& (7 : Int32)) % (7 : Int32)))]))
  refine s_istore (pc' := 69) (l' := #[.val (.long q0), .second, .val (.int p1), .val (.int p2), .val (.ref b_32), .val (.int ((p2 &&& (7 : Int32)) % (7 : Int32))), .unset, .unset]) X_44.here hx (hb hby at_67) rfl rfl ?_
  generalize htt : ((p2 &&& (7 : Int32)) % (7 : Int32)) = tt
  show Win p.tables e below _ (T_44.setTop (mkF m 69 #[.val (.long q0), .second, .val (.int p1), .val (.int p2), .val (.ref b_32), .val (.int tt), .unset, .unset] []))
  have btt : 0 ≤ tt.toInt ∧ tt.toInt ≤ 6 := by
    have h1 := c_and p2 7 (by decide)
    have h2 := (c_irem (p2 &&& (7 : Int32)) 7 7 rfl).1 h1.1
    rw [htt] at h2
    omega
  refine s_iloadN (pc' := 70) X_44.here hx (hb hby at_69) rfl rfl ?_
  refine s_bipush (pc' := 72) (z := (7 : Int32)) X_44.here hx (hb hby at_70) rfl rfl ?_
  refine s_iand (pc' := 73) X_44.here hx (hb hby at_72) rfl ?_
  refine s_bipush (pc' := 75) (z := (7 : Int32)) X_44.here hx (hb hby at_73) rfl rfl ?_
  refine Win.go (fun _ k => iremM X_44 hx rfl (hb hby at_75) rfl (by decide) k) ?_
  show Win p.tables e below _ (T_44.setTop (mkF m 76 #[.val (.long q0), .second, .val (.int p1), .val (.int p2), .val (.ref b_32), .val (.int tt), .unset, .unset] [(.int ((p1 &&& (7 : Int32)) % (7 : Int32)))]))
  refine s_istore (pc' := 78) (l' := #[.val (.long q0), .second, .val (.int p1), .val (.int p2), .val (.ref b_32), .val (.int tt), .val (.int ((p1 &&& (7 : Int32)) % (7 : Int32))), .unset]) X_44.here hx (hb hby at_76) rfl rfl ?_
  generalize hff : ((p1 &&& (7 : Int32)) % (7 : Int32)) = ff
  show Win p.tables e below _ (T_44.setTop (mkF m 78 #[.val (.long q0), .second, .val (.int p1), .val (.int p2), .val (.ref b_32), .val (.int tt), .val (.int ff), .unset] []))
  have bff : 0 ≤ ff.toInt ∧ ff.toInt ≤ 6 := by
    have h1 := c_and p1 7 (by decide)
    have h2 := (c_irem (p1 &&& (7 : Int32)) 7 7 rfl).1 h1.1
    rw [hff] at h2
    omega
  refine s_aload (pc' := 80) X_44.here hx (hb hby at_78) rfl rfl rfl ?_
  refine s_iload (pc' := 82) X_44.here hx (hb hby at_80) rfl rfl ?_
  refine s_iload (pc' := 84) X_44.here hx (hb hby at_82) rfl rfl ?_
  obtain ⟨_, _, ⟨T_45, L_45, k_45, n_45⟩, -, X_45, ⟨Lc_45, hQ_45, l_45, y_45, z_45⟩, st_45⟩ := Jvm.LawKit.callS X_44 hx (y := (⟨"com/example/throttle/throttle/app/HttpRequest", "headEnd", "([BII)I"⟩ : MethodName)) hown (mvT hZ (hw _ (List.mem_of_getElem? (i := 7) rfl))) (mvT hZ (hw _ (List.mem_of_getElem? (i := 8) rfl))) (mvT hZ (hw _ (List.mem_of_getElem? (i := 9) rfl))) (mvT hZ (hw _ (List.mem_of_getElem? (i := 10) rfl))) (by decide) (backOf (W := 0) (rm2 l Z a0 hw [] b_32 ff tt f h_44 n0 Zs A_b_32 (by omega)) hZ (hw _ (List.mem_of_getElem? (i := 10) rfl)) (hw _ (List.mem_of_getElem? (i := 9) rfl)) (by decide) (by decide)) (g := (mkF m 84 #[.val (.long q0), .second, .val (.int p1), .val (.int p2), .val (.ref b_32), .val (.int tt), .val (.int ff), .unset] [(.int tt), (.int ff), (.ref b_32)])) rfl (by rw [hml]; rfl) (argsL := [(.ref b_32), (.int ff), (.int tt)]) (rest := []) (lenOf pd_3 rfl) rfl (by show 2 * 0 + _ ≤ _; exact Nat.le_of_eq rfl) (hb hby at_84) (fun _ _ => ⟨rfl, e_44, (by decide : 1 + 0 ≤ _), (by decide : 6 + 0 ≤ _)⟩)
  dsimp only [Pt.U, Pt.locs, Pt.cells, Pt.slots] at X_45 l_45 y_45 z_45 st_45 hQ_45
  subst l_45 y_45 z_45
  obtain ⟨Nq_45, e_45, z1, rfl, hz1⟩ := hQ_45
  replace Nf := Fr.app Nf Nq_45
  refine Win.go st_45 ?_
  clear st_45 Nq_45 X_44 e_44
  show Win p.tables e below _ (T_45.setTop (mkF m 87 #[.val (.long q0), .second, .val (.int p1), .val (.int p2), .val (.ref b_32), .val (.int tt), .val (.int ff), .unset] [(.int z1)]))
  refine s_istore (pc' := 89) (l' := #[.val (.long q0), .second, .val (.int p1), .val (.int p2), .val (.ref b_32), .val (.int tt), .val (.int ff), .val (.int z1)]) X_45.here hx (hb hby at_87) rfl rfl ?_
  refine s_iload (pc' := 91) X_45.here hx (hb hby at_89) rfl rfl ?_
  refine s_aload (pc' := 93) X_45.here hx (hb hby at_91) rfl rfl rfl ?_
  refine s_iload (pc' := 95) X_45.here hx (hb hby at_93) rfl rfl ?_
  refine s_iload (pc' := 97) X_45.here hx (hb hby at_95) rfl rfl ?_
  obtain ⟨_, _, ⟨T_46, L_46, k_46, n_46⟩, -, X_46, ⟨Lc_46, hQ_46, l_46, y_46, z_46⟩, st_46⟩ := Jvm.LawKit.callS X_45 hx (y := (⟨"com/example/throttle/throttle/app/HttpRequestHeadEndPinLaw", "expected", "([BII)I"⟩ : MethodName)) hown (mvT hZ (hw _ (List.mem_of_getElem? (i := 14) rfl))) (mvT hZ (hw _ (List.mem_of_getElem? (i := 15) rfl))) (mvT hZ (hw _ (List.mem_of_getElem? (i := 3) rfl))) (mvT hZ (hw _ (List.mem_of_getElem? (i := 16) rfl))) (by decide) (backOf (W := 1) (rm4 l Z a0 hw [] b_32 ff tt f h_44 n0 Zs A_b_32 (by omega)) hZ (hw _ (List.mem_of_getElem? (i := 16) rfl)) (hw _ (List.mem_of_getElem? (i := 3) rfl)) (by decide) (by decide)) (g := (mkF m 97 #[.val (.long q0), .second, .val (.int p1), .val (.int p2), .val (.ref b_32), .val (.int tt), .val (.int ff), .val (.int z1)] [(.int tt), (.int ff), (.ref b_32), (.int z1)])) rfl (by rw [hml]; rfl) (argsL := [(.ref b_32), (.int ff), (.int tt)]) (rest := [(.int z1)]) (lenOf pd_3 rfl) rfl (by show 2 * 0 + _ ≤ _; exact Nat.le_of_eq rfl) (hb hby at_97) (fun _ _ => ⟨rfl, e_45, (by decide : 1 + 0 ≤ _), (by decide : 6 + 0 ≤ _)⟩)
  dsimp only [Pt.U, Pt.locs, Pt.cells, Pt.slots] at X_46 l_46 y_46 z_46 st_46 hQ_46
  subst l_46 y_46 z_46
  obtain ⟨Nq_46, e_46, z2, rfl, hz2⟩ := hQ_46
  replace Nf := Fr.app Nf Nq_46
  refine Win.go st_46 ?_
  clear st_46 Nq_46 X_45 e_45
  show Win p.tables e below _ (T_46.setTop (mkF m 100 #[.val (.long q0), .second, .val (.int p1), .val (.int p2), .val (.ref b_32), .val (.int tt), .val (.int ff), .val (.int z1)] [(.int z2), (.int z1)]))
  by_cases hc100 : (z1).toInt = (z2).toInt
  · skip
    refine s_icmpNo (pc' := 103) X_46.here hx (hb hby at_100) rfl (teqI (x := z1) (y := z2) hc100).2 ?_
    refine s_iconst (pc' := 104) (z := (1 : Int32)) X_46.here hx (hb hby at_103) rfl rfl ?_
    refine s_goto (pc' := 108) X_46.here hx (hb hby at_104) (by decide) (by decide) ?_
    refine winN X_46 hx hlk e_46 (t := .boolean) Bd.returns (by simp) (hb hby at_108) (by decide) (by decide) (z' := 1) rfl ⟨Nf, rfl⟩
  · skip
    refine s_icmpYes (pc' := 107) X_46.here hx (hb hby at_100) (feqI (x := z1) (y := z2) hc100).2 (by decide) (by decide) ?_
    refine s_iconst (pc' := 108) (z := (0 : Int32)) X_46.here hx (hb hby at_107) rfl rfl ?_
    exfalso
    exact hc100 (own_final (by omega) (by omega) hz1 hz2)
set_option maxRecDepth 65536 in
set_option maxHeartbeats 40000000 in
theorem comes_1 {Post : Tables → Env → Array Value → State → Outcome → State → Prop} (hpost : ∀ tb e args s v u, (limb_1_1.after args s (.returned v) u = true ∧ limb_1_2.after args s (.returned v) u = true ∧ True) → FrameEnd s (.returned v) u (Jvm.fieldLocs frame_1_writes args s ++ Jvm.arrayLocs frame_1_arrays args s ++ Jvm.staticLocs frame_1_statics s) 16 128 → Post tb e args s (.returned v) u) :
    ArmFor flags0 classFile x code maxLocals ret World_1 tables_1 room_1 Calls_1 rest_1 Pre_1 Post := by
  intro l hfl _ _ p e ha hc hk s m args below hf hA hF happ hP
  obtain ⟨hcalls, hrest, hpre⟩ := hP
  obtain ⟨-, -, -, hnamed, -, -, -, hat⟩ := (Spec.applies_iff hf).mp happ
  obtain ⟨hg, hn⟩ := and_e (Cond.before_iff.mp (show (Jvm.Cond.and given_1 narrow_1).before args s = true from hpre))
  obtain ⟨g1, g2⟩ := and_e hg
  obtain ⟨g3, g4⟩ := and_e g2
  obtain ⟨g5, g6⟩ := and_e g4
  obtain ⟨w0, w1, w2, rfl⟩ : ∃ w0 w1 w2 : Value, args = #[w0, w1, w2] := by
    have hs : args.size = 3 := by simpa [Cond.value, given_1] using g1
    obtain ⟨L⟩ := args
    match L, hs with
    | [w0, w1, w2], _ => exact ⟨w0, w1, w2, rfl⟩
  have hw := fun d (hd : d ∈ tables_1) => atoms_spec (ws := Jvm.Cond.code x code maxLocals ret :: tables_1) hat d (List.mem_cons_of_mem _ hd)
  have hfit : Fit s := fun {y c} hc i hi => by
    obtain ⟨ha, rfl⟩ := Array.getElem?_eq_some_iff.mp hc
    have q := List.all_eq_true.mp ((Array.all_eq_true_iff_forall_mem.mp hF) _ (Array.getElem_mem ha)) i (List.mem_range.mpr hi)
    simpa [Array.getElem?_eq_getElem hi] using q
  obtain ⟨i0, ei0⟩ := isL_v g3
  obtain rfl : w0 = (.long i0) := Option.some.inj ei0
  obtain ⟨i1, ei1⟩ := is_v g5
  obtain rfl : w1 = (.int i1) := Option.some.inj ei1
  obtain ⟨i2, ei2⟩ := is_v g6
  obtain rfl : w2 = (.int i2) := Option.some.inj ei2
  obtain ⟨n, o, h1, h2, h3, _, L, rfl, ⟨N, rfl⟩, hq⟩ := rm0 l s _ hw tables_1 i0 i1 i2 s.heap s.heap.size (Nat.le_refl _) p e ha hc hk s m _ below hf ((Spec.applies_iff_loose hf).mp happ).1 ⟨rfl, State.Warmed39.refl s, rfl⟩ trivial
  refine ⟨n, _, h1, h2, h3, hpost _ _ _ _ _ _ ⟨Cond.after_iff.mpr rfl, Cond.after_iff.mpr (eq_i res_at (Term.int_eval (1)) rfl), trivial⟩ ⟨hq.1, hq.2.1, (hq.2.2.sift fun y hy => Or.inr (N y hy)).mono (by decide) (by decide)⟩⟩
theorem main_1_1 : Claimed_1_1 := comes_1 fun _ _ _ _ _ _ h hF => ⟨h.1, hF⟩
theorem main_1_2 : Claimed_1_2 := comes_1 fun _ _ _ _ _ _ h hF => ⟨h.2.1, hF⟩
end Jvm.Pilot.@@N@@
namespace Jvm.Pilot.@@N@@
open Jvm Jvm.ClassFile Sem Op Lib Jvm.Free Jvm.Stand Jvm.Pilot.@@N@@.Jvm.D
/-! MADE BY PROGRAM (witnessworld.py) out of the Statement's table words and the real class files: 9 classes; the members and pool entries that the words name. The judged class is class 1, her method 1. -/
namespace start1
open Jvm.ClassFile
def u (s : String) : CpInfo := .utf8 (stringToUtf16 s)
/-- a pool by its gaps: so many unusable entries, then the entry; so many at the end -/
def gap : Nat → List CpInfo → List CpInfo
  | 0, r => r
  | n + 1, r => .unusable :: gap n r
def poolList (es : List (Nat × CpInfo)) (last : Nat) : List CpInfo := es.foldr (fun e r => gap e.1 (e.2 :: r)) (gap last [])
def pool (es : List (Nat × CpInfo)) (last : Nat) : Array CpInfo := ⟨poolList es last⟩
def fileOf (pool : Array CpInfo) (this : Nat) (attrs : Array Attribute := #[]) (ms : Array MethodInfo := #[]) (fl : Nat := 33) (sup : Nat := 0) (ifs : Array Nat := #[]) (fds : Array FieldInfo := #[]) : ClassFile where
  minorVersion := 0
  majorVersion := 65
  constantPool := pool
  accessFlags := fl
  thisClass := this
  superClass := sup
  interfaces := ifs
  fields := fds
  methods := ms
  attributes := attrs
def plain (name : String) (sup : Option ClassId) : Class where
  name := name
  kind := .ordinary
  loader := none
  accessFlags := 33
  super := sup
  interfaces := #[]
  cf := none
  fields := #[]
  methods := #[]
  instanceTypes := #[]
  staticTypes := #[]
  resolved := #[]
  callSites := []
  init := .initialized
  statics := none
  mirror := none

def pool0 : Array CpInfo := pool [(5, u "<init>"), (0, u "()V"), (1, .class_ 10), (1, u "java/lang/Object")] 113

def k0m0 : Method := { name := "<init>", desc := "()V", sig := { parameters := [], returnType := none }, accessFlags := 1, code := none }
/-- java/lang/Object -/
def k0 : Class := { plain "java/lang/Object" none with
  accessFlags := 33
  interfaces := #[]
  cf := some (fileOf pool0 8 #[] #[{ accessFlags := 1, nameIndex := 5, descriptorIndex := 6, attributes := #[] }] 33 0 #[] #[])
  fields := #[]
  methods := #[k0m0]
  instanceTypes := #[]
  staticTypes := #[]
  resolved := Array.replicate 124 none
  statics := none }

def pool1 : Array CpInfo := pool [(2, .class_ 4), (1, u "java/lang/Object"), (0, u "<init>"), (0, u "()V"), (0, .methodref 8 9), (0, .class_ 10), (0, .nameAndType 11 12), (0, u "com/example/throttle/throttle/app/HttpRequestHeadEndPinLaw"), (0, u "cell"), (0, u "(JI)B"), (0, .methodref 14 15), (0, .class_ 16), (0, .nameAndType 17 18), (0, u "com/example/throttle/throttle/app/HttpRequest"), (0, u "headEnd"), (0, u "([BII)I"), (0, .methodref 8 20), (0, .nameAndType 21 18), (0, u "expected"), (0, .long 3), (1, .long 255), (1, .methodref 8 27), (0, .nameAndType 28 29), (0, u "endsHead"), (0, u "([BIII)Z"), (2, u "law"), (0, u "(JII)Z")] 5

def k1m0 : Method := { name := "<init>", desc := "()V", sig := { parameters := [], returnType := none }, accessFlags := 1, code := none }
def k1c1 : Code := { maxStack := 5, maxLocals := 8, code := code, exceptionTable := #[], attributes := #[] }
def k1m1 : Method := { name := "law", desc := "(JII)Z", sig := { parameters := [.long, .int, .int], returnType := some .boolean }, accessFlags := 9, code := some k1c1 }
def k1c2 : Code := { maxStack := 4, maxLocals := 5, code := method_3_code, exceptionTable := #[], attributes := #[] }
def k1m2 : Method := { name := "cell", desc := "(JI)B", sig := { parameters := [.long, .int], returnType := some .byte }, accessFlags := 10, code := some k1c2 }
def k1c3 : Code := { maxStack := 3, maxLocals := 4, code := method_4_code, exceptionTable := #[], attributes := #[] }
def k1m3 : Method := { name := "endsHead", desc := "([BIII)Z", sig := { parameters := [(.array .byte), .int, .int, .int], returnType := some .boolean }, accessFlags := 10, code := some k1c3 }
def k1c4 : Code := { maxStack := 4, maxLocals := 3, code := method_5_code, exceptionTable := #[], attributes := #[] }
def k1m4 : Method := { name := "expected", desc := "([BII)I", sig := { parameters := [(.array .byte), .int, .int], returnType := some .int }, accessFlags := 10, code := some k1c4 }
/-- com/example/throttle/throttle/app/HttpRequestHeadEndPinLaw -/
def k1 : Class := { plain "com/example/throttle/throttle/app/HttpRequestHeadEndPinLaw" (some 0) with
  accessFlags := 49
  interfaces := #[]
  cf := some (fileOf pool1 8 #[] #[{ accessFlags := 1, nameIndex := 5, descriptorIndex := 6, attributes := #[] }, { accessFlags := 9, nameIndex := 32, descriptorIndex := 33, attributes := #[] }, { accessFlags := 10, nameIndex := 11, descriptorIndex := 12, attributes := #[] }, { accessFlags := 10, nameIndex := 28, descriptorIndex := 29, attributes := #[] }, { accessFlags := 10, nameIndex := 21, descriptorIndex := 18, attributes := #[] }] 49 2 #[] #[])
  fields := #[]
  methods := #[k1m0, k1m1, k1m2, k1m3, k1m4]
  instanceTypes := #[]
  staticTypes := #[]
  resolved := Array.replicate 39 none
  statics := none }

def pool2 : Array CpInfo := pool [(2, .class_ 4), (1, u "java/lang/Object"), (3, .class_ 10), (1, u "com/example/throttle/throttle/app/HttpRequest$Reading"), (0, u "bytes"), (0, u "[B"), (1, .class_ 15), (0, u "com/example/throttle/throttle/app/HttpRequest"), (2, u "method"), (0, u "Ljava/lang/String;"), (3, u "target"), (3, u "http11"), (0, u "Z"), (3, u "names"), (0, u "Ljava/util/List;"), (3, u "values"), (0, u "[I"), (3, u "contentLength"), (0, u "J"), (3, u "chunked"), (3, u "keepAlive"), (3, u "expectsContinue"), (3, u "sender"), (0, .methodref 14 61), (0, .nameAndType 62 63), (0, u "indexOf"), (0, u "([BCII)I"), (97, u "LONGEST_HEAD"), (0, u "I"), (2, u "MOST_FIELDS"), (1, u "BAD_REQUEST"), (1, u "HEAD_TOO_LARGE"), (1, u "NOT_IMPLEMENTED"), (1, u "VERSION_NOT_SUPPORTED"), (1, u "LONGEST_LENGTH"), (5, u "headEnd"), (0, u "([BII)I"), (4, .class_ 188), (0, u "com/example/throttle/throttle/app/HttpRequest$Malformed")] 17

def k2c0 : Code := { maxStack := 4, maxLocals := 4, code := prog_43_method_2_code, exceptionTable := #[], attributes := #[] }
def k2m0 : Method := { name := "headEnd", desc := "([BII)I", sig := { parameters := [(.array .byte), .int, .int], returnType := some .int }, accessFlags := 8, code := some k2c0 }
def k2c1 : Code := { maxStack := 2, maxLocals := 5, code := prog_43_method_16_code, exceptionTable := #[], attributes := #[] }
def k2m1 : Method := { name := "indexOf", desc := "([BCII)I", sig := { parameters := [(.array .byte), .char, .int, .int], returnType := some .int }, accessFlags := 10, code := some k2c1 }
/-- com/example/throttle/throttle/app/HttpRequest -/
def k2 : Class := { plain "com/example/throttle/throttle/app/HttpRequest" (some 0) with
  accessFlags := 48
  interfaces := #[]
  cf := some (fileOf pool2 14 #[.nestMembers #[8, 187]] #[{ accessFlags := 8, nameIndex := 181, descriptorIndex := 182, attributes := #[] }, { accessFlags := 10, nameIndex := 62, descriptorIndex := 63, attributes := #[] }] 48 2 #[] #[{ accessFlags := 24, nameIndex := 161, descriptorIndex := 162, attributes := #[] }, { accessFlags := 24, nameIndex := 165, descriptorIndex := 162, attributes := #[] }, { accessFlags := 24, nameIndex := 167, descriptorIndex := 162, attributes := #[] }, { accessFlags := 24, nameIndex := 169, descriptorIndex := 162, attributes := #[] }, { accessFlags := 24, nameIndex := 171, descriptorIndex := 162, attributes := #[] }, { accessFlags := 24, nameIndex := 173, descriptorIndex := 162, attributes := #[] }, { accessFlags := 26, nameIndex := 175, descriptorIndex := 162, attributes := #[] }, { accessFlags := 18, nameIndex := 11, descriptorIndex := 12, attributes := #[] }, { accessFlags := 18, nameIndex := 18, descriptorIndex := 19, attributes := #[] }, { accessFlags := 18, nameIndex := 23, descriptorIndex := 19, attributes := #[] }, { accessFlags := 18, nameIndex := 27, descriptorIndex := 28, attributes := #[] }, { accessFlags := 18, nameIndex := 32, descriptorIndex := 33, attributes := #[] }, { accessFlags := 18, nameIndex := 37, descriptorIndex := 38, attributes := #[] }, { accessFlags := 18, nameIndex := 42, descriptorIndex := 43, attributes := #[] }, { accessFlags := 18, nameIndex := 47, descriptorIndex := 28, attributes := #[] }, { accessFlags := 18, nameIndex := 51, descriptorIndex := 28, attributes := #[] }, { accessFlags := 18, nameIndex := 55, descriptorIndex := 28, attributes := #[] }, { accessFlags := 18, nameIndex := 59, descriptorIndex := 19, attributes := #[] }])
  fields := #[{ name := "LONGEST_HEAD", type := .int, accessFlags := 24, slot := 0, constantValue := 0 }, { name := "MOST_FIELDS", type := .int, accessFlags := 24, slot := 1, constantValue := 0 }, { name := "BAD_REQUEST", type := .int, accessFlags := 24, slot := 2, constantValue := 0 }, { name := "HEAD_TOO_LARGE", type := .int, accessFlags := 24, slot := 3, constantValue := 0 }, { name := "NOT_IMPLEMENTED", type := .int, accessFlags := 24, slot := 4, constantValue := 0 }, { name := "VERSION_NOT_SUPPORTED", type := .int, accessFlags := 24, slot := 5, constantValue := 0 }, { name := "LONGEST_LENGTH", type := .int, accessFlags := 26, slot := 6, constantValue := 0 }, { name := "bytes", type := (.array .byte), accessFlags := 18, slot := 0, constantValue := 0 }, { name := "method", type := (.object "java/lang/String"), accessFlags := 18, slot := 1, constantValue := 0 }, { name := "target", type := (.object "java/lang/String"), accessFlags := 18, slot := 2, constantValue := 0 }, { name := "http11", type := .boolean, accessFlags := 18, slot := 3, constantValue := 0 }, { name := "names", type := (.object "java/util/List"), accessFlags := 18, slot := 4, constantValue := 0 }, { name := "values", type := (.array .int), accessFlags := 18, slot := 5, constantValue := 0 }, { name := "contentLength", type := .long, accessFlags := 18, slot := 6, constantValue := 0 }, { name := "chunked", type := .boolean, accessFlags := 18, slot := 7, constantValue := 0 }, { name := "keepAlive", type := .boolean, accessFlags := 18, slot := 8, constantValue := 0 }, { name := "expectsContinue", type := .boolean, accessFlags := 18, slot := 9, constantValue := 0 }, { name := "sender", type := (.object "java/lang/String"), accessFlags := 18, slot := 10, constantValue := 0 }]
  methods := #[k2m0, k2m1]
  instanceTypes := #[(.array .byte), (.object "java/lang/String"), (.object "java/lang/String"), .boolean, (.object "java/util/List"), (.array .int), .long, .boolean, .boolean, .boolean, (.object "java/lang/String")]
  staticTypes := #[.int, .int, .int, .int, .int, .int, .int]
  resolved := Array.replicate 206 none
  statics := none }

def pool3 : Array CpInfo := pool [(1, u "java/lang/Cloneable"), (0, .class_ 1), (0, u "java/lang/Object"), (0, .class_ 3)] 3

/-- java/lang/Cloneable -/
def k3 : Class := { plain "java/lang/Cloneable" (some 0) with
  accessFlags := 1537
  interfaces := #[]
  cf := some (fileOf pool3 2 #[] #[] 1537 4 #[] #[])
  fields := #[]
  methods := #[]
  instanceTypes := #[]
  staticTypes := #[]
  resolved := Array.replicate 8 none
  statics := none }

def pool4 : Array CpInfo := pool [(1, u "java/io/Serializable"), (0, .class_ 1), (0, u "java/lang/Object"), (0, .class_ 3)] 3

/-- java/io/Serializable -/
def k4 : Class := { plain "java/io/Serializable" (some 0) with
  accessFlags := 1537
  interfaces := #[]
  cf := some (fileOf pool4 2 #[] #[] 1537 4 #[] #[])
  fields := #[]
  methods := #[]
  instanceTypes := #[]
  staticTypes := #[]
  resolved := Array.replicate 8 none
  statics := none }

/-- the primitive byte -/
def k5 : Class := { plain "byte" none with kind := .primitive 'B', accessFlags := 0x411 }
/-- [B -/
def k6 : Class := { plain "[B" (some 0) with kind := .array 5 .byte, interfaces := #[3, 4], accessFlags := 1041 }

/-- the primitive int -/
def k7 : Class := { plain "int" none with kind := .primitive 'I', accessFlags := 0x411 }
/-- [I -/
def k8 : Class := { plain "[I" (some 0) with kind := .array 7 .int, interfaces := #[3, 4], accessFlags := 1041 }

def heap : Heap := #[]
def classes : Array Class := #[k0, k1, k2, k3, k4, k5, k6, k7, k8]
def interned : List (Array UInt16 × Addr) := []
def slotsUsed : Nat := 0
def theMethod : MethodId := ⟨1, 1⟩
def args0 : Array Value := #[.long 5, .int 5, .int 5]
def aboutOver (below : List Frame) : State where
  vm := { classes := classes, interned := interned.toArray }
  heap := heap
  slotsUsed := slotsUsed
  threads := #[{ frames := .invoking theMethod args0 :: below }]
def below0 : List Frame := [.native { method := ⟨0, 0⟩, args := #[] }]
def about1 : State := aboutOver below0
def p0 : Program := .bare "" "" ""
def e0 : Env := launch0.env 0 0 0
theorem w_frames : about1.frames = Frame.invoking theMethod args0 :: below0 := rfl
set_option maxRecDepth 65536 in
theorem w_args : argsFit about1.vm theMethod args0 = true := by decide +kernel
set_option maxRecDepth 65536 in
theorem w_heap : heapFits about1 = true := by decide +kernel
set_option maxRecDepth 65536 in
theorem w_runnable : about1.curStatus? = some .runnable := by decide +kernel
set_option maxRecDepth 65536 in
theorem w_alone : about1.alone = true := by decide +kernel
set_option maxRecDepth 65536 in
theorem w_named : about1.methodNamed? x = some theMethod := by decide +kernel
set_option maxRecDepth 65536 in
theorem w_hears : about1.hears theMethod below0 = true := by decide +kernel
set_option maxRecDepth 65536 in
theorem w_ripe : about1.ripe theMethod args0 below0 = true := by decide +kernel
theorem w_running : about1.status = .running := rfl
set_option maxRecDepth 65536 in
theorem w_room : about1.hasRoom e0.platform room_1 = true :=
  launch0.hasRoom_least _ room_1 (by decide +kernel) (by decide +kernel) (by decide +kernel) (by decide +kernel) (by decide +kernel) (by decide +kernel)
theorem allAtoms_all (ts : List Jvm.Cond) (a : Array Jvm.Value) (st : Jvm.State) : (allAtoms ts).before a st = ts.all (fun c => c.before a st) := by
  induction ts with
  | nil => rfl
  | cons c t ih =>
    show (Jvm.Cond.and c (allAtoms t)).before a st = _
    rw [Jvm.Cond.before_and, ih, List.all_cons]
def words1 : List Jvm.Cond := Jvm.Cond.code x code maxLocals ret :: tables_1
/-- a 'code' word, met by the world's own term for the bytes: nothing is compared byte by byte -/
theorem code_word {y : MethodName} {bytes : ByteArray} {mx : Nat} {rt : Option FieldType} {a : Array Value} {s : State} {m : MethodId} {meth : Method} {c : Code} (h1 : s.methodNamed? y = some m) (h2 : s.vm.method? m = some meth) (h3 : meth.code = some c) (h4 : c.code = bytes)
    (h5 : (c.maxLocals == mx && c.exceptionTable.isEmpty && decide (c.maxStack ≤ mostOperands) && decide (meth.sig.returnType = rt) && !meth.locks && decide (parseMethodDescriptor y.desc = some meth.sig)) = true) : (Jvm.Cond.code y bytes mx rt).before a s = true := by
  simp only [Bool.and_eq_true, beq_iff_eq, Bool.not_eq_true', decide_eq_true_eq] at h5
  obtain ⟨⟨⟨⟨⟨g1, g2⟩, g3⟩, g4⟩, g5⟩, g6⟩ := h5
  simp [Cond.before, Cond.holds, Cond.value, h1, h2, h3, h4, g1, g2, g3, g4, g5, g6]
def isCode : Jvm.Cond → Bool
  | .code _ _ _ _ => true
  | _ => false
theorem all_split {L : List Jvm.Cond} {P : Jvm.Cond → Bool} (h1 : L.all (fun c => isCode c || P c) = true) (h2 : ∀ c ∈ L.filter isCode, P c = true) : L.all P = true := by
  refine List.all_eq_true.mpr fun c hc => ?_
  have h := List.all_eq_true.mp h1 c hc
  rcases Bool.eq_false_or_eq_true (isCode c) with hi | hi
  · exact h2 c (List.mem_filter.mpr ⟨hc, hi⟩)
  · simpa [hi] using h
set_option maxRecDepth 65536 in
theorem w_c0 : (Jvm.Cond.code x code maxLocals ret).before args0 about1 = true := code_word (m := ⟨1, 1⟩) (meth := k1m1) (c := k1c1) (by decide +kernel) rfl rfl rfl (by decide +kernel)
set_option maxRecDepth 65536 in
theorem w_c1 : (Jvm.Cond.code ({ cls := "com/example/throttle/throttle/app/HttpRequestHeadEndPinLaw", name := "cell", desc := "(JI)B" } : Jvm.MethodName) method_3_code (5 : Nat) (Option.some Jvm.ClassFile.FieldType.byte)).before args0 about1 = true := code_word (m := ⟨1, 2⟩) (meth := k1m2) (c := k1c2) (by decide +kernel) rfl rfl rfl (by decide +kernel)
set_option maxRecDepth 65536 in
theorem w_c2 : (Jvm.Cond.code ({ cls := "com/example/throttle/throttle/app/HttpRequest", name := "headEnd", desc := "([BII)I" } : Jvm.MethodName) prog_43_method_2_code (4 : Nat) (Option.some Jvm.ClassFile.FieldType.int)).before args0 about1 = true := code_word (m := ⟨2, 0⟩) (meth := k2m0) (c := k2c0) (by decide +kernel) rfl rfl rfl (by decide +kernel)
set_option maxRecDepth 65536 in
theorem w_c3 : (Jvm.Cond.code ({ cls := "com/example/throttle/throttle/app/HttpRequest", name := "indexOf", desc := "([BCII)I" } : Jvm.MethodName) prog_43_method_16_code (5 : Nat) (Option.some Jvm.ClassFile.FieldType.int)).before args0 about1 = true := code_word (m := ⟨2, 1⟩) (meth := k2m1) (c := k2c1) (by decide +kernel) rfl rfl rfl (by decide +kernel)
set_option maxRecDepth 65536 in
theorem w_c4 : (Jvm.Cond.code ({ cls := "com/example/throttle/throttle/app/HttpRequestHeadEndPinLaw", name := "expected", desc := "([BII)I" } : Jvm.MethodName) method_5_code (3 : Nat) (Option.some Jvm.ClassFile.FieldType.int)).before args0 about1 = true := code_word (m := ⟨1, 4⟩) (meth := k1m4) (c := k1c4) (by decide +kernel) rfl rfl rfl (by decide +kernel)
set_option maxRecDepth 65536 in
theorem w_c5 : (Jvm.Cond.code ({ cls := "com/example/throttle/throttle/app/HttpRequestHeadEndPinLaw", name := "endsHead", desc := "([BIII)Z" } : Jvm.MethodName) method_4_code (4 : Nat) (Option.some Jvm.ClassFile.FieldType.boolean)).before args0 about1 = true := code_word (m := ⟨1, 3⟩) (meth := k1m3) (c := k1c3) (by decide +kernel) rfl rfl rfl (by decide +kernel)
def codes1 : List Jvm.Cond := [Jvm.Cond.code x code maxLocals ret, Jvm.Cond.code ({ cls := "com/example/throttle/throttle/app/HttpRequestHeadEndPinLaw", name := "cell", desc := "(JI)B" } : Jvm.MethodName) method_3_code (5 : Nat) (Option.some Jvm.ClassFile.FieldType.byte), Jvm.Cond.code ({ cls := "com/example/throttle/throttle/app/HttpRequest", name := "headEnd", desc := "([BII)I" } : Jvm.MethodName) prog_43_method_2_code (4 : Nat) (Option.some Jvm.ClassFile.FieldType.int), Jvm.Cond.code ({ cls := "com/example/throttle/throttle/app/HttpRequest", name := "indexOf", desc := "([BCII)I" } : Jvm.MethodName) prog_43_method_16_code (5 : Nat) (Option.some Jvm.ClassFile.FieldType.int), Jvm.Cond.code ({ cls := "com/example/throttle/throttle/app/HttpRequestHeadEndPinLaw", name := "expected", desc := "([BII)I" } : Jvm.MethodName) method_5_code (3 : Nat) (Option.some Jvm.ClassFile.FieldType.int), Jvm.Cond.code ({ cls := "com/example/throttle/throttle/app/HttpRequestHeadEndPinLaw", name := "endsHead", desc := "([BIII)Z" } : Jvm.MethodName) method_4_code (4 : Nat) (Option.some Jvm.ClassFile.FieldType.boolean)]
set_option maxRecDepth 65536 in
theorem codes_eq : words1.filter isCode = codes1 := rfl
theorem w_codes : ∀ c ∈ words1.filter isCode, c.before args0 about1 = true := by
  rw [codes_eq]
  intro c hc
  simp only [codes1, List.mem_cons, List.not_mem_nil, or_false] at hc
  rcases hc with rfl | rfl | rfl | rfl | rfl | rfl
  · exact w_c0
  · exact w_c1
  · exact w_c2
  · exact w_c3
  · exact w_c4
  · exact w_c5
set_option maxRecDepth 65536 in
theorem w_t1 : words1.all (fun c => isCode c || c.before args0 about1) = true := by decide +kernel
theorem w_tables : (allAtoms (Jvm.Cond.code x code maxLocals ret :: tables_1)).before args0 about1 = true := by
  rw [allAtoms_all]
  show words1.all (fun c => c.before args0 about1) = true
  refine all_split ?_ w_codes
  rw [w_t1]
set_option maxRecDepth 65536 in
theorem w_case : (Jvm.Cond.and given_1 narrow_1).before args0 about1 = true := by decide +kernel
theorem w_applies : (headSpec (Jvm.Cond.code x code maxLocals ret :: tables_1) room_1).applies x e0.platform about1 = true :=
  (Spec.applies_iff w_frames).mpr ⟨w_running, w_runnable, w_alone, w_named, w_hears, w_ripe, w_room, w_tables⟩
theorem atStart : AtStart classFile x code maxLocals ret World_1 tables_1 room_1 Calls_1 rest_1 Pre_1 launch0 p0 e0 about1 theMethod args0 below0 :=
  ⟨lists_1, trivial, launch0.admits_env _ _ _, launch0.least_env, fairChoices_fair.cas, fairChoices_fair.clock, w_frames, w_args, w_heap, w_applies, trivial, trivial, w_case⟩
end start1
theorem witness_1 : WitnessClaimed_1 := ⟨start1.p0, start1.e0, start1.about1, start1.theMethod, start1.args0, start1.below0, start1.atStart⟩
end Jvm.Pilot.@@N@@
