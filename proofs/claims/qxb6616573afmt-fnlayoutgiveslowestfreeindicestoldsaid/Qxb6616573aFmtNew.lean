import Derived.Test.Qxb6616573aFmtTab
import Derived.Deep.AppendLies
import Derived.Carry
namespace Go.Proofs.Qxb6616573aFmt
open Go.RowKit
open Go.Maps (Keyed int_keyed)
set_option linter.unusedVariables false
set_option linter.unusedSimpArgs false
theorem isMap_of {H : Type} {w : World} {P : Program} {k : TypeId} {R : Value → Option (DataW H × List MemPlace)} {b n : Nat} {D : DataW H} (h : w.ownsMap P k R b n D) : Maps.IsMap D := by
  obtain ⟨es, clock, _, _, _, rfl⟩ := h
  exact ⟨_, rfl⟩
theorem MapAt.put {w' : World} {mb n : Nat} {zs : List Int} {bt : Int → Nat} {D : DataW Unit} (hi : Maps.IsMap D) (h2 : ∀ x, Maps.has D (.int .i64 x) = decide (x ∈ zs)) (h3 : ∀ x, x ∈ zs → D.atKey (.int .i64 x) .nil = .lit (.int .i64 (bt x))) (z : Int) (nb : Nat)
    (h : w'.ownsMap Tryf.prog 3 ptrElem mb n (D.put (.int .i64 z) (.lit (.int .i64 nb)))) : MapAt w' mb n (zs ++ [z]) (fun y => if y = z then nb else bt y) := by
  refine ⟨_, h, fun x => ?_, fun x hx => ?_⟩
  · by_cases e : x = z
    · subst e
      rw [Maps.has_put_same hi (show WideAt.IsKeyLit (.int .i64 x) from trivial)]; simp
    · rw [Maps.has_put_other (by intro h; injection h; contradiction), h2 x]; simp [e]
  · by_cases e : x = z
    · subst e
      rw [Maps.atKey_put_same hi (show WideAt.IsKeyLit (.int .i64 x) from trivial)]; simp only [if_pos]
    · rw [Maps.atKey_put_other (by intro h; injection h; contradiction)]
      simp only [if_neg e]
      exact h3 x (by simpa [e] using hx)
section
variable (w : World) {ops : Array Oper} {rest : List Oper} {o : Oper} {a : Act} {Q : Exit → Act → World → Prop}
theorem wpList_update_boot (hg : o.guard = none) (m x v : Operand) (hop : o.op = Op.mapUpdate 40 m x v) (mb n : Nat) (zs : List Int) (bt : Int → Nat) (hm : a.eval m = .map (some mb)) (h : MapAt w mb n zs bt) (hn : n < maxLen) (z : Int) (nb : Nat) (hx : a.eval x = .int .i64 z) (hv : a.eval v = .pointer (some ⟨nb, 0, none⟩)) (hw : (Lit.int .i64 z).wf = true)
    (hK : ∀ w', MapAt w' mb (n + 1) (zs ++ [z]) (fun y => if y = z then nb else bt y) → Fr (fun b => b = mb) w w' → wpList Tryf.prog ops Q rest (a.put o.dst undef) w') :
    wpList Tryf.prog ops Q (o :: rest) a w := by
  obtain ⟨D, hown, h2, h3⟩ := h
  refine wpList_mapUpdate_own w hg m x v 40 hop 3 45 lawK Tryf.underlying40 ptrElem mb n D hm hown hn _ _ (.int .i64 z) hx hv (Maps.keyOf_int_mk Tryf.underlying3 hw) _ _ (ptrElem_mk nb) ?_
  intro w' h1 hgr
  exact hK w' (MapAt.put (isMap_of hown) h2 h3 z nb h1) ((Fr.of_grown hgr).mono (fun b _ e => by cases e; rfl))
end
/-- A slice of integers made here: nil, or a whole block. -/
def IntSl (w : World) (v : Value) (zs : List Int) : Prop := (v = .slice none 0 0 ∧ zs = []) ∨ ∃ b, v = .slice (some ⟨b, 0, none⟩) zs.length zs.length ∧ IntRow w b zs
theorem IntSl.fr {X : Nat → Prop} {w w' : World} {v : Value} {zs : List Int} (h : IntSl w v zs) (hf : Fr X w w') (hx : ∀ b, IntRow w b zs → ¬ X b) : IntSl w' v zs := by
  rcases h with h | ⟨b, h1, h2⟩
  · exact Or.inl h
  · exact Or.inr ⟨b, h1, Blk.fr h2 hf (hx b h2)⟩
theorem IntSl.eval {w : World} {v : Value} {zs : List Int} (h : IntSl w v zs) : ∃ a, v = .slice a zs.length zs.length ∧ ∀ (k : Nat) (z : Int), zs[k]? = some z → ∃ b, a = some ⟨b, 0, none⟩ ∧ IntRow w b zs := by
  rcases h with ⟨rfl, rfl⟩ | ⟨b, rfl, h2⟩
  · exact ⟨none, rfl, fun k z h => by simp at h⟩
  · exact ⟨_, rfl, fun k z h => ⟨b, rfl, h2⟩⟩
theorem info45 : (Tryf.prog.info? 45).map (fun i => (i.zero, i.size, i.bytes)) = some (some (.pointer none), 1, 8) := by kernel_rfl
/-- the table under way -/
structure Made (w wr : World) (tb mb : Nat) (built : Bool) (zs : List Int) (k : Nat) (v : Value) (bt : Int → Nat) (pb : Nat → Nat) (n : Nat) : Prop where
  tbl : Blk wr tb 44 [v, .map (some mb), .map (some (mb + 1)), .map (some (mb + 2)), .slice none 0 0, .int .i64 0, .bool built, .bool false]
  map : MapAt wr mb n zs bt
  boots : ∀ x, x ∈ zs → Blk wr (bt x) 49 (bootCells x)
  own : wr.ownsRow w.heap.size 45 1 v k ((List.range k).map fun j => .pointer (some ⟨pb j, 0, none⟩))
  placed : ∀ j, j < k → Blk wr (pb j) 49 (plCells j 0)
  fr : Fr (fun _ => False) w wr
  stb : w.heap.size ≤ tb
  smb : w.heap.size ≤ mb
  sbt : ∀ x, x ∈ zs → w.heap.size ≤ bt x
  spb : ∀ j, j < k → w.heap.size ≤ pb j
theorem Made.start (w : World) (built : Bool) : Made w ((((w.alloc (.map #[] 0)).alloc (.map #[] 0)).alloc (.map #[] 0)).alloc (.cells #[.slice none 0 0, .map (some w.heap.size), .map (some (w.heap.size + 1)), .map (some (w.heap.size + 2)), .slice none 0 0, .int .i64 0, .bool built, .bool false] 44)) (w.heap.size + 3) w.heap.size built [] 0 (.slice none 0 0) (fun _ => 0) (fun _ => 0) 0 := by
  refine ⟨?_, ?_, fun x hx => (by cases hx), ⟨rfl, Or.inl ⟨rfl, rfl⟩⟩, fun j hj => (by omega), ((((Fr.refl _ _).alloc _).alloc _).alloc _).alloc _, by omega, by omega, fun x hx => (by cases hx), fun j hj => (by omega)⟩
  · have := Blk.new (((w.alloc (.map #[] 0)).alloc (.map #[] 0)).alloc (.map #[] 0)) [.slice none 0 0, .map (some w.heap.size), .map (some (w.heap.size + 1)), .map (some (w.heap.size + 2)), .slice none 0 0, .int .i64 0, .bool built, .bool false] 44
    simpa using this
  · have h0 : MapAt (w.alloc (.map #[] 0)) w.heap.size 0 [] (fun _ => 0) := ⟨_, World.ownsMap_made w Tryf.prog 3 ptrElem, fun x => by simp [Maps.has], fun x hx => by cases hx⟩
    exact ((h0.fr ((Fr.refl (fun _ => False) _).alloc _) (fun x => x)).fr ((Fr.refl (fun _ => False) _).alloc _) (fun x => x)).fr ((Fr.refl (fun _ => False) _).alloc _) (fun x => x)
theorem own_ge' {w : World} {base : Nat} {e : TypeId} {size : Nat} {v : Value} {n : Nat} {xs : List Value} (h : w.ownsRow base e size v n xs) {b : Nat} (hv : some b = v.ownBlock) : base ≤ b := by
  rcases h.2 with ⟨rfl, _⟩ | ⟨g, cap, cur, rfl, hb, hg, _⟩
  · cases hv
  · simp [Value.ownBlock] at hv
    subst hv
    exact hb
theorem Made.boot {w wr w2 : World} {tb mb k n : Nat} {built : Bool} {zs : List Int} {v : Value} {bt : Int → Nat} {pb : Nat → Nat} (h : Made w wr tb mb built zs k v bt pb n) (x : Int)
    (hm : MapAt w2 mb (n + 1) (zs ++ [x]) (fun y => if y = x then wr.heap.size else bt y)) (hf : Fr (fun b => b = mb) (wr.alloc (.cells (bootCells x).toArray 49)) w2) :
    Made w w2 tb mb built (zs ++ [x]) k v (fun y => if y = x then wr.heap.size else bt y) pb (n + 1) := by
  have ha : Fr (fun _ => False) wr (wr.alloc (.cells (bootCells x).toArray 49)) := (Fr.refl _ _).alloc _
  have k1 : ∀ {b t vs}, Blk wr b t vs → Blk w2 b t vs := fun hb => (hb.alloc _).fr hf (fun e => hb.ne_map h.map e.symm)
  have hs := h.fr.size
  refine ⟨k1 h.tbl, hm, fun y hy => ?_, own_fr (own_fr h.own ha (fun _ _ x => x)) hf (fun b hb e => own_ne_map h.own h.map (e ▸ hb)), fun j hj => k1 (h.placed j hj), (h.fr.trans ha).step hf (fun i hi e => by have := h.smb; omega), h.stb, h.smb, fun y hy => ?_, h.spb⟩
  · by_cases e : y = x
    · subst e
      rw [if_pos rfl]
      exact (Blk.new wr (bootCells y) 49).fr hf (fun e => by have := h.map.lt; omega)
    · rw [if_neg e]
      exact k1 (h.boots y (by simpa [e] using hy))
  · by_cases e : y = x
    · simp only [e, if_pos]; exact hs
    · simp only [if_neg e]; exact h.sbt y (by simpa [e] using hy)
theorem Made.place {w wr w2 : World} {tb mb k n : Nat} {built : Bool} {zs : List Int} {v : Value} {bt : Int → Nat} {pb : Nat → Nat} (h : Made w wr tb mb built zs k v bt pb n) {g cap : Nat}
    (ho : w2.ownsRow w.heap.size 45 1 (.slice (some ⟨g, 0, none⟩) (k + 1) cap) (k + 1) (((List.range k).map fun j => .pointer (some ⟨pb j, 0, none⟩)) ++ [.pointer (some ⟨wr.heap.size, 0, none⟩)]))
    (hf : Fr (fun b => some b = v.ownBlock) ((wr.alloc (.cells (plCells k 0).toArray 49)).alloc (.cells #[.pointer (some ⟨wr.heap.size, 0, none⟩)] 45)) w2) :
    Made w (w2.setCell ⟨tb, 0, none⟩ (.slice (some ⟨g, 0, none⟩) (k + 1) cap)) tb mb built zs (k + 1) (.slice (some ⟨g, 0, none⟩) (k + 1) cap) bt (fun j => if j = k then wr.heap.size else pb j) n := by
  have ha : Fr (fun _ => False) wr ((wr.alloc (.cells (plCells k 0).toArray 49)).alloc (.cells #[.pointer (some ⟨wr.heap.size, 0, none⟩)] 45)) := ((Fr.refl _ _).alloc _).alloc _
  have k1 : ∀ {b t vs}, Blk wr b t vs → t ≠ 45 → Blk w2 b t vs := fun hb ht => (hb.fr ha (fun x => x)).fr hf (own_ne h.own hb ht)
  have hs := h.fr.size
  have htb2 := k1 h.tbl (by decide)
  have k2 : ∀ {b t vs}, Blk w2 b t vs → t ≠ 44 → Blk (w2.setCell ⟨tb, 0, none⟩ (.slice (some ⟨g, 0, none⟩) (k + 1) cap)) b t vs := fun hb ht => hb.set_other (p := ⟨tb, 0, none⟩) (hb.ne htb2 ht) _
  have hset : Fr (fun b => b = tb) w2 (w2.setCell ⟨tb, 0, none⟩ (.slice (some ⟨g, 0, none⟩) (k + 1) cap)) := Fr.setCell (Fr.refl (fun b => b = tb) w2) (p := ⟨tb, 0, none⟩) (Or.inl rfl) _
  have hm2 : MapAt w2 mb n zs bt := (h.map.fr ha (fun x => x)).fr hf (own_ne_map h.own h.map)
  refine ⟨(htb2.set 0 _).eq rfl, hm2.fr hset (htb2.ne_map hm2), fun y hy => k2 (k1 (h.boots y hy) (by decide)) (by decide), ?_, fun j hj => ?_, ((h.fr.trans ha).step hf (fun i hi e => by have := own_ge' h.own e; omega)).step hset (fun i hi e => by have := h.stb; omega), h.stb, h.smb, h.sbt, fun j hj => ?_⟩
  · have := own_fr ho hset (fun b hb e => own_ne ho htb2 (by decide) (e ▸ hb))
    have e : (List.range (k + 1)).map (fun j => Value.pointer (some ⟨if j = k then wr.heap.size else pb j, 0, none⟩)) = ((List.range k).map fun j => .pointer (some ⟨pb j, 0, none⟩)) ++ [.pointer (some ⟨wr.heap.size, 0, none⟩)] := by
      rw [List.range_succ, List.map_append]
      congr 1
      · refine List.map_congr_left (fun j hj => ?_)
        have : ¬ j = k := by have := List.mem_range.1 hj; omega
        simp [this]
      · simp
    rw [e]; exact this
  · by_cases e : j = k
    · subst e
      rw [if_pos rfl]
      exact k2 (((Blk.new wr (plCells j 0) 49).alloc _).fr hf (fun e => by have := own_lt h.own e; omega)) (by decide)
    · rw [if_neg e]
      exact k2 (k1 (h.placed j (by omega)) (by decide)) (by decide)
  · by_cases e : j = k
    · simp only [e, if_pos]; exact hs
    · simp only [if_neg e]; exact h.spb j (by omega)
theorem Made.table {w wr : World} {tb mb p n : Nat} {built : Bool} {zs : List Int} {v : Value} {bt : Int → Nat} {pb : Nat → Nat} (h : Made w wr tb mb built zs p v bt pb n) :
    ∃ pcap pa v2 v3, Table wr tb mb n p pcap pa v2 v3 zs bt pb 0 built (fun _ => 0) := by
  obtain ⟨h1, h2⟩ := h.own
  rcases h2 with ⟨e, e2⟩ | ⟨g, cap, cur, rfl, hb, hg, hle, hm, hsz, htk⟩
  · subst e; subst e2
    exact ⟨0, none, .map (some (mb + 1)), .map (some (mb + 2)), h.tbl, h.map, h.boots, fun k hk => by omega, h.placed⟩
  · refine ⟨cap, some ⟨g, 0, none⟩, .map (some (mb + 1)), .map (some (mb + 2)), h.tbl, h.map, h.boots, fun k hk => ⟨g, cur.toList, rfl, ?_, ?_⟩, h.placed⟩
    · unfold Blk; simpa using hg
    · have e : (cur.toList.take (p * 1))[k]? = some (.pointer (some ⟨pb k, 0, none⟩)) := by
        rw [htk]; simp [hk]
      rw [List.getElem?_take] at e
      simpa [hk] using e
theorem run_mk (t : TypeId) (w : World) : (Instr.makeMap t none).run Tryf.prog w = .ok (.map (some w.heap.size)) (w.alloc (.map #[] 0)) := rfl
attribute [local go_sem] run_mk in
set_option maxRecDepth 100000 in
set_option maxHeartbeats 1600000 in
theorem newtable (built : Bool) (v : Value) (zs : List Int) (p : Nat) (hp : p ≤ 65536) (hz : ∀ x, x ∈ zs → (Lit.int .i64 x).wf = true) (hzl : zs.length ≤ 131072) (w : World) (hv : IntSl w v zs) :
    Calls Tryf.prog 7 #[.bool built, v, .int .i64 p] w fun e w' => ∃ tb, e = .returned (.pointer (some ⟨tb, 0, none⟩)) ∧ ∃ mb n v' bt pb, Made w w' tb mb built zs p v' bt pb n := by
  obtain ⟨a, rfl, hcell⟩ := hv.eval
  obtain ⟨i0, hi0, hz0, hz1, hz2⟩ := info_parts info45
  have hst := Made.start w built
  go_enter Tryf.func7, Tryf.ntmps7
  go_wp2_with fail
  rw [show w.heap.size + 3 = w.heap.size + 1 + 1 + 1 from rfl] at hst
  generalize w.heap.size + 1 + 1 + 1 = tb at *
  rw [show w.heap.size + 2 = w.heap.size + 1 + 1 from rfl] at hst
  generalize (((w.alloc (.map #[] 0)).alloc (.map #[] 0)).alloc (.map #[] 0)).alloc (.cells #[.slice none 0 0, .map (some w.heap.size), .map (some (w.heap.size + 1)), .map (some (w.heap.size + 1 + 1)), .slice none 0 0, .int .i64 0, .bool built, .bool false] 44) = w1 at *
  go_loopg [9, 19] zs.length (fun g s9 s19 wr => ∃ (k : Nat) (bt : Int → Nat), k ≤ zs.length ∧ g = zs.length - k ∧ s19 = .int .i64 (k : Int) ∧ Made w wr tb w.heap.size built (zs.take k) 0 (.slice none 0 0) bt (fun _ => 0) k)
  case atStart => exact ⟨0, _, Nat.zero_le _, rfl, rfl, hst⟩
  case round =>
    obtain ⟨k, bt, hk, rfl, rfl, hmd⟩ := hrel
    by_cases hlt : k < zs.length
    · have hki : ((k : Int) < (zs.length : Int)) := by omega
      have hk0 : (0 : Int) ≤ (k : Int) := by omega
      obtain ⟨z, hzk⟩ : ∃ z, zs[k]? = some z := ⟨zs[k], List.getElem?_eq_getElem hlt⟩
      obtain ⟨b, rfl, hrow⟩ := hcell k z hzk
      have cr := (Blk.fr hrow hmd.fr (fun x => x) |> fun h => IntRow.cell h hzk)
      have c1 := hmd.tbl.cell (i := 1) rfl
      have hzm : z ∈ zs := List.mem_of_getElem? hzk
      have hlt1 := hmd.tbl.lt
      have hma := hmd.map.fr ((Fr.refl (fun _ => False) wr).alloc (.cells (bootCells z).toArray 49)) (fun x => x)
      have hkl : k < maxLen := by unfold maxLen; omega
      go_wp2_with (at_mapUpdate; refine wpList_update_boot _ (by rfl) _ _ _ (by rfl) w.heap.size k (zs.take k) bt (by rfl) hma hkl z wr.heap.size (by rfl) (by rfl) (hz z hzm) ?_; intro w2 hm2 hf2)
      have hmd2 := hmd.boot z hm2 hf2
      have et : zs.take k ++ [z] = zs.take (k + 1) := by rw [List.take_add_one, hzk]; rfl
      rw [et] at hmd2
      go_roundg (zs.length - (k + 1))
      case measure => omega
      case rel => exact ⟨k + 1, _, by omega, rfl, by go_num, hmd2⟩
    · have hki : ¬ ((k : Int) < (zs.length : Int)) := by omega
      have hke : k = zs.length := by omega
      go_wp2_with fail
      rw [hke, List.take_length] at hmd
      go_loopg [10] p (fun g s10 wr => ∃ (k : Nat) (v : Value) (pb : Nat → Nat), k ≤ p ∧ g = p - k ∧ s10 = .int .i64 (k : Int) ∧ Made w wr tb w.heap.size built zs k v bt pb zs.length)
      case atStart => exact ⟨0, _, _, Nat.zero_le _, rfl, rfl, hmd⟩
      case round =>
        obtain ⟨k, v, pb, hk, rfl, rfl, hmd⟩ := hrel
        by_cases hlt : k < p
        · have hki : ((k : Int) < (p : Int)) := by omega
          have c0 := hmd.tbl.cell (i := 0) rfl
          have hlt1 := hmd.tbl.lt
          have hsz := hmd.fr.size
          have hlt2 : tb < wr.heap.size + 1 := by omega
          have hlt3 : tb < wr.heap.size + 1 + 1 := by omega
          have hown := own_fr hmd.own (((Fr.refl (fun _ => False) wr).alloc (.cells (plCells k 0).toArray 49)).alloc (.cells #[.pointer (some ⟨wr.heap.size, 0, none⟩)] 45)) (fun _ _ x => x)
          have hvo : ¬ some tb = v.ownBlock := own_ne hmd.own hmd.tbl (by decide)
          go_wp2_with (at_builtin; go_loud (refine wpList_append_lies _ (by rfl) _ _ _ (by rfl) w.heap.size 45 i0 _ 1 8 Tryf.underlying42 hi0 hz0 hz1 hz2 rfl (by omega) v k ((List.range k).map fun j => .pointer (some ⟨pb j, 0, none⟩)) (by rfl) hown ⟨wr.heap.size + 1, 0, none⟩ 1 1 [.pointer (some ⟨wr.heap.size, 0, none⟩)] (by rfl) (by rfl) (by have := cell_one_new (wr.alloc (.cells (plCells k 0).toArray 49)) (.pointer (some ⟨wr.heap.size, 0, none⟩)) 45; simpa [plCells] using this) (by simp [Value.oneCell']) (by omega) (by unfold maxLen; omega) (by omega) (by simp; omega) (wr.heap.size + 1 + 1) (by simp) ?_); intro g cap w2 hown2 hgrow hat hlt4; have htb2 := ((hmd.tbl.alloc (.cells (plCells k 0).toArray 49)).alloc (.cells #[.pointer (some ⟨wr.heap.size, 0, none⟩)] 45)).fr (Fr.of_grown hgrow) hvo; have hfz := htb2.frozen 0; have hc2 := htb2.cell (i := 0) rfl)
          have hmd2 := hmd.place hown2 (Fr.of_grown hgrow)
          go_roundg (p - (k + 1))
          case measure => omega
          case rel => exact ⟨k + 1, _, _, by omega, rfl, by go_num, hmd2⟩
        · have hki : ¬ ((k : Int) < (p : Int)) := by omega
          have hke : k = p := by omega
          subst hke
          go_wp2_with fail
          go_ret
          exact ⟨tb, rfl, _, _, _, _, _, hmd⟩

end Go.Proofs.Qxb6616573aFmt
