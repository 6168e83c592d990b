/-
  The specification: TextList.
-/
import Derived.Test.YtnajekpckbfcdaaGreatDoorN6
import Derived.Test.YtnajekpckbfcdaaGreatDoorN5
import Derived.Deep.RegionHeld3
set_option linter.unusedVariables false
set_option linter.unusedSimpArgs false
namespace Go.Proofs.YtnajekpckbfcdaaGreatDoor
open Go.RowKit Go.Proofs.YtnajekpckbfcdaaGreatDoorW.PrintWords Go.Proofs.YtnajekpckbfcdaaGreatDoor.PFnParseDecs

theorem info46 : (Tryz.prog.info? 46).map (fun i => (i.zero, i.size, i.bytes)) = some (some (.agg #[.string ⟨#[]⟩, .int .i64 0, .int .i64 0]), 3, 32) := by kernel_rfl

section
variable {P : Program} (w : World)
theorem step_append_pre {ops : Array Oper} {o : Oper} {a : Act} {K : Act → World → Prop} {Q : Exit → Act → World → Prop} {E : Prop} (hgd : o.guard = none) (s x : Operand) (t : TypeId)
    (ho : o.op = .call { callee := .builtin .append, args := #[s, x], argTypes := #[t, t] })
    (base : Nat) (e : TypeId) (i : TypeInfo) (z : Value) (size bytes : Nat) (ht : P.underlying t = some (.slice e)) (hi : P.info? e = some i) (hz : i.zero = some z)
    (hsize : i.size = size) (hby : i.bytes = bytes) (hzs : z.cells.size = size)
    (g n cap : Nat) (xs : List Value) (hown : w.ownsRow base e size (.slice (some ⟨g, 0, none⟩) n cap) n xs) (k : Nat) (hk : k ≤ n) (hs : a.eval s = .slice (some ⟨g, 0, none⟩) k k)
    (ad : Addr) (c : Nat) (news : List Value) (hx : a.eval x = .slice (some ad) 1 c) (hl : news.length = 1 * size) (hnews : ∀ j u, news[j]? = some u → w.cell? (ad.add j) = some u)
    (h63 : k + 1 ≤ maxLen) (hbytes : (k + 1) * bytes ≤ 140737488355328) (hbase : base ≤ w.heap.size)
    (h : ∀ v' w', w'.ownsRow base e size v' (k + 1) (xs.take (k * size) ++ news) → w.grownBy w' none → v'.ownBlock = some w.heap.size → K (a.put o.dst v') w') :
    if Region.wanted o (yielded ops a.tmps) = true then Oper.wp P o a w K Q else E := by
  have hw : Region.wanted o (yielded ops a.tmps) = true := by simp [Region.wanted, hgd]
  rw [if_pos hw]
  obtain ⟨v', w', hr, h2, h3, h4⟩ := run_append_pre (P := P) w base t o.type e i z size bytes ht hi hz hsize hby hzs g n cap xs hown k hk ad c news hl hnews h63 hbytes hbase
  unfold Oper.wp execOp
  simp only [ho, resolve, invoke, builtin, Sem.run_bind, Sem.run_pure, Result.andThen_ok, List.map_toArray, List.map_cons, List.map_nil, hs, hx, hr]
  exact h v' w' h2 h3 h4
theorem step_append_own {ops : Array Oper} {o : Oper} {a : Act} {K : Act → World → Prop} {Q : Exit → Act → World → Prop} {E : Prop} (hgd : o.guard = none) (s x : Operand) (t : TypeId)
    (ho : o.op = .call { callee := .builtin .append, args := #[s, x], argTypes := #[t, t] })
    (base : Nat) (e : TypeId) (i : TypeInfo) (z : Value) (size bytes : Nat) (ht : P.underlying t = some (.slice e)) (hi : P.info? e = some i) (hz : i.zero = some z)
    (hsize : i.size = size) (hby : i.bytes = bytes) (hzs : z.cells.size = size) (hsz : 0 < size)
    (v : Value) (n : Nat) (xs : List Value) (hs : a.eval s = v) (hown : w.ownsRow base e size v n xs)
    (ad : Addr) (m c : Nat) (news : List Value) (hx : a.eval x = .slice (some ad) m c) (hl : news.length = m * size) (hnews : ∀ j u, news[j]? = some u → w.cell? (ad.add j) = some u) (h1 : ∀ u ∈ news, u.oneCell' = true)
    (h63 : n + m ≤ maxLen) (hbytes : (n + m) * bytes ≤ 140737488355328) (hbase : base ≤ w.heap.size)
    (h : ∀ v' w', w'.ownsRow base e size v' (n + m) (xs ++ news) → w.grownBy w' v.ownBlock → K (a.put o.dst v') w') :
    if Region.wanted o (yielded ops a.tmps) = true then Oper.wp P o a w K Q else E := by
  have hw : Region.wanted o (yielded ops a.tmps) = true := by simp [Region.wanted, hgd]
  rw [if_pos hw]
  obtain ⟨v', w', hr, h2, h3, _, _⟩ := run_append_own_at (P := P) w base t o.type e i z size bytes ht hi hz hsize hby hzs hsz v n xs hown ad m c news hl hnews h1 h63 hbytes hbase
  unfold Oper.wp execOp
  simp only [ho, resolve, invoke, builtin, Sem.run_bind, Sem.run_pure, Result.andThen_ok, List.map_toArray, List.map_cons, List.map_nil, hs, hx, hr]
  exact h v' w' h2 h3
end

theorem Upd.grown {w w' w'' : World} {row : Option Nat} (hu : Upd [] w w') (hg : w'.grownBy w'' row) (hr : ∀ k, row = some k → w.heap.size ≤ k) : Upd [] w w'' :=
  ⟨hg.os.trans hu.os, hg.tape.trans hu.tape, hg.output.trans hu.output, Nat.le_trans hu.size hg.size, fun k hk hn => (hg.block k (Nat.lt_of_lt_of_le hk hu.size) (fun e => by have := hr k e.symm; omega)).trans (hu.block k hk hn)⟩

theorem xcells_len : ∀ L : List (List UInt8 × Nat), (xcells L).length = L.length * 3
  | [] => rfl
  | c :: r => by simp [xcells, xcells_len r]; omega
theorem xcells_one : ∀ (L : List (List UInt8 × Nat)) (u : Value), u ∈ xcells L → u.oneCell' = true
  | [], u, h => by simp [xcells] at h
  | c :: r, u, h => by
    simp only [xcells, List.mem_cons] at h
    rcases h with rfl | rfl | rfl | h
    · rfl
    · rfl
    · rfl
    · exact xcells_one r u h
theorem xcells_take : ∀ (L : List (List UInt8 × Nat)) (j : Nat), xcells (L.take j) = (xcells L).take (j * 3)
  | [], j => by simp [xcells]
  | c :: r, 0 => by simp [xcells]
  | c :: r, j + 1 => by
    rw [show (j + 1) * 3 = j * 3 + 3 by omega]
    simp [xcells, xcells_take r j]
theorem xcells_drop : ∀ (L : List (List UInt8 × Nat)) (j : Nat), xcells (L.drop j) = (xcells L).drop (j * 3)
  | [], j => by simp [xcells]
  | c :: r, 0 => by simp [xcells]
  | c :: r, j + 1 => by
    rw [show (j + 1) * 3 = j * 3 + 3 by omega]
    simp [xcells, xcells_drop r j]
theorem own_at {w : World} {base n size g cap i : Nat} {e : TypeId} {xs : List Value} {u : Value} (h : w.ownsRow base e size (.slice (some ⟨g, 0, none⟩) n cap) n xs) (hi : xs[i]? = some u) : w.cell? ⟨g, i, none⟩ = some u := by
  have := h.cells (g := g) rfl i u hi
  rwa [addr_add0] at this

/-- What TextList answers. -/
def ListRes (w : World) (ps : List Part) (e : Ending) (w' : World) : Prop :=
  (((∀ p ∈ ps, p.rd ≠ none) ∧ ∃ v L, e = .returned (.tuple #[v, .bool true]) ∧ w'.ownsRow w.heap.size 46 3 v L.length (xcells L) ∧ StrictC L ∧ L.Perm (nzr (rds ps))) ∨
   (((∃ p ∈ ps, p.rd = none) ∨ ¬ Uniq (nzr (rds ps))) ∧ e = .returned (.tuple #[.slice none 0 0, .bool false]))) ∧ Upd [] w w'

set_option maxRecDepth 20000 in
set_option maxHeartbeats 8000000 in
theorem TextList_13 (xs : List S26) (A : Option Addr) (c : Nat) (w : World) (hC : Kd.C k26 w A xs.length xs) (hc : xs.length ≤ c) (h8 : xs.length ≤ 8) (hok : ∀ x ∈ xs, (toPart x).Ok) :
    Calls Tryz.prog 13 #[.slice A xs.length c] w (ListRes w (xs.map toPart)) := by
  obtain ⟨n, hn⟩ : ∃ n, xs.length = n := ⟨_, rfl⟩
  have HN := hide hn
  obtain ⟨ps, hps⟩ : ∃ ps, xs.map toPart = ps := ⟨_, rfl⟩
  have hpl : ps.length = n := by rw [← hps, List.length_map, hn]
  have HPL := hide hpl
  have hpk : ∀ (k : Nat) (h : k < xs.length) (h' : k < ps.length), ps[k] = toPart xs[k] := by intro k h h'; simp [← hps]
  have HPK := hide hpk
  rw [hps]
  rw [hn] at hC hc h8 ⊢
  obtain ⟨i0, hi, hz0, hz1, hz2⟩ := info_parts info46
  clear hn hps hpl hpk
  go_enter Tryz.func13, Tryz.ntmps13
  go_wp2_with fail
  go_loopw [4, 13] (fun v i wr => ∃ (k : Nat) (L : List (List UInt8 × Nat)), k ≤ n ∧ i = .int .i64 k ∧ Hid (∀ p ∈ ps.take k, p.rd ≠ none) ∧ wr.ownsRow w.heap.size 46 3 v L.length (xcells L) ∧ Hid (StrictC L) ∧ Hid (L.Perm (nzr (rds (ps.take k)))) ∧
    Hid (L.length = 0 → v = .slice none 0 0) ∧ Upd [] w wr) (fun _ i _ => n - (intOf i).toNat)
  case atStart => exact ⟨0, [], by omega, rfl, by show ∀ p ∈ _, _; simp, World.ownsRow_nil _ _ _ _, List.Pairwise.nil, by show List.Perm _ _; simp [rds, nzr], fun _ => rfl, Upd.refl _ _⟩
  case round =>
    obtain ⟨k, L, hk, rfl, hall, hown, hstr, hperm, hnil, hu⟩ := hrel
    have HOWN := hide hown
    clear hown
    rcases (by omega : k < n ∨ k = n) with hlt | rfl
    · have hCr := Kd.C_below hC hu.nil
      obtain ⟨ad, rfl, x0, x1, x2, x3, x4, x5, x6⟩ := at_T26 hCr (k : Int) (by omega) (by omega)
      have hkx : k < xs.length := by rw [HN.out]; exact hlt
      have hkp : k < ps.length := by rw [HPL.out]; exact hlt
      have hrd : rd_T26 xs (k : Int) = xs[k] := by unfold rd_T26; simp [hkx]
      have hmem : xs[k] ∈ xs := List.getElem_mem _
      have hokx := hok _ hmem
      have hpk := HPK.out k hkx hkp
      have HT := hide (fun w => TextRead_S26 xs[k] hokx w)
      have htk : ps.take (k + 1) = ps.take k ++ [toPart xs[k]] := by rw [List.take_succ_eq_append_getElem hkp, hpk]
      have HTK := hide htk
      have hmp : toPart xs[k] ∈ ps := by rw [← hpk]; exact List.getElem_mem _
      have HMP := hide hmp
      have HOKX := hide hokx
      rw [hrd] at x0 x1 x2 x3 x4 x5 x6
      simp only [Int.toNat_natCast] at x0 x1 x2 x3 x4 x5 x6
      clear hCr hrd hmem hpk htk hmp hokx
      generalize xs[k] = x at *
      have s1 : (k : Int) < (n : Int) := by omega
      have s2 : decide ((k : Int) < (n : Int)) = true := decide_eq_true s1
      go_upto_region 5 with (fail)
      have hT2 := Blk.new wr 26 #[.string x.f0, .string x.f1, .bool x.f2, .string x.f3, .string x.f4, .string x.f5, .string x.f6]
      have u2 := hu.alloc (.cells #[.string x.f0, .string x.f1, .bool x.f2, .string x.f3, .string x.f4, .string x.f5, .string x.f6] 26)
      have HO2 := hide (HOWN.out.alloc (.cells #[.string x.f0, .string x.f1, .bool x.f2, .string x.f3, .string x.f4, .string x.f5, .string x.f6] 26))
      clear x0 x1 x2 x3 x4 x5 x6 s1 s2 hu HOWN
      obtain ⟨Y, hY⟩ : ∃ Y, wr.heap.size = Y := ⟨_, rfl⟩
      rw [hY] at hT2 ⊢
      generalize wr.alloc (.cells #[.string x.f0, .string x.f1, .bool x.f2, .string x.f3, .string x.f4, .string x.f5, .string x.f6] 26) = w2 at *
      clear hY
      have c0 := hT2.at_ (i := 0) (v := .string x.f0) rfl
      have c1 := hT2.at_ (i := 1) (v := .string x.f1) rfl
      have c2 := hT2.at_ (i := 2) (v := .bool x.f2) rfl
      have c3 := hT2.at_ (i := 3) (v := .string x.f3) rfl
      have c4 := hT2.at_ (i := 4) (v := .string x.f4) rfl
      have c5 := hT2.at_ (i := 5) (v := .string x.f5) rfl
      have c6 := hT2.at_ (i := 6) (v := .string x.f6) rfl
      clear hT2
      go_wp2_with fail
      refine (HT.out _).mono ?_
      rintro e w3 ⟨hres, hu3⟩
      have u3 := u2.on0 hu3
      have HO3 := hide (own_grow HO2.out hu3)
      clear HT HO2 u2 hu3 c0 c1 c2 c3 c4 c5 c6
      rcases hres with ⟨d, m, hrd, rfl⟩ | ⟨hrd, d, a, b, s, rfl, hs⟩
      · obtain ⟨_, _, _, hden, hdl, hms⟩ := HOKX.out.rd_some hrd
        have hn0 : (toPart x).rd ≠ none := by rw [hrd]; simp
        have hall' : ∀ p ∈ ps.take (k + 1), p.rd ≠ none := by
          rw [HTK.out]
          intro p hp
          rcases List.mem_append.1 hp with hp | hp
          · exact hall.out p hp
          · rw [List.mem_singleton.1 hp]; exact hn0
        have HALL := hide hall'
        have hrt : rds (ps.take (k + 1)) = rds (ps.take k) ++ [(d, m)] := by rw [HTK.out, rds_append, rds_one hrd]
        have HRT := hide hrt
        have hm1 : m / 1000000000000000000 < 9223372036854775808 := by have h5 : m < 1000000000000000 * 1000000000000000000 := hms; omega
        clear hall' hrt hn0 hall hrd hms HOKX HMP
        have HAB := hide (fun (h : m / 1000000000000000000 = 0 ∧ m % 1000000000000000000 = 0) => (by omega : m = 0))
        obtain ⟨a, ha⟩ : ∃ a, m / 1000000000000000000 = a := ⟨_, rfl⟩
        obtain ⟨b, hb⟩ : ∃ b, m % 1000000000000000000 = b := ⟨_, rfl⟩
        have HX := hide (show xcells [(d, m)] = [.string (bs d), .int .i64 a, .int .i64 b] by simp [xcells, ← ha, ← hb])
        have hz : (m = 0 ∧ a = 0 ∧ b = 0) ∨ (m ≠ 0 ∧ (a ≠ 0 ∨ (a = 0 ∧ b ≠ 0))) := by omega
        rw [ha, hb] at HAB ⊢
        clear ha hb hm1
        have u4 := u3.alloc (.cells #[.string (bs d), .int .i64 a, .int .i64 b] 46)
        have hT4 := Blk.new w3 46 #[.string (bs d), .int .i64 a, .int .i64 b]
        have HO4 := hide (HO3.out.alloc (.cells #[.string (bs d), .int .i64 a, .int .i64 b] 46))
        go_upto_region 6 with (fail)
        obtain ⟨Z, hZ⟩ : ∃ Z, w3.heap.size = Z := ⟨_, rfl⟩
        rw [hZ] at hT4 ⊢
        generalize w3.alloc (.cells #[.string (bs d), .int .i64 a, .int .i64 b] 46) = w4 at *
        clear hZ HO3 u3
        have y0 := hT4.c3a
        have y1 := hT4.c3b
        have y2 := hT4.c3
        rcases hz with ⟨hm0, ha0, hb0⟩ | ⟨hm0, hab⟩
        · subst hm0 ha0 hb0
          have hpm : Hid (L.Perm (nzr (rds (ps.take (k + 1))))) := by
            show List.Perm _ _
            rw [HRT.out, nzr_append, nzr_zero, List.append_nil]; exact hperm.out
          clear HAB HX HRT
          go_wp2
          go_roundw
          case rel => exact ⟨k + 1, L, by omega, by go_num, HALL, HO4.out, hstr, hpm, hnil, u4⟩
          case measure => first | (simp [intOf]; done) | (simp [intOf]; omega)
        · have hp1 : Hid (nzr (rds (ps.take (k + 1))) = nzr (rds (ps.take k)) ++ [(d, m)]) := by
            show _ = _
            rw [HRT.out, nzr_append, nzr_one d m hm0]
          clear HAB HRT hm0
          obtain ⟨wo, rfl⟩ : ∃ wo : World, wo = wr := ⟨_, rfl⟩
          have hab2 : ((a : Int) == 0) = false ∨ (((a : Int) == 0) = true ∧ ((b : Int) == 0) = false) := by
            rcases hab with h | ⟨h, h'⟩
            · exact .inl (beq_eq_false_iff_ne.2 (by omega))
            · exact .inr ⟨by rw [h]; rfl, beq_eq_false_iff_ne.2 (by omega)⟩
          clear hab
          obtain ⟨va, vc, hve, hvc⟩ := own_slice HO4.out
          subst hve
          have hwb := u4.size
          rcases hab2 with hab | ⟨hab, hab'⟩
          all_goals (
            go_upto_region 9 with (fail)
            clear hab y0 y1 y2
            try clear hab'
            go_upto_region 10 with (fail)
            rcases Nat.eq_zero_or_pos L.length with h0 | h0)
          iterate 2 (
            focus (
              have hn0 := hnil.out h0
              have hL : L = [] := List.length_eq_zero_iff.1 h0
              injection hn0 with hva _ hvc0
              subst hva hvc0 hL
              clear hvc h0 hnil hstr
              simp only [List.length_nil] at *
              refine wp_loop_rounds 1 ?_
              rw [rounds_succ]
              go_wp2_with fail
              have t1 : decide ((0 : Int) < 0) = false := by decide
              go_quiet (fail)
              have u5 := u4.drewN nq
              have hT5 := hT4.drewN nq
              generalize w4.drewN nq = w5 at *
              clear hT4 u4 HO4
              go_upto_region 12 with (fail)
              go_quiet (fail)
              have u6 := u5.drewN nq
              have hT6 := hT5.drewN nq
              generalize w5.drewN nq = w6 at *
              clear hT5 u5 t1
              go_upto_region 14 with (fail)
              have u7 := u6.alloc (.cells #[] 46)
              have hT7 := hT6.alloc (.cells #[] 46)
              have hO7 := World.ownsRow_made (e := 46) (size := 3) (base := w.heap.size) w6 #[] 0 u6.size (by unfold maxLen; omega) rfl
              go_upto_region 15 with (first
                | (at_builtin; refine wpList_append_none _ rfl _ _ 34 rfl w.heap.size 46 i0 3 Tryz.underlying34 hi hz1 _ 0 [] rfl hO7 rfl ?_) | fail)
              generalize w6.heap.size = R at *
              generalize w6.alloc (.cells #[] 46) = w7 at *
              clear u6 hT6 hO7
              have g8 : Upd [] w7 w7.drew := (Upd.refl [] w7).drew
              have g9 := g8.alloc (.cells #[.string (bs d), .int .i64 a, .int .i64 b] 46)
              have hT8 := hT7.grow g8
              have y0 := hT8.c3a
              have y1 := hT8.c3b
              have y2 := hT8.c3
              have hT9 := hT7.grow g9
              have z0 := hT9.c3a
              have z1 := hT9.c3b
              have z2 := hT9.c3
              have hs7 := u7.size
              go_region_held3 (fun w' => w'.cell? ⟨Z, 0, none⟩ = some (.string (bs d)) ∧ w'.cell? ⟨Z, 1, none⟩ = some (.int .i64 a) ∧ w'.cell? ⟨Z, 2, none⟩ = some (.int .i64 b))
                (first | exact ⟨q0, q1, q2⟩ | exact ⟨p0, p1, p2⟩ | exact ⟨z0, z1, z2⟩ | exact ⟨y0, y1, y2⟩)
                (first
                  | (refine step_append_own _ (by rfl) _ _ 34 (by rfl) w7.heap.size 46 i0 (.agg #[.string ⟨#[]⟩, .int .i64 0, .int .i64 0]) 3 32 Tryz.underlying34 hi hz0 hz1 hz2 rfl (by decide) v1 (0 + 1) ([] ++ [.string (bs d), .int .i64 a, .int .i64 b]) (by rfl) o1 ⟨R, 0, none⟩ 0 0 [] (by rfl) (by rfl) (by simp) (by simp) (by decide) (by decide) U1.size ?_
                     intro v2 wB o2 r2
                     have U2 := U1.grown r2 (fun k hk => (World.ownsRow.lt o1 k hk).1)
                     have hTB := hT7.grow U2
                     have q0 := hTB.c3a
                     have q1 := hTB.c3b
                     have q2 := hTB.c3)
                  | (refine step_append_own _ (by rfl) _ _ 34 (by rfl) w7.heap.size 46 i0 (.agg #[.string ⟨#[]⟩, .int .i64 0, .int .i64 0]) 3 32 Tryz.underlying34 hi hz0 hz1 hz2 rfl (by decide) (.slice none 0 0) 0 [] (by rfl) (World.ownsRow_nil _ _ _ _) ⟨w7.heap.size, 0, none⟩ 1 1 [.string (bs d), .int .i64 a, .int .i64 b] (by rfl) (by rfl) (World.news_of_block (cs := #[.string (bs d), .int .i64 a, .int .i64 b]) (t := 46) (fr := (0, 0)) (heap_alloc_new w7.drew _)) (by simp [Value.oneCell']) (by decide) (by decide) g9.size ?_
                     intro v1 wA o1 r1
                     have U1 := g9.grown r1 (fun k hk => by simp [Value.ownBlock] at hk)
                     have hTA := hT7.grow U1
                     have p0 := hTA.c3a
                     have p1 := hTA.c3b
                     have p2 := hTA.c3))
              have hfin : wB.ownsRow w.heap.size 46 3 v2 [(d, m)].length (xcells [(d, m)]) := by
                rw [HX.out]
                exact own_mono o2 hs7
              have hpf : Hid ([(d, m)].Perm (nzr (rds (ps.take (k + 1))))) := by
                show List.Perm _ _
                have h := hperm.out
                rw [List.nil_perm] at h
                rw [hp1.out, h]
                exact List.Perm.refl _
              have HF := hide hfin
              have u8 := u7.on0 U2
              clear hfin o2 r2 o1 r1 U1 U2 hT7 g8 g9 hT8 hT9 hTA hTB y0 y1 y2 z0 z1 z2 p0 p1 p2 q0 q1 q2 HX hp1 hperm HTK
              go_wp2
              go_roundw
              case rel => exact ⟨k + 1, [(d, m)], by omega, by go_num, HALL, HF.out, List.pairwise_singleton _ _, hpf, fun h => by simp at h, u8⟩
              case measure => first | (simp [intOf]; done) | (simp [intOf]; omega))
            focus (
              obtain ⟨g, cap, hv, hgl, hcap, hcells⟩ := own_cells HO4.out h0
              injection hv with hv1 _ hv3
              subst hv1 hv3
              have HCL := hide hcells
              obtain ⟨q, hq⟩ : ∃ q, L.length = q := ⟨_, rfl⟩
              have HQ := hide hq
              rw [hq] at HO4 h0 hcap ⊢
              have hq8 : q ≤ 8 := by
                have h1 := hperm.out.length_eq
                have h2 : (nzr (rds (ps.take k))).length ≤ 8 := by
                  refine Nat.le_trans (List.length_filter_le _ _) (Nat.le_trans (List.length_filterMap_le _ _) ?_)
                  rw [List.length_take]; omega
                omega
              clear hcells hq hnil hvc
              go_loopw [9] (fun jv wi => ∃ j : Nat, j ≤ q ∧ jv = .int .i64 j ∧ Hid (∀ x ∈ L.take j, Op.bytesLess x.1 d = true) ∧ Hid (Upd [] w4 wi)) (fun jv _ => q - (intOf jv).toNat)
              case atStart => exact ⟨0, Nat.zero_le _, rfl, by show ∀ x ∈ _, _; simp, Upd.refl _ _⟩
              case round =>
                obtain ⟨j, hj, rfl, hless, hui⟩ := hrel
                have hT5 := hT4.grow hui.out
                have y0 := hT5.c3a
                have y1 := hT5.c3b
                have y2 := hT5.c3
                have eD := bs_toList d
                have hcs : (∃ h : j < L.length, Op.bytesLess L[j].1 d = true) ∨ (∃ h : j < L.length, Op.bytesLess L[j].1 d = false ∧ L[j].1 = d) ∨ (∃ h : j < L.length, Op.bytesLess L[j].1 d = false ∧ L[j].1 ≠ d) ∨ j = q := by
                  rcases (by omega : j < q ∨ j = q) with h | h
                  · have hjl : j < L.length := by rw [HQ.out]; exact h
                    rcases Bool.eq_false_or_eq_true (Op.bytesLess L[j].1 d) with hb | hb
                    · exact .inl ⟨hjl, hb⟩
                    · by_cases he : L[j].1 = d
                      · exact .inr (.inl ⟨hjl, hb, he⟩)
                      · exact .inr (.inr (.inl ⟨hjl, hb, he⟩))
                  · exact .inr (.inr (.inr h))
                rcases hcs with ⟨hjl, hb⟩ | ⟨hjl, hb, he⟩ | ⟨hjl, hb, he⟩ | hjq
                focus (
                  have e0 := (xcells_get L j hjl).1
                  have d0 := (hui.out.cell (p := ⟨g, j * 3, none⟩) hgl (by simp)).trans (HCL.out _ _ e0)
                  have hless' : Hid (∀ x ∈ L.take (j + 1), Op.bytesLess x.1 d = true) := by
                    show ∀ x ∈ _, _
                    rw [List.take_succ_eq_append_getElem hjl]
                    intro x hx
                    rcases List.mem_append.1 hx with hx | hx
                    · exact hless.out x hx
                    · rw [List.mem_singleton.1 hx]; exact hb
                  have hjq : j < q := by have := HQ.out; omega
                  have eL := bs_toList L[j].1
                  have s1 : (j : Int) < (q : Int) := by omega
                  have s2 : decide ((j : Int) < (q : Int)) = true := decide_eq_true s1
                  clear e0
                  generalize L[j].1 = lj at *
                  go_wp2_with fail
                  go_quiet (fail)
                  have hui2 : Hid (Upd [] w4 (_ : World)) := hui.out.drewN nq
                  clear y0 y1 y2 d0 hb eL eD
                  go_wp2
                  go_roundw
                  case rel => exact ⟨j + 1, by omega, by go_num, hless', hui2⟩
                  case measure => first | (simp [intOf]; done) | (simp [intOf]; omega))
                focus (
                  have e0 := (xcells_get L j hjl).1
                  have d0 := fun (w' : World) (hu' : Upd [] w4 w') => (hu'.cell (p := ⟨g, j * 3, none⟩) hgl (by simp)).trans (HCL.out _ _ e0)
                  have hnu : ¬ Uniq (nzr (rds ps)) := by
                    have h1 : rds ps = rds (ps.take (k + 1)) ++ rds (ps.drop (k + 1)) := by rw [← rds_append, List.take_append_drop]
                    rw [h1, nzr_append, hp1.out, List.append_assoc]
                    exact not_uniq hperm.out (List.getElem_mem hjl) he _
                  have HNU := hide hnu
                  have hjq : j < q := by have := HQ.out; omega
                  have eL := bs_toList L[j].1
                  have s1 : (j : Int) < (q : Int) := by omega
                  have s2 : decide ((j : Int) < (q : Int)) = true := decide_eq_true s1
                  have HE := hide (by rw [he] : (L[j].1 == d) = (d == d))
                  have D0 := hide d0
                  have c0 := D0.out _ hui.out
                  clear e0 hnu d0 he
                  generalize L[j].1 = lj at *
                  go_wp2_with fail
                  go_quiet (fail)
                  have hu5 := hui.out.drewN nq
                  have hT6 := hT5.drewN nq
                  have c1 := D0.out _ hu5
                  generalize wr.drewN nq = w5 at *
                  clear y0 y1 y2 c0
                  have y0 := hT6.c3a
                  have y1 := hT6.c3b
                  have y2 := hT6.c3
                  go_upto_region 12 with (fail)
                  have hbe : (lj == d) = true := by rw [HE.out]; simp
                  go_quiet (fail)
                  go_wp2
                  go_ret2
                  exact ⟨.inr ⟨.inr HNU.out, rfl⟩, u4.on0 (hu5.drewN _)⟩)
                -- a place between two coins
                focus (
                  have e0 := (xcells_get L j hjl).1
                  have d0 := fun (w' : World) (hu' : Upd [] w4 w') => (hu'.cell (p := ⟨g, j * 3, none⟩) hgl (by simp)).trans (HCL.out _ _ e0)
                  have hst2 : StrictC (L.take j ++ (d, m) :: L.drop j) := StrictC.insert hstr.out (by omega) hless.out (by
                    intro x hx
                    rw [List.getElem?_eq_getElem hjl] at hx
                    injection hx with hx
                    rw [← hx]
                    exact ⟨hb, he⟩)
                  have HST2 := hide hst2
                  have hjq : j < q := by have := HQ.out; omega
                  have eL := bs_toList L[j].1
                  have s1 : (j : Int) < (q : Int) := by omega
                  have s2 : decide ((j : Int) < (q : Int)) = true := decide_eq_true s1
                  have HE := hide he
                  have D0 := hide d0
                  have c0 := D0.out _ hui.out
                  clear e0 hst2 d0 he
                  generalize L[j].1 = lj at *
                  go_wp2_with fail
                  go_quiet (fail)
                  have hu5 := hui.out.drewN nq
                  have hT6 := hT5.drewN nq
                  have c1 := D0.out _ hu5
                  generalize wr.drewN nq = w5 at *
                  clear y0 y1 y2 c0
                  have y0 := hT6.c3a
                  have y1 := hT6.c3b
                  have y2 := hT6.c3
                  go_upto_region 12 with (fail)
                  have hbe : (lj == d) = false := beq_eq_false_iff_ne.2 HE.out
                  go_quiet (fail)
                  have hu6 := hu5.drewN nq
                  have hT7 := hT6.drewN nq
                  generalize w5.drewN nq = w6 at *
                  clear y0 y1 y2 c1 hbe eL eD hT6 hT5 hu5 hui hT4 hb
                  go_upto_region 14 with (fail)
                  have hcj : ¬ vc = j := by omega
                  have u7 : Upd [] w w6 := u4.on0 hu6
                  have u8 := u7.alloc (.cells #[] 46)
                  have hO8 := World.ownsRow_made (e := 46) (size := 3) (base := w.heap.size) w6 #[] 0 u7.size (by unfold maxLen; omega) rfl
                  have HO8 := hide (own_grow HO4.out (hu6.alloc (.cells #[] 46)))
                  have hgl6 : g < (w6.alloc (.cells #[] 46)).heap.size := Nat.lt_of_lt_of_le hgl (hu6.alloc _).size
                  have hws := u7.size
                  go_upto_region 15 with (first
                    | (at_builtin; refine wpList_append_own _ rfl _ _ 34 rfl w.heap.size 46 i0 (.agg #[.string ⟨#[]⟩, .int .i64 0, .int .i64 0]) 3 32 Tryz.underlying34 hi hz0 hz1 hz2 rfl (by decide) _ 0 [] rfl hO8 ⟨g, j * 3, none⟩ (q - j) (vc - j) ((xcells L).drop (j * 3)) rfl (by rw [List.length_drop, xcells_len, HQ.out]; omega) (by intro i u hi; rw [List.getElem?_drop] at hi; have h := own_at HO8.out hi; unfold Addr.add; split <;> simp_all) (by intro u hu; exact xcells_one L u (List.mem_of_mem_drop hu)) (by unfold maxLen; omega) (by omega) (by simp; omega) ?_) | fail)
                  intro v1 w8 o1 r1 nil1
                  try simp only [Nat.zero_add, List.nil_append] at o1
                  have hne1 : v1 ≠ .slice none 0 0 := by first | exact nil1 | (intro e; have := (nil1.1 e).1; cases this)
                  have U8 : Upd [] w6 w8 := ((Upd.refl [] w6).alloc (.cells #[] 46)).grown r1 (fun k hk => by simp [Value.ownBlock] at hk; omega)
                  obtain ⟨g2, cap2, hv1, _, hg2, _, hc2⟩ := own_some o1 hne1
                  subst hv1
                  have HC2 := hide hc2
                  have u9 := u7.on0 U8
                  have hT8 := hT7.grow U8
                  have HO9 := hide (own_grow HO4.out (hu6.on0 U8))
                  have hwx := u9.size
                  clear o1 r1 nil1 hne1 U8 hc2 hO8 HO8 hgl6 u8 u7 hT7 hu6 hws
                  have g8 : Upd [] w8 w8.drew := (Upd.refl [] w8).drew
                  have g9 := g8.alloc (.cells #[.string (bs d), .int .i64 a, .int .i64 b] 46)
                  have hTd := hT8.grow g8
                  have y0 := hTd.c3a
                  have y1 := hTd.c3b
                  have y2 := hTd.c3
                  have hT9 := hT8.grow g9
                  have z0 := hT9.c3a
                  have z1 := hT9.c3b
                  have z2 := hT9.c3
                  go_upto_region 15 with (fail)
                  have hjq2 : j ≤ q := by omega
                  have hvq : (j : Int) ≤ (vc : Int) := by omega
                  go_region_held3 (fun w' => w'.cell? ⟨Z, 0, none⟩ = some (.string (bs d)) ∧ w'.cell? ⟨Z, 1, none⟩ = some (.int .i64 a) ∧ w'.cell? ⟨Z, 2, none⟩ = some (.int .i64 b))
                    (first | exact ⟨q0, q1, q2⟩ | exact ⟨p0, p1, p2⟩ | exact ⟨z0, z1, z2⟩ | exact ⟨y0, y1, y2⟩)
                    (first
                      | (refine step_append_own _ (by rfl) _ _ 34 (by rfl) w.heap.size 46 i0 (.agg #[.string ⟨#[]⟩, .int .i64 0, .int .i64 0]) 3 32 Tryz.underlying34 hi hz0 hz1 hz2 rfl (by decide) v2 (j + 1) ((xcells L).take (j * 3) ++ [.string (bs d), .int .i64 a, .int .i64 b]) (by rfl) o2 ⟨g2, 0, none⟩ (q - j) cap2 ((xcells L).drop (j * 3)) (by rfl) (by rw [List.length_drop, xcells_len, HQ.out]; omega) (fun i u hi => by rw [addr_add0]; exact (U1.cell (p := ⟨g2, i, none⟩) hg2 (by simp)).trans (HC2.out i u hi)) (by intro u hu; exact xcells_one L u (List.mem_of_mem_drop hu)) (by unfold maxLen; omega) (by omega) (Nat.le_trans hwx U1.size) ?_
                         intro v3 wB o3 r3
                         have U2 := U1.grown r3 (fun k hk => by rw [b2] at hk; injection hk with hk; rw [← hk]; exact g9.size)
                         have hTB := hT8.grow U2
                         have q0 := hTB.c3a
                         have q1 := hTB.c3b
                         have q2 := hTB.c3)
                      | (refine step_append_pre _ (by rfl) _ _ 34 (by rfl) w.heap.size 46 i0 (.agg #[.string ⟨#[]⟩, .int .i64 0, .int .i64 0]) 3 32 Tryz.underlying34 hi hz0 hz1 hz2 rfl g q vc (xcells L) (own_grow HO9.out g9) j hjq2 (by rfl) ⟨w8.heap.size, 0, none⟩ 1 [.string (bs d), .int .i64 a, .int .i64 b] (by rfl) (by rfl) (World.news_of_block (cs := #[.string (bs d), .int .i64 a, .int .i64 b]) (t := 46) (fr := (0, 0)) (heap_alloc_new w8.drew _)) (by unfold maxLen; omega) (by omega) (Nat.le_trans hwx g9.size) ?_
                         intro v2 wA o2 r2 b2
                         have U1 := g9.grown r2 (fun k hk => by cases hk)
                         have hTA := hT8.grow U1
                         have p0 := hTA.c3a
                         have p1 := hTA.c3b
                         have p2 := hTA.c3))
                  have hLl : (L.take j ++ (d, m) :: L.drop j).length = q + 1 := by
                    rw [List.length_append, List.length_cons, List.length_take, List.length_drop, HQ.out]; omega
                  have hfin : wB.ownsRow w.heap.size 46 3 v3 (L.take j ++ (d, m) :: L.drop j).length (xcells (L.take j ++ (d, m) :: L.drop j)) := by
                    rw [hLl, xcells_append, xcells_take, show (d, m) :: L.drop j = [(d, m)] ++ L.drop j from rfl, xcells_append, xcells_drop, HX.out, ← List.append_assoc]
                    have e : j + 1 + (q - j) = q + 1 := by omega
                    have h := o3
                    rw [e] at h
                    exact h
                  have hpf : Hid ((L.take j ++ (d, m) :: L.drop j).Perm (nzr (rds (ps.take (k + 1))))) := by
                    show List.Perm _ _
                    rw [hp1.out]
                    exact (insert_perm L (d, m) j).trans (hperm.out.append_right _)
                  have HF := hide hfin
                  have HLL := hide hLl
                  have u10 := u9.on0 U2
                  clear hfin hLl o3 r3 o2 r2 b2 U1 U2 hT8 g8 g9 hTd hT9 hTA hTB y0 y1 y2 z0 z1 z2 p0 p1 p2 q0 q1 q2 HX hp1 hperm HTK hjq2 hvq
                  go_wp2
                  go_roundw
                  case rel => exact ⟨k + 1, _, by omega, by go_num, HALL, HF.out, HST2, hpf, fun h => by rw [HLL.out] at h; omega, u10⟩
                  case measure => first | (simp [intOf]; done) | (simp [intOf]; omega))
                -- behind all coins
                focus (
                  have hst2 : StrictC (L.take j ++ (d, m) :: L.drop j) := StrictC.insert hstr.out (by have := HQ.out; omega) hless.out (by
                    intro x hx
                    rw [List.getElem?_eq_none (by have := HQ.out; omega)] at hx
                    cases hx)
                  have HST2 := hide hst2
                  have s1 : ¬ (j : Int) < (q : Int) := by omega
                  have s2 : decide ((j : Int) < (q : Int)) = false := decide_eq_false s1
                  clear hst2 s1 s2
                  subst hjq
                  have s1 : ¬ (j : Int) < (j : Int) := by omega
                  have s2 : decide ((j : Int) < (j : Int)) = false := decide_eq_false s1
                  go_wp2_with fail
                  go_quiet (fail)
                  have hu5 := hui.out.drewN nq
                  have hT6 := hT5.drewN nq
                  generalize wr.drewN nq = w5 at *
                  clear y0 y1 y2
                  have y0 := hT6.c3a
                  have y1 := hT6.c3b
                  have y2 := hT6.c3
                  go_upto_region 12 with (fail)
                  go_quiet (fail)
                  have hu6 := hu5.drewN nq
                  have hT7 := hT6.drewN nq
                  generalize w5.drewN nq = w6 at *
                  clear y0 y1 y2 eD hT6 hT5 hu5 hui hT4
                  go_upto_region 14 with (fail)
                  clear s1 s2
                  rcases (by omega : j = vc ∨ ¬ vc = j) with hcj | hcj
                  focus (
                    subst hcj
                    have u7 : Upd [] w w6 := u4.on0 hu6
                    have u8 := u7.alloc (.cells #[] 46)
                    have hO8 := World.ownsRow_made (e := 46) (size := 3) (base := w.heap.size) w6 #[] 0 u7.size (by unfold maxLen; omega) rfl
                    have HO8 := hide (own_grow HO4.out (hu6.alloc (.cells #[] 46)))
                    have hgl6 : g < (w6.alloc (.cells #[] 46)).heap.size := Nat.lt_of_lt_of_le hgl (hu6.alloc _).size
                    have hws := u7.size
                    go_upto_region 15 with (first
                      | (at_builtin; refine wpList_append_own _ rfl _ _ 34 rfl w.heap.size 46 i0 (.agg #[.string ⟨#[]⟩, .int .i64 0, .int .i64 0]) 3 32 Tryz.underlying34 hi hz0 hz1 hz2 rfl (by decide) _ 0 [] rfl hO8 ⟨g, 0, none⟩ 0 0 ((xcells L).drop (j * 3)) rfl (by rw [List.length_drop, xcells_len, HQ.out]; omega) (by intro i u hi; rw [List.drop_of_length_le (by rw [xcells_len, HQ.out]; omega)] at hi; simp at hi) (by intro u hu; exact xcells_one L u (List.mem_of_mem_drop hu)) (by unfold maxLen; omega) (by omega) (by simp; omega) ?_) | fail)
                    intro v1 w8 o1 r1 nil1
                    try simp only [Nat.zero_add, List.nil_append] at o1
                    have hne1 : v1 ≠ .slice none 0 0 := by first | exact nil1 | (intro e; have := (nil1.1 e).1; cases this)
                    have U8 : Upd [] w6 w8 := ((Upd.refl [] w6).alloc (.cells #[] 46)).grown r1 (fun k hk => by simp [Value.ownBlock] at hk; omega)
                    obtain ⟨g2, cap2, hv1, _, hg2, _, hc2⟩ := own_some o1 hne1
                    subst hv1
                    have HC2 := hide hc2
                    have u9 := u7.on0 U8
                    have hT8 := hT7.grow U8
                    have HO9 := hide (own_grow HO4.out (hu6.on0 U8))
                    have hwx := u9.size
                    clear o1 r1 nil1 hne1 U8 hc2 hO8 HO8 hgl6 u8 u7 hT7 hu6 hws
                    have g8 : Upd [] w8 w8.drew := (Upd.refl [] w8).drew
                    have g9 := g8.alloc (.cells #[.string (bs d), .int .i64 a, .int .i64 b] 46)
                    have hTd := hT8.grow g8
                    have y0 := hTd.c3a
                    have y1 := hTd.c3b
                    have y2 := hTd.c3
                    have hT9 := hT8.grow g9
                    have z0 := hT9.c3a
                    have z1 := hT9.c3b
                    have z2 := hT9.c3
                    go_upto_region 15 with (fail)
                    have hjq2 : j ≤ j := by omega
                    have hvq : (j : Int) ≤ (j : Int) := by omega
                    go_region_held3 (fun w' => w'.cell? ⟨Z, 0, none⟩ = some (.string (bs d)) ∧ w'.cell? ⟨Z, 1, none⟩ = some (.int .i64 a) ∧ w'.cell? ⟨Z, 2, none⟩ = some (.int .i64 b))
                      (first | exact ⟨q0, q1, q2⟩ | exact ⟨p0, p1, p2⟩ | exact ⟨z0, z1, z2⟩ | exact ⟨y0, y1, y2⟩)
                      (first
                        | (refine step_append_own _ (by rfl) _ _ 34 (by rfl) w.heap.size 46 i0 (.agg #[.string ⟨#[]⟩, .int .i64 0, .int .i64 0]) 3 32 Tryz.underlying34 hi hz0 hz1 hz2 rfl (by decide) v2 (j + 1) ((xcells L).take (j * 3) ++ [.string (bs d), .int .i64 a, .int .i64 b]) (by rfl) o2 ⟨g2, 0, none⟩ 0 cap2 ((xcells L).drop (j * 3)) (by rfl) (by rw [List.length_drop, xcells_len, HQ.out]; omega) (fun i u hi => by rw [addr_add0]; exact (U1.cell (p := ⟨g2, i, none⟩) hg2 (by simp)).trans (HC2.out i u hi)) (by intro u hu; exact xcells_one L u (List.mem_of_mem_drop hu)) (by unfold maxLen; omega) (by omega) (Nat.le_trans hwx U1.size) ?_
                           intro v3 wB o3 r3
                           have U2 := U1.grown r3 (fun k hk => by rw [b2] at hk; injection hk with hk; rw [← hk]; exact g9.size)
                           have hTB := hT8.grow U2
                           have q0 := hTB.c3a
                           have q1 := hTB.c3b
                           have q2 := hTB.c3)
                        | (refine step_append_pre _ (by rfl) _ _ 34 (by rfl) w.heap.size 46 i0 (.agg #[.string ⟨#[]⟩, .int .i64 0, .int .i64 0]) 3 32 Tryz.underlying34 hi hz0 hz1 hz2 rfl g j j (xcells L) (own_grow HO9.out g9) j hjq2 (by rfl) ⟨w8.heap.size, 0, none⟩ 1 [.string (bs d), .int .i64 a, .int .i64 b] (by rfl) (by rfl) (World.news_of_block (cs := #[.string (bs d), .int .i64 a, .int .i64 b]) (t := 46) (fr := (0, 0)) (heap_alloc_new w8.drew _)) (by unfold maxLen; omega) (by omega) (Nat.le_trans hwx g9.size) ?_
                           intro v2 wA o2 r2 b2
                           have U1 := g9.grown r2 (fun k hk => by cases hk)
                           have hTA := hT8.grow U1
                           have p0 := hTA.c3a
                           have p1 := hTA.c3b
                           have p2 := hTA.c3))
                    have hLl : (L.take j ++ (d, m) :: L.drop j).length = j + 1 := by
                      rw [List.length_append, List.length_cons, List.length_take, List.length_drop, HQ.out]; omega
                    have hfin : wB.ownsRow w.heap.size 46 3 v3 (L.take j ++ (d, m) :: L.drop j).length (xcells (L.take j ++ (d, m) :: L.drop j)) := by
                      rw [hLl, xcells_append, xcells_take, show (d, m) :: L.drop j = [(d, m)] ++ L.drop j from rfl, xcells_append, xcells_drop, HX.out, ← List.append_assoc]
                      have e : j + 1 + 0 = j + 1 := by omega
                      have h := o3
                      rw [e] at h
                      exact h
                    have hpf : Hid ((L.take j ++ (d, m) :: L.drop j).Perm (nzr (rds (ps.take (k + 1))))) := by
                      show List.Perm _ _
                      rw [hp1.out]
                      exact (insert_perm L (d, m) j).trans (hperm.out.append_right _)
                    have HF := hide hfin
                    have HLL := hide hLl
                    have u10 := u9.on0 U2
                    clear hfin hLl o3 r3 o2 r2 b2 U1 U2 hT8 g8 g9 hTd hT9 hTA hTB y0 y1 y2 z0 z1 z2 p0 p1 p2 q0 q1 q2 HX hp1 hperm HTK hjq2 hvq
                    go_wp2
                    go_roundw
                    case rel => exact ⟨k + 1, _, by omega, by go_num, HALL, HF.out, HST2, hpf, fun h => by rw [HLL.out] at h; omega, u10⟩
                    case measure => first | (simp [intOf]; done) | (simp [intOf]; omega))
                  focus (
                    have u7 : Upd [] w w6 := u4.on0 hu6
                    have u8 := u7.alloc (.cells #[] 46)
                    have hO8 := World.ownsRow_made (e := 46) (size := 3) (base := w.heap.size) w6 #[] 0 u7.size (by unfold maxLen; omega) rfl
                    have HO8 := hide (own_grow HO4.out (hu6.alloc (.cells #[] 46)))
                    have hgl6 : g < (w6.alloc (.cells #[] 46)).heap.size := Nat.lt_of_lt_of_le hgl (hu6.alloc _).size
                    have hws := u7.size
                    go_upto_region 15 with (first
                      | (at_builtin; refine wpList_append_own _ rfl _ _ 34 rfl w.heap.size 46 i0 (.agg #[.string ⟨#[]⟩, .int .i64 0, .int .i64 0]) 3 32 Tryz.underlying34 hi hz0 hz1 hz2 rfl (by decide) _ 0 [] rfl hO8 ⟨g, j * 3, none⟩ 0 (vc - j) ((xcells L).drop (j * 3)) rfl (by rw [List.length_drop, xcells_len, HQ.out]; omega) (by intro i u hi; rw [List.drop_of_length_le (by rw [xcells_len, HQ.out]; omega)] at hi; simp at hi) (by intro u hu; exact xcells_one L u (List.mem_of_mem_drop hu)) (by unfold maxLen; omega) (by omega) (by simp; omega) ?_) | fail)
                    intro v1 w8 o1 r1 nil1
                    try simp only [Nat.zero_add, List.nil_append] at o1
                    have hne1 : v1 ≠ .slice none 0 0 := by first | exact nil1 | (intro e; have := (nil1.1 e).1; cases this)
                    have U8 : Upd [] w6 w8 := ((Upd.refl [] w6).alloc (.cells #[] 46)).grown r1 (fun k hk => by simp [Value.ownBlock] at hk; omega)
                    obtain ⟨g2, cap2, hv1, _, hg2, _, hc2⟩ := own_some o1 hne1
                    subst hv1
                    have HC2 := hide hc2
                    have u9 := u7.on0 U8
                    have hT8 := hT7.grow U8
                    have HO9 := hide (own_grow HO4.out (hu6.on0 U8))
                    have hwx := u9.size
                    clear o1 r1 nil1 hne1 U8 hc2 hO8 HO8 hgl6 u8 u7 hT7 hu6 hws
                    have g8 : Upd [] w8 w8.drew := (Upd.refl [] w8).drew
                    have g9 := g8.alloc (.cells #[.string (bs d), .int .i64 a, .int .i64 b] 46)
                    have hTd := hT8.grow g8
                    have y0 := hTd.c3a
                    have y1 := hTd.c3b
                    have y2 := hTd.c3
                    have hT9 := hT8.grow g9
                    have z0 := hT9.c3a
                    have z1 := hT9.c3b
                    have z2 := hT9.c3
                    go_upto_region 15 with (fail)
                    have hjq2 : j ≤ j := by omega
                    have hvq : (j : Int) ≤ (vc : Int) := by omega
                    go_region_held3 (fun w' => w'.cell? ⟨Z, 0, none⟩ = some (.string (bs d)) ∧ w'.cell? ⟨Z, 1, none⟩ = some (.int .i64 a) ∧ w'.cell? ⟨Z, 2, none⟩ = some (.int .i64 b))
                      (first | exact ⟨q0, q1, q2⟩ | exact ⟨p0, p1, p2⟩ | exact ⟨z0, z1, z2⟩ | exact ⟨y0, y1, y2⟩)
                      (first
                        | (refine step_append_own _ (by rfl) _ _ 34 (by rfl) w.heap.size 46 i0 (.agg #[.string ⟨#[]⟩, .int .i64 0, .int .i64 0]) 3 32 Tryz.underlying34 hi hz0 hz1 hz2 rfl (by decide) v2 (j + 1) ((xcells L).take (j * 3) ++ [.string (bs d), .int .i64 a, .int .i64 b]) (by rfl) o2 ⟨g2, 0, none⟩ 0 cap2 ((xcells L).drop (j * 3)) (by rfl) (by rw [List.length_drop, xcells_len, HQ.out]; omega) (fun i u hi => by rw [addr_add0]; exact (U1.cell (p := ⟨g2, i, none⟩) hg2 (by simp)).trans (HC2.out i u hi)) (by intro u hu; exact xcells_one L u (List.mem_of_mem_drop hu)) (by unfold maxLen; omega) (by omega) (Nat.le_trans hwx U1.size) ?_
                           intro v3 wB o3 r3
                           have U2 := U1.grown r3 (fun k hk => by rw [b2] at hk; injection hk with hk; rw [← hk]; exact g9.size)
                           have hTB := hT8.grow U2
                           have q0 := hTB.c3a
                           have q1 := hTB.c3b
                           have q2 := hTB.c3)
                        | (refine step_append_pre _ (by rfl) _ _ 34 (by rfl) w.heap.size 46 i0 (.agg #[.string ⟨#[]⟩, .int .i64 0, .int .i64 0]) 3 32 Tryz.underlying34 hi hz0 hz1 hz2 rfl g j vc (xcells L) (own_grow HO9.out g9) j hjq2 (by rfl) ⟨w8.heap.size, 0, none⟩ 1 [.string (bs d), .int .i64 a, .int .i64 b] (by rfl) (by rfl) (World.news_of_block (cs := #[.string (bs d), .int .i64 a, .int .i64 b]) (t := 46) (fr := (0, 0)) (heap_alloc_new w8.drew _)) (by unfold maxLen; omega) (by omega) (Nat.le_trans hwx g9.size) ?_
                           intro v2 wA o2 r2 b2
                           have U1 := g9.grown r2 (fun k hk => by cases hk)
                           have hTA := hT8.grow U1
                           have p0 := hTA.c3a
                           have p1 := hTA.c3b
                           have p2 := hTA.c3))
                    have hLl : (L.take j ++ (d, m) :: L.drop j).length = j + 1 := by
                      rw [List.length_append, List.length_cons, List.length_take, List.length_drop, HQ.out]; omega
                    have hfin : wB.ownsRow w.heap.size 46 3 v3 (L.take j ++ (d, m) :: L.drop j).length (xcells (L.take j ++ (d, m) :: L.drop j)) := by
                      rw [hLl, xcells_append, xcells_take, show (d, m) :: L.drop j = [(d, m)] ++ L.drop j from rfl, xcells_append, xcells_drop, HX.out, ← List.append_assoc]
                      have e : j + 1 + 0 = j + 1 := by omega
                      have h := o3
                      rw [e] at h
                      exact h
                    have hpf : Hid ((L.take j ++ (d, m) :: L.drop j).Perm (nzr (rds (ps.take (k + 1))))) := by
                      show List.Perm _ _
                      rw [hp1.out]
                      exact (insert_perm L (d, m) j).trans (hperm.out.append_right _)
                    have HF := hide hfin
                    have HLL := hide hLl
                    have u10 := u9.on0 U2
                    clear hfin hLl o3 r3 o2 r2 b2 U1 U2 hT8 g8 g9 hTd hT9 hTA hTB y0 y1 y2 z0 z1 z2 p0 p1 p2 q0 q1 q2 HX hp1 hperm HTK hjq2 hvq
                    go_wp2
                    go_roundw
                    case rel => exact ⟨k + 1, _, by omega, by go_num, HALL, HF.out, HST2, hpf, fun h => by rw [HLL.out] at h; omega, u10⟩
                    case measure => first | (simp [intOf]; done) | (simp [intOf]; omega)))
                ))
      · have HNO := hide (⟨toPart x, HMP.out, hrd⟩ : ∃ p ∈ ps, p.rd = none)
        obtain ⟨e1, e2, e3⟩ := str_ne hs
        clear HMP HOKX hrd hs hall HTK HO3 hstr hperm hnil
        go_wp2
        go_ret2
        exact ⟨.inr ⟨.inl HNO.out, rfl⟩, u3.alloc _⟩
    · have s1 : ¬ (k : Int) < (k : Int) := by omega
      have htk : ps.take k = ps := List.take_of_length_le (by have := HPL.out; omega)
      rw [htk] at hall hperm
      clear htk
      go_wp2
      go_ret2
      exact ⟨.inl ⟨hall.out, _, L, rfl, HOWN.out, hstr.out, hperm.out⟩, hu⟩

end Go.Proofs.YtnajekpckbfcdaaGreatDoor
