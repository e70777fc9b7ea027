/- Parts R3. -/
import Derived.Test.YtfkecmlmnhbmoaaGreatDoorW48
set_option linter.unusedVariables false
set_option linter.unusedSimpArgs false
set_option maxRecDepth 100000
set_option maxHeartbeats 40000000
namespace Go.Proofs.YtfkecmlmnhbmoaaGreatDoor
open Go Go.RowKit
theorem met_0 (os:Os):LaidIn Tryz.prog (witW os).memory [("math/bits.deBruijn32tab", Rows.laid_math_bits_deBruijn32tab)] [24] :=
 LaidIn.of_run _ 8 (by kernel_rfl) (by kernel_rfl) (by kernel_rfl) (by kernel_rfl)
theorem met_1 (os:Os):LaidIn Tryz.prog (witW os).memory [("math/bits.deBruijn64tab", Rows.laid_math_bits_deBruijn64tab)] [25] :=
 LaidIn.of_run _ 8 (by kernel_rfl) (by kernel_rfl) (by kernel_rfl) (by kernel_rfl)
theorem met_2 (os:Os):LaidIn Tryz.prog (witW os).memory [("internal/strconv.float32info", Rows.laid_internal_strconv_float32info)] [10] :=
 LaidIn.of_run _ 8 (by kernel_rfl) (by kernel_rfl) (by kernel_rfl) (by kernel_rfl)
theorem met_3 (os:Os):LaidIn Tryz.prog (witW os).memory [("internal/strconv.float64info", Rows.laid_internal_strconv_float64info)] [11] :=
 LaidIn.of_run _ 8 (by kernel_rfl) (by kernel_rfl) (by kernel_rfl) (by kernel_rfl)
theorem met_4 (os:Os):LaidIn Tryz.prog (witW os).memory [("internal/strconv.optimize", Rows.laid_internal_strconv_optimize)] [4] :=
 LaidIn.of_run _ 8 (by kernel_rfl) (by kernel_rfl) (by kernel_rfl) (by kernel_rfl)
theorem met_5 (os:Os):LaidIn Tryz.prog (witW os).memory [("internal/strconv.powtab", Rows.laid_internal_strconv_powtab)] [19,34] :=
 LaidIn.of_run _ 8 (by kernel_rfl) (by kernel_rfl) (by kernel_rfl) (by kernel_rfl)
theorem met_6 (os:Os):LaidIn Tryz.prog (witW os).memory [("internal/strconv.float64pow10", Rows.laid_internal_strconv_float64pow10)] [20,35] :=
 LaidIn.of_run _ 8 (by kernel_rfl) (by kernel_rfl) (by kernel_rfl) (by kernel_rfl)
theorem met_7 (os:Os):LaidIn Tryz.prog (witW os).memory [("internal/strconv.float32pow10", Rows.laid_internal_strconv_float32pow10)] [18,36] :=
 LaidIn.of_run _ 8 (by kernel_rfl) (by kernel_rfl) (by kernel_rfl) (by kernel_rfl)
theorem met_8 (os:Os):LaidIn Tryz.prog (witW os).memory [("internal/strconv.uint64pow10", Rows.laid_internal_strconv_uint64pow10)] [12] :=
 LaidIn.of_run _ 8 (by kernel_rfl) (by kernel_rfl) (by kernel_rfl) (by kernel_rfl)
theorem met_10 (os:Os):LaidIn Tryz.prog (witW os).memory [("strconv.ErrRange", Rows.laid_strconv_ErrRange)] [3,37] :=
 LaidIn.of_run _ 8 (by kernel_rfl) (by kernel_rfl) (by kernel_rfl) (by kernel_rfl)
theorem met_11 (os:Os):LaidIn Tryz.prog (witW os).memory [("strconv.ErrSyntax", Rows.laid_strconv_ErrSyntax)] [2,38] :=
 LaidIn.of_run _ 8 (by kernel_rfl) (by kernel_rfl) (by kernel_rfl) (by kernel_rfl)
theorem met_25 (os:Os):LaidIn Tryz.prog (witW os).memory [("internal/strconv.leftcheats", Go.Pinned.leftcheats)] [22,52] :=
 LaidIn.of_run _ 8 (by kernel_rfl) (by kernel_rfl) (by kernel_rfl) (by kernel_rfl)
theorem met_26 (os:Os):LaidIn Tryz.prog (witW os).memory [("internal/strconv.pow10Tab", Go.Pinned.pow10Tab)] [21]:=by
 have hh:(witW os).memory.heap[21]?=some (.cells (flatD Go.Pinned.pow10Tab).toArray 282 (0,0)):=by kernel_rfl
 have hv:(witW os).memory.var? Tryz.prog "internal/strconv.pow10Tab" = some (flatD Go.Pinned.pow10Tab).toArray:=by
  unfold World.var?;rw[show Tryz.prog.globalNamed "internal/strconv.pow10Tab" = some 21 by kernel_rfl];simp only[Option.bind_some,hh]
 have hr:DataW.trod (fun _=>()) Tryz.prog (witW os).memory 0 (fun _=>true) false 4 282 (flatD Go.Pinned.pow10Tab)=some (Go.Pinned.pow10Tab,[]):=by kernel_rfl
 refine LaidIn.one (g:=21) (t:=282) [21] (by kernel_rfl) (by kernel_rfl) hv (by simpa using hr) ?_ ?_ ?_
 ·simpa using rowP_nodup ⟨21,0,none⟩ _
 ·intro b off hp
  rw[List.append_nil]at hp;obtain⟨i,hi,e'⟩:=MemPlace.mem_row.1 hp
  cases e'
  refine⟨⟨_,_,hh⟩,fun u v hc'=>?_⟩
  exact absurd hc' (by
   have hall:((flatD Go.Pinned.pow10Tab).all fun c=>match c with | .iface _ _=>false|_=>true)=true:=by kernel_rfl
   intro hc';simp only[World.cell?,hh,Nat.zero_add]at hc';have hm:Value.iface u v∈flatD Go.Pinned.pow10Tab:=List.mem_of_getElem? (by simpa using hc');have:=List.all_eq_true.1 hall _ hm
   simp at this)
 ·intro x hx
  rw[List.append_nil]at hx;obtain⟨i,hi,e'⟩:=MemPlace.mem_row.1 hx
  cases e'
  exact List.mem_singleton.2 rfl
theorem laid_print (os:Os):laidMet Tryz.prog Rows.fnPrintRow.laid (witW os).memory :=
 LaidIn.met ((met_0 os).append ((met_1 os).append ((met_2 os).append ((met_3 os).append ((met_4 os).append ((met_5 os).append ((met_6 os).append ((met_7 os).append ((met_8 os).append ((met_10 os).append ((met_11 os).append ((met_25 os).append (met_26 os) (by decide)) (by decide)) (by decide)) (by decide)) (by decide)) (by decide)) (by decide)) (by decide)) (by decide)) (by decide)) (by decide)) (by decide))
end Go.Proofs.YtfkecmlmnhbmoaaGreatDoor
